import JvmDerived
import JvmDerived.Pilot.@@N@@Statement
import JvmDerived.Pilot.@@N@@Code
set_option linter.unusedVariables false
set_option linter.unusedSimpArgs false
namespace Jvm.Pilot.@@N@@
open Jvm Jvm.ClassFile Sem Op Lib Jvm.Free Jvm.Stand Jvm.LawKit Jvm.RoadKit Bundle Jvm.Pilot.@@N@@.Jvm.D
/-! ## the shared layer: own_Go and its laws -/
def Go (p : Program) (e : Env) (below : List Frame) (P : State → Outcome → Prop) (T : State) (g : JFrame) : Prop := ∃ t o, Steps p.tables e below (T.setTop g) t ∧ t.status = .running ∧ Ended t below o ∧ P t o
def RP (s : State) (k n : Nat) (Q : Option Value → Heap → List Loc → Prop) (t : State) (o : Outcome) : Prop := ∃ v L, o = .returned v ∧ Q v t.heap L ∧ FrameEnd s o t L k n
theorem wd {a0 : Array Value} {Z : State} (hw : ∀ d ∈ tables_1, d.before a0 Z = true) (k : Nat) {d : Jvm.Cond} (h : tables_1[k]? = some d) : d.before a0 Z = true := hw _ (List.mem_of_getElem? h)
section OwnGo
variable {p : Program} {l : Launch} {e : Env} {R : Room} {s : State} {m : MethodId} {args : Array Value} {below : List Frame} {meth : Method} {c : Code} {T : State} {locs : List Loc} {cells slots : Nat} {P : State → Outcome → Prop} {pc : Nat} {Ls : Array Slot} {st : List Value} {Z : State} {a0 : Array Value} {h : Heap}
theorem Go.stp {T' : State} {g g' : JFrame} (G : Go p e below P T' g') (k : ∀ t, Steps p.tables e below (T'.setTop g') t → Steps p.tables e below (T.setTop g) t) : Go p e below P T g := by
  obtain ⟨t, o, h, r⟩ := G
  exact ⟨t, o, k t h, r⟩
theorem Go.cast {g g' : JFrame} (q : g = g') (G : Go p e below P T g') : Go p e below P T g := q ▸ G
theorem g_iload (X : Stand p l e R s m args below meth c T locs cells slots) (hx : p.tables.exec = Jvm.exec) {k : Nat} {v : Int32} (hl : Ls[k]? = some (.val (.int v))) (hd : decode c.code pc = .ok (.iload k, 2)) (pc' : Nat) (hp : pc + 2 = pc') (G : Go p e below P T (mkF m pc' Ls (.int v :: st))) : Go p e below P T (mkF m pc Ls st) := by
  subst hp
  exact G.stp fun _ h => XS.iload X.here hx rfl hd hl h
theorem g_iloadN (X : Stand p l e R s m args below meth c T locs cells slots) (hx : p.tables.exec = Jvm.exec) {k : Fin 4} {v : Int32} (hl : Ls[k.val]? = some (.val (.int v))) (hd : decode c.code pc = .ok (.iload_n k, 1)) (pc' : Nat) (hp : pc + 1 = pc') (G : Go p e below P T (mkF m pc' Ls (.int v :: st))) : Go p e below P T (mkF m pc Ls st) := by
  subst hp
  exact G.stp fun _ h => XS.iloadN X.here hx rfl hd hl h
theorem g_istore (X : Stand p l e R s m args below meth c T locs cells slots) (hx : p.tables.exec = Jvm.exec) {k : Nat} {v : Int32} (l' : Array Slot) (hl : storeLocals Ls k (.int v) = some l') (hd : decode c.code pc = .ok (.istore k, 2)) (pc' : Nat) (hp : pc + 2 = pc') (G : Go p e below P T (mkF m pc' l' st)) : Go p e below P T (mkF m pc Ls (.int v :: st)) := by
  subst hp
  exact G.stp fun _ h => XS.istore X.here hx rfl hd rfl hl h
theorem g_istoreN (X : Stand p l e R s m args below meth c T locs cells slots) (hx : p.tables.exec = Jvm.exec) {k : Fin 4} {v : Int32} (l' : Array Slot) (hl : storeLocals Ls k.val (.int v) = some l') (hd : decode c.code pc = .ok (.istore_n k, 1)) (pc' : Nat) (hp : pc + 1 = pc') (G : Go p e below P T (mkF m pc' l' st)) : Go p e below P T (mkF m pc Ls (.int v :: st)) := by
  subst hp
  exact G.stp fun _ h => XS.istoreN X.here hx rfl hd rfl hl h
theorem g_lload (X : Stand p l e R s m args below meth c T locs cells slots) (hx : p.tables.exec = Jvm.exec) {k : Nat} {v : Int64} (hl : Ls[k]? = some (.val (.long v))) (hd : decode c.code pc = .ok (.lload k, 2)) (pc' : Nat) (hp : pc + 2 = pc') (G : Go p e below P T (mkF m pc' Ls (.long v :: st))) : Go p e below P T (mkF m pc Ls st) := by
  subst hp
  exact G.stp fun _ h => XT.lload X.here hx rfl hd hl h
theorem g_lloadN (X : Stand p l e R s m args below meth c T locs cells slots) (hx : p.tables.exec = Jvm.exec) {k : Fin 4} {v : Int64} (hl : Ls[k.val]? = some (.val (.long v))) (hd : decode c.code pc = .ok (.lload_n k, 1)) (pc' : Nat) (hp : pc + 1 = pc') (G : Go p e below P T (mkF m pc' Ls (.long v :: st))) : Go p e below P T (mkF m pc Ls st) := by
  subst hp
  exact G.stp fun _ h => XT.lloadN X.here hx rfl hd hl h
theorem g_lstore (X : Stand p l e R s m args below meth c T locs cells slots) (hx : p.tables.exec = Jvm.exec) {k : Nat} {v : Int64} (l' : Array Slot) (hl : storeLocals Ls k (.long v) = some l') (hd : decode c.code pc = .ok (.lstore k, 2)) (pc' : Nat) (hp : pc + 2 = pc') (G : Go p e below P T (mkF m pc' l' st)) : Go p e below P T (mkF m pc Ls (.long v :: st)) := by
  subst hp
  exact G.stp fun _ h => XT.lstore X.here hx rfl hd rfl hl h
theorem g_lstoreN (X : Stand p l e R s m args below meth c T locs cells slots) (hx : p.tables.exec = Jvm.exec) {k : Fin 4} {v : Int64} (l' : Array Slot) (hl : storeLocals Ls k.val (.long v) = some l') (hd : decode c.code pc = .ok (.lstore_n k, 1)) (pc' : Nat) (hp : pc + 1 = pc') (G : Go p e below P T (mkF m pc' l' st)) : Go p e below P T (mkF m pc Ls (.long v :: st)) := by
  subst hp
  exact G.stp fun _ h => XT.lstoreN X.here hx rfl hd rfl hl h
theorem g_aload (X : Stand p l e R s m args below meth c T locs cells slots) (hx : p.tables.exec = Jvm.exec) {k : Nat} {v : Value} (hl : Ls[k]? = some (.val v)) (hv : v.isRef = true) (hd : decode c.code pc = .ok (.aload k, 2)) (pc' : Nat) (hp : pc + 2 = pc') (G : Go p e below P T (mkF m pc' Ls (v :: st))) : Go p e below P T (mkF m pc Ls st) := by
  subst hp
  exact G.stp fun _ h => XS.aload X.here hx rfl hd hl hv h
theorem g_aloadN (X : Stand p l e R s m args below meth c T locs cells slots) (hx : p.tables.exec = Jvm.exec) {k : Fin 4} {v : Value} (hl : Ls[k.val]? = some (.val v)) (hv : v.isRef = true) (hd : decode c.code pc = .ok (.aload_n k, 1)) (pc' : Nat) (hp : pc + 1 = pc') (G : Go p e below P T (mkF m pc' Ls (v :: st))) : Go p e below P T (mkF m pc Ls st) := by
  subst hp
  exact G.stp fun _ h => XS.aloadN X.here hx rfl hd hl hv h
theorem g_astore (X : Stand p l e R s m args below meth c T locs cells slots) (hx : p.tables.exec = Jvm.exec) {k : Nat} {v : Value} (l' : Array Slot) (hv : v.isRef = true) (hl : storeLocals Ls k v = some l') (hd : decode c.code pc = .ok (.astore k, 2)) (pc' : Nat) (hp : pc + 2 = pc') (G : Go p e below P T (mkF m pc' l' st)) : Go p e below P T (mkF m pc Ls (v :: st)) := by
  subst hp
  exact G.stp fun _ h => XS.astore X.here hx rfl hd rfl hv hl h
theorem g_astoreN (X : Stand p l e R s m args below meth c T locs cells slots) (hx : p.tables.exec = Jvm.exec) {k : Fin 4} {v : Value} (l' : Array Slot) (hv : v.isRef = true) (hl : storeLocals Ls k.val v = some l') (hd : decode c.code pc = .ok (.astore_n k, 1)) (pc' : Nat) (hp : pc + 1 = pc') (G : Go p e below P T (mkF m pc' l' st)) : Go p e below P T (mkF m pc Ls (v :: st)) := by
  subst hp
  exact G.stp fun _ h => XS.astoreN X.here hx rfl hd rfl hv hl h
theorem g_iconst (X : Stand p l e R s m args below meth c T locs cells slots) (hx : p.tables.exec = Jvm.exec) {i : Int} (v : Int32) (hv : Int32.ofInt i = v) (hd : decode c.code pc = .ok (.iconst i, 1)) (pc' : Nat) (hp : pc + 1 = pc') (G : Go p e below P T (mkF m pc' Ls (.int v :: st))) : Go p e below P T (mkF m pc Ls st) := by
  subst hp
  exact G.stp fun _ h => XT.iconstV X.here hx rfl v hd hv h
theorem g_bipush (X : Stand p l e R s m args below meth c T locs cells slots) (hx : p.tables.exec = Jvm.exec) {i : Int} (v : Int32) (hv : (Int8.ofInt i).toInt32 = v) (hd : decode c.code pc = .ok (.bipush i, 2)) (pc' : Nat) (hp : pc + 2 = pc') (G : Go p e below P T (mkF m pc' Ls (.int v :: st))) : Go p e below P T (mkF m pc Ls st) := by
  subst hp
  exact G.stp fun _ h => XT.bipushV X.here hx rfl v hd hv h
theorem g_sipush (X : Stand p l e R s m args below meth c T locs cells slots) (hx : p.tables.exec = Jvm.exec) {i : Int} (v : Int32) (hv : (Int16.ofInt i).toInt32 = v) (hd : decode c.code pc = .ok (.sipush i, 3)) (pc' : Nat) (hp : pc + 3 = pc') (G : Go p e below P T (mkF m pc' Ls (.int v :: st))) : Go p e below P T (mkF m pc Ls st) := by
  subst hp
  exact G.stp fun _ h => XT.sipushV X.here hx rfl v hd hv h
theorem g_lconst (X : Stand p l e R s m args below meth c T locs cells slots) (hx : p.tables.exec = Jvm.exec) {i : Fin 2} (v : Int64) (hv : Int64.ofNat i = v) (hd : decode c.code pc = .ok (.lconst i, 1)) (pc' : Nat) (hp : pc + 1 = pc') (G : Go p e below P T (mkF m pc' Ls (.long v :: st))) : Go p e below P T (mkF m pc Ls st) := by
  subst hp
  exact G.stp fun _ h => XT.lconstV X.here hx rfl v hd hv h
theorem g_aconst_null (X : Stand p l e R s m args below meth c T locs cells slots) (hx : p.tables.exec = Jvm.exec)  (hd : decode c.code pc = .ok (.aconst_null, 1)) (pc' : Nat) (hp : pc + 1 = pc') (G : Go p e below P T (mkF m pc' Ls (.null :: st))) : Go p e below P T (mkF m pc Ls st) := by
  subst hp
  exact G.stp fun _ h => XS.aconstNull X.here hx rfl hd h
theorem g_iadd (X : Stand p l e R s m args below meth c T locs cells slots) (hx : p.tables.exec = Jvm.exec) {x y : Int32} (hd : decode c.code pc = .ok (.iadd, 1)) (pc' : Nat) (hp : pc + 1 = pc') (G : Go p e below P T (mkF m pc' Ls (.int (x + y) :: st))) : Go p e below P T (mkF m pc Ls (.int y :: .int x :: st)) := by
  subst hp
  exact G.stp fun _ h => XS.iadd X.here hx rfl hd rfl h
theorem g_ladd (X : Stand p l e R s m args below meth c T locs cells slots) (hx : p.tables.exec = Jvm.exec) {x y : Int64} (hd : decode c.code pc = .ok (.ladd, 1)) (pc' : Nat) (hp : pc + 1 = pc') (G : Go p e below P T (mkF m pc' Ls (.long (x + y) :: st))) : Go p e below P T (mkF m pc Ls (.long y :: .long x :: st)) := by
  subst hp
  exact G.stp fun _ h => XT.ladd X.here hx rfl hd rfl h
theorem g_isub (X : Stand p l e R s m args below meth c T locs cells slots) (hx : p.tables.exec = Jvm.exec) {x y : Int32} (hd : decode c.code pc = .ok (.isub, 1)) (pc' : Nat) (hp : pc + 1 = pc') (G : Go p e below P T (mkF m pc' Ls (.int (x - y) :: st))) : Go p e below P T (mkF m pc Ls (.int y :: .int x :: st)) := by
  subst hp
  exact G.stp fun _ h => XS.isub X.here hx rfl hd rfl h
theorem g_lsub (X : Stand p l e R s m args below meth c T locs cells slots) (hx : p.tables.exec = Jvm.exec) {x y : Int64} (hd : decode c.code pc = .ok (.lsub, 1)) (pc' : Nat) (hp : pc + 1 = pc') (G : Go p e below P T (mkF m pc' Ls (.long (x - y) :: st))) : Go p e below P T (mkF m pc Ls (.long y :: .long x :: st)) := by
  subst hp
  exact G.stp fun _ h => XT.lsub X.here hx rfl hd rfl h
theorem g_imul (X : Stand p l e R s m args below meth c T locs cells slots) (hx : p.tables.exec = Jvm.exec) {x y : Int32} (hd : decode c.code pc = .ok (.imul, 1)) (pc' : Nat) (hp : pc + 1 = pc') (G : Go p e below P T (mkF m pc' Ls (.int (x * y) :: st))) : Go p e below P T (mkF m pc Ls (.int y :: .int x :: st)) := by
  subst hp
  exact G.stp fun _ h => XS.imul X.here hx rfl hd rfl h
theorem g_lmul (X : Stand p l e R s m args below meth c T locs cells slots) (hx : p.tables.exec = Jvm.exec) {x y : Int64} (hd : decode c.code pc = .ok (.lmul, 1)) (pc' : Nat) (hp : pc + 1 = pc') (G : Go p e below P T (mkF m pc' Ls (.long (x * y) :: st))) : Go p e below P T (mkF m pc Ls (.long y :: .long x :: st)) := by
  subst hp
  exact G.stp fun _ h => XT.lmul X.here hx rfl hd rfl h
theorem g_iand (X : Stand p l e R s m args below meth c T locs cells slots) (hx : p.tables.exec = Jvm.exec) {x y : Int32} (hd : decode c.code pc = .ok (.iand, 1)) (pc' : Nat) (hp : pc + 1 = pc') (G : Go p e below P T (mkF m pc' Ls (.int (x &&& y) :: st))) : Go p e below P T (mkF m pc Ls (.int y :: .int x :: st)) := by
  subst hp
  exact G.stp fun _ h => XS.iand X.here hx rfl hd rfl h
theorem g_land (X : Stand p l e R s m args below meth c T locs cells slots) (hx : p.tables.exec = Jvm.exec) {x y : Int64} (hd : decode c.code pc = .ok (.land, 1)) (pc' : Nat) (hp : pc + 1 = pc') (G : Go p e below P T (mkF m pc' Ls (.long (x &&& y) :: st))) : Go p e below P T (mkF m pc Ls (.long y :: .long x :: st)) := by
  subst hp
  exact G.stp fun _ h => XT.land X.here hx rfl hd rfl h
theorem g_ior (X : Stand p l e R s m args below meth c T locs cells slots) (hx : p.tables.exec = Jvm.exec) {x y : Int32} (hd : decode c.code pc = .ok (.ior, 1)) (pc' : Nat) (hp : pc + 1 = pc') (G : Go p e below P T (mkF m pc' Ls (.int (x ||| y) :: st))) : Go p e below P T (mkF m pc Ls (.int y :: .int x :: st)) := by
  subst hp
  exact G.stp fun _ h => XT.ior X.here hx rfl hd rfl h
theorem g_lor (X : Stand p l e R s m args below meth c T locs cells slots) (hx : p.tables.exec = Jvm.exec) {x y : Int64} (hd : decode c.code pc = .ok (.lor, 1)) (pc' : Nat) (hp : pc + 1 = pc') (G : Go p e below P T (mkF m pc' Ls (.long (x ||| y) :: st))) : Go p e below P T (mkF m pc Ls (.long y :: .long x :: st)) := by
  subst hp
  exact G.stp fun _ h => XT.lor X.here hx rfl hd rfl h
theorem g_ixor (X : Stand p l e R s m args below meth c T locs cells slots) (hx : p.tables.exec = Jvm.exec) {x y : Int32} (hd : decode c.code pc = .ok (.ixor, 1)) (pc' : Nat) (hp : pc + 1 = pc') (G : Go p e below P T (mkF m pc' Ls (.int (x ^^^ y) :: st))) : Go p e below P T (mkF m pc Ls (.int y :: .int x :: st)) := by
  subst hp
  exact G.stp fun _ h => XT.ixor X.here hx rfl hd rfl h
theorem g_lxor (X : Stand p l e R s m args below meth c T locs cells slots) (hx : p.tables.exec = Jvm.exec) {x y : Int64} (hd : decode c.code pc = .ok (.lxor, 1)) (pc' : Nat) (hp : pc + 1 = pc') (G : Go p e below P T (mkF m pc' Ls (.long (x ^^^ y) :: st))) : Go p e below P T (mkF m pc Ls (.long y :: .long x :: st)) := by
  subst hp
  exact G.stp fun _ h => XT.lxor X.here hx rfl hd rfl h
theorem g_idiv (X : Stand p l e R s m args below meth c T locs cells slots) (hx : p.tables.exec = Jvm.exec) {x y : Int32} (hy : y ≠ 0) (hd : decode c.code pc = .ok (.idiv, 1)) (pc' : Nat) (hp : pc + 1 = pc') (G : Go p e below P T (mkF m pc' Ls (.int (x / y) :: st))) : Go p e below P T (mkF m pc Ls (.int y :: .int x :: st)) := by
  subst hp
  exact G.stp fun _ h => XS.idiv X.here hx rfl hd rfl hy h
theorem g_irem (X : Stand p l e R s m args below meth c T locs cells slots) (hx : p.tables.exec = Jvm.exec) {x y : Int32} (hy : y ≠ 0) (hd : decode c.code pc = .ok (.irem, 1)) (pc' : Nat) (hp : pc + 1 = pc') (G : Go p e below P T (mkF m pc' Ls (.int (x % y) :: st))) : Go p e below P T (mkF m pc Ls (.int y :: .int x :: st)) := by
  subst hp
  exact G.stp fun _ h => iremM X hx rfl hd rfl hy h
theorem g_ldiv (X : Stand p l e R s m args below meth c T locs cells slots) (hx : p.tables.exec = Jvm.exec) {x y : Int64} (hy : y ≠ 0) (hd : decode c.code pc = .ok (.ldiv, 1)) (pc' : Nat) (hp : pc + 1 = pc') (G : Go p e below P T (mkF m pc' Ls (.long (x / y) :: st))) : Go p e below P T (mkF m pc Ls (.long y :: .long x :: st)) := by
  subst hp
  exact G.stp fun _ h => XT.ldiv X.here hx rfl hd rfl hy h
theorem g_lrem (X : Stand p l e R s m args below meth c T locs cells slots) (hx : p.tables.exec = Jvm.exec) {x y : Int64} (hy : y ≠ 0) (hd : decode c.code pc = .ok (.lrem, 1)) (pc' : Nat) (hp : pc + 1 = pc') (G : Go p e below P T (mkF m pc' Ls (.long (x % y) :: st))) : Go p e below P T (mkF m pc Ls (.long y :: .long x :: st)) := by
  subst hp
  rw [← lrem_mod] at G
  exact G.stp fun _ h => XT.lrem X.here hx rfl hd rfl hy h
theorem g_ishl (X : Stand p l e R s m args below meth c T locs cells slots) (hx : p.tables.exec = Jvm.exec) {x y : Int32} (hd : decode c.code pc = .ok (.ishl, 1)) (pc' : Nat) (hp : pc + 1 = pc') (G : Go p e below P T (mkF m pc' Ls (.int (x <<< (y &&& 31)) :: st))) : Go p e below P T (mkF m pc Ls (.int y :: .int x :: st)) := by
  subst hp
  exact G.stp fun _ h => XT.ishl X.here hx rfl hd rfl h
theorem g_ishr (X : Stand p l e R s m args below meth c T locs cells slots) (hx : p.tables.exec = Jvm.exec) {x y : Int32} (hd : decode c.code pc = .ok (.ishr, 1)) (pc' : Nat) (hp : pc + 1 = pc') (G : Go p e below P T (mkF m pc' Ls (.int (x >>> (y &&& 31)) :: st))) : Go p e below P T (mkF m pc Ls (.int y :: .int x :: st)) := by
  subst hp
  exact G.stp fun _ h => XT.ishr X.here hx rfl hd rfl h
theorem g_iushr (X : Stand p l e R s m args below meth c T locs cells slots) (hx : p.tables.exec = Jvm.exec) {x y : Int32} (hd : decode c.code pc = .ok (.iushr, 1)) (pc' : Nat) (hp : pc + 1 = pc') (G : Go p e below P T (mkF m pc' Ls (.int (XT.ushr x y) :: st))) : Go p e below P T (mkF m pc Ls (.int y :: .int x :: st)) := by
  subst hp
  exact G.stp fun _ h => XT.iushr X.here hx rfl hd rfl h
theorem g_lshl (X : Stand p l e R s m args below meth c T locs cells slots) (hx : p.tables.exec = Jvm.exec) {x : Int64} {y : Int32} (hd : decode c.code pc = .ok (.lshl, 1)) (pc' : Nat) (hp : pc + 1 = pc') (G : Go p e below P T (mkF m pc' Ls (.long (x <<< (y &&& 0x3f).toInt64) :: st))) : Go p e below P T (mkF m pc Ls (.int y :: .long x :: st)) := by
  subst hp
  exact G.stp fun _ h => XS.lshl X.here hx rfl hd rfl h
theorem g_lshr (X : Stand p l e R s m args below meth c T locs cells slots) (hx : p.tables.exec = Jvm.exec) {x : Int64} {y : Int32} (hd : decode c.code pc = .ok (.lshr, 1)) (pc' : Nat) (hp : pc + 1 = pc') (G : Go p e below P T (mkF m pc' Ls (.long (x >>> (y &&& 0x3f).toInt64) :: st))) : Go p e below P T (mkF m pc Ls (.int y :: .long x :: st)) := by
  subst hp
  exact G.stp fun _ h => XS.lshr X.here hx rfl hd rfl h
theorem g_lushr (X : Stand p l e R s m args below meth c T locs cells slots) (hx : p.tables.exec = Jvm.exec) {x : Int64} {y : Int32} (hd : decode c.code pc = .ok (.lushr, 1)) (pc' : Nat) (hp : pc + 1 = pc') (G : Go p e below P T (mkF m pc' Ls (.long (XT.ushrL x y) :: st))) : Go p e below P T (mkF m pc Ls (.int y :: .long x :: st)) := by
  subst hp
  exact G.stp fun _ h => XT.lushr X.here hx rfl hd rfl h
theorem g_ineg (X : Stand p l e R s m args below meth c T locs cells slots) (hx : p.tables.exec = Jvm.exec) {x : Int32} (hd : decode c.code pc = .ok (.ineg, 1)) (pc' : Nat) (hp : pc + 1 = pc') (G : Go p e below P T (mkF m pc' Ls (.int (-x) :: st))) : Go p e below P T (mkF m pc Ls (.int x :: st)) := by
  subst hp
  exact G.stp fun _ h => XS.ineg X.here hx rfl hd rfl h
theorem g_i2l (X : Stand p l e R s m args below meth c T locs cells slots) (hx : p.tables.exec = Jvm.exec) {x : Int32} (hd : decode c.code pc = .ok (.i2l, 1)) (pc' : Nat) (hp : pc + 1 = pc') (G : Go p e below P T (mkF m pc' Ls (.long x.toInt64 :: st))) : Go p e below P T (mkF m pc Ls (.int x :: st)) := by
  subst hp
  exact G.stp fun _ h => XT.i2l X.here hx rfl hd rfl h
theorem g_l2i (X : Stand p l e R s m args below meth c T locs cells slots) (hx : p.tables.exec = Jvm.exec) {x : Int64} (hd : decode c.code pc = .ok (.l2i, 1)) (pc' : Nat) (hp : pc + 1 = pc') (G : Go p e below P T (mkF m pc' Ls (.int x.toInt32 :: st))) : Go p e below P T (mkF m pc Ls (.long x :: st)) := by
  subst hp
  exact G.stp fun _ h => XT.l2i X.here hx rfl hd rfl h
theorem g_i2b (X : Stand p l e R s m args below meth c T locs cells slots) (hx : p.tables.exec = Jvm.exec) {x : Int32} (hd : decode c.code pc = .ok (.i2b, 1)) (pc' : Nat) (hp : pc + 1 = pc') (G : Go p e below P T (mkF m pc' Ls (.int x.toInt8.toInt32 :: st))) : Go p e below P T (mkF m pc Ls (.int x :: st)) := by
  subst hp
  exact G.stp fun _ h => XT.i2b X.here hx rfl hd rfl h
theorem g_i2s (X : Stand p l e R s m args below meth c T locs cells slots) (hx : p.tables.exec = Jvm.exec) {x : Int32} (hd : decode c.code pc = .ok (.i2s, 1)) (pc' : Nat) (hp : pc + 1 = pc') (G : Go p e below P T (mkF m pc' Ls (.int x.toInt16.toInt32 :: st))) : Go p e below P T (mkF m pc Ls (.int x :: st)) := by
  subst hp
  exact G.stp fun _ h => XT.i2s X.here hx rfl hd rfl h
theorem g_i2c (X : Stand p l e R s m args below meth c T locs cells slots) (hx : p.tables.exec = Jvm.exec) {x : Int32} (hd : decode c.code pc = .ok (.i2c, 1)) (pc' : Nat) (hp : pc + 1 = pc') (G : Go p e below P T (mkF m pc' Ls (.int x.toUInt32.toUInt16.toUInt32.toInt32 :: st))) : Go p e below P T (mkF m pc Ls (.int x :: st)) := by
  subst hp
  exact G.stp fun _ h => XT.i2c X.here hx rfl hd rfl h
theorem g_pop (X : Stand p l e R s m args below meth c T locs cells slots) (hx : p.tables.exec = Jvm.exec) {x : Value} (hc : x.category = 1) (hd : decode c.code pc = .ok (.pop, 1)) (pc' : Nat) (hp : pc + 1 = pc') (G : Go p e below P T (mkF m pc' Ls st)) : Go p e below P T (mkF m pc Ls (x :: st)) := by
  subst hp
  exact G.stp fun _ h => XT.pop X.here hx rfl hd rfl hc h
theorem g_dup (X : Stand p l e R s m args below meth c T locs cells slots) (hx : p.tables.exec = Jvm.exec) {x : Value} (hc : x.category = 1) (hd : decode c.code pc = .ok (.dup, 1)) (pc' : Nat) (hp : pc + 1 = pc') (G : Go p e below P T (mkF m pc' Ls (x :: x :: st))) : Go p e below P T (mkF m pc Ls (x :: st)) := by
  subst hp
  exact G.stp fun _ h => XS.dup X.here hx rfl hd rfl hc h
theorem g_dup_x1 (X : Stand p l e R s m args below meth c T locs cells slots) (hx : p.tables.exec = Jvm.exec) {x y : Value} (hc : x.category = 1) (hc' : y.category = 1) (hd : decode c.code pc = .ok (.dup_x1, 1)) (pc' : Nat) (hp : pc + 1 = pc') (G : Go p e below P T (mkF m pc' Ls (x :: y :: x :: st))) : Go p e below P T (mkF m pc Ls (x :: y :: st)) := by
  subst hp
  exact G.stp fun _ h => XT.dupX1 X.here hx rfl hd rfl hc hc' h
theorem g_dup2 (X : Stand p l e R s m args below meth c T locs cells slots) (hx : p.tables.exec = Jvm.exec) {x y : Value} (hc : x.category = 1) (hc' : y.category = 1) (hd : decode c.code pc = .ok (.dup2, 1)) (pc' : Nat) (hp : pc + 1 = pc') (G : Go p e below P T (mkF m pc' Ls (x :: y :: x :: y :: st))) : Go p e below P T (mkF m pc Ls (x :: y :: st)) := by
  subst hp
  exact G.stp fun _ h => XT.dup2 X.here hx rfl hd rfl hc hc' h
theorem g_iinc (X : Stand p l e R s m args below meth c T locs cells slots) (hx : p.tables.exec = Jvm.exec) {k : Nat} {cst : Int} {x : Int32} (v : Int32) (hv : Int32.ofInt cst = v) (hl : Ls[k]? = some (.val (.int x))) (l' : Array Slot) (hl' : storeLocals Ls k (.int (x + v)) = some l') (hd : decode c.code pc = .ok (.iinc k cst, 3)) (pc' : Nat) (hp : pc + 3 = pc') (G : Go p e below P T (mkF m pc' l' st)) : Go p e below P T (mkF m pc Ls st) := by
  subst hp
  exact G.stp fun _ h => XT.iincV X.here hx rfl v hd hv hl hl' h
theorem g_goto (X : Stand p l e R s m args below meth c T locs cells slots) (hx : p.tables.exec = Jvm.exec) {o : Int} (hd : decode c.code pc = .ok (.goto o, 3)) (pc' : Nat) (ho : 0 ≤ (pc : Int) + o) (hp : ((pc : Int) + o).toNat = pc') (G : Go p e below P T (mkF m pc' Ls st)) : Go p e below P T (mkF m pc Ls st) := by
  exact G.stp fun _ h => XS.goto X.here hx rfl rfl hd ho hp h
theorem g_icmp_eq (X : Stand p l e R s m args below meth c T locs cells slots) (hx : p.tables.exec = Jvm.exec) {x y : Int32} {o : Int} (hd : decode c.code pc = .ok (.if_icmp .eq o, 3)) (pcT pcF : Nat) (ho : 0 ≤ (pc : Int) + o) (hT : ((pc : Int) + o).toNat = pcT) (hF : pc + 3 = pcF) (G1 : x = y → Go p e below P T (mkF m pcT Ls st)) (G2 : ¬ x = y → Go p e below P T (mkF m pcF Ls st)) : Go p e below P T (mkF m pc Ls (.int y :: .int x :: st)) := by
  by_cases q : x = y
  · exact (G1 q).stp fun _ h => XS.icmpYes X.here hx rfl rfl hd rfl (XT.ii_eq_t q) ho hT h
  · subst hF
    exact (G2 q).stp fun _ h => XS.icmpNo X.here hx rfl hd rfl (XT.ii_eq_f q) h
theorem g_if_eq (X : Stand p l e R s m args below meth c T locs cells slots) (hx : p.tables.exec = Jvm.exec) {x : Int32} {o : Int} (hd : decode c.code pc = .ok (.ifCond .eq o, 3)) (pcT pcF : Nat) (ho : 0 ≤ (pc : Int) + o) (hT : ((pc : Int) + o).toNat = pcT) (hF : pc + 3 = pcF) (G1 : x = 0 → Go p e below P T (mkF m pcT Ls st)) (G2 : ¬ x = 0 → Go p e below P T (mkF m pcF Ls st)) : Go p e below P T (mkF m pc Ls (.int x :: st)) := by
  by_cases q : x = 0
  · exact (G1 q).stp fun _ h => XS.ifYes X.here hx rfl rfl hd rfl (XT.i0_eq_t q) ho hT h
  · subst hF
    exact (G2 q).stp fun _ h => XS.ifNo X.here hx rfl hd rfl (XT.i0_eq_f q) h
theorem g_lif_eq (X : Stand p l e R s m args below meth c T locs cells slots) (hx : p.tables.exec = Jvm.exec) {x y : Int64} {o : Int} (hd0 : decode c.code pc = .ok (.lcmp, 1)) (pc1 : Nat) (hp1 : pc + 1 = pc1) (hd : decode c.code pc1 = .ok (.ifCond .eq o, 3)) (pcT pcF : Nat) (ho : 0 ≤ (pc1 : Int) + o) (hT : ((pc1 : Int) + o).toNat = pcT) (hF : pc1 + 3 = pcF) (G1 : x = y → Go p e below P T (mkF m pcT Ls st)) (G2 : ¬ x = y → Go p e below P T (mkF m pcF Ls st)) : Go p e below P T (mkF m pc Ls (.long y :: .long x :: st)) := by
  subst hp1
  by_cases q : x = y
  · exact (G1 q).stp fun _ h => XT.lcmp X.here hx rfl hd0 rfl (XS.ifYes X.here hx rfl rfl hd rfl (XT.ll_eq_t q) ho hT h)
  · subst hF
    exact (G2 q).stp fun _ h => XT.lcmp X.here hx rfl hd0 rfl (XS.ifNo X.here hx rfl hd rfl (XT.ll_eq_f q) h)
theorem g_icmp_ne (X : Stand p l e R s m args below meth c T locs cells slots) (hx : p.tables.exec = Jvm.exec) {x y : Int32} {o : Int} (hd : decode c.code pc = .ok (.if_icmp .ne o, 3)) (pcT pcF : Nat) (ho : 0 ≤ (pc : Int) + o) (hT : ((pc : Int) + o).toNat = pcT) (hF : pc + 3 = pcF) (G1 : ¬ x = y → Go p e below P T (mkF m pcT Ls st)) (G2 : x = y → Go p e below P T (mkF m pcF Ls st)) : Go p e below P T (mkF m pc Ls (.int y :: .int x :: st)) := by
  by_cases q : ¬ x = y
  · exact (G1 q).stp fun _ h => XS.icmpYes X.here hx rfl rfl hd rfl (XT.ii_ne_t q) ho hT h
  · subst hF
    exact (G2 (Classical.not_not.mp q)).stp fun _ h => XS.icmpNo X.here hx rfl hd rfl (XT.ii_ne_f (Classical.not_not.mp q)) h
theorem g_if_ne (X : Stand p l e R s m args below meth c T locs cells slots) (hx : p.tables.exec = Jvm.exec) {x : Int32} {o : Int} (hd : decode c.code pc = .ok (.ifCond .ne o, 3)) (pcT pcF : Nat) (ho : 0 ≤ (pc : Int) + o) (hT : ((pc : Int) + o).toNat = pcT) (hF : pc + 3 = pcF) (G1 : ¬ x = 0 → Go p e below P T (mkF m pcT Ls st)) (G2 : x = 0 → Go p e below P T (mkF m pcF Ls st)) : Go p e below P T (mkF m pc Ls (.int x :: st)) := by
  by_cases q : ¬ x = 0
  · exact (G1 q).stp fun _ h => XS.ifYes X.here hx rfl rfl hd rfl (XT.i0_ne_t q) ho hT h
  · subst hF
    exact (G2 (Classical.not_not.mp q)).stp fun _ h => XS.ifNo X.here hx rfl hd rfl (XT.i0_ne_f (Classical.not_not.mp q)) h
theorem g_lif_ne (X : Stand p l e R s m args below meth c T locs cells slots) (hx : p.tables.exec = Jvm.exec) {x y : Int64} {o : Int} (hd0 : decode c.code pc = .ok (.lcmp, 1)) (pc1 : Nat) (hp1 : pc + 1 = pc1) (hd : decode c.code pc1 = .ok (.ifCond .ne o, 3)) (pcT pcF : Nat) (ho : 0 ≤ (pc1 : Int) + o) (hT : ((pc1 : Int) + o).toNat = pcT) (hF : pc1 + 3 = pcF) (G1 : ¬ x = y → Go p e below P T (mkF m pcT Ls st)) (G2 : x = y → Go p e below P T (mkF m pcF Ls st)) : Go p e below P T (mkF m pc Ls (.long y :: .long x :: st)) := by
  subst hp1
  by_cases q : ¬ x = y
  · exact (G1 q).stp fun _ h => XT.lcmp X.here hx rfl hd0 rfl (XS.ifYes X.here hx rfl rfl hd rfl (XT.ll_ne_t q) ho hT h)
  · subst hF
    exact (G2 (Classical.not_not.mp q)).stp fun _ h => XT.lcmp X.here hx rfl hd0 rfl (XS.ifNo X.here hx rfl hd rfl (XT.ll_ne_f (Classical.not_not.mp q)) h)
theorem g_icmp_lt (X : Stand p l e R s m args below meth c T locs cells slots) (hx : p.tables.exec = Jvm.exec) {x y : Int32} {o : Int} (hd : decode c.code pc = .ok (.if_icmp .lt o, 3)) (pcT pcF : Nat) (ho : 0 ≤ (pc : Int) + o) (hT : ((pc : Int) + o).toNat = pcT) (hF : pc + 3 = pcF) (G1 : x < y → Go p e below P T (mkF m pcT Ls st)) (G2 : ¬ x < y → Go p e below P T (mkF m pcF Ls st)) : Go p e below P T (mkF m pc Ls (.int y :: .int x :: st)) := by
  by_cases q : x < y
  · exact (G1 q).stp fun _ h => XS.icmpYes X.here hx rfl rfl hd rfl (XT.ii_lt_t q) ho hT h
  · subst hF
    exact (G2 q).stp fun _ h => XS.icmpNo X.here hx rfl hd rfl (XT.ii_lt_f q) h
theorem g_if_lt (X : Stand p l e R s m args below meth c T locs cells slots) (hx : p.tables.exec = Jvm.exec) {x : Int32} {o : Int} (hd : decode c.code pc = .ok (.ifCond .lt o, 3)) (pcT pcF : Nat) (ho : 0 ≤ (pc : Int) + o) (hT : ((pc : Int) + o).toNat = pcT) (hF : pc + 3 = pcF) (G1 : x < 0 → Go p e below P T (mkF m pcT Ls st)) (G2 : ¬ x < 0 → Go p e below P T (mkF m pcF Ls st)) : Go p e below P T (mkF m pc Ls (.int x :: st)) := by
  by_cases q : x < 0
  · exact (G1 q).stp fun _ h => XS.ifYes X.here hx rfl rfl hd rfl (XT.i0_lt_t q) ho hT h
  · subst hF
    exact (G2 q).stp fun _ h => XS.ifNo X.here hx rfl hd rfl (XT.i0_lt_f q) h
theorem g_lif_lt (X : Stand p l e R s m args below meth c T locs cells slots) (hx : p.tables.exec = Jvm.exec) {x y : Int64} {o : Int} (hd0 : decode c.code pc = .ok (.lcmp, 1)) (pc1 : Nat) (hp1 : pc + 1 = pc1) (hd : decode c.code pc1 = .ok (.ifCond .lt o, 3)) (pcT pcF : Nat) (ho : 0 ≤ (pc1 : Int) + o) (hT : ((pc1 : Int) + o).toNat = pcT) (hF : pc1 + 3 = pcF) (G1 : x < y → Go p e below P T (mkF m pcT Ls st)) (G2 : ¬ x < y → Go p e below P T (mkF m pcF Ls st)) : Go p e below P T (mkF m pc Ls (.long y :: .long x :: st)) := by
  subst hp1
  by_cases q : x < y
  · exact (G1 q).stp fun _ h => XT.lcmp X.here hx rfl hd0 rfl (XS.ifYes X.here hx rfl rfl hd rfl (XT.ll_lt_t q) ho hT h)
  · subst hF
    exact (G2 q).stp fun _ h => XT.lcmp X.here hx rfl hd0 rfl (XS.ifNo X.here hx rfl hd rfl (XT.ll_lt_f q) h)
theorem g_icmp_ge (X : Stand p l e R s m args below meth c T locs cells slots) (hx : p.tables.exec = Jvm.exec) {x y : Int32} {o : Int} (hd : decode c.code pc = .ok (.if_icmp .ge o, 3)) (pcT pcF : Nat) (ho : 0 ≤ (pc : Int) + o) (hT : ((pc : Int) + o).toNat = pcT) (hF : pc + 3 = pcF) (G1 : ¬ x < y → Go p e below P T (mkF m pcT Ls st)) (G2 : x < y → Go p e below P T (mkF m pcF Ls st)) : Go p e below P T (mkF m pc Ls (.int y :: .int x :: st)) := by
  by_cases q : ¬ x < y
  · exact (G1 q).stp fun _ h => XS.icmpYes X.here hx rfl rfl hd rfl (XT.ii_ge_t q) ho hT h
  · subst hF
    exact (G2 (Classical.not_not.mp q)).stp fun _ h => XS.icmpNo X.here hx rfl hd rfl (XT.ii_ge_f (Classical.not_not.mp q)) h
theorem g_if_ge (X : Stand p l e R s m args below meth c T locs cells slots) (hx : p.tables.exec = Jvm.exec) {x : Int32} {o : Int} (hd : decode c.code pc = .ok (.ifCond .ge o, 3)) (pcT pcF : Nat) (ho : 0 ≤ (pc : Int) + o) (hT : ((pc : Int) + o).toNat = pcT) (hF : pc + 3 = pcF) (G1 : ¬ x < 0 → Go p e below P T (mkF m pcT Ls st)) (G2 : x < 0 → Go p e below P T (mkF m pcF Ls st)) : Go p e below P T (mkF m pc Ls (.int x :: st)) := by
  by_cases q : ¬ x < 0
  · exact (G1 q).stp fun _ h => XS.ifYes X.here hx rfl rfl hd rfl (XT.i0_ge_t q) ho hT h
  · subst hF
    exact (G2 (Classical.not_not.mp q)).stp fun _ h => XS.ifNo X.here hx rfl hd rfl (XT.i0_ge_f (Classical.not_not.mp q)) h
theorem g_lif_ge (X : Stand p l e R s m args below meth c T locs cells slots) (hx : p.tables.exec = Jvm.exec) {x y : Int64} {o : Int} (hd0 : decode c.code pc = .ok (.lcmp, 1)) (pc1 : Nat) (hp1 : pc + 1 = pc1) (hd : decode c.code pc1 = .ok (.ifCond .ge o, 3)) (pcT pcF : Nat) (ho : 0 ≤ (pc1 : Int) + o) (hT : ((pc1 : Int) + o).toNat = pcT) (hF : pc1 + 3 = pcF) (G1 : ¬ x < y → Go p e below P T (mkF m pcT Ls st)) (G2 : x < y → Go p e below P T (mkF m pcF Ls st)) : Go p e below P T (mkF m pc Ls (.long y :: .long x :: st)) := by
  subst hp1
  by_cases q : ¬ x < y
  · exact (G1 q).stp fun _ h => XT.lcmp X.here hx rfl hd0 rfl (XS.ifYes X.here hx rfl rfl hd rfl (XT.ll_ge_t q) ho hT h)
  · subst hF
    exact (G2 (Classical.not_not.mp q)).stp fun _ h => XT.lcmp X.here hx rfl hd0 rfl (XS.ifNo X.here hx rfl hd rfl (XT.ll_ge_f (Classical.not_not.mp q)) h)
theorem g_icmp_gt (X : Stand p l e R s m args below meth c T locs cells slots) (hx : p.tables.exec = Jvm.exec) {x y : Int32} {o : Int} (hd : decode c.code pc = .ok (.if_icmp .gt o, 3)) (pcT pcF : Nat) (ho : 0 ≤ (pc : Int) + o) (hT : ((pc : Int) + o).toNat = pcT) (hF : pc + 3 = pcF) (G1 : y < x → Go p e below P T (mkF m pcT Ls st)) (G2 : ¬ y < x → Go p e below P T (mkF m pcF Ls st)) : Go p e below P T (mkF m pc Ls (.int y :: .int x :: st)) := by
  by_cases q : y < x
  · exact (G1 q).stp fun _ h => XS.icmpYes X.here hx rfl rfl hd rfl (XT.ii_gt_t q) ho hT h
  · subst hF
    exact (G2 q).stp fun _ h => XS.icmpNo X.here hx rfl hd rfl (XT.ii_gt_f q) h
theorem g_if_gt (X : Stand p l e R s m args below meth c T locs cells slots) (hx : p.tables.exec = Jvm.exec) {x : Int32} {o : Int} (hd : decode c.code pc = .ok (.ifCond .gt o, 3)) (pcT pcF : Nat) (ho : 0 ≤ (pc : Int) + o) (hT : ((pc : Int) + o).toNat = pcT) (hF : pc + 3 = pcF) (G1 : 0 < x → Go p e below P T (mkF m pcT Ls st)) (G2 : ¬ 0 < x → Go p e below P T (mkF m pcF Ls st)) : Go p e below P T (mkF m pc Ls (.int x :: st)) := by
  by_cases q : 0 < x
  · exact (G1 q).stp fun _ h => XS.ifYes X.here hx rfl rfl hd rfl (XT.i0_gt_t q) ho hT h
  · subst hF
    exact (G2 q).stp fun _ h => XS.ifNo X.here hx rfl hd rfl (XT.i0_gt_f q) h
theorem g_lif_gt (X : Stand p l e R s m args below meth c T locs cells slots) (hx : p.tables.exec = Jvm.exec) {x y : Int64} {o : Int} (hd0 : decode c.code pc = .ok (.lcmp, 1)) (pc1 : Nat) (hp1 : pc + 1 = pc1) (hd : decode c.code pc1 = .ok (.ifCond .gt o, 3)) (pcT pcF : Nat) (ho : 0 ≤ (pc1 : Int) + o) (hT : ((pc1 : Int) + o).toNat = pcT) (hF : pc1 + 3 = pcF) (G1 : y < x → Go p e below P T (mkF m pcT Ls st)) (G2 : ¬ y < x → Go p e below P T (mkF m pcF Ls st)) : Go p e below P T (mkF m pc Ls (.long y :: .long x :: st)) := by
  subst hp1
  by_cases q : y < x
  · exact (G1 q).stp fun _ h => XT.lcmp X.here hx rfl hd0 rfl (XS.ifYes X.here hx rfl rfl hd rfl (XT.ll_gt_t q) ho hT h)
  · subst hF
    exact (G2 q).stp fun _ h => XT.lcmp X.here hx rfl hd0 rfl (XS.ifNo X.here hx rfl hd rfl (XT.ll_gt_f q) h)
theorem g_icmp_le (X : Stand p l e R s m args below meth c T locs cells slots) (hx : p.tables.exec = Jvm.exec) {x y : Int32} {o : Int} (hd : decode c.code pc = .ok (.if_icmp .le o, 3)) (pcT pcF : Nat) (ho : 0 ≤ (pc : Int) + o) (hT : ((pc : Int) + o).toNat = pcT) (hF : pc + 3 = pcF) (G1 : ¬ y < x → Go p e below P T (mkF m pcT Ls st)) (G2 : y < x → Go p e below P T (mkF m pcF Ls st)) : Go p e below P T (mkF m pc Ls (.int y :: .int x :: st)) := by
  by_cases q : ¬ y < x
  · exact (G1 q).stp fun _ h => XS.icmpYes X.here hx rfl rfl hd rfl (XT.ii_le_t q) ho hT h
  · subst hF
    exact (G2 (Classical.not_not.mp q)).stp fun _ h => XS.icmpNo X.here hx rfl hd rfl (XT.ii_le_f (Classical.not_not.mp q)) h
theorem g_if_le (X : Stand p l e R s m args below meth c T locs cells slots) (hx : p.tables.exec = Jvm.exec) {x : Int32} {o : Int} (hd : decode c.code pc = .ok (.ifCond .le o, 3)) (pcT pcF : Nat) (ho : 0 ≤ (pc : Int) + o) (hT : ((pc : Int) + o).toNat = pcT) (hF : pc + 3 = pcF) (G1 : ¬ 0 < x → Go p e below P T (mkF m pcT Ls st)) (G2 : 0 < x → Go p e below P T (mkF m pcF Ls st)) : Go p e below P T (mkF m pc Ls (.int x :: st)) := by
  by_cases q : ¬ 0 < x
  · exact (G1 q).stp fun _ h => XS.ifYes X.here hx rfl rfl hd rfl (XT.i0_le_t q) ho hT h
  · subst hF
    exact (G2 (Classical.not_not.mp q)).stp fun _ h => XS.ifNo X.here hx rfl hd rfl (XT.i0_le_f (Classical.not_not.mp q)) h
theorem g_lif_le (X : Stand p l e R s m args below meth c T locs cells slots) (hx : p.tables.exec = Jvm.exec) {x y : Int64} {o : Int} (hd0 : decode c.code pc = .ok (.lcmp, 1)) (pc1 : Nat) (hp1 : pc + 1 = pc1) (hd : decode c.code pc1 = .ok (.ifCond .le o, 3)) (pcT pcF : Nat) (ho : 0 ≤ (pc1 : Int) + o) (hT : ((pc1 : Int) + o).toNat = pcT) (hF : pc1 + 3 = pcF) (G1 : ¬ y < x → Go p e below P T (mkF m pcT Ls st)) (G2 : y < x → Go p e below P T (mkF m pcF Ls st)) : Go p e below P T (mkF m pc Ls (.long y :: .long x :: st)) := by
  subst hp1
  by_cases q : ¬ y < x
  · exact (G1 q).stp fun _ h => XT.lcmp X.here hx rfl hd0 rfl (XS.ifYes X.here hx rfl rfl hd rfl (XT.ll_le_t q) ho hT h)
  · subst hF
    exact (G2 (Classical.not_not.mp q)).stp fun _ h => XT.lcmp X.here hx rfl hd0 rfl (XS.ifNo X.here hx rfl hd rfl (XT.ll_le_f (Classical.not_not.mp q)) h)
theorem g_acmp_eq (X : Stand p l e R s m args below meth c T locs cells slots) (hx : p.tables.exec = Jvm.exec) {x y : Value} (hx' : x.isRef = true) (hy' : y.isRef = true) {o : Int} (hd : decode c.code pc = .ok (.if_acmp .eq o, 3)) (pcT pcF : Nat) (ho : 0 ≤ (pc : Int) + o) (hT : ((pc : Int) + o).toNat = pcT) (hF : pc + 3 = pcF) (G1 : x = y → Go p e below P T (mkF m pcT Ls st)) (G2 : ¬ x = y → Go p e below P T (mkF m pcF Ls st)) : Go p e below P T (mkF m pc Ls (y :: x :: st)) := by
  by_cases q : x = y
  · exact (G1 q).stp fun _ h => XT.acmpYes X.here hx rfl rfl hd rfl hx' hy' (XT.aa_eq_t q) ho hT h
  · subst hF
    exact (G2 q).stp fun _ h => XT.acmpNo X.here hx rfl hd rfl hx' hy' (XT.aa_eq_f q) h
theorem g_acmp_ne (X : Stand p l e R s m args below meth c T locs cells slots) (hx : p.tables.exec = Jvm.exec) {x y : Value} (hx' : x.isRef = true) (hy' : y.isRef = true) {o : Int} (hd : decode c.code pc = .ok (.if_acmp .ne o, 3)) (pcT pcF : Nat) (ho : 0 ≤ (pc : Int) + o) (hT : ((pc : Int) + o).toNat = pcT) (hF : pc + 3 = pcF) (G1 : ¬ x = y → Go p e below P T (mkF m pcT Ls st)) (G2 : x = y → Go p e below P T (mkF m pcF Ls st)) : Go p e below P T (mkF m pc Ls (y :: x :: st)) := by
  by_cases q : ¬ x = y
  · exact (G1 q).stp fun _ h => XT.acmpYes X.here hx rfl rfl hd rfl hx' hy' (XT.aa_ne_t q) ho hT h
  · subst hF
    exact (G2 (Classical.not_not.mp q)).stp fun _ h => XT.acmpNo X.here hx rfl hd rfl hx' hy' (XT.aa_ne_f (Classical.not_not.mp q)) h
theorem g_ifnull (X : Stand p l e R s m args below meth c T locs cells slots) (hx : p.tables.exec = Jvm.exec) {x : Value} (hx' : x.isRef = true) {o : Int} (hd : decode c.code pc = .ok (.ifnull o, 3)) (pcT pcF : Nat) (ho : 0 ≤ (pc : Int) + o) (hT : ((pc : Int) + o).toNat = pcT) (hF : pc + 3 = pcF) (G1 : x = .null → Go p e below P T (mkF m pcT Ls st)) (G2 : ¬ x = .null → Go p e below P T (mkF m pcF Ls st)) : Go p e below P T (mkF m pc Ls (x :: st)) := by
  by_cases q : x = .null
  · exact (G1 q).stp fun _ h => XT.nullYes X.here hx rfl rfl hd rfl q ho hT h
  · subst hF
    exact (G2 q).stp fun _ h => XT.nullNo X.here hx rfl hd rfl hx' q h
theorem g_ifnonnull (X : Stand p l e R s m args below meth c T locs cells slots) (hx : p.tables.exec = Jvm.exec) {x : Value} (hx' : x.isRef = true) {o : Int} (hd : decode c.code pc = .ok (.ifnonnull o, 3)) (pcT pcF : Nat) (ho : 0 ≤ (pc : Int) + o) (hT : ((pc : Int) + o).toNat = pcT) (hF : pc + 3 = pcF) (G1 : ¬ x = .null → Go p e below P T (mkF m pcT Ls st)) (G2 : x = .null → Go p e below P T (mkF m pcF Ls st)) : Go p e below P T (mkF m pc Ls (x :: st)) := by
  by_cases q : x = .null
  · subst hF
    exact (G2 q).stp fun _ h => XT.nonnullNo X.here hx rfl hd rfl q h
  · exact (G1 q).stp fun _ h => XT.nonnullYes X.here hx rfl rfl hd rfl hx' q ho hT h
theorem g_ldc (X : Stand p l e R s m args below meth c T locs cells slots) (hx : p.tables.exec = Jvm.exec) (hZ : Z.Warmed39 s.vm) {own : String} (hown : s.vm.findClass own = some m.cls) {i : Nat} {v : Int32} (w : (Cond.constant own i v).before a0 Z = true) (hd : decode c.code pc = .ok (.ldc i, 2)) (pc' : Nat) (hp : pc + 2 = pc') (G : Go p e below P T (mkF m pc' Ls (.int v :: st))) : Go p e below P T (mkF m pc Ls st) := by
  subst hp
  exact G.stp fun _ h => Jvm.Stand.ldcI X hx hown (mv hZ w) rfl hd h
theorem g_ldc_w (X : Stand p l e R s m args below meth c T locs cells slots) (hx : p.tables.exec = Jvm.exec) (hZ : Z.Warmed39 s.vm) {own : String} (hown : s.vm.findClass own = some m.cls) {i : Nat} {v : Int32} (w : (Cond.constant own i v).before a0 Z = true) (hd : decode c.code pc = .ok (.ldc_w i, 3)) (pc' : Nat) (hp : pc + 3 = pc') (G : Go p e below P T (mkF m pc' Ls (.int v :: st))) : Go p e below P T (mkF m pc Ls st) := by
  subst hp
  exact G.stp fun _ h => Jvm.Stand.ldcWI X hx hown (mv hZ w) rfl hd h
theorem g_ldc2_w (X : Stand p l e R s m args below meth c T locs cells slots) (hx : p.tables.exec = Jvm.exec) (hZ : Z.Warmed39 s.vm) {own : String} (hown : s.vm.findClass own = some m.cls) {i : Nat} {v : Int64} (w : (Cond.constantLong own i v).before a0 Z = true) (hd : decode c.code pc = .ok (.ldc2_w i, 3)) (pc' : Nat) (hp : pc + 3 = pc') (G : Go p e below P T (mkF m pc' Ls (.long v :: st))) : Go p e below P T (mkF m pc Ls st) := by
  subst hp
  exact G.stp fun _ h => Jvm.Stand.ldc2J X hx hown (mv hZ w) rfl hd h
theorem g_getfield (X : Stand p l e R s m args below meth c T locs cells slots) (hx : p.tables.exec = Jvm.exec) (hZ : Z.Warmed39 s.vm) {own : String} (hown : s.vm.findClass own = some m.cls) {R0 O n d host : String} {i : Nat} (w : (Cond.fieldLink own i R0 n d).before a0 Z = true ∨ (Cond.fieldLinkNest own i R0 n d host).before a0 Z = true) (via : Via Z R0 O n d) {a : Addr} {v : Value} (F : Fld Z h a O n d v) (eT : T.heap = h) (hd : decode c.code pc = .ok (.getfield i, 3)) (pc' : Nat) (hp : pc + 3 = pc') (G : ∀ T', Stand p l e R s m args below meth c T' locs cells slots → T'.heap = h → Go p e below P T' (mkF m pc' Ls (v :: st))) : Go p e below P T (mkF m pc Ls (.ref a :: st)) := by
  subst hp
  obtain ⟨T', X', e', k⟩ := getF X hx hZ hown w via eT F (g := mkF m pc Ls (.ref a :: st)) rfl rfl hd
  exact (G T' X' e').stp k
theorem g_getstatic (X : Stand p l e R s m args below meth c T locs cells slots) (hx : p.tables.exec = Jvm.exec) (hZ : Z.Warmed39 s.vm) {own : String} (hown : s.vm.findClass own = some m.cls) {R0 O n d host : String} {i : Nat} (w : (Cond.fieldLink own i R0 n d).before a0 Z = true ∨ (Cond.fieldLinkNest own i R0 n d host).before a0 Z = true) (via : Via Z R0 O n d) {v : Value} (F : Sta Z h O n d v) (eT : T.heap = h) (hd : decode c.code pc = .ok (.getstatic i, 3)) (pc' : Nat) (hp : pc + 3 = pc') (G : ∀ T', Stand p l e R s m args below meth c T' locs cells slots → T'.heap = h → Go p e below P T' (mkF m pc' Ls (v :: st))) : Go p e below P T (mkF m pc Ls st) := by
  subst hp
  obtain ⟨T', X', e', k⟩ := getS2 X hx hZ hown w via eT F (g := mkF m pc Ls st) rfl hd
  exact (G T' X' e').stp k
theorem g_putfield (X : Stand p l e R s m args below meth c T locs cells slots) (hx : p.tables.exec = Jvm.exec) (hZ : Z.Warmed39 s.vm) {own : String} (hown : s.vm.findClass own = some m.cls) {R0 O n d host C : String} {i kk : Nat} {ty : FieldType} (w : (Cond.fieldLink own i R0 n d).before a0 Z = true ∨ (Cond.fieldLinkNest own i R0 n d host).before a0 Z = true) (via : Via Z R0 O n d) (eT : T.heap = h) {a : Addr} {v old : Value} (F : Fld Z h a O n d old) (E : Exa Z h a C) (L : (Cond.lays C O n d).before a0 Z = true ∨ ((Cond.laysFinal C O n d).before a0 Z = true ∧ own = O ∧ meth.name = "<init>")) (wi : (Cond.instantiable C kk).before a0 Z = true) (hty : parseFieldDescriptor d = some ty) (hn : narrow ty v = v) (hf : fits ty v = true) (hd : decode c.code pc = .ok (.putfield i, 3)) (pc' : Nat) (hp : pc + 3 = pc') (G : ∀ T' h', Stand p l e R s m args below meth c T' (locs ++ [⟨a, Jvm.RoadKit.slotOf Z O n d⟩]) cells slots → T'.heap = h' → Wr h h' a (Jvm.RoadKit.slotOf Z O n d) v → Go p e below P T' (mkF m pc' Ls st)) : Go p e below P T (mkF m pc Ls (v :: .ref a :: st)) := by
  subst hp
  obtain ⟨T', h', X', e', W, k⟩ := putF X hx hZ hown w via eT F E L wi hty hn hf (g := mkF m pc Ls (v :: .ref a :: st)) rfl rfl hd
  exact (G T' h' X' e' W).stp k
theorem g_initO (X : Stand p l e R s m args below meth c T locs cells slots) (hx : p.tables.exec = Jvm.exec) (hZ : Z.Warmed39 s.vm) {own : String} (hown : s.vm.findClass own = some m.cls) {i : Nat} (w1 : (Cond.methodLink own i Lib.objectInit).before a0 Z = true) (w2 : (Cond.instanceMethod Lib.objectInit).before a0 Z = true) (w3 : (Cond.code Lib.objectInit ⟨#[0xb1]⟩ 1 none).before a0 Z = true) (eT : T.heap = h) (hsz : Ls.size = c.maxLocals) {a : Addr} (hd : decode c.code pc = .ok (.invokespecial i, 3)) (hf : 1 ≤ R.frames) (W : Nat) (hW : (st.map fun v => v.category).sum ≤ W) (hl : W + 12 ≤ R.locals) (pc' : Nat) (hp : pc + 3 = pc') (G : ∀ T', Stand p l e R s m args below meth c T' locs cells slots → T'.heap = h → Go p e below P T' (mkF m pc' Ls st)) : Go p e below P T (mkF m pc Ls (.ref a :: st)) := by
  subst hp
  obtain ⟨T', X', e', k⟩ := initO X hx hZ hown w1 w2 w3 eT (g := mkF m pc Ls (.ref a :: st)) rfl hsz rfl hd hf (W := W) (by show 2 * 0 + _ ≤ W; omega) hl
  exact (G T' X' e').stp k
theorem g_new (X : Stand p l e R s m args below meth c T locs cells slots) (hx : p.tables.exec = Jvm.exec) (hZ : Z.Warmed39 s.vm) {own : String} (hown : s.vm.findClass own = some m.cls) {C : String} {i n : Nat} (w : (Cond.classLink own i C).before a0 Z = true) (wi : (Cond.instantiable C n).before a0 Z = true) (wz : (Cond.initialized C).before a0 Z = true) (eT : T.heap = h) (hd : decode c.code pc = .ok (.new i, 3)) (hc : cells + 1 ≤ R.cells) (hl : slots + n ≤ R.slots) (pc' : Nat) (hp : pc + 3 = pc') (G : ∀ T' h' b, Stand p l e R s m args below meth c T' locs (cells + 1) (slots + n) → T'.heap = h' → b = h.size → Ext h h' → Exa Z h' b C → (∀ {O nm d : String} {ty : FieldType}, Laid Z a0 C O nm d → parseFieldDescriptor d = some ty → Fld Z h' b O nm d (defaultValue ty)) → Go p e below P T' (mkF m pc' Ls (.ref b :: st))) : Go p e below P T (mkF m pc Ls st) := by
  subst hp
  obtain ⟨T', h', X', e', E, A, D, -, k⟩ := newO X hx hZ hown w wi wz eT (g := mkF m pc Ls st) rfl hd hc hl
  exact (G T' h' h.size X' e' rfl E A D).stp k
/-- the array at a: of that kind, holding just these values -/
def AV (Z : State) (h : Heap) (a : Addr) (ty : FieldType) (vs : List Value) : Prop := ∃ c : Cell, Arr Z h a c ty ∧ c.slots = vs.toArray ∧ vs.length < 2 ^ 31
theorem AV.lt {a : Addr} {ty : FieldType} {vs : List Value} (F : AV Z h a ty vs) : a < h.size := by obtain ⟨c, A, -⟩ := F; exact A.lt
theorem AV.ext {h' : Heap} {a : Addr} {ty : FieldType} {vs : List Value} (F : AV Z h a ty vs) (E : Ext h h') : AV Z h' a ty vs := by obtain ⟨c, A, r⟩ := F; exact ⟨c, A.ext E, r⟩
theorem AV.other {h' : Heap} {a b : Addr} {sl : Nat} {v : Value} {ty : FieldType} {vs : List Value} (F : AV Z h b ty vs) (W : Wr h h' a sl v) (q : b ≠ a) : AV Z h' b ty vs := by obtain ⟨c, A, r⟩ := F; exact ⟨c, A.other W q, r⟩
theorem AV.keep {h' : Heap} {a : Addr} {ws : List Addr} {ty : FieldType} {vs : List Value} (F : AV Z h a ty vs) (K : Keep h h' ws) (q : a ∉ ws) : AV Z h' a ty vs := by obtain ⟨c, A, r⟩ := F; exact ⟨c, ⟨K.2.1 a c A.1 q, A.2⟩, r⟩
theorem AV.same {h' : Heap} {a : Addr} {sl : Nat} {v : Value} {ty : FieldType} {vs : List Value} (F : AV Z h a ty vs) (W : Wr h h' a sl v) : AV Z h' a ty (vs.set sl v) := by
  obtain ⟨c, A, r1, r2⟩ := F
  exact ⟨_, A.same W, by simp [Cell.setSlot, r1], by simpa using r2⟩
theorem AV.new {a : Addr} {k : ClassId} {ty : FieldType} {n : Int32} (A : Arr Z h a (newA k ty n) ty) (vs : List Value) (q : vs = List.replicate n.toNatClampNeg (defaultValue ty)) (q2 : n.toNatClampNeg < 2 ^ 31) : AV Z h a ty vs := ⟨_, A, by subst q; simp [newA], by subst q; simpa using q2⟩
theorem AV.nostat {a : Addr} {ty : FieldType} {vs : List Value} (F : AV Z h a ty vs) : ∀ cell : Cell, h[a]? = some cell → cell.vm.isStatics = false := by obtain ⟨c, A, -⟩ := F; exact A.nostat
theorem in_of {vs : List Value} {c : Cell} {j : Int32} {v : Value} (r : c.slots = vs.toArray) (hj : ¬ j < 0) (hv : vs[j.toNatClampNeg]? = some v) : ¬ (j < 0 ∨ c.slots.size ≤ j.toNatClampNeg) := by
  have q := (List.getElem?_eq_some_iff.mp hv).1
  intro u
  rcases u with u | u
  · exact hj u
  · rw [r] at u; simp at u; omega
theorem g_iaload (X : Stand p l e R s m args below meth c T locs cells slots) (hx : p.tables.exec = Jvm.exec) (hZ : Z.Warmed39 s.vm) (eT : T.heap = h) {a : Addr} {vs : List Value} {j : Int32} {v : Value} (A : AV Z h a .int vs) (hj : ¬ j < 0) (hv : vs[j.toNatClampNeg]? = some v) (hd : decode c.code pc = .ok (.iaload, 1)) (pc' : Nat) (hp : pc + 1 = pc') (G : Go p e below P T (mkF m pc' Ls (v :: st))) : Go p e below P T (mkF m pc Ls (.int j :: .ref a :: st)) := by
  subst hp
  obtain ⟨cl, A, r1, r2⟩ := A
  exact G.stp fun _ k => X.iaload hx (j := j) (v := v) (by rw [eT]; exact A.1) (State.isArrayOf_alike hZ.alike A.2.1) A.2.2 (in_of r1 hj hv) (by rw [r1]; simpa using hv) (g := mkF m pc Ls (.int j :: .ref a :: st)) rfl rfl hd _ k
theorem g_caload (X : Stand p l e R s m args below meth c T locs cells slots) (hx : p.tables.exec = Jvm.exec) (hZ : Z.Warmed39 s.vm) (eT : T.heap = h) {a : Addr} {vs : List Value} {j : Int32} {v : Value} (A : AV Z h a .char vs) (hj : ¬ j < 0) (hv : vs[j.toNatClampNeg]? = some v) (hd : decode c.code pc = .ok (.caload, 1)) (pc' : Nat) (hp : pc + 1 = pc') (G : Go p e below P T (mkF m pc' Ls (v :: st))) : Go p e below P T (mkF m pc Ls (.int j :: .ref a :: st)) := by
  subst hp
  obtain ⟨cl, A, r1, r2⟩ := A
  exact G.stp fun _ k => X.caload hx (j := j) (v := v) (by rw [eT]; exact A.1) (State.isArrayOf_alike hZ.alike A.2.1) A.2.2 (in_of r1 hj hv) (by rw [r1]; simpa using hv) (g := mkF m pc Ls (.int j :: .ref a :: st)) rfl rfl hd _ k
theorem g_baload (X : Stand p l e R s m args below meth c T locs cells slots) (hx : p.tables.exec = Jvm.exec) (hZ : Z.Warmed39 s.vm) (eT : T.heap = h) {a : Addr} {vs : List Value} {j : Int32} {v : Value} (A : AV Z h a .byte vs) (hj : ¬ j < 0) (hv : vs[j.toNatClampNeg]? = some v) (hd : decode c.code pc = .ok (.baload, 1)) (pc' : Nat) (hp : pc + 1 = pc') (G : Go p e below P T (mkF m pc' Ls (v :: st))) : Go p e below P T (mkF m pc Ls (.int j :: .ref a :: st)) := by
  subst hp
  obtain ⟨cl, A, r1, r2⟩ := A
  exact G.stp fun _ k => X.baloadBytes hx (j := j) (v := v) (by rw [eT]; exact A.1) (State.isArrayOf_alike hZ.alike A.2.1) A.2.2 (in_of r1 hj hv) (by rw [r1]; simpa using hv) (g := mkF m pc Ls (.int j :: .ref a :: st)) rfl rfl hd _ k
theorem g_aaload (X : Stand p l e R s m args below meth c T locs cells slots) (hx : p.tables.exec = Jvm.exec) (hZ : Z.Warmed39 s.vm) (eT : T.heap = h) {a : Addr} {ty : FieldType} {vs : List Value} {j : Int32} {v : Value} (A : AV Z h a ty vs) (hty : ty.isReference = true) (hj : ¬ j < 0) (hv : vs[j.toNatClampNeg]? = some v) (hd : decode c.code pc = .ok (.aaload, 1)) (pc' : Nat) (hp : pc + 1 = pc') (G : Go p e below P T (mkF m pc' Ls (v :: st))) : Go p e below P T (mkF m pc Ls (.int j :: .ref a :: st)) := by
  subst hp
  obtain ⟨cl, A, r1, r2⟩ := A
  exact G.stp fun _ k => X.aaload hx (j := j) (v := v) (by rw [eT]; exact A.1) (State.isArrayOf_alike hZ.alike A.2.1) hty A.2.2 (in_of r1 hj hv) (by rw [r1]; simpa using hv) (g := mkF m pc Ls (.int j :: .ref a :: st)) rfl rfl hd _ k
theorem g_arraylength (X : Stand p l e R s m args below meth c T locs cells slots) (hx : p.tables.exec = Jvm.exec) (hZ : Z.Warmed39 s.vm) (eT : T.heap = h) {a : Addr} {ty : FieldType} {vs : List Value} (A : AV Z h a ty vs) (n : Int32) (hn : Int32.ofNat vs.length = n) (hd : decode c.code pc = .ok (.arraylength, 1)) (pc' : Nat) (hp : pc + 1 = pc') (G : Go p e below P T (mkF m pc' Ls (.int n :: st))) : Go p e below P T (mkF m pc Ls (.ref a :: st)) := by
  subst hp
  obtain ⟨cl, A, r1, r2⟩ := A
  have q : cl.slots.size.toInt32 = n := by rw [r1, ← hn]; simp
  rw [← q] at G
  exact G.stp fun _ k => X.arraylength hx (cell := cl) (by rw [eT]; exact A.1) (State.isArrayOf_alike hZ.alike A.2.1) (g := mkF m pc Ls (.ref a :: st)) rfl rfl hd _ k
theorem g_iastore (X : Stand p l e R s m args below meth c T locs cells slots) (hx : p.tables.exec = Jvm.exec) (hZ : Z.Warmed39 s.vm) (eT : T.heap = h) {a : Addr} {vs : List Value} {j x : Int32} (A : AV Z h a .int vs) (hj : ¬ j < 0) (hi : j.toNatClampNeg < vs.length) (hd : decode c.code pc = .ok (.iastore, 1)) (pc' : Nat) (hp : pc + 1 = pc') (G : ∀ T' h', Stand p l e R s m args below meth c T' (locs ++ [⟨a, j.toNatClampNeg⟩]) cells slots → T'.heap = h' → Wr h h' a j.toNatClampNeg (.int x) → AV Z h' a .int (vs.set j.toNatClampNeg (.int x)) → Go p e below P T' (mkF m pc' Ls st)) : Go p e below P T (mkF m pc Ls (.int x :: .int j :: .ref a :: st)) := by
  subst hp
  have A0 := A
  obtain ⟨cl, A, r1, r2⟩ := A
  obtain ⟨T', h', X', e', W, k⟩ := stI X hx hZ eT A (j := j) (x := x) (in_of r1 hj (List.getElem?_eq_getElem hi)) (g := mkF m pc Ls (.int x :: .int j :: .ref a :: st)) rfl rfl hd
  exact (G T' h' X' e' W (A0.same W)).stp k
theorem g_castore (X : Stand p l e R s m args below meth c T locs cells slots) (hx : p.tables.exec = Jvm.exec) (hZ : Z.Warmed39 s.vm) (eT : T.heap = h) {a : Addr} {vs : List Value} {j x : Int32} (A : AV Z h a .char vs) (hj : ¬ j < 0) (hi : j.toNatClampNeg < vs.length) (hd : decode c.code pc = .ok (.castore, 1)) (pc' : Nat) (hp : pc + 1 = pc') (G : ∀ T' h', Stand p l e R s m args below meth c T' (locs ++ [⟨a, j.toNatClampNeg⟩]) cells slots → T'.heap = h' → Wr h h' a j.toNatClampNeg (.int (nar .char x)) → AV Z h' a .char (vs.set j.toNatClampNeg (.int (nar .char x))) → Go p e below P T' (mkF m pc' Ls st)) : Go p e below P T (mkF m pc Ls (.int x :: .int j :: .ref a :: st)) := by
  subst hp
  have A0 := A
  obtain ⟨cl, A, r1, r2⟩ := A
  obtain ⟨T', h', X', e', W, k⟩ := stC X hx hZ eT A (j := j) (x := x) (in_of r1 hj (List.getElem?_eq_getElem hi)) (g := mkF m pc Ls (.int x :: .int j :: .ref a :: st)) rfl rfl hd
  exact (G T' h' X' e' W (A0.same W)).stp k
theorem g_bastore (X : Stand p l e R s m args below meth c T locs cells slots) (hx : p.tables.exec = Jvm.exec) (hZ : Z.Warmed39 s.vm) (eT : T.heap = h) {a : Addr} {vs : List Value} {j x : Int32} (A : AV Z h a .byte vs) (hj : ¬ j < 0) (hi : j.toNatClampNeg < vs.length) (hd : decode c.code pc = .ok (.bastore, 1)) (pc' : Nat) (hp : pc + 1 = pc') (G : ∀ T' h', Stand p l e R s m args below meth c T' (locs ++ [⟨a, j.toNatClampNeg⟩]) cells slots → T'.heap = h' → Wr h h' a j.toNatClampNeg (.int (nar .byte x)) → AV Z h' a .byte (vs.set j.toNatClampNeg (.int (nar .byte x))) → Go p e below P T' (mkF m pc' Ls st)) : Go p e below P T (mkF m pc Ls (.int x :: .int j :: .ref a :: st)) := by
  subst hp
  have A0 := A
  obtain ⟨cl, A, r1, r2⟩ := A
  obtain ⟨T', h', X', e', W, k⟩ := stB X hx hZ eT A (j := j) (x := x) (in_of r1 hj (List.getElem?_eq_getElem hi)) (g := mkF m pc Ls (.int x :: .int j :: .ref a :: st)) rfl rfl hd
  exact (G T' h' X' e' W (A0.same W)).stp k
theorem g_newarray (X : Stand p l e R s m args below meth c T locs cells slots) (hx : p.tables.exec = Jvm.exec) (hZ : Z.Warmed39 s.vm) {aty : ArrayType} (w : (Cond.arrayClass (newarray.typeOf aty)).before a0 Z = true) (eT : T.heap = h) {n : Int32} (hn : ¬ n < 0) (cap : Nat) (hcap : n.toNatClampNeg ≤ cap) (hb : cap * 8 ≤ 536870912) (hc : cells + 1 ≤ R.cells) (hl : slots + cap ≤ R.slots) (vs : List Value) (hvs : vs = List.replicate n.toNatClampNeg (defaultValue (newarray.typeOf aty))) (hd : decode c.code pc = .ok (.newarray aty, 2)) (pc' : Nat) (hp : pc + 2 = pc') (G : ∀ T' h' b, Stand p l e R s m args below meth c T' locs (cells + 1) (slots + cap) → T'.heap = h' → b = h.size → Ext h h' → AV Z h' b (newarray.typeOf aty) vs → Go p e below P T' (mkF m pc' Ls (.ref b :: st))) : Go p e below P T (mkF m pc Ls (.int n :: st)) := by
  subst hp
  obtain ⟨T', h', cA, X', e', E, A, k⟩ := newP X hx hZ w eT (g := mkF m pc Ls (.int n :: st)) rfl hd rfl hn hcap hb hc hl
  exact (G T' h' h.size X' e' rfl E (AV.new A vs hvs (by omega))).stp k
theorem g_checkcast (X : Stand p l e R s m args below meth c T locs cells slots) (hx : p.tables.exec = Jvm.exec) (hZ : Z.Warmed39 s.vm) {own : String} (hown : s.vm.findClass own = some m.cls) {K : String} {i : Nat} (w : (Cond.classLink own i K).before a0 Z = true) {a : Addr} (F : Ins Z h a K true) (eT : T.heap = h) (hd : decode c.code pc = .ok (.checkcast i, 3)) (pc' : Nat) (hp : pc + 3 = pc') (G : ∀ T', Stand p l e R s m args below meth c T' locs cells slots → T'.heap = h → Go p e below P T' (mkF m pc' Ls (.ref a :: st))) : Go p e below P T (mkF m pc Ls (.ref a :: st)) := by
  subst hp
  obtain ⟨T', X', e', k⟩ := castY X hx hZ hown w eT F (g := mkF m pc Ls (.ref a :: st)) rfl rfl hd
  exact (G T' X' e').stp k
theorem g_instYes (X : Stand p l e R s m args below meth c T locs cells slots) (hx : p.tables.exec = Jvm.exec) (hZ : Z.Warmed39 s.vm) {own : String} (hown : s.vm.findClass own = some m.cls) {K : String} {i : Nat} (w : (Cond.classLink own i K).before a0 Z = true) {a : Addr} (F : Ins Z h a K true) (eT : T.heap = h) (hd : decode c.code pc = .ok (.instanceof i, 3)) (pc' : Nat) (hp : pc + 3 = pc') (G : ∀ T', Stand p l e R s m args below meth c T' locs cells slots → T'.heap = h → Go p e below P T' (mkF m pc' Ls (.int 1 :: st))) : Go p e below P T (mkF m pc Ls (.ref a :: st)) := by
  subst hp
  obtain ⟨T', X', e', k⟩ := instY X hx hZ hown w eT F (g := mkF m pc Ls (.ref a :: st)) rfl rfl hd
  exact (G T' X' e').stp k
theorem g_instNo (X : Stand p l e R s m args below meth c T locs cells slots) (hx : p.tables.exec = Jvm.exec) (hZ : Z.Warmed39 s.vm) {own : String} (hown : s.vm.findClass own = some m.cls) {K C : String} {i : Nat} (w : (Cond.classLink own i K).before a0 Z = true) {a : Addr} (E : Exa Z h a C) (F : ∃ c t, Z.vm.findClass C = some c ∧ Z.vm.findClass K = some t ∧ Z.vm.assignable c t = false) (eT : T.heap = h) (hd : decode c.code pc = .ok (.instanceof i, 3)) (pc' : Nat) (hp : pc + 3 = pc') (G : ∀ T', Stand p l e R s m args below meth c T' locs cells slots → T'.heap = h → Go p e below P T' (mkF m pc' Ls (.int 0 :: st))) : Go p e below P T (mkF m pc Ls (.ref a :: st)) := by
  subst hp
  obtain ⟨T', X', e', k⟩ := instNo X hx hZ hown w eT E F (g := mkF m pc Ls (.ref a :: st)) rfl rfl hd
  exact (G T' X' e').stp k
theorem g_instNull (X : Stand p l e R s m args below meth c T locs cells slots) (hx : p.tables.exec = Jvm.exec) {i : Nat} (hd : decode c.code pc = .ok (.instanceof i, 3)) (pc' : Nat) (hp : pc + 3 = pc') (G : Go p e below P T (mkF m pc' Ls (.int 0 :: st))) : Go p e below P T (mkF m pc Ls (.null :: st)) := by
  subst hp
  exact G.stp fun _ h => X.instanceofNull hx (g := mkF m pc Ls (.null :: st)) rfl rfl hd _ h
theorem g_aastore (X : Stand p l e R s m args below meth c T locs cells slots) (hx : p.tables.exec = Jvm.exec) (hZ : Z.Warmed39 s.vm) (eT : T.heap = h) {a : Addr} {ty : FieldType} {vs : List Value} {j : Int32} {x : Value} (A : AV Z h a ty vs) (hty : ty.isReference = true) (F : Sto Z h a x) (hj : ¬ j < 0) (hi : j.toNatClampNeg < vs.length) (hd : decode c.code pc = .ok (.aastore, 1)) (pc' : Nat) (hp : pc + 1 = pc') (G : ∀ T' h', Stand p l e R s m args below meth c T' (locs ++ [⟨a, j.toNatClampNeg⟩]) cells slots → T'.heap = h' → Wr h h' a j.toNatClampNeg x → AV Z h' a ty (vs.set j.toNatClampNeg x) → Go p e below P T' (mkF m pc' Ls st)) : Go p e below P T (mkF m pc Ls (x :: .int j :: .ref a :: st)) := by
  subst hp
  have A0 := A
  obtain ⟨cl, A, r1, r2⟩ := A
  obtain ⟨T', h', X', e', W, k⟩ := stR X hx hZ eT A (j := j) (v := x) (in_of r1 hj (List.getElem?_eq_getElem hi)) hty F (g := mkF m pc Ls (x :: .int j :: .ref a :: st)) rfl rfl hd
  exact (G T' h' X' e' W (A0.same W)).stp k
/-- what may lie in the array at a: objects of C -/
def Ov (Z : State) (h : Heap) (a : Addr) (C : String) : Prop := ∃ c : Cell, h[a]? = some c ∧ Ovr Z c.cls C
theorem Ov.keep {h' : Heap} {a : Addr} {ws : List Addr} {C : String} (F : Ov Z h a C) (K : Keep h h' ws) : Ov Z h' a C := by obtain ⟨c, h1, o⟩ := F; obtain ⟨c', h2, e, -⟩ := K.2.2 a c h1; exact ⟨c', h2, by rw [e]; exact o⟩
theorem Ov.ext {h' : Heap} {a : Addr} {C : String} (F : Ov Z h a C) (E : Ext h h') : Ov Z h' a C := by obtain ⟨c, h1, o⟩ := F; exact ⟨c, E.2 _ _ h1, o⟩
theorem Ov.wr {h' : Heap} {a b : Addr} {sl : Nat} {v : Value} {C : String} (F : Ov Z h a C) (W : Wr h h' b sl v) : Ov Z h' a C := by obtain ⟨c, h1, o⟩ := F; obtain ⟨c', h2, e, -⟩ := wr_at W h1; exact ⟨c', h2, by rw [e]; exact o⟩
theorem Ov.lt {a : Addr} {C : String} (F : Ov Z h a C) : a < h.size := by obtain ⟨c, h1, -⟩ := F; exact (Array.getElem?_eq_some_iff.mp h1).1
theorem Ov.sto {a y : Addr} {C : String} {ty : FieldType} {vs : List Value} (F : Ov Z h a C) (A : AV Z h a ty vs) (I : Ins Z h y C true) : Sto Z h a (.ref y) := by
  obtain ⟨c, h1, o⟩ := F
  obtain ⟨c', A', -⟩ := A
  cases h1.symm.trans A'.1
  exact Sto.of A' o I
theorem g_anewarray (X : Stand p l e R s m args below meth c T locs cells slots) (hx : p.tables.exec = Jvm.exec) (hZ : Z.Warmed39 s.vm) {own : String} (hown : s.vm.findClass own = some m.cls) {C : String} {i : Nat} (w1 : (Cond.classLink own i C).before a0 Z = true) (w2 : (Cond.arrayOver (.object C)).before a0 Z = true) (eT : T.heap = h) {n : Int32} (hn : ¬ n < 0) (cap : Nat) (hcap : n.toNatClampNeg ≤ cap) (hb : cap * 8 ≤ 536870912) (hc : cells + 1 ≤ R.cells) (hl : slots + cap ≤ R.slots) (vs : List Value) (hvs : vs = List.replicate n.toNatClampNeg .null) (hd : decode c.code pc = .ok (.anewarray i, 3)) (pc' : Nat) (hp : pc + 3 = pc') (G : ∀ T' h' b, Stand p l e R s m args below meth c T' locs (cells + 1) (slots + cap) → T'.heap = h' → b = h.size → Ext h h' → AV Z h' b (.object C) vs → Ov Z h' b C → Go p e below P T' (mkF m pc' Ls (.ref b :: st))) : Go p e below P T (mkF m pc Ls (.int n :: st)) := by
  subst hp
  obtain ⟨T', h', cA, X', e', E, A, O, k⟩ := newR X hx hZ hown w1 w2 eT (g := mkF m pc Ls (.int n :: st)) rfl hd rfl hn hcap hb hc hl
  exact (G T' h' h.size X' e' rfl E (AV.new A vs hvs (by omega)) ⟨_, A.1, O⟩).stp k
theorem g_reti (X : Stand p l e R s m args below meth c T locs cells slots) (hx : p.tables.exec = Jvm.exec) {z : Int32} (hret : meth.sig.returnType = some .int) (hlk : meth.locks = false) {k n : Nat} {Q : Option Value → Heap → List Loc → Prop} (hk : cells ≤ k) (hn : slots ≤ n) (hd : decode c.code pc = .ok (.ireturn, 1)) (hq : Q (some (.int z)) T.heap locs) : Go p e below (RP s k n Q) T (mkF m pc Ls (.int z :: st)) := by
  obtain ⟨fs, hr, hrun, hended, hW, hsame⟩ := X.leave (v := (some (.int z))) (fun h => by first | rfl | (rw [hret] at h; cases h)) hlk
  exact ⟨_, _, retOut X hx hret rfl (Or.inl ⟨rfl, Or.inl rfl, z, rfl⟩) hd hr, hrun, hended, _, _, rfl, hq, ⟨_, rfl⟩, hW, hsame.mono hk hn⟩
theorem g_retz (X : Stand p l e R s m args below meth c T locs cells slots) (hx : p.tables.exec = Jvm.exec) {z : Int32} (hret : meth.sig.returnType = some .boolean) (hlk : meth.locks = false) {k n : Nat} {Q : Option Value → Heap → List Loc → Prop} (hk : cells ≤ k) (hn : slots ≤ n) (hd : decode c.code pc = .ok (.ireturn, 1)) (hq : Q (some (.int (z &&& 1))) T.heap locs) : Go p e below (RP s k n Q) T (mkF m pc Ls (.int z :: st)) := by
  obtain ⟨fs, hr, hrun, hended, hW, hsame⟩ := X.leave (v := (some (.int (z &&& 1)))) (fun h => by first | rfl | (rw [hret] at h; cases h)) hlk
  exact ⟨_, _, retN X hx (t := .boolean) hret (by simp) hd hr, hrun, hended, _, _, rfl, hq, ⟨_, rfl⟩, hW, hsame.mono hk hn⟩
theorem g_retb (X : Stand p l e R s m args below meth c T locs cells slots) (hx : p.tables.exec = Jvm.exec) {z : Int32} (hret : meth.sig.returnType = some .byte) (hlk : meth.locks = false) {k n : Nat} {Q : Option Value → Heap → List Loc → Prop} (hk : cells ≤ k) (hn : slots ≤ n) (hd : decode c.code pc = .ok (.ireturn, 1)) (hq : Q (some (.int z.toInt8.toInt32)) T.heap locs) : Go p e below (RP s k n Q) T (mkF m pc Ls (.int z :: st)) := by
  obtain ⟨fs, hr, hrun, hended, hW, hsame⟩ := X.leave (v := (some (.int z.toInt8.toInt32))) (fun h => by first | rfl | (rw [hret] at h; cases h)) hlk
  exact ⟨_, _, retN X hx (t := .byte) hret (by simp) hd hr, hrun, hended, _, _, rfl, hq, ⟨_, rfl⟩, hW, hsame.mono hk hn⟩
theorem g_retl (X : Stand p l e R s m args below meth c T locs cells slots) (hx : p.tables.exec = Jvm.exec) {z : Int64} (hret : meth.sig.returnType = some .long) (hlk : meth.locks = false) {k n : Nat} {Q : Option Value → Heap → List Loc → Prop} (hk : cells ≤ k) (hn : slots ≤ n) (hd : decode c.code pc = .ok (.lreturn, 1)) (hq : Q (some (.long z)) T.heap locs) : Go p e below (RP s k n Q) T (mkF m pc Ls (.long z :: st)) := by
  obtain ⟨fs, hr, hrun, hended, hW, hsame⟩ := X.leave (v := (some (.long z))) (fun h => by first | rfl | (rw [hret] at h; cases h)) hlk
  exact ⟨_, _, retOut X hx hret rfl (Or.inr (Or.inl ⟨rfl, rfl, z, rfl⟩)) hd hr, hrun, hended, _, _, rfl, hq, ⟨_, rfl⟩, hW, hsame.mono hk hn⟩
theorem g_reta (X : Stand p l e R s m args below meth c T locs cells slots) (hx : p.tables.exec = Jvm.exec) {v : Value} {t : FieldType} (hv : v.isRef = true) (ht : t.isReference = true) (hret : meth.sig.returnType = some t) (hlk : meth.locks = false) {k n : Nat} {Q : Option Value → Heap → List Loc → Prop} (hk : cells ≤ k) (hn : slots ≤ n) (hd : decode c.code pc = .ok (.areturn, 1)) (hq : Q (some v) T.heap locs) : Go p e below (RP s k n Q) T (mkF m pc Ls (v :: st)) := by
  obtain ⟨fs, hr, hrun, hended, hW, hsame⟩ := X.leave (v := (some v)) (fun h => by first | rfl | (rw [hret] at h; cases h)) hlk
  exact ⟨_, _, retOut X hx hret (by cases t <;> first | (cases ht; done) | rfl) (Or.inr (Or.inr (Or.inr (Or.inr ⟨rfl, ht, hv⟩)))) hd hr, hrun, hended, _, _, rfl, hq, ⟨_, rfl⟩, hW, hsame.mono hk hn⟩
theorem g_retv (X : Stand p l e R s m args below meth c T locs cells slots) (hx : p.tables.exec = Jvm.exec) (hret : meth.sig.returnType = none) (hlk : meth.locks = false) {k n : Nat} {Q : Option Value → Heap → List Loc → Prop} (hk : cells ≤ k) (hn : slots ≤ n) (hd : decode c.code pc = .ok (.return_, 1)) (hq : Q none T.heap locs) : Go p e below (RP s k n Q) T (mkF m pc Ls []) := by
  obtain ⟨fs, hr, hrun, hended, hW, hsame⟩ := X.leave (v := none) (fun _ => rfl) hlk
  exact ⟨_, _, X.returnOut hx hret hd hr, hrun, hended, _, _, rfl, hq, ⟨_, rfl⟩, hW, hsame.mono hk hn⟩
/-- what a method does, called with these arguments over this heap -/
def Co (l : Launch) (y : MethodName) (bytes : ByteArray) (maxL : Nat) (ret : Option FieldType) (ws : List Jvm.Cond) (rm : Room) (Z : State) (h : Heap) (as : Array Value) (Q : Option Value → Heap → List Loc → Prop) : Prop := MetFree l y (head1 (Jvm.Cond.code y bytes maxL ret :: ws) rm) (fun a U => a = as ∧ Z.Warmed39 U.vm ∧ U.heap = h) (fun _ _ _ _ _ => True) (fun _ U o U' => ∃ v L, o = .returned v ∧ Q v U'.heap L ∧ FrameEnd U o U' L rm.cells rm.slots)
theorem Co.of {y : MethodName} {bytes : ByteArray} {maxL : Nat} {ret : Option FieldType} {ws : List Jvm.Cond} {rm : Room} {as : Array Value} {Q : Option Value → Heap → List Loc → Prop} (hpl : plainFor y = true) (body : ∀ (p : Program) (e : Env) (s : State) (m : MethodId) (below : List Frame) (meth : Method) (c : Code) (T : State), Stand p l e rm s m as below meth c T [] 0 0 → p.tables.exec = Jvm.exec → c.code = bytes → c.maxLocals = maxL → s.vm.findClass y.cls = some m.cls → meth.name = y.name → meth.sig.returnType = ret → meth.locks = false → Z.Warmed39 s.vm → T.heap = h → Go p e below (RP s rm.cells rm.slots Q) T (entryFrame m as maxL)) : Co l y bytes maxL ret ws rm Z h as Q := by
  refine MetFree.of_bodySF hpl hisR ?_
  intro p e s m args below meth c s₁ Bd hml hP hK
  obtain ⟨rfl, hZ, hh⟩ := hP
  exact body p e s m below meth c s₁ (Stand.of_body Bd) Bd.exec Bd.bytes hml (findClass_of_methodNamed Bd.named) (name_of_methodNamed Bd.named Bd.method).1 Bd.returns (BodyLoose.notSynchronized Bd) hZ (by rw [← hh, Bd.state]; rfl)
theorem g_callS (X : Stand p l e R s m args below meth c T locs cells slots) (hx : p.tables.exec = Jvm.exec) (hZ : Z.Warmed39 s.vm) {own : String} (hown : s.vm.findClass own = some m.cls) {i : Nat} {y : MethodName} {bytes : ByteArray} {maxL : Nat} {ret : Option FieldType} (w1 : (Cond.methodLink own i y).before a0 Z = true) (w2 : (Cond.static y).before a0 Z = true) (w3 : (Cond.initialized y.cls).before a0 Z = true) (w4 : (Cond.code y bytes maxL ret).before a0 Z = true)  (hy : y.cls ≠ "java/lang/invoke/MethodHandle" ∧ y.cls ≠ "java/lang/invoke/VarHandle") (eT : T.heap = h) {rm : Room} {Q : Option Value → Heap → List Loc → Prop} {St : List Value} (argsL rest : List Value) (hs : St = argsL.reverse ++ rest) (M : Co l y bytes maxL ret [] rm Z h argsL.toArray Q) (hlen : ∀ sig, parseMethodDescriptor y.desc = some sig → argsL.length = sig.parameters.length) (W : Nat) (hW : (rest.map fun v => v.category).sum ≤ W) (hf : rm.frames + 1 ≤ R.frames) (hl : W + (maxL + 11) + rm.locals ≤ R.locals) (hc : cells + rm.cells ≤ R.cells) (hsl : slots + rm.slots ≤ R.slots) (hsz : Ls.size = c.maxLocals) (hd : decode c.code pc = .ok (.invokestatic i, 3)) (pc' : Nat) (hp : pc + 3 = pc') (G : ∀ v T' L, Stand p l e R s m args below meth c T' (locs ++ L) (cells + rm.cells) (slots + rm.slots) → Q v T'.heap L → Go p e below P T' (mkF m pc' Ls (v.toList ++ rest))) : Go p e below P T (mkF m pc Ls St) := by
  subst hp
  obtain ⟨v, vm1, ⟨T', L', k', n'⟩, -, X', ⟨L, hQ, h1, h2, h3⟩, k⟩ := Jvm.LawKit.callS X hx (y := y) hown (mvT hZ w1) (mvT hZ w2) (mvT hZ w3) (mvT hZ w4) hy (backOf (W := W) M hZ w4 w3 hf hl) (g := mkF m pc Ls St) rfl hsz (argsL := argsL) (rest := rest) hlen hs (by show 2 * 0 + _ ≤ W; omega) hd (fun _ _ => ⟨rfl, eT, hc, hsl⟩)
  dsimp only [Pt.U, Pt.locs, Pt.cells, Pt.slots] at X' h1 h2 h3 k hQ
  subst h1 h2 h3
  exact (G v T' L X' hQ).stp k
theorem g_init (X : Stand p l e R s m args below meth c T locs cells slots) (hx : p.tables.exec = Jvm.exec) (hZ : Z.Warmed39 s.vm) {own : String} (hown : s.vm.findClass own = some m.cls) {i : Nat} {y : MethodName} {bytes : ByteArray} {maxL : Nat} (w1 : (Cond.methodLink own i y).before a0 Z = true) (hnm : y.name = "<init>") (w2 : (Cond.instanceMethod y).before a0 Z = true) (w3 : (Cond.initialized y.cls).before a0 Z = true) (w4 : (Cond.code y bytes maxL none).before a0 Z = true)  (hy : y.cls ≠ "java/lang/invoke/MethodHandle" ∧ y.cls ≠ "java/lang/invoke/VarHandle") (eT : T.heap = h) {rm : Room} {Q : Option Value → Heap → List Loc → Prop} {St : List Value} (argsL rest : List Value) {a : Addr} (hs : St = argsL.reverse ++ .ref a :: rest) (M : Co l y bytes maxL none [] rm Z h (.ref a :: argsL).toArray Q) (hlen : ∀ sig, parseMethodDescriptor y.desc = some sig → argsL.length = sig.parameters.length) (W : Nat) (hW : (rest.map fun v => v.category).sum ≤ W) (hf : rm.frames + 1 ≤ R.frames) (hl : W + (maxL + 11) + rm.locals ≤ R.locals) (hc : cells + rm.cells ≤ R.cells) (hsl : slots + rm.slots ≤ R.slots) (hsz : Ls.size = c.maxLocals) (hd : decode c.code pc = .ok (.invokespecial i, 3)) (pc' : Nat) (hp : pc + 3 = pc') (G : ∀ v T' L, Stand p l e R s m args below meth c T' (locs ++ L) (cells + rm.cells) (slots + rm.slots) → Q v T'.heap L → Go p e below P T' (mkF m pc' Ls (v.toList ++ rest))) : Go p e below P T (mkF m pc Ls St) := by
  subst hp
  obtain ⟨v, vm1, ⟨T', L', k', n'⟩, -, X', ⟨L, hQ, h1, h2, h3⟩, k⟩ := X.specialBack hx (y := y) hnm hown (mvT hZ w1) (mvT hZ w2) (mvT hZ w4) hy (backOf (W := W) M hZ w4 w3 hf hl) (g := mkF m pc Ls St) rfl hsz (Steps.refl _) (a := a) (argsL := argsL) (rest := rest) hlen hs (by show 2 * 0 + _ ≤ W; omega) hd (fun _ _ => ⟨rfl, eT, hc, hsl⟩)
  dsimp only [Pt.U, Pt.locs, Pt.cells, Pt.slots] at X' h1 h2 h3 k hQ
  subst h1 h2 h3
  exact (G v T' L X' hQ).stp fun _ j => k.trans j
theorem g_callV (X : Stand p l e R s m args below meth c T locs cells slots) (hx : p.tables.exec = Jvm.exec) (hZ : Z.Warmed39 s.vm) {own : String} (hown : s.vm.findClass own = some m.cls) {i : Nat} {y : MethodName} {bytes : ByteArray} {maxL : Nat} {ret : Option FieldType} (w1 : (Cond.methodLink own i y).before a0 Z = true) {C : String} (w2 : (Cond.declares y).before a0 Z = true) (w5 : (Cond.selects C y y).before a0 Z = true) (w6 : (Cond.instanceMethod y).before a0 Z = true) (w3 : (Cond.initialized y.cls).before a0 Z = true) (w4 : (Cond.code y bytes maxL ret).before a0 Z = true)  (hy : y.cls ≠ "java/lang/invoke/MethodHandle" ∧ y.cls ≠ "java/lang/invoke/VarHandle") (eT : T.heap = h) {rm : Room} {Q : Option Value → Heap → List Loc → Prop} {St : List Value} (argsL rest : List Value) {a : Addr} (E : Exa Z h a C) (hs : St = argsL.reverse ++ .ref a :: rest) (M : Co l y bytes maxL ret [] rm Z h (.ref a :: argsL).toArray Q) (hlen : ∀ sig, parseMethodDescriptor y.desc = some sig → argsL.length = sig.parameters.length) (W : Nat) (hW : (rest.map fun v => v.category).sum ≤ W) (hf : rm.frames + 1 ≤ R.frames) (hl : W + (maxL + 11) + rm.locals ≤ R.locals) (hc : cells + rm.cells ≤ R.cells) (hsl : slots + rm.slots ≤ R.slots) (hsz : Ls.size = c.maxLocals) (hd : decode c.code pc = .ok (.invokevirtual i, 3)) (pc' : Nat) (hp : pc + 3 = pc') (G : ∀ v T' L, Stand p l e R s m args below meth c T' (locs ++ L) (cells + rm.cells) (slots + rm.slots) → Q v T'.heap L → Go p e below P T' (mkF m pc' Ls (v.toList ++ rest))) : Go p e below P T (mkF m pc Ls St) := by
  subst hp
  obtain ⟨cq, kq, qa, qb, qc⟩ := isOf hZ eT E
  obtain ⟨v, vm1, ⟨T', L', k', n'⟩, -, X', ⟨L, hQ, h1, h2, h3⟩, k⟩ := X.virtualBack hx (y := y) (z := y) hown (mvT hZ w1) (mvT hZ w2) (notFace_of_selects (args := #[]) (mvT hZ w5)) (mvT hZ w5) (mvT hZ w6) hy (backOf (W := W) M hZ w4 w3 hf hl) qa qc (g := mkF m pc Ls St) rfl hsz (Steps.refl _) (argsL := argsL) (rest := rest) hlen hs (by show 2 * 0 + _ ≤ W; omega) hd (fun _ _ => ⟨rfl, eT, hc, hsl⟩)
  dsimp only [Pt.U, Pt.locs, Pt.cells, Pt.slots] at X' h1 h2 h3 k hQ
  subst h1 h2 h3
  exact (G v T' L X' hQ).stp fun _ j => k.trans j
theorem g_callP (X : Stand p l e R s m args below meth c T locs cells slots) (hx : p.tables.exec = Jvm.exec) (hZ : Z.Warmed39 s.vm) {own : String} (hown : s.vm.findClass own = some m.cls) {i : Nat} {y : MethodName} {bytes : ByteArray} {maxL : Nat} {ret : Option FieldType} (w1 : (Cond.methodLink own i y).before a0 Z = true) {n : Nat} (w2 : (Cond.instanceMethod y).before a0 Z = true) (w5 : (Cond.privateMethod y).before a0 Z = true) (wi : (Cond.instantiable y.cls n).before a0 Z = true) (w3 : (Cond.initialized y.cls).before a0 Z = true) (w4 : (Cond.code y bytes maxL ret).before a0 Z = true)  (hy : y.cls ≠ "java/lang/invoke/MethodHandle" ∧ y.cls ≠ "java/lang/invoke/VarHandle") (eT : T.heap = h) {rm : Room} {Q : Option Value → Heap → List Loc → Prop} {St : List Value} (argsL rest : List Value) {a : Addr} (E : Exa Z h a y.cls) (hs : St = argsL.reverse ++ .ref a :: rest) (M : Co l y bytes maxL ret [] rm Z h (.ref a :: argsL).toArray Q) (hlen : ∀ sig, parseMethodDescriptor y.desc = some sig → argsL.length = sig.parameters.length) (W : Nat) (hW : (rest.map fun v => v.category).sum ≤ W) (hf : rm.frames + 1 ≤ R.frames) (hl : W + (maxL + 11) + rm.locals ≤ R.locals) (hc : cells + rm.cells ≤ R.cells) (hsl : slots + rm.slots ≤ R.slots) (hsz : Ls.size = c.maxLocals) (hd : decode c.code pc = .ok (.invokevirtual i, 3)) (pc' : Nat) (hp : pc + 3 = pc') (G : ∀ v T' L, Stand p l e R s m args below meth c T' (locs ++ L) (cells + rm.cells) (slots + rm.slots) → Q v T'.heap L → Go p e below P T' (mkF m pc' Ls (v.toList ++ rest))) : Go p e below P T (mkF m pc Ls St) := by
  subst hp
  obtain ⟨cl, q1, q2⟩ := E.cell
  have wi' : (Cond.instantiable y.cls n).before args s = true := mv hZ wi
  obtain ⟨ci, ki, i1, i2, i3, i4, -⟩ := Cond.instantiable_spec wi'
  have hpr : s.PrivateAt y := Cond.privateMethod_at (mvP hZ w5 (args := #[]))
  have hsel : (Cond.selects y.cls y y).before args s = true := selects_self_of_private i1 i2 (by simp only [Bool.or_eq_false_iff] at i4; exact i4.1) hpr (mv hZ w2) hy
  obtain ⟨v, vm1, ⟨T', L', k', n'⟩, -, X', ⟨L, hQ, h1, h2, h3⟩, k⟩ := X.privateBack hx (y := y) hown (mvT hZ w1) (mvT hZ w2) hsel hpr (mvT hZ w4) hy (backOf (W := W) M hZ w4 w3 hf hl) (g := mkF m pc Ls St) rfl hsz (Steps.refl _) (a := a) (by rw [eT]; exact q1) q2 (argsL := argsL) (rest := rest) hlen hs (by show 2 * 0 + _ ≤ W; omega) hd (fun _ _ => ⟨rfl, eT, hc, hsl⟩)
  dsimp only [Pt.U, Pt.locs, Pt.cells, Pt.slots] at X' h1 h2 h3 k hQ
  subst h1 h2 h3
  exact (G v T' L X' hQ).stp fun _ j => k.trans j
def Pu (h : Heap) (v : Option Value) (r : Option Value) (h' : Heap) (L : List Loc) : Prop := r = v ∧ h' = h ∧ L = []
theorem pu_cont {v : Option Value} {fr lo : Nat} {pc' : Nat} {rest : List Value} (G : ∀ T', Stand p l e R s m args below meth c T' locs cells slots → T'.heap = h → Go p e below P T' (mkF m pc' Ls (v.toList ++ rest))) : ∀ v' T' L, Stand p l e R s m args below meth c T' (locs ++ L) (cells + ({ frames := fr, cells := 0, slots := 0, locals := lo } : Room).cells) (slots + ({ frames := fr, cells := 0, slots := 0, locals := lo } : Room).slots) → Pu h v v' T'.heap L → Go p e below P T' (mkF m pc' Ls (v'.toList ++ rest)) := by
  rintro v' T' L X ⟨rfl, e1, rfl⟩
  exact G T' (by simpa using X) e1
theorem Go.joinT {α : Type} {g : JFrame} (X : Stand p l e R s m args below meth c T locs cells slots) (eT : T.heap = h) (f : α → JFrame) (Pz : α → Prop) (J : ∀ T', Stand p l e R s m args below meth c T' locs cells slots → T'.heap = h → ∀ z, Pz z → Go p e below P T' (f z)) (K : (∀ T', Stand p l e R s m args below meth c T' locs cells slots → T'.heap = h → ∀ z, Pz z → Go p e below P T' (f z)) → Go p e below P T g) : Go p e below P T g := K J
theorem Go.joinH {α : Type} {g : JFrame} (X : Stand p l e R s m args below meth c T locs cells slots) (f : α → JFrame) (Pz : Heap → List Loc → α → Prop) (kc kn : Nat) (J : ∀ T' h' locs', Stand p l e R s m args below meth c T' locs' kc kn → T'.heap = h' → ∀ z, Pz h' locs' z → Go p e below P T' (f z)) (K : (∀ T' h' locs', Stand p l e R s m args below meth c T' locs' kc kn → T'.heap = h' → ∀ z, Pz h' locs' z → Go p e below P T' (f z)) → Go p e below P T g) : Go p e below P T g := K J
theorem Go.loop {α : Type} (X : Stand p l e R s m args below meth c T locs cells slots) (eT : T.heap = h) (f : α → JFrame) (μ : α → Nat) (Pz : α → Prop) (body : ∀ z, Pz z → (∀ T', Stand p l e R s m args below meth c T' locs cells slots → T'.heap = h → ∀ z', Pz z' → μ z' < μ z → Go p e below P T' (f z')) → ∀ T', Stand p l e R s m args below meth c T' locs cells slots → T'.heap = h → Go p e below P T' (f z)) (z : α) (hz : Pz z) : Go p e below P T (f z) := by
  have key : ∀ n, ∀ z, μ z < n → Pz z → ∀ T', Stand p l e R s m args below meth c T' locs cells slots → T'.heap = h → Go p e below P T' (f z) := by
    intro n
    induction n with
    | zero => intro z hn; exact absurd hn (Nat.not_lt_zero _)
    | succ n ih =>
      intro z hn hz T' X' e'
      exact body z hz (fun T2 X2 e2 z2 hz2 hlt => ih z2 (by omega) hz2 T2 X2 e2) T' X' e'
  exact key (μ z + 1) z (Nat.lt_succ_self _) hz T X eT
theorem Go.loopH {α : Type} (X : Stand p l e R s m args below meth c T locs cells slots) (eT : T.heap = h) (f : α → JFrame) (μ : α → Nat) (Pz : Heap → List Loc → α → Prop) (body : ∀ z h' locs', Pz h' locs' z → (∀ T' h2 locs2, Stand p l e R s m args below meth c T' locs2 cells slots → T'.heap = h2 → ∀ z', Pz h2 locs2 z' → μ z' < μ z → Go p e below P T' (f z')) → ∀ T', Stand p l e R s m args below meth c T' locs' cells slots → T'.heap = h' → Go p e below P T' (f z)) (z : α) (hz : Pz h locs z) : Go p e below P T (f z) := by
  have key : ∀ n, ∀ z h' locs', μ z < n → Pz h' locs' z → ∀ T', Stand p l e R s m args below meth c T' locs' cells slots → T'.heap = h' → Go p e below P T' (f z) := by
    intro n
    induction n with
    | zero => intro z h' locs' hn; exact absurd hn (Nat.not_lt_zero _)
    | succ n ih =>
      intro z h' locs' hn hz T' X' e'
      exact body z h' locs' hz (fun T2 h2 locs2 X2 e2 z2 hz2 hlt => ih z2 h2 locs2 (by omega) hz2 T2 X2 e2) T' X' e'
  exact key (μ z + 1) z h locs (Nat.lt_succ_self _) hz T X eT
theorem own_sta_keep {C n d : String} {v : Value} {h' : Heap} {ws : List Addr} (F : Sta Z h C n d v) (K : Keep h h' ws) (q : ∀ x ∈ ws, ∀ cell : Cell, h[x]? = some cell → cell.vm.isStatics = false) : Sta Z h' C n d v := by
  obtain ⟨cf, i, k, f, st, cell, h1, h2, h3, h4, h5, h6, h7⟩ := F
  exact ⟨cf, i, k, f, st, cell, h1, h2, h3, h4, K.2.1 st cell h5 (fun hm => by rw [q st hm cell h5] at h6; cases h6), h6, h7⟩
end OwnGo
theorem d1_0 : decode method_2_code 0 = .ok (.bipush 48, 2) := by decide +kernel
theorem d1_2 : decode method_2_code 2 = .ok (.lload_n 0, 1) := by decide +kernel
theorem d1_3 : decode method_2_code 3 = .ok (.iload_n 2, 1) := by decide +kernel
theorem d1_4 : decode method_2_code 4 = .ok (.iconst 2, 1) := by decide +kernel
theorem d1_5 : decode method_2_code 5 = .ok (.ishl, 1) := by decide +kernel
theorem d1_6 : decode method_2_code 6 = .ok (.lushr, 1) := by decide +kernel
theorem d1_7 : decode method_2_code 7 = .ok (.ldc2_w 7, 3) := by decide +kernel
theorem d1_10 : decode method_2_code 10 = .ok (.land, 1) := by decide +kernel
theorem d1_11 : decode method_2_code 11 = .ok (.ldc2_w 9, 3) := by decide +kernel
theorem d1_14 : decode method_2_code 14 = .ok (.lrem, 1) := by decide +kernel
theorem d1_15 : decode method_2_code 15 = .ok (.l2i, 1) := by decide +kernel
theorem d1_16 : decode method_2_code 16 = .ok (.iadd, 1) := by decide +kernel
theorem d1_17 : decode method_2_code 17 = .ok (.i2b, 1) := by decide +kernel
def f1 (q0 : Int64) (x0 : Int32) : Int32 := ((48 : Int32) + (((XT.ushrL q0 (x0 <<< ((2 : Int32) &&& 31))) &&& (15 : Int64)) % (10 : Int64)).toInt32).toInt8.toInt32.toInt8.toInt32
theorem ef1 (m_ : MethodId) (q0 : Int64) (x0 : Int32)  : entryFrame m_ #[(.long q0), (.int x0)] 3 = mkF m_ 0 #[.val (.long q0), .second, .val (.int x0)] [] := by first | (simp [entryFrame, mkF, argsToLocals, Value.category]; done) | rfl
theorem pn_0 : plainName "com/example/weigh/weigh/usage/UsageLayoutIsNumberPinLaw" = true := by first | (simp [plainName, overriddenIn]; done) | decide +kernel
theorem d1_18 : decode method_2_code 18 = .ok (.ireturn, 1) := by decide +kernel
set_option maxRecDepth 65536 in
set_option maxHeartbeats 40000000 in
theorem co1 (l : Launch) (Z : State) (a0 : Array Value) (hw : ∀ d ∈ tables_1, d.before a0 Z = true) (q0 : Int64) (x0 : Int32) (h0 : Heap)  : Co l (⟨"com/example/weigh/weigh/usage/UsageLayoutIsNumberPinLaw", "dig", "(JI)B"⟩ : MethodName) method_2_code 3 (some .byte) [] ({ frames := 0, cells := 0, slots := 0, locals := 0 } : Room) Z h0 #[(.long q0), (.int x0)] (Pu h0 (some (.int (f1 q0 x0)))) := by
  refine Co.of (plainFor_of_name pn_0) ?_
  intro p_ e_ s_ m_ below meth c_ T0 X0 hx hby hml hown hnm hret hlk hZ e0
  refine Go.cast (ef1 m_ q0 x0 ) ?_
  refine g_bipush X0 hx (48 : Int32) rfl (hb hby d1_0) 2 rfl ?_
  refine g_lloadN X0 hx rfl (hb hby d1_2) 3 rfl ?_
  refine g_iloadN X0 hx rfl (hb hby d1_3) 4 rfl ?_
  refine g_iconst X0 hx (2 : Int32) rfl (hb hby d1_4) 5 rfl ?_
  refine g_ishl X0 hx (hb hby d1_5) 6 rfl ?_
  refine g_lushr X0 hx (hb hby d1_6) 7 rfl ?_
  refine g_ldc2_w X0 hx hZ hown (wd hw 5 rfl) (hb hby d1_7) 10 rfl ?_
  refine g_land X0 hx (hb hby d1_10) 11 rfl ?_
  refine g_ldc2_w X0 hx hZ hown (wd hw 6 rfl) (hb hby d1_11) 14 rfl ?_
  refine g_lrem X0 hx (by decide) (hb hby d1_14) 15 rfl ?_
  refine g_l2i X0 hx (hb hby d1_15) 16 rfl ?_
  refine g_iadd X0 hx (hb hby d1_16) 17 rfl ?_
  refine g_i2b X0 hx (hb hby d1_17) 18 rfl ?_
  exact g_retb X0 hx hret hlk (by decide) (by decide) (hb hby d1_18) ⟨congrArg (fun z => some (Value.int z)) rfl.symm, e0, rfl⟩
theorem d2_0 : decode method_3_code 0 = .ok (.iload_n 0, 1) := by decide +kernel
theorem d2_1 : decode method_3_code 1 = .ok (.bipush 48, 2) := by decide +kernel
theorem d2_3 : decode method_3_code 3 = .ok (.if_icmp .lt 13, 3) := by decide +kernel
theorem d2_16 : decode method_3_code 16 = .ok (.iconst 0, 1) := by decide +kernel
theorem d2_6 : decode method_3_code 6 = .ok (.iload_n 0, 1) := by decide +kernel
theorem d2_7 : decode method_3_code 7 = .ok (.bipush 57, 2) := by decide +kernel
theorem d2_9 : decode method_3_code 9 = .ok (.if_icmp .gt 7, 3) := by decide +kernel
theorem d2_12 : decode method_3_code 12 = .ok (.iconst 1, 1) := by decide +kernel
theorem d2_13 : decode method_3_code 13 = .ok (.goto 4, 3) := by decide +kernel
def f2 (x0 : Int32) : Int32 := if x0 < (48 : Int32) then ((0 : Int32) &&& 1) else (if (57 : Int32) < x0 then ((0 : Int32) &&& 1) else ((1 : Int32) &&& 1))
theorem ef2 (m_ : MethodId) (x0 : Int32)  : entryFrame m_ #[(.int x0)] 1 = mkF m_ 0 #[.val (.int x0)] [] := by first | (simp [entryFrame, mkF, argsToLocals, Value.category]; done) | rfl
theorem d2_17 : decode method_3_code 17 = .ok (.ireturn, 1) := by decide +kernel
set_option maxRecDepth 65536 in
set_option maxHeartbeats 40000000 in
theorem co2 (l : Launch) (Z : State) (a0 : Array Value) (hw : ∀ d ∈ tables_1, d.before a0 Z = true) (x0 : Int32) (h0 : Heap)  : Co l (⟨"com/example/weigh/weigh/usage/UsageLayoutIsNumberPinLaw", "d", "(B)Z"⟩ : MethodName) method_3_code 1 (some .boolean) [] ({ frames := 0, cells := 0, slots := 0, locals := 0 } : Room) Z h0 #[(.int x0)] (Pu h0 (some (.int (f2 x0)))) := by
  refine Co.of (plainFor_of_name pn_0) ?_
  intro p_ e_ s_ m_ below meth c_ T0 X0 hx hby hml hown hnm hret hlk hZ e0
  refine Go.cast (ef2 m_ x0 ) ?_
  refine g_iloadN X0 hx rfl (hb hby d2_0) 1 rfl ?_
  refine g_bipush X0 hx (48 : Int32) rfl (hb hby d2_1) 3 rfl ?_
  refine g_icmp_lt X0 hx (hb hby d2_3) 16 6 (by decide) rfl rfl (fun q3 => ?_) (fun q3 => ?_)
  · refine g_iconst X0 hx (0 : Int32) rfl (hb hby d2_16) 17 rfl ?_
    exact g_retz X0 hx hret hlk (by decide) (by decide) (hb hby d2_17) ⟨congrArg (fun z => some (Value.int z)) (show f2 x0 = _ from ((if_pos q3).trans rfl)).symm, e0, rfl⟩
  · refine g_iloadN X0 hx rfl (hb hby d2_6) 7 rfl ?_
    refine g_bipush X0 hx (57 : Int32) rfl (hb hby d2_7) 9 rfl ?_
    refine g_icmp_gt X0 hx (hb hby d2_9) 16 12 (by decide) rfl rfl (fun q9 => ?_) (fun q9 => ?_)
    · refine g_iconst X0 hx (0 : Int32) rfl (hb hby d2_16) 17 rfl ?_
      exact g_retz X0 hx hret hlk (by decide) (by decide) (hb hby d2_17) ⟨congrArg (fun z => some (Value.int z)) (show f2 x0 = _ from ((if_neg q3).trans ((if_pos q9).trans rfl))).symm, e0, rfl⟩
    · refine g_iconst X0 hx (1 : Int32) rfl (hb hby d2_12) 13 rfl ?_
      refine g_goto X0 hx (hb hby d2_13) 17 (by decide) rfl ?_
      exact g_retz X0 hx hret hlk (by decide) (by decide) (hb hby d2_17) ⟨congrArg (fun z => some (Value.int z)) (show f2 x0 = _ from ((if_neg q3).trans ((if_neg q9).trans rfl))).symm, e0, rfl⟩
def gt (vs : List Int32) (i : Int32) : Int32 := vs.getD i.toNatClampNeg 0
def lp (vs : List Int32) : Nat → Int32 → Int32
  | 0, _ => 1
  | k + 1, i => if gt vs i < (48 : Int32) then 0 else (if (57 : Int32) < gt vs i then 0 else lp vs k (i + (1 : Int32)))
def isn (n k : Int32) (vs : List Int32) : Int32 := if (k - n) = (10 : Int32) then lp vs 10 n else 0
theorem own_nn {i : Int32} (h : 0 ≤ i.toInt) : ¬ i < 0 := by rw [Int32.lt_iff_toInt_lt]; simp only [Int32.reduceToInt]; omega
theorem own_lt {i k : Int32} (h : i < k) : i.toInt < k.toInt := Int32.lt_iff_toInt_lt.mp h
theorem own_nat {i : Int32} (h : 0 ≤ i.toInt) (h2 : i.toInt < 16) : i.toNatClampNeg < 16 := by
  have := nat_of (own_nn h); omega
theorem own_at (vs : List Int32) (hl : vs.length = 16) (i : Int32) (h : 0 ≤ i.toInt) (h2 : i.toInt < 16) : (vs.map Value.int)[i.toNatClampNeg]? = some (.int (gt vs i)) := by
  have := own_nat h h2
  simp [gt, List.getD_eq_getElem?_getD, List.getElem?_eq_getElem (show i.toNatClampNeg < vs.length by omega)]
theorem own_inc {i : Int32} (h0 : 0 ≤ i.toInt) (h4 : i.toInt < 16) : (i + (1 : Int32)).toInt = i.toInt + 1 := by
  have e := c_iadd i 1
  have r := rng32 (i + 1)
  simp only [Int32.reduceToInt] at e
  omega
def Inv (vs : List Int32) (k R ok i : Int32) : Prop := (ok = 1 ∧ 0 ≤ i.toInt ∧ i.toInt ≤ k.toInt ∧ k.toInt ≤ 16 ∧ lp vs (k.toInt - i.toInt).toNat i = R) ∨ (ok = 0 ∧ R = 0)
theorem own_pick {vs : List Int32} {k R ok i : Int32} (hi : Inv vs k R ok i) (q : ¬ ok = (0 : Int32)) : ok = 1 ∧ 0 ≤ i.toInt ∧ i.toInt ≤ k.toInt ∧ k.toInt ≤ 16 ∧ lp vs (k.toInt - i.toInt).toNat i = R := by
  rcases hi with h | h
  · exact h
  · exact absurd h.1 q
theorem own_step {vs : List Int32} {k R ok i : Int32} (h : ok = 1 ∧ 0 ≤ i.toInt ∧ i.toInt ≤ k.toInt ∧ k.toInt ≤ 16 ∧ lp vs (k.toInt - i.toInt).toNat i = R) (q : i < k) : (if gt vs i < (48 : Int32) then 0 else (if (57 : Int32) < gt vs i then 0 else lp vs (k.toInt - (i + (1 : Int32)).toInt).toNat (i + (1 : Int32)))) = R ∧ (i + (1 : Int32)).toInt = i.toInt + 1 ∧ i.toInt < k.toInt := by
  obtain ⟨-, h0, h1, h2, hR⟩ := h
  have ql := own_lt q
  have e := own_inc h0 (by omega)
  rw [show (k.toInt - i.toInt).toNat = (k.toInt - (i + 1).toInt).toNat + 1 by omega] at hR
  exact ⟨hR, e, ql⟩
theorem own_b0 {vs : List Int32} {k R ok i : Int32} (h : ok = 1 ∧ 0 ≤ i.toInt ∧ i.toInt ≤ k.toInt ∧ k.toInt ≤ 16 ∧ lp vs (k.toInt - i.toInt).toNat i = R) (q : i < k) (n : gt vs i < (48 : Int32)) : Inv vs k R 0 (i + (1 : Int32)) := by
  have s := (own_step h q).1
  rw [if_pos n] at s
  exact Or.inr ⟨rfl, s.symm⟩
theorem own_b1 {vs : List Int32} {k R ok i : Int32} (h : ok = 1 ∧ 0 ≤ i.toInt ∧ i.toInt ≤ k.toInt ∧ k.toInt ≤ 16 ∧ lp vs (k.toInt - i.toInt).toNat i = R) (q : i < k) (n : ¬ gt vs i < (48 : Int32)) (n2 : (57 : Int32) < gt vs i) : Inv vs k R 0 (i + (1 : Int32)) := by
  have s := (own_step h q).1
  rw [if_neg n, if_pos n2] at s
  exact Or.inr ⟨rfl, s.symm⟩
theorem own_b2 {vs : List Int32} {k R ok i : Int32} (h : ok = 1 ∧ 0 ≤ i.toInt ∧ i.toInt ≤ k.toInt ∧ k.toInt ≤ 16 ∧ lp vs (k.toInt - i.toInt).toNat i = R) (q : i < k) (n : ¬ gt vs i < (48 : Int32)) (n2 : ¬ (57 : Int32) < gt vs i) : Inv vs k R 1 (i + (1 : Int32)) := by
  obtain ⟨s, e, ql⟩ := own_step h q
  rw [if_neg n, if_neg n2] at s
  obtain ⟨-, h0, h1, h2, hR⟩ := h
  exact Or.inl ⟨rfl, by omega, by omega, h2, s⟩
theorem own_dec {vs : List Int32} {k R ok i : Int32} (h : ok = 1 ∧ 0 ≤ i.toInt ∧ i.toInt ≤ k.toInt ∧ k.toInt ≤ 16 ∧ lp vs (k.toInt - i.toInt).toNat i = R) (q : i < k) : (k.toInt - (i + (1 : Int32)).toInt).toNat < (k.toInt - i.toInt).toNat := by
  obtain ⟨-, e, ql⟩ := own_step h q
  omega
theorem own_out {vs : List Int32} {k R ok i : Int32} (hi : Inv vs k R ok i) (q : ¬ i < k) : ok &&& 1 = R := by
  rcases hi with ⟨rfl, h0, h1, h2, hR⟩ | ⟨rfl, hR⟩
  · rw [Int32.lt_iff_toInt_lt] at q
    rw [show (k.toInt - i.toInt).toNat = 0 by omega] at hR
    rw [← hR]; rfl
  · rw [hR]; rfl
theorem own_out0 {vs : List Int32} {k R ok i : Int32} (hi : Inv vs k R ok i) (q : ok = (0 : Int32)) : ok &&& 1 = R := by
  rcases hi with ⟨h, -⟩ | ⟨h, hR⟩
  · rw [h] at q; exact absurd q (by decide)
  · rw [h, hR]; rfl
theorem own_start {vs : List Int32} {n k z : Int32} (hn : 0 ≤ n.toInt ∧ n.toInt ≤ 6) (hz : z = (if (k - n) = (10 : Int32) then (1 : Int32) else (0 : Int32))) : Inv vs k (isn n k vs) z n := by
  by_cases h : (k - n) = (10 : Int32)
  · rw [if_pos h] at hz
    have e := c_isub k n
    have r := rng32 k
    rw [h] at e
    simp only [Int32.reduceToInt] at e
    refine Or.inl ⟨hz, hn.1, by omega, by omega, ?_⟩
    rw [isn, if_pos h, show (k.toInt - n.toInt).toNat = 10 by omega]
  · rw [if_neg h] at hz
    exact Or.inr ⟨hz, if_neg h⟩
theorem ef3 (m_ : MethodId) (a : Addr) (n : Int32) (k : Int32)  : entryFrame m_ #[(.ref a), (.int n), (.int k)] 5 = mkF m_ 0 #[.val (.ref a), .val (.int n), .val (.int k), .unset, .unset] [] := by first | (simp [entryFrame, mkF, argsToLocals, Value.category]; done) | rfl
theorem pn_1 : plainName "com/example/weigh/weigh/usage/UsageLayout" = true := by first | (simp [plainName, overriddenIn]; done) | decide +kernel
theorem d3_0 : decode prog_106_method_8_code 0 = .ok (.iload_n 2, 1) := by decide +kernel
theorem d3_1 : decode prog_106_method_8_code 1 = .ok (.iload_n 1, 1) := by decide +kernel
theorem d3_2 : decode prog_106_method_8_code 2 = .ok (.isub, 1) := by decide +kernel
theorem d3_3 : decode prog_106_method_8_code 3 = .ok (.bipush 10, 2) := by decide +kernel
theorem d3_5 : decode prog_106_method_8_code 5 = .ok (.if_icmp .ne 7, 3) := by decide +kernel
theorem d3_12 : decode prog_106_method_8_code 12 = .ok (.iconst 0, 1) := by decide +kernel
theorem d3_8 : decode prog_106_method_8_code 8 = .ok (.iconst 1, 1) := by decide +kernel
theorem d3_9 : decode prog_106_method_8_code 9 = .ok (.goto 4, 3) := by decide +kernel
theorem d3_13 : decode prog_106_method_8_code 13 = .ok (.istore_n 3, 1) := by decide +kernel
theorem d3_14 : decode prog_106_method_8_code 14 = .ok (.iload_n 1, 1) := by decide +kernel
theorem d3_15 : decode prog_106_method_8_code 15 = .ok (.istore 4, 2) := by decide +kernel
theorem d3_17 : decode prog_106_method_8_code 17 = .ok (.iload 4, 2) := by decide +kernel
theorem d3_19 : decode prog_106_method_8_code 19 = .ok (.iload_n 2, 1) := by decide +kernel
theorem d3_20 : decode prog_106_method_8_code 20 = .ok (.if_icmp .ge 37, 3) := by decide +kernel
theorem d3_57 : decode prog_106_method_8_code 57 = .ok (.iload_n 3, 1) := by decide +kernel
theorem d3_58 : decode prog_106_method_8_code 58 = .ok (.ireturn, 1) := by decide +kernel
theorem d3_23 : decode prog_106_method_8_code 23 = .ok (.iload_n 3, 1) := by decide +kernel
theorem d3_24 : decode prog_106_method_8_code 24 = .ok (.ifCond .eq 33, 3) := by decide +kernel
theorem d3_27 : decode prog_106_method_8_code 27 = .ok (.aload_n 0, 1) := by decide +kernel
theorem d3_28 : decode prog_106_method_8_code 28 = .ok (.iload 4, 2) := by decide +kernel
theorem d3_30 : decode prog_106_method_8_code 30 = .ok (.baload, 1) := by decide +kernel
theorem d3_31 : decode prog_106_method_8_code 31 = .ok (.bipush 48, 2) := by decide +kernel
theorem d3_33 : decode prog_106_method_8_code 33 = .ok (.if_icmp .lt 16, 3) := by decide +kernel
theorem d3_49 : decode prog_106_method_8_code 49 = .ok (.iconst 0, 1) := by decide +kernel
theorem d3_50 : decode prog_106_method_8_code 50 = .ok (.istore_n 3, 1) := by decide +kernel
theorem d3_51 : decode prog_106_method_8_code 51 = .ok (.iinc 4 1, 3) := by decide +kernel
theorem d3_54 : decode prog_106_method_8_code 54 = .ok (.goto (-37), 3) := by decide +kernel
theorem d3_36 : decode prog_106_method_8_code 36 = .ok (.aload_n 0, 1) := by decide +kernel
theorem d3_37 : decode prog_106_method_8_code 37 = .ok (.iload 4, 2) := by decide +kernel
theorem d3_39 : decode prog_106_method_8_code 39 = .ok (.baload, 1) := by decide +kernel
theorem d3_40 : decode prog_106_method_8_code 40 = .ok (.bipush 57, 2) := by decide +kernel
theorem d3_42 : decode prog_106_method_8_code 42 = .ok (.if_icmp .gt 7, 3) := by decide +kernel
theorem d3_45 : decode prog_106_method_8_code 45 = .ok (.iconst 1, 1) := by decide +kernel
theorem d3_46 : decode prog_106_method_8_code 46 = .ok (.goto 4, 3) := by decide +kernel
set_option maxRecDepth 65536 in
set_option maxHeartbeats 40000000 in
theorem co3 (l : Launch) (Z : State) (a0 : Array Value) (hw : ∀ d ∈ tables_1, d.before a0 Z = true) (a : Addr) (n : Int32) (k : Int32) (vs : List Int32) (h0 : Heap) (A0 : AV Z h0 a .byte (vs.map Value.int)) (hl : vs.length = 16) (hn : 0 ≤ n.toInt ∧ n.toInt ≤ 6) : Co l (⟨"com/example/weigh/weigh/usage/UsageLayout", "isNumber", "([BII)Z"⟩ : MethodName) prog_106_method_8_code 5 (some .boolean) [] ({ frames := 0, cells := 0, slots := 0, locals := 0 } : Room) Z h0 #[(.ref a), (.int n), (.int k)] (Pu h0 (some (.int ((isn n k vs) )))) := by
  refine Co.of (plainFor_of_name pn_1) ?_
  intro p_ e_ s_ m_ below meth c_ T0 X0 hx hby hml hown hnm hret hlk hZ e0
  refine Go.cast (ef3 m_ a n k ) ?_
  refine g_iloadN X0 hx rfl (hb hby d3_0) 1 rfl ?_
  refine g_iloadN X0 hx rfl (hb hby d3_1) 2 rfl ?_
  refine g_isub X0 hx (hb hby d3_2) 3 rfl ?_
  refine g_bipush X0 hx (10 : Int32) rfl (hb hby d3_3) 5 rfl ?_
  refine Go.joinT (α := Int32) X0 e0 (fun z => mkF m_ 13 #[.val (.ref a), .val (.int n), .val (.int k), .unset, .unset] [(.int z)]) (fun z => z = (if (k - n) = (10 : Int32) then (1 : Int32) else (0 : Int32))) ?_ (fun J2 => ?_)
  · rintro T3 X4 e5 z1 hz1
    show Go p_ e_ below _ T3 (mkF m_ 13 #[.val (.ref a), .val (.int n), .val (.int k), .unset, .unset] [(.int z1)])
    refine g_istoreN X4 hx #[.val (.ref a), .val (.int n), .val (.int k), .val (.int z1), .unset] rfl (hb hby d3_13) 14 rfl ?_
    refine g_iloadN X4 hx rfl (hb hby d3_14) 15 rfl ?_
    refine g_istore X4 hx #[.val (.ref a), .val (.int n), .val (.int k), .val (.int z1), .val (.int n)] rfl (hb hby d3_15) 17 rfl ?_
    refine Go.loop (α := Int32 × Int32) X4 e5 (fun z => mkF m_ 17 #[.val (.ref a), .val (.int n), .val (.int k), .val (.int z.1), .val (.int z.2)] []) (fun z => (k.toInt - z.2.toInt).toNat) (fun z => Inv vs k (isn n k vs) z.1 z.2) ?_ (z1, n) (own_start hn hz1)
    rintro ⟨ok, i⟩ hi12 ih11 T8 X9 e10
    show Go p_ e_ below _ T8 (mkF m_ 17 #[.val (.ref a), .val (.int n), .val (.int k), .val (.int ok), .val (.int i)] [])
    dsimp only at hi12 ih11
    refine g_iload X9 hx rfl (hb hby d3_17) 19 rfl ?_
    refine g_iloadN X9 hx rfl (hb hby d3_19) 20 rfl ?_
    refine g_icmp_ge X9 hx (hb hby d3_20) 57 23 (by decide) rfl rfl (fun q20 => ?_) (fun q20 => ?_)
    · refine g_iloadN X9 hx rfl (hb hby d3_57) 58 rfl ?_
      exact g_retz X9 hx hret hlk (by decide) (by decide) (hb hby d3_58) ⟨congrArg (fun z => some (Value.int z)) (own_out hi12 q20), e10, rfl⟩
    · refine g_iloadN X9 hx rfl (hb hby d3_23) 24 rfl ?_
      refine g_if_eq X9 hx (hb hby d3_24) 57 27 (by decide) rfl rfl (fun q24 => ?_) (fun q24 => ?_)
      · refine g_iloadN X9 hx rfl (hb hby d3_57) 58 rfl ?_
        exact g_retz X9 hx hret hlk (by decide) (by decide) (hb hby d3_58) ⟨congrArg (fun z => some (Value.int z)) (own_out0 hi12 q24), e10, rfl⟩
      · have hp := own_pick hi12 q24
        refine g_aloadN X9 hx rfl rfl (hb hby d3_27) 28 rfl ?_
        refine g_iload X9 hx rfl (hb hby d3_28) 30 rfl ?_
        refine g_baload X9 hx hZ e10 A0 (own_nn hp.2.1) (own_at vs hl _ hp.2.1 (by have := own_lt q20; have := hp.2.2.2.1; omega)) (hb hby d3_30) 31 rfl ?_
        show Go p_ e_ below _ T8 (mkF m_ 31 #[.val (.ref a), .val (.int n), .val (.int k), .val (.int ok), .val (.int i)] [(.int (gt vs i))])
        refine g_bipush X9 hx (48 : Int32) rfl (hb hby d3_31) 33 rfl ?_
        refine g_icmp_lt X9 hx (hb hby d3_33) 49 36 (by decide) rfl rfl (fun q33 => ?_) (fun q33 => ?_)
        · refine g_iconst X9 hx (0 : Int32) rfl (hb hby d3_49) 50 rfl ?_
          refine g_istoreN X9 hx #[.val (.ref a), .val (.int n), .val (.int k), .val (.int (0 : Int32)), .val (.int i)] rfl (hb hby d3_50) 51 rfl ?_
          refine g_iinc X9 hx (1 : Int32) rfl rfl #[.val (.ref a), .val (.int n), .val (.int k), .val (.int (0 : Int32)), .val (.int (i + (1 : Int32)))] rfl (hb hby d3_51) 54 rfl ?_
          refine g_goto X9 hx (hb hby d3_54) 17 (by decide) rfl ?_
          exact ih11 T8 X9 e10 ((0 : Int32), (i + (1 : Int32))) (own_b0 hp q20 q33) (own_dec hp q20)
        · refine g_aloadN X9 hx rfl rfl (hb hby d3_36) 37 rfl ?_
          refine g_iload X9 hx rfl (hb hby d3_37) 39 rfl ?_
          refine g_baload X9 hx hZ e10 A0 (own_nn hp.2.1) (own_at vs hl _ hp.2.1 (by have := own_lt q20; have := hp.2.2.2.1; omega)) (hb hby d3_39) 40 rfl ?_
          show Go p_ e_ below _ T8 (mkF m_ 40 #[.val (.ref a), .val (.int n), .val (.int k), .val (.int ok), .val (.int i)] [(.int (gt vs i))])
          refine g_bipush X9 hx (57 : Int32) rfl (hb hby d3_40) 42 rfl ?_
          refine g_icmp_gt X9 hx (hb hby d3_42) 49 45 (by decide) rfl rfl (fun q42 => ?_) (fun q42 => ?_)
          · refine g_iconst X9 hx (0 : Int32) rfl (hb hby d3_49) 50 rfl ?_
            refine g_istoreN X9 hx #[.val (.ref a), .val (.int n), .val (.int k), .val (.int (0 : Int32)), .val (.int i)] rfl (hb hby d3_50) 51 rfl ?_
            refine g_iinc X9 hx (1 : Int32) rfl rfl #[.val (.ref a), .val (.int n), .val (.int k), .val (.int (0 : Int32)), .val (.int (i + (1 : Int32)))] rfl (hb hby d3_51) 54 rfl ?_
            refine g_goto X9 hx (hb hby d3_54) 17 (by decide) rfl ?_
            exact ih11 T8 X9 e10 ((0 : Int32), (i + (1 : Int32))) (own_b1 hp q20 q33 q42) (own_dec hp q20)
          · refine g_iconst X9 hx (1 : Int32) rfl (hb hby d3_45) 46 rfl ?_
            refine g_goto X9 hx (hb hby d3_46) 50 (by decide) rfl ?_
            refine g_istoreN X9 hx #[.val (.ref a), .val (.int n), .val (.int k), .val (.int (1 : Int32)), .val (.int i)] rfl (hb hby d3_50) 51 rfl ?_
            refine g_iinc X9 hx (1 : Int32) rfl rfl #[.val (.ref a), .val (.int n), .val (.int k), .val (.int (1 : Int32)), .val (.int (i + (1 : Int32)))] rfl (hb hby d3_51) 54 rfl ?_
            refine g_goto X9 hx (hb hby d3_54) 17 (by decide) rfl ?_
            exact ih11 T8 X9 e10 ((1 : Int32), (i + (1 : Int32))) (own_b2 hp q20 q33 q42) (own_dec hp q20)
  · refine g_icmp_ne X0 hx (hb hby d3_5) 12 8 (by decide) rfl rfl (fun q5 => ?_) (fun q5 => ?_)
    · refine g_iconst X0 hx (0 : Int32) rfl (hb hby d3_12) 13 rfl ?_
      exact J2 T0 X0 e0 ((0 : Int32)) ((if_neg q5).trans rfl).symm
    · refine g_iconst X0 hx (1 : Int32) rfl (hb hby d3_8) 9 rfl ?_
      refine g_goto X0 hx (hb hby d3_9) 13 (by decide) rfl ?_
      exact J2 T0 X0 e0 ((1 : Int32)) ((if_pos q5).trans rfl).symm
theorem own_ix (x : Int64) : 0 ≤ ((x &&& (15 : Int64)).toInt32).toInt ∧ ((x &&& (15 : Int64)).toInt32).toInt < 16 := by
  have e : (x &&& (15 : Int64)).toInt = x.toInt % (2 ^ 4 : Nat) := c_maskL x 15 4 (by decide) (by decide)
  have e2 := c_l2i (x &&& (15 : Int64))
  have r := rng32 ((x &&& (15 : Int64)).toInt32)
  omega
theorem own_setl (vs : List Int32) (hl : vs.length = 16) (n : Nat) (x : Int32) : (vs.set n x).length = 16 := by simpa using hl
theorem own_from (x : Int32) : 0 ≤ ((x &&& (7 : Int32)) % (7 : Int32)).toInt ∧ ((x &&& (7 : Int32)) % (7 : Int32)).toInt ≤ 6 := by
  have e : (x &&& (7 : Int32)).toInt = x.toInt % (2 ^ 3 : Nat) := c_mask x 7 3 (by decide) (by decide)
  have e2 := (c_irem (x &&& (7 : Int32)) (7 : Int32) 7 (by decide)).1 (by omega)
  omega
theorem own_pl {F : Int32} (h : 0 ≤ F.toInt ∧ F.toInt ≤ 6) (j : Int32) (hj : 0 ≤ j.toInt ∧ j.toInt ≤ 9) : 0 ≤ (F + j).toInt ∧ (F + j).toInt < 16 := by
  have e := c_iadd F j
  have r := rng32 (F + j)
  omega
theorem own_can (F n : Int32) : (F + n) - F = n := by
  have e := c_iadd F n
  have e2 := c_isub (F + n) F
  have r := rng32 n
  have r2 := rng32 ((F + n) - F)
  apply Int32.toInt_inj.mp
  omega
theorem own_d (x : Int32) : (f2 x = 0) ↔ ¬ (¬ x < (48 : Int32) ∧ ¬ (57 : Int32) < x) := by
  unfold f2
  by_cases a : x < (48 : Int32)
  · rw [if_pos a]; simp [a]
  · by_cases b : (57 : Int32) < x
    · rw [if_neg a, if_pos b]; simp [b]
    · rw [if_neg a, if_neg b]; simp [a, b]
theorem own_one (vs : List Int32) (k : Nat) (i z : Int32) (h : lp vs k (i + (1 : Int32)) = z) : lp vs (k + 1) i = (if (f2 (gt vs i)) = (0 : Int32) then (0 : Int32) else z) := by
  rw [lp, h]
  simp only [own_d]
  by_cases a : gt vs i < (48 : Int32)
  · rw [if_pos a, if_pos (fun q => q.1 a)]
  · by_cases b : (57 : Int32) < gt vs i
    · rw [if_neg a, if_pos b, if_pos (fun q => q.2 b)]
    · rw [if_neg a, if_neg b, if_neg (fun q => q ⟨a, b⟩)]
theorem own_as (F a b c : Int32) (h : a + b = c) : (F + a) + b = F + c := by rw [Int32.add_assoc, h]
theorem own_fin (vs : List Int32) (F n : Int32) : isn F (F + n) vs = (if n = (10 : Int32) then (if (f2 (gt vs F)) = (0 : Int32) then (0 : Int32) else (if (f2 (gt vs (F + (1 : Int32)))) = (0 : Int32) then (0 : Int32) else (if (f2 (gt vs (F + (2 : Int32)))) = (0 : Int32) then (0 : Int32) else (if (f2 (gt vs (F + (3 : Int32)))) = (0 : Int32) then (0 : Int32) else (if (f2 (gt vs (F + (4 : Int32)))) = (0 : Int32) then (0 : Int32) else (if (f2 (gt vs (F + (5 : Int32)))) = (0 : Int32) then (0 : Int32) else (if (f2 (gt vs (F + (6 : Int32)))) = (0 : Int32) then (0 : Int32) else (if (f2 (gt vs (F + (7 : Int32)))) = (0 : Int32) then (0 : Int32) else (if (f2 (gt vs (F + (8 : Int32)))) = (0 : Int32) then (0 : Int32) else (if (f2 (gt vs (F + (9 : Int32)))) = (0 : Int32) then (0 : Int32) else (1 : Int32))))))))))) else (0 : Int32)) := by
  unfold isn
  rw [own_can]
  by_cases h : n = (10 : Int32)
  · rw [if_pos h, if_pos h]
    refine own_one vs 9 _ _ ?_
    refine own_one vs 8 _ _ ?_
    rw [own_as F (1 : Int32) (1 : Int32) (2 : Int32) (by decide)]
    refine own_one vs 7 _ _ ?_
    rw [own_as F (2 : Int32) (1 : Int32) (3 : Int32) (by decide)]
    refine own_one vs 6 _ _ ?_
    rw [own_as F (3 : Int32) (1 : Int32) (4 : Int32) (by decide)]
    refine own_one vs 5 _ _ ?_
    rw [own_as F (4 : Int32) (1 : Int32) (5 : Int32) (by decide)]
    refine own_one vs 4 _ _ ?_
    rw [own_as F (5 : Int32) (1 : Int32) (6 : Int32) (by decide)]
    refine own_one vs 3 _ _ ?_
    rw [own_as F (6 : Int32) (1 : Int32) (7 : Int32) (by decide)]
    refine own_one vs 2 _ _ ?_
    rw [own_as F (7 : Int32) (1 : Int32) (8 : Int32) (by decide)]
    refine own_one vs 1 _ _ ?_
    rw [own_as F (8 : Int32) (1 : Int32) (9 : Int32) (by decide)]
    refine own_one vs 0 _ _ ?_
    rfl
  · rw [if_neg h, if_neg h]
theorem ef0 (m_ : MethodId) (x0 : Int64) (x1 : Int64) (x2 : Int32)  : entryFrame m_ #[(.long x0), (.long x1), (.int x2)] maxLocals = mkF m_ 0 #[.val (.long x0), .second, .val (.long x1), .second, .val (.int x2), .unset, .unset, .unset, .unset, .unset] [] := by first | (simp [entryFrame, mkF, argsToLocals, Value.category, maxLocals]; done) | rfl
theorem pd_0 : parseMethodDescriptor "(JI)B" = some ⟨[.long, .int], some .byte⟩ := by decide +kernel
theorem pd_1 : parseMethodDescriptor "(B)Z" = some ⟨[.byte], some .boolean⟩ := by decide +kernel
theorem pd_2 : parseMethodDescriptor "([BII)Z" = some ⟨[(.array .byte), .int, .int], some .boolean⟩ := by decide +kernel
set_option maxRecDepth 65536 in
set_option maxHeartbeats 40000000 in
theorem rm0 (l : Launch) (Z : State) (a0 : Array Value) (hw : ∀ d ∈ tables_1, d.before a0 Z = true) (ws : List Jvm.Cond) (x0 : Int64) (x1 : Int64) (x2 : Int32) (h0 : Heap)  : Co l x code maxLocals ret ws room_1 Z h0 #[(.long x0), (.long x1), (.int x2)] (fun v h L => v = some (.int 1) ∧ Fr h0.size L) := by
  refine Co.of (plainFor_of_name pn_0) ?_
  intro p_ e_ s_ m_ below meth c_ T0 X0 hx hby hml hown hnm hret hlk hZ e0
  have N0 := Fr.nil h0.size
  refine Go.cast (ef0 m_ x0 x1 x2) ?_
  refine g_bipush X0 hx (16 : Int32) rfl (hb hby at_0) 2 rfl ?_
  refine g_newarray X0 hx hZ (aty := .byte) (wd hw 0 rfl) e0 (by decide) 16 (by decide) (by decide) (by decide) (by decide) [(.int (0 : Int32)), (.int (0 : Int32)), (.int (0 : Int32)), (.int (0 : Int32)), (.int (0 : Int32)), (.int (0 : Int32)), (.int (0 : Int32)), (.int (0 : Int32)), (.int (0 : Int32)), (.int (0 : Int32)), (.int (0 : Int32)), (.int (0 : Int32)), (.int (0 : Int32)), (.int (0 : Int32)), (.int (0 : Int32)), (.int (0 : Int32))] rfl (hb hby at_2) 4 rfl (fun T1 h2 b3 X4 e5 g6 E7 A8 => ?_)
  have sz9 : h0.size ≤ b3 := Nat.le_trans (Nat.le_refl h0.size) (Nat.le_of_eq g6.symm)
  have szh10 : h0.size ≤ h2.size := Nat.le_trans (Nat.le_refl h0.size) E7.1
  have A11 : AV Z h2 b3 .byte [(.int (0 : Int32)), (.int (0 : Int32)), (.int (0 : Int32)), (.int (0 : Int32)), (.int (0 : Int32)), (.int (0 : Int32)), (.int (0 : Int32)), (.int (0 : Int32)), (.int (0 : Int32)), (.int (0 : Int32)), (.int (0 : Int32)), (.int (0 : Int32)), (.int (0 : Int32)), (.int (0 : Int32)), (.int (0 : Int32)), (.int (0 : Int32))] := A8
  show Go p_ e_ below _ T1 (mkF m_ 4 #[.val (.long x0), .second, .val (.long x1), .second, .val (.int x2), .unset, .unset, .unset, .unset, .unset] [(.ref b3)])
  refine g_astore X4 hx #[.val (.long x0), .second, .val (.long x1), .second, .val (.int x2), .val (.ref b3), .unset, .unset, .unset, .unset] rfl rfl (hb hby at_4) 6 rfl ?_
  refine g_aload X4 hx rfl rfl (hb hby at_6) 8 rfl ?_
  refine g_iconst X4 hx (0 : Int32) rfl (hb hby at_8) 9 rfl ?_
  refine g_lloadN X4 hx rfl (hb hby at_9) 10 rfl ?_
  refine g_iconst X4 hx (0 : Int32) rfl (hb hby at_10) 11 rfl ?_
  refine g_callS X4 hx hZ hown (wd hw 1 rfl) (wd hw 2 rfl) (wd hw 3 rfl) (wd hw 4 rfl) (by decide) e5 [(.long x0), (.int (0 : Int32))] [(.int (0 : Int32)), (.ref b3)]  rfl (co1 l Z a0 hw x0 (0 : Int32)  h2 ) (lenOf pd_0 rfl) 2 (Nat.le_of_eq rfl) (by decide) (by decide) (by decide) (by decide) (by rw [hml]; rfl) (hb hby at_11) 14 rfl (pu_cont fun T13 X12 e14 => ?_)
  show Go p_ e_ below _ T13 (mkF m_ 14 #[.val (.long x0), .second, .val (.long x1), .second, .val (.int x2), .val (.ref b3), .unset, .unset, .unset, .unset] [(.int (f1 x0 (0 : Int32))), (.int (0 : Int32)), (.ref b3)])
  refine g_bastore X12 hx hZ e14 A11 (by decide) (Nat.le_of_ble_eq_true rfl) (hb hby at_14) 15 rfl (fun T15 h16 X17 e18 W19 A20 => ?_)
  have A21 : AV Z h16 b3 .byte [(.int (f1 x0 (0 : Int32)).toInt8.toInt32), (.int (0 : Int32)), (.int (0 : Int32)), (.int (0 : Int32)), (.int (0 : Int32)), (.int (0 : Int32)), (.int (0 : Int32)), (.int (0 : Int32)), (.int (0 : Int32)), (.int (0 : Int32)), (.int (0 : Int32)), (.int (0 : Int32)), (.int (0 : Int32)), (.int (0 : Int32)), (.int (0 : Int32)), (.int (0 : Int32))] := A20
  have F22 := A21
  have N23 := Fr.snoc X17 N0 sz9
  have szh24 : h0.size ≤ h16.size := Nat.le_trans szh10 (Nat.le_of_eq W19.size.symm)
  show Go p_ e_ below _ T15 (mkF m_ 15 #[.val (.long x0), .second, .val (.long x1), .second, .val (.int x2), .val (.ref b3), .unset, .unset, .unset, .unset] [])
  refine g_aload X17 hx rfl rfl (hb hby at_15) 17 rfl ?_
  refine g_iconst X17 hx (1 : Int32) rfl (hb hby at_17) 18 rfl ?_
  refine g_lloadN X17 hx rfl (hb hby at_18) 19 rfl ?_
  refine g_iconst X17 hx (1 : Int32) rfl (hb hby at_19) 20 rfl ?_
  refine g_callS X17 hx hZ hown (wd hw 1 rfl) (wd hw 2 rfl) (wd hw 3 rfl) (wd hw 4 rfl) (by decide) e18 [(.long x0), (.int (1 : Int32))] [(.int (1 : Int32)), (.ref b3)]  rfl (co1 l Z a0 hw x0 (1 : Int32)  h16 ) (lenOf pd_0 rfl) 2 (Nat.le_of_eq rfl) (by decide) (by decide) (by decide) (by decide) (by rw [hml]; rfl) (hb hby at_20) 23 rfl (pu_cont fun T26 X25 e27 => ?_)
  show Go p_ e_ below _ T26 (mkF m_ 23 #[.val (.long x0), .second, .val (.long x1), .second, .val (.int x2), .val (.ref b3), .unset, .unset, .unset, .unset] [(.int (f1 x0 (1 : Int32))), (.int (1 : Int32)), (.ref b3)])
  refine g_bastore X25 hx hZ e27 A21 (by decide) (Nat.le_of_ble_eq_true rfl) (hb hby at_23) 24 rfl (fun T28 h29 X30 e31 W32 A33 => ?_)
  have A34 : AV Z h29 b3 .byte [(.int (f1 x0 (0 : Int32)).toInt8.toInt32), (.int (f1 x0 (1 : Int32)).toInt8.toInt32), (.int (0 : Int32)), (.int (0 : Int32)), (.int (0 : Int32)), (.int (0 : Int32)), (.int (0 : Int32)), (.int (0 : Int32)), (.int (0 : Int32)), (.int (0 : Int32)), (.int (0 : Int32)), (.int (0 : Int32)), (.int (0 : Int32)), (.int (0 : Int32)), (.int (0 : Int32)), (.int (0 : Int32))] := A33
  have F35 := A34
  have N36 := Fr.snoc X30 N23 sz9
  have szh37 : h0.size ≤ h29.size := Nat.le_trans szh24 (Nat.le_of_eq W32.size.symm)
  show Go p_ e_ below _ T28 (mkF m_ 24 #[.val (.long x0), .second, .val (.long x1), .second, .val (.int x2), .val (.ref b3), .unset, .unset, .unset, .unset] [])
  refine g_aload X30 hx rfl rfl (hb hby at_24) 26 rfl ?_
  refine g_iconst X30 hx (2 : Int32) rfl (hb hby at_26) 27 rfl ?_
  refine g_lloadN X30 hx rfl (hb hby at_27) 28 rfl ?_
  refine g_iconst X30 hx (2 : Int32) rfl (hb hby at_28) 29 rfl ?_
  refine g_callS X30 hx hZ hown (wd hw 1 rfl) (wd hw 2 rfl) (wd hw 3 rfl) (wd hw 4 rfl) (by decide) e31 [(.long x0), (.int (2 : Int32))] [(.int (2 : Int32)), (.ref b3)]  rfl (co1 l Z a0 hw x0 (2 : Int32)  h29 ) (lenOf pd_0 rfl) 2 (Nat.le_of_eq rfl) (by decide) (by decide) (by decide) (by decide) (by rw [hml]; rfl) (hb hby at_29) 32 rfl (pu_cont fun T39 X38 e40 => ?_)
  show Go p_ e_ below _ T39 (mkF m_ 32 #[.val (.long x0), .second, .val (.long x1), .second, .val (.int x2), .val (.ref b3), .unset, .unset, .unset, .unset] [(.int (f1 x0 (2 : Int32))), (.int (2 : Int32)), (.ref b3)])
  refine g_bastore X38 hx hZ e40 A34 (by decide) (Nat.le_of_ble_eq_true rfl) (hb hby at_32) 33 rfl (fun T41 h42 X43 e44 W45 A46 => ?_)
  have A47 : AV Z h42 b3 .byte [(.int (f1 x0 (0 : Int32)).toInt8.toInt32), (.int (f1 x0 (1 : Int32)).toInt8.toInt32), (.int (f1 x0 (2 : Int32)).toInt8.toInt32), (.int (0 : Int32)), (.int (0 : Int32)), (.int (0 : Int32)), (.int (0 : Int32)), (.int (0 : Int32)), (.int (0 : Int32)), (.int (0 : Int32)), (.int (0 : Int32)), (.int (0 : Int32)), (.int (0 : Int32)), (.int (0 : Int32)), (.int (0 : Int32)), (.int (0 : Int32))] := A46
  have F48 := A47
  have N49 := Fr.snoc X43 N36 sz9
  have szh50 : h0.size ≤ h42.size := Nat.le_trans szh37 (Nat.le_of_eq W45.size.symm)
  show Go p_ e_ below _ T41 (mkF m_ 33 #[.val (.long x0), .second, .val (.long x1), .second, .val (.int x2), .val (.ref b3), .unset, .unset, .unset, .unset] [])
  refine g_aload X43 hx rfl rfl (hb hby at_33) 35 rfl ?_
  refine g_iconst X43 hx (3 : Int32) rfl (hb hby at_35) 36 rfl ?_
  refine g_lloadN X43 hx rfl (hb hby at_36) 37 rfl ?_
  refine g_iconst X43 hx (3 : Int32) rfl (hb hby at_37) 38 rfl ?_
  refine g_callS X43 hx hZ hown (wd hw 1 rfl) (wd hw 2 rfl) (wd hw 3 rfl) (wd hw 4 rfl) (by decide) e44 [(.long x0), (.int (3 : Int32))] [(.int (3 : Int32)), (.ref b3)]  rfl (co1 l Z a0 hw x0 (3 : Int32)  h42 ) (lenOf pd_0 rfl) 2 (Nat.le_of_eq rfl) (by decide) (by decide) (by decide) (by decide) (by rw [hml]; rfl) (hb hby at_38) 41 rfl (pu_cont fun T52 X51 e53 => ?_)
  show Go p_ e_ below _ T52 (mkF m_ 41 #[.val (.long x0), .second, .val (.long x1), .second, .val (.int x2), .val (.ref b3), .unset, .unset, .unset, .unset] [(.int (f1 x0 (3 : Int32))), (.int (3 : Int32)), (.ref b3)])
  refine g_bastore X51 hx hZ e53 A47 (by decide) (Nat.le_of_ble_eq_true rfl) (hb hby at_41) 42 rfl (fun T54 h55 X56 e57 W58 A59 => ?_)
  have A60 : AV Z h55 b3 .byte [(.int (f1 x0 (0 : Int32)).toInt8.toInt32), (.int (f1 x0 (1 : Int32)).toInt8.toInt32), (.int (f1 x0 (2 : Int32)).toInt8.toInt32), (.int (f1 x0 (3 : Int32)).toInt8.toInt32), (.int (0 : Int32)), (.int (0 : Int32)), (.int (0 : Int32)), (.int (0 : Int32)), (.int (0 : Int32)), (.int (0 : Int32)), (.int (0 : Int32)), (.int (0 : Int32)), (.int (0 : Int32)), (.int (0 : Int32)), (.int (0 : Int32)), (.int (0 : Int32))] := A59
  have F61 := A60
  have N62 := Fr.snoc X56 N49 sz9
  have szh63 : h0.size ≤ h55.size := Nat.le_trans szh50 (Nat.le_of_eq W58.size.symm)
  show Go p_ e_ below _ T54 (mkF m_ 42 #[.val (.long x0), .second, .val (.long x1), .second, .val (.int x2), .val (.ref b3), .unset, .unset, .unset, .unset] [])
  refine g_aload X56 hx rfl rfl (hb hby at_42) 44 rfl ?_
  refine g_iconst X56 hx (4 : Int32) rfl (hb hby at_44) 45 rfl ?_
  refine g_lloadN X56 hx rfl (hb hby at_45) 46 rfl ?_
  refine g_iconst X56 hx (4 : Int32) rfl (hb hby at_46) 47 rfl ?_
  refine g_callS X56 hx hZ hown (wd hw 1 rfl) (wd hw 2 rfl) (wd hw 3 rfl) (wd hw 4 rfl) (by decide) e57 [(.long x0), (.int (4 : Int32))] [(.int (4 : Int32)), (.ref b3)]  rfl (co1 l Z a0 hw x0 (4 : Int32)  h55 ) (lenOf pd_0 rfl) 2 (Nat.le_of_eq rfl) (by decide) (by decide) (by decide) (by decide) (by rw [hml]; rfl) (hb hby at_47) 50 rfl (pu_cont fun T65 X64 e66 => ?_)
  show Go p_ e_ below _ T65 (mkF m_ 50 #[.val (.long x0), .second, .val (.long x1), .second, .val (.int x2), .val (.ref b3), .unset, .unset, .unset, .unset] [(.int (f1 x0 (4 : Int32))), (.int (4 : Int32)), (.ref b3)])
  refine g_bastore X64 hx hZ e66 A60 (by decide) (Nat.le_of_ble_eq_true rfl) (hb hby at_50) 51 rfl (fun T67 h68 X69 e70 W71 A72 => ?_)
  have A73 : AV Z h68 b3 .byte [(.int (f1 x0 (0 : Int32)).toInt8.toInt32), (.int (f1 x0 (1 : Int32)).toInt8.toInt32), (.int (f1 x0 (2 : Int32)).toInt8.toInt32), (.int (f1 x0 (3 : Int32)).toInt8.toInt32), (.int (f1 x0 (4 : Int32)).toInt8.toInt32), (.int (0 : Int32)), (.int (0 : Int32)), (.int (0 : Int32)), (.int (0 : Int32)), (.int (0 : Int32)), (.int (0 : Int32)), (.int (0 : Int32)), (.int (0 : Int32)), (.int (0 : Int32)), (.int (0 : Int32)), (.int (0 : Int32))] := A72
  have F74 := A73
  have N75 := Fr.snoc X69 N62 sz9
  have szh76 : h0.size ≤ h68.size := Nat.le_trans szh63 (Nat.le_of_eq W71.size.symm)
  show Go p_ e_ below _ T67 (mkF m_ 51 #[.val (.long x0), .second, .val (.long x1), .second, .val (.int x2), .val (.ref b3), .unset, .unset, .unset, .unset] [])
  refine g_aload X69 hx rfl rfl (hb hby at_51) 53 rfl ?_
  refine g_iconst X69 hx (5 : Int32) rfl (hb hby at_53) 54 rfl ?_
  refine g_lloadN X69 hx rfl (hb hby at_54) 55 rfl ?_
  refine g_iconst X69 hx (5 : Int32) rfl (hb hby at_55) 56 rfl ?_
  refine g_callS X69 hx hZ hown (wd hw 1 rfl) (wd hw 2 rfl) (wd hw 3 rfl) (wd hw 4 rfl) (by decide) e70 [(.long x0), (.int (5 : Int32))] [(.int (5 : Int32)), (.ref b3)]  rfl (co1 l Z a0 hw x0 (5 : Int32)  h68 ) (lenOf pd_0 rfl) 2 (Nat.le_of_eq rfl) (by decide) (by decide) (by decide) (by decide) (by rw [hml]; rfl) (hb hby at_56) 59 rfl (pu_cont fun T78 X77 e79 => ?_)
  show Go p_ e_ below _ T78 (mkF m_ 59 #[.val (.long x0), .second, .val (.long x1), .second, .val (.int x2), .val (.ref b3), .unset, .unset, .unset, .unset] [(.int (f1 x0 (5 : Int32))), (.int (5 : Int32)), (.ref b3)])
  refine g_bastore X77 hx hZ e79 A73 (by decide) (Nat.le_of_ble_eq_true rfl) (hb hby at_59) 60 rfl (fun T80 h81 X82 e83 W84 A85 => ?_)
  have A86 : AV Z h81 b3 .byte [(.int (f1 x0 (0 : Int32)).toInt8.toInt32), (.int (f1 x0 (1 : Int32)).toInt8.toInt32), (.int (f1 x0 (2 : Int32)).toInt8.toInt32), (.int (f1 x0 (3 : Int32)).toInt8.toInt32), (.int (f1 x0 (4 : Int32)).toInt8.toInt32), (.int (f1 x0 (5 : Int32)).toInt8.toInt32), (.int (0 : Int32)), (.int (0 : Int32)), (.int (0 : Int32)), (.int (0 : Int32)), (.int (0 : Int32)), (.int (0 : Int32)), (.int (0 : Int32)), (.int (0 : Int32)), (.int (0 : Int32)), (.int (0 : Int32))] := A85
  have F87 := A86
  have N88 := Fr.snoc X82 N75 sz9
  have szh89 : h0.size ≤ h81.size := Nat.le_trans szh76 (Nat.le_of_eq W84.size.symm)
  show Go p_ e_ below _ T80 (mkF m_ 60 #[.val (.long x0), .second, .val (.long x1), .second, .val (.int x2), .val (.ref b3), .unset, .unset, .unset, .unset] [])
  refine g_aload X82 hx rfl rfl (hb hby at_60) 62 rfl ?_
  refine g_bipush X82 hx (6 : Int32) rfl (hb hby at_62) 64 rfl ?_
  refine g_lloadN X82 hx rfl (hb hby at_64) 65 rfl ?_
  refine g_bipush X82 hx (6 : Int32) rfl (hb hby at_65) 67 rfl ?_
  refine g_callS X82 hx hZ hown (wd hw 1 rfl) (wd hw 2 rfl) (wd hw 3 rfl) (wd hw 4 rfl) (by decide) e83 [(.long x0), (.int (6 : Int32))] [(.int (6 : Int32)), (.ref b3)]  rfl (co1 l Z a0 hw x0 (6 : Int32)  h81 ) (lenOf pd_0 rfl) 2 (Nat.le_of_eq rfl) (by decide) (by decide) (by decide) (by decide) (by rw [hml]; rfl) (hb hby at_67) 70 rfl (pu_cont fun T91 X90 e92 => ?_)
  show Go p_ e_ below _ T91 (mkF m_ 70 #[.val (.long x0), .second, .val (.long x1), .second, .val (.int x2), .val (.ref b3), .unset, .unset, .unset, .unset] [(.int (f1 x0 (6 : Int32))), (.int (6 : Int32)), (.ref b3)])
  refine g_bastore X90 hx hZ e92 A86 (by decide) (Nat.le_of_ble_eq_true rfl) (hb hby at_70) 71 rfl (fun T93 h94 X95 e96 W97 A98 => ?_)
  have A99 : AV Z h94 b3 .byte [(.int (f1 x0 (0 : Int32)).toInt8.toInt32), (.int (f1 x0 (1 : Int32)).toInt8.toInt32), (.int (f1 x0 (2 : Int32)).toInt8.toInt32), (.int (f1 x0 (3 : Int32)).toInt8.toInt32), (.int (f1 x0 (4 : Int32)).toInt8.toInt32), (.int (f1 x0 (5 : Int32)).toInt8.toInt32), (.int (f1 x0 (6 : Int32)).toInt8.toInt32), (.int (0 : Int32)), (.int (0 : Int32)), (.int (0 : Int32)), (.int (0 : Int32)), (.int (0 : Int32)), (.int (0 : Int32)), (.int (0 : Int32)), (.int (0 : Int32)), (.int (0 : Int32))] := A98
  have F100 := A99
  have N101 := Fr.snoc X95 N88 sz9
  have szh102 : h0.size ≤ h94.size := Nat.le_trans szh89 (Nat.le_of_eq W97.size.symm)
  show Go p_ e_ below _ T93 (mkF m_ 71 #[.val (.long x0), .second, .val (.long x1), .second, .val (.int x2), .val (.ref b3), .unset, .unset, .unset, .unset] [])
  refine g_aload X95 hx rfl rfl (hb hby at_71) 73 rfl ?_
  refine g_bipush X95 hx (7 : Int32) rfl (hb hby at_73) 75 rfl ?_
  refine g_lloadN X95 hx rfl (hb hby at_75) 76 rfl ?_
  refine g_bipush X95 hx (7 : Int32) rfl (hb hby at_76) 78 rfl ?_
  refine g_callS X95 hx hZ hown (wd hw 1 rfl) (wd hw 2 rfl) (wd hw 3 rfl) (wd hw 4 rfl) (by decide) e96 [(.long x0), (.int (7 : Int32))] [(.int (7 : Int32)), (.ref b3)]  rfl (co1 l Z a0 hw x0 (7 : Int32)  h94 ) (lenOf pd_0 rfl) 2 (Nat.le_of_eq rfl) (by decide) (by decide) (by decide) (by decide) (by rw [hml]; rfl) (hb hby at_78) 81 rfl (pu_cont fun T104 X103 e105 => ?_)
  show Go p_ e_ below _ T104 (mkF m_ 81 #[.val (.long x0), .second, .val (.long x1), .second, .val (.int x2), .val (.ref b3), .unset, .unset, .unset, .unset] [(.int (f1 x0 (7 : Int32))), (.int (7 : Int32)), (.ref b3)])
  refine g_bastore X103 hx hZ e105 A99 (by decide) (Nat.le_of_ble_eq_true rfl) (hb hby at_81) 82 rfl (fun T106 h107 X108 e109 W110 A111 => ?_)
  have A112 : AV Z h107 b3 .byte [(.int (f1 x0 (0 : Int32)).toInt8.toInt32), (.int (f1 x0 (1 : Int32)).toInt8.toInt32), (.int (f1 x0 (2 : Int32)).toInt8.toInt32), (.int (f1 x0 (3 : Int32)).toInt8.toInt32), (.int (f1 x0 (4 : Int32)).toInt8.toInt32), (.int (f1 x0 (5 : Int32)).toInt8.toInt32), (.int (f1 x0 (6 : Int32)).toInt8.toInt32), (.int (f1 x0 (7 : Int32)).toInt8.toInt32), (.int (0 : Int32)), (.int (0 : Int32)), (.int (0 : Int32)), (.int (0 : Int32)), (.int (0 : Int32)), (.int (0 : Int32)), (.int (0 : Int32)), (.int (0 : Int32))] := A111
  have F113 := A112
  have N114 := Fr.snoc X108 N101 sz9
  have szh115 : h0.size ≤ h107.size := Nat.le_trans szh102 (Nat.le_of_eq W110.size.symm)
  show Go p_ e_ below _ T106 (mkF m_ 82 #[.val (.long x0), .second, .val (.long x1), .second, .val (.int x2), .val (.ref b3), .unset, .unset, .unset, .unset] [])
  refine g_aload X108 hx rfl rfl (hb hby at_82) 84 rfl ?_
  refine g_bipush X108 hx (8 : Int32) rfl (hb hby at_84) 86 rfl ?_
  refine g_lloadN X108 hx rfl (hb hby at_86) 87 rfl ?_
  refine g_bipush X108 hx (8 : Int32) rfl (hb hby at_87) 89 rfl ?_
  refine g_callS X108 hx hZ hown (wd hw 1 rfl) (wd hw 2 rfl) (wd hw 3 rfl) (wd hw 4 rfl) (by decide) e109 [(.long x0), (.int (8 : Int32))] [(.int (8 : Int32)), (.ref b3)]  rfl (co1 l Z a0 hw x0 (8 : Int32)  h107 ) (lenOf pd_0 rfl) 2 (Nat.le_of_eq rfl) (by decide) (by decide) (by decide) (by decide) (by rw [hml]; rfl) (hb hby at_89) 92 rfl (pu_cont fun T117 X116 e118 => ?_)
  show Go p_ e_ below _ T117 (mkF m_ 92 #[.val (.long x0), .second, .val (.long x1), .second, .val (.int x2), .val (.ref b3), .unset, .unset, .unset, .unset] [(.int (f1 x0 (8 : Int32))), (.int (8 : Int32)), (.ref b3)])
  refine g_bastore X116 hx hZ e118 A112 (by decide) (Nat.le_of_ble_eq_true rfl) (hb hby at_92) 93 rfl (fun T119 h120 X121 e122 W123 A124 => ?_)
  have A125 : AV Z h120 b3 .byte [(.int (f1 x0 (0 : Int32)).toInt8.toInt32), (.int (f1 x0 (1 : Int32)).toInt8.toInt32), (.int (f1 x0 (2 : Int32)).toInt8.toInt32), (.int (f1 x0 (3 : Int32)).toInt8.toInt32), (.int (f1 x0 (4 : Int32)).toInt8.toInt32), (.int (f1 x0 (5 : Int32)).toInt8.toInt32), (.int (f1 x0 (6 : Int32)).toInt8.toInt32), (.int (f1 x0 (7 : Int32)).toInt8.toInt32), (.int (f1 x0 (8 : Int32)).toInt8.toInt32), (.int (0 : Int32)), (.int (0 : Int32)), (.int (0 : Int32)), (.int (0 : Int32)), (.int (0 : Int32)), (.int (0 : Int32)), (.int (0 : Int32))] := A124
  have F126 := A125
  have N127 := Fr.snoc X121 N114 sz9
  have szh128 : h0.size ≤ h120.size := Nat.le_trans szh115 (Nat.le_of_eq W123.size.symm)
  show Go p_ e_ below _ T119 (mkF m_ 93 #[.val (.long x0), .second, .val (.long x1), .second, .val (.int x2), .val (.ref b3), .unset, .unset, .unset, .unset] [])
  refine g_aload X121 hx rfl rfl (hb hby at_93) 95 rfl ?_
  refine g_bipush X121 hx (9 : Int32) rfl (hb hby at_95) 97 rfl ?_
  refine g_lloadN X121 hx rfl (hb hby at_97) 98 rfl ?_
  refine g_bipush X121 hx (9 : Int32) rfl (hb hby at_98) 100 rfl ?_
  refine g_callS X121 hx hZ hown (wd hw 1 rfl) (wd hw 2 rfl) (wd hw 3 rfl) (wd hw 4 rfl) (by decide) e122 [(.long x0), (.int (9 : Int32))] [(.int (9 : Int32)), (.ref b3)]  rfl (co1 l Z a0 hw x0 (9 : Int32)  h120 ) (lenOf pd_0 rfl) 2 (Nat.le_of_eq rfl) (by decide) (by decide) (by decide) (by decide) (by rw [hml]; rfl) (hb hby at_100) 103 rfl (pu_cont fun T130 X129 e131 => ?_)
  show Go p_ e_ below _ T130 (mkF m_ 103 #[.val (.long x0), .second, .val (.long x1), .second, .val (.int x2), .val (.ref b3), .unset, .unset, .unset, .unset] [(.int (f1 x0 (9 : Int32))), (.int (9 : Int32)), (.ref b3)])
  refine g_bastore X129 hx hZ e131 A125 (by decide) (Nat.le_of_ble_eq_true rfl) (hb hby at_103) 104 rfl (fun T132 h133 X134 e135 W136 A137 => ?_)
  have A138 : AV Z h133 b3 .byte [(.int (f1 x0 (0 : Int32)).toInt8.toInt32), (.int (f1 x0 (1 : Int32)).toInt8.toInt32), (.int (f1 x0 (2 : Int32)).toInt8.toInt32), (.int (f1 x0 (3 : Int32)).toInt8.toInt32), (.int (f1 x0 (4 : Int32)).toInt8.toInt32), (.int (f1 x0 (5 : Int32)).toInt8.toInt32), (.int (f1 x0 (6 : Int32)).toInt8.toInt32), (.int (f1 x0 (7 : Int32)).toInt8.toInt32), (.int (f1 x0 (8 : Int32)).toInt8.toInt32), (.int (f1 x0 (9 : Int32)).toInt8.toInt32), (.int (0 : Int32)), (.int (0 : Int32)), (.int (0 : Int32)), (.int (0 : Int32)), (.int (0 : Int32)), (.int (0 : Int32))] := A137
  have F139 := A138
  have N140 := Fr.snoc X134 N127 sz9
  have szh141 : h0.size ≤ h133.size := Nat.le_trans szh128 (Nat.le_of_eq W136.size.symm)
  show Go p_ e_ below _ T132 (mkF m_ 104 #[.val (.long x0), .second, .val (.long x1), .second, .val (.int x2), .val (.ref b3), .unset, .unset, .unset, .unset] [])
  refine g_aload X134 hx rfl rfl (hb hby at_104) 106 rfl ?_
  refine g_bipush X134 hx (10 : Int32) rfl (hb hby at_106) 108 rfl ?_
  refine g_lloadN X134 hx rfl (hb hby at_108) 109 rfl ?_
  refine g_bipush X134 hx (10 : Int32) rfl (hb hby at_109) 111 rfl ?_
  refine g_callS X134 hx hZ hown (wd hw 1 rfl) (wd hw 2 rfl) (wd hw 3 rfl) (wd hw 4 rfl) (by decide) e135 [(.long x0), (.int (10 : Int32))] [(.int (10 : Int32)), (.ref b3)]  rfl (co1 l Z a0 hw x0 (10 : Int32)  h133 ) (lenOf pd_0 rfl) 2 (Nat.le_of_eq rfl) (by decide) (by decide) (by decide) (by decide) (by rw [hml]; rfl) (hb hby at_111) 114 rfl (pu_cont fun T143 X142 e144 => ?_)
  show Go p_ e_ below _ T143 (mkF m_ 114 #[.val (.long x0), .second, .val (.long x1), .second, .val (.int x2), .val (.ref b3), .unset, .unset, .unset, .unset] [(.int (f1 x0 (10 : Int32))), (.int (10 : Int32)), (.ref b3)])
  refine g_bastore X142 hx hZ e144 A138 (by decide) (Nat.le_of_ble_eq_true rfl) (hb hby at_114) 115 rfl (fun T145 h146 X147 e148 W149 A150 => ?_)
  have A151 : AV Z h146 b3 .byte [(.int (f1 x0 (0 : Int32)).toInt8.toInt32), (.int (f1 x0 (1 : Int32)).toInt8.toInt32), (.int (f1 x0 (2 : Int32)).toInt8.toInt32), (.int (f1 x0 (3 : Int32)).toInt8.toInt32), (.int (f1 x0 (4 : Int32)).toInt8.toInt32), (.int (f1 x0 (5 : Int32)).toInt8.toInt32), (.int (f1 x0 (6 : Int32)).toInt8.toInt32), (.int (f1 x0 (7 : Int32)).toInt8.toInt32), (.int (f1 x0 (8 : Int32)).toInt8.toInt32), (.int (f1 x0 (9 : Int32)).toInt8.toInt32), (.int (f1 x0 (10 : Int32)).toInt8.toInt32), (.int (0 : Int32)), (.int (0 : Int32)), (.int (0 : Int32)), (.int (0 : Int32)), (.int (0 : Int32))] := A150
  have F152 := A151
  have N153 := Fr.snoc X147 N140 sz9
  have szh154 : h0.size ≤ h146.size := Nat.le_trans szh141 (Nat.le_of_eq W149.size.symm)
  show Go p_ e_ below _ T145 (mkF m_ 115 #[.val (.long x0), .second, .val (.long x1), .second, .val (.int x2), .val (.ref b3), .unset, .unset, .unset, .unset] [])
  refine g_aload X147 hx rfl rfl (hb hby at_115) 117 rfl ?_
  refine g_bipush X147 hx (11 : Int32) rfl (hb hby at_117) 119 rfl ?_
  refine g_lloadN X147 hx rfl (hb hby at_119) 120 rfl ?_
  refine g_bipush X147 hx (11 : Int32) rfl (hb hby at_120) 122 rfl ?_
  refine g_callS X147 hx hZ hown (wd hw 1 rfl) (wd hw 2 rfl) (wd hw 3 rfl) (wd hw 4 rfl) (by decide) e148 [(.long x0), (.int (11 : Int32))] [(.int (11 : Int32)), (.ref b3)]  rfl (co1 l Z a0 hw x0 (11 : Int32)  h146 ) (lenOf pd_0 rfl) 2 (Nat.le_of_eq rfl) (by decide) (by decide) (by decide) (by decide) (by rw [hml]; rfl) (hb hby at_122) 125 rfl (pu_cont fun T156 X155 e157 => ?_)
  show Go p_ e_ below _ T156 (mkF m_ 125 #[.val (.long x0), .second, .val (.long x1), .second, .val (.int x2), .val (.ref b3), .unset, .unset, .unset, .unset] [(.int (f1 x0 (11 : Int32))), (.int (11 : Int32)), (.ref b3)])
  refine g_bastore X155 hx hZ e157 A151 (by decide) (Nat.le_of_ble_eq_true rfl) (hb hby at_125) 126 rfl (fun T158 h159 X160 e161 W162 A163 => ?_)
  have A164 : AV Z h159 b3 .byte [(.int (f1 x0 (0 : Int32)).toInt8.toInt32), (.int (f1 x0 (1 : Int32)).toInt8.toInt32), (.int (f1 x0 (2 : Int32)).toInt8.toInt32), (.int (f1 x0 (3 : Int32)).toInt8.toInt32), (.int (f1 x0 (4 : Int32)).toInt8.toInt32), (.int (f1 x0 (5 : Int32)).toInt8.toInt32), (.int (f1 x0 (6 : Int32)).toInt8.toInt32), (.int (f1 x0 (7 : Int32)).toInt8.toInt32), (.int (f1 x0 (8 : Int32)).toInt8.toInt32), (.int (f1 x0 (9 : Int32)).toInt8.toInt32), (.int (f1 x0 (10 : Int32)).toInt8.toInt32), (.int (f1 x0 (11 : Int32)).toInt8.toInt32), (.int (0 : Int32)), (.int (0 : Int32)), (.int (0 : Int32)), (.int (0 : Int32))] := A163
  have F165 := A164
  have N166 := Fr.snoc X160 N153 sz9
  have szh167 : h0.size ≤ h159.size := Nat.le_trans szh154 (Nat.le_of_eq W162.size.symm)
  show Go p_ e_ below _ T158 (mkF m_ 126 #[.val (.long x0), .second, .val (.long x1), .second, .val (.int x2), .val (.ref b3), .unset, .unset, .unset, .unset] [])
  refine g_aload X160 hx rfl rfl (hb hby at_126) 128 rfl ?_
  refine g_bipush X160 hx (12 : Int32) rfl (hb hby at_128) 130 rfl ?_
  refine g_lloadN X160 hx rfl (hb hby at_130) 131 rfl ?_
  refine g_bipush X160 hx (12 : Int32) rfl (hb hby at_131) 133 rfl ?_
  refine g_callS X160 hx hZ hown (wd hw 1 rfl) (wd hw 2 rfl) (wd hw 3 rfl) (wd hw 4 rfl) (by decide) e161 [(.long x0), (.int (12 : Int32))] [(.int (12 : Int32)), (.ref b3)]  rfl (co1 l Z a0 hw x0 (12 : Int32)  h159 ) (lenOf pd_0 rfl) 2 (Nat.le_of_eq rfl) (by decide) (by decide) (by decide) (by decide) (by rw [hml]; rfl) (hb hby at_133) 136 rfl (pu_cont fun T169 X168 e170 => ?_)
  show Go p_ e_ below _ T169 (mkF m_ 136 #[.val (.long x0), .second, .val (.long x1), .second, .val (.int x2), .val (.ref b3), .unset, .unset, .unset, .unset] [(.int (f1 x0 (12 : Int32))), (.int (12 : Int32)), (.ref b3)])
  refine g_bastore X168 hx hZ e170 A164 (by decide) (Nat.le_of_ble_eq_true rfl) (hb hby at_136) 137 rfl (fun T171 h172 X173 e174 W175 A176 => ?_)
  have A177 : AV Z h172 b3 .byte [(.int (f1 x0 (0 : Int32)).toInt8.toInt32), (.int (f1 x0 (1 : Int32)).toInt8.toInt32), (.int (f1 x0 (2 : Int32)).toInt8.toInt32), (.int (f1 x0 (3 : Int32)).toInt8.toInt32), (.int (f1 x0 (4 : Int32)).toInt8.toInt32), (.int (f1 x0 (5 : Int32)).toInt8.toInt32), (.int (f1 x0 (6 : Int32)).toInt8.toInt32), (.int (f1 x0 (7 : Int32)).toInt8.toInt32), (.int (f1 x0 (8 : Int32)).toInt8.toInt32), (.int (f1 x0 (9 : Int32)).toInt8.toInt32), (.int (f1 x0 (10 : Int32)).toInt8.toInt32), (.int (f1 x0 (11 : Int32)).toInt8.toInt32), (.int (f1 x0 (12 : Int32)).toInt8.toInt32), (.int (0 : Int32)), (.int (0 : Int32)), (.int (0 : Int32))] := A176
  have F178 := A177
  have N179 := Fr.snoc X173 N166 sz9
  have szh180 : h0.size ≤ h172.size := Nat.le_trans szh167 (Nat.le_of_eq W175.size.symm)
  show Go p_ e_ below _ T171 (mkF m_ 137 #[.val (.long x0), .second, .val (.long x1), .second, .val (.int x2), .val (.ref b3), .unset, .unset, .unset, .unset] [])
  refine g_aload X173 hx rfl rfl (hb hby at_137) 139 rfl ?_
  refine g_bipush X173 hx (13 : Int32) rfl (hb hby at_139) 141 rfl ?_
  refine g_lloadN X173 hx rfl (hb hby at_141) 142 rfl ?_
  refine g_bipush X173 hx (13 : Int32) rfl (hb hby at_142) 144 rfl ?_
  refine g_callS X173 hx hZ hown (wd hw 1 rfl) (wd hw 2 rfl) (wd hw 3 rfl) (wd hw 4 rfl) (by decide) e174 [(.long x0), (.int (13 : Int32))] [(.int (13 : Int32)), (.ref b3)]  rfl (co1 l Z a0 hw x0 (13 : Int32)  h172 ) (lenOf pd_0 rfl) 2 (Nat.le_of_eq rfl) (by decide) (by decide) (by decide) (by decide) (by rw [hml]; rfl) (hb hby at_144) 147 rfl (pu_cont fun T182 X181 e183 => ?_)
  show Go p_ e_ below _ T182 (mkF m_ 147 #[.val (.long x0), .second, .val (.long x1), .second, .val (.int x2), .val (.ref b3), .unset, .unset, .unset, .unset] [(.int (f1 x0 (13 : Int32))), (.int (13 : Int32)), (.ref b3)])
  refine g_bastore X181 hx hZ e183 A177 (by decide) (Nat.le_of_ble_eq_true rfl) (hb hby at_147) 148 rfl (fun T184 h185 X186 e187 W188 A189 => ?_)
  have A190 : AV Z h185 b3 .byte [(.int (f1 x0 (0 : Int32)).toInt8.toInt32), (.int (f1 x0 (1 : Int32)).toInt8.toInt32), (.int (f1 x0 (2 : Int32)).toInt8.toInt32), (.int (f1 x0 (3 : Int32)).toInt8.toInt32), (.int (f1 x0 (4 : Int32)).toInt8.toInt32), (.int (f1 x0 (5 : Int32)).toInt8.toInt32), (.int (f1 x0 (6 : Int32)).toInt8.toInt32), (.int (f1 x0 (7 : Int32)).toInt8.toInt32), (.int (f1 x0 (8 : Int32)).toInt8.toInt32), (.int (f1 x0 (9 : Int32)).toInt8.toInt32), (.int (f1 x0 (10 : Int32)).toInt8.toInt32), (.int (f1 x0 (11 : Int32)).toInt8.toInt32), (.int (f1 x0 (12 : Int32)).toInt8.toInt32), (.int (f1 x0 (13 : Int32)).toInt8.toInt32), (.int (0 : Int32)), (.int (0 : Int32))] := A189
  have F191 := A190
  have N192 := Fr.snoc X186 N179 sz9
  have szh193 : h0.size ≤ h185.size := Nat.le_trans szh180 (Nat.le_of_eq W188.size.symm)
  show Go p_ e_ below _ T184 (mkF m_ 148 #[.val (.long x0), .second, .val (.long x1), .second, .val (.int x2), .val (.ref b3), .unset, .unset, .unset, .unset] [])
  refine g_aload X186 hx rfl rfl (hb hby at_148) 150 rfl ?_
  refine g_bipush X186 hx (14 : Int32) rfl (hb hby at_150) 152 rfl ?_
  refine g_lloadN X186 hx rfl (hb hby at_152) 153 rfl ?_
  refine g_bipush X186 hx (14 : Int32) rfl (hb hby at_153) 155 rfl ?_
  refine g_callS X186 hx hZ hown (wd hw 1 rfl) (wd hw 2 rfl) (wd hw 3 rfl) (wd hw 4 rfl) (by decide) e187 [(.long x0), (.int (14 : Int32))] [(.int (14 : Int32)), (.ref b3)]  rfl (co1 l Z a0 hw x0 (14 : Int32)  h185 ) (lenOf pd_0 rfl) 2 (Nat.le_of_eq rfl) (by decide) (by decide) (by decide) (by decide) (by rw [hml]; rfl) (hb hby at_155) 158 rfl (pu_cont fun T195 X194 e196 => ?_)
  show Go p_ e_ below _ T195 (mkF m_ 158 #[.val (.long x0), .second, .val (.long x1), .second, .val (.int x2), .val (.ref b3), .unset, .unset, .unset, .unset] [(.int (f1 x0 (14 : Int32))), (.int (14 : Int32)), (.ref b3)])
  refine g_bastore X194 hx hZ e196 A190 (by decide) (Nat.le_of_ble_eq_true rfl) (hb hby at_158) 159 rfl (fun T197 h198 X199 e200 W201 A202 => ?_)
  have A203 : AV Z h198 b3 .byte [(.int (f1 x0 (0 : Int32)).toInt8.toInt32), (.int (f1 x0 (1 : Int32)).toInt8.toInt32), (.int (f1 x0 (2 : Int32)).toInt8.toInt32), (.int (f1 x0 (3 : Int32)).toInt8.toInt32), (.int (f1 x0 (4 : Int32)).toInt8.toInt32), (.int (f1 x0 (5 : Int32)).toInt8.toInt32), (.int (f1 x0 (6 : Int32)).toInt8.toInt32), (.int (f1 x0 (7 : Int32)).toInt8.toInt32), (.int (f1 x0 (8 : Int32)).toInt8.toInt32), (.int (f1 x0 (9 : Int32)).toInt8.toInt32), (.int (f1 x0 (10 : Int32)).toInt8.toInt32), (.int (f1 x0 (11 : Int32)).toInt8.toInt32), (.int (f1 x0 (12 : Int32)).toInt8.toInt32), (.int (f1 x0 (13 : Int32)).toInt8.toInt32), (.int (f1 x0 (14 : Int32)).toInt8.toInt32), (.int (0 : Int32))] := A202
  have F204 := A203
  have N205 := Fr.snoc X199 N192 sz9
  have szh206 : h0.size ≤ h198.size := Nat.le_trans szh193 (Nat.le_of_eq W201.size.symm)
  show Go p_ e_ below _ T197 (mkF m_ 159 #[.val (.long x0), .second, .val (.long x1), .second, .val (.int x2), .val (.ref b3), .unset, .unset, .unset, .unset] [])
  refine g_aload X199 hx rfl rfl (hb hby at_159) 161 rfl ?_
  refine g_bipush X199 hx (15 : Int32) rfl (hb hby at_161) 163 rfl ?_
  refine g_lloadN X199 hx rfl (hb hby at_163) 164 rfl ?_
  refine g_bipush X199 hx (15 : Int32) rfl (hb hby at_164) 166 rfl ?_
  refine g_callS X199 hx hZ hown (wd hw 1 rfl) (wd hw 2 rfl) (wd hw 3 rfl) (wd hw 4 rfl) (by decide) e200 [(.long x0), (.int (15 : Int32))] [(.int (15 : Int32)), (.ref b3)]  rfl (co1 l Z a0 hw x0 (15 : Int32)  h198 ) (lenOf pd_0 rfl) 2 (Nat.le_of_eq rfl) (by decide) (by decide) (by decide) (by decide) (by rw [hml]; rfl) (hb hby at_166) 169 rfl (pu_cont fun T208 X207 e209 => ?_)
  show Go p_ e_ below _ T208 (mkF m_ 169 #[.val (.long x0), .second, .val (.long x1), .second, .val (.int x2), .val (.ref b3), .unset, .unset, .unset, .unset] [(.int (f1 x0 (15 : Int32))), (.int (15 : Int32)), (.ref b3)])
  refine g_bastore X207 hx hZ e209 A203 (by decide) (Nat.le_of_ble_eq_true rfl) (hb hby at_169) 170 rfl (fun T210 h211 X212 e213 W214 A215 => ?_)
  have A216 : AV Z h211 b3 .byte [(.int (f1 x0 (0 : Int32)).toInt8.toInt32), (.int (f1 x0 (1 : Int32)).toInt8.toInt32), (.int (f1 x0 (2 : Int32)).toInt8.toInt32), (.int (f1 x0 (3 : Int32)).toInt8.toInt32), (.int (f1 x0 (4 : Int32)).toInt8.toInt32), (.int (f1 x0 (5 : Int32)).toInt8.toInt32), (.int (f1 x0 (6 : Int32)).toInt8.toInt32), (.int (f1 x0 (7 : Int32)).toInt8.toInt32), (.int (f1 x0 (8 : Int32)).toInt8.toInt32), (.int (f1 x0 (9 : Int32)).toInt8.toInt32), (.int (f1 x0 (10 : Int32)).toInt8.toInt32), (.int (f1 x0 (11 : Int32)).toInt8.toInt32), (.int (f1 x0 (12 : Int32)).toInt8.toInt32), (.int (f1 x0 (13 : Int32)).toInt8.toInt32), (.int (f1 x0 (14 : Int32)).toInt8.toInt32), (.int (f1 x0 (15 : Int32)).toInt8.toInt32)] := A215
  have F217 := A216
  have N218 := Fr.snoc X212 N205 sz9
  have szh219 : h0.size ≤ h211.size := Nat.le_trans szh206 (Nat.le_of_eq W214.size.symm)
  show Go p_ e_ below _ T210 (mkF m_ 170 #[.val (.long x0), .second, .val (.long x1), .second, .val (.int x2), .val (.ref b3), .unset, .unset, .unset, .unset] [])
  obtain ⟨vs, hvs, hl⟩ : ∃ vs : List Int32, ([(.int (f1 x0 (0 : Int32)).toInt8.toInt32), (.int (f1 x0 (1 : Int32)).toInt8.toInt32), (.int (f1 x0 (2 : Int32)).toInt8.toInt32), (.int (f1 x0 (3 : Int32)).toInt8.toInt32), (.int (f1 x0 (4 : Int32)).toInt8.toInt32), (.int (f1 x0 (5 : Int32)).toInt8.toInt32), (.int (f1 x0 (6 : Int32)).toInt8.toInt32), (.int (f1 x0 (7 : Int32)).toInt8.toInt32), (.int (f1 x0 (8 : Int32)).toInt8.toInt32), (.int (f1 x0 (9 : Int32)).toInt8.toInt32), (.int (f1 x0 (10 : Int32)).toInt8.toInt32), (.int (f1 x0 (11 : Int32)).toInt8.toInt32), (.int (f1 x0 (12 : Int32)).toInt8.toInt32), (.int (f1 x0 (13 : Int32)).toInt8.toInt32), (.int (f1 x0 (14 : Int32)).toInt8.toInt32), (.int (f1 x0 (15 : Int32)).toInt8.toInt32)] : List Value) = vs.map Value.int ∧ vs.length = 16 := ⟨[(f1 x0 (0 : Int32)).toInt8.toInt32, (f1 x0 (1 : Int32)).toInt8.toInt32, (f1 x0 (2 : Int32)).toInt8.toInt32, (f1 x0 (3 : Int32)).toInt8.toInt32, (f1 x0 (4 : Int32)).toInt8.toInt32, (f1 x0 (5 : Int32)).toInt8.toInt32, (f1 x0 (6 : Int32)).toInt8.toInt32, (f1 x0 (7 : Int32)).toInt8.toInt32, (f1 x0 (8 : Int32)).toInt8.toInt32, (f1 x0 (9 : Int32)).toInt8.toInt32, (f1 x0 (10 : Int32)).toInt8.toInt32, (f1 x0 (11 : Int32)).toInt8.toInt32, (f1 x0 (12 : Int32)).toInt8.toInt32, (f1 x0 (13 : Int32)).toInt8.toInt32, (f1 x0 (14 : Int32)).toInt8.toInt32, (f1 x0 (15 : Int32)).toInt8.toInt32], rfl, rfl⟩
  have A220 := A216
  rw [hvs] at A220
  refine Go.joinH (α := List Int32) X212 (fun _ => mkF m_ 224 #[.val (.long x0), .second, .val (.long x1), .second, .val (.int x2), .val (.ref b3), .unset, .unset, .unset, .unset] []) (fun h' L' z => Fr h0.size L' ∧ AV Z h' b3 .byte (z.map Value.int) ∧ z.length = 16) 1 16 ?_ (fun J221 => ?_)
  · rintro T222 h223 L224 X225 e226 us ⟨N227, A228, hu⟩
    show Go p_ e_ below _ T222 (mkF m_ 224 #[.val (.long x0), .second, .val (.long x1), .second, .val (.int x2), .val (.ref b3), .unset, .unset, .unset, .unset] [])
    refine g_iload X225 hx rfl (hb hby at_224) 226 rfl ?_
    refine g_bipush X225 hx (7 : Int32) rfl (hb hby at_226) 228 rfl ?_
    refine g_iand X225 hx (hb hby at_228) 229 rfl ?_
    refine g_bipush X225 hx (7 : Int32) rfl (hb hby at_229) 231 rfl ?_
    refine g_irem X225 hx (by decide) (hb hby at_231) 232 rfl ?_
    generalize hv229 : ((x2 &&& (7 : Int32)) % (7 : Int32)) = v229
    refine g_istore X225 hx #[.val (.long x0), .second, .val (.long x1), .second, .val (.int x2), .val (.ref b3), .val (.int v229), .unset, .unset, .unset] rfl (hb hby at_232) 234 rfl ?_
    refine g_iload X225 hx rfl (hb hby at_234) 236 rfl ?_
    refine g_iconst X225 hx (3 : Int32) rfl (hb hby at_236) 237 rfl ?_
    refine g_iushr X225 hx (hb hby at_237) 238 rfl ?_
    refine g_iconst X225 hx (1 : Int32) rfl (hb hby at_238) 239 rfl ?_
    refine g_iand X225 hx (hb hby at_239) 240 rfl ?_
    refine Go.joinT (α := Int32) X225 e226 (fun z => mkF m_ 257 #[.val (.long x0), .second, .val (.long x1), .second, .val (.int x2), .val (.ref b3), .val (.int v229), .unset, .unset, .unset] [(.int z)]) (fun z => z = (if ((XT.ushr x2 (3 : Int32)) &&& (1 : Int32)) = (0 : Int32) then (10 : Int32) else (((XT.ushr x2 (4 : Int32)) &&& (15 : Int32)) - (3 : Int32)))) ?_ (fun J231 => ?_)
    · rintro T232 X233 e234 z230 hz230
      show Go p_ e_ below _ T232 (mkF m_ 257 #[.val (.long x0), .second, .val (.long x1), .second, .val (.int x2), .val (.ref b3), .val (.int v229), .unset, .unset, .unset] [(.int z230)])
      refine g_istore X233 hx #[.val (.long x0), .second, .val (.long x1), .second, .val (.int x2), .val (.ref b3), .val (.int v229), .val (.int z230), .unset, .unset] rfl (hb hby at_257) 259 rfl ?_
      refine g_iload X233 hx rfl (hb hby at_259) 261 rfl ?_
      refine g_iload X233 hx rfl (hb hby at_261) 263 rfl ?_
      refine g_iadd X233 hx (hb hby at_263) 264 rfl ?_
      generalize hv237 : (v229 + z230) = v237
      refine g_istore X233 hx #[.val (.long x0), .second, .val (.long x1), .second, .val (.int x2), .val (.ref b3), .val (.int v229), .val (.int z230), .val (.int v237), .unset] rfl (hb hby at_264) 266 rfl ?_
      have hF : 0 ≤ v229.toInt ∧ v229.toInt ≤ 6 := by rw [← hv229]; exact own_from _
      refine Go.joinT (α := Int32) X233 e234 (fun z => mkF m_ 410 #[.val (.long x0), .second, .val (.long x1), .second, .val (.int x2), .val (.ref b3), .val (.int v229), .val (.int z230), .val (.int v237), .unset] [(.int z)]) (fun z => z = (if z230 = (10 : Int32) then (if (f2 (gt us v229)) = (0 : Int32) then (0 : Int32) else (if (f2 (gt us (v229 + (1 : Int32)))) = (0 : Int32) then (0 : Int32) else (if (f2 (gt us (v229 + (2 : Int32)))) = (0 : Int32) then (0 : Int32) else (if (f2 (gt us (v229 + (3 : Int32)))) = (0 : Int32) then (0 : Int32) else (if (f2 (gt us (v229 + (4 : Int32)))) = (0 : Int32) then (0 : Int32) else (if (f2 (gt us (v229 + (5 : Int32)))) = (0 : Int32) then (0 : Int32) else (if (f2 (gt us (v229 + (6 : Int32)))) = (0 : Int32) then (0 : Int32) else (if (f2 (gt us (v229 + (7 : Int32)))) = (0 : Int32) then (0 : Int32) else (if (f2 (gt us (v229 + (8 : Int32)))) = (0 : Int32) then (0 : Int32) else (if (f2 (gt us (v229 + (9 : Int32)))) = (0 : Int32) then (0 : Int32) else (1 : Int32))))))))))) else (0 : Int32))) ?_ (fun J239 => ?_)
      · rintro T240 X241 e242 z238 hz238
        show Go p_ e_ below _ T240 (mkF m_ 410 #[.val (.long x0), .second, .val (.long x1), .second, .val (.int x2), .val (.ref b3), .val (.int v229), .val (.int z230), .val (.int v237), .unset] [(.int z238)])
        refine g_istore X241 hx #[.val (.long x0), .second, .val (.long x1), .second, .val (.int x2), .val (.ref b3), .val (.int v229), .val (.int z230), .val (.int v237), .val (.int z238)] rfl (hb hby at_410) 412 rfl ?_
        refine g_aload X241 hx rfl rfl (hb hby at_412) 414 rfl ?_
        refine g_iload X241 hx rfl (hb hby at_414) 416 rfl ?_
        refine g_iload X241 hx rfl (hb hby at_416) 418 rfl ?_
        refine g_callS X241 hx hZ hown (wd hw 10 rfl) (wd hw 11 rfl) (wd hw 12 rfl) (wd hw 13 rfl) (by decide) e242 [(.ref b3), (.int v229), (.int v237)] []  rfl (co3 l Z a0 hw b3 v229 v237 us h223 A228 hu hF) (lenOf pd_2 rfl) 0 (Nat.le_of_eq rfl) (by decide) (by decide) (by decide) (by decide) (by rw [hml]; rfl) (hb hby at_418) 421 rfl (pu_cont fun T246 X245 e247 => ?_)
        show Go p_ e_ below _ T246 (mkF m_ 421 #[.val (.long x0), .second, .val (.long x1), .second, .val (.int x2), .val (.ref b3), .val (.int v229), .val (.int z230), .val (.int v237), .val (.int z238)] [(.int (isn v229 v237 us))])
        refine g_iload X245 hx rfl (hb hby at_421) 423 rfl ?_
        refine g_icmp_ne X245 hx (hb hby at_423) 430 426 (by decide) rfl rfl (fun q423 => ?_) (fun q423 => ?_)
        · exact absurd (by rw [hz238, ← hv237]; exact own_fin _ _ _) q423
        · refine g_iconst X245 hx (1 : Int32) rfl (hb hby at_426) 427 rfl ?_
          refine g_goto X245 hx (hb hby at_427) 431 (by decide) rfl ?_
          exact g_retz X245 hx hret hlk (by decide) (by decide) (hb hby at_431) ⟨rfl, N227⟩
      · refine g_iload X233 hx rfl (hb hby at_266) 268 rfl ?_
        refine g_bipush X233 hx (10 : Int32) rfl (hb hby at_268) 270 rfl ?_
        refine g_icmp_ne X233 hx (hb hby at_270) 409 273 (by decide) rfl rfl (fun q270 => ?_) (fun q270 => ?_)
        · refine g_iconst X233 hx (0 : Int32) rfl (hb hby at_409) 410 rfl ?_
          exact J239 T232 X233 e234 ((0 : Int32)) ((if_neg q270).trans rfl).symm
        · refine g_aload X233 hx rfl rfl (hb hby at_273) 275 rfl ?_
          refine g_iload X233 hx rfl (hb hby at_275) 277 rfl ?_
          refine g_baload X233 hx hZ e234 A228 (own_nn hF.1) (own_at _ hu _ hF.1 (by omega)) (hb hby at_277) 278 rfl ?_
          show Go p_ e_ below _ T232 (mkF m_ 278 #[.val (.long x0), .second, .val (.long x1), .second, .val (.int x2), .val (.ref b3), .val (.int v229), .val (.int z230), .val (.int v237), .unset] [(.int (gt us v229))])
          refine g_callS X233 hx hZ hown (wd hw 7 rfl) (wd hw 8 rfl) (wd hw 3 rfl) (wd hw 9 rfl) (by decide) e234 [(.int (gt us v229))] []  rfl (co2 l Z a0 hw (gt us v229)  h223 ) (lenOf pd_1 rfl) 0 (Nat.le_of_eq rfl) (by decide) (by decide) (by decide) (by decide) (by rw [hml]; rfl) (hb hby at_278) 281 rfl (pu_cont fun T249 X248 e250 => ?_)
          show Go p_ e_ below _ T249 (mkF m_ 281 #[.val (.long x0), .second, .val (.long x1), .second, .val (.int x2), .val (.ref b3), .val (.int v229), .val (.int z230), .val (.int v237), .unset] [(.int (f2 (gt us v229)))])
          refine g_if_eq X248 hx (hb hby at_281) 409 284 (by decide) rfl rfl (fun q281 => ?_) (fun q281 => ?_)
          · refine g_iconst X248 hx (0 : Int32) rfl (hb hby at_409) 410 rfl ?_
            exact J239 T249 X248 e250 ((0 : Int32)) ((if_pos q270).trans ((if_pos q281).trans rfl)).symm
          · refine g_aload X248 hx rfl rfl (hb hby at_284) 286 rfl ?_
            refine g_iload X248 hx rfl (hb hby at_286) 288 rfl ?_
            refine g_iconst X248 hx (1 : Int32) rfl (hb hby at_288) 289 rfl ?_
            refine g_iadd X248 hx (hb hby at_289) 290 rfl ?_
            refine g_baload X248 hx hZ e250 A228 (own_nn (own_pl hF (1 : Int32) (by decide)).1) (own_at _ hu _ (own_pl hF (1 : Int32) (by decide)).1 (own_pl hF (1 : Int32) (by decide)).2) (hb hby at_290) 291 rfl ?_
            show Go p_ e_ below _ T249 (mkF m_ 291 #[.val (.long x0), .second, .val (.long x1), .second, .val (.int x2), .val (.ref b3), .val (.int v229), .val (.int z230), .val (.int v237), .unset] [(.int (gt us (v229 + (1 : Int32))))])
            refine g_callS X248 hx hZ hown (wd hw 7 rfl) (wd hw 8 rfl) (wd hw 3 rfl) (wd hw 9 rfl) (by decide) e250 [(.int (gt us (v229 + (1 : Int32))))] []  rfl (co2 l Z a0 hw (gt us (v229 + (1 : Int32)))  h223 ) (lenOf pd_1 rfl) 0 (Nat.le_of_eq rfl) (by decide) (by decide) (by decide) (by decide) (by rw [hml]; rfl) (hb hby at_291) 294 rfl (pu_cont fun T252 X251 e253 => ?_)
            show Go p_ e_ below _ T252 (mkF m_ 294 #[.val (.long x0), .second, .val (.long x1), .second, .val (.int x2), .val (.ref b3), .val (.int v229), .val (.int z230), .val (.int v237), .unset] [(.int (f2 (gt us (v229 + (1 : Int32)))))])
            refine g_if_eq X251 hx (hb hby at_294) 409 297 (by decide) rfl rfl (fun q294 => ?_) (fun q294 => ?_)
            · refine g_iconst X251 hx (0 : Int32) rfl (hb hby at_409) 410 rfl ?_
              exact J239 T252 X251 e253 ((0 : Int32)) ((if_pos q270).trans ((if_neg q281).trans ((if_pos q294).trans rfl))).symm
            · refine g_aload X251 hx rfl rfl (hb hby at_297) 299 rfl ?_
              refine g_iload X251 hx rfl (hb hby at_299) 301 rfl ?_
              refine g_iconst X251 hx (2 : Int32) rfl (hb hby at_301) 302 rfl ?_
              refine g_iadd X251 hx (hb hby at_302) 303 rfl ?_
              refine g_baload X251 hx hZ e253 A228 (own_nn (own_pl hF (2 : Int32) (by decide)).1) (own_at _ hu _ (own_pl hF (2 : Int32) (by decide)).1 (own_pl hF (2 : Int32) (by decide)).2) (hb hby at_303) 304 rfl ?_
              show Go p_ e_ below _ T252 (mkF m_ 304 #[.val (.long x0), .second, .val (.long x1), .second, .val (.int x2), .val (.ref b3), .val (.int v229), .val (.int z230), .val (.int v237), .unset] [(.int (gt us (v229 + (2 : Int32))))])
              refine g_callS X251 hx hZ hown (wd hw 7 rfl) (wd hw 8 rfl) (wd hw 3 rfl) (wd hw 9 rfl) (by decide) e253 [(.int (gt us (v229 + (2 : Int32))))] []  rfl (co2 l Z a0 hw (gt us (v229 + (2 : Int32)))  h223 ) (lenOf pd_1 rfl) 0 (Nat.le_of_eq rfl) (by decide) (by decide) (by decide) (by decide) (by rw [hml]; rfl) (hb hby at_304) 307 rfl (pu_cont fun T255 X254 e256 => ?_)
              show Go p_ e_ below _ T255 (mkF m_ 307 #[.val (.long x0), .second, .val (.long x1), .second, .val (.int x2), .val (.ref b3), .val (.int v229), .val (.int z230), .val (.int v237), .unset] [(.int (f2 (gt us (v229 + (2 : Int32)))))])
              refine g_if_eq X254 hx (hb hby at_307) 409 310 (by decide) rfl rfl (fun q307 => ?_) (fun q307 => ?_)
              · refine g_iconst X254 hx (0 : Int32) rfl (hb hby at_409) 410 rfl ?_
                exact J239 T255 X254 e256 ((0 : Int32)) ((if_pos q270).trans ((if_neg q281).trans ((if_neg q294).trans ((if_pos q307).trans rfl)))).symm
              · refine g_aload X254 hx rfl rfl (hb hby at_310) 312 rfl ?_
                refine g_iload X254 hx rfl (hb hby at_312) 314 rfl ?_
                refine g_iconst X254 hx (3 : Int32) rfl (hb hby at_314) 315 rfl ?_
                refine g_iadd X254 hx (hb hby at_315) 316 rfl ?_
                refine g_baload X254 hx hZ e256 A228 (own_nn (own_pl hF (3 : Int32) (by decide)).1) (own_at _ hu _ (own_pl hF (3 : Int32) (by decide)).1 (own_pl hF (3 : Int32) (by decide)).2) (hb hby at_316) 317 rfl ?_
                show Go p_ e_ below _ T255 (mkF m_ 317 #[.val (.long x0), .second, .val (.long x1), .second, .val (.int x2), .val (.ref b3), .val (.int v229), .val (.int z230), .val (.int v237), .unset] [(.int (gt us (v229 + (3 : Int32))))])
                refine g_callS X254 hx hZ hown (wd hw 7 rfl) (wd hw 8 rfl) (wd hw 3 rfl) (wd hw 9 rfl) (by decide) e256 [(.int (gt us (v229 + (3 : Int32))))] []  rfl (co2 l Z a0 hw (gt us (v229 + (3 : Int32)))  h223 ) (lenOf pd_1 rfl) 0 (Nat.le_of_eq rfl) (by decide) (by decide) (by decide) (by decide) (by rw [hml]; rfl) (hb hby at_317) 320 rfl (pu_cont fun T258 X257 e259 => ?_)
                show Go p_ e_ below _ T258 (mkF m_ 320 #[.val (.long x0), .second, .val (.long x1), .second, .val (.int x2), .val (.ref b3), .val (.int v229), .val (.int z230), .val (.int v237), .unset] [(.int (f2 (gt us (v229 + (3 : Int32)))))])
                refine g_if_eq X257 hx (hb hby at_320) 409 323 (by decide) rfl rfl (fun q320 => ?_) (fun q320 => ?_)
                · refine g_iconst X257 hx (0 : Int32) rfl (hb hby at_409) 410 rfl ?_
                  exact J239 T258 X257 e259 ((0 : Int32)) ((if_pos q270).trans ((if_neg q281).trans ((if_neg q294).trans ((if_neg q307).trans ((if_pos q320).trans rfl))))).symm
                · refine g_aload X257 hx rfl rfl (hb hby at_323) 325 rfl ?_
                  refine g_iload X257 hx rfl (hb hby at_325) 327 rfl ?_
                  refine g_iconst X257 hx (4 : Int32) rfl (hb hby at_327) 328 rfl ?_
                  refine g_iadd X257 hx (hb hby at_328) 329 rfl ?_
                  refine g_baload X257 hx hZ e259 A228 (own_nn (own_pl hF (4 : Int32) (by decide)).1) (own_at _ hu _ (own_pl hF (4 : Int32) (by decide)).1 (own_pl hF (4 : Int32) (by decide)).2) (hb hby at_329) 330 rfl ?_
                  show Go p_ e_ below _ T258 (mkF m_ 330 #[.val (.long x0), .second, .val (.long x1), .second, .val (.int x2), .val (.ref b3), .val (.int v229), .val (.int z230), .val (.int v237), .unset] [(.int (gt us (v229 + (4 : Int32))))])
                  refine g_callS X257 hx hZ hown (wd hw 7 rfl) (wd hw 8 rfl) (wd hw 3 rfl) (wd hw 9 rfl) (by decide) e259 [(.int (gt us (v229 + (4 : Int32))))] []  rfl (co2 l Z a0 hw (gt us (v229 + (4 : Int32)))  h223 ) (lenOf pd_1 rfl) 0 (Nat.le_of_eq rfl) (by decide) (by decide) (by decide) (by decide) (by rw [hml]; rfl) (hb hby at_330) 333 rfl (pu_cont fun T261 X260 e262 => ?_)
                  show Go p_ e_ below _ T261 (mkF m_ 333 #[.val (.long x0), .second, .val (.long x1), .second, .val (.int x2), .val (.ref b3), .val (.int v229), .val (.int z230), .val (.int v237), .unset] [(.int (f2 (gt us (v229 + (4 : Int32)))))])
                  refine g_if_eq X260 hx (hb hby at_333) 409 336 (by decide) rfl rfl (fun q333 => ?_) (fun q333 => ?_)
                  · refine g_iconst X260 hx (0 : Int32) rfl (hb hby at_409) 410 rfl ?_
                    exact J239 T261 X260 e262 ((0 : Int32)) ((if_pos q270).trans ((if_neg q281).trans ((if_neg q294).trans ((if_neg q307).trans ((if_neg q320).trans ((if_pos q333).trans rfl)))))).symm
                  · refine g_aload X260 hx rfl rfl (hb hby at_336) 338 rfl ?_
                    refine g_iload X260 hx rfl (hb hby at_338) 340 rfl ?_
                    refine g_iconst X260 hx (5 : Int32) rfl (hb hby at_340) 341 rfl ?_
                    refine g_iadd X260 hx (hb hby at_341) 342 rfl ?_
                    refine g_baload X260 hx hZ e262 A228 (own_nn (own_pl hF (5 : Int32) (by decide)).1) (own_at _ hu _ (own_pl hF (5 : Int32) (by decide)).1 (own_pl hF (5 : Int32) (by decide)).2) (hb hby at_342) 343 rfl ?_
                    show Go p_ e_ below _ T261 (mkF m_ 343 #[.val (.long x0), .second, .val (.long x1), .second, .val (.int x2), .val (.ref b3), .val (.int v229), .val (.int z230), .val (.int v237), .unset] [(.int (gt us (v229 + (5 : Int32))))])
                    refine g_callS X260 hx hZ hown (wd hw 7 rfl) (wd hw 8 rfl) (wd hw 3 rfl) (wd hw 9 rfl) (by decide) e262 [(.int (gt us (v229 + (5 : Int32))))] []  rfl (co2 l Z a0 hw (gt us (v229 + (5 : Int32)))  h223 ) (lenOf pd_1 rfl) 0 (Nat.le_of_eq rfl) (by decide) (by decide) (by decide) (by decide) (by rw [hml]; rfl) (hb hby at_343) 346 rfl (pu_cont fun T264 X263 e265 => ?_)
                    show Go p_ e_ below _ T264 (mkF m_ 346 #[.val (.long x0), .second, .val (.long x1), .second, .val (.int x2), .val (.ref b3), .val (.int v229), .val (.int z230), .val (.int v237), .unset] [(.int (f2 (gt us (v229 + (5 : Int32)))))])
                    refine g_if_eq X263 hx (hb hby at_346) 409 349 (by decide) rfl rfl (fun q346 => ?_) (fun q346 => ?_)
                    · refine g_iconst X263 hx (0 : Int32) rfl (hb hby at_409) 410 rfl ?_
                      exact J239 T264 X263 e265 ((0 : Int32)) ((if_pos q270).trans ((if_neg q281).trans ((if_neg q294).trans ((if_neg q307).trans ((if_neg q320).trans ((if_neg q333).trans ((if_pos q346).trans rfl))))))).symm
                    · refine g_aload X263 hx rfl rfl (hb hby at_349) 351 rfl ?_
                      refine g_iload X263 hx rfl (hb hby at_351) 353 rfl ?_
                      refine g_bipush X263 hx (6 : Int32) rfl (hb hby at_353) 355 rfl ?_
                      refine g_iadd X263 hx (hb hby at_355) 356 rfl ?_
                      refine g_baload X263 hx hZ e265 A228 (own_nn (own_pl hF (6 : Int32) (by decide)).1) (own_at _ hu _ (own_pl hF (6 : Int32) (by decide)).1 (own_pl hF (6 : Int32) (by decide)).2) (hb hby at_356) 357 rfl ?_
                      show Go p_ e_ below _ T264 (mkF m_ 357 #[.val (.long x0), .second, .val (.long x1), .second, .val (.int x2), .val (.ref b3), .val (.int v229), .val (.int z230), .val (.int v237), .unset] [(.int (gt us (v229 + (6 : Int32))))])
                      refine g_callS X263 hx hZ hown (wd hw 7 rfl) (wd hw 8 rfl) (wd hw 3 rfl) (wd hw 9 rfl) (by decide) e265 [(.int (gt us (v229 + (6 : Int32))))] []  rfl (co2 l Z a0 hw (gt us (v229 + (6 : Int32)))  h223 ) (lenOf pd_1 rfl) 0 (Nat.le_of_eq rfl) (by decide) (by decide) (by decide) (by decide) (by rw [hml]; rfl) (hb hby at_357) 360 rfl (pu_cont fun T267 X266 e268 => ?_)
                      show Go p_ e_ below _ T267 (mkF m_ 360 #[.val (.long x0), .second, .val (.long x1), .second, .val (.int x2), .val (.ref b3), .val (.int v229), .val (.int z230), .val (.int v237), .unset] [(.int (f2 (gt us (v229 + (6 : Int32)))))])
                      refine g_if_eq X266 hx (hb hby at_360) 409 363 (by decide) rfl rfl (fun q360 => ?_) (fun q360 => ?_)
                      · refine g_iconst X266 hx (0 : Int32) rfl (hb hby at_409) 410 rfl ?_
                        exact J239 T267 X266 e268 ((0 : Int32)) ((if_pos q270).trans ((if_neg q281).trans ((if_neg q294).trans ((if_neg q307).trans ((if_neg q320).trans ((if_neg q333).trans ((if_neg q346).trans ((if_pos q360).trans rfl)))))))).symm
                      · refine g_aload X266 hx rfl rfl (hb hby at_363) 365 rfl ?_
                        refine g_iload X266 hx rfl (hb hby at_365) 367 rfl ?_
                        refine g_bipush X266 hx (7 : Int32) rfl (hb hby at_367) 369 rfl ?_
                        refine g_iadd X266 hx (hb hby at_369) 370 rfl ?_
                        refine g_baload X266 hx hZ e268 A228 (own_nn (own_pl hF (7 : Int32) (by decide)).1) (own_at _ hu _ (own_pl hF (7 : Int32) (by decide)).1 (own_pl hF (7 : Int32) (by decide)).2) (hb hby at_370) 371 rfl ?_
                        show Go p_ e_ below _ T267 (mkF m_ 371 #[.val (.long x0), .second, .val (.long x1), .second, .val (.int x2), .val (.ref b3), .val (.int v229), .val (.int z230), .val (.int v237), .unset] [(.int (gt us (v229 + (7 : Int32))))])
                        refine g_callS X266 hx hZ hown (wd hw 7 rfl) (wd hw 8 rfl) (wd hw 3 rfl) (wd hw 9 rfl) (by decide) e268 [(.int (gt us (v229 + (7 : Int32))))] []  rfl (co2 l Z a0 hw (gt us (v229 + (7 : Int32)))  h223 ) (lenOf pd_1 rfl) 0 (Nat.le_of_eq rfl) (by decide) (by decide) (by decide) (by decide) (by rw [hml]; rfl) (hb hby at_371) 374 rfl (pu_cont fun T270 X269 e271 => ?_)
                        show Go p_ e_ below _ T270 (mkF m_ 374 #[.val (.long x0), .second, .val (.long x1), .second, .val (.int x2), .val (.ref b3), .val (.int v229), .val (.int z230), .val (.int v237), .unset] [(.int (f2 (gt us (v229 + (7 : Int32)))))])
                        refine g_if_eq X269 hx (hb hby at_374) 409 377 (by decide) rfl rfl (fun q374 => ?_) (fun q374 => ?_)
                        · refine g_iconst X269 hx (0 : Int32) rfl (hb hby at_409) 410 rfl ?_
                          exact J239 T270 X269 e271 ((0 : Int32)) ((if_pos q270).trans ((if_neg q281).trans ((if_neg q294).trans ((if_neg q307).trans ((if_neg q320).trans ((if_neg q333).trans ((if_neg q346).trans ((if_neg q360).trans ((if_pos q374).trans rfl))))))))).symm
                        · refine g_aload X269 hx rfl rfl (hb hby at_377) 379 rfl ?_
                          refine g_iload X269 hx rfl (hb hby at_379) 381 rfl ?_
                          refine g_bipush X269 hx (8 : Int32) rfl (hb hby at_381) 383 rfl ?_
                          refine g_iadd X269 hx (hb hby at_383) 384 rfl ?_
                          refine g_baload X269 hx hZ e271 A228 (own_nn (own_pl hF (8 : Int32) (by decide)).1) (own_at _ hu _ (own_pl hF (8 : Int32) (by decide)).1 (own_pl hF (8 : Int32) (by decide)).2) (hb hby at_384) 385 rfl ?_
                          show Go p_ e_ below _ T270 (mkF m_ 385 #[.val (.long x0), .second, .val (.long x1), .second, .val (.int x2), .val (.ref b3), .val (.int v229), .val (.int z230), .val (.int v237), .unset] [(.int (gt us (v229 + (8 : Int32))))])
                          refine g_callS X269 hx hZ hown (wd hw 7 rfl) (wd hw 8 rfl) (wd hw 3 rfl) (wd hw 9 rfl) (by decide) e271 [(.int (gt us (v229 + (8 : Int32))))] []  rfl (co2 l Z a0 hw (gt us (v229 + (8 : Int32)))  h223 ) (lenOf pd_1 rfl) 0 (Nat.le_of_eq rfl) (by decide) (by decide) (by decide) (by decide) (by rw [hml]; rfl) (hb hby at_385) 388 rfl (pu_cont fun T273 X272 e274 => ?_)
                          show Go p_ e_ below _ T273 (mkF m_ 388 #[.val (.long x0), .second, .val (.long x1), .second, .val (.int x2), .val (.ref b3), .val (.int v229), .val (.int z230), .val (.int v237), .unset] [(.int (f2 (gt us (v229 + (8 : Int32)))))])
                          refine g_if_eq X272 hx (hb hby at_388) 409 391 (by decide) rfl rfl (fun q388 => ?_) (fun q388 => ?_)
                          · refine g_iconst X272 hx (0 : Int32) rfl (hb hby at_409) 410 rfl ?_
                            exact J239 T273 X272 e274 ((0 : Int32)) ((if_pos q270).trans ((if_neg q281).trans ((if_neg q294).trans ((if_neg q307).trans ((if_neg q320).trans ((if_neg q333).trans ((if_neg q346).trans ((if_neg q360).trans ((if_neg q374).trans ((if_pos q388).trans rfl)))))))))).symm
                          · refine g_aload X272 hx rfl rfl (hb hby at_391) 393 rfl ?_
                            refine g_iload X272 hx rfl (hb hby at_393) 395 rfl ?_
                            refine g_bipush X272 hx (9 : Int32) rfl (hb hby at_395) 397 rfl ?_
                            refine g_iadd X272 hx (hb hby at_397) 398 rfl ?_
                            refine g_baload X272 hx hZ e274 A228 (own_nn (own_pl hF (9 : Int32) (by decide)).1) (own_at _ hu _ (own_pl hF (9 : Int32) (by decide)).1 (own_pl hF (9 : Int32) (by decide)).2) (hb hby at_398) 399 rfl ?_
                            show Go p_ e_ below _ T273 (mkF m_ 399 #[.val (.long x0), .second, .val (.long x1), .second, .val (.int x2), .val (.ref b3), .val (.int v229), .val (.int z230), .val (.int v237), .unset] [(.int (gt us (v229 + (9 : Int32))))])
                            refine g_callS X272 hx hZ hown (wd hw 7 rfl) (wd hw 8 rfl) (wd hw 3 rfl) (wd hw 9 rfl) (by decide) e274 [(.int (gt us (v229 + (9 : Int32))))] []  rfl (co2 l Z a0 hw (gt us (v229 + (9 : Int32)))  h223 ) (lenOf pd_1 rfl) 0 (Nat.le_of_eq rfl) (by decide) (by decide) (by decide) (by decide) (by rw [hml]; rfl) (hb hby at_399) 402 rfl (pu_cont fun T276 X275 e277 => ?_)
                            show Go p_ e_ below _ T276 (mkF m_ 402 #[.val (.long x0), .second, .val (.long x1), .second, .val (.int x2), .val (.ref b3), .val (.int v229), .val (.int z230), .val (.int v237), .unset] [(.int (f2 (gt us (v229 + (9 : Int32)))))])
                            refine g_if_eq X275 hx (hb hby at_402) 409 405 (by decide) rfl rfl (fun q402 => ?_) (fun q402 => ?_)
                            · refine g_iconst X275 hx (0 : Int32) rfl (hb hby at_409) 410 rfl ?_
                              exact J239 T276 X275 e277 ((0 : Int32)) ((if_pos q270).trans ((if_neg q281).trans ((if_neg q294).trans ((if_neg q307).trans ((if_neg q320).trans ((if_neg q333).trans ((if_neg q346).trans ((if_neg q360).trans ((if_neg q374).trans ((if_neg q388).trans ((if_pos q402).trans rfl))))))))))).symm
                            · refine g_iconst X275 hx (1 : Int32) rfl (hb hby at_405) 406 rfl ?_
                              refine g_goto X275 hx (hb hby at_406) 410 (by decide) rfl ?_
                              exact J239 T276 X275 e277 ((1 : Int32)) ((if_pos q270).trans ((if_neg q281).trans ((if_neg q294).trans ((if_neg q307).trans ((if_neg q320).trans ((if_neg q333).trans ((if_neg q346).trans ((if_neg q360).trans ((if_neg q374).trans ((if_neg q388).trans ((if_neg q402).trans rfl))))))))))).symm
    · refine g_if_ne X225 hx (hb hby at_240) 248 243 (by decide) rfl rfl (fun q240 => ?_) (fun q240 => ?_)
      · refine g_iload X225 hx rfl (hb hby at_248) 250 rfl ?_
        refine g_iconst X225 hx (4 : Int32) rfl (hb hby at_250) 251 rfl ?_
        refine g_iushr X225 hx (hb hby at_251) 252 rfl ?_
        refine g_bipush X225 hx (15 : Int32) rfl (hb hby at_252) 254 rfl ?_
        refine g_iand X225 hx (hb hby at_254) 255 rfl ?_
        refine g_iconst X225 hx (3 : Int32) rfl (hb hby at_255) 256 rfl ?_
        refine g_isub X225 hx (hb hby at_256) 257 rfl ?_
        exact J231 T222 X225 e226 ((((XT.ushr x2 (4 : Int32)) &&& (15 : Int32)) - (3 : Int32))) ((if_neg q240).trans rfl).symm
      · refine g_bipush X225 hx (10 : Int32) rfl (hb hby at_243) 245 rfl ?_
        refine g_goto X225 hx (hb hby at_245) 257 (by decide) rfl ?_
        exact J231 T222 X225 e226 ((10 : Int32)) ((if_pos q240).trans rfl).symm
  · refine g_lloadN X212 hx rfl (hb hby at_170) 171 rfl ?_
    refine g_bipush X212 hx (12 : Int32) rfl (hb hby at_171) 173 rfl ?_
    refine g_lushr X212 hx (hb hby at_173) 174 rfl ?_
    refine g_lconst X212 hx (1 : Int64) rfl (hb hby at_174) 175 rfl ?_
    refine g_land X212 hx (hb hby at_175) 176 rfl ?_
    refine g_lconst X212 hx (0 : Int64) rfl (hb hby at_176) 177 rfl ?_
    refine g_lif_eq X212 hx (hb hby at_177) 178 rfl (hb hby at_178) 195 181 (by decide) rfl rfl (fun q177 => ?_) (fun q177 => ?_)
    · refine g_lloadN X212 hx rfl (hb hby at_195) 196 rfl ?_
      refine g_bipush X212 hx (25 : Int32) rfl (hb hby at_196) 198 rfl ?_
      refine g_lushr X212 hx (hb hby at_198) 199 rfl ?_
      refine g_lconst X212 hx (1 : Int64) rfl (hb hby at_199) 200 rfl ?_
      refine g_land X212 hx (hb hby at_200) 201 rfl ?_
      refine g_lconst X212 hx (0 : Int64) rfl (hb hby at_201) 202 rfl ?_
      refine g_lif_eq X212 hx (hb hby at_202) 203 rfl (hb hby at_203) 224 206 (by decide) rfl rfl (fun q202 => ?_) (fun q202 => ?_)
      · exact J221 T210 h211 _ X212 e213 vs ⟨N218, A220, hl⟩
      · refine g_aload X212 hx rfl rfl (hb hby at_206) 208 rfl ?_
        refine g_lloadN X212 hx rfl (hb hby at_208) 209 rfl ?_
        refine g_bipush X212 hx (13 : Int32) rfl (hb hby at_209) 211 rfl ?_
        refine g_lushr X212 hx (hb hby at_211) 212 rfl ?_
        refine g_ldc2_w X212 hx hZ hown (wd hw 5 rfl) (hb hby at_212) 215 rfl ?_
        refine g_land X212 hx (hb hby at_215) 216 rfl ?_
        refine g_l2i X212 hx (hb hby at_216) 217 rfl ?_
        refine g_lloadN X212 hx rfl (hb hby at_217) 218 rfl ?_
        refine g_bipush X212 hx (17 : Int32) rfl (hb hby at_218) 220 rfl ?_
        refine g_lushr X212 hx (hb hby at_220) 221 rfl ?_
        refine g_l2i X212 hx (hb hby at_221) 222 rfl ?_
        refine g_i2b X212 hx (hb hby at_222) 223 rfl ?_
        refine g_bastore X212 hx hZ e213 A220 (own_nn (own_ix _).1) (by rw [List.length_map, hl]; exact own_nat (own_ix _).1 (own_ix _).2) (hb hby at_223) 224 rfl (fun T278 h279 X280 e281 W282 A283 => ?_)
        have A284 : AV Z h279 b3 .byte ((vs.set ((XT.ushrL x1 (13 : Int32)) &&& (15 : Int64)).toInt32.toNatClampNeg (XT.ushrL x1 (17 : Int32)).toInt32.toInt8.toInt32.toInt8.toInt32).map Value.int) := (by rw [List.map_set]; exact A283)
        have F285 := A284
        have N286 := Fr.snoc X280 N218 sz9
        have szh287 : h0.size ≤ h279.size := Nat.le_trans szh219 (Nat.le_of_eq W282.size.symm)
        show Go p_ e_ below _ T278 (mkF m_ 224 #[.val (.long x0), .second, .val (.long x1), .second, .val (.int x2), .val (.ref b3), .unset, .unset, .unset, .unset] [])
        exact J221 T278 h279 _ X280 e281 (vs.set ((XT.ushrL x1 (13 : Int32)) &&& (15 : Int64)).toInt32.toNatClampNeg (XT.ushrL x1 (17 : Int32)).toInt32.toInt8.toInt32.toInt8.toInt32) ⟨N286, A284, (own_setl _ hl _ _)⟩
    · refine g_aload X212 hx rfl rfl (hb hby at_181) 183 rfl ?_
      refine g_lloadN X212 hx rfl (hb hby at_183) 184 rfl ?_
      refine g_ldc2_w X212 hx hZ hown (wd hw 5 rfl) (hb hby at_184) 187 rfl ?_
      refine g_land X212 hx (hb hby at_187) 188 rfl ?_
      refine g_l2i X212 hx (hb hby at_188) 189 rfl ?_
      refine g_lloadN X212 hx rfl (hb hby at_189) 190 rfl ?_
      refine g_iconst X212 hx (4 : Int32) rfl (hb hby at_190) 191 rfl ?_
      refine g_lushr X212 hx (hb hby at_191) 192 rfl ?_
      refine g_l2i X212 hx (hb hby at_192) 193 rfl ?_
      refine g_i2b X212 hx (hb hby at_193) 194 rfl ?_
      refine g_bastore X212 hx hZ e213 A220 (own_nn (own_ix _).1) (by rw [List.length_map, hl]; exact own_nat (own_ix _).1 (own_ix _).2) (hb hby at_194) 195 rfl (fun T288 h289 X290 e291 W292 A293 => ?_)
      have A294 : AV Z h289 b3 .byte ((vs.set (x1 &&& (15 : Int64)).toInt32.toNatClampNeg (XT.ushrL x1 (4 : Int32)).toInt32.toInt8.toInt32.toInt8.toInt32).map Value.int) := (by rw [List.map_set]; exact A293)
      have F295 := A294
      have N296 := Fr.snoc X290 N218 sz9
      have szh297 : h0.size ≤ h289.size := Nat.le_trans szh219 (Nat.le_of_eq W292.size.symm)
      show Go p_ e_ below _ T288 (mkF m_ 195 #[.val (.long x0), .second, .val (.long x1), .second, .val (.int x2), .val (.ref b3), .unset, .unset, .unset, .unset] [])
      refine g_lloadN X290 hx rfl (hb hby at_195) 196 rfl ?_
      refine g_bipush X290 hx (25 : Int32) rfl (hb hby at_196) 198 rfl ?_
      refine g_lushr X290 hx (hb hby at_198) 199 rfl ?_
      refine g_lconst X290 hx (1 : Int64) rfl (hb hby at_199) 200 rfl ?_
      refine g_land X290 hx (hb hby at_200) 201 rfl ?_
      refine g_lconst X290 hx (0 : Int64) rfl (hb hby at_201) 202 rfl ?_
      refine g_lif_eq X290 hx (hb hby at_202) 203 rfl (hb hby at_203) 224 206 (by decide) rfl rfl (fun q202 => ?_) (fun q202 => ?_)
      · exact J221 T288 h289 _ X290 e291 (vs.set (x1 &&& (15 : Int64)).toInt32.toNatClampNeg (XT.ushrL x1 (4 : Int32)).toInt32.toInt8.toInt32.toInt8.toInt32) ⟨N296, A294, (own_setl _ hl _ _)⟩
      · refine g_aload X290 hx rfl rfl (hb hby at_206) 208 rfl ?_
        refine g_lloadN X290 hx rfl (hb hby at_208) 209 rfl ?_
        refine g_bipush X290 hx (13 : Int32) rfl (hb hby at_209) 211 rfl ?_
        refine g_lushr X290 hx (hb hby at_211) 212 rfl ?_
        refine g_ldc2_w X290 hx hZ hown (wd hw 5 rfl) (hb hby at_212) 215 rfl ?_
        refine g_land X290 hx (hb hby at_215) 216 rfl ?_
        refine g_l2i X290 hx (hb hby at_216) 217 rfl ?_
        refine g_lloadN X290 hx rfl (hb hby at_217) 218 rfl ?_
        refine g_bipush X290 hx (17 : Int32) rfl (hb hby at_218) 220 rfl ?_
        refine g_lushr X290 hx (hb hby at_220) 221 rfl ?_
        refine g_l2i X290 hx (hb hby at_221) 222 rfl ?_
        refine g_i2b X290 hx (hb hby at_222) 223 rfl ?_
        refine g_bastore X290 hx hZ e291 A294 (own_nn (own_ix _).1) (by rw [List.length_map, (own_setl _ hl _ _)]; exact own_nat (own_ix _).1 (own_ix _).2) (hb hby at_223) 224 rfl (fun T298 h299 X300 e301 W302 A303 => ?_)
        have A304 : AV Z h299 b3 .byte (((vs.set (x1 &&& (15 : Int64)).toInt32.toNatClampNeg (XT.ushrL x1 (4 : Int32)).toInt32.toInt8.toInt32.toInt8.toInt32).set ((XT.ushrL x1 (13 : Int32)) &&& (15 : Int64)).toInt32.toNatClampNeg (XT.ushrL x1 (17 : Int32)).toInt32.toInt8.toInt32.toInt8.toInt32).map Value.int) := (by rw [List.map_set]; exact A303)
        have F305 := A304
        have N306 := Fr.snoc X300 N296 sz9
        have szh307 : h0.size ≤ h299.size := Nat.le_trans szh297 (Nat.le_of_eq W302.size.symm)
        show Go p_ e_ below _ T298 (mkF m_ 224 #[.val (.long x0), .second, .val (.long x1), .second, .val (.int x2), .val (.ref b3), .unset, .unset, .unset, .unset] [])
        exact J221 T298 h299 _ X300 e301 ((vs.set (x1 &&& (15 : Int64)).toInt32.toNatClampNeg (XT.ushrL x1 (4 : Int32)).toInt32.toInt8.toInt32.toInt8.toInt32).set ((XT.ushrL x1 (13 : Int32)) &&& (15 : Int64)).toInt32.toNatClampNeg (XT.ushrL x1 (17 : Int32)).toInt32.toInt8.toInt32.toInt8.toInt32) ⟨N306, A304, (own_setl _ (own_setl _ hl _ _) _ _)⟩
set_option maxRecDepth 65536 in
set_option maxHeartbeats 40000000 in
theorem comes_1 {Post : Tables → Env → Array Value → State → Outcome → State → Prop} (hpost : ∀ tb e args s v u, (limb_1_1.after args s (.returned v) u = true ∧ limb_1_2.after args s (.returned v) u = true ∧ True) → FrameEnd s (.returned v) u (Jvm.fieldLocs frame_1_writes args s ++ Jvm.arrayLocs frame_1_arrays args s ++ Jvm.staticLocs frame_1_statics s) 16 128 → Post tb e args s (.returned v) u) :
    ArmFor flags0 classFile x code maxLocals ret World_1 tables_1 room_1 Calls_1 rest_1 Pre_1 Post := by
  intro l hfl _ _ p e ha hc hk s m args below hf hA hF happ hP
  obtain ⟨hcalls, hrest, hpre⟩ := hP
  obtain ⟨-, -, -, hnamed, -, -, -, hat⟩ := (Spec.applies_iff hf).mp happ
  obtain ⟨hg, hn⟩ := and_e (Cond.before_iff.mp (show (Jvm.Cond.and given_1 narrow_1).before args s = true from hpre))
  obtain ⟨h1, g0⟩ := and_e hg
  obtain ⟨w0, w1, w2, rfl⟩ : ∃ w0 w1 w2 : Value, args = #[w0, w1, w2] := by
    have hs : args.size = 3 := by simpa [Cond.value, given_1] using h1
    obtain ⟨L⟩ := args
    match L, hs with
    | [w0, w1, w2], _ => exact ⟨w0, w1, w2, rfl⟩
  have hw := fun d (hd : d ∈ tables_1) => atoms_spec (ws := Jvm.Cond.code x code maxLocals ret :: tables_1) hat d (List.mem_cons_of_mem _ hd)
  have hfit : Fit s := fun {y c} hc i hi => by
    obtain ⟨ha, rfl⟩ := Array.getElem?_eq_some_iff.mp hc
    have q := List.all_eq_true.mp ((Array.all_eq_true_iff_forall_mem.mp hF) _ (Array.getElem_mem ha)) i (List.mem_range.mpr hi)
    simpa [Array.getElem?_eq_getElem hi] using q
  obtain ⟨hk_0, hg_1⟩ := and_e g0
  obtain ⟨x0, r0⟩ := isL_v hk_0
  obtain rfl : w0 = (.long x0) := Option.some.inj r0
  obtain ⟨hk_1, hg_2⟩ := and_e hg_1
  obtain ⟨x1, r1⟩ := isL_v hk_1
  obtain rfl : w1 = (.long x1) := Option.some.inj r1
  obtain ⟨x2, r2⟩ := is_v hg_2
  obtain rfl : w2 = (.int x2) := Option.some.inj r2
  obtain ⟨n, o, h1, h2, h3, _, L, rfl, ⟨rfl, N⟩, hq⟩ := rm0 l s _ hw tables_1 x0 x1 x2 s.heap  p e ha hc hk s m _ below hf ((Spec.applies_iff_loose hf).mp happ).1 ⟨rfl, State.Warmed39.refl s, rfl⟩ trivial
  refine ⟨n, _, h1, h2, h3, hpost _ _ _ _ _ _ ⟨Cond.after_iff.mpr rfl, Cond.after_iff.mpr (eq_i res_at (Term.int_eval (1)) rfl), trivial⟩ ⟨hq.1, hq.2.1, (hq.2.2.sift fun y hy => Or.inr (N y hy)).mono (by decide) (by decide)⟩⟩
theorem main_1_1 : Claimed_1_1 := comes_1 fun _ _ _ _ _ _ h hF => ⟨h.1, hF⟩
theorem main_1_2 : Claimed_1_2 := comes_1 fun _ _ _ _ _ _ h hF => ⟨h.2.1, hF⟩
end Jvm.Pilot.@@N@@
namespace Jvm.Pilot.@@N@@
open Jvm Jvm.ClassFile Sem Op Lib Jvm.Free Jvm.Stand Jvm.Pilot.@@N@@.Jvm.D
/-! MADE BY PROGRAM (witnessworld.py) out of the Statement's table words and the real class files: 9 classes; the members and pool entries that the words name. The judged class is class 1, her method 3. -/
namespace start1
open Jvm.ClassFile
def u (s : String) : CpInfo := .utf8 (stringToUtf16 s)
/-- a pool by its gaps: so many unusable entries, then the entry; so many at the end -/
def gap : Nat → List CpInfo → List CpInfo
  | 0, r => r
  | n + 1, r => .unusable :: gap n r
def poolList (es : List (Nat × CpInfo)) (last : Nat) : List CpInfo := es.foldr (fun e r => gap e.1 (e.2 :: r)) (gap last [])
def pool (es : List (Nat × CpInfo)) (last : Nat) : Array CpInfo := ⟨poolList es last⟩
def fileOf (pool : Array CpInfo) (this : Nat) (attrs : Array Attribute := #[]) (ms : Array MethodInfo := #[]) (fl : Nat := 33) (sup : Nat := 0) (ifs : Array Nat := #[]) (fds : Array FieldInfo := #[]) : ClassFile where
  minorVersion := 0
  majorVersion := 65
  constantPool := pool
  accessFlags := fl
  thisClass := this
  superClass := sup
  interfaces := ifs
  fields := fds
  methods := ms
  attributes := attrs
def plain (name : String) (sup : Option ClassId) : Class where
  name := name
  kind := .ordinary
  loader := none
  accessFlags := 33
  super := sup
  interfaces := #[]
  cf := none
  fields := #[]
  methods := #[]
  instanceTypes := #[]
  staticTypes := #[]
  resolved := #[]
  callSites := []
  init := .initialized
  statics := none
  mirror := none

def pool0 : Array CpInfo := pool [(5, u "<init>"), (0, u "()V"), (1, .class_ 10), (1, u "java/lang/Object")] 113

def k0m0 : Method := { name := "<init>", desc := "()V", sig := { parameters := [], returnType := none }, accessFlags := 1, code := none }
/-- java/lang/Object -/
def k0 : Class := { plain "java/lang/Object" none with
  accessFlags := 33
  interfaces := #[]
  cf := some (fileOf pool0 8 #[] #[{ accessFlags := 1, nameIndex := 5, descriptorIndex := 6, attributes := #[] }] 33 0 #[] #[])
  fields := #[]
  methods := #[k0m0]
  instanceTypes := #[]
  staticTypes := #[]
  resolved := Array.replicate 124 none
  statics := none }

def pool1 : Array CpInfo := pool [(2, .class_ 4), (1, u "java/lang/Object"), (0, u "<init>"), (0, u "()V"), (0, .long 15), (1, .long 10), (1, .methodref 12 13), (0, .class_ 14), (0, .nameAndType 15 16), (0, u "com/example/weigh/weigh/usage/UsageLayoutIsNumberPinLaw"), (0, u "dig"), (0, u "(JI)B"), (0, .methodref 12 18), (0, .nameAndType 19 20), (0, u "d"), (0, u "(B)Z"), (0, .methodref 22 23), (0, .class_ 24), (0, .nameAndType 25 26), (0, u "com/example/weigh/weigh/usage/UsageLayout"), (0, u "isNumber"), (0, u "([BII)Z"), (3, u "law"), (0, u "(JJI)Z")] 4

def k1m0 : Method := { name := "<init>", desc := "()V", sig := { parameters := [], returnType := none }, accessFlags := 2, code := none }
def k1c1 : Code := { maxStack := 5, maxLocals := 3, code := method_2_code, exceptionTable := #[], attributes := #[] }
def k1m1 : Method := { name := "dig", desc := "(JI)B", sig := { parameters := [.long, .int], returnType := some .byte }, accessFlags := 10, code := some k1c1 }
def k1c2 : Code := { maxStack := 2, maxLocals := 1, code := method_3_code, exceptionTable := #[], attributes := #[] }
def k1m2 : Method := { name := "d", desc := "(B)Z", sig := { parameters := [.byte], returnType := some .boolean }, accessFlags := 10, code := some k1c2 }
def k1c3 : Code := { maxStack := 5, maxLocals := 10, code := code, exceptionTable := #[], attributes := #[] }
def k1m3 : Method := { name := "law", desc := "(JJI)Z", sig := { parameters := [.long, .long, .int], returnType := some .boolean }, accessFlags := 9, code := some k1c3 }
/-- com/example/weigh/weigh/usage/UsageLayoutIsNumberPinLaw -/
def k1 : Class := { plain "com/example/weigh/weigh/usage/UsageLayoutIsNumberPinLaw" (some 0) with
  accessFlags := 49
  interfaces := #[]
  cf := some (fileOf pool1 12 #[] #[{ accessFlags := 2, nameIndex := 5, descriptorIndex := 6, attributes := #[] }, { accessFlags := 10, nameIndex := 15, descriptorIndex := 16, attributes := #[] }, { accessFlags := 10, nameIndex := 19, descriptorIndex := 20, attributes := #[] }, { accessFlags := 9, nameIndex := 30, descriptorIndex := 31, attributes := #[] }] 49 2 #[] #[])
  fields := #[]
  methods := #[k1m0, k1m1, k1m2, k1m3]
  instanceTypes := #[]
  staticTypes := #[]
  resolved := Array.replicate 36 none
  statics := none }

def pool2 : Array CpInfo := pool [(2, .class_ 4), (1, u "java/lang/Object"), (0, u "<init>"), (0, u "()V"), (1, .class_ 10), (1, u "com/example/weigh/weigh/usage/UsageLayout"), (0, u "EVENT_COLUMNS"), (0, u "[Lcom/example/weigh/weigh/usage/UsageLayout$Column;"), (1, .class_ 16), (1, u "com/example/weigh/weigh/usage/UsageLayout$Event"), (4, u "WORDS"), (0, u "Ljava/lang/ClassValue;"), (12, .class_ 36), (0, u "com/example/weigh/weigh/usage/UsageLayout$Words"), (23, u "isNumber"), (20, u "FIRST_TIME"), (0, u "J"), (2, u "LAST_TIME"), (87, u "EIGHT_BYTES"), (0, u "Ljava/lang/invoke/VarHandle;"), (32, u "DAYS_IN_MONTH"), (0, u "[I"), (2, u "YEAR_STARTS"), (2, u "DAYS_BEFORE_MONTH"), (23, .class_ 239), (0, u "com/example/weigh/weigh/usage/UsageLayout$Column"), (16, .class_ 257), (0, u "com/example/weigh/weigh/usage/UsageLayout$1"), (36, u "TIME_FORM"), (0, u "Ljava/lang/String;"), (3, u "DAYS_FROM_YEAR_0_TO_EPOCH"), (0, u "I"), (1, u "DATE_DIGITS"), (0, u "DATE_OTHERS"), (0, u "CLOCK_DIGITS"), (0, u "CLOCK_OTHERS"), (0, u "SECONDS_DIGITS"), (0, u "SECONDS_OTHERS"), (0, u "ZEROS"), (0, u "HIGH_HALVES"), (0, u "LOW_HALVES"), (0, u "SIXES"), (0, u "SIXTEENS"), (0, u "NUMBER_DIGITS"), (1, u "AREA_CODE_DIGITS"), (14, u "([BII)Z"), (18, .class_ 350), (0, u "com/example/weigh/weigh/usage/UsageLayout$Jurisdiction"), (0, .class_ 352), (0, u "com/example/weigh/weigh/usage/UsageLayout$TrunkRouting"), (0, .class_ 354), (0, u "com/example/weigh/weigh/usage/UsageLayout$Signaling"), (0, .class_ 356), (0, u "com/example/weigh/weigh/usage/UsageLayout$Direction")] 22

def k2m0 : Method := { name := "<init>", desc := "()V", sig := { parameters := [], returnType := none }, accessFlags := 2, code := none }
def k2c1 : Code := { maxStack := 2, maxLocals := 5, code := prog_106_method_8_code, exceptionTable := #[], attributes := #[] }
def k2m1 : Method := { name := "isNumber", desc := "([BII)Z", sig := { parameters := [(.array .byte), .int, .int], returnType := some .boolean }, accessFlags := 8, code := some k2c1 }
/-- com/example/weigh/weigh/usage/UsageLayout -/
def k2 : Class := { plain "com/example/weigh/weigh/usage/UsageLayout" (some 0) with
  accessFlags := 49
  interfaces := #[]
  cf := some (fileOf pool2 8 #[.nestMembers #[35, 238, 14, 349, 351, 353, 355, 256]] #[{ accessFlags := 2, nameIndex := 5, descriptorIndex := 6, attributes := #[] }, { accessFlags := 8, nameIndex := 60, descriptorIndex := 330, attributes := #[] }] 49 2 #[] #[{ accessFlags := 24, nameIndex := 294, descriptorIndex := 295, attributes := #[] }, { accessFlags := 26, nameIndex := 21, descriptorIndex := 22, attributes := #[] }, { accessFlags := 26, nameIndex := 11, descriptorIndex := 12, attributes := #[] }, { accessFlags := 26, nameIndex := 81, descriptorIndex := 82, attributes := #[] }, { accessFlags := 26, nameIndex := 85, descriptorIndex := 82, attributes := #[] }, { accessFlags := 26, nameIndex := 207, descriptorIndex := 208, attributes := #[] }, { accessFlags := 26, nameIndex := 214, descriptorIndex := 208, attributes := #[] }, { accessFlags := 26, nameIndex := 299, descriptorIndex := 300, attributes := #[] }, { accessFlags := 26, nameIndex := 211, descriptorIndex := 208, attributes := #[] }, { accessFlags := 26, nameIndex := 173, descriptorIndex := 174, attributes := #[] }, { accessFlags := 26, nameIndex := 302, descriptorIndex := 82, attributes := #[] }, { accessFlags := 26, nameIndex := 303, descriptorIndex := 82, attributes := #[] }, { accessFlags := 26, nameIndex := 304, descriptorIndex := 82, attributes := #[] }, { accessFlags := 26, nameIndex := 305, descriptorIndex := 82, attributes := #[] }, { accessFlags := 26, nameIndex := 306, descriptorIndex := 82, attributes := #[] }, { accessFlags := 26, nameIndex := 307, descriptorIndex := 82, attributes := #[] }, { accessFlags := 26, nameIndex := 308, descriptorIndex := 82, attributes := #[] }, { accessFlags := 26, nameIndex := 309, descriptorIndex := 82, attributes := #[] }, { accessFlags := 26, nameIndex := 310, descriptorIndex := 82, attributes := #[] }, { accessFlags := 26, nameIndex := 311, descriptorIndex := 82, attributes := #[] }, { accessFlags := 26, nameIndex := 312, descriptorIndex := 82, attributes := #[] }, { accessFlags := 26, nameIndex := 313, descriptorIndex := 300, attributes := #[] }, { accessFlags := 26, nameIndex := 315, descriptorIndex := 300, attributes := #[] }])
  fields := #[{ name := "TIME_FORM", type := (.object "java/lang/String"), accessFlags := 24, slot := 0, constantValue := 0 }, { name := "WORDS", type := (.object "java/lang/ClassValue"), accessFlags := 26, slot := 1, constantValue := 0 }, { name := "EVENT_COLUMNS", type := (.array (.object "com/example/weigh/weigh/usage/UsageLayout$Column")), accessFlags := 26, slot := 2, constantValue := 0 }, { name := "FIRST_TIME", type := .long, accessFlags := 26, slot := 3, constantValue := 0 }, { name := "LAST_TIME", type := .long, accessFlags := 26, slot := 4, constantValue := 0 }, { name := "DAYS_IN_MONTH", type := (.array .int), accessFlags := 26, slot := 5, constantValue := 0 }, { name := "DAYS_BEFORE_MONTH", type := (.array .int), accessFlags := 26, slot := 6, constantValue := 0 }, { name := "DAYS_FROM_YEAR_0_TO_EPOCH", type := .int, accessFlags := 26, slot := 7, constantValue := 0 }, { name := "YEAR_STARTS", type := (.array .int), accessFlags := 26, slot := 8, constantValue := 0 }, { name := "EIGHT_BYTES", type := (.object "java/lang/invoke/VarHandle"), accessFlags := 26, slot := 9, constantValue := 0 }, { name := "DATE_DIGITS", type := .long, accessFlags := 26, slot := 10, constantValue := 0 }, { name := "DATE_OTHERS", type := .long, accessFlags := 26, slot := 11, constantValue := 0 }, { name := "CLOCK_DIGITS", type := .long, accessFlags := 26, slot := 12, constantValue := 0 }, { name := "CLOCK_OTHERS", type := .long, accessFlags := 26, slot := 13, constantValue := 0 }, { name := "SECONDS_DIGITS", type := .long, accessFlags := 26, slot := 14, constantValue := 0 }, { name := "SECONDS_OTHERS", type := .long, accessFlags := 26, slot := 15, constantValue := 0 }, { name := "ZEROS", type := .long, accessFlags := 26, slot := 16, constantValue := 0 }, { name := "HIGH_HALVES", type := .long, accessFlags := 26, slot := 17, constantValue := 0 }, { name := "LOW_HALVES", type := .long, accessFlags := 26, slot := 18, constantValue := 0 }, { name := "SIXES", type := .long, accessFlags := 26, slot := 19, constantValue := 0 }, { name := "SIXTEENS", type := .long, accessFlags := 26, slot := 20, constantValue := 0 }, { name := "NUMBER_DIGITS", type := .int, accessFlags := 26, slot := 21, constantValue := 0 }, { name := "AREA_CODE_DIGITS", type := .int, accessFlags := 26, slot := 22, constantValue := 0 }]
  methods := #[k2m0, k2m1]
  instanceTypes := #[]
  staticTypes := #[(.object "java/lang/String"), (.object "java/lang/ClassValue"), (.array (.object "com/example/weigh/weigh/usage/UsageLayout$Column")), .long, .long, (.array .int), (.array .int), .int, (.array .int), (.object "java/lang/invoke/VarHandle"), .long, .long, .long, .long, .long, .long, .long, .long, .long, .long, .long, .int, .int]
  resolved := Array.replicate 379 none
  statics := none }

def pool3 : Array CpInfo := pool [(1, u "java/lang/Cloneable"), (0, .class_ 1), (0, u "java/lang/Object"), (0, .class_ 3)] 3

/-- java/lang/Cloneable -/
def k3 : Class := { plain "java/lang/Cloneable" (some 0) with
  accessFlags := 1537
  interfaces := #[]
  cf := some (fileOf pool3 2 #[] #[] 1537 4 #[] #[])
  fields := #[]
  methods := #[]
  instanceTypes := #[]
  staticTypes := #[]
  resolved := Array.replicate 8 none
  statics := none }

def pool4 : Array CpInfo := pool [(1, u "java/io/Serializable"), (0, .class_ 1), (0, u "java/lang/Object"), (0, .class_ 3)] 3

/-- java/io/Serializable -/
def k4 : Class := { plain "java/io/Serializable" (some 0) with
  accessFlags := 1537
  interfaces := #[]
  cf := some (fileOf pool4 2 #[] #[] 1537 4 #[] #[])
  fields := #[]
  methods := #[]
  instanceTypes := #[]
  staticTypes := #[]
  resolved := Array.replicate 8 none
  statics := none }

/-- the primitive byte -/
def k5 : Class := { plain "byte" none with kind := .primitive 'B', accessFlags := 0x411 }
/-- [B -/
def k6 : Class := { plain "[B" (some 0) with kind := .array 5 .byte, interfaces := #[3, 4], accessFlags := 1041 }

/-- the primitive int -/
def k7 : Class := { plain "int" none with kind := .primitive 'I', accessFlags := 0x411 }
/-- [I -/
def k8 : Class := { plain "[I" (some 0) with kind := .array 7 .int, interfaces := #[3, 4], accessFlags := 1041 }

def heap : Heap := #[]
def classes : Array Class := #[k0, k1, k2, k3, k4, k5, k6, k7, k8]
def interned : List (Array UInt16 × Addr) := []
def slotsUsed : Nat := 0
def theMethod : MethodId := ⟨1, 3⟩
def args0 : Array Value := #[.long 1, .long 2, .int 3]
def aboutOver (below : List Frame) : State where
  vm := { classes := classes, interned := interned.toArray }
  heap := heap
  slotsUsed := slotsUsed
  threads := #[{ frames := .invoking theMethod args0 :: below }]
def below0 : List Frame := [.native { method := ⟨0, 0⟩, args := #[] }]
def about1 : State := aboutOver below0
def p0 : Program := .bare "" "" ""
def e0 : Env := launch0.env 0 0 0
theorem w_frames : about1.frames = Frame.invoking theMethod args0 :: below0 := rfl
set_option maxRecDepth 65536 in
theorem w_args : argsFit about1.vm theMethod args0 = true := by decide +kernel
set_option maxRecDepth 65536 in
theorem w_heap : heapFits about1 = true := by decide +kernel
set_option maxRecDepth 65536 in
theorem w_runnable : about1.curStatus? = some .runnable := by decide +kernel
set_option maxRecDepth 65536 in
theorem w_alone : about1.alone = true := by decide +kernel
set_option maxRecDepth 65536 in
theorem w_named : about1.methodNamed? x = some theMethod := by decide +kernel
set_option maxRecDepth 65536 in
theorem w_hears : about1.hears theMethod below0 = true := by decide +kernel
set_option maxRecDepth 65536 in
theorem w_ripe : about1.ripe theMethod args0 below0 = true := by decide +kernel
theorem w_running : about1.status = .running := rfl
set_option maxRecDepth 65536 in
theorem w_room : about1.hasRoom e0.platform room_1 = true :=
  launch0.hasRoom_least _ room_1 (by decide +kernel) (by decide +kernel) (by decide +kernel) (by decide +kernel) (by decide +kernel) (by decide +kernel)
theorem allAtoms_all (ts : List Jvm.Cond) (a : Array Jvm.Value) (st : Jvm.State) : (allAtoms ts).before a st = ts.all (fun c => c.before a st) := by
  induction ts with
  | nil => rfl
  | cons c t ih =>
    show (Jvm.Cond.and c (allAtoms t)).before a st = _
    rw [Jvm.Cond.before_and, ih, List.all_cons]
def words1 : List Jvm.Cond := Jvm.Cond.code x code maxLocals ret :: tables_1
/-- a 'code' word, met by the world's own term for the bytes: nothing is compared byte by byte -/
theorem code_word {y : MethodName} {bytes : ByteArray} {mx : Nat} {rt : Option FieldType} {a : Array Value} {s : State} {m : MethodId} {meth : Method} {c : Code} (h1 : s.methodNamed? y = some m) (h2 : s.vm.method? m = some meth) (h3 : meth.code = some c) (h4 : c.code = bytes)
    (h5 : (c.maxLocals == mx && c.exceptionTable.isEmpty && decide (c.maxStack ≤ mostOperands) && decide (meth.sig.returnType = rt) && !meth.locks && decide (parseMethodDescriptor y.desc = some meth.sig)) = true) : (Jvm.Cond.code y bytes mx rt).before a s = true := by
  simp only [Bool.and_eq_true, beq_iff_eq, Bool.not_eq_true', decide_eq_true_eq] at h5
  obtain ⟨⟨⟨⟨⟨g1, g2⟩, g3⟩, g4⟩, g5⟩, g6⟩ := h5
  simp [Cond.before, Cond.holds, Cond.value, h1, h2, h3, h4, g1, g2, g3, g4, g5, g6]
def isCode : Jvm.Cond → Bool
  | .code _ _ _ _ => true
  | _ => false
theorem all_split {L : List Jvm.Cond} {P : Jvm.Cond → Bool} (h1 : L.all (fun c => isCode c || P c) = true) (h2 : ∀ c ∈ L.filter isCode, P c = true) : L.all P = true := by
  refine List.all_eq_true.mpr fun c hc => ?_
  have h := List.all_eq_true.mp h1 c hc
  rcases Bool.eq_false_or_eq_true (isCode c) with hi | hi
  · exact h2 c (List.mem_filter.mpr ⟨hc, hi⟩)
  · simpa [hi] using h
set_option maxRecDepth 65536 in
theorem w_c0 : (Jvm.Cond.code x code maxLocals ret).before args0 about1 = true := code_word (m := ⟨1, 3⟩) (meth := k1m3) (c := k1c3) (by decide +kernel) rfl rfl rfl (by decide +kernel)
set_option maxRecDepth 65536 in
theorem w_c1 : (Jvm.Cond.code ({ cls := "com/example/weigh/weigh/usage/UsageLayoutIsNumberPinLaw", name := "dig", desc := "(JI)B" } : Jvm.MethodName) method_2_code (3 : Nat) (Option.some Jvm.ClassFile.FieldType.byte)).before args0 about1 = true := code_word (m := ⟨1, 1⟩) (meth := k1m1) (c := k1c1) (by decide +kernel) rfl rfl rfl (by decide +kernel)
set_option maxRecDepth 65536 in
theorem w_c2 : (Jvm.Cond.code ({ cls := "com/example/weigh/weigh/usage/UsageLayoutIsNumberPinLaw", name := "d", desc := "(B)Z" } : Jvm.MethodName) method_3_code (1 : Nat) (Option.some Jvm.ClassFile.FieldType.boolean)).before args0 about1 = true := code_word (m := ⟨1, 2⟩) (meth := k1m2) (c := k1c2) (by decide +kernel) rfl rfl rfl (by decide +kernel)
set_option maxRecDepth 65536 in
theorem w_c3 : (Jvm.Cond.code ({ cls := "com/example/weigh/weigh/usage/UsageLayout", name := "isNumber", desc := "([BII)Z" } : Jvm.MethodName) prog_106_method_8_code (5 : Nat) (Option.some Jvm.ClassFile.FieldType.boolean)).before args0 about1 = true := code_word (m := ⟨2, 1⟩) (meth := k2m1) (c := k2c1) (by decide +kernel) rfl rfl rfl (by decide +kernel)
def codes1 : List Jvm.Cond := [Jvm.Cond.code x code maxLocals ret, Jvm.Cond.code ({ cls := "com/example/weigh/weigh/usage/UsageLayoutIsNumberPinLaw", name := "dig", desc := "(JI)B" } : Jvm.MethodName) method_2_code (3 : Nat) (Option.some Jvm.ClassFile.FieldType.byte), Jvm.Cond.code ({ cls := "com/example/weigh/weigh/usage/UsageLayoutIsNumberPinLaw", name := "d", desc := "(B)Z" } : Jvm.MethodName) method_3_code (1 : Nat) (Option.some Jvm.ClassFile.FieldType.boolean), Jvm.Cond.code ({ cls := "com/example/weigh/weigh/usage/UsageLayout", name := "isNumber", desc := "([BII)Z" } : Jvm.MethodName) prog_106_method_8_code (5 : Nat) (Option.some Jvm.ClassFile.FieldType.boolean)]
set_option maxRecDepth 65536 in
theorem codes_eq : words1.filter isCode = codes1 := rfl
theorem w_codes : ∀ c ∈ words1.filter isCode, c.before args0 about1 = true := by
  rw [codes_eq]
  intro c hc
  simp only [codes1, List.mem_cons, List.not_mem_nil, or_false] at hc
  rcases hc with rfl | rfl | rfl | rfl
  · exact w_c0
  · exact w_c1
  · exact w_c2
  · exact w_c3
set_option maxRecDepth 65536 in
theorem w_t1 : words1.all (fun c => isCode c || c.before args0 about1) = true := by decide +kernel
theorem w_tables : (allAtoms (Jvm.Cond.code x code maxLocals ret :: tables_1)).before args0 about1 = true := by
  rw [allAtoms_all]
  show words1.all (fun c => c.before args0 about1) = true
  refine all_split ?_ w_codes
  rw [w_t1]
set_option maxRecDepth 65536 in
theorem w_case : (Jvm.Cond.and given_1 narrow_1).before args0 about1 = true := by decide +kernel
theorem w_applies : (headSpec (Jvm.Cond.code x code maxLocals ret :: tables_1) room_1).applies x e0.platform about1 = true :=
  (Spec.applies_iff w_frames).mpr ⟨w_running, w_runnable, w_alone, w_named, w_hears, w_ripe, w_room, w_tables⟩
theorem atStart : AtStart classFile x code maxLocals ret World_1 tables_1 room_1 Calls_1 rest_1 Pre_1 launch0 p0 e0 about1 theMethod args0 below0 :=
  ⟨lists_1, trivial, launch0.admits_env _ _ _, launch0.least_env, fairChoices_fair.cas, fairChoices_fair.clock, w_frames, w_args, w_heap, w_applies, trivial, trivial, w_case⟩
end start1
theorem witness_1 : WitnessClaimed_1 := ⟨start1.p0, start1.e0, start1.about1, start1.theMethod, start1.args0, start1.below0, start1.atStart⟩
end Jvm.Pilot.@@N@@
