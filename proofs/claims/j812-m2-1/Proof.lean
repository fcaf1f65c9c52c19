import JvmDerived
import JvmDerived.Pilot.@@N@@Statement
import JvmDerived.Pilot.@@N@@Code
set_option linter.unusedVariables false
set_option linter.unusedSimpArgs false
namespace Jvm.Pilot.@@N@@
open Jvm Jvm.ClassFile Sem Op Lib Jvm.Free Jvm.Stand Jvm.LawKit Jvm.RoadKit Bundle Jvm.Pilot.@@N@@.Jvm.D
/-! ## the shared layer: own_Go and its laws -/
def Go (p : Program) (e : Env) (below : List Frame) (P : State → Outcome → Prop) (T : State) (g : JFrame) : Prop := ∃ t o, Steps p.tables e below (T.setTop g) t ∧ t.status = .running ∧ Ended t below o ∧ P t o
def RP (s : State) (k n : Nat) (Q : Option Value → Heap → List Loc → Prop) (t : State) (o : Outcome) : Prop := ∃ v L, o = .returned v ∧ Q v t.heap L ∧ FrameEnd s o t L k n
theorem wd {a0 : Array Value} {Z : State} (hw : ∀ d ∈ tables_1, d.before a0 Z = true) (k : Nat) {d : Jvm.Cond} (h : tables_1[k]? = some d) : d.before a0 Z = true := hw _ (List.mem_of_getElem? h)
section OwnGo
variable {p : Program} {l : Launch} {e : Env} {R : Room} {s : State} {m : MethodId} {args : Array Value} {below : List Frame} {meth : Method} {c : Code} {T : State} {locs : List Loc} {cells slots : Nat} {P : State → Outcome → Prop} {pc : Nat} {Ls : Array Slot} {st : List Value} {Z : State} {a0 : Array Value} {h : Heap}
theorem Go.stp {T' : State} {g g' : JFrame} (G : Go p e below P T' g') (k : ∀ t, Steps p.tables e below (T'.setTop g') t → Steps p.tables e below (T.setTop g) t) : Go p e below P T g := by
  obtain ⟨t, o, h, r⟩ := G
  exact ⟨t, o, k t h, r⟩
theorem Go.cast {g g' : JFrame} (q : g = g') (G : Go p e below P T g') : Go p e below P T g := q ▸ G
theorem g_iload (X : Stand p l e R s m args below meth c T locs cells slots) (hx : p.tables.exec = Jvm.exec) {k : Nat} {v : Int32} (hl : Ls[k]? = some (.val (.int v))) (hd : decode c.code pc = .ok (.iload k, 2)) (pc' : Nat) (hp : pc + 2 = pc') (G : Go p e below P T (mkF m pc' Ls (.int v :: st))) : Go p e below P T (mkF m pc Ls st) := by
  subst hp
  exact G.stp fun _ h => XS.iload X.here hx rfl hd hl h
theorem g_iloadN (X : Stand p l e R s m args below meth c T locs cells slots) (hx : p.tables.exec = Jvm.exec) {k : Fin 4} {v : Int32} (hl : Ls[k.val]? = some (.val (.int v))) (hd : decode c.code pc = .ok (.iload_n k, 1)) (pc' : Nat) (hp : pc + 1 = pc') (G : Go p e below P T (mkF m pc' Ls (.int v :: st))) : Go p e below P T (mkF m pc Ls st) := by
  subst hp
  exact G.stp fun _ h => XS.iloadN X.here hx rfl hd hl h
theorem g_istore (X : Stand p l e R s m args below meth c T locs cells slots) (hx : p.tables.exec = Jvm.exec) {k : Nat} {v : Int32} (l' : Array Slot) (hl : storeLocals Ls k (.int v) = some l') (hd : decode c.code pc = .ok (.istore k, 2)) (pc' : Nat) (hp : pc + 2 = pc') (G : Go p e below P T (mkF m pc' l' st)) : Go p e below P T (mkF m pc Ls (.int v :: st)) := by
  subst hp
  exact G.stp fun _ h => XS.istore X.here hx rfl hd rfl hl h
theorem g_istoreN (X : Stand p l e R s m args below meth c T locs cells slots) (hx : p.tables.exec = Jvm.exec) {k : Fin 4} {v : Int32} (l' : Array Slot) (hl : storeLocals Ls k.val (.int v) = some l') (hd : decode c.code pc = .ok (.istore_n k, 1)) (pc' : Nat) (hp : pc + 1 = pc') (G : Go p e below P T (mkF m pc' l' st)) : Go p e below P T (mkF m pc Ls (.int v :: st)) := by
  subst hp
  exact G.stp fun _ h => XS.istoreN X.here hx rfl hd rfl hl h
theorem g_lload (X : Stand p l e R s m args below meth c T locs cells slots) (hx : p.tables.exec = Jvm.exec) {k : Nat} {v : Int64} (hl : Ls[k]? = some (.val (.long v))) (hd : decode c.code pc = .ok (.lload k, 2)) (pc' : Nat) (hp : pc + 2 = pc') (G : Go p e below P T (mkF m pc' Ls (.long v :: st))) : Go p e below P T (mkF m pc Ls st) := by
  subst hp
  exact G.stp fun _ h => XT.lload X.here hx rfl hd hl h
theorem g_lloadN (X : Stand p l e R s m args below meth c T locs cells slots) (hx : p.tables.exec = Jvm.exec) {k : Fin 4} {v : Int64} (hl : Ls[k.val]? = some (.val (.long v))) (hd : decode c.code pc = .ok (.lload_n k, 1)) (pc' : Nat) (hp : pc + 1 = pc') (G : Go p e below P T (mkF m pc' Ls (.long v :: st))) : Go p e below P T (mkF m pc Ls st) := by
  subst hp
  exact G.stp fun _ h => XT.lloadN X.here hx rfl hd hl h
theorem g_lstore (X : Stand p l e R s m args below meth c T locs cells slots) (hx : p.tables.exec = Jvm.exec) {k : Nat} {v : Int64} (l' : Array Slot) (hl : storeLocals Ls k (.long v) = some l') (hd : decode c.code pc = .ok (.lstore k, 2)) (pc' : Nat) (hp : pc + 2 = pc') (G : Go p e below P T (mkF m pc' l' st)) : Go p e below P T (mkF m pc Ls (.long v :: st)) := by
  subst hp
  exact G.stp fun _ h => XT.lstore X.here hx rfl hd rfl hl h
theorem g_lstoreN (X : Stand p l e R s m args below meth c T locs cells slots) (hx : p.tables.exec = Jvm.exec) {k : Fin 4} {v : Int64} (l' : Array Slot) (hl : storeLocals Ls k.val (.long v) = some l') (hd : decode c.code pc = .ok (.lstore_n k, 1)) (pc' : Nat) (hp : pc + 1 = pc') (G : Go p e below P T (mkF m pc' l' st)) : Go p e below P T (mkF m pc Ls (.long v :: st)) := by
  subst hp
  exact G.stp fun _ h => XT.lstoreN X.here hx rfl hd rfl hl h
theorem g_aload (X : Stand p l e R s m args below meth c T locs cells slots) (hx : p.tables.exec = Jvm.exec) {k : Nat} {v : Value} (hl : Ls[k]? = some (.val v)) (hv : v.isRef = true) (hd : decode c.code pc = .ok (.aload k, 2)) (pc' : Nat) (hp : pc + 2 = pc') (G : Go p e below P T (mkF m pc' Ls (v :: st))) : Go p e below P T (mkF m pc Ls st) := by
  subst hp
  exact G.stp fun _ h => XS.aload X.here hx rfl hd hl hv h
theorem g_aloadN (X : Stand p l e R s m args below meth c T locs cells slots) (hx : p.tables.exec = Jvm.exec) {k : Fin 4} {v : Value} (hl : Ls[k.val]? = some (.val v)) (hv : v.isRef = true) (hd : decode c.code pc = .ok (.aload_n k, 1)) (pc' : Nat) (hp : pc + 1 = pc') (G : Go p e below P T (mkF m pc' Ls (v :: st))) : Go p e below P T (mkF m pc Ls st) := by
  subst hp
  exact G.stp fun _ h => XS.aloadN X.here hx rfl hd hl hv h
theorem g_astore (X : Stand p l e R s m args below meth c T locs cells slots) (hx : p.tables.exec = Jvm.exec) {k : Nat} {v : Value} (l' : Array Slot) (hv : v.isRef = true) (hl : storeLocals Ls k v = some l') (hd : decode c.code pc = .ok (.astore k, 2)) (pc' : Nat) (hp : pc + 2 = pc') (G : Go p e below P T (mkF m pc' l' st)) : Go p e below P T (mkF m pc Ls (v :: st)) := by
  subst hp
  exact G.stp fun _ h => XS.astore X.here hx rfl hd rfl hv hl h
theorem g_astoreN (X : Stand p l e R s m args below meth c T locs cells slots) (hx : p.tables.exec = Jvm.exec) {k : Fin 4} {v : Value} (l' : Array Slot) (hv : v.isRef = true) (hl : storeLocals Ls k.val v = some l') (hd : decode c.code pc = .ok (.astore_n k, 1)) (pc' : Nat) (hp : pc + 1 = pc') (G : Go p e below P T (mkF m pc' l' st)) : Go p e below P T (mkF m pc Ls (v :: st)) := by
  subst hp
  exact G.stp fun _ h => XS.astoreN X.here hx rfl hd rfl hv hl h
theorem g_iconst (X : Stand p l e R s m args below meth c T locs cells slots) (hx : p.tables.exec = Jvm.exec) {i : Int} (v : Int32) (hv : Int32.ofInt i = v) (hd : decode c.code pc = .ok (.iconst i, 1)) (pc' : Nat) (hp : pc + 1 = pc') (G : Go p e below P T (mkF m pc' Ls (.int v :: st))) : Go p e below P T (mkF m pc Ls st) := by
  subst hp
  exact G.stp fun _ h => XT.iconstV X.here hx rfl v hd hv h
theorem g_bipush (X : Stand p l e R s m args below meth c T locs cells slots) (hx : p.tables.exec = Jvm.exec) {i : Int} (v : Int32) (hv : (Int8.ofInt i).toInt32 = v) (hd : decode c.code pc = .ok (.bipush i, 2)) (pc' : Nat) (hp : pc + 2 = pc') (G : Go p e below P T (mkF m pc' Ls (.int v :: st))) : Go p e below P T (mkF m pc Ls st) := by
  subst hp
  exact G.stp fun _ h => XT.bipushV X.here hx rfl v hd hv h
theorem g_sipush (X : Stand p l e R s m args below meth c T locs cells slots) (hx : p.tables.exec = Jvm.exec) {i : Int} (v : Int32) (hv : (Int16.ofInt i).toInt32 = v) (hd : decode c.code pc = .ok (.sipush i, 3)) (pc' : Nat) (hp : pc + 3 = pc') (G : Go p e below P T (mkF m pc' Ls (.int v :: st))) : Go p e below P T (mkF m pc Ls st) := by
  subst hp
  exact G.stp fun _ h => XT.sipushV X.here hx rfl v hd hv h
theorem g_lconst (X : Stand p l e R s m args below meth c T locs cells slots) (hx : p.tables.exec = Jvm.exec) {i : Fin 2} (v : Int64) (hv : Int64.ofNat i = v) (hd : decode c.code pc = .ok (.lconst i, 1)) (pc' : Nat) (hp : pc + 1 = pc') (G : Go p e below P T (mkF m pc' Ls (.long v :: st))) : Go p e below P T (mkF m pc Ls st) := by
  subst hp
  exact G.stp fun _ h => XT.lconstV X.here hx rfl v hd hv h
theorem g_aconst_null (X : Stand p l e R s m args below meth c T locs cells slots) (hx : p.tables.exec = Jvm.exec)  (hd : decode c.code pc = .ok (.aconst_null, 1)) (pc' : Nat) (hp : pc + 1 = pc') (G : Go p e below P T (mkF m pc' Ls (.null :: st))) : Go p e below P T (mkF m pc Ls st) := by
  subst hp
  exact G.stp fun _ h => XS.aconstNull X.here hx rfl hd h
theorem g_iadd (X : Stand p l e R s m args below meth c T locs cells slots) (hx : p.tables.exec = Jvm.exec) {x y : Int32} (hd : decode c.code pc = .ok (.iadd, 1)) (pc' : Nat) (hp : pc + 1 = pc') (G : Go p e below P T (mkF m pc' Ls (.int (x + y) :: st))) : Go p e below P T (mkF m pc Ls (.int y :: .int x :: st)) := by
  subst hp
  exact G.stp fun _ h => XS.iadd X.here hx rfl hd rfl h
theorem g_ladd (X : Stand p l e R s m args below meth c T locs cells slots) (hx : p.tables.exec = Jvm.exec) {x y : Int64} (hd : decode c.code pc = .ok (.ladd, 1)) (pc' : Nat) (hp : pc + 1 = pc') (G : Go p e below P T (mkF m pc' Ls (.long (x + y) :: st))) : Go p e below P T (mkF m pc Ls (.long y :: .long x :: st)) := by
  subst hp
  exact G.stp fun _ h => XT.ladd X.here hx rfl hd rfl h
theorem g_isub (X : Stand p l e R s m args below meth c T locs cells slots) (hx : p.tables.exec = Jvm.exec) {x y : Int32} (hd : decode c.code pc = .ok (.isub, 1)) (pc' : Nat) (hp : pc + 1 = pc') (G : Go p e below P T (mkF m pc' Ls (.int (x - y) :: st))) : Go p e below P T (mkF m pc Ls (.int y :: .int x :: st)) := by
  subst hp
  exact G.stp fun _ h => XS.isub X.here hx rfl hd rfl h
theorem g_lsub (X : Stand p l e R s m args below meth c T locs cells slots) (hx : p.tables.exec = Jvm.exec) {x y : Int64} (hd : decode c.code pc = .ok (.lsub, 1)) (pc' : Nat) (hp : pc + 1 = pc') (G : Go p e below P T (mkF m pc' Ls (.long (x - y) :: st))) : Go p e below P T (mkF m pc Ls (.long y :: .long x :: st)) := by
  subst hp
  exact G.stp fun _ h => XT.lsub X.here hx rfl hd rfl h
theorem g_imul (X : Stand p l e R s m args below meth c T locs cells slots) (hx : p.tables.exec = Jvm.exec) {x y : Int32} (hd : decode c.code pc = .ok (.imul, 1)) (pc' : Nat) (hp : pc + 1 = pc') (G : Go p e below P T (mkF m pc' Ls (.int (x * y) :: st))) : Go p e below P T (mkF m pc Ls (.int y :: .int x :: st)) := by
  subst hp
  exact G.stp fun _ h => XS.imul X.here hx rfl hd rfl h
theorem g_lmul (X : Stand p l e R s m args below meth c T locs cells slots) (hx : p.tables.exec = Jvm.exec) {x y : Int64} (hd : decode c.code pc = .ok (.lmul, 1)) (pc' : Nat) (hp : pc + 1 = pc') (G : Go p e below P T (mkF m pc' Ls (.long (x * y) :: st))) : Go p e below P T (mkF m pc Ls (.long y :: .long x :: st)) := by
  subst hp
  exact G.stp fun _ h => XT.lmul X.here hx rfl hd rfl h
theorem g_iand (X : Stand p l e R s m args below meth c T locs cells slots) (hx : p.tables.exec = Jvm.exec) {x y : Int32} (hd : decode c.code pc = .ok (.iand, 1)) (pc' : Nat) (hp : pc + 1 = pc') (G : Go p e below P T (mkF m pc' Ls (.int (x &&& y) :: st))) : Go p e below P T (mkF m pc Ls (.int y :: .int x :: st)) := by
  subst hp
  exact G.stp fun _ h => XS.iand X.here hx rfl hd rfl h
theorem g_land (X : Stand p l e R s m args below meth c T locs cells slots) (hx : p.tables.exec = Jvm.exec) {x y : Int64} (hd : decode c.code pc = .ok (.land, 1)) (pc' : Nat) (hp : pc + 1 = pc') (G : Go p e below P T (mkF m pc' Ls (.long (x &&& y) :: st))) : Go p e below P T (mkF m pc Ls (.long y :: .long x :: st)) := by
  subst hp
  exact G.stp fun _ h => XT.land X.here hx rfl hd rfl h
theorem g_ior (X : Stand p l e R s m args below meth c T locs cells slots) (hx : p.tables.exec = Jvm.exec) {x y : Int32} (hd : decode c.code pc = .ok (.ior, 1)) (pc' : Nat) (hp : pc + 1 = pc') (G : Go p e below P T (mkF m pc' Ls (.int (x ||| y) :: st))) : Go p e below P T (mkF m pc Ls (.int y :: .int x :: st)) := by
  subst hp
  exact G.stp fun _ h => XT.ior X.here hx rfl hd rfl h
theorem g_lor (X : Stand p l e R s m args below meth c T locs cells slots) (hx : p.tables.exec = Jvm.exec) {x y : Int64} (hd : decode c.code pc = .ok (.lor, 1)) (pc' : Nat) (hp : pc + 1 = pc') (G : Go p e below P T (mkF m pc' Ls (.long (x ||| y) :: st))) : Go p e below P T (mkF m pc Ls (.long y :: .long x :: st)) := by
  subst hp
  exact G.stp fun _ h => XT.lor X.here hx rfl hd rfl h
theorem g_ixor (X : Stand p l e R s m args below meth c T locs cells slots) (hx : p.tables.exec = Jvm.exec) {x y : Int32} (hd : decode c.code pc = .ok (.ixor, 1)) (pc' : Nat) (hp : pc + 1 = pc') (G : Go p e below P T (mkF m pc' Ls (.int (x ^^^ y) :: st))) : Go p e below P T (mkF m pc Ls (.int y :: .int x :: st)) := by
  subst hp
  exact G.stp fun _ h => XT.ixor X.here hx rfl hd rfl h
theorem g_lxor (X : Stand p l e R s m args below meth c T locs cells slots) (hx : p.tables.exec = Jvm.exec) {x y : Int64} (hd : decode c.code pc = .ok (.lxor, 1)) (pc' : Nat) (hp : pc + 1 = pc') (G : Go p e below P T (mkF m pc' Ls (.long (x ^^^ y) :: st))) : Go p e below P T (mkF m pc Ls (.long y :: .long x :: st)) := by
  subst hp
  exact G.stp fun _ h => XT.lxor X.here hx rfl hd rfl h
theorem g_idiv (X : Stand p l e R s m args below meth c T locs cells slots) (hx : p.tables.exec = Jvm.exec) {x y : Int32} (hy : y ≠ 0) (hd : decode c.code pc = .ok (.idiv, 1)) (pc' : Nat) (hp : pc + 1 = pc') (G : Go p e below P T (mkF m pc' Ls (.int (x / y) :: st))) : Go p e below P T (mkF m pc Ls (.int y :: .int x :: st)) := by
  subst hp
  exact G.stp fun _ h => XS.idiv X.here hx rfl hd rfl hy h
theorem g_irem (X : Stand p l e R s m args below meth c T locs cells slots) (hx : p.tables.exec = Jvm.exec) {x y : Int32} (hy : y ≠ 0) (hd : decode c.code pc = .ok (.irem, 1)) (pc' : Nat) (hp : pc + 1 = pc') (G : Go p e below P T (mkF m pc' Ls (.int (x % y) :: st))) : Go p e below P T (mkF m pc Ls (.int y :: .int x :: st)) := by
  subst hp
  exact G.stp fun _ h => iremM X hx rfl hd rfl hy h
theorem g_ldiv (X : Stand p l e R s m args below meth c T locs cells slots) (hx : p.tables.exec = Jvm.exec) {x y : Int64} (hy : y ≠ 0) (hd : decode c.code pc = .ok (.ldiv, 1)) (pc' : Nat) (hp : pc + 1 = pc') (G : Go p e below P T (mkF m pc' Ls (.long (x / y) :: st))) : Go p e below P T (mkF m pc Ls (.long y :: .long x :: st)) := by
  subst hp
  exact G.stp fun _ h => XT.ldiv X.here hx rfl hd rfl hy h
theorem g_lrem (X : Stand p l e R s m args below meth c T locs cells slots) (hx : p.tables.exec = Jvm.exec) {x y : Int64} (hy : y ≠ 0) (hd : decode c.code pc = .ok (.lrem, 1)) (pc' : Nat) (hp : pc + 1 = pc') (G : Go p e below P T (mkF m pc' Ls (.long (x % y) :: st))) : Go p e below P T (mkF m pc Ls (.long y :: .long x :: st)) := by
  subst hp
  rw [← lrem_mod] at G
  exact G.stp fun _ h => XT.lrem X.here hx rfl hd rfl hy h
theorem g_ishl (X : Stand p l e R s m args below meth c T locs cells slots) (hx : p.tables.exec = Jvm.exec) {x y : Int32} (hd : decode c.code pc = .ok (.ishl, 1)) (pc' : Nat) (hp : pc + 1 = pc') (G : Go p e below P T (mkF m pc' Ls (.int (x <<< (y &&& 31)) :: st))) : Go p e below P T (mkF m pc Ls (.int y :: .int x :: st)) := by
  subst hp
  exact G.stp fun _ h => XT.ishl X.here hx rfl hd rfl h
theorem g_ishr (X : Stand p l e R s m args below meth c T locs cells slots) (hx : p.tables.exec = Jvm.exec) {x y : Int32} (hd : decode c.code pc = .ok (.ishr, 1)) (pc' : Nat) (hp : pc + 1 = pc') (G : Go p e below P T (mkF m pc' Ls (.int (x >>> (y &&& 31)) :: st))) : Go p e below P T (mkF m pc Ls (.int y :: .int x :: st)) := by
  subst hp
  exact G.stp fun _ h => XT.ishr X.here hx rfl hd rfl h
theorem g_iushr (X : Stand p l e R s m args below meth c T locs cells slots) (hx : p.tables.exec = Jvm.exec) {x y : Int32} (hd : decode c.code pc = .ok (.iushr, 1)) (pc' : Nat) (hp : pc + 1 = pc') (G : Go p e below P T (mkF m pc' Ls (.int (XT.ushr x y) :: st))) : Go p e below P T (mkF m pc Ls (.int y :: .int x :: st)) := by
  subst hp
  exact G.stp fun _ h => XT.iushr X.here hx rfl hd rfl h
theorem g_lshl (X : Stand p l e R s m args below meth c T locs cells slots) (hx : p.tables.exec = Jvm.exec) {x : Int64} {y : Int32} (hd : decode c.code pc = .ok (.lshl, 1)) (pc' : Nat) (hp : pc + 1 = pc') (G : Go p e below P T (mkF m pc' Ls (.long (x <<< (y &&& 0x3f).toInt64) :: st))) : Go p e below P T (mkF m pc Ls (.int y :: .long x :: st)) := by
  subst hp
  exact G.stp fun _ h => XS.lshl X.here hx rfl hd rfl h
theorem g_lshr (X : Stand p l e R s m args below meth c T locs cells slots) (hx : p.tables.exec = Jvm.exec) {x : Int64} {y : Int32} (hd : decode c.code pc = .ok (.lshr, 1)) (pc' : Nat) (hp : pc + 1 = pc') (G : Go p e below P T (mkF m pc' Ls (.long (x >>> (y &&& 0x3f).toInt64) :: st))) : Go p e below P T (mkF m pc Ls (.int y :: .long x :: st)) := by
  subst hp
  exact G.stp fun _ h => XS.lshr X.here hx rfl hd rfl h
theorem g_lushr (X : Stand p l e R s m args below meth c T locs cells slots) (hx : p.tables.exec = Jvm.exec) {x : Int64} {y : Int32} (hd : decode c.code pc = .ok (.lushr, 1)) (pc' : Nat) (hp : pc + 1 = pc') (G : Go p e below P T (mkF m pc' Ls (.long (XT.ushrL x y) :: st))) : Go p e below P T (mkF m pc Ls (.int y :: .long x :: st)) := by
  subst hp
  exact G.stp fun _ h => XT.lushr X.here hx rfl hd rfl h
theorem g_ineg (X : Stand p l e R s m args below meth c T locs cells slots) (hx : p.tables.exec = Jvm.exec) {x : Int32} (hd : decode c.code pc = .ok (.ineg, 1)) (pc' : Nat) (hp : pc + 1 = pc') (G : Go p e below P T (mkF m pc' Ls (.int (-x) :: st))) : Go p e below P T (mkF m pc Ls (.int x :: st)) := by
  subst hp
  exact G.stp fun _ h => XS.ineg X.here hx rfl hd rfl h
theorem g_i2l (X : Stand p l e R s m args below meth c T locs cells slots) (hx : p.tables.exec = Jvm.exec) {x : Int32} (hd : decode c.code pc = .ok (.i2l, 1)) (pc' : Nat) (hp : pc + 1 = pc') (G : Go p e below P T (mkF m pc' Ls (.long x.toInt64 :: st))) : Go p e below P T (mkF m pc Ls (.int x :: st)) := by
  subst hp
  exact G.stp fun _ h => XT.i2l X.here hx rfl hd rfl h
theorem g_l2i (X : Stand p l e R s m args below meth c T locs cells slots) (hx : p.tables.exec = Jvm.exec) {x : Int64} (hd : decode c.code pc = .ok (.l2i, 1)) (pc' : Nat) (hp : pc + 1 = pc') (G : Go p e below P T (mkF m pc' Ls (.int x.toInt32 :: st))) : Go p e below P T (mkF m pc Ls (.long x :: st)) := by
  subst hp
  exact G.stp fun _ h => XT.l2i X.here hx rfl hd rfl h
theorem g_i2b (X : Stand p l e R s m args below meth c T locs cells slots) (hx : p.tables.exec = Jvm.exec) {x : Int32} (hd : decode c.code pc = .ok (.i2b, 1)) (pc' : Nat) (hp : pc + 1 = pc') (G : Go p e below P T (mkF m pc' Ls (.int x.toInt8.toInt32 :: st))) : Go p e below P T (mkF m pc Ls (.int x :: st)) := by
  subst hp
  exact G.stp fun _ h => XT.i2b X.here hx rfl hd rfl h
theorem g_i2s (X : Stand p l e R s m args below meth c T locs cells slots) (hx : p.tables.exec = Jvm.exec) {x : Int32} (hd : decode c.code pc = .ok (.i2s, 1)) (pc' : Nat) (hp : pc + 1 = pc') (G : Go p e below P T (mkF m pc' Ls (.int x.toInt16.toInt32 :: st))) : Go p e below P T (mkF m pc Ls (.int x :: st)) := by
  subst hp
  exact G.stp fun _ h => XT.i2s X.here hx rfl hd rfl h
theorem g_i2c (X : Stand p l e R s m args below meth c T locs cells slots) (hx : p.tables.exec = Jvm.exec) {x : Int32} (hd : decode c.code pc = .ok (.i2c, 1)) (pc' : Nat) (hp : pc + 1 = pc') (G : Go p e below P T (mkF m pc' Ls (.int x.toUInt32.toUInt16.toUInt32.toInt32 :: st))) : Go p e below P T (mkF m pc Ls (.int x :: st)) := by
  subst hp
  exact G.stp fun _ h => XT.i2c X.here hx rfl hd rfl h
theorem g_pop (X : Stand p l e R s m args below meth c T locs cells slots) (hx : p.tables.exec = Jvm.exec) {x : Value} (hc : x.category = 1) (hd : decode c.code pc = .ok (.pop, 1)) (pc' : Nat) (hp : pc + 1 = pc') (G : Go p e below P T (mkF m pc' Ls st)) : Go p e below P T (mkF m pc Ls (x :: st)) := by
  subst hp
  exact G.stp fun _ h => XT.pop X.here hx rfl hd rfl hc h
theorem g_dup (X : Stand p l e R s m args below meth c T locs cells slots) (hx : p.tables.exec = Jvm.exec) {x : Value} (hc : x.category = 1) (hd : decode c.code pc = .ok (.dup, 1)) (pc' : Nat) (hp : pc + 1 = pc') (G : Go p e below P T (mkF m pc' Ls (x :: x :: st))) : Go p e below P T (mkF m pc Ls (x :: st)) := by
  subst hp
  exact G.stp fun _ h => XS.dup X.here hx rfl hd rfl hc h
theorem g_dup_x1 (X : Stand p l e R s m args below meth c T locs cells slots) (hx : p.tables.exec = Jvm.exec) {x y : Value} (hc : x.category = 1) (hc' : y.category = 1) (hd : decode c.code pc = .ok (.dup_x1, 1)) (pc' : Nat) (hp : pc + 1 = pc') (G : Go p e below P T (mkF m pc' Ls (x :: y :: x :: st))) : Go p e below P T (mkF m pc Ls (x :: y :: st)) := by
  subst hp
  exact G.stp fun _ h => XT.dupX1 X.here hx rfl hd rfl hc hc' h
theorem g_dup2 (X : Stand p l e R s m args below meth c T locs cells slots) (hx : p.tables.exec = Jvm.exec) {x y : Value} (hc : x.category = 1) (hc' : y.category = 1) (hd : decode c.code pc = .ok (.dup2, 1)) (pc' : Nat) (hp : pc + 1 = pc') (G : Go p e below P T (mkF m pc' Ls (x :: y :: x :: y :: st))) : Go p e below P T (mkF m pc Ls (x :: y :: st)) := by
  subst hp
  exact G.stp fun _ h => XT.dup2 X.here hx rfl hd rfl hc hc' h
theorem g_iinc (X : Stand p l e R s m args below meth c T locs cells slots) (hx : p.tables.exec = Jvm.exec) {k : Nat} {cst : Int} {x : Int32} (v : Int32) (hv : Int32.ofInt cst = v) (hl : Ls[k]? = some (.val (.int x))) (l' : Array Slot) (hl' : storeLocals Ls k (.int (x + v)) = some l') (hd : decode c.code pc = .ok (.iinc k cst, 3)) (pc' : Nat) (hp : pc + 3 = pc') (G : Go p e below P T (mkF m pc' l' st)) : Go p e below P T (mkF m pc Ls st) := by
  subst hp
  exact G.stp fun _ h => XT.iincV X.here hx rfl v hd hv hl hl' h
theorem g_goto (X : Stand p l e R s m args below meth c T locs cells slots) (hx : p.tables.exec = Jvm.exec) {o : Int} (hd : decode c.code pc = .ok (.goto o, 3)) (pc' : Nat) (ho : 0 ≤ (pc : Int) + o) (hp : ((pc : Int) + o).toNat = pc') (G : Go p e below P T (mkF m pc' Ls st)) : Go p e below P T (mkF m pc Ls st) := by
  exact G.stp fun _ h => XS.goto X.here hx rfl rfl hd ho hp h
theorem g_icmp_eq (X : Stand p l e R s m args below meth c T locs cells slots) (hx : p.tables.exec = Jvm.exec) {x y : Int32} {o : Int} (hd : decode c.code pc = .ok (.if_icmp .eq o, 3)) (pcT pcF : Nat) (ho : 0 ≤ (pc : Int) + o) (hT : ((pc : Int) + o).toNat = pcT) (hF : pc + 3 = pcF) (G1 : x = y → Go p e below P T (mkF m pcT Ls st)) (G2 : ¬ x = y → Go p e below P T (mkF m pcF Ls st)) : Go p e below P T (mkF m pc Ls (.int y :: .int x :: st)) := by
  by_cases q : x = y
  · exact (G1 q).stp fun _ h => XS.icmpYes X.here hx rfl rfl hd rfl (XT.ii_eq_t q) ho hT h
  · subst hF
    exact (G2 q).stp fun _ h => XS.icmpNo X.here hx rfl hd rfl (XT.ii_eq_f q) h
theorem g_if_eq (X : Stand p l e R s m args below meth c T locs cells slots) (hx : p.tables.exec = Jvm.exec) {x : Int32} {o : Int} (hd : decode c.code pc = .ok (.ifCond .eq o, 3)) (pcT pcF : Nat) (ho : 0 ≤ (pc : Int) + o) (hT : ((pc : Int) + o).toNat = pcT) (hF : pc + 3 = pcF) (G1 : x = 0 → Go p e below P T (mkF m pcT Ls st)) (G2 : ¬ x = 0 → Go p e below P T (mkF m pcF Ls st)) : Go p e below P T (mkF m pc Ls (.int x :: st)) := by
  by_cases q : x = 0
  · exact (G1 q).stp fun _ h => XS.ifYes X.here hx rfl rfl hd rfl (XT.i0_eq_t q) ho hT h
  · subst hF
    exact (G2 q).stp fun _ h => XS.ifNo X.here hx rfl hd rfl (XT.i0_eq_f q) h
theorem g_lif_eq (X : Stand p l e R s m args below meth c T locs cells slots) (hx : p.tables.exec = Jvm.exec) {x y : Int64} {o : Int} (hd0 : decode c.code pc = .ok (.lcmp, 1)) (pc1 : Nat) (hp1 : pc + 1 = pc1) (hd : decode c.code pc1 = .ok (.ifCond .eq o, 3)) (pcT pcF : Nat) (ho : 0 ≤ (pc1 : Int) + o) (hT : ((pc1 : Int) + o).toNat = pcT) (hF : pc1 + 3 = pcF) (G1 : x = y → Go p e below P T (mkF m pcT Ls st)) (G2 : ¬ x = y → Go p e below P T (mkF m pcF Ls st)) : Go p e below P T (mkF m pc Ls (.long y :: .long x :: st)) := by
  subst hp1
  by_cases q : x = y
  · exact (G1 q).stp fun _ h => XT.lcmp X.here hx rfl hd0 rfl (XS.ifYes X.here hx rfl rfl hd rfl (XT.ll_eq_t q) ho hT h)
  · subst hF
    exact (G2 q).stp fun _ h => XT.lcmp X.here hx rfl hd0 rfl (XS.ifNo X.here hx rfl hd rfl (XT.ll_eq_f q) h)
theorem g_icmp_ne (X : Stand p l e R s m args below meth c T locs cells slots) (hx : p.tables.exec = Jvm.exec) {x y : Int32} {o : Int} (hd : decode c.code pc = .ok (.if_icmp .ne o, 3)) (pcT pcF : Nat) (ho : 0 ≤ (pc : Int) + o) (hT : ((pc : Int) + o).toNat = pcT) (hF : pc + 3 = pcF) (G1 : ¬ x = y → Go p e below P T (mkF m pcT Ls st)) (G2 : x = y → Go p e below P T (mkF m pcF Ls st)) : Go p e below P T (mkF m pc Ls (.int y :: .int x :: st)) := by
  by_cases q : ¬ x = y
  · exact (G1 q).stp fun _ h => XS.icmpYes X.here hx rfl rfl hd rfl (XT.ii_ne_t q) ho hT h
  · subst hF
    exact (G2 (Classical.not_not.mp q)).stp fun _ h => XS.icmpNo X.here hx rfl hd rfl (XT.ii_ne_f (Classical.not_not.mp q)) h
theorem g_if_ne (X : Stand p l e R s m args below meth c T locs cells slots) (hx : p.tables.exec = Jvm.exec) {x : Int32} {o : Int} (hd : decode c.code pc = .ok (.ifCond .ne o, 3)) (pcT pcF : Nat) (ho : 0 ≤ (pc : Int) + o) (hT : ((pc : Int) + o).toNat = pcT) (hF : pc + 3 = pcF) (G1 : ¬ x = 0 → Go p e below P T (mkF m pcT Ls st)) (G2 : x = 0 → Go p e below P T (mkF m pcF Ls st)) : Go p e below P T (mkF m pc Ls (.int x :: st)) := by
  by_cases q : ¬ x = 0
  · exact (G1 q).stp fun _ h => XS.ifYes X.here hx rfl rfl hd rfl (XT.i0_ne_t q) ho hT h
  · subst hF
    exact (G2 (Classical.not_not.mp q)).stp fun _ h => XS.ifNo X.here hx rfl hd rfl (XT.i0_ne_f (Classical.not_not.mp q)) h
theorem g_lif_ne (X : Stand p l e R s m args below meth c T locs cells slots) (hx : p.tables.exec = Jvm.exec) {x y : Int64} {o : Int} (hd0 : decode c.code pc = .ok (.lcmp, 1)) (pc1 : Nat) (hp1 : pc + 1 = pc1) (hd : decode c.code pc1 = .ok (.ifCond .ne o, 3)) (pcT pcF : Nat) (ho : 0 ≤ (pc1 : Int) + o) (hT : ((pc1 : Int) + o).toNat = pcT) (hF : pc1 + 3 = pcF) (G1 : ¬ x = y → Go p e below P T (mkF m pcT Ls st)) (G2 : x = y → Go p e below P T (mkF m pcF Ls st)) : Go p e below P T (mkF m pc Ls (.long y :: .long x :: st)) := by
  subst hp1
  by_cases q : ¬ x = y
  · exact (G1 q).stp fun _ h => XT.lcmp X.here hx rfl hd0 rfl (XS.ifYes X.here hx rfl rfl hd rfl (XT.ll_ne_t q) ho hT h)
  · subst hF
    exact (G2 (Classical.not_not.mp q)).stp fun _ h => XT.lcmp X.here hx rfl hd0 rfl (XS.ifNo X.here hx rfl hd rfl (XT.ll_ne_f (Classical.not_not.mp q)) h)
theorem g_icmp_lt (X : Stand p l e R s m args below meth c T locs cells slots) (hx : p.tables.exec = Jvm.exec) {x y : Int32} {o : Int} (hd : decode c.code pc = .ok (.if_icmp .lt o, 3)) (pcT pcF : Nat) (ho : 0 ≤ (pc : Int) + o) (hT : ((pc : Int) + o).toNat = pcT) (hF : pc + 3 = pcF) (G1 : x < y → Go p e below P T (mkF m pcT Ls st)) (G2 : ¬ x < y → Go p e below P T (mkF m pcF Ls st)) : Go p e below P T (mkF m pc Ls (.int y :: .int x :: st)) := by
  by_cases q : x < y
  · exact (G1 q).stp fun _ h => XS.icmpYes X.here hx rfl rfl hd rfl (XT.ii_lt_t q) ho hT h
  · subst hF
    exact (G2 q).stp fun _ h => XS.icmpNo X.here hx rfl hd rfl (XT.ii_lt_f q) h
theorem g_if_lt (X : Stand p l e R s m args below meth c T locs cells slots) (hx : p.tables.exec = Jvm.exec) {x : Int32} {o : Int} (hd : decode c.code pc = .ok (.ifCond .lt o, 3)) (pcT pcF : Nat) (ho : 0 ≤ (pc : Int) + o) (hT : ((pc : Int) + o).toNat = pcT) (hF : pc + 3 = pcF) (G1 : x < 0 → Go p e below P T (mkF m pcT Ls st)) (G2 : ¬ x < 0 → Go p e below P T (mkF m pcF Ls st)) : Go p e below P T (mkF m pc Ls (.int x :: st)) := by
  by_cases q : x < 0
  · exact (G1 q).stp fun _ h => XS.ifYes X.here hx rfl rfl hd rfl (XT.i0_lt_t q) ho hT h
  · subst hF
    exact (G2 q).stp fun _ h => XS.ifNo X.here hx rfl hd rfl (XT.i0_lt_f q) h
theorem g_lif_lt (X : Stand p l e R s m args below meth c T locs cells slots) (hx : p.tables.exec = Jvm.exec) {x y : Int64} {o : Int} (hd0 : decode c.code pc = .ok (.lcmp, 1)) (pc1 : Nat) (hp1 : pc + 1 = pc1) (hd : decode c.code pc1 = .ok (.ifCond .lt o, 3)) (pcT pcF : Nat) (ho : 0 ≤ (pc1 : Int) + o) (hT : ((pc1 : Int) + o).toNat = pcT) (hF : pc1 + 3 = pcF) (G1 : x < y → Go p e below P T (mkF m pcT Ls st)) (G2 : ¬ x < y → Go p e below P T (mkF m pcF Ls st)) : Go p e below P T (mkF m pc Ls (.long y :: .long x :: st)) := by
  subst hp1
  by_cases q : x < y
  · exact (G1 q).stp fun _ h => XT.lcmp X.here hx rfl hd0 rfl (XS.ifYes X.here hx rfl rfl hd rfl (XT.ll_lt_t q) ho hT h)
  · subst hF
    exact (G2 q).stp fun _ h => XT.lcmp X.here hx rfl hd0 rfl (XS.ifNo X.here hx rfl hd rfl (XT.ll_lt_f q) h)
theorem g_icmp_ge (X : Stand p l e R s m args below meth c T locs cells slots) (hx : p.tables.exec = Jvm.exec) {x y : Int32} {o : Int} (hd : decode c.code pc = .ok (.if_icmp .ge o, 3)) (pcT pcF : Nat) (ho : 0 ≤ (pc : Int) + o) (hT : ((pc : Int) + o).toNat = pcT) (hF : pc + 3 = pcF) (G1 : ¬ x < y → Go p e below P T (mkF m pcT Ls st)) (G2 : x < y → Go p e below P T (mkF m pcF Ls st)) : Go p e below P T (mkF m pc Ls (.int y :: .int x :: st)) := by
  by_cases q : ¬ x < y
  · exact (G1 q).stp fun _ h => XS.icmpYes X.here hx rfl rfl hd rfl (XT.ii_ge_t q) ho hT h
  · subst hF
    exact (G2 (Classical.not_not.mp q)).stp fun _ h => XS.icmpNo X.here hx rfl hd rfl (XT.ii_ge_f (Classical.not_not.mp q)) h
theorem g_if_ge (X : Stand p l e R s m args below meth c T locs cells slots) (hx : p.tables.exec = Jvm.exec) {x : Int32} {o : Int} (hd : decode c.code pc = .ok (.ifCond .ge o, 3)) (pcT pcF : Nat) (ho : 0 ≤ (pc : Int) + o) (hT : ((pc : Int) + o).toNat = pcT) (hF : pc + 3 = pcF) (G1 : ¬ x < 0 → Go p e below P T (mkF m pcT Ls st)) (G2 : x < 0 → Go p e below P T (mkF m pcF Ls st)) : Go p e below P T (mkF m pc Ls (.int x :: st)) := by
  by_cases q : ¬ x < 0
  · exact (G1 q).stp fun _ h => XS.ifYes X.here hx rfl rfl hd rfl (XT.i0_ge_t q) ho hT h
  · subst hF
    exact (G2 (Classical.not_not.mp q)).stp fun _ h => XS.ifNo X.here hx rfl hd rfl (XT.i0_ge_f (Classical.not_not.mp q)) h
theorem g_lif_ge (X : Stand p l e R s m args below meth c T locs cells slots) (hx : p.tables.exec = Jvm.exec) {x y : Int64} {o : Int} (hd0 : decode c.code pc = .ok (.lcmp, 1)) (pc1 : Nat) (hp1 : pc + 1 = pc1) (hd : decode c.code pc1 = .ok (.ifCond .ge o, 3)) (pcT pcF : Nat) (ho : 0 ≤ (pc1 : Int) + o) (hT : ((pc1 : Int) + o).toNat = pcT) (hF : pc1 + 3 = pcF) (G1 : ¬ x < y → Go p e below P T (mkF m pcT Ls st)) (G2 : x < y → Go p e below P T (mkF m pcF Ls st)) : Go p e below P T (mkF m pc Ls (.long y :: .long x :: st)) := by
  subst hp1
  by_cases q : ¬ x < y
  · exact (G1 q).stp fun _ h => XT.lcmp X.here hx rfl hd0 rfl (XS.ifYes X.here hx rfl rfl hd rfl (XT.ll_ge_t q) ho hT h)
  · subst hF
    exact (G2 (Classical.not_not.mp q)).stp fun _ h => XT.lcmp X.here hx rfl hd0 rfl (XS.ifNo X.here hx rfl hd rfl (XT.ll_ge_f (Classical.not_not.mp q)) h)
theorem g_icmp_gt (X : Stand p l e R s m args below meth c T locs cells slots) (hx : p.tables.exec = Jvm.exec) {x y : Int32} {o : Int} (hd : decode c.code pc = .ok (.if_icmp .gt o, 3)) (pcT pcF : Nat) (ho : 0 ≤ (pc : Int) + o) (hT : ((pc : Int) + o).toNat = pcT) (hF : pc + 3 = pcF) (G1 : y < x → Go p e below P T (mkF m pcT Ls st)) (G2 : ¬ y < x → Go p e below P T (mkF m pcF Ls st)) : Go p e below P T (mkF m pc Ls (.int y :: .int x :: st)) := by
  by_cases q : y < x
  · exact (G1 q).stp fun _ h => XS.icmpYes X.here hx rfl rfl hd rfl (XT.ii_gt_t q) ho hT h
  · subst hF
    exact (G2 q).stp fun _ h => XS.icmpNo X.here hx rfl hd rfl (XT.ii_gt_f q) h
theorem g_if_gt (X : Stand p l e R s m args below meth c T locs cells slots) (hx : p.tables.exec = Jvm.exec) {x : Int32} {o : Int} (hd : decode c.code pc = .ok (.ifCond .gt o, 3)) (pcT pcF : Nat) (ho : 0 ≤ (pc : Int) + o) (hT : ((pc : Int) + o).toNat = pcT) (hF : pc + 3 = pcF) (G1 : 0 < x → Go p e below P T (mkF m pcT Ls st)) (G2 : ¬ 0 < x → Go p e below P T (mkF m pcF Ls st)) : Go p e below P T (mkF m pc Ls (.int x :: st)) := by
  by_cases q : 0 < x
  · exact (G1 q).stp fun _ h => XS.ifYes X.here hx rfl rfl hd rfl (XT.i0_gt_t q) ho hT h
  · subst hF
    exact (G2 q).stp fun _ h => XS.ifNo X.here hx rfl hd rfl (XT.i0_gt_f q) h
theorem g_lif_gt (X : Stand p l e R s m args below meth c T locs cells slots) (hx : p.tables.exec = Jvm.exec) {x y : Int64} {o : Int} (hd0 : decode c.code pc = .ok (.lcmp, 1)) (pc1 : Nat) (hp1 : pc + 1 = pc1) (hd : decode c.code pc1 = .ok (.ifCond .gt o, 3)) (pcT pcF : Nat) (ho : 0 ≤ (pc1 : Int) + o) (hT : ((pc1 : Int) + o).toNat = pcT) (hF : pc1 + 3 = pcF) (G1 : y < x → Go p e below P T (mkF m pcT Ls st)) (G2 : ¬ y < x → Go p e below P T (mkF m pcF Ls st)) : Go p e below P T (mkF m pc Ls (.long y :: .long x :: st)) := by
  subst hp1
  by_cases q : y < x
  · exact (G1 q).stp fun _ h => XT.lcmp X.here hx rfl hd0 rfl (XS.ifYes X.here hx rfl rfl hd rfl (XT.ll_gt_t q) ho hT h)
  · subst hF
    exact (G2 q).stp fun _ h => XT.lcmp X.here hx rfl hd0 rfl (XS.ifNo X.here hx rfl hd rfl (XT.ll_gt_f q) h)
theorem g_icmp_le (X : Stand p l e R s m args below meth c T locs cells slots) (hx : p.tables.exec = Jvm.exec) {x y : Int32} {o : Int} (hd : decode c.code pc = .ok (.if_icmp .le o, 3)) (pcT pcF : Nat) (ho : 0 ≤ (pc : Int) + o) (hT : ((pc : Int) + o).toNat = pcT) (hF : pc + 3 = pcF) (G1 : ¬ y < x → Go p e below P T (mkF m pcT Ls st)) (G2 : y < x → Go p e below P T (mkF m pcF Ls st)) : Go p e below P T (mkF m pc Ls (.int y :: .int x :: st)) := by
  by_cases q : ¬ y < x
  · exact (G1 q).stp fun _ h => XS.icmpYes X.here hx rfl rfl hd rfl (XT.ii_le_t q) ho hT h
  · subst hF
    exact (G2 (Classical.not_not.mp q)).stp fun _ h => XS.icmpNo X.here hx rfl hd rfl (XT.ii_le_f (Classical.not_not.mp q)) h
theorem g_if_le (X : Stand p l e R s m args below meth c T locs cells slots) (hx : p.tables.exec = Jvm.exec) {x : Int32} {o : Int} (hd : decode c.code pc = .ok (.ifCond .le o, 3)) (pcT pcF : Nat) (ho : 0 ≤ (pc : Int) + o) (hT : ((pc : Int) + o).toNat = pcT) (hF : pc + 3 = pcF) (G1 : ¬ 0 < x → Go p e below P T (mkF m pcT Ls st)) (G2 : 0 < x → Go p e below P T (mkF m pcF Ls st)) : Go p e below P T (mkF m pc Ls (.int x :: st)) := by
  by_cases q : ¬ 0 < x
  · exact (G1 q).stp fun _ h => XS.ifYes X.here hx rfl rfl hd rfl (XT.i0_le_t q) ho hT h
  · subst hF
    exact (G2 (Classical.not_not.mp q)).stp fun _ h => XS.ifNo X.here hx rfl hd rfl (XT.i0_le_f (Classical.not_not.mp q)) h
theorem g_lif_le (X : Stand p l e R s m args below meth c T locs cells slots) (hx : p.tables.exec = Jvm.exec) {x y : Int64} {o : Int} (hd0 : decode c.code pc = .ok (.lcmp, 1)) (pc1 : Nat) (hp1 : pc + 1 = pc1) (hd : decode c.code pc1 = .ok (.ifCond .le o, 3)) (pcT pcF : Nat) (ho : 0 ≤ (pc1 : Int) + o) (hT : ((pc1 : Int) + o).toNat = pcT) (hF : pc1 + 3 = pcF) (G1 : ¬ y < x → Go p e below P T (mkF m pcT Ls st)) (G2 : y < x → Go p e below P T (mkF m pcF Ls st)) : Go p e below P T (mkF m pc Ls (.long y :: .long x :: st)) := by
  subst hp1
  by_cases q : ¬ y < x
  · exact (G1 q).stp fun _ h => XT.lcmp X.here hx rfl hd0 rfl (XS.ifYes X.here hx rfl rfl hd rfl (XT.ll_le_t q) ho hT h)
  · subst hF
    exact (G2 (Classical.not_not.mp q)).stp fun _ h => XT.lcmp X.here hx rfl hd0 rfl (XS.ifNo X.here hx rfl hd rfl (XT.ll_le_f (Classical.not_not.mp q)) h)
theorem g_acmp_eq (X : Stand p l e R s m args below meth c T locs cells slots) (hx : p.tables.exec = Jvm.exec) {x y : Value} (hx' : x.isRef = true) (hy' : y.isRef = true) {o : Int} (hd : decode c.code pc = .ok (.if_acmp .eq o, 3)) (pcT pcF : Nat) (ho : 0 ≤ (pc : Int) + o) (hT : ((pc : Int) + o).toNat = pcT) (hF : pc + 3 = pcF) (G1 : x = y → Go p e below P T (mkF m pcT Ls st)) (G2 : ¬ x = y → Go p e below P T (mkF m pcF Ls st)) : Go p e below P T (mkF m pc Ls (y :: x :: st)) := by
  by_cases q : x = y
  · exact (G1 q).stp fun _ h => XT.acmpYes X.here hx rfl rfl hd rfl hx' hy' (XT.aa_eq_t q) ho hT h
  · subst hF
    exact (G2 q).stp fun _ h => XT.acmpNo X.here hx rfl hd rfl hx' hy' (XT.aa_eq_f q) h
theorem g_acmp_ne (X : Stand p l e R s m args below meth c T locs cells slots) (hx : p.tables.exec = Jvm.exec) {x y : Value} (hx' : x.isRef = true) (hy' : y.isRef = true) {o : Int} (hd : decode c.code pc = .ok (.if_acmp .ne o, 3)) (pcT pcF : Nat) (ho : 0 ≤ (pc : Int) + o) (hT : ((pc : Int) + o).toNat = pcT) (hF : pc + 3 = pcF) (G1 : ¬ x = y → Go p e below P T (mkF m pcT Ls st)) (G2 : x = y → Go p e below P T (mkF m pcF Ls st)) : Go p e below P T (mkF m pc Ls (y :: x :: st)) := by
  by_cases q : ¬ x = y
  · exact (G1 q).stp fun _ h => XT.acmpYes X.here hx rfl rfl hd rfl hx' hy' (XT.aa_ne_t q) ho hT h
  · subst hF
    exact (G2 (Classical.not_not.mp q)).stp fun _ h => XT.acmpNo X.here hx rfl hd rfl hx' hy' (XT.aa_ne_f (Classical.not_not.mp q)) h
theorem g_ifnull (X : Stand p l e R s m args below meth c T locs cells slots) (hx : p.tables.exec = Jvm.exec) {x : Value} (hx' : x.isRef = true) {o : Int} (hd : decode c.code pc = .ok (.ifnull o, 3)) (pcT pcF : Nat) (ho : 0 ≤ (pc : Int) + o) (hT : ((pc : Int) + o).toNat = pcT) (hF : pc + 3 = pcF) (G1 : x = .null → Go p e below P T (mkF m pcT Ls st)) (G2 : ¬ x = .null → Go p e below P T (mkF m pcF Ls st)) : Go p e below P T (mkF m pc Ls (x :: st)) := by
  by_cases q : x = .null
  · exact (G1 q).stp fun _ h => XT.nullYes X.here hx rfl rfl hd rfl q ho hT h
  · subst hF
    exact (G2 q).stp fun _ h => XT.nullNo X.here hx rfl hd rfl hx' q h
theorem g_ifnonnull (X : Stand p l e R s m args below meth c T locs cells slots) (hx : p.tables.exec = Jvm.exec) {x : Value} (hx' : x.isRef = true) {o : Int} (hd : decode c.code pc = .ok (.ifnonnull o, 3)) (pcT pcF : Nat) (ho : 0 ≤ (pc : Int) + o) (hT : ((pc : Int) + o).toNat = pcT) (hF : pc + 3 = pcF) (G1 : ¬ x = .null → Go p e below P T (mkF m pcT Ls st)) (G2 : x = .null → Go p e below P T (mkF m pcF Ls st)) : Go p e below P T (mkF m pc Ls (x :: st)) := by
  by_cases q : x = .null
  · subst hF
    exact (G2 q).stp fun _ h => XT.nonnullNo X.here hx rfl hd rfl q h
  · exact (G1 q).stp fun _ h => XT.nonnullYes X.here hx rfl rfl hd rfl hx' q ho hT h
theorem g_ldc (X : Stand p l e R s m args below meth c T locs cells slots) (hx : p.tables.exec = Jvm.exec) (hZ : Z.Warmed39 s.vm) {own : String} (hown : s.vm.findClass own = some m.cls) {i : Nat} {v : Int32} (w : (Cond.constant own i v).before a0 Z = true) (hd : decode c.code pc = .ok (.ldc i, 2)) (pc' : Nat) (hp : pc + 2 = pc') (G : Go p e below P T (mkF m pc' Ls (.int v :: st))) : Go p e below P T (mkF m pc Ls st) := by
  subst hp
  exact G.stp fun _ h => Jvm.Stand.ldcI X hx hown (mv hZ w) rfl hd h
theorem g_ldc_w (X : Stand p l e R s m args below meth c T locs cells slots) (hx : p.tables.exec = Jvm.exec) (hZ : Z.Warmed39 s.vm) {own : String} (hown : s.vm.findClass own = some m.cls) {i : Nat} {v : Int32} (w : (Cond.constant own i v).before a0 Z = true) (hd : decode c.code pc = .ok (.ldc_w i, 3)) (pc' : Nat) (hp : pc + 3 = pc') (G : Go p e below P T (mkF m pc' Ls (.int v :: st))) : Go p e below P T (mkF m pc Ls st) := by
  subst hp
  exact G.stp fun _ h => Jvm.Stand.ldcWI X hx hown (mv hZ w) rfl hd h
theorem g_ldc2_w (X : Stand p l e R s m args below meth c T locs cells slots) (hx : p.tables.exec = Jvm.exec) (hZ : Z.Warmed39 s.vm) {own : String} (hown : s.vm.findClass own = some m.cls) {i : Nat} {v : Int64} (w : (Cond.constantLong own i v).before a0 Z = true) (hd : decode c.code pc = .ok (.ldc2_w i, 3)) (pc' : Nat) (hp : pc + 3 = pc') (G : Go p e below P T (mkF m pc' Ls (.long v :: st))) : Go p e below P T (mkF m pc Ls st) := by
  subst hp
  exact G.stp fun _ h => Jvm.Stand.ldc2J X hx hown (mv hZ w) rfl hd h
theorem g_getfield (X : Stand p l e R s m args below meth c T locs cells slots) (hx : p.tables.exec = Jvm.exec) (hZ : Z.Warmed39 s.vm) {own : String} (hown : s.vm.findClass own = some m.cls) {R0 O n d host : String} {i : Nat} (w : (Cond.fieldLink own i R0 n d).before a0 Z = true ∨ (Cond.fieldLinkNest own i R0 n d host).before a0 Z = true) (via : Via Z R0 O n d) {a : Addr} {v : Value} (F : Fld Z h a O n d v) (eT : T.heap = h) (hd : decode c.code pc = .ok (.getfield i, 3)) (pc' : Nat) (hp : pc + 3 = pc') (G : ∀ T', Stand p l e R s m args below meth c T' locs cells slots → T'.heap = h → Go p e below P T' (mkF m pc' Ls (v :: st))) : Go p e below P T (mkF m pc Ls (.ref a :: st)) := by
  subst hp
  obtain ⟨T', X', e', k⟩ := getF X hx hZ hown w via eT F (g := mkF m pc Ls (.ref a :: st)) rfl rfl hd
  exact (G T' X' e').stp k
theorem g_getstatic (X : Stand p l e R s m args below meth c T locs cells slots) (hx : p.tables.exec = Jvm.exec) (hZ : Z.Warmed39 s.vm) {own : String} (hown : s.vm.findClass own = some m.cls) {R0 O n d host : String} {i : Nat} (w : (Cond.fieldLink own i R0 n d).before a0 Z = true ∨ (Cond.fieldLinkNest own i R0 n d host).before a0 Z = true) (via : Via Z R0 O n d) {v : Value} (F : Sta Z h O n d v) (eT : T.heap = h) (hd : decode c.code pc = .ok (.getstatic i, 3)) (pc' : Nat) (hp : pc + 3 = pc') (G : ∀ T', Stand p l e R s m args below meth c T' locs cells slots → T'.heap = h → Go p e below P T' (mkF m pc' Ls (v :: st))) : Go p e below P T (mkF m pc Ls st) := by
  subst hp
  obtain ⟨T', X', e', k⟩ := getS2 X hx hZ hown w via eT F (g := mkF m pc Ls st) rfl hd
  exact (G T' X' e').stp k
theorem g_putfield (X : Stand p l e R s m args below meth c T locs cells slots) (hx : p.tables.exec = Jvm.exec) (hZ : Z.Warmed39 s.vm) {own : String} (hown : s.vm.findClass own = some m.cls) {R0 O n d host C : String} {i kk : Nat} {ty : FieldType} (w : (Cond.fieldLink own i R0 n d).before a0 Z = true ∨ (Cond.fieldLinkNest own i R0 n d host).before a0 Z = true) (via : Via Z R0 O n d) (eT : T.heap = h) {a : Addr} {v old : Value} (F : Fld Z h a O n d old) (E : Exa Z h a C) (L : (Cond.lays C O n d).before a0 Z = true ∨ ((Cond.laysFinal C O n d).before a0 Z = true ∧ own = O ∧ meth.name = "<init>")) (wi : (Cond.instantiable C kk).before a0 Z = true) (hty : parseFieldDescriptor d = some ty) (hn : narrow ty v = v) (hf : fits ty v = true) (hd : decode c.code pc = .ok (.putfield i, 3)) (pc' : Nat) (hp : pc + 3 = pc') (G : ∀ T' h', Stand p l e R s m args below meth c T' (locs ++ [⟨a, Jvm.RoadKit.slotOf Z O n d⟩]) cells slots → T'.heap = h' → Wr h h' a (Jvm.RoadKit.slotOf Z O n d) v → Go p e below P T' (mkF m pc' Ls st)) : Go p e below P T (mkF m pc Ls (v :: .ref a :: st)) := by
  subst hp
  obtain ⟨T', h', X', e', W, k⟩ := putF X hx hZ hown w via eT F E L wi hty hn hf (g := mkF m pc Ls (v :: .ref a :: st)) rfl rfl hd
  exact (G T' h' X' e' W).stp k
theorem g_initO (X : Stand p l e R s m args below meth c T locs cells slots) (hx : p.tables.exec = Jvm.exec) (hZ : Z.Warmed39 s.vm) {own : String} (hown : s.vm.findClass own = some m.cls) {i : Nat} (w1 : (Cond.methodLink own i Lib.objectInit).before a0 Z = true) (w2 : (Cond.instanceMethod Lib.objectInit).before a0 Z = true) (w3 : (Cond.code Lib.objectInit ⟨#[0xb1]⟩ 1 none).before a0 Z = true) (eT : T.heap = h) (hsz : Ls.size = c.maxLocals) {a : Addr} (hd : decode c.code pc = .ok (.invokespecial i, 3)) (hf : 1 ≤ R.frames) (W : Nat) (hW : (st.map fun v => v.category).sum ≤ W) (hl : W + 12 ≤ R.locals) (pc' : Nat) (hp : pc + 3 = pc') (G : ∀ T', Stand p l e R s m args below meth c T' locs cells slots → T'.heap = h → Go p e below P T' (mkF m pc' Ls st)) : Go p e below P T (mkF m pc Ls (.ref a :: st)) := by
  subst hp
  obtain ⟨T', X', e', k⟩ := initO X hx hZ hown w1 w2 w3 eT (g := mkF m pc Ls (.ref a :: st)) rfl hsz rfl hd hf (W := W) (by show 2 * 0 + _ ≤ W; omega) hl
  exact (G T' X' e').stp k
theorem g_new (X : Stand p l e R s m args below meth c T locs cells slots) (hx : p.tables.exec = Jvm.exec) (hZ : Z.Warmed39 s.vm) {own : String} (hown : s.vm.findClass own = some m.cls) {C : String} {i n : Nat} (w : (Cond.classLink own i C).before a0 Z = true) (wi : (Cond.instantiable C n).before a0 Z = true) (wz : (Cond.initialized C).before a0 Z = true) (eT : T.heap = h) (hd : decode c.code pc = .ok (.new i, 3)) (hc : cells + 1 ≤ R.cells) (hl : slots + n ≤ R.slots) (pc' : Nat) (hp : pc + 3 = pc') (G : ∀ T' h' b, Stand p l e R s m args below meth c T' locs (cells + 1) (slots + n) → T'.heap = h' → b = h.size → Ext h h' → Exa Z h' b C → (∀ {O nm d : String} {ty : FieldType}, Laid Z a0 C O nm d → parseFieldDescriptor d = some ty → Fld Z h' b O nm d (defaultValue ty)) → Go p e below P T' (mkF m pc' Ls (.ref b :: st))) : Go p e below P T (mkF m pc Ls st) := by
  subst hp
  obtain ⟨T', h', X', e', E, A, D, -, k⟩ := newO X hx hZ hown w wi wz eT (g := mkF m pc Ls st) rfl hd hc hl
  exact (G T' h' h.size X' e' rfl E A D).stp k
/-- the array at a: of that kind, holding just these values -/
def AV (Z : State) (h : Heap) (a : Addr) (ty : FieldType) (vs : List Value) : Prop := ∃ c : Cell, Arr Z h a c ty ∧ c.slots = vs.toArray ∧ vs.length < 2 ^ 31
theorem AV.lt {a : Addr} {ty : FieldType} {vs : List Value} (F : AV Z h a ty vs) : a < h.size := by obtain ⟨c, A, -⟩ := F; exact A.lt
theorem AV.ext {h' : Heap} {a : Addr} {ty : FieldType} {vs : List Value} (F : AV Z h a ty vs) (E : Ext h h') : AV Z h' a ty vs := by obtain ⟨c, A, r⟩ := F; exact ⟨c, A.ext E, r⟩
theorem AV.other {h' : Heap} {a b : Addr} {sl : Nat} {v : Value} {ty : FieldType} {vs : List Value} (F : AV Z h b ty vs) (W : Wr h h' a sl v) (q : b ≠ a) : AV Z h' b ty vs := by obtain ⟨c, A, r⟩ := F; exact ⟨c, A.other W q, r⟩
theorem AV.keep {h' : Heap} {a : Addr} {ws : List Addr} {ty : FieldType} {vs : List Value} (F : AV Z h a ty vs) (K : Keep h h' ws) (q : a ∉ ws) : AV Z h' a ty vs := by obtain ⟨c, A, r⟩ := F; exact ⟨c, ⟨K.2.1 a c A.1 q, A.2⟩, r⟩
theorem AV.same {h' : Heap} {a : Addr} {sl : Nat} {v : Value} {ty : FieldType} {vs : List Value} (F : AV Z h a ty vs) (W : Wr h h' a sl v) : AV Z h' a ty (vs.set sl v) := by
  obtain ⟨c, A, r1, r2⟩ := F
  exact ⟨_, A.same W, by simp [Cell.setSlot, r1], by simpa using r2⟩
theorem AV.new {a : Addr} {k : ClassId} {ty : FieldType} {n : Int32} (A : Arr Z h a (newA k ty n) ty) (vs : List Value) (q : vs = List.replicate n.toNatClampNeg (defaultValue ty)) (q2 : n.toNatClampNeg < 2 ^ 31) : AV Z h a ty vs := ⟨_, A, by subst q; simp [newA], by subst q; simpa using q2⟩
theorem AV.nostat {a : Addr} {ty : FieldType} {vs : List Value} (F : AV Z h a ty vs) : ∀ cell : Cell, h[a]? = some cell → cell.vm.isStatics = false := by obtain ⟨c, A, -⟩ := F; exact A.nostat
theorem in_of {vs : List Value} {c : Cell} {j : Int32} {v : Value} (r : c.slots = vs.toArray) (hj : ¬ j < 0) (hv : vs[j.toNatClampNeg]? = some v) : ¬ (j < 0 ∨ c.slots.size ≤ j.toNatClampNeg) := by
  have q := (List.getElem?_eq_some_iff.mp hv).1
  intro u
  rcases u with u | u
  · exact hj u
  · rw [r] at u; simp at u; omega
theorem g_iaload (X : Stand p l e R s m args below meth c T locs cells slots) (hx : p.tables.exec = Jvm.exec) (hZ : Z.Warmed39 s.vm) (eT : T.heap = h) {a : Addr} {vs : List Value} {j : Int32} {v : Value} (A : AV Z h a .int vs) (hj : ¬ j < 0) (hv : vs[j.toNatClampNeg]? = some v) (hd : decode c.code pc = .ok (.iaload, 1)) (pc' : Nat) (hp : pc + 1 = pc') (G : Go p e below P T (mkF m pc' Ls (v :: st))) : Go p e below P T (mkF m pc Ls (.int j :: .ref a :: st)) := by
  subst hp
  obtain ⟨cl, A, r1, r2⟩ := A
  exact G.stp fun _ k => X.iaload hx (j := j) (v := v) (by rw [eT]; exact A.1) (State.isArrayOf_alike hZ.alike A.2.1) A.2.2 (in_of r1 hj hv) (by rw [r1]; simpa using hv) (g := mkF m pc Ls (.int j :: .ref a :: st)) rfl rfl hd _ k
theorem g_caload (X : Stand p l e R s m args below meth c T locs cells slots) (hx : p.tables.exec = Jvm.exec) (hZ : Z.Warmed39 s.vm) (eT : T.heap = h) {a : Addr} {vs : List Value} {j : Int32} {v : Value} (A : AV Z h a .char vs) (hj : ¬ j < 0) (hv : vs[j.toNatClampNeg]? = some v) (hd : decode c.code pc = .ok (.caload, 1)) (pc' : Nat) (hp : pc + 1 = pc') (G : Go p e below P T (mkF m pc' Ls (v :: st))) : Go p e below P T (mkF m pc Ls (.int j :: .ref a :: st)) := by
  subst hp
  obtain ⟨cl, A, r1, r2⟩ := A
  exact G.stp fun _ k => X.caload hx (j := j) (v := v) (by rw [eT]; exact A.1) (State.isArrayOf_alike hZ.alike A.2.1) A.2.2 (in_of r1 hj hv) (by rw [r1]; simpa using hv) (g := mkF m pc Ls (.int j :: .ref a :: st)) rfl rfl hd _ k
theorem g_baload (X : Stand p l e R s m args below meth c T locs cells slots) (hx : p.tables.exec = Jvm.exec) (hZ : Z.Warmed39 s.vm) (eT : T.heap = h) {a : Addr} {vs : List Value} {j : Int32} {v : Value} (A : AV Z h a .byte vs) (hj : ¬ j < 0) (hv : vs[j.toNatClampNeg]? = some v) (hd : decode c.code pc = .ok (.baload, 1)) (pc' : Nat) (hp : pc + 1 = pc') (G : Go p e below P T (mkF m pc' Ls (v :: st))) : Go p e below P T (mkF m pc Ls (.int j :: .ref a :: st)) := by
  subst hp
  obtain ⟨cl, A, r1, r2⟩ := A
  exact G.stp fun _ k => X.baloadBytes hx (j := j) (v := v) (by rw [eT]; exact A.1) (State.isArrayOf_alike hZ.alike A.2.1) A.2.2 (in_of r1 hj hv) (by rw [r1]; simpa using hv) (g := mkF m pc Ls (.int j :: .ref a :: st)) rfl rfl hd _ k
theorem g_aaload (X : Stand p l e R s m args below meth c T locs cells slots) (hx : p.tables.exec = Jvm.exec) (hZ : Z.Warmed39 s.vm) (eT : T.heap = h) {a : Addr} {ty : FieldType} {vs : List Value} {j : Int32} {v : Value} (A : AV Z h a ty vs) (hty : ty.isReference = true) (hj : ¬ j < 0) (hv : vs[j.toNatClampNeg]? = some v) (hd : decode c.code pc = .ok (.aaload, 1)) (pc' : Nat) (hp : pc + 1 = pc') (G : Go p e below P T (mkF m pc' Ls (v :: st))) : Go p e below P T (mkF m pc Ls (.int j :: .ref a :: st)) := by
  subst hp
  obtain ⟨cl, A, r1, r2⟩ := A
  exact G.stp fun _ k => X.aaload hx (j := j) (v := v) (by rw [eT]; exact A.1) (State.isArrayOf_alike hZ.alike A.2.1) hty A.2.2 (in_of r1 hj hv) (by rw [r1]; simpa using hv) (g := mkF m pc Ls (.int j :: .ref a :: st)) rfl rfl hd _ k
theorem g_arraylength (X : Stand p l e R s m args below meth c T locs cells slots) (hx : p.tables.exec = Jvm.exec) (hZ : Z.Warmed39 s.vm) (eT : T.heap = h) {a : Addr} {ty : FieldType} {vs : List Value} (A : AV Z h a ty vs) (n : Int32) (hn : Int32.ofNat vs.length = n) (hd : decode c.code pc = .ok (.arraylength, 1)) (pc' : Nat) (hp : pc + 1 = pc') (G : Go p e below P T (mkF m pc' Ls (.int n :: st))) : Go p e below P T (mkF m pc Ls (.ref a :: st)) := by
  subst hp
  obtain ⟨cl, A, r1, r2⟩ := A
  have q : cl.slots.size.toInt32 = n := by rw [r1, ← hn]; simp
  rw [← q] at G
  exact G.stp fun _ k => X.arraylength hx (cell := cl) (by rw [eT]; exact A.1) (State.isArrayOf_alike hZ.alike A.2.1) (g := mkF m pc Ls (.ref a :: st)) rfl rfl hd _ k
theorem g_iastore (X : Stand p l e R s m args below meth c T locs cells slots) (hx : p.tables.exec = Jvm.exec) (hZ : Z.Warmed39 s.vm) (eT : T.heap = h) {a : Addr} {vs : List Value} {j x : Int32} (A : AV Z h a .int vs) (hj : ¬ j < 0) (hi : j.toNatClampNeg < vs.length) (hd : decode c.code pc = .ok (.iastore, 1)) (pc' : Nat) (hp : pc + 1 = pc') (G : ∀ T' h', Stand p l e R s m args below meth c T' (locs ++ [⟨a, j.toNatClampNeg⟩]) cells slots → T'.heap = h' → Wr h h' a j.toNatClampNeg (.int x) → AV Z h' a .int (vs.set j.toNatClampNeg (.int x)) → Go p e below P T' (mkF m pc' Ls st)) : Go p e below P T (mkF m pc Ls (.int x :: .int j :: .ref a :: st)) := by
  subst hp
  have A0 := A
  obtain ⟨cl, A, r1, r2⟩ := A
  obtain ⟨T', h', X', e', W, k⟩ := stI X hx hZ eT A (j := j) (x := x) (in_of r1 hj (List.getElem?_eq_getElem hi)) (g := mkF m pc Ls (.int x :: .int j :: .ref a :: st)) rfl rfl hd
  exact (G T' h' X' e' W (A0.same W)).stp k
theorem g_castore (X : Stand p l e R s m args below meth c T locs cells slots) (hx : p.tables.exec = Jvm.exec) (hZ : Z.Warmed39 s.vm) (eT : T.heap = h) {a : Addr} {vs : List Value} {j x : Int32} (A : AV Z h a .char vs) (hj : ¬ j < 0) (hi : j.toNatClampNeg < vs.length) (hd : decode c.code pc = .ok (.castore, 1)) (pc' : Nat) (hp : pc + 1 = pc') (G : ∀ T' h', Stand p l e R s m args below meth c T' (locs ++ [⟨a, j.toNatClampNeg⟩]) cells slots → T'.heap = h' → Wr h h' a j.toNatClampNeg (.int (nar .char x)) → AV Z h' a .char (vs.set j.toNatClampNeg (.int (nar .char x))) → Go p e below P T' (mkF m pc' Ls st)) : Go p e below P T (mkF m pc Ls (.int x :: .int j :: .ref a :: st)) := by
  subst hp
  have A0 := A
  obtain ⟨cl, A, r1, r2⟩ := A
  obtain ⟨T', h', X', e', W, k⟩ := stC X hx hZ eT A (j := j) (x := x) (in_of r1 hj (List.getElem?_eq_getElem hi)) (g := mkF m pc Ls (.int x :: .int j :: .ref a :: st)) rfl rfl hd
  exact (G T' h' X' e' W (A0.same W)).stp k
theorem g_bastore (X : Stand p l e R s m args below meth c T locs cells slots) (hx : p.tables.exec = Jvm.exec) (hZ : Z.Warmed39 s.vm) (eT : T.heap = h) {a : Addr} {vs : List Value} {j x : Int32} (A : AV Z h a .byte vs) (hj : ¬ j < 0) (hi : j.toNatClampNeg < vs.length) (hd : decode c.code pc = .ok (.bastore, 1)) (pc' : Nat) (hp : pc + 1 = pc') (G : ∀ T' h', Stand p l e R s m args below meth c T' (locs ++ [⟨a, j.toNatClampNeg⟩]) cells slots → T'.heap = h' → Wr h h' a j.toNatClampNeg (.int (nar .byte x)) → AV Z h' a .byte (vs.set j.toNatClampNeg (.int (nar .byte x))) → Go p e below P T' (mkF m pc' Ls st)) : Go p e below P T (mkF m pc Ls (.int x :: .int j :: .ref a :: st)) := by
  subst hp
  have A0 := A
  obtain ⟨cl, A, r1, r2⟩ := A
  obtain ⟨T', h', X', e', W, k⟩ := stB X hx hZ eT A (j := j) (x := x) (in_of r1 hj (List.getElem?_eq_getElem hi)) (g := mkF m pc Ls (.int x :: .int j :: .ref a :: st)) rfl rfl hd
  exact (G T' h' X' e' W (A0.same W)).stp k
theorem g_newarray (X : Stand p l e R s m args below meth c T locs cells slots) (hx : p.tables.exec = Jvm.exec) (hZ : Z.Warmed39 s.vm) {aty : ArrayType} (w : (Cond.arrayClass (newarray.typeOf aty)).before a0 Z = true) (eT : T.heap = h) {n : Int32} (hn : ¬ n < 0) (cap : Nat) (hcap : n.toNatClampNeg ≤ cap) (hb : cap * 8 ≤ 536870912) (hc : cells + 1 ≤ R.cells) (hl : slots + cap ≤ R.slots) (vs : List Value) (hvs : vs = List.replicate n.toNatClampNeg (defaultValue (newarray.typeOf aty))) (hd : decode c.code pc = .ok (.newarray aty, 2)) (pc' : Nat) (hp : pc + 2 = pc') (G : ∀ T' h' b, Stand p l e R s m args below meth c T' locs (cells + 1) (slots + cap) → T'.heap = h' → b = h.size → Ext h h' → AV Z h' b (newarray.typeOf aty) vs → Go p e below P T' (mkF m pc' Ls (.ref b :: st))) : Go p e below P T (mkF m pc Ls (.int n :: st)) := by
  subst hp
  obtain ⟨T', h', cA, X', e', E, A, k⟩ := newP X hx hZ w eT (g := mkF m pc Ls (.int n :: st)) rfl hd rfl hn hcap hb hc hl
  exact (G T' h' h.size X' e' rfl E (AV.new A vs hvs (by omega))).stp k
theorem g_checkcast (X : Stand p l e R s m args below meth c T locs cells slots) (hx : p.tables.exec = Jvm.exec) (hZ : Z.Warmed39 s.vm) {own : String} (hown : s.vm.findClass own = some m.cls) {K : String} {i : Nat} (w : (Cond.classLink own i K).before a0 Z = true) {a : Addr} (F : Ins Z h a K true) (eT : T.heap = h) (hd : decode c.code pc = .ok (.checkcast i, 3)) (pc' : Nat) (hp : pc + 3 = pc') (G : ∀ T', Stand p l e R s m args below meth c T' locs cells slots → T'.heap = h → Go p e below P T' (mkF m pc' Ls (.ref a :: st))) : Go p e below P T (mkF m pc Ls (.ref a :: st)) := by
  subst hp
  obtain ⟨T', X', e', k⟩ := castY X hx hZ hown w eT F (g := mkF m pc Ls (.ref a :: st)) rfl rfl hd
  exact (G T' X' e').stp k
theorem g_instYes (X : Stand p l e R s m args below meth c T locs cells slots) (hx : p.tables.exec = Jvm.exec) (hZ : Z.Warmed39 s.vm) {own : String} (hown : s.vm.findClass own = some m.cls) {K : String} {i : Nat} (w : (Cond.classLink own i K).before a0 Z = true) {a : Addr} (F : Ins Z h a K true) (eT : T.heap = h) (hd : decode c.code pc = .ok (.instanceof i, 3)) (pc' : Nat) (hp : pc + 3 = pc') (G : ∀ T', Stand p l e R s m args below meth c T' locs cells slots → T'.heap = h → Go p e below P T' (mkF m pc' Ls (.int 1 :: st))) : Go p e below P T (mkF m pc Ls (.ref a :: st)) := by
  subst hp
  obtain ⟨T', X', e', k⟩ := instY X hx hZ hown w eT F (g := mkF m pc Ls (.ref a :: st)) rfl rfl hd
  exact (G T' X' e').stp k
theorem g_instNo (X : Stand p l e R s m args below meth c T locs cells slots) (hx : p.tables.exec = Jvm.exec) (hZ : Z.Warmed39 s.vm) {own : String} (hown : s.vm.findClass own = some m.cls) {K C : String} {i : Nat} (w : (Cond.classLink own i K).before a0 Z = true) {a : Addr} (E : Exa Z h a C) (F : ∃ c t, Z.vm.findClass C = some c ∧ Z.vm.findClass K = some t ∧ Z.vm.assignable c t = false) (eT : T.heap = h) (hd : decode c.code pc = .ok (.instanceof i, 3)) (pc' : Nat) (hp : pc + 3 = pc') (G : ∀ T', Stand p l e R s m args below meth c T' locs cells slots → T'.heap = h → Go p e below P T' (mkF m pc' Ls (.int 0 :: st))) : Go p e below P T (mkF m pc Ls (.ref a :: st)) := by
  subst hp
  obtain ⟨T', X', e', k⟩ := instNo X hx hZ hown w eT E F (g := mkF m pc Ls (.ref a :: st)) rfl rfl hd
  exact (G T' X' e').stp k
theorem g_instNull (X : Stand p l e R s m args below meth c T locs cells slots) (hx : p.tables.exec = Jvm.exec) {i : Nat} (hd : decode c.code pc = .ok (.instanceof i, 3)) (pc' : Nat) (hp : pc + 3 = pc') (G : Go p e below P T (mkF m pc' Ls (.int 0 :: st))) : Go p e below P T (mkF m pc Ls (.null :: st)) := by
  subst hp
  exact G.stp fun _ h => X.instanceofNull hx (g := mkF m pc Ls (.null :: st)) rfl rfl hd _ h
theorem g_aastore (X : Stand p l e R s m args below meth c T locs cells slots) (hx : p.tables.exec = Jvm.exec) (hZ : Z.Warmed39 s.vm) (eT : T.heap = h) {a : Addr} {ty : FieldType} {vs : List Value} {j : Int32} {x : Value} (A : AV Z h a ty vs) (hty : ty.isReference = true) (F : Sto Z h a x) (hj : ¬ j < 0) (hi : j.toNatClampNeg < vs.length) (hd : decode c.code pc = .ok (.aastore, 1)) (pc' : Nat) (hp : pc + 1 = pc') (G : ∀ T' h', Stand p l e R s m args below meth c T' (locs ++ [⟨a, j.toNatClampNeg⟩]) cells slots → T'.heap = h' → Wr h h' a j.toNatClampNeg x → AV Z h' a ty (vs.set j.toNatClampNeg x) → Go p e below P T' (mkF m pc' Ls st)) : Go p e below P T (mkF m pc Ls (x :: .int j :: .ref a :: st)) := by
  subst hp
  have A0 := A
  obtain ⟨cl, A, r1, r2⟩ := A
  obtain ⟨T', h', X', e', W, k⟩ := stR X hx hZ eT A (j := j) (v := x) (in_of r1 hj (List.getElem?_eq_getElem hi)) hty F (g := mkF m pc Ls (x :: .int j :: .ref a :: st)) rfl rfl hd
  exact (G T' h' X' e' W (A0.same W)).stp k
/-- what may lie in the array at a: objects of C -/
def Ov (Z : State) (h : Heap) (a : Addr) (C : String) : Prop := ∃ c : Cell, h[a]? = some c ∧ Ovr Z c.cls C
theorem Ov.keep {h' : Heap} {a : Addr} {ws : List Addr} {C : String} (F : Ov Z h a C) (K : Keep h h' ws) : Ov Z h' a C := by obtain ⟨c, h1, o⟩ := F; obtain ⟨c', h2, e, -⟩ := K.2.2 a c h1; exact ⟨c', h2, by rw [e]; exact o⟩
theorem Ov.ext {h' : Heap} {a : Addr} {C : String} (F : Ov Z h a C) (E : Ext h h') : Ov Z h' a C := by obtain ⟨c, h1, o⟩ := F; exact ⟨c, E.2 _ _ h1, o⟩
theorem Ov.wr {h' : Heap} {a b : Addr} {sl : Nat} {v : Value} {C : String} (F : Ov Z h a C) (W : Wr h h' b sl v) : Ov Z h' a C := by obtain ⟨c, h1, o⟩ := F; obtain ⟨c', h2, e, -⟩ := wr_at W h1; exact ⟨c', h2, by rw [e]; exact o⟩
theorem Ov.lt {a : Addr} {C : String} (F : Ov Z h a C) : a < h.size := by obtain ⟨c, h1, -⟩ := F; exact (Array.getElem?_eq_some_iff.mp h1).1
theorem Ov.sto {a y : Addr} {C : String} {ty : FieldType} {vs : List Value} (F : Ov Z h a C) (A : AV Z h a ty vs) (I : Ins Z h y C true) : Sto Z h a (.ref y) := by
  obtain ⟨c, h1, o⟩ := F
  obtain ⟨c', A', -⟩ := A
  cases h1.symm.trans A'.1
  exact Sto.of A' o I
theorem g_anewarray (X : Stand p l e R s m args below meth c T locs cells slots) (hx : p.tables.exec = Jvm.exec) (hZ : Z.Warmed39 s.vm) {own : String} (hown : s.vm.findClass own = some m.cls) {C : String} {i : Nat} (w1 : (Cond.classLink own i C).before a0 Z = true) (w2 : (Cond.arrayOver (.object C)).before a0 Z = true) (eT : T.heap = h) {n : Int32} (hn : ¬ n < 0) (cap : Nat) (hcap : n.toNatClampNeg ≤ cap) (hb : cap * 8 ≤ 536870912) (hc : cells + 1 ≤ R.cells) (hl : slots + cap ≤ R.slots) (vs : List Value) (hvs : vs = List.replicate n.toNatClampNeg .null) (hd : decode c.code pc = .ok (.anewarray i, 3)) (pc' : Nat) (hp : pc + 3 = pc') (G : ∀ T' h' b, Stand p l e R s m args below meth c T' locs (cells + 1) (slots + cap) → T'.heap = h' → b = h.size → Ext h h' → AV Z h' b (.object C) vs → Ov Z h' b C → Go p e below P T' (mkF m pc' Ls (.ref b :: st))) : Go p e below P T (mkF m pc Ls (.int n :: st)) := by
  subst hp
  obtain ⟨T', h', cA, X', e', E, A, O, k⟩ := newR X hx hZ hown w1 w2 eT (g := mkF m pc Ls (.int n :: st)) rfl hd rfl hn hcap hb hc hl
  exact (G T' h' h.size X' e' rfl E (AV.new A vs hvs (by omega)) ⟨_, A.1, O⟩).stp k
theorem g_reti (X : Stand p l e R s m args below meth c T locs cells slots) (hx : p.tables.exec = Jvm.exec) {z : Int32} (hret : meth.sig.returnType = some .int) (hlk : meth.locks = false) {k n : Nat} {Q : Option Value → Heap → List Loc → Prop} (hk : cells ≤ k) (hn : slots ≤ n) (hd : decode c.code pc = .ok (.ireturn, 1)) (hq : Q (some (.int z)) T.heap locs) : Go p e below (RP s k n Q) T (mkF m pc Ls (.int z :: st)) := by
  obtain ⟨fs, hr, hrun, hended, hW, hsame⟩ := X.leave (v := (some (.int z))) (fun h => by first | rfl | (rw [hret] at h; cases h)) hlk
  exact ⟨_, _, retOut X hx hret rfl (Or.inl ⟨rfl, Or.inl rfl, z, rfl⟩) hd hr, hrun, hended, _, _, rfl, hq, ⟨_, rfl⟩, hW, hsame.mono hk hn⟩
theorem g_retz (X : Stand p l e R s m args below meth c T locs cells slots) (hx : p.tables.exec = Jvm.exec) {z : Int32} (hret : meth.sig.returnType = some .boolean) (hlk : meth.locks = false) {k n : Nat} {Q : Option Value → Heap → List Loc → Prop} (hk : cells ≤ k) (hn : slots ≤ n) (hd : decode c.code pc = .ok (.ireturn, 1)) (hq : Q (some (.int (z &&& 1))) T.heap locs) : Go p e below (RP s k n Q) T (mkF m pc Ls (.int z :: st)) := by
  obtain ⟨fs, hr, hrun, hended, hW, hsame⟩ := X.leave (v := (some (.int (z &&& 1)))) (fun h => by first | rfl | (rw [hret] at h; cases h)) hlk
  exact ⟨_, _, retN X hx (t := .boolean) hret (by simp) hd hr, hrun, hended, _, _, rfl, hq, ⟨_, rfl⟩, hW, hsame.mono hk hn⟩
theorem g_retb (X : Stand p l e R s m args below meth c T locs cells slots) (hx : p.tables.exec = Jvm.exec) {z : Int32} (hret : meth.sig.returnType = some .byte) (hlk : meth.locks = false) {k n : Nat} {Q : Option Value → Heap → List Loc → Prop} (hk : cells ≤ k) (hn : slots ≤ n) (hd : decode c.code pc = .ok (.ireturn, 1)) (hq : Q (some (.int z.toInt8.toInt32)) T.heap locs) : Go p e below (RP s k n Q) T (mkF m pc Ls (.int z :: st)) := by
  obtain ⟨fs, hr, hrun, hended, hW, hsame⟩ := X.leave (v := (some (.int z.toInt8.toInt32))) (fun h => by first | rfl | (rw [hret] at h; cases h)) hlk
  exact ⟨_, _, retN X hx (t := .byte) hret (by simp) hd hr, hrun, hended, _, _, rfl, hq, ⟨_, rfl⟩, hW, hsame.mono hk hn⟩
theorem g_retl (X : Stand p l e R s m args below meth c T locs cells slots) (hx : p.tables.exec = Jvm.exec) {z : Int64} (hret : meth.sig.returnType = some .long) (hlk : meth.locks = false) {k n : Nat} {Q : Option Value → Heap → List Loc → Prop} (hk : cells ≤ k) (hn : slots ≤ n) (hd : decode c.code pc = .ok (.lreturn, 1)) (hq : Q (some (.long z)) T.heap locs) : Go p e below (RP s k n Q) T (mkF m pc Ls (.long z :: st)) := by
  obtain ⟨fs, hr, hrun, hended, hW, hsame⟩ := X.leave (v := (some (.long z))) (fun h => by first | rfl | (rw [hret] at h; cases h)) hlk
  exact ⟨_, _, retOut X hx hret rfl (Or.inr (Or.inl ⟨rfl, rfl, z, rfl⟩)) hd hr, hrun, hended, _, _, rfl, hq, ⟨_, rfl⟩, hW, hsame.mono hk hn⟩
theorem g_reta (X : Stand p l e R s m args below meth c T locs cells slots) (hx : p.tables.exec = Jvm.exec) {v : Value} {t : FieldType} (hv : v.isRef = true) (ht : t.isReference = true) (hret : meth.sig.returnType = some t) (hlk : meth.locks = false) {k n : Nat} {Q : Option Value → Heap → List Loc → Prop} (hk : cells ≤ k) (hn : slots ≤ n) (hd : decode c.code pc = .ok (.areturn, 1)) (hq : Q (some v) T.heap locs) : Go p e below (RP s k n Q) T (mkF m pc Ls (v :: st)) := by
  obtain ⟨fs, hr, hrun, hended, hW, hsame⟩ := X.leave (v := (some v)) (fun h => by first | rfl | (rw [hret] at h; cases h)) hlk
  exact ⟨_, _, retOut X hx hret (by cases t <;> first | (cases ht; done) | rfl) (Or.inr (Or.inr (Or.inr (Or.inr ⟨rfl, ht, hv⟩)))) hd hr, hrun, hended, _, _, rfl, hq, ⟨_, rfl⟩, hW, hsame.mono hk hn⟩
theorem g_retv (X : Stand p l e R s m args below meth c T locs cells slots) (hx : p.tables.exec = Jvm.exec) (hret : meth.sig.returnType = none) (hlk : meth.locks = false) {k n : Nat} {Q : Option Value → Heap → List Loc → Prop} (hk : cells ≤ k) (hn : slots ≤ n) (hd : decode c.code pc = .ok (.return_, 1)) (hq : Q none T.heap locs) : Go p e below (RP s k n Q) T (mkF m pc Ls []) := by
  obtain ⟨fs, hr, hrun, hended, hW, hsame⟩ := X.leave (v := none) (fun _ => rfl) hlk
  exact ⟨_, _, X.returnOut hx hret hd hr, hrun, hended, _, _, rfl, hq, ⟨_, rfl⟩, hW, hsame.mono hk hn⟩
/-- what a method does, called with these arguments over this heap -/
def Co (l : Launch) (y : MethodName) (bytes : ByteArray) (maxL : Nat) (ret : Option FieldType) (ws : List Jvm.Cond) (rm : Room) (Z : State) (h : Heap) (as : Array Value) (Q : Option Value → Heap → List Loc → Prop) : Prop := MetFree l y (head1 (Jvm.Cond.code y bytes maxL ret :: ws) rm) (fun a U => a = as ∧ Z.Warmed39 U.vm ∧ U.heap = h) (fun _ _ _ _ _ => True) (fun _ U o U' => ∃ v L, o = .returned v ∧ Q v U'.heap L ∧ FrameEnd U o U' L rm.cells rm.slots)
theorem Co.of {y : MethodName} {bytes : ByteArray} {maxL : Nat} {ret : Option FieldType} {ws : List Jvm.Cond} {rm : Room} {as : Array Value} {Q : Option Value → Heap → List Loc → Prop} (hpl : plainFor y = true) (body : ∀ (p : Program) (e : Env) (s : State) (m : MethodId) (below : List Frame) (meth : Method) (c : Code) (T : State), Stand p l e rm s m as below meth c T [] 0 0 → p.tables.exec = Jvm.exec → c.code = bytes → c.maxLocals = maxL → s.vm.findClass y.cls = some m.cls → meth.name = y.name → meth.sig.returnType = ret → meth.locks = false → Z.Warmed39 s.vm → T.heap = h → Go p e below (RP s rm.cells rm.slots Q) T (entryFrame m as maxL)) : Co l y bytes maxL ret ws rm Z h as Q := by
  refine MetFree.of_bodySF hpl hisR ?_
  intro p e s m args below meth c s₁ Bd hml hP hK
  obtain ⟨rfl, hZ, hh⟩ := hP
  exact body p e s m below meth c s₁ (Stand.of_body Bd) Bd.exec Bd.bytes hml (findClass_of_methodNamed Bd.named) (name_of_methodNamed Bd.named Bd.method).1 Bd.returns (BodyLoose.notSynchronized Bd) hZ (by rw [← hh, Bd.state]; rfl)
theorem g_callS (X : Stand p l e R s m args below meth c T locs cells slots) (hx : p.tables.exec = Jvm.exec) (hZ : Z.Warmed39 s.vm) {own : String} (hown : s.vm.findClass own = some m.cls) {i : Nat} {y : MethodName} {bytes : ByteArray} {maxL : Nat} {ret : Option FieldType} (w1 : (Cond.methodLink own i y).before a0 Z = true) (w2 : (Cond.static y).before a0 Z = true) (w3 : (Cond.initialized y.cls).before a0 Z = true) (w4 : (Cond.code y bytes maxL ret).before a0 Z = true)  (hy : y.cls ≠ "java/lang/invoke/MethodHandle" ∧ y.cls ≠ "java/lang/invoke/VarHandle") (eT : T.heap = h) {rm : Room} {Q : Option Value → Heap → List Loc → Prop} {St : List Value} (argsL rest : List Value) (hs : St = argsL.reverse ++ rest) (M : Co l y bytes maxL ret [] rm Z h argsL.toArray Q) (hlen : ∀ sig, parseMethodDescriptor y.desc = some sig → argsL.length = sig.parameters.length) (W : Nat) (hW : (rest.map fun v => v.category).sum ≤ W) (hf : rm.frames + 1 ≤ R.frames) (hl : W + (maxL + 11) + rm.locals ≤ R.locals) (hc : cells + rm.cells ≤ R.cells) (hsl : slots + rm.slots ≤ R.slots) (hsz : Ls.size = c.maxLocals) (hd : decode c.code pc = .ok (.invokestatic i, 3)) (pc' : Nat) (hp : pc + 3 = pc') (G : ∀ v T' L, Stand p l e R s m args below meth c T' (locs ++ L) (cells + rm.cells) (slots + rm.slots) → Q v T'.heap L → Go p e below P T' (mkF m pc' Ls (v.toList ++ rest))) : Go p e below P T (mkF m pc Ls St) := by
  subst hp
  obtain ⟨v, vm1, ⟨T', L', k', n'⟩, -, X', ⟨L, hQ, h1, h2, h3⟩, k⟩ := Jvm.LawKit.callS X hx (y := y) hown (mvT hZ w1) (mvT hZ w2) (mvT hZ w3) (mvT hZ w4) hy (backOf (W := W) M hZ w4 w3 hf hl) (g := mkF m pc Ls St) rfl hsz (argsL := argsL) (rest := rest) hlen hs (by show 2 * 0 + _ ≤ W; omega) hd (fun _ _ => ⟨rfl, eT, hc, hsl⟩)
  dsimp only [Pt.U, Pt.locs, Pt.cells, Pt.slots] at X' h1 h2 h3 k hQ
  subst h1 h2 h3
  exact (G v T' L X' hQ).stp k
theorem g_init (X : Stand p l e R s m args below meth c T locs cells slots) (hx : p.tables.exec = Jvm.exec) (hZ : Z.Warmed39 s.vm) {own : String} (hown : s.vm.findClass own = some m.cls) {i : Nat} {y : MethodName} {bytes : ByteArray} {maxL : Nat} (w1 : (Cond.methodLink own i y).before a0 Z = true) (hnm : y.name = "<init>") (w2 : (Cond.instanceMethod y).before a0 Z = true) (w3 : (Cond.initialized y.cls).before a0 Z = true) (w4 : (Cond.code y bytes maxL none).before a0 Z = true)  (hy : y.cls ≠ "java/lang/invoke/MethodHandle" ∧ y.cls ≠ "java/lang/invoke/VarHandle") (eT : T.heap = h) {rm : Room} {Q : Option Value → Heap → List Loc → Prop} {St : List Value} (argsL rest : List Value) {a : Addr} (hs : St = argsL.reverse ++ .ref a :: rest) (M : Co l y bytes maxL none [] rm Z h (.ref a :: argsL).toArray Q) (hlen : ∀ sig, parseMethodDescriptor y.desc = some sig → argsL.length = sig.parameters.length) (W : Nat) (hW : (rest.map fun v => v.category).sum ≤ W) (hf : rm.frames + 1 ≤ R.frames) (hl : W + (maxL + 11) + rm.locals ≤ R.locals) (hc : cells + rm.cells ≤ R.cells) (hsl : slots + rm.slots ≤ R.slots) (hsz : Ls.size = c.maxLocals) (hd : decode c.code pc = .ok (.invokespecial i, 3)) (pc' : Nat) (hp : pc + 3 = pc') (G : ∀ v T' L, Stand p l e R s m args below meth c T' (locs ++ L) (cells + rm.cells) (slots + rm.slots) → Q v T'.heap L → Go p e below P T' (mkF m pc' Ls (v.toList ++ rest))) : Go p e below P T (mkF m pc Ls St) := by
  subst hp
  obtain ⟨v, vm1, ⟨T', L', k', n'⟩, -, X', ⟨L, hQ, h1, h2, h3⟩, k⟩ := X.specialBack hx (y := y) hnm hown (mvT hZ w1) (mvT hZ w2) (mvT hZ w4) hy (backOf (W := W) M hZ w4 w3 hf hl) (g := mkF m pc Ls St) rfl hsz (Steps.refl _) (a := a) (argsL := argsL) (rest := rest) hlen hs (by show 2 * 0 + _ ≤ W; omega) hd (fun _ _ => ⟨rfl, eT, hc, hsl⟩)
  dsimp only [Pt.U, Pt.locs, Pt.cells, Pt.slots] at X' h1 h2 h3 k hQ
  subst h1 h2 h3
  exact (G v T' L X' hQ).stp fun _ j => k.trans j
theorem g_callV (X : Stand p l e R s m args below meth c T locs cells slots) (hx : p.tables.exec = Jvm.exec) (hZ : Z.Warmed39 s.vm) {own : String} (hown : s.vm.findClass own = some m.cls) {i : Nat} {y : MethodName} {bytes : ByteArray} {maxL : Nat} {ret : Option FieldType} (w1 : (Cond.methodLink own i y).before a0 Z = true) {C : String} (w2 : (Cond.declares y).before a0 Z = true) (w5 : (Cond.selects C y y).before a0 Z = true) (w6 : (Cond.instanceMethod y).before a0 Z = true) (w3 : (Cond.initialized y.cls).before a0 Z = true) (w4 : (Cond.code y bytes maxL ret).before a0 Z = true)  (hy : y.cls ≠ "java/lang/invoke/MethodHandle" ∧ y.cls ≠ "java/lang/invoke/VarHandle") (eT : T.heap = h) {rm : Room} {Q : Option Value → Heap → List Loc → Prop} {St : List Value} (argsL rest : List Value) {a : Addr} (E : Exa Z h a C) (hs : St = argsL.reverse ++ .ref a :: rest) (M : Co l y bytes maxL ret [] rm Z h (.ref a :: argsL).toArray Q) (hlen : ∀ sig, parseMethodDescriptor y.desc = some sig → argsL.length = sig.parameters.length) (W : Nat) (hW : (rest.map fun v => v.category).sum ≤ W) (hf : rm.frames + 1 ≤ R.frames) (hl : W + (maxL + 11) + rm.locals ≤ R.locals) (hc : cells + rm.cells ≤ R.cells) (hsl : slots + rm.slots ≤ R.slots) (hsz : Ls.size = c.maxLocals) (hd : decode c.code pc = .ok (.invokevirtual i, 3)) (pc' : Nat) (hp : pc + 3 = pc') (G : ∀ v T' L, Stand p l e R s m args below meth c T' (locs ++ L) (cells + rm.cells) (slots + rm.slots) → Q v T'.heap L → Go p e below P T' (mkF m pc' Ls (v.toList ++ rest))) : Go p e below P T (mkF m pc Ls St) := by
  subst hp
  obtain ⟨cq, kq, qa, qb, qc⟩ := isOf hZ eT E
  obtain ⟨v, vm1, ⟨T', L', k', n'⟩, -, X', ⟨L, hQ, h1, h2, h3⟩, k⟩ := X.virtualBack hx (y := y) (z := y) hown (mvT hZ w1) (mvT hZ w2) (notFace_of_selects (args := #[]) (mvT hZ w5)) (mvT hZ w5) (mvT hZ w6) hy (backOf (W := W) M hZ w4 w3 hf hl) qa qc (g := mkF m pc Ls St) rfl hsz (Steps.refl _) (argsL := argsL) (rest := rest) hlen hs (by show 2 * 0 + _ ≤ W; omega) hd (fun _ _ => ⟨rfl, eT, hc, hsl⟩)
  dsimp only [Pt.U, Pt.locs, Pt.cells, Pt.slots] at X' h1 h2 h3 k hQ
  subst h1 h2 h3
  exact (G v T' L X' hQ).stp fun _ j => k.trans j
theorem g_callP (X : Stand p l e R s m args below meth c T locs cells slots) (hx : p.tables.exec = Jvm.exec) (hZ : Z.Warmed39 s.vm) {own : String} (hown : s.vm.findClass own = some m.cls) {i : Nat} {y : MethodName} {bytes : ByteArray} {maxL : Nat} {ret : Option FieldType} (w1 : (Cond.methodLink own i y).before a0 Z = true) {n : Nat} (w2 : (Cond.instanceMethod y).before a0 Z = true) (w5 : (Cond.privateMethod y).before a0 Z = true) (wi : (Cond.instantiable y.cls n).before a0 Z = true) (w3 : (Cond.initialized y.cls).before a0 Z = true) (w4 : (Cond.code y bytes maxL ret).before a0 Z = true)  (hy : y.cls ≠ "java/lang/invoke/MethodHandle" ∧ y.cls ≠ "java/lang/invoke/VarHandle") (eT : T.heap = h) {rm : Room} {Q : Option Value → Heap → List Loc → Prop} {St : List Value} (argsL rest : List Value) {a : Addr} (E : Exa Z h a y.cls) (hs : St = argsL.reverse ++ .ref a :: rest) (M : Co l y bytes maxL ret [] rm Z h (.ref a :: argsL).toArray Q) (hlen : ∀ sig, parseMethodDescriptor y.desc = some sig → argsL.length = sig.parameters.length) (W : Nat) (hW : (rest.map fun v => v.category).sum ≤ W) (hf : rm.frames + 1 ≤ R.frames) (hl : W + (maxL + 11) + rm.locals ≤ R.locals) (hc : cells + rm.cells ≤ R.cells) (hsl : slots + rm.slots ≤ R.slots) (hsz : Ls.size = c.maxLocals) (hd : decode c.code pc = .ok (.invokevirtual i, 3)) (pc' : Nat) (hp : pc + 3 = pc') (G : ∀ v T' L, Stand p l e R s m args below meth c T' (locs ++ L) (cells + rm.cells) (slots + rm.slots) → Q v T'.heap L → Go p e below P T' (mkF m pc' Ls (v.toList ++ rest))) : Go p e below P T (mkF m pc Ls St) := by
  subst hp
  obtain ⟨cl, q1, q2⟩ := E.cell
  have wi' : (Cond.instantiable y.cls n).before args s = true := mv hZ wi
  obtain ⟨ci, ki, i1, i2, i3, i4, -⟩ := Cond.instantiable_spec wi'
  have hpr : s.PrivateAt y := Cond.privateMethod_at (mvP hZ w5 (args := #[]))
  have hsel : (Cond.selects y.cls y y).before args s = true := selects_self_of_private i1 i2 (by simp only [Bool.or_eq_false_iff] at i4; exact i4.1) hpr (mv hZ w2) hy
  obtain ⟨v, vm1, ⟨T', L', k', n'⟩, -, X', ⟨L, hQ, h1, h2, h3⟩, k⟩ := X.privateBack hx (y := y) hown (mvT hZ w1) (mvT hZ w2) hsel hpr (mvT hZ w4) hy (backOf (W := W) M hZ w4 w3 hf hl) (g := mkF m pc Ls St) rfl hsz (Steps.refl _) (a := a) (by rw [eT]; exact q1) q2 (argsL := argsL) (rest := rest) hlen hs (by show 2 * 0 + _ ≤ W; omega) hd (fun _ _ => ⟨rfl, eT, hc, hsl⟩)
  dsimp only [Pt.U, Pt.locs, Pt.cells, Pt.slots] at X' h1 h2 h3 k hQ
  subst h1 h2 h3
  exact (G v T' L X' hQ).stp fun _ j => k.trans j
def Pu (h : Heap) (v : Option Value) (r : Option Value) (h' : Heap) (L : List Loc) : Prop := r = v ∧ h' = h ∧ L = []
theorem pu_cont {v : Option Value} {fr lo : Nat} {pc' : Nat} {rest : List Value} (G : ∀ T', Stand p l e R s m args below meth c T' locs cells slots → T'.heap = h → Go p e below P T' (mkF m pc' Ls (v.toList ++ rest))) : ∀ v' T' L, Stand p l e R s m args below meth c T' (locs ++ L) (cells + ({ frames := fr, cells := 0, slots := 0, locals := lo } : Room).cells) (slots + ({ frames := fr, cells := 0, slots := 0, locals := lo } : Room).slots) → Pu h v v' T'.heap L → Go p e below P T' (mkF m pc' Ls (v'.toList ++ rest)) := by
  rintro v' T' L X ⟨rfl, e1, rfl⟩
  exact G T' (by simpa using X) e1
theorem Go.joinT {α : Type} {g : JFrame} (X : Stand p l e R s m args below meth c T locs cells slots) (eT : T.heap = h) (f : α → JFrame) (Pz : α → Prop) (J : ∀ T', Stand p l e R s m args below meth c T' locs cells slots → T'.heap = h → ∀ z, Pz z → Go p e below P T' (f z)) (K : (∀ T', Stand p l e R s m args below meth c T' locs cells slots → T'.heap = h → ∀ z, Pz z → Go p e below P T' (f z)) → Go p e below P T g) : Go p e below P T g := K J
theorem Go.joinH {α : Type} {g : JFrame} (X : Stand p l e R s m args below meth c T locs cells slots) (f : α → JFrame) (Pz : Heap → List Loc → α → Prop) (kc kn : Nat) (J : ∀ T' h' locs', Stand p l e R s m args below meth c T' locs' kc kn → T'.heap = h' → ∀ z, Pz h' locs' z → Go p e below P T' (f z)) (K : (∀ T' h' locs', Stand p l e R s m args below meth c T' locs' kc kn → T'.heap = h' → ∀ z, Pz h' locs' z → Go p e below P T' (f z)) → Go p e below P T g) : Go p e below P T g := K J
theorem Go.loop {α : Type} (X : Stand p l e R s m args below meth c T locs cells slots) (eT : T.heap = h) (f : α → JFrame) (μ : α → Nat) (Pz : α → Prop) (body : ∀ z, Pz z → (∀ T', Stand p l e R s m args below meth c T' locs cells slots → T'.heap = h → ∀ z', Pz z' → μ z' < μ z → Go p e below P T' (f z')) → ∀ T', Stand p l e R s m args below meth c T' locs cells slots → T'.heap = h → Go p e below P T' (f z)) (z : α) (hz : Pz z) : Go p e below P T (f z) := by
  have key : ∀ n, ∀ z, μ z < n → Pz z → ∀ T', Stand p l e R s m args below meth c T' locs cells slots → T'.heap = h → Go p e below P T' (f z) := by
    intro n
    induction n with
    | zero => intro z hn; exact absurd hn (Nat.not_lt_zero _)
    | succ n ih =>
      intro z hn hz T' X' e'
      exact body z hz (fun T2 X2 e2 z2 hz2 hlt => ih z2 (by omega) hz2 T2 X2 e2) T' X' e'
  exact key (μ z + 1) z (Nat.lt_succ_self _) hz T X eT
theorem Go.loopH {α : Type} (X : Stand p l e R s m args below meth c T locs cells slots) (eT : T.heap = h) (f : α → JFrame) (μ : α → Nat) (Pz : Heap → List Loc → α → Prop) (body : ∀ z h' locs', Pz h' locs' z → (∀ T' h2 locs2, Stand p l e R s m args below meth c T' locs2 cells slots → T'.heap = h2 → ∀ z', Pz h2 locs2 z' → μ z' < μ z → Go p e below P T' (f z')) → ∀ T', Stand p l e R s m args below meth c T' locs' cells slots → T'.heap = h' → Go p e below P T' (f z)) (z : α) (hz : Pz h locs z) : Go p e below P T (f z) := by
  have key : ∀ n, ∀ z h' locs', μ z < n → Pz h' locs' z → ∀ T', Stand p l e R s m args below meth c T' locs' cells slots → T'.heap = h' → Go p e below P T' (f z) := by
    intro n
    induction n with
    | zero => intro z h' locs' hn; exact absurd hn (Nat.not_lt_zero _)
    | succ n ih =>
      intro z h' locs' hn hz T' X' e'
      exact body z h' locs' hz (fun T2 h2 locs2 X2 e2 z2 hz2 hlt => ih z2 h2 locs2 (by omega) hz2 T2 X2 e2) T' X' e'
  exact key (μ z + 1) z h locs (Nat.lt_succ_self _) hz T X eT
theorem own_sta_keep {C n d : String} {v : Value} {h' : Heap} {ws : List Addr} (F : Sta Z h C n d v) (K : Keep h h' ws) (q : ∀ x ∈ ws, ∀ cell : Cell, h[x]? = some cell → cell.vm.isStatics = false) : Sta Z h' C n d v := by
  obtain ⟨cf, i, k, f, st, cell, h1, h2, h3, h4, h5, h6, h7⟩ := F
  exact ⟨cf, i, k, f, st, cell, h1, h2, h3, h4, K.2.1 st cell h5 (fun hm => by rw [q st hm cell h5] at h6; cases h6), h6, h7⟩
end OwnGo
theorem own_eqI {args : Array Value} {s : State} {t : Term} {i : Int32} (h : (Jvm.Cond.eq t (.int i)).value args s none s [] = some true) : t.eval args s none [] s = some (.int i) := by
  cases ht : t.eval args s none [] s with
  | none => simp [Cond.value, Term.eval, ht] at h
  | some v => cases v <;> simp [Cond.value, Term.eval, ht] at h; exact congrArg (fun z => some (Value.int z)) h
theorem own_fo {args : Array Value} {s : State} {t : Term} {C n d : String} {a : Addr} {i : Int32} (ev : t.eval args s none [] s = some (.ref a)) (h : (Jvm.Cond.eq (Term.field t C n d) (.int i)).value args s none s [] = some true) : Fld s s.heap a C n d (.int i) := Fld.start ((fld_at ev).symm.trans (own_eqI h))
theorem d1_0 : decode method_2_code 0 = .ok (.iload_n 0, 1) := by decide +kernel
theorem d1_1 : decode method_2_code 1 = .ok (.ifCond .ne 9, 3) := by decide +kernel
theorem d1_10 : decode method_2_code 10 = .ok (.getstatic 13, 3) := by decide +kernel
theorem d1_4 : decode method_2_code 4 = .ok (.getstatic 7, 3) := by decide +kernel
theorem d1_7 : decode method_2_code 7 = .ok (.goto 6, 3) := by decide +kernel
def f1 (x0 : Int32) (s_ORIGINATING : Addr) (s_TERMINATING : Addr) : Addr := if x0 = (0 : Int32) then s_ORIGINATING else s_TERMINATING
theorem ef1 (m_ : MethodId) (x0 : Int32)  : entryFrame m_ #[(.int x0)] 1 = mkF m_ 0 #[.val (.int x0)] [] := by first | (simp [entryFrame, mkF, argsToLocals, Value.category]; done) | rfl
theorem pn_0 : plainName "com/example/weigh/weigh/tariff/CallSelectorMatchesPinLaw" = true := by first | (simp [plainName, overriddenIn]; done) | decide +kernel
theorem d1_13 : decode method_2_code 13 = .ok (.areturn, 1) := by decide +kernel
set_option maxRecDepth 65536 in
set_option maxHeartbeats 40000000 in
theorem co1 (l : Launch) (Z : State) (a0 : Array Value) (hw : ∀ d ∈ tables_1, d.before a0 Z = true) (x0 : Int32) (s_ORIGINATING : Addr) (s_TERMINATING : Addr) (h0 : Heap) (S_ORIGINATING : Sta Z h0 "com/example/weigh/weigh/usage/UsageLayout$Direction" "ORIGINATING" "Lcom/example/weigh/weigh/usage/UsageLayout$Direction;" (.ref s_ORIGINATING)) (S_TERMINATING : Sta Z h0 "com/example/weigh/weigh/usage/UsageLayout$Direction" "TERMINATING" "Lcom/example/weigh/weigh/usage/UsageLayout$Direction;" (.ref s_TERMINATING)) : Co l (⟨"com/example/weigh/weigh/tariff/CallSelectorMatchesPinLaw", "dir", "(I)Lcom/example/weigh/weigh/usage/UsageLayout$Direction;"⟩ : MethodName) method_2_code 1 (some (.object "com/example/weigh/weigh/usage/UsageLayout$Direction")) [] ({ frames := 0, cells := 0, slots := 0, locals := 0 } : Room) Z h0 #[(.int x0)] (Pu h0 (some (.ref (f1 x0 s_ORIGINATING s_TERMINATING)))) := by
  refine Co.of (plainFor_of_name pn_0) ?_
  intro p_ e_ s_ m_ below meth c_ T0 X0 hx hby hml hown hnm hret hlk hZ eq0
  refine Go.cast (ef1 m_ x0 ) ?_
  refine g_iloadN X0 hx rfl (hb hby d1_0) 1 rfl ?_
  refine g_if_ne X0 hx (hb hby d1_1) 10 4 (by decide) rfl rfl (fun q1 => ?_) (fun q1 => ?_)
  · refine g_getstatic X0 hx hZ hown (host := "") (Or.inl (wd hw 28 rfl)) Via.refl S_TERMINATING eq0 (hb hby d1_10) 13 rfl (fun T101 X102 e103 => ?_)
    show Go p_ e_ below _ T101 (mkF m_ 13 #[.val (.int x0)] [(.ref s_TERMINATING)])
    exact g_reta X102 hx rfl rfl hret hlk (by decide) (by decide) (hb hby d1_13) ⟨congrArg (fun z => some (Value.ref z)) (show f1 x0 s_ORIGINATING s_TERMINATING = _ from ((if_neg q1).trans rfl)).symm, e103, rfl⟩
  · refine g_getstatic X0 hx hZ hown (host := "") (Or.inl (wd hw 8 rfl)) Via.refl S_ORIGINATING eq0 (hb hby d1_4) 7 rfl (fun T104 X105 e106 => ?_)
    show Go p_ e_ below _ T104 (mkF m_ 7 #[.val (.int x0)] [(.ref s_ORIGINATING)])
    refine g_goto X105 hx (hb hby d1_7) 13 (by decide) rfl ?_
    exact g_reta X105 hx rfl rfl hret hlk (by decide) (by decide) (hb hby d1_13) ⟨congrArg (fun z => some (Value.ref z)) (show f1 x0 s_ORIGINATING s_TERMINATING = _ from ((if_pos q1).trans rfl)).symm, e106, rfl⟩
theorem d5_0 : decode method_3_code 0 = .ok (.iload_n 0, 1) := by decide +kernel
theorem d5_1 : decode method_3_code 1 = .ok (.ifCond .ne 7, 3) := by decide +kernel
theorem d5_8 : decode method_3_code 8 = .ok (.iload_n 0, 1) := by decide +kernel
theorem d5_9 : decode method_3_code 9 = .ok (.iconst 1, 1) := by decide +kernel
theorem d5_10 : decode method_3_code 10 = .ok (.if_icmp .ne 7, 3) := by decide +kernel
theorem d5_17 : decode method_3_code 17 = .ok (.getstatic 25, 3) := by decide +kernel
theorem d5_13 : decode method_3_code 13 = .ok (.getstatic 22, 3) := by decide +kernel
theorem d5_4 : decode method_3_code 4 = .ok (.getstatic 16, 3) := by decide +kernel
def f5 (x0 : Int32) (s_MF : Addr) (s_SS7 : Addr) (s_SIP : Addr) : Addr := if x0 = (0 : Int32) then s_MF else (if x0 = (1 : Int32) then s_SS7 else s_SIP)
theorem ef5 (m_ : MethodId) (x0 : Int32)  : entryFrame m_ #[(.int x0)] 1 = mkF m_ 0 #[.val (.int x0)] [] := by first | (simp [entryFrame, mkF, argsToLocals, Value.category]; done) | rfl
theorem d5_20 : decode method_3_code 20 = .ok (.areturn, 1) := by decide +kernel
theorem d5_16 : decode method_3_code 16 = .ok (.areturn, 1) := by decide +kernel
theorem d5_7 : decode method_3_code 7 = .ok (.areturn, 1) := by decide +kernel
set_option maxRecDepth 65536 in
set_option maxHeartbeats 40000000 in
theorem co5 (l : Launch) (Z : State) (a0 : Array Value) (hw : ∀ d ∈ tables_1, d.before a0 Z = true) (x0 : Int32) (s_MF : Addr) (s_SS7 : Addr) (s_SIP : Addr) (h0 : Heap) (S_MF : Sta Z h0 "com/example/weigh/weigh/usage/UsageLayout$Signaling" "MF" "Lcom/example/weigh/weigh/usage/UsageLayout$Signaling;" (.ref s_MF)) (S_SS7 : Sta Z h0 "com/example/weigh/weigh/usage/UsageLayout$Signaling" "SS7" "Lcom/example/weigh/weigh/usage/UsageLayout$Signaling;" (.ref s_SS7)) (S_SIP : Sta Z h0 "com/example/weigh/weigh/usage/UsageLayout$Signaling" "SIP" "Lcom/example/weigh/weigh/usage/UsageLayout$Signaling;" (.ref s_SIP)) : Co l (⟨"com/example/weigh/weigh/tariff/CallSelectorMatchesPinLaw", "sig", "(I)Lcom/example/weigh/weigh/usage/UsageLayout$Signaling;"⟩ : MethodName) method_3_code 1 (some (.object "com/example/weigh/weigh/usage/UsageLayout$Signaling")) [] ({ frames := 0, cells := 0, slots := 0, locals := 0 } : Room) Z h0 #[(.int x0)] (Pu h0 (some (.ref (f5 x0 s_MF s_SS7 s_SIP)))) := by
  refine Co.of (plainFor_of_name pn_0) ?_
  intro p_ e_ s_ m_ below meth c_ T0 X0 hx hby hml hown hnm hret hlk hZ eq0
  refine Go.cast (ef5 m_ x0 ) ?_
  refine g_iloadN X0 hx rfl (hb hby d5_0) 1 rfl ?_
  refine g_if_ne X0 hx (hb hby d5_1) 8 4 (by decide) rfl rfl (fun q1 => ?_) (fun q1 => ?_)
  · refine g_iloadN X0 hx rfl (hb hby d5_8) 9 rfl ?_
    refine g_iconst X0 hx (1 : Int32) rfl (hb hby d5_9) 10 rfl ?_
    refine g_icmp_ne X0 hx (hb hby d5_10) 17 13 (by decide) rfl rfl (fun q10 => ?_) (fun q10 => ?_)
    · refine g_getstatic X0 hx hZ hown (host := "") (Or.inl (wd hw 47 rfl)) Via.refl S_SIP eq0 (hb hby d5_17) 20 rfl (fun T101 X102 e103 => ?_)
      show Go p_ e_ below _ T101 (mkF m_ 20 #[.val (.int x0)] [(.ref s_SIP)])
      exact g_reta X102 hx rfl rfl hret hlk (by decide) (by decide) (hb hby d5_20) ⟨congrArg (fun z => some (Value.ref z)) (show f5 x0 s_MF s_SS7 s_SIP = _ from ((if_neg q1).trans ((if_neg q10).trans rfl))).symm, e103, rfl⟩
    · refine g_getstatic X0 hx hZ hown (host := "") (Or.inl (wd hw 51 rfl)) Via.refl S_SS7 eq0 (hb hby d5_13) 16 rfl (fun T104 X105 e106 => ?_)
      show Go p_ e_ below _ T104 (mkF m_ 16 #[.val (.int x0)] [(.ref s_SS7)])
      exact g_reta X105 hx rfl rfl hret hlk (by decide) (by decide) (hb hby d5_16) ⟨congrArg (fun z => some (Value.ref z)) (show f5 x0 s_MF s_SS7 s_SIP = _ from ((if_neg q1).trans ((if_pos q10).trans rfl))).symm, e106, rfl⟩
  · refine g_getstatic X0 hx hZ hown (host := "") (Or.inl (wd hw 33 rfl)) Via.refl S_MF eq0 (hb hby d5_4) 7 rfl (fun T107 X108 e109 => ?_)
    show Go p_ e_ below _ T107 (mkF m_ 7 #[.val (.int x0)] [(.ref s_MF)])
    exact g_reta X108 hx rfl rfl hret hlk (by decide) (by decide) (hb hby d5_7) ⟨congrArg (fun z => some (Value.ref z)) (show f5 x0 s_MF s_SS7 s_SIP = _ from ((if_pos q1).trans rfl)).symm, e109, rfl⟩
theorem d6_0 : decode method_4_code 0 = .ok (.iload_n 0, 1) := by decide +kernel
theorem d6_1 : decode method_4_code 1 = .ok (.ifCond .ne 9, 3) := by decide +kernel
theorem d6_10 : decode method_4_code 10 = .ok (.getstatic 34, 3) := by decide +kernel
theorem d6_4 : decode method_4_code 4 = .ok (.getstatic 28, 3) := by decide +kernel
theorem d6_7 : decode method_4_code 7 = .ok (.goto 6, 3) := by decide +kernel
def f6 (x0 : Int32) (s_DIRECT : Addr) (s_TANDEM : Addr) : Addr := if x0 = (0 : Int32) then s_DIRECT else s_TANDEM
theorem ef6 (m_ : MethodId) (x0 : Int32)  : entryFrame m_ #[(.int x0)] 1 = mkF m_ 0 #[.val (.int x0)] [] := by first | (simp [entryFrame, mkF, argsToLocals, Value.category]; done) | rfl
theorem d6_13 : decode method_4_code 13 = .ok (.areturn, 1) := by decide +kernel
set_option maxRecDepth 65536 in
set_option maxHeartbeats 40000000 in
theorem co6 (l : Launch) (Z : State) (a0 : Array Value) (hw : ∀ d ∈ tables_1, d.before a0 Z = true) (x0 : Int32) (s_DIRECT : Addr) (s_TANDEM : Addr) (h0 : Heap) (S_DIRECT : Sta Z h0 "com/example/weigh/weigh/usage/UsageLayout$TrunkRouting" "DIRECT" "Lcom/example/weigh/weigh/usage/UsageLayout$TrunkRouting;" (.ref s_DIRECT)) (S_TANDEM : Sta Z h0 "com/example/weigh/weigh/usage/UsageLayout$TrunkRouting" "TANDEM" "Lcom/example/weigh/weigh/usage/UsageLayout$TrunkRouting;" (.ref s_TANDEM)) : Co l (⟨"com/example/weigh/weigh/tariff/CallSelectorMatchesPinLaw", "rt", "(I)Lcom/example/weigh/weigh/usage/UsageLayout$TrunkRouting;"⟩ : MethodName) method_4_code 1 (some (.object "com/example/weigh/weigh/usage/UsageLayout$TrunkRouting")) [] ({ frames := 0, cells := 0, slots := 0, locals := 0 } : Room) Z h0 #[(.int x0)] (Pu h0 (some (.ref (f6 x0 s_DIRECT s_TANDEM)))) := by
  refine Co.of (plainFor_of_name pn_0) ?_
  intro p_ e_ s_ m_ below meth c_ T0 X0 hx hby hml hown hnm hret hlk hZ eq0
  refine Go.cast (ef6 m_ x0 ) ?_
  refine g_iloadN X0 hx rfl (hb hby d6_0) 1 rfl ?_
  refine g_if_ne X0 hx (hb hby d6_1) 10 4 (by decide) rfl rfl (fun q1 => ?_) (fun q1 => ?_)
  · refine g_getstatic X0 hx hZ hown (host := "") (Or.inl (wd hw 39 rfl)) Via.refl S_TANDEM eq0 (hb hby d6_10) 13 rfl (fun T101 X102 e103 => ?_)
    show Go p_ e_ below _ T101 (mkF m_ 13 #[.val (.int x0)] [(.ref s_TANDEM)])
    exact g_reta X102 hx rfl rfl hret hlk (by decide) (by decide) (hb hby d6_13) ⟨congrArg (fun z => some (Value.ref z)) (show f6 x0 s_DIRECT s_TANDEM = _ from ((if_neg q1).trans rfl)).symm, e103, rfl⟩
  · refine g_getstatic X0 hx hZ hown (host := "") (Or.inl (wd hw 49 rfl)) Via.refl S_DIRECT eq0 (hb hby d6_4) 7 rfl (fun T104 X105 e106 => ?_)
    show Go p_ e_ below _ T104 (mkF m_ 7 #[.val (.int x0)] [(.ref s_DIRECT)])
    refine g_goto X105 hx (hb hby d6_7) 13 (by decide) rfl ?_
    exact g_reta X105 hx rfl rfl hret hlk (by decide) (by decide) (hb hby d6_13) ⟨congrArg (fun z => some (Value.ref z)) (show f6 x0 s_DIRECT s_TANDEM = _ from ((if_pos q1).trans rfl)).symm, e106, rfl⟩
def Q3 (Z : State) (a : Addr) (d : Addr) (sg : Value) (tr : Value) (h0 : Heap) (n0 : Nat) (v : Option Value) (h : Heap) (L : List Loc) : Prop := v = none ∧ Fr n0 L ∧ Keep h0 h [a] ∧ Exa Z h a "com/example/weigh/weigh/tariff/CallSelector" ∧ Fld Z h a "com/example/weigh/weigh/tariff/CallSelector" "direction" "Lcom/example/weigh/weigh/usage/UsageLayout$Direction;" (.ref d) ∧ Fld Z h a "com/example/weigh/weigh/tariff/CallSelector" "signaling" "Lcom/example/weigh/weigh/usage/UsageLayout$Signaling;" sg ∧ Fld Z h a "com/example/weigh/weigh/tariff/CallSelector" "trunkRouting" "Lcom/example/weigh/weigh/usage/UsageLayout$TrunkRouting;" tr
theorem ef3 (m_ : MethodId) (a : Addr) (d : Addr) (sg : Value) (tr : Value) (h_sg : sg.isRef = true) (h_tr : tr.isRef = true) : entryFrame m_ #[(.ref a), (.ref d), sg, tr, .null] 5 = mkF m_ 0 #[.val (.ref a), .val (.ref d), .val sg, .val tr, .val .null] [] := by rcases ref_cases h_sg with rfl | ⟨_, rfl⟩ <;> rcases ref_cases h_tr with rfl | ⟨_, rfl⟩ <;> first | (simp [entryFrame, mkF, argsToLocals, Value.category]; done) | rfl
theorem pn_1 : plainName "com/example/weigh/weigh/tariff/CallSelector" = true := by first | (simp [plainName, overriddenIn]; done) | decide +kernel
theorem d3_0 : decode prog_87_method_2_code 0 = .ok (.aload_n 0, 1) := by decide +kernel
theorem d3_1 : decode prog_87_method_2_code 1 = .ok (.invokespecial 7, 3) := by decide +kernel
theorem d3_4 : decode prog_87_method_2_code 4 = .ok (.aload_n 0, 1) := by decide +kernel
theorem d3_5 : decode prog_87_method_2_code 5 = .ok (.aload_n 1, 1) := by decide +kernel
theorem d3_6 : decode prog_87_method_2_code 6 = .ok (.putfield 12, 3) := by decide +kernel
theorem d3_9 : decode prog_87_method_2_code 9 = .ok (.aload_n 0, 1) := by decide +kernel
theorem d3_10 : decode prog_87_method_2_code 10 = .ok (.aload_n 2, 1) := by decide +kernel
theorem d3_11 : decode prog_87_method_2_code 11 = .ok (.putfield 16, 3) := by decide +kernel
theorem d3_14 : decode prog_87_method_2_code 14 = .ok (.aload_n 0, 1) := by decide +kernel
theorem d3_15 : decode prog_87_method_2_code 15 = .ok (.aload_n 3, 1) := by decide +kernel
theorem d3_16 : decode prog_87_method_2_code 16 = .ok (.putfield 20, 3) := by decide +kernel
theorem d3_19 : decode prog_87_method_2_code 19 = .ok (.aload_n 0, 1) := by decide +kernel
theorem d3_20 : decode prog_87_method_2_code 20 = .ok (.aload 4, 2) := by decide +kernel
theorem d3_22 : decode prog_87_method_2_code 22 = .ok (.ifnonnull 7, 3) := by decide +kernel
theorem d3_25 : decode prog_87_method_2_code 25 = .ok (.aconst_null, 1) := by decide +kernel
theorem d3_26 : decode prog_87_method_2_code 26 = .ok (.goto 11, 3) := by decide +kernel
theorem d3_37 : decode prog_87_method_2_code 37 = .ok (.putfield 30, 3) := by decide +kernel
theorem d3_40 : decode prog_87_method_2_code 40 = .ok (.return_, 1) := by decide +kernel
set_option maxRecDepth 65536 in
set_option maxHeartbeats 40000000 in
theorem co3 (l : Launch) (Z : State) (a0 : Array Value) (hw : ∀ d ∈ tables_1, d.before a0 Z = true) (a : Addr) (d : Addr) (sg : Value) (tr : Value) (h0 : Heap) (n0 : Nat) (Z0 : n0 ≤ h0.size) (h_sg : sg.isRef = true) (h_tr : tr.isRef = true) (g_a : n0 ≤ a) (E_a : Exa Z h0 a "com/example/weigh/weigh/tariff/CallSelector") (F_direction : Fld Z h0 a "com/example/weigh/weigh/tariff/CallSelector" "direction" "Lcom/example/weigh/weigh/usage/UsageLayout$Direction;" .null) (F_signaling : Fld Z h0 a "com/example/weigh/weigh/tariff/CallSelector" "signaling" "Lcom/example/weigh/weigh/usage/UsageLayout$Signaling;" .null) (F_trunkRouting : Fld Z h0 a "com/example/weigh/weigh/tariff/CallSelector" "trunkRouting" "Lcom/example/weigh/weigh/usage/UsageLayout$TrunkRouting;" .null) (F_calledAreaCodes : Fld Z h0 a "com/example/weigh/weigh/tariff/CallSelector" "calledAreaCodes" "Ljava/util/BitSet;" .null) : Co l (⟨"com/example/weigh/weigh/tariff/CallSelector", "<init>", "(Lcom/example/weigh/weigh/usage/UsageLayout$Direction;Lcom/example/weigh/weigh/usage/UsageLayout$Signaling;Lcom/example/weigh/weigh/usage/UsageLayout$TrunkRouting;Ljava/util/BitSet;)V"⟩ : MethodName) prog_87_method_2_code 5 none [] ({ frames := 1, cells := 0, slots := 0, locals := 12 } : Room) Z h0 #[(.ref a), (.ref d), sg, tr, .null] (Q3 Z a d sg tr h0 n0) := by
  refine Co.of (plainFor_of_name pn_1) ?_
  intro p_ e_ s_ m_ below meth c_ T0 X0 hx hby hml hown hnm hret hlk hZ eq0
  have N0 := Fr.nil n0
  refine Go.cast (ef3 m_ a d sg tr h_sg h_tr) ?_
  refine g_aloadN X0 hx rfl rfl (hb hby d3_0) 1 rfl ?_
  refine g_initO X0 hx hZ hown (wd hw 17 rfl) (wd hw 18 rfl) (wd hw 19 rfl) eq0 (by rw [hml]; rfl) (hb hby d3_1) (by decide) 0 (Nat.le_of_eq rfl) (by decide) 4 rfl (fun T101 X102 e103 => ?_)
  show Go p_ e_ below _ T101 (mkF m_ 4 #[.val (.ref a), .val (.ref d), .val sg, .val tr, .val .null] [])
  refine g_aloadN X102 hx rfl rfl (hb hby d3_4) 5 rfl ?_
  refine g_aloadN X102 hx rfl rfl (hb hby d3_5) 6 rfl ?_
  refine g_putfield X102 hx hZ hown (host := "") (Or.inl (wd hw 20 rfl)) Via.refl e103 F_direction E_a (Or.inr ⟨(wd hw 21 rfl), rfl, hnm⟩) (wd hw 2 rfl) (ty := (.object "com/example/weigh/weigh/usage/UsageLayout$Direction")) (by decide) rfl rfl (hb hby d3_6) 9 rfl (fun T104 h105 X106 e107 W108 => ?_)
  have F109 := E_a.wr W108
  have F110 := F_direction.same W108
  have F111 := F_signaling.other W108 (Or.inr (slot_ne (Or.inr (wd hw 23 rfl)) (Or.inr (wd hw 21 rfl)) (by decide) (t := (.object "com/example/weigh/weigh/usage/UsageLayout$Signaling")) (t' := (.object "com/example/weigh/weigh/usage/UsageLayout$Direction")) (by decide) (by decide)))
  have F112 := F_trunkRouting.other W108 (Or.inr (slot_ne (Or.inr (wd hw 25 rfl)) (Or.inr (wd hw 21 rfl)) (by decide) (t := (.object "com/example/weigh/weigh/usage/UsageLayout$TrunkRouting")) (t' := (.object "com/example/weigh/weigh/usage/UsageLayout$Direction")) (by decide) (by decide)))
  have F113 := F_calledAreaCodes.other W108 (Or.inr (slot_ne (Or.inr (wd hw 27 rfl)) (Or.inr (wd hw 21 rfl)) (by decide) (t := (.object "java/util/BitSet")) (t' := (.object "com/example/weigh/weigh/usage/UsageLayout$Direction")) (by decide) (by decide)))
  have N114 := Fr.snoc X106 N0 g_a
  have szh115 : n0 ≤ h105.size := Nat.le_trans Z0 (Nat.le_of_eq W108.size.symm)
  have K116 := (Keep.refl h0 [a]).wr W108 (Or.inl (List.mem_of_getElem? (i := 0) rfl))
  show Go p_ e_ below _ T104 (mkF m_ 9 #[.val (.ref a), .val (.ref d), .val sg, .val tr, .val .null] [])
  refine g_aloadN X106 hx rfl rfl (hb hby d3_9) 10 rfl ?_
  refine g_aloadN X106 hx rfl h_sg (hb hby d3_10) 11 rfl ?_
  refine g_putfield X106 hx hZ hown (host := "") (Or.inl (wd hw 22 rfl)) Via.refl e107 F111 F109 (Or.inr ⟨(wd hw 23 rfl), rfl, hnm⟩) (wd hw 2 rfl) (ty := (.object "com/example/weigh/weigh/usage/UsageLayout$Signaling")) (by decide) (by cases sg <;> rfl) (by rcases ref_cases h_sg with rfl | ⟨_, rfl⟩ <;> rfl) (hb hby d3_11) 14 rfl (fun T117 h118 X119 e120 W121 => ?_)
  have F122 := F109.wr W121
  have F123 := F110.other W121 (Or.inr (slot_ne (Or.inr (wd hw 21 rfl)) (Or.inr (wd hw 23 rfl)) (by decide) (t := (.object "com/example/weigh/weigh/usage/UsageLayout$Direction")) (t' := (.object "com/example/weigh/weigh/usage/UsageLayout$Signaling")) (by decide) (by decide)))
  have F124 := F111.same W121
  have F125 := F112.other W121 (Or.inr (slot_ne (Or.inr (wd hw 25 rfl)) (Or.inr (wd hw 23 rfl)) (by decide) (t := (.object "com/example/weigh/weigh/usage/UsageLayout$TrunkRouting")) (t' := (.object "com/example/weigh/weigh/usage/UsageLayout$Signaling")) (by decide) (by decide)))
  have F126 := F113.other W121 (Or.inr (slot_ne (Or.inr (wd hw 27 rfl)) (Or.inr (wd hw 23 rfl)) (by decide) (t := (.object "java/util/BitSet")) (t' := (.object "com/example/weigh/weigh/usage/UsageLayout$Signaling")) (by decide) (by decide)))
  have N127 := Fr.snoc X119 N114 g_a
  have szh128 : n0 ≤ h118.size := Nat.le_trans szh115 (Nat.le_of_eq W121.size.symm)
  have K129 := K116.wr W121 (Or.inl (List.mem_of_getElem? (i := 0) rfl))
  show Go p_ e_ below _ T117 (mkF m_ 14 #[.val (.ref a), .val (.ref d), .val sg, .val tr, .val .null] [])
  refine g_aloadN X119 hx rfl rfl (hb hby d3_14) 15 rfl ?_
  refine g_aloadN X119 hx rfl h_tr (hb hby d3_15) 16 rfl ?_
  refine g_putfield X119 hx hZ hown (host := "") (Or.inl (wd hw 24 rfl)) Via.refl e120 F125 F122 (Or.inr ⟨(wd hw 25 rfl), rfl, hnm⟩) (wd hw 2 rfl) (ty := (.object "com/example/weigh/weigh/usage/UsageLayout$TrunkRouting")) (by decide) (by cases tr <;> rfl) (by rcases ref_cases h_tr with rfl | ⟨_, rfl⟩ <;> rfl) (hb hby d3_16) 19 rfl (fun T130 h131 X132 e133 W134 => ?_)
  have F135 := F122.wr W134
  have F136 := F123.other W134 (Or.inr (slot_ne (Or.inr (wd hw 21 rfl)) (Or.inr (wd hw 25 rfl)) (by decide) (t := (.object "com/example/weigh/weigh/usage/UsageLayout$Direction")) (t' := (.object "com/example/weigh/weigh/usage/UsageLayout$TrunkRouting")) (by decide) (by decide)))
  have F137 := F124.other W134 (Or.inr (slot_ne (Or.inr (wd hw 23 rfl)) (Or.inr (wd hw 25 rfl)) (by decide) (t := (.object "com/example/weigh/weigh/usage/UsageLayout$Signaling")) (t' := (.object "com/example/weigh/weigh/usage/UsageLayout$TrunkRouting")) (by decide) (by decide)))
  have F138 := F125.same W134
  have F139 := F126.other W134 (Or.inr (slot_ne (Or.inr (wd hw 27 rfl)) (Or.inr (wd hw 25 rfl)) (by decide) (t := (.object "java/util/BitSet")) (t' := (.object "com/example/weigh/weigh/usage/UsageLayout$TrunkRouting")) (by decide) (by decide)))
  have N140 := Fr.snoc X132 N127 g_a
  have szh141 : n0 ≤ h131.size := Nat.le_trans szh128 (Nat.le_of_eq W134.size.symm)
  have K142 := K129.wr W134 (Or.inl (List.mem_of_getElem? (i := 0) rfl))
  show Go p_ e_ below _ T130 (mkF m_ 19 #[.val (.ref a), .val (.ref d), .val sg, .val tr, .val .null] [])
  refine g_aloadN X132 hx rfl rfl (hb hby d3_19) 20 rfl ?_
  refine g_aload X132 hx rfl rfl (hb hby d3_20) 22 rfl ?_
  refine g_ifnonnull X132 hx rfl (hb hby d3_22) 29 25 (by decide) rfl rfl (fun q22 => ?_) (fun q22 => ?_)
  · exact absurd rfl q22
  · refine g_aconst_null X132 hx (hb hby d3_25) 26 rfl ?_
    refine g_goto X132 hx (hb hby d3_26) 37 (by decide) rfl ?_
    refine g_putfield X132 hx hZ hown (host := "") (Or.inl (wd hw 26 rfl)) Via.refl e133 F139 F135 (Or.inr ⟨(wd hw 27 rfl), rfl, hnm⟩) (wd hw 2 rfl) (ty := (.object "java/util/BitSet")) (by decide) rfl rfl (hb hby d3_37) 40 rfl (fun T143 h144 X145 e146 W147 => ?_)
    have F148 := F135.wr W147
    have F149 := F136.other W147 (Or.inr (slot_ne (Or.inr (wd hw 21 rfl)) (Or.inr (wd hw 27 rfl)) (by decide) (t := (.object "com/example/weigh/weigh/usage/UsageLayout$Direction")) (t' := (.object "java/util/BitSet")) (by decide) (by decide)))
    have F150 := F137.other W147 (Or.inr (slot_ne (Or.inr (wd hw 23 rfl)) (Or.inr (wd hw 27 rfl)) (by decide) (t := (.object "com/example/weigh/weigh/usage/UsageLayout$Signaling")) (t' := (.object "java/util/BitSet")) (by decide) (by decide)))
    have F151 := F138.other W147 (Or.inr (slot_ne (Or.inr (wd hw 25 rfl)) (Or.inr (wd hw 27 rfl)) (by decide) (t := (.object "com/example/weigh/weigh/usage/UsageLayout$TrunkRouting")) (t' := (.object "java/util/BitSet")) (by decide) (by decide)))
    have F152 := F139.same W147
    have N153 := Fr.snoc X145 N140 g_a
    have szh154 : n0 ≤ h144.size := Nat.le_trans szh141 (Nat.le_of_eq W147.size.symm)
    have K155 := K142.wr W147 (Or.inl (List.mem_of_getElem? (i := 0) rfl))
    show Go p_ e_ below _ T143 (mkF m_ 40 #[.val (.ref a), .val (.ref d), .val sg, .val tr, .val .null] [])
    exact g_retv X145 hx hret hlk (by decide) (by decide) (hb hby d3_40) (by rw [e146]; exact ⟨rfl, N153, K155, F148, F149, F150, F151⟩)
def Q2 (Z : State) (a : Addr) (d : Addr) (sg : Value) (tr : Value) (h0 : Heap) (n0 : Nat) (v : Option Value) (h : Heap) (L : List Loc) : Prop := v = none ∧ Fr n0 L ∧ Keep h0 h [a] ∧ Exa Z h a "com/example/weigh/weigh/tariff/CallSelector" ∧ Fld Z h a "com/example/weigh/weigh/tariff/CallSelector" "direction" "Lcom/example/weigh/weigh/usage/UsageLayout$Direction;" (.ref d) ∧ Fld Z h a "com/example/weigh/weigh/tariff/CallSelector" "signaling" "Lcom/example/weigh/weigh/usage/UsageLayout$Signaling;" sg ∧ Fld Z h a "com/example/weigh/weigh/tariff/CallSelector" "trunkRouting" "Lcom/example/weigh/weigh/usage/UsageLayout$TrunkRouting;" tr
theorem ef2 (m_ : MethodId) (a : Addr) (d : Addr) (sg : Value) (tr : Value) (h_sg : sg.isRef = true) (h_tr : tr.isRef = true) : entryFrame m_ #[(.ref a), (.ref d), sg, tr] 4 = mkF m_ 0 #[.val (.ref a), .val (.ref d), .val sg, .val tr] [] := by rcases ref_cases h_sg with rfl | ⟨_, rfl⟩ <;> rcases ref_cases h_tr with rfl | ⟨_, rfl⟩ <;> first | (simp [entryFrame, mkF, argsToLocals, Value.category]; done) | rfl
theorem d2_0 : decode prog_87_method_1_code 0 = .ok (.aload_n 0, 1) := by decide +kernel
theorem d2_1 : decode prog_87_method_1_code 1 = .ok (.aload_n 1, 1) := by decide +kernel
theorem d2_2 : decode prog_87_method_1_code 2 = .ok (.aload_n 2, 1) := by decide +kernel
theorem d2_3 : decode prog_87_method_1_code 3 = .ok (.aload_n 3, 1) := by decide +kernel
theorem d2_4 : decode prog_87_method_1_code 4 = .ok (.aconst_null, 1) := by decide +kernel
theorem pd_0 : parseMethodDescriptor "(Lcom/example/weigh/weigh/usage/UsageLayout$Direction;Lcom/example/weigh/weigh/usage/UsageLayout$Signaling;Lcom/example/weigh/weigh/usage/UsageLayout$TrunkRouting;Ljava/util/BitSet;)V" = some ⟨[(.object "com/example/weigh/weigh/usage/UsageLayout$Direction"), (.object "com/example/weigh/weigh/usage/UsageLayout$Signaling"), (.object "com/example/weigh/weigh/usage/UsageLayout$TrunkRouting"), (.object "java/util/BitSet")], none⟩ := by decide +kernel
theorem d2_5 : decode prog_87_method_1_code 5 = .ok (.invokespecial 1, 3) := by decide +kernel
theorem d2_8 : decode prog_87_method_1_code 8 = .ok (.return_, 1) := by decide +kernel
set_option maxRecDepth 65536 in
set_option maxHeartbeats 40000000 in
theorem co2 (l : Launch) (Z : State) (a0 : Array Value) (hw : ∀ d ∈ tables_1, d.before a0 Z = true) (a : Addr) (d : Addr) (sg : Value) (tr : Value) (h0 : Heap) (n0 : Nat) (Z0 : n0 ≤ h0.size) (h_sg : sg.isRef = true) (h_tr : tr.isRef = true) (g_a : n0 ≤ a) (E_a : Exa Z h0 a "com/example/weigh/weigh/tariff/CallSelector") (F_direction : Fld Z h0 a "com/example/weigh/weigh/tariff/CallSelector" "direction" "Lcom/example/weigh/weigh/usage/UsageLayout$Direction;" .null) (F_signaling : Fld Z h0 a "com/example/weigh/weigh/tariff/CallSelector" "signaling" "Lcom/example/weigh/weigh/usage/UsageLayout$Signaling;" .null) (F_trunkRouting : Fld Z h0 a "com/example/weigh/weigh/tariff/CallSelector" "trunkRouting" "Lcom/example/weigh/weigh/usage/UsageLayout$TrunkRouting;" .null) (F_calledAreaCodes : Fld Z h0 a "com/example/weigh/weigh/tariff/CallSelector" "calledAreaCodes" "Ljava/util/BitSet;" .null) : Co l (⟨"com/example/weigh/weigh/tariff/CallSelector", "<init>", "(Lcom/example/weigh/weigh/usage/UsageLayout$Direction;Lcom/example/weigh/weigh/usage/UsageLayout$Signaling;Lcom/example/weigh/weigh/usage/UsageLayout$TrunkRouting;)V"⟩ : MethodName) prog_87_method_1_code 4 none [] ({ frames := 2, cells := 0, slots := 0, locals := 28 } : Room) Z h0 #[(.ref a), (.ref d), sg, tr] (Q2 Z a d sg tr h0 n0) := by
  refine Co.of (plainFor_of_name pn_1) ?_
  intro p_ e_ s_ m_ below meth c_ T0 X0 hx hby hml hown hnm hret hlk hZ eq0
  have N0 := Fr.nil n0
  refine Go.cast (ef2 m_ a d sg tr h_sg h_tr) ?_
  refine g_aloadN X0 hx rfl rfl (hb hby d2_0) 1 rfl ?_
  refine g_aloadN X0 hx rfl rfl (hb hby d2_1) 2 rfl ?_
  refine g_aloadN X0 hx rfl h_sg (hb hby d2_2) 3 rfl ?_
  refine g_aloadN X0 hx rfl h_tr (hb hby d2_3) 4 rfl ?_
  refine g_aconst_null X0 hx (hb hby d2_4) 5 rfl ?_
  refine g_init X0 hx hZ hown (wd hw 14 rfl) rfl (wd hw 15 rfl) (wd hw 3 rfl) (wd hw 16 rfl) (by decide) eq0 [(.ref d), sg, tr, .null] [] rfl (co3 l Z a0 hw a d sg tr h0 n0 Z0 h_sg h_tr g_a E_a F_direction F_signaling F_trunkRouting F_calledAreaCodes) (lenOf pd_0 rfl) 0 (Nat.le_of_eq rfl) (by decide) (by decide) (by decide) (by decide) (by rw [hml]; rfl) (hb hby d2_5) 8 rfl (fun r101 T102 L103 X104 Q105 => ?_)
  obtain ⟨h106, e107⟩ : ∃ h, T102.heap = h := ⟨_, rfl⟩
  rw [e107] at Q105
  obtain ⟨rfl, n108, K109, E110, F111, F112, F113⟩ := Q105
  have N114 := Fr.app N0 n108
  have F115 := E_a.keep K109
  have szh116 : n0 ≤ h106.size := Nat.le_trans Z0 K109.1
  have K117 := (Keep.refl h0 [a]).trans K109 (allS (Or.inl (List.mem_of_getElem? (i := 0) rfl)) all0)
  show Go p_ e_ below _ T102 (mkF m_ 8 #[.val (.ref a), .val (.ref d), .val sg, .val tr] [])
  exact g_retv X104 hx hret hlk (by decide) (by decide) (hb hby d2_8) (by rw [e107]; exact ⟨rfl, N114, K117, E110, F111, F112, F113⟩)
theorem d7_0 : decode prog_87_method_3_code 0 = .ok (.aload_n 0, 1) := by decide +kernel
theorem d7_1 : decode prog_87_method_3_code 1 = .ok (.getfield 12, 3) := by decide +kernel
theorem d7_4 : decode prog_87_method_3_code 4 = .ok (.aload_n 1, 1) := by decide +kernel
theorem d7_5 : decode prog_87_method_3_code 5 = .ok (.if_acmp .ne 37, 3) := by decide +kernel
theorem d7_42 : decode prog_87_method_3_code 42 = .ok (.iconst 0, 1) := by decide +kernel
theorem d7_8 : decode prog_87_method_3_code 8 = .ok (.aload_n 0, 1) := by decide +kernel
theorem d7_9 : decode prog_87_method_3_code 9 = .ok (.getfield 16, 3) := by decide +kernel
theorem d7_12 : decode prog_87_method_3_code 12 = .ok (.ifnull 11, 3) := by decide +kernel
theorem d7_23 : decode prog_87_method_3_code 23 = .ok (.aload_n 0, 1) := by decide +kernel
theorem d7_24 : decode prog_87_method_3_code 24 = .ok (.getfield 20, 3) := by decide +kernel
theorem d7_27 : decode prog_87_method_3_code 27 = .ok (.ifnull 11, 3) := by decide +kernel
theorem d7_38 : decode prog_87_method_3_code 38 = .ok (.iconst 1, 1) := by decide +kernel
theorem d7_39 : decode prog_87_method_3_code 39 = .ok (.goto 4, 3) := by decide +kernel
theorem d7_30 : decode prog_87_method_3_code 30 = .ok (.aload_n 0, 1) := by decide +kernel
theorem d7_31 : decode prog_87_method_3_code 31 = .ok (.getfield 20, 3) := by decide +kernel
theorem d7_34 : decode prog_87_method_3_code 34 = .ok (.aload_n 3, 1) := by decide +kernel
theorem d7_35 : decode prog_87_method_3_code 35 = .ok (.if_acmp .ne 7, 3) := by decide +kernel
theorem d7_15 : decode prog_87_method_3_code 15 = .ok (.aload_n 0, 1) := by decide +kernel
theorem d7_16 : decode prog_87_method_3_code 16 = .ok (.getfield 16, 3) := by decide +kernel
theorem d7_19 : decode prog_87_method_3_code 19 = .ok (.aload_n 2, 1) := by decide +kernel
theorem d7_20 : decode prog_87_method_3_code 20 = .ok (.if_acmp .ne 22, 3) := by decide +kernel
def f7 (a : Addr) (d : Addr) (s : Addr) (r : Addr) (sd : Addr) (ss : Value) (sr : Value) : Int32 := if (Value.ref sd) = (Value.ref d) then (if ss = Value.null then (if sr = Value.null then ((1 : Int32) &&& 1) else (if sr = (Value.ref r) then ((1 : Int32) &&& 1) else ((0 : Int32) &&& 1))) else (if ss = (Value.ref s) then (if sr = Value.null then ((1 : Int32) &&& 1) else (if sr = (Value.ref r) then ((1 : Int32) &&& 1) else ((0 : Int32) &&& 1))) else ((0 : Int32) &&& 1))) else ((0 : Int32) &&& 1)
theorem ef7 (m_ : MethodId) (a : Addr) (d : Addr) (s : Addr) (r : Addr)  : entryFrame m_ #[(.ref a), (.ref d), (.ref s), (.ref r)] 4 = mkF m_ 0 #[.val (.ref a), .val (.ref d), .val (.ref s), .val (.ref r)] [] := by first | (simp [entryFrame, mkF, argsToLocals, Value.category]; done) | rfl
theorem d7_43 : decode prog_87_method_3_code 43 = .ok (.ireturn, 1) := by decide +kernel
set_option maxRecDepth 65536 in
set_option maxHeartbeats 40000000 in
theorem co7 (l : Launch) (Z : State) (a0 : Array Value) (hw : ∀ d ∈ tables_1, d.before a0 Z = true) (a : Addr) (d : Addr) (s : Addr) (r : Addr) (sd : Addr) (ss : Value) (sr : Value) (h0 : Heap) (h_ss : ss.isRef = true) (h_sr : sr.isRef = true) (F_direction : Fld Z h0 a "com/example/weigh/weigh/tariff/CallSelector" "direction" "Lcom/example/weigh/weigh/usage/UsageLayout$Direction;" (.ref sd)) (F_signaling : Fld Z h0 a "com/example/weigh/weigh/tariff/CallSelector" "signaling" "Lcom/example/weigh/weigh/usage/UsageLayout$Signaling;" ss) (F_trunkRouting : Fld Z h0 a "com/example/weigh/weigh/tariff/CallSelector" "trunkRouting" "Lcom/example/weigh/weigh/usage/UsageLayout$TrunkRouting;" sr) : Co l (⟨"com/example/weigh/weigh/tariff/CallSelector", "matches", "(Lcom/example/weigh/weigh/usage/UsageLayout$Direction;Lcom/example/weigh/weigh/usage/UsageLayout$Signaling;Lcom/example/weigh/weigh/usage/UsageLayout$TrunkRouting;)Z"⟩ : MethodName) prog_87_method_3_code 4 (some .boolean) [] ({ frames := 0, cells := 0, slots := 0, locals := 0 } : Room) Z h0 #[(.ref a), (.ref d), (.ref s), (.ref r)] (Pu h0 (some (.int (f7 a d s r sd ss sr)))) := by
  refine Co.of (plainFor_of_name pn_1) ?_
  intro p_ e_ s_ m_ below meth c_ T0 X0 hx hby hml hown hnm hret hlk hZ eq0
  refine Go.cast (ef7 m_ a d s r ) ?_
  refine g_aloadN X0 hx rfl rfl (hb hby d7_0) 1 rfl ?_
  refine g_getfield X0 hx hZ hown (host := "") (Or.inl (wd hw 20 rfl)) Via.refl F_direction eq0 (hb hby d7_1) 4 rfl (fun T101 X102 e103 => ?_)
  show Go p_ e_ below _ T101 (mkF m_ 4 #[.val (.ref a), .val (.ref d), .val (.ref s), .val (.ref r)] [(.ref sd)])
  refine g_aloadN X102 hx rfl rfl (hb hby d7_4) 5 rfl ?_
  refine g_acmp_ne X102 hx rfl rfl (hb hby d7_5) 42 8 (by decide) rfl rfl (fun q5 => ?_) (fun q5 => ?_)
  · refine g_iconst X102 hx (0 : Int32) rfl (hb hby d7_42) 43 rfl ?_
    exact g_retz X102 hx hret hlk (by decide) (by decide) (hb hby d7_43) ⟨congrArg (fun z => some (Value.int z)) (show f7 a d s r sd ss sr = _ from ((if_neg q5).trans rfl)).symm, e103, rfl⟩
  · refine g_aloadN X102 hx rfl rfl (hb hby d7_8) 9 rfl ?_
    refine g_getfield X102 hx hZ hown (host := "") (Or.inl (wd hw 22 rfl)) Via.refl F_signaling e103 (hb hby d7_9) 12 rfl (fun T104 X105 e106 => ?_)
    show Go p_ e_ below _ T104 (mkF m_ 12 #[.val (.ref a), .val (.ref d), .val (.ref s), .val (.ref r)] [ss])
    refine g_ifnull X105 hx h_ss (hb hby d7_12) 23 15 (by decide) rfl rfl (fun q12 => ?_) (fun q12 => ?_)
    · refine g_aloadN X105 hx rfl rfl (hb hby d7_23) 24 rfl ?_
      refine g_getfield X105 hx hZ hown (host := "") (Or.inl (wd hw 24 rfl)) Via.refl F_trunkRouting e106 (hb hby d7_24) 27 rfl (fun T107 X108 e109 => ?_)
      show Go p_ e_ below _ T107 (mkF m_ 27 #[.val (.ref a), .val (.ref d), .val (.ref s), .val (.ref r)] [sr])
      refine g_ifnull X108 hx h_sr (hb hby d7_27) 38 30 (by decide) rfl rfl (fun q27 => ?_) (fun q27 => ?_)
      · refine g_iconst X108 hx (1 : Int32) rfl (hb hby d7_38) 39 rfl ?_
        refine g_goto X108 hx (hb hby d7_39) 43 (by decide) rfl ?_
        exact g_retz X108 hx hret hlk (by decide) (by decide) (hb hby d7_43) ⟨congrArg (fun z => some (Value.int z)) (show f7 a d s r sd ss sr = _ from ((if_pos q5).trans ((if_pos q12).trans ((if_pos q27).trans rfl)))).symm, e109, rfl⟩
      · refine g_aloadN X108 hx rfl rfl (hb hby d7_30) 31 rfl ?_
        refine g_getfield X108 hx hZ hown (host := "") (Or.inl (wd hw 24 rfl)) Via.refl F_trunkRouting e109 (hb hby d7_31) 34 rfl (fun T110 X111 e112 => ?_)
        show Go p_ e_ below _ T110 (mkF m_ 34 #[.val (.ref a), .val (.ref d), .val (.ref s), .val (.ref r)] [sr])
        refine g_aloadN X111 hx rfl rfl (hb hby d7_34) 35 rfl ?_
        refine g_acmp_ne X111 hx h_sr rfl (hb hby d7_35) 42 38 (by decide) rfl rfl (fun q35 => ?_) (fun q35 => ?_)
        · refine g_iconst X111 hx (0 : Int32) rfl (hb hby d7_42) 43 rfl ?_
          exact g_retz X111 hx hret hlk (by decide) (by decide) (hb hby d7_43) ⟨congrArg (fun z => some (Value.int z)) (show f7 a d s r sd ss sr = _ from ((if_pos q5).trans ((if_pos q12).trans ((if_neg q27).trans ((if_neg q35).trans rfl))))).symm, e112, rfl⟩
        · refine g_iconst X111 hx (1 : Int32) rfl (hb hby d7_38) 39 rfl ?_
          refine g_goto X111 hx (hb hby d7_39) 43 (by decide) rfl ?_
          exact g_retz X111 hx hret hlk (by decide) (by decide) (hb hby d7_43) ⟨congrArg (fun z => some (Value.int z)) (show f7 a d s r sd ss sr = _ from ((if_pos q5).trans ((if_pos q12).trans ((if_neg q27).trans ((if_pos q35).trans rfl))))).symm, e112, rfl⟩
    · refine g_aloadN X105 hx rfl rfl (hb hby d7_15) 16 rfl ?_
      refine g_getfield X105 hx hZ hown (host := "") (Or.inl (wd hw 22 rfl)) Via.refl F_signaling e106 (hb hby d7_16) 19 rfl (fun T113 X114 e115 => ?_)
      show Go p_ e_ below _ T113 (mkF m_ 19 #[.val (.ref a), .val (.ref d), .val (.ref s), .val (.ref r)] [ss])
      refine g_aloadN X114 hx rfl rfl (hb hby d7_19) 20 rfl ?_
      refine g_acmp_ne X114 hx h_ss rfl (hb hby d7_20) 42 23 (by decide) rfl rfl (fun q20 => ?_) (fun q20 => ?_)
      · refine g_iconst X114 hx (0 : Int32) rfl (hb hby d7_42) 43 rfl ?_
        exact g_retz X114 hx hret hlk (by decide) (by decide) (hb hby d7_43) ⟨congrArg (fun z => some (Value.int z)) (show f7 a d s r sd ss sr = _ from ((if_pos q5).trans ((if_neg q12).trans ((if_neg q20).trans rfl)))).symm, e115, rfl⟩
      · refine g_aloadN X114 hx rfl rfl (hb hby d7_23) 24 rfl ?_
        refine g_getfield X114 hx hZ hown (host := "") (Or.inl (wd hw 24 rfl)) Via.refl F_trunkRouting e115 (hb hby d7_24) 27 rfl (fun T116 X117 e118 => ?_)
        show Go p_ e_ below _ T116 (mkF m_ 27 #[.val (.ref a), .val (.ref d), .val (.ref s), .val (.ref r)] [sr])
        refine g_ifnull X117 hx h_sr (hb hby d7_27) 38 30 (by decide) rfl rfl (fun q27 => ?_) (fun q27 => ?_)
        · refine g_iconst X117 hx (1 : Int32) rfl (hb hby d7_38) 39 rfl ?_
          refine g_goto X117 hx (hb hby d7_39) 43 (by decide) rfl ?_
          exact g_retz X117 hx hret hlk (by decide) (by decide) (hb hby d7_43) ⟨congrArg (fun z => some (Value.int z)) (show f7 a d s r sd ss sr = _ from ((if_pos q5).trans ((if_neg q12).trans ((if_pos q20).trans ((if_pos q27).trans rfl))))).symm, e118, rfl⟩
        · refine g_aloadN X117 hx rfl rfl (hb hby d7_30) 31 rfl ?_
          refine g_getfield X117 hx hZ hown (host := "") (Or.inl (wd hw 24 rfl)) Via.refl F_trunkRouting e118 (hb hby d7_31) 34 rfl (fun T119 X120 e121 => ?_)
          show Go p_ e_ below _ T119 (mkF m_ 34 #[.val (.ref a), .val (.ref d), .val (.ref s), .val (.ref r)] [sr])
          refine g_aloadN X120 hx rfl rfl (hb hby d7_34) 35 rfl ?_
          refine g_acmp_ne X120 hx h_sr rfl (hb hby d7_35) 42 38 (by decide) rfl rfl (fun q35 => ?_) (fun q35 => ?_)
          · refine g_iconst X120 hx (0 : Int32) rfl (hb hby d7_42) 43 rfl ?_
            exact g_retz X120 hx hret hlk (by decide) (by decide) (hb hby d7_43) ⟨congrArg (fun z => some (Value.int z)) (show f7 a d s r sd ss sr = _ from ((if_pos q5).trans ((if_neg q12).trans ((if_pos q20).trans ((if_neg q27).trans ((if_neg q35).trans rfl)))))).symm, e121, rfl⟩
          · refine g_iconst X120 hx (1 : Int32) rfl (hb hby d7_38) 39 rfl ?_
            refine g_goto X120 hx (hb hby d7_39) 43 (by decide) rfl ?_
            exact g_retz X120 hx hret hlk (by decide) (by decide) (hb hby d7_43) ⟨congrArg (fun z => some (Value.int z)) (show f7 a d s r sd ss sr = _ from ((if_pos q5).trans ((if_neg q12).trans ((if_pos q20).trans ((if_neg q27).trans ((if_pos q35).trans rfl)))))).symm, e121, rfl⟩
theorem own_b2 (x : Int32) : x &&& (1 : Int32) = 0 ∨ x &&& (1 : Int32) = 1 := and_one x
theorem own_b4 (x : Int32) : x &&& (3 : Int32) = 0 ∨ x &&& (3 : Int32) = 1 ∨ x &&& (3 : Int32) = 2 ∨ x &&& (3 : Int32) = 3 := by
  have e : (x &&& (3 : Int32)).toInt = x.toInt % (2 ^ 2 : Nat) := c_mask x 3 2 (by decide) (by decide)
  simp only [← Int32.toInt_inj, Int32.reduceToInt]
  omega
theorem own_b3 (x : Int32) : (x &&& (2147483647 : Int32)) % (3 : Int32) = 0 ∨ (x &&& (2147483647 : Int32)) % (3 : Int32) = 1 ∨ (x &&& (2147483647 : Int32)) % (3 : Int32) = 2 := by
  have e : (x &&& (2147483647 : Int32)).toInt = x.toInt % (2 ^ 31 : Nat) := c_mask x 2147483647 31 (by decide) (by decide)
  have e2 := (c_irem (x &&& (2147483647 : Int32)) (3 : Int32) 3 (by decide)).1 (by omega)
  simp only [← Int32.toInt_inj, Int32.reduceToInt]
  omega
theorem own_dir (x y : Int32) (p q : Addr) (hx : x = 0 ∨ x = 1) (hy : y = 0 ∨ y = 1) (ne : p ≠ q) : (Value.ref (f1 x p q) = Value.ref (f1 y p q)) ↔ x = y := by
  have ne' := ne.symm
  rcases hx with rfl | rfl <;> rcases hy with rfl | rfl <;> simp [f1, ne, ne']
theorem own_rt (x y : Int32) (p q : Addr) (hx : x = 0 ∨ x = 1) (hy : y = 0 ∨ y = 1) (ne : p ≠ q) : (Value.ref (f6 x p q) = Value.ref (f6 y p q)) ↔ x = y := by
  have ne' := ne.symm
  rcases hx with rfl | rfl <;> rcases hy with rfl | rfl <;> simp [f6, ne, ne']
theorem own_sig (x y : Int32) (p q r : Addr) (hx : x = 0 ∨ x = 1 ∨ x = 2) (hy : y = 0 ∨ y = 1 ∨ y = 2) (n1 : p ≠ q) (n2 : p ≠ r) (n3 : q ≠ r) : (Value.ref (f5 x p q r) = Value.ref (f5 y p q r)) ↔ x = y := by
  have n1' := n1.symm
  have n2' := n2.symm
  have n3' := n3.symm
  rcases hx with rfl | rfl | rfl <;> rcases hy with rfl | rfl | rfl <;> simp [f5, n1, n2, n3, n1', n2', n3']
theorem own_fin (d cd s cs r cr : Int32) (o t mf ss7 sip di ta : Addr) (a : Addr) (hd : d = 0 ∨ d = 1) (hcd : cd = 0 ∨ cd = 1) (hs : s = 0 ∨ s = 1 ∨ s = 2 ∨ s = 3) (hcs : cs = 0 ∨ cs = 1 ∨ cs = 2) (hr : r = 0 ∨ r = 1 ∨ r = 2) (hcr : cr = 0 ∨ cr = 1)
    (n1 : o ≠ t) (n2 : mf ≠ ss7) (n3 : mf ≠ sip) (n4 : ss7 ≠ sip) (n5 : di ≠ ta) :
    f7 a (f1 cd o t) (f5 cs mf ss7 sip) (f6 cr di ta) (f1 d o t) (if s = (3 : Int32) then .null else (.ref (f5 s mf ss7 sip))) (if r = (2 : Int32) then .null else (.ref (f6 r di ta)))
      = (if d = cd then (if s = (3 : Int32) then (if r = (2 : Int32) then (1 : Int32) else (if r = cr then (1 : Int32) else (0 : Int32))) else (if s = cs then (if r = (2 : Int32) then (1 : Int32) else (if r = cr then (1 : Int32) else (0 : Int32))) else (0 : Int32))) else (0 : Int32)) := by
  unfold f7
  have hdd := own_dir d cd o t hd hcd n1
  by_cases h1 : d = cd
  · rw [if_pos (hdd.mpr h1), if_pos h1]
    have hrr : ∀ h : ¬ r = 2, ((if r = (2 : Int32) then (Value.null) else (.ref (f6 r di ta))) = Value.null ↔ False) ∧ ((if r = (2 : Int32) then (Value.null) else (.ref (f6 r di ta))) = .ref (f6 cr di ta) ↔ r = cr) := fun h => by
      rw [if_neg h]; exact ⟨by simp, own_rt r cr di ta (by rcases hr with q | q | q; exact Or.inl q; exact Or.inr q; exact absurd q h) hcr n5⟩
    by_cases h2 : s = 3
    · simp only [if_pos h2, if_true]
      by_cases h3 : r = 2
      · simp only [if_pos h3, if_true]; rfl
      · rw [if_neg (fun q => (hrr h3).1.mp q)]
        by_cases h4 : r = cr
        · rw [if_pos ((hrr h3).2.mpr h4), if_neg h3, if_pos h4]; rfl
        · rw [if_neg (fun q => h4 ((hrr h3).2.mp q)), if_neg h3, if_neg h4]; rfl
    · have hss := own_sig s cs mf ss7 sip (by rcases hs with q | q | q | q; exact Or.inl q; exact Or.inr (Or.inl q); exact Or.inr (Or.inr q); exact absurd q h2) hcs n2 n3 n4
      simp only [if_neg h2]
      rw [if_neg (by simp)]
      by_cases h5 : s = cs
      · rw [if_pos (hss.mpr h5), if_pos h5]
        by_cases h3 : r = 2
        · simp only [if_pos h3, if_true]; rfl
        · rw [if_neg (fun q => (hrr h3).1.mp q)]
          by_cases h4 : r = cr
          · rw [if_pos ((hrr h3).2.mpr h4), if_neg h3, if_pos h4]; rfl
          · rw [if_neg (fun q => h4 ((hrr h3).2.mp q)), if_neg h3, if_neg h4]; rfl
      · rw [if_neg (fun q => h5 (hss.mp q)), if_neg h5]; rfl
  · rw [if_neg (fun q => h1 (hdd.mp q)), if_neg h1]; rfl
theorem ef0 (m_ : MethodId) (x0 : Int32) (x1 : Int32) (x2 : Int32) (x3 : Int32) (x4 : Int32) (x5 : Int32)  : entryFrame m_ #[(.int x0), (.int x1), (.int x2), (.int x3), (.int x4), (.int x5)] maxLocals = mkF m_ 0 #[.val (.int x0), .val (.int x1), .val (.int x2), .val (.int x3), .val (.int x4), .val (.int x5), .unset, .unset, .unset, .unset, .unset, .unset, .unset, .unset, .unset, .unset, .unset] [] := by first | (simp [entryFrame, mkF, argsToLocals, Value.category, maxLocals]; done) | rfl
theorem pd_1 : parseMethodDescriptor "(I)Lcom/example/weigh/weigh/usage/UsageLayout$Signaling;" = some ⟨[.int], some (.object "com/example/weigh/weigh/usage/UsageLayout$Signaling")⟩ := by decide +kernel
theorem pd_2 : parseMethodDescriptor "(I)Lcom/example/weigh/weigh/usage/UsageLayout$TrunkRouting;" = some ⟨[.int], some (.object "com/example/weigh/weigh/usage/UsageLayout$TrunkRouting")⟩ := by decide +kernel
theorem pd_3 : parseMethodDescriptor "(I)Lcom/example/weigh/weigh/usage/UsageLayout$Direction;" = some ⟨[.int], some (.object "com/example/weigh/weigh/usage/UsageLayout$Direction")⟩ := by decide +kernel
theorem pd_4 : parseMethodDescriptor "(Lcom/example/weigh/weigh/usage/UsageLayout$Direction;Lcom/example/weigh/weigh/usage/UsageLayout$Signaling;Lcom/example/weigh/weigh/usage/UsageLayout$TrunkRouting;)V" = some ⟨[(.object "com/example/weigh/weigh/usage/UsageLayout$Direction"), (.object "com/example/weigh/weigh/usage/UsageLayout$Signaling"), (.object "com/example/weigh/weigh/usage/UsageLayout$TrunkRouting")], none⟩ := by decide +kernel
theorem pd_5 : parseMethodDescriptor "(Lcom/example/weigh/weigh/usage/UsageLayout$Direction;Lcom/example/weigh/weigh/usage/UsageLayout$Signaling;Lcom/example/weigh/weigh/usage/UsageLayout$TrunkRouting;)Z" = some ⟨[(.object "com/example/weigh/weigh/usage/UsageLayout$Direction"), (.object "com/example/weigh/weigh/usage/UsageLayout$Signaling"), (.object "com/example/weigh/weigh/usage/UsageLayout$TrunkRouting")], some .boolean⟩ := by decide +kernel
set_option maxRecDepth 65536 in
set_option maxHeartbeats 40000000 in
theorem rm0 (l : Launch) (Z : State) (a0 : Array Value) (hw : ∀ d ∈ tables_1, d.before a0 Z = true) (ws : List Jvm.Cond) (x0 : Int32) (x1 : Int32) (x2 : Int32) (x3 : Int32) (x4 : Int32) (x5 : Int32) (h0 : Heap) (s_ORIGINATING : Addr) (s_TERMINATING : Addr) (s_MF : Addr) (s_SS7 : Addr) (s_SIP : Addr) (s_DIRECT : Addr) (s_TANDEM : Addr) (S_ORIGINATING : Sta Z h0 "com/example/weigh/weigh/usage/UsageLayout$Direction" "ORIGINATING" "Lcom/example/weigh/weigh/usage/UsageLayout$Direction;" (.ref s_ORIGINATING)) (S_TERMINATING : Sta Z h0 "com/example/weigh/weigh/usage/UsageLayout$Direction" "TERMINATING" "Lcom/example/weigh/weigh/usage/UsageLayout$Direction;" (.ref s_TERMINATING)) (S_MF : Sta Z h0 "com/example/weigh/weigh/usage/UsageLayout$Signaling" "MF" "Lcom/example/weigh/weigh/usage/UsageLayout$Signaling;" (.ref s_MF)) (S_SS7 : Sta Z h0 "com/example/weigh/weigh/usage/UsageLayout$Signaling" "SS7" "Lcom/example/weigh/weigh/usage/UsageLayout$Signaling;" (.ref s_SS7)) (S_SIP : Sta Z h0 "com/example/weigh/weigh/usage/UsageLayout$Signaling" "SIP" "Lcom/example/weigh/weigh/usage/UsageLayout$Signaling;" (.ref s_SIP)) (S_DIRECT : Sta Z h0 "com/example/weigh/weigh/usage/UsageLayout$TrunkRouting" "DIRECT" "Lcom/example/weigh/weigh/usage/UsageLayout$TrunkRouting;" (.ref s_DIRECT)) (S_TANDEM : Sta Z h0 "com/example/weigh/weigh/usage/UsageLayout$TrunkRouting" "TANDEM" "Lcom/example/weigh/weigh/usage/UsageLayout$TrunkRouting;" (.ref s_TANDEM)) (ne_ORIGINATING_TERMINATING : s_ORIGINATING ≠ s_TERMINATING) (ne_MF_SS7 : s_MF ≠ s_SS7) (ne_MF_SIP : s_MF ≠ s_SIP) (ne_SS7_SIP : s_SS7 ≠ s_SIP) (ne_DIRECT_TANDEM : s_DIRECT ≠ s_TANDEM) : Co l x code maxLocals ret ws room_1 Z h0 #[(.int x0), (.int x1), (.int x2), (.int x3), (.int x4), (.int x5)] (fun v h L => v = some (.int 1) ∧ Fr h0.size L) := by
  refine Co.of (plainFor_of_name pn_0) ?_
  intro p_ e_ s_ m_ below meth c_ T0 X0 hx hby hml hown hnm hret hlk hZ eq0
  have N0 := Fr.nil h0.size
  refine Go.cast (ef0 m_ x0 x1 x2 x3 x4 x5) ?_
  refine g_iloadN X0 hx rfl (hb hby at_0) 1 rfl ?_
  refine g_iconst X0 hx (1 : Int32) rfl (hb hby at_1) 2 rfl ?_
  refine g_iand X0 hx (hb hby at_2) 3 rfl ?_
  generalize hv101 : (x0 &&& (1 : Int32)) = v101
  refine g_istore X0 hx #[.val (.int x0), .val (.int x1), .val (.int x2), .val (.int x3), .val (.int x4), .val (.int x5), .val (.int v101), .unset, .unset, .unset, .unset, .unset, .unset, .unset, .unset, .unset, .unset] rfl (hb hby at_3) 5 rfl ?_
  refine g_iloadN X0 hx rfl (hb hby at_5) 6 rfl ?_
  refine g_iconst X0 hx (3 : Int32) rfl (hb hby at_6) 7 rfl ?_
  refine g_iand X0 hx (hb hby at_7) 8 rfl ?_
  generalize hv102 : (x1 &&& (3 : Int32)) = v102
  refine g_istore X0 hx #[.val (.int x0), .val (.int x1), .val (.int x2), .val (.int x3), .val (.int x4), .val (.int x5), .val (.int v101), .val (.int v102), .unset, .unset, .unset, .unset, .unset, .unset, .unset, .unset, .unset] rfl (hb hby at_8) 10 rfl ?_
  refine g_iloadN X0 hx rfl (hb hby at_10) 11 rfl ?_
  refine g_ldc X0 hx hZ hown (wd hw 0 rfl) (hb hby at_11) 13 rfl ?_
  refine g_iand X0 hx (hb hby at_13) 14 rfl ?_
  refine g_iconst X0 hx (3 : Int32) rfl (hb hby at_14) 15 rfl ?_
  refine g_irem X0 hx (by decide) (hb hby at_15) 16 rfl ?_
  generalize hv103 : ((x2 &&& (2147483647 : Int32)) % (3 : Int32)) = v103
  refine g_istore X0 hx #[.val (.int x0), .val (.int x1), .val (.int x2), .val (.int x3), .val (.int x4), .val (.int x5), .val (.int v101), .val (.int v102), .val (.int v103), .unset, .unset, .unset, .unset, .unset, .unset, .unset, .unset] rfl (hb hby at_16) 18 rfl ?_
  refine g_iloadN X0 hx rfl (hb hby at_18) 19 rfl ?_
  refine g_iconst X0 hx (1 : Int32) rfl (hb hby at_19) 20 rfl ?_
  refine g_iand X0 hx (hb hby at_20) 21 rfl ?_
  generalize hv104 : (x3 &&& (1 : Int32)) = v104
  refine g_istore X0 hx #[.val (.int x0), .val (.int x1), .val (.int x2), .val (.int x3), .val (.int x4), .val (.int x5), .val (.int v101), .val (.int v102), .val (.int v103), .val (.int v104), .unset, .unset, .unset, .unset, .unset, .unset, .unset] rfl (hb hby at_21) 23 rfl ?_
  refine g_iload X0 hx rfl (hb hby at_23) 25 rfl ?_
  refine g_ldc X0 hx hZ hown (wd hw 0 rfl) (hb hby at_25) 27 rfl ?_
  refine g_iand X0 hx (hb hby at_27) 28 rfl ?_
  refine g_iconst X0 hx (3 : Int32) rfl (hb hby at_28) 29 rfl ?_
  refine g_irem X0 hx (by decide) (hb hby at_29) 30 rfl ?_
  generalize hv105 : ((x4 &&& (2147483647 : Int32)) % (3 : Int32)) = v105
  refine g_istore X0 hx #[.val (.int x0), .val (.int x1), .val (.int x2), .val (.int x3), .val (.int x4), .val (.int x5), .val (.int v101), .val (.int v102), .val (.int v103), .val (.int v104), .val (.int v105), .unset, .unset, .unset, .unset, .unset, .unset] rfl (hb hby at_30) 32 rfl ?_
  refine g_iload X0 hx rfl (hb hby at_32) 34 rfl ?_
  refine g_iconst X0 hx (1 : Int32) rfl (hb hby at_34) 35 rfl ?_
  refine g_iand X0 hx (hb hby at_35) 36 rfl ?_
  generalize hv106 : (x5 &&& (1 : Int32)) = v106
  refine g_istore X0 hx #[.val (.int x0), .val (.int x1), .val (.int x2), .val (.int x3), .val (.int x4), .val (.int x5), .val (.int v101), .val (.int v102), .val (.int v103), .val (.int v104), .val (.int v105), .val (.int v106), .unset, .unset, .unset, .unset, .unset] rfl (hb hby at_36) 38 rfl ?_
  refine g_iload X0 hx rfl (hb hby at_38) 40 rfl ?_
  refine g_iconst X0 hx (3 : Int32) rfl (hb hby at_40) 41 rfl ?_
  refine Go.joinT (α := Value) X0 eq0 (fun z => mkF m_ 53 #[.val (.int x0), .val (.int x1), .val (.int x2), .val (.int x3), .val (.int x4), .val (.int x5), .val (.int v101), .val (.int v102), .val (.int v103), .val (.int v104), .val (.int v105), .val (.int v106), .unset, .unset, .unset, .unset, .unset] [z]) (fun z => z = (if v102 = (3 : Int32) then .null else (.ref (f5 v102 s_MF s_SS7 s_SIP)))) ?_ (fun J108 => ?_)
  · rintro T109 X110 e111 z107 hz107
    have h_z107 : z107.isRef = true := by subst hz107; (repeat' split) <;> first | rfl | assumption
    show Go p_ e_ below _ T109 (mkF m_ 53 #[.val (.int x0), .val (.int x1), .val (.int x2), .val (.int x3), .val (.int x4), .val (.int x5), .val (.int v101), .val (.int v102), .val (.int v103), .val (.int v104), .val (.int v105), .val (.int v106), .unset, .unset, .unset, .unset, .unset] [z107])
    refine g_astore X110 hx #[.val (.int x0), .val (.int x1), .val (.int x2), .val (.int x3), .val (.int x4), .val (.int x5), .val (.int v101), .val (.int v102), .val (.int v103), .val (.int v104), .val (.int v105), .val (.int v106), .val z107, .unset, .unset, .unset, .unset] h_z107 (by rcases ref_cases h_z107 with hv_ | ⟨_, hv_⟩ <;> rw [hv_] <;> rfl) (hb hby at_53) 55 rfl ?_
    refine g_iload X110 hx rfl (hb hby at_55) 57 rfl ?_
    refine g_iconst X110 hx (2 : Int32) rfl (hb hby at_57) 58 rfl ?_
    refine Go.joinT (α := Value) X110 e111 (fun z => mkF m_ 70 #[.val (.int x0), .val (.int x1), .val (.int x2), .val (.int x3), .val (.int x4), .val (.int x5), .val (.int v101), .val (.int v102), .val (.int v103), .val (.int v104), .val (.int v105), .val (.int v106), .val z107, .unset, .unset, .unset, .unset] [z]) (fun z => z = (if v103 = (2 : Int32) then .null else (.ref (f6 v103 s_DIRECT s_TANDEM)))) ?_ (fun J115 => ?_)
    · rintro T116 X117 e118 z114 hz114
      have h_z114 : z114.isRef = true := by subst hz114; (repeat' split) <;> first | rfl | assumption
      show Go p_ e_ below _ T116 (mkF m_ 70 #[.val (.int x0), .val (.int x1), .val (.int x2), .val (.int x3), .val (.int x4), .val (.int x5), .val (.int v101), .val (.int v102), .val (.int v103), .val (.int v104), .val (.int v105), .val (.int v106), .val z107, .unset, .unset, .unset, .unset] [z114])
      refine g_astore X117 hx #[.val (.int x0), .val (.int x1), .val (.int x2), .val (.int x3), .val (.int x4), .val (.int x5), .val (.int v101), .val (.int v102), .val (.int v103), .val (.int v104), .val (.int v105), .val (.int v106), .val z107, .val z114, .unset, .unset, .unset] h_z114 (by rcases ref_cases h_z114 with hv_ | ⟨_, hv_⟩ <;> rw [hv_] <;> rfl) (hb hby at_70) 72 rfl ?_
      refine g_new X117 hx hZ hown (wd hw 1 rfl) (wd hw 2 rfl) (wd hw 3 rfl) e118 (hb hby at_72) (by decide) (by decide) 75 rfl (fun T121 h122 b123 X124 e125 g126 E127 A128 D129 => ?_)
      have F130 := S_ORIGINATING.ext E127
      have F131 := S_TERMINATING.ext E127
      have F132 := S_MF.ext E127
      have F133 := S_SS7.ext E127
      have F134 := S_SIP.ext E127
      have F135 := S_DIRECT.ext E127
      have F136 := S_TANDEM.ext E127
      have sz137 : h0.size ≤ b123 := Nat.le_trans (Nat.le_refl h0.size) (Nat.le_of_eq g126.symm)
      have szh138 : h0.size ≤ h122.size := Nat.le_trans (Nat.le_refl h0.size) E127.1
      have F139 : Fld Z h122 b123 "com/example/weigh/weigh/tariff/CallSelector" "direction" "Lcom/example/weigh/weigh/usage/UsageLayout$Direction;" .null := D129 (Or.inr (wd hw 21 rfl)) (ty := (.object "com/example/weigh/weigh/usage/UsageLayout$Direction")) (by decide)
      have F140 : Fld Z h122 b123 "com/example/weigh/weigh/tariff/CallSelector" "signaling" "Lcom/example/weigh/weigh/usage/UsageLayout$Signaling;" .null := D129 (Or.inr (wd hw 23 rfl)) (ty := (.object "com/example/weigh/weigh/usage/UsageLayout$Signaling")) (by decide)
      have F141 : Fld Z h122 b123 "com/example/weigh/weigh/tariff/CallSelector" "trunkRouting" "Lcom/example/weigh/weigh/usage/UsageLayout$TrunkRouting;" .null := D129 (Or.inr (wd hw 25 rfl)) (ty := (.object "com/example/weigh/weigh/usage/UsageLayout$TrunkRouting")) (by decide)
      have F142 : Fld Z h122 b123 "com/example/weigh/weigh/tariff/CallSelector" "calledAreaCodes" "Ljava/util/BitSet;" .null := D129 (Or.inr (wd hw 27 rfl)) (ty := (.object "java/util/BitSet")) (by decide)
      show Go p_ e_ below _ T121 (mkF m_ 75 #[.val (.int x0), .val (.int x1), .val (.int x2), .val (.int x3), .val (.int x4), .val (.int x5), .val (.int v101), .val (.int v102), .val (.int v103), .val (.int v104), .val (.int v105), .val (.int v106), .val z107, .val z114, .unset, .unset, .unset] [(.ref b123)])
      refine g_dup X124 hx rfl (hb hby at_75) 76 rfl ?_
      refine g_iload X124 hx rfl (hb hby at_76) 78 rfl ?_
      refine g_callS X124 hx hZ hown (wd hw 4 rfl) (wd hw 5 rfl) (wd hw 6 rfl) (wd hw 7 rfl) (by decide) e125 [(.int v101)] [(.ref b123), (.ref b123)]  rfl (co1 l Z a0 hw v101 s_ORIGINATING s_TERMINATING h122 F130 F131) (lenOf pd_3 rfl) 2 (Nat.le_of_eq rfl) (by decide) (by decide) (by decide) (by decide) (by rw [hml]; rfl) (hb hby at_78) 81 rfl (pu_cont fun T144 X143 e145 => ?_)
      show Go p_ e_ below _ T144 (mkF m_ 81 #[.val (.int x0), .val (.int x1), .val (.int x2), .val (.int x3), .val (.int x4), .val (.int x5), .val (.int v101), .val (.int v102), .val (.int v103), .val (.int v104), .val (.int v105), .val (.int v106), .val z107, .val z114, .unset, .unset, .unset] [(.ref (f1 v101 s_ORIGINATING s_TERMINATING)), (.ref b123), (.ref b123)])
      refine g_aload X143 hx rfl h_z107 (hb hby at_81) 83 rfl ?_
      refine g_aload X143 hx rfl h_z114 (hb hby at_83) 85 rfl ?_
      refine g_init X143 hx hZ hown (wd hw 11 rfl) rfl (wd hw 12 rfl) (wd hw 3 rfl) (wd hw 13 rfl) (by decide) e145 [(.ref (f1 v101 s_ORIGINATING s_TERMINATING)), z107, z114] [(.ref b123)] rfl (co2 l Z a0 hw b123 (f1 v101 s_ORIGINATING s_TERMINATING) z107 z114 h122 h0.size szh138 h_z107 h_z114 sz137 A128 F139 F140 F141 F142) (lenOf pd_4 rfl) 1 (Nat.le_of_eq rfl) (by decide) (by decide) (by decide) (by decide) (by rw [hml]; rfl) (hb hby at_85) 88 rfl (fun r146 T147 L148 X149 Q150 => ?_)
      obtain ⟨h151, e152⟩ : ∃ h, T147.heap = h := ⟨_, rfl⟩
      rw [e152] at Q150
      obtain ⟨rfl, n153, K154, E155, F156, F157, F158⟩ := Q150
      have N159 := Fr.app N0 n153
      have F160 := own_sta_keep F130 K154 (nsS A128.nostat ns0)
      have F161 := own_sta_keep F131 K154 (nsS A128.nostat ns0)
      have F162 := own_sta_keep F132 K154 (nsS A128.nostat ns0)
      have F163 := own_sta_keep F133 K154 (nsS A128.nostat ns0)
      have F164 := own_sta_keep F134 K154 (nsS A128.nostat ns0)
      have F165 := own_sta_keep F135 K154 (nsS A128.nostat ns0)
      have F166 := own_sta_keep F136 K154 (nsS A128.nostat ns0)
      have F167 := A128.keep K154
      have szh168 : h0.size ≤ h151.size := Nat.le_trans szh138 K154.1
      show Go p_ e_ below _ T147 (mkF m_ 88 #[.val (.int x0), .val (.int x1), .val (.int x2), .val (.int x3), .val (.int x4), .val (.int x5), .val (.int v101), .val (.int v102), .val (.int v103), .val (.int v104), .val (.int v105), .val (.int v106), .val z107, .val z114, .unset, .unset, .unset] [(.ref b123)])
      refine g_astore X149 hx #[.val (.int x0), .val (.int x1), .val (.int x2), .val (.int x3), .val (.int x4), .val (.int x5), .val (.int v101), .val (.int v102), .val (.int v103), .val (.int v104), .val (.int v105), .val (.int v106), .val z107, .val z114, .val (.ref b123), .unset, .unset] rfl rfl (hb hby at_88) 90 rfl ?_
      refine g_aload X149 hx rfl rfl (hb hby at_90) 92 rfl ?_
      refine g_iload X149 hx rfl (hb hby at_92) 94 rfl ?_
      refine g_callS X149 hx hZ hown (wd hw 4 rfl) (wd hw 5 rfl) (wd hw 6 rfl) (wd hw 7 rfl) (by decide) e152 [(.int v104)] [(.ref b123)]  rfl (co1 l Z a0 hw v104 s_ORIGINATING s_TERMINATING h151 F160 F161) (lenOf pd_3 rfl) 1 (Nat.le_of_eq rfl) (by decide) (by decide) (by decide) (by decide) (by rw [hml]; rfl) (hb hby at_94) 97 rfl (pu_cont fun T170 X169 e171 => ?_)
      show Go p_ e_ below _ T170 (mkF m_ 97 #[.val (.int x0), .val (.int x1), .val (.int x2), .val (.int x3), .val (.int x4), .val (.int x5), .val (.int v101), .val (.int v102), .val (.int v103), .val (.int v104), .val (.int v105), .val (.int v106), .val z107, .val z114, .val (.ref b123), .unset, .unset] [(.ref (f1 v104 s_ORIGINATING s_TERMINATING)), (.ref b123)])
      refine g_iload X169 hx rfl (hb hby at_97) 99 rfl ?_
      refine g_callS X169 hx hZ hown (wd hw 30 rfl) (wd hw 31 rfl) (wd hw 6 rfl) (wd hw 32 rfl) (by decide) e171 [(.int v105)] [(.ref (f1 v104 s_ORIGINATING s_TERMINATING)), (.ref b123)]  rfl (co5 l Z a0 hw v105 s_MF s_SS7 s_SIP h151 F162 F163 F164) (lenOf pd_1 rfl) 2 (Nat.le_of_eq rfl) (by decide) (by decide) (by decide) (by decide) (by rw [hml]; rfl) (hb hby at_99) 102 rfl (pu_cont fun T173 X172 e174 => ?_)
      show Go p_ e_ below _ T173 (mkF m_ 102 #[.val (.int x0), .val (.int x1), .val (.int x2), .val (.int x3), .val (.int x4), .val (.int x5), .val (.int v101), .val (.int v102), .val (.int v103), .val (.int v104), .val (.int v105), .val (.int v106), .val z107, .val z114, .val (.ref b123), .unset, .unset] [(.ref (f5 v105 s_MF s_SS7 s_SIP)), (.ref (f1 v104 s_ORIGINATING s_TERMINATING)), (.ref b123)])
      refine g_iload X172 hx rfl (hb hby at_102) 104 rfl ?_
      refine g_callS X172 hx hZ hown (wd hw 36 rfl) (wd hw 37 rfl) (wd hw 6 rfl) (wd hw 38 rfl) (by decide) e174 [(.int v106)] [(.ref (f5 v105 s_MF s_SS7 s_SIP)), (.ref (f1 v104 s_ORIGINATING s_TERMINATING)), (.ref b123)]  rfl (co6 l Z a0 hw v106 s_DIRECT s_TANDEM h151 F165 F166) (lenOf pd_2 rfl) 3 (Nat.le_of_eq rfl) (by decide) (by decide) (by decide) (by decide) (by rw [hml]; rfl) (hb hby at_104) 107 rfl (pu_cont fun T176 X175 e177 => ?_)
      show Go p_ e_ below _ T176 (mkF m_ 107 #[.val (.int x0), .val (.int x1), .val (.int x2), .val (.int x3), .val (.int x4), .val (.int x5), .val (.int v101), .val (.int v102), .val (.int v103), .val (.int v104), .val (.int v105), .val (.int v106), .val z107, .val z114, .val (.ref b123), .unset, .unset] [(.ref (f6 v106 s_DIRECT s_TANDEM)), (.ref (f5 v105 s_MF s_SS7 s_SIP)), (.ref (f1 v104 s_ORIGINATING s_TERMINATING)), (.ref b123)])
      refine g_callV X175 hx hZ hown (wd hw 42 rfl) (C := "com/example/weigh/weigh/tariff/CallSelector") (wd hw 43 rfl) (wd hw 45 rfl) (wd hw 44 rfl) (wd hw 3 rfl) (wd hw 46 rfl) (by decide) e177 [(.ref (f1 v104 s_ORIGINATING s_TERMINATING)), (.ref (f5 v105 s_MF s_SS7 s_SIP)), (.ref (f6 v106 s_DIRECT s_TANDEM))] [] E155 rfl (co7 l Z a0 hw b123 (f1 v104 s_ORIGINATING s_TERMINATING) (f5 v105 s_MF s_SS7 s_SIP) (f6 v106 s_DIRECT s_TANDEM) (f1 v101 s_ORIGINATING s_TERMINATING) z107 z114 h151 h_z107 h_z114 F156 F157 F158) (lenOf pd_5 rfl) 0 (Nat.le_of_eq rfl) (by decide) (by decide) (by decide) (by decide) (by rw [hml]; rfl) (hb hby at_107) 110 rfl (pu_cont fun T179 X178 e180 => ?_)
      show Go p_ e_ below _ T179 (mkF m_ 110 #[.val (.int x0), .val (.int x1), .val (.int x2), .val (.int x3), .val (.int x4), .val (.int x5), .val (.int v101), .val (.int v102), .val (.int v103), .val (.int v104), .val (.int v105), .val (.int v106), .val z107, .val z114, .val (.ref b123), .unset, .unset] [(.int (f7 b123 (f1 v104 s_ORIGINATING s_TERMINATING) (f5 v105 s_MF s_SS7 s_SIP) (f6 v106 s_DIRECT s_TANDEM) (f1 v101 s_ORIGINATING s_TERMINATING) z107 z114))])
      generalize hv181 : (f7 b123 (f1 v104 s_ORIGINATING s_TERMINATING) (f5 v105 s_MF s_SS7 s_SIP) (f6 v106 s_DIRECT s_TANDEM) (f1 v101 s_ORIGINATING s_TERMINATING) z107 z114) = v181
      refine g_istore X178 hx #[.val (.int x0), .val (.int x1), .val (.int x2), .val (.int x3), .val (.int x4), .val (.int x5), .val (.int v101), .val (.int v102), .val (.int v103), .val (.int v104), .val (.int v105), .val (.int v106), .val z107, .val z114, .val (.ref b123), .val (.int v181), .unset] rfl (hb hby at_110) 112 rfl ?_
      refine Go.joinT (α := Int32) X178 e180 (fun z => mkF m_ 150 #[.val (.int x0), .val (.int x1), .val (.int x2), .val (.int x3), .val (.int x4), .val (.int x5), .val (.int v101), .val (.int v102), .val (.int v103), .val (.int v104), .val (.int v105), .val (.int v106), .val z107, .val z114, .val (.ref b123), .val (.int v181), .unset] [(.int z)]) (fun z => z = (if v101 = v104 then (if v102 = (3 : Int32) then (if v103 = (2 : Int32) then (1 : Int32) else (if v103 = v106 then (1 : Int32) else (0 : Int32))) else (if v102 = v105 then (if v103 = (2 : Int32) then (1 : Int32) else (if v103 = v106 then (1 : Int32) else (0 : Int32))) else (0 : Int32))) else (0 : Int32))) ?_ (fun J183 => ?_)
      · rintro T184 X185 e186 z182 hz182
        show Go p_ e_ below _ T184 (mkF m_ 150 #[.val (.int x0), .val (.int x1), .val (.int x2), .val (.int x3), .val (.int x4), .val (.int x5), .val (.int v101), .val (.int v102), .val (.int v103), .val (.int v104), .val (.int v105), .val (.int v106), .val z107, .val z114, .val (.ref b123), .val (.int v181), .unset] [(.int z182)])
        refine g_istore X185 hx #[.val (.int x0), .val (.int x1), .val (.int x2), .val (.int x3), .val (.int x4), .val (.int x5), .val (.int v101), .val (.int v102), .val (.int v103), .val (.int v104), .val (.int v105), .val (.int v106), .val z107, .val z114, .val (.ref b123), .val (.int v181), .val (.int z182)] rfl (hb hby at_150) 152 rfl ?_
        refine g_iload X185 hx rfl (hb hby at_152) 154 rfl ?_
        refine g_iload X185 hx rfl (hb hby at_154) 156 rfl ?_
        refine g_icmp_ne X185 hx (hb hby at_156) 163 159 (by decide) rfl rfl (fun q156 => ?_) (fun q156 => ?_)
        · exact absurd (by rw [hz182, ← hv181, hz107, hz114, ← hv101, ← hv102, ← hv103, ← hv104, ← hv105, ← hv106]; exact own_fin _ _ _ _ _ _ _ _ _ _ _ _ _ _ (own_b2 _) (own_b2 _) (own_b4 _) (own_b3 _) (own_b3 _) (own_b2 _) ne_ORIGINATING_TERMINATING ne_MF_SS7 ne_MF_SIP ne_SS7_SIP ne_DIRECT_TANDEM) q156
        · refine g_iconst X185 hx (1 : Int32) rfl (hb hby at_159) 160 rfl ?_
          refine g_goto X185 hx (hb hby at_160) 164 (by decide) rfl ?_
          exact g_retz X185 hx hret hlk (by decide) (by decide) (hb hby at_164) ⟨rfl, N159⟩
      · refine g_iload X178 hx rfl (hb hby at_112) 114 rfl ?_
        refine g_iload X178 hx rfl (hb hby at_114) 116 rfl ?_
        refine g_icmp_ne X178 hx (hb hby at_116) 149 119 (by decide) rfl rfl (fun q116 => ?_) (fun q116 => ?_)
        · refine g_iconst X178 hx (0 : Int32) rfl (hb hby at_149) 150 rfl ?_
          exact J183 T179 X178 e180 ((0 : Int32)) ((if_neg q116).trans rfl).symm
        · refine g_iload X178 hx rfl (hb hby at_119) 121 rfl ?_
          refine g_iconst X178 hx (3 : Int32) rfl (hb hby at_121) 122 rfl ?_
          refine g_icmp_eq X178 hx (hb hby at_122) 132 125 (by decide) rfl rfl (fun q122 => ?_) (fun q122 => ?_)
          · refine g_iload X178 hx rfl (hb hby at_132) 134 rfl ?_
            refine g_iconst X178 hx (2 : Int32) rfl (hb hby at_134) 135 rfl ?_
            refine g_icmp_eq X178 hx (hb hby at_135) 145 138 (by decide) rfl rfl (fun q135 => ?_) (fun q135 => ?_)
            · refine g_iconst X178 hx (1 : Int32) rfl (hb hby at_145) 146 rfl ?_
              refine g_goto X178 hx (hb hby at_146) 150 (by decide) rfl ?_
              exact J183 T179 X178 e180 ((1 : Int32)) ((if_pos q116).trans ((if_pos q122).trans ((if_pos q135).trans rfl))).symm
            · refine g_iload X178 hx rfl (hb hby at_138) 140 rfl ?_
              refine g_iload X178 hx rfl (hb hby at_140) 142 rfl ?_
              refine g_icmp_ne X178 hx (hb hby at_142) 149 145 (by decide) rfl rfl (fun q142 => ?_) (fun q142 => ?_)
              · refine g_iconst X178 hx (0 : Int32) rfl (hb hby at_149) 150 rfl ?_
                exact J183 T179 X178 e180 ((0 : Int32)) ((if_pos q116).trans ((if_pos q122).trans ((if_neg q135).trans ((if_neg q142).trans rfl)))).symm
              · refine g_iconst X178 hx (1 : Int32) rfl (hb hby at_145) 146 rfl ?_
                refine g_goto X178 hx (hb hby at_146) 150 (by decide) rfl ?_
                exact J183 T179 X178 e180 ((1 : Int32)) ((if_pos q116).trans ((if_pos q122).trans ((if_neg q135).trans ((if_pos q142).trans rfl)))).symm
          · refine g_iload X178 hx rfl (hb hby at_125) 127 rfl ?_
            refine g_iload X178 hx rfl (hb hby at_127) 129 rfl ?_
            refine g_icmp_ne X178 hx (hb hby at_129) 149 132 (by decide) rfl rfl (fun q129 => ?_) (fun q129 => ?_)
            · refine g_iconst X178 hx (0 : Int32) rfl (hb hby at_149) 150 rfl ?_
              exact J183 T179 X178 e180 ((0 : Int32)) ((if_pos q116).trans ((if_neg q122).trans ((if_neg q129).trans rfl))).symm
            · refine g_iload X178 hx rfl (hb hby at_132) 134 rfl ?_
              refine g_iconst X178 hx (2 : Int32) rfl (hb hby at_134) 135 rfl ?_
              refine g_icmp_eq X178 hx (hb hby at_135) 145 138 (by decide) rfl rfl (fun q135 => ?_) (fun q135 => ?_)
              · refine g_iconst X178 hx (1 : Int32) rfl (hb hby at_145) 146 rfl ?_
                refine g_goto X178 hx (hb hby at_146) 150 (by decide) rfl ?_
                exact J183 T179 X178 e180 ((1 : Int32)) ((if_pos q116).trans ((if_neg q122).trans ((if_pos q129).trans ((if_pos q135).trans rfl)))).symm
              · refine g_iload X178 hx rfl (hb hby at_138) 140 rfl ?_
                refine g_iload X178 hx rfl (hb hby at_140) 142 rfl ?_
                refine g_icmp_ne X178 hx (hb hby at_142) 149 145 (by decide) rfl rfl (fun q142 => ?_) (fun q142 => ?_)
                · refine g_iconst X178 hx (0 : Int32) rfl (hb hby at_149) 150 rfl ?_
                  exact J183 T179 X178 e180 ((0 : Int32)) ((if_pos q116).trans ((if_neg q122).trans ((if_pos q129).trans ((if_neg q135).trans ((if_neg q142).trans rfl))))).symm
                · refine g_iconst X178 hx (1 : Int32) rfl (hb hby at_145) 146 rfl ?_
                  refine g_goto X178 hx (hb hby at_146) 150 (by decide) rfl ?_
                  exact J183 T179 X178 e180 ((1 : Int32)) ((if_pos q116).trans ((if_neg q122).trans ((if_pos q129).trans ((if_neg q135).trans ((if_pos q142).trans rfl))))).symm
    · refine g_icmp_ne X110 hx (hb hby at_58) 65 61 (by decide) rfl rfl (fun q58 => ?_) (fun q58 => ?_)
      · refine g_iload X110 hx rfl (hb hby at_65) 67 rfl ?_
        refine g_callS X110 hx hZ hown (wd hw 36 rfl) (wd hw 37 rfl) (wd hw 6 rfl) (wd hw 38 rfl) (by decide) e111 [(.int v103)] []  rfl (co6 l Z a0 hw v103 s_DIRECT s_TANDEM h0 S_DIRECT S_TANDEM) (lenOf pd_2 rfl) 0 (Nat.le_of_eq rfl) (by decide) (by decide) (by decide) (by decide) (by rw [hml]; rfl) (hb hby at_67) 70 rfl (pu_cont fun T190 X189 e191 => ?_)
        show Go p_ e_ below _ T190 (mkF m_ 70 #[.val (.int x0), .val (.int x1), .val (.int x2), .val (.int x3), .val (.int x4), .val (.int x5), .val (.int v101), .val (.int v102), .val (.int v103), .val (.int v104), .val (.int v105), .val (.int v106), .val z107, .unset, .unset, .unset, .unset] [(.ref (f6 v103 s_DIRECT s_TANDEM))])
        exact J115 T190 X189 e191 ((.ref (f6 v103 s_DIRECT s_TANDEM))) ((if_neg q58).trans rfl).symm
      · refine g_aconst_null X110 hx (hb hby at_61) 62 rfl ?_
        refine g_goto X110 hx (hb hby at_62) 70 (by decide) rfl ?_
        exact J115 T109 X110 e111 (.null) ((if_pos q58).trans rfl).symm
  · refine g_icmp_ne X0 hx (hb hby at_41) 48 44 (by decide) rfl rfl (fun q41 => ?_) (fun q41 => ?_)
    · refine g_iload X0 hx rfl (hb hby at_48) 50 rfl ?_
      refine g_callS X0 hx hZ hown (wd hw 30 rfl) (wd hw 31 rfl) (wd hw 6 rfl) (wd hw 32 rfl) (by decide) eq0 [(.int v102)] []  rfl (co5 l Z a0 hw v102 s_MF s_SS7 s_SIP h0 S_MF S_SS7 S_SIP) (lenOf pd_1 rfl) 0 (Nat.le_of_eq rfl) (by decide) (by decide) (by decide) (by decide) (by rw [hml]; rfl) (hb hby at_50) 53 rfl (pu_cont fun T193 X192 e194 => ?_)
      show Go p_ e_ below _ T193 (mkF m_ 53 #[.val (.int x0), .val (.int x1), .val (.int x2), .val (.int x3), .val (.int x4), .val (.int x5), .val (.int v101), .val (.int v102), .val (.int v103), .val (.int v104), .val (.int v105), .val (.int v106), .unset, .unset, .unset, .unset, .unset] [(.ref (f5 v102 s_MF s_SS7 s_SIP))])
      exact J108 T193 X192 e194 ((.ref (f5 v102 s_MF s_SS7 s_SIP))) ((if_neg q41).trans rfl).symm
    · refine g_aconst_null X0 hx (hb hby at_44) 45 rfl ?_
      refine g_goto X0 hx (hb hby at_45) 53 (by decide) rfl ?_
      exact J108 T0 X0 eq0 (.null) ((if_pos q41).trans rfl).symm
set_option maxRecDepth 65536 in
set_option maxHeartbeats 40000000 in
theorem comes_1 {Post : Tables → Env → Array Value → State → Outcome → State → Prop} (hpost : ∀ tb e args s v u, (limb_1_1.after args s (.returned v) u = true ∧ limb_1_2.after args s (.returned v) u = true ∧ True) → FrameEnd s (.returned v) u (Jvm.fieldLocs frame_1_writes args s ++ Jvm.arrayLocs frame_1_arrays args s ++ Jvm.staticLocs frame_1_statics s) 16 128 → Post tb e args s (.returned v) u) :
    ArmFor flags0 classFile x code maxLocals ret World_1 tables_1 room_1 Calls_1 rest_1 Pre_1 Post := by
  intro l hfl _ _ p e ha hc hk s m args below hf hA hF happ hP
  obtain ⟨hcalls, hrest, hpre⟩ := hP
  obtain ⟨-, -, -, hnamed, -, -, -, hat⟩ := (Spec.applies_iff hf).mp happ
  obtain ⟨hg, hn⟩ := and_e (Cond.before_iff.mp (show (Jvm.Cond.and given_1 narrow_1).before args s = true from hpre))
  obtain ⟨h1, g0⟩ := and_e hg
  obtain ⟨w0, w1, w2, w3, w4, w5, rfl⟩ : ∃ w0 w1 w2 w3 w4 w5 : Value, args = #[w0, w1, w2, w3, w4, w5] := by
    have hs : args.size = 6 := by simpa [Cond.value, given_1] using h1
    obtain ⟨L⟩ := args
    match L, hs with
    | [w0, w1, w2, w3, w4, w5], _ => exact ⟨w0, w1, w2, w3, w4, w5, rfl⟩
  have hw := fun d (hd : d ∈ tables_1) => atoms_spec (ws := Jvm.Cond.code x code maxLocals ret :: tables_1) hat d (List.mem_cons_of_mem _ hd)
  have hfit : Fit s := fun {y c} hc i hi => by
    obtain ⟨ha, rfl⟩ := Array.getElem?_eq_some_iff.mp hc
    have q := List.all_eq_true.mp ((Array.all_eq_true_iff_forall_mem.mp hF) _ (Array.getElem_mem ha)) i (List.mem_range.mpr hi)
    simpa [Array.getElem?_eq_getElem hi] using q
  obtain ⟨hk_0, hg_1⟩ := and_e g0
  obtain ⟨x0, r0⟩ := is_v hk_0
  obtain rfl : w0 = (.int x0) := Option.some.inj r0
  obtain ⟨hk_1, hg_2⟩ := and_e hg_1
  obtain ⟨x1, r1⟩ := is_v hk_1
  obtain rfl : w1 = (.int x1) := Option.some.inj r1
  obtain ⟨hk_2, hg_3⟩ := and_e hg_2
  obtain ⟨x2, r2⟩ := is_v hk_2
  obtain rfl : w2 = (.int x2) := Option.some.inj r2
  obtain ⟨hk_3, hg_4⟩ := and_e hg_3
  obtain ⟨x3, r3⟩ := is_v hk_3
  obtain rfl : w3 = (.int x3) := Option.some.inj r3
  obtain ⟨hk_4, hg_5⟩ := and_e hg_4
  obtain ⟨x4, r4⟩ := is_v hk_4
  obtain rfl : w4 = (.int x4) := Option.some.inj r4
  obtain ⟨x5, r5⟩ := is_v hg_5
  obtain rfl : w5 = (.int x5) := Option.some.inj r5
  obtain ⟨c0, hn0⟩ := and_e hn
  obtain ⟨c1, hn1⟩ := and_e hn0
  obtain ⟨c2, hn2⟩ := and_e hn1
  obtain ⟨c3, hn3⟩ := and_e hn2
  obtain ⟨c4, hn4⟩ := and_e hn3
  obtain ⟨c5, hn5⟩ := and_e hn4
  obtain ⟨c6, hn6⟩ := and_e hn5
  obtain ⟨c7, hn7⟩ := and_e hn6
  obtain ⟨c8, hn8⟩ := and_e hn7
  obtain ⟨c9, hn9⟩ := and_e hn8
  obtain ⟨c10, hn10⟩ := and_e hn9
  obtain ⟨c11, hn11⟩ := and_e hn10
  obtain ⟨c12, c13⟩ := and_e hn11
  obtain ⟨s_ORIGINATING, ev_ORIGINATING⟩ := exa_v c0
  have E_ORIGINATING := Exa.start ev_ORIGINATING c0
  have S_ORIGINATING := Sta.start ev_ORIGINATING (Or.inr ⟨(wd hw 9 rfl), (wd hw 10 rfl)⟩)
  obtain ⟨s_TERMINATING, ev_TERMINATING⟩ := exa_v c1
  have E_TERMINATING := Exa.start ev_TERMINATING c1
  have S_TERMINATING := Sta.start ev_TERMINATING (Or.inr ⟨(wd hw 9 rfl), (wd hw 29 rfl)⟩)
  obtain ⟨s_MF, ev_MF⟩ := exa_v c2
  have E_MF := Exa.start ev_MF c2
  have S_MF := Sta.start ev_MF (Or.inr ⟨(wd hw 34 rfl), (wd hw 35 rfl)⟩)
  obtain ⟨s_TANDEM, ev_TANDEM⟩ := exa_v c3
  have E_TANDEM := Exa.start ev_TANDEM c3
  have S_TANDEM := Sta.start ev_TANDEM (Or.inr ⟨(wd hw 40 rfl), (wd hw 41 rfl)⟩)
  obtain ⟨s_SIP, ev_SIP⟩ := exa_v c6
  have E_SIP := Exa.start ev_SIP c6
  have S_SIP := Sta.start ev_SIP (Or.inr ⟨(wd hw 34 rfl), (wd hw 48 rfl)⟩)
  obtain ⟨s_DIRECT, ev_DIRECT⟩ := exa_v c7
  have E_DIRECT := Exa.start ev_DIRECT c7
  have S_DIRECT := Sta.start ev_DIRECT (Or.inr ⟨(wd hw 40 rfl), (wd hw 50 rfl)⟩)
  obtain ⟨s_SS7, ev_SS7⟩ := exa_v c8
  have E_SS7 := Exa.start ev_SS7 c8
  have S_SS7 := Sta.start ev_SS7 (Or.inr ⟨(wd hw 34 rfl), (wd hw 52 rfl)⟩)
  have O_ORIGINATING := own_fo ev_ORIGINATING c4
  have O_TERMINATING := own_fo ev_TERMINATING c5
  have O_MF := own_fo ev_MF c9
  have O_SS7 := own_fo ev_SS7 c10
  have O_DIRECT := own_fo ev_DIRECT c11
  have O_TANDEM := own_fo ev_TANDEM c12
  have O_SIP := own_fo ev_SIP c13
  have ne_ORIGINATING_TERMINATING := Fld.ne O_ORIGINATING O_TERMINATING (by decide)
  have ne_MF_SS7 := Fld.ne O_MF O_SS7 (by decide)
  have ne_MF_SIP := Fld.ne O_MF O_SIP (by decide)
  have ne_SS7_SIP := Fld.ne O_SS7 O_SIP (by decide)
  have ne_DIRECT_TANDEM := Fld.ne O_DIRECT O_TANDEM (by decide)
  obtain ⟨n, o, h1, h2, h3, _, L, rfl, ⟨rfl, N⟩, hq⟩ := rm0 l s _ hw tables_1 x0 x1 x2 x3 x4 x5 s.heap s_ORIGINATING s_TERMINATING s_MF s_SS7 s_SIP s_DIRECT s_TANDEM S_ORIGINATING S_TERMINATING S_MF S_SS7 S_SIP S_DIRECT S_TANDEM ne_ORIGINATING_TERMINATING ne_MF_SS7 ne_MF_SIP ne_SS7_SIP ne_DIRECT_TANDEM p e ha hc hk s m _ below hf ((Spec.applies_iff_loose hf).mp happ).1 ⟨rfl, State.Warmed39.refl s, rfl⟩ trivial
  refine ⟨n, _, h1, h2, h3, hpost _ _ _ _ _ _ ⟨Cond.after_iff.mpr rfl, Cond.after_iff.mpr (eq_i res_at (Term.int_eval (1)) rfl), trivial⟩ ⟨hq.1, hq.2.1, (hq.2.2.sift fun y hy => Or.inr (N y hy)).mono (by decide) (by decide)⟩⟩
theorem main_1_1 : Claimed_1_1 := comes_1 fun _ _ _ _ _ _ h hF => ⟨h.1, hF⟩
theorem main_1_2 : Claimed_1_2 := comes_1 fun _ _ _ _ _ _ h hF => ⟨h.2.1, hF⟩
end Jvm.Pilot.@@N@@
namespace Jvm.Pilot.@@N@@
open Jvm Jvm.ClassFile Sem Op Lib Jvm.Free Jvm.Stand Jvm.Pilot.@@N@@.Jvm.D
/-! MADE BY PROGRAM (witnessworld.py) out of the Statement's table words and the real class files: 15 classes; the members and pool entries that the words name. The judged class is class 1, her method 4. -/
namespace start1
open Jvm.ClassFile
def u (s : String) : CpInfo := .utf8 (stringToUtf16 s)
/-- a pool by its gaps: so many unusable entries, then the entry; so many at the end -/
def gap : Nat → List CpInfo → List CpInfo
  | 0, r => r
  | n + 1, r => .unusable :: gap n r
def poolList (es : List (Nat × CpInfo)) (last : Nat) : List CpInfo := es.foldr (fun e r => gap e.1 (e.2 :: r)) (gap last [])
def pool (es : List (Nat × CpInfo)) (last : Nat) : Array CpInfo := ⟨poolList es last⟩
def fileOf (pool : Array CpInfo) (this : Nat) (attrs : Array Attribute := #[]) (ms : Array MethodInfo := #[]) (fl : Nat := 33) (sup : Nat := 0) (ifs : Array Nat := #[]) (fds : Array FieldInfo := #[]) : ClassFile where
  minorVersion := 0
  majorVersion := 65
  constantPool := pool
  accessFlags := fl
  thisClass := this
  superClass := sup
  interfaces := ifs
  fields := fds
  methods := ms
  attributes := attrs
def plain (name : String) (sup : Option ClassId) : Class where
  name := name
  kind := .ordinary
  loader := none
  accessFlags := 33
  super := sup
  interfaces := #[]
  cf := none
  fields := #[]
  methods := #[]
  instanceTypes := #[]
  staticTypes := #[]
  resolved := #[]
  callSites := []
  init := .initialized
  statics := none
  mirror := none

def pool0 : Array CpInfo := pool [(5, u "<init>"), (0, u "()V"), (1, .class_ 10), (1, u "java/lang/Object")] 113

def k0c0 : Code := { maxStack := 0, maxLocals := 1, code := object_method_1_code, exceptionTable := #[], attributes := #[] }
def k0m0 : Method := { name := "<init>", desc := "()V", sig := { parameters := [], returnType := none }, accessFlags := 1, code := some k0c0 }
/-- java/lang/Object -/
def k0 : Class := { plain "java/lang/Object" none with
  accessFlags := 33
  interfaces := #[]
  cf := some (fileOf pool0 8 #[] #[{ accessFlags := 1, nameIndex := 5, descriptorIndex := 6, attributes := #[] }] 33 0 #[] #[])
  fields := #[]
  methods := #[k0m0]
  instanceTypes := #[]
  staticTypes := #[]
  resolved := Array.replicate 124 none
  statics := none }

def pool1 : Array CpInfo := pool [(2, .class_ 4), (1, u "java/lang/Object"), (0, u "<init>"), (0, u "()V"), (0, .fieldref 8 9), (0, .class_ 10), (0, .nameAndType 11 12), (0, u "com/example/weigh/weigh/usage/UsageLayout$Direction"), (0, u "ORIGINATING"), (0, u "Lcom/example/weigh/weigh/usage/UsageLayout$Direction;"), (0, .fieldref 8 14), (0, .nameAndType 15 12), (0, u "TERMINATING"), (0, .fieldref 17 18), (0, .class_ 19), (0, .nameAndType 20 21), (0, u "com/example/weigh/weigh/usage/UsageLayout$Signaling"), (0, u "MF"), (0, u "Lcom/example/weigh/weigh/usage/UsageLayout$Signaling;"), (0, .fieldref 17 23), (0, .nameAndType 24 21), (0, u "SS7"), (0, .fieldref 17 26), (0, .nameAndType 27 21), (0, u "SIP"), (0, .fieldref 29 30), (0, .class_ 31), (0, .nameAndType 32 33), (0, u "com/example/weigh/weigh/usage/UsageLayout$TrunkRouting"), (0, u "DIRECT"), (0, u "Lcom/example/weigh/weigh/usage/UsageLayout$TrunkRouting;"), (0, .fieldref 29 35), (0, .nameAndType 36 33), (0, u "TANDEM"), (0, .integer 2147483647), (0, .methodref 39 40), (0, .class_ 41), (0, .nameAndType 42 43), (0, u "com/example/weigh/weigh/tariff/CallSelectorMatchesPinLaw"), (0, u "sig"), (0, u "(I)Lcom/example/weigh/weigh/usage/UsageLayout$Signaling;"), (0, .methodref 39 45), (0, .nameAndType 46 47), (0, u "rt"), (0, u "(I)Lcom/example/weigh/weigh/usage/UsageLayout$TrunkRouting;"), (0, .class_ 49), (0, u "com/example/weigh/weigh/tariff/CallSelector"), (0, .methodref 39 51), (0, .nameAndType 52 53), (0, u "dir"), (0, u "(I)Lcom/example/weigh/weigh/usage/UsageLayout$Direction;"), (0, .methodref 48 55), (0, .nameAndType 5 56), (0, u "(Lcom/example/weigh/weigh/usage/UsageLayout$Direction;Lcom/example/weigh/weigh/usage/UsageLayout$Signaling;Lcom/example/weigh/weigh/usage/UsageLayout$TrunkRouting;)V"), (0, .methodref 48 58), (0, .nameAndType 59 60), (0, u "matches"), (0, u "(Lcom/example/weigh/weigh/usage/UsageLayout$Direction;Lcom/example/weigh/weigh/usage/UsageLayout$Signaling;Lcom/example/weigh/weigh/usage/UsageLayout$TrunkRouting;)Z"), (3, u "law"), (0, u "(IIIIII)Z")] 8

def k1m0 : Method := { name := "<init>", desc := "()V", sig := { parameters := [], returnType := none }, accessFlags := 1, code := none }
def k1c1 : Code := { maxStack := 1, maxLocals := 1, code := method_2_code, exceptionTable := #[], attributes := #[] }
def k1m1 : Method := { name := "dir", desc := "(I)Lcom/example/weigh/weigh/usage/UsageLayout$Direction;", sig := { parameters := [.int], returnType := some (.object "com/example/weigh/weigh/usage/UsageLayout$Direction") }, accessFlags := 10, code := some k1c1 }
def k1c2 : Code := { maxStack := 2, maxLocals := 1, code := method_3_code, exceptionTable := #[], attributes := #[] }
def k1m2 : Method := { name := "sig", desc := "(I)Lcom/example/weigh/weigh/usage/UsageLayout$Signaling;", sig := { parameters := [.int], returnType := some (.object "com/example/weigh/weigh/usage/UsageLayout$Signaling") }, accessFlags := 10, code := some k1c2 }
def k1c3 : Code := { maxStack := 1, maxLocals := 1, code := method_4_code, exceptionTable := #[], attributes := #[] }
def k1m3 : Method := { name := "rt", desc := "(I)Lcom/example/weigh/weigh/usage/UsageLayout$TrunkRouting;", sig := { parameters := [.int], returnType := some (.object "com/example/weigh/weigh/usage/UsageLayout$TrunkRouting") }, accessFlags := 10, code := some k1c3 }
def k1c4 : Code := { maxStack := 5, maxLocals := 17, code := code, exceptionTable := #[], attributes := #[] }
def k1m4 : Method := { name := "law", desc := "(IIIIII)Z", sig := { parameters := [.int, .int, .int, .int, .int, .int], returnType := some .boolean }, accessFlags := 9, code := some k1c4 }
/-- com/example/weigh/weigh/tariff/CallSelectorMatchesPinLaw -/
def k1 : Class := { plain "com/example/weigh/weigh/tariff/CallSelectorMatchesPinLaw" (some 0) with
  accessFlags := 49
  interfaces := #[]
  cf := some (fileOf pool1 39 #[] #[{ accessFlags := 1, nameIndex := 5, descriptorIndex := 6, attributes := #[] }, { accessFlags := 10, nameIndex := 52, descriptorIndex := 53, attributes := #[] }, { accessFlags := 10, nameIndex := 42, descriptorIndex := 43, attributes := #[] }, { accessFlags := 10, nameIndex := 46, descriptorIndex := 47, attributes := #[] }, { accessFlags := 9, nameIndex := 64, descriptorIndex := 65, attributes := #[] }] 49 2 #[] #[])
  fields := #[]
  methods := #[k1m0, k1m1, k1m2, k1m3, k1m4]
  instanceTypes := #[]
  staticTypes := #[]
  resolved := Array.replicate 74 none
  statics := none }

def pool2 : Array CpInfo := pool [(1, .methodref 2 3), (0, .class_ 4), (0, .nameAndType 5 6), (0, u "com/example/weigh/weigh/tariff/CallSelector"), (0, u "<init>"), (0, u "(Lcom/example/weigh/weigh/usage/UsageLayout$Direction;Lcom/example/weigh/weigh/usage/UsageLayout$Signaling;Lcom/example/weigh/weigh/usage/UsageLayout$TrunkRouting;Ljava/util/BitSet;)V"), (0, .methodref 8 9), (0, .class_ 10), (0, .nameAndType 5 11), (0, u "java/lang/Object"), (0, u "()V"), (0, .fieldref 2 13), (0, .nameAndType 14 15), (0, u "direction"), (0, u "Lcom/example/weigh/weigh/usage/UsageLayout$Direction;"), (0, .fieldref 2 17), (0, .nameAndType 18 19), (0, u "signaling"), (0, u "Lcom/example/weigh/weigh/usage/UsageLayout$Signaling;"), (0, .fieldref 2 21), (0, .nameAndType 22 23), (0, u "trunkRouting"), (0, u "Lcom/example/weigh/weigh/usage/UsageLayout$TrunkRouting;"), (6, .fieldref 2 31), (0, .nameAndType 32 33), (0, u "calledAreaCodes"), (0, u "Ljava/util/BitSet;"), (13, u "matches"), (0, u "(Lcom/example/weigh/weigh/usage/UsageLayout$Direction;Lcom/example/weigh/weigh/usage/UsageLayout$Signaling;Lcom/example/weigh/weigh/usage/UsageLayout$TrunkRouting;)Z"), (35, .class_ 86), (1, u "com/example/weigh/weigh/tariff/CallSelector$KindAction"), (1, u "(Lcom/example/weigh/weigh/usage/UsageLayout$Direction;Lcom/example/weigh/weigh/usage/UsageLayout$Signaling;Lcom/example/weigh/weigh/usage/UsageLayout$TrunkRouting;)V")] 44

def k2c0 : Code := { maxStack := 5, maxLocals := 4, code := prog_87_method_1_code, exceptionTable := #[], attributes := #[] }
def k2m0 : Method := { name := "<init>", desc := "(Lcom/example/weigh/weigh/usage/UsageLayout$Direction;Lcom/example/weigh/weigh/usage/UsageLayout$Signaling;Lcom/example/weigh/weigh/usage/UsageLayout$TrunkRouting;)V", sig := { parameters := [(.object "com/example/weigh/weigh/usage/UsageLayout$Direction"), (.object "com/example/weigh/weigh/usage/UsageLayout$Signaling"), (.object "com/example/weigh/weigh/usage/UsageLayout$TrunkRouting")], returnType := none }, accessFlags := 1, code := some k2c0 }
def k2c1 : Code := { maxStack := 2, maxLocals := 5, code := prog_87_method_2_code, exceptionTable := #[], attributes := #[] }
def k2m1 : Method := { name := "<init>", desc := "(Lcom/example/weigh/weigh/usage/UsageLayout$Direction;Lcom/example/weigh/weigh/usage/UsageLayout$Signaling;Lcom/example/weigh/weigh/usage/UsageLayout$TrunkRouting;Ljava/util/BitSet;)V", sig := { parameters := [(.object "com/example/weigh/weigh/usage/UsageLayout$Direction"), (.object "com/example/weigh/weigh/usage/UsageLayout$Signaling"), (.object "com/example/weigh/weigh/usage/UsageLayout$TrunkRouting"), (.object "java/util/BitSet")], returnType := none }, accessFlags := 0, code := some k2c1 }
def k2c2 : Code := { maxStack := 2, maxLocals := 4, code := prog_87_method_3_code, exceptionTable := #[], attributes := #[] }
def k2m2 : Method := { name := "matches", desc := "(Lcom/example/weigh/weigh/usage/UsageLayout$Direction;Lcom/example/weigh/weigh/usage/UsageLayout$Signaling;Lcom/example/weigh/weigh/usage/UsageLayout$TrunkRouting;)Z", sig := { parameters := [(.object "com/example/weigh/weigh/usage/UsageLayout$Direction"), (.object "com/example/weigh/weigh/usage/UsageLayout$Signaling"), (.object "com/example/weigh/weigh/usage/UsageLayout$TrunkRouting")], returnType := some .boolean }, accessFlags := 0, code := some k2c2 }
/-- com/example/weigh/weigh/tariff/CallSelector -/
def k2 : Class := { plain "com/example/weigh/weigh/tariff/CallSelector" (some 0) with
  accessFlags := 49
  interfaces := #[]
  cf := some (fileOf pool2 2 #[.nestMembers #[84]] #[{ accessFlags := 1, nameIndex := 5, descriptorIndex := 88, attributes := #[] }, { accessFlags := 0, nameIndex := 5, descriptorIndex := 6, attributes := #[] }, { accessFlags := 0, nameIndex := 47, descriptorIndex := 48, attributes := #[] }] 49 8 #[] #[{ accessFlags := 18, nameIndex := 14, descriptorIndex := 15, attributes := #[] }, { accessFlags := 18, nameIndex := 18, descriptorIndex := 19, attributes := #[] }, { accessFlags := 18, nameIndex := 22, descriptorIndex := 23, attributes := #[] }, { accessFlags := 18, nameIndex := 32, descriptorIndex := 33, attributes := #[] }])
  fields := #[{ name := "direction", type := (.object "com/example/weigh/weigh/usage/UsageLayout$Direction"), accessFlags := 18, slot := 0, constantValue := 0 }, { name := "signaling", type := (.object "com/example/weigh/weigh/usage/UsageLayout$Signaling"), accessFlags := 18, slot := 1, constantValue := 0 }, { name := "trunkRouting", type := (.object "com/example/weigh/weigh/usage/UsageLayout$TrunkRouting"), accessFlags := 18, slot := 2, constantValue := 0 }, { name := "calledAreaCodes", type := (.object "java/util/BitSet"), accessFlags := 18, slot := 3, constantValue := 0 }]
  methods := #[k2m0, k2m1, k2m2]
  instanceTypes := #[(.object "com/example/weigh/weigh/usage/UsageLayout$Direction"), (.object "com/example/weigh/weigh/usage/UsageLayout$Signaling"), (.object "com/example/weigh/weigh/usage/UsageLayout$TrunkRouting"), (.object "java/util/BitSet")]
  staticTypes := #[]
  resolved := Array.replicate 133 none
  statics := none }

def pool3 : Array CpInfo := pool [(1, .class_ 2), (0, u "java/lang/constant/Constable"), (0, .class_ 4), (0, u "java/lang/Object")] 6

/-- java/lang/constant/Constable -/
def k3 : Class := { plain "java/lang/constant/Constable" (some 0) with
  accessFlags := 1537
  interfaces := #[]
  cf := some (fileOf pool3 1 #[] #[] 1537 3 #[] #[])
  fields := #[]
  methods := #[]
  instanceTypes := #[]
  staticTypes := #[]
  resolved := Array.replicate 11 none
  statics := none }

def pool4 : Array CpInfo := pool [(1, .class_ 2), (0, u "java/lang/Comparable"), (0, .class_ 4), (0, u "java/lang/Object")] 7

/-- java/lang/Comparable -/
def k4 : Class := { plain "java/lang/Comparable" (some 0) with
  accessFlags := 1537
  interfaces := #[]
  cf := some (fileOf pool4 1 #[] #[] 1537 3 #[] #[])
  fields := #[]
  methods := #[]
  instanceTypes := #[]
  staticTypes := #[]
  resolved := Array.replicate 12 none
  statics := none }

def pool5 : Array CpInfo := pool [(1, .class_ 2), (0, u "java/io/Serializable"), (0, .class_ 4), (0, u "java/lang/Object")] 2

/-- java/io/Serializable -/
def k5 : Class := { plain "java/io/Serializable" (some 0) with
  accessFlags := 1537
  interfaces := #[]
  cf := some (fileOf pool5 1 #[] #[] 1537 3 #[] #[])
  fields := #[]
  methods := #[]
  instanceTypes := #[]
  staticTypes := #[]
  resolved := Array.replicate 7 none
  statics := none }

def pool6 : Array CpInfo := pool [(2, .class_ 4), (1, u "java/lang/Enum"), (0, u "name"), (0, u "Ljava/lang/String;"), (2, u "ordinal"), (0, u "I"), (1, .class_ 14), (1, u "java/lang/Object"), (4, u "hash"), (86, .class_ 108), (1, u "java/lang/Enum$EnumDesc"), (2, .class_ 112), (0, u "java/lang/constant/Constable"), (0, .class_ 114), (0, u "java/lang/Comparable"), (0, .class_ 116), (0, u "java/io/Serializable")] 87

/-- java/lang/Enum -/
def k6 : Class := { plain "java/lang/Enum" (some 0) with
  accessFlags := 1057
  interfaces := #[3, 4, 5]
  cf := some (fileOf pool6 2 #[.nestMembers #[106]] #[] 1057 12 #[111, 113, 115] #[{ accessFlags := 18, nameIndex := 5, descriptorIndex := 6, attributes := #[] }, { accessFlags := 18, nameIndex := 9, descriptorIndex := 10, attributes := #[] }, { accessFlags := 2, nameIndex := 19, descriptorIndex := 10, attributes := #[] }])
  fields := #[{ name := "name", type := (.object "java/lang/String"), accessFlags := 18, slot := 0, constantValue := 0 }, { name := "ordinal", type := .int, accessFlags := 18, slot := 1, constantValue := 0 }, { name := "hash", type := .int, accessFlags := 2, slot := 2, constantValue := 0 }]
  methods := #[]
  instanceTypes := #[(.object "java/lang/String"), .int, .int]
  staticTypes := #[]
  resolved := Array.replicate 204 none
  statics := none }

def pool7 : Array CpInfo := pool [(1, .class_ 2), (0, u "com/example/weigh/weigh/usage/UsageLayout$Direction"), (2, u "ORIGINATING"), (0, u "Lcom/example/weigh/weigh/usage/UsageLayout$Direction;"), (2, u "TERMINATING"), (2, u "$VALUES"), (0, u "[Lcom/example/weigh/weigh/usage/UsageLayout$Direction;"), (6, .class_ 22), (1, u "java/lang/Enum"), (25, .class_ 49), (0, u "com/example/weigh/weigh/usage/UsageLayout")] 2

/-- com/example/weigh/weigh/usage/UsageLayout$Direction -/
def k7 : Class := { plain "com/example/weigh/weigh/usage/UsageLayout$Direction" (some 6) with
  accessFlags := 16433
  interfaces := #[]
  cf := some (fileOf pool7 1 #[.nestHost 48] #[] 16433 20 #[] #[{ accessFlags := 16409, nameIndex := 5, descriptorIndex := 6, attributes := #[] }, { accessFlags := 16409, nameIndex := 9, descriptorIndex := 6, attributes := #[] }, { accessFlags := 4122, nameIndex := 12, descriptorIndex := 13, attributes := #[] }])
  fields := #[{ name := "ORIGINATING", type := (.object "com/example/weigh/weigh/usage/UsageLayout$Direction"), accessFlags := 16409, slot := 0, constantValue := 0 }, { name := "TERMINATING", type := (.object "com/example/weigh/weigh/usage/UsageLayout$Direction"), accessFlags := 16409, slot := 1, constantValue := 0 }, { name := "$VALUES", type := (.array (.object "com/example/weigh/weigh/usage/UsageLayout$Direction")), accessFlags := 4122, slot := 2, constantValue := 0 }]
  methods := #[]
  instanceTypes := #[(.object "java/lang/String"), .int, .int]
  staticTypes := #[(.object "com/example/weigh/weigh/usage/UsageLayout$Direction"), (.object "com/example/weigh/weigh/usage/UsageLayout$Direction"), (.array (.object "com/example/weigh/weigh/usage/UsageLayout$Direction"))]
  resolved := Array.replicate 52 none
  statics := some 0 }

def pool8 : Array CpInfo := pool [(1, .class_ 2), (0, u "com/example/weigh/weigh/usage/UsageLayout$Signaling"), (2, u "MF"), (0, u "Lcom/example/weigh/weigh/usage/UsageLayout$Signaling;"), (2, u "SS7"), (2, u "SIP"), (2, u "$VALUES"), (0, u "[Lcom/example/weigh/weigh/usage/UsageLayout$Signaling;"), (6, .class_ 25), (1, u "java/lang/Enum"), (26, .class_ 53), (0, u "com/example/weigh/weigh/usage/UsageLayout")] 2

/-- com/example/weigh/weigh/usage/UsageLayout$Signaling -/
def k8 : Class := { plain "com/example/weigh/weigh/usage/UsageLayout$Signaling" (some 6) with
  accessFlags := 16433
  interfaces := #[]
  cf := some (fileOf pool8 1 #[.nestHost 52] #[] 16433 23 #[] #[{ accessFlags := 16409, nameIndex := 5, descriptorIndex := 6, attributes := #[] }, { accessFlags := 16409, nameIndex := 9, descriptorIndex := 6, attributes := #[] }, { accessFlags := 16409, nameIndex := 12, descriptorIndex := 6, attributes := #[] }, { accessFlags := 4122, nameIndex := 15, descriptorIndex := 16, attributes := #[] }])
  fields := #[{ name := "MF", type := (.object "com/example/weigh/weigh/usage/UsageLayout$Signaling"), accessFlags := 16409, slot := 0, constantValue := 0 }, { name := "SS7", type := (.object "com/example/weigh/weigh/usage/UsageLayout$Signaling"), accessFlags := 16409, slot := 1, constantValue := 0 }, { name := "SIP", type := (.object "com/example/weigh/weigh/usage/UsageLayout$Signaling"), accessFlags := 16409, slot := 2, constantValue := 0 }, { name := "$VALUES", type := (.array (.object "com/example/weigh/weigh/usage/UsageLayout$Signaling")), accessFlags := 4122, slot := 3, constantValue := 0 }]
  methods := #[]
  instanceTypes := #[(.object "java/lang/String"), .int, .int]
  staticTypes := #[(.object "com/example/weigh/weigh/usage/UsageLayout$Signaling"), (.object "com/example/weigh/weigh/usage/UsageLayout$Signaling"), (.object "com/example/weigh/weigh/usage/UsageLayout$Signaling"), (.array (.object "com/example/weigh/weigh/usage/UsageLayout$Signaling"))]
  resolved := Array.replicate 56 none
  statics := some 1 }

def pool9 : Array CpInfo := pool [(1, .class_ 2), (0, u "com/example/weigh/weigh/usage/UsageLayout$TrunkRouting"), (2, u "DIRECT"), (0, u "Lcom/example/weigh/weigh/usage/UsageLayout$TrunkRouting;"), (2, u "TANDEM"), (2, u "$VALUES"), (0, u "[Lcom/example/weigh/weigh/usage/UsageLayout$TrunkRouting;"), (6, .class_ 22), (1, u "java/lang/Enum"), (25, .class_ 49), (0, u "com/example/weigh/weigh/usage/UsageLayout")] 2

/-- com/example/weigh/weigh/usage/UsageLayout$TrunkRouting -/
def k9 : Class := { plain "com/example/weigh/weigh/usage/UsageLayout$TrunkRouting" (some 6) with
  accessFlags := 16433
  interfaces := #[]
  cf := some (fileOf pool9 1 #[.nestHost 48] #[] 16433 20 #[] #[{ accessFlags := 16409, nameIndex := 5, descriptorIndex := 6, attributes := #[] }, { accessFlags := 16409, nameIndex := 9, descriptorIndex := 6, attributes := #[] }, { accessFlags := 4122, nameIndex := 12, descriptorIndex := 13, attributes := #[] }])
  fields := #[{ name := "DIRECT", type := (.object "com/example/weigh/weigh/usage/UsageLayout$TrunkRouting"), accessFlags := 16409, slot := 0, constantValue := 0 }, { name := "TANDEM", type := (.object "com/example/weigh/weigh/usage/UsageLayout$TrunkRouting"), accessFlags := 16409, slot := 1, constantValue := 0 }, { name := "$VALUES", type := (.array (.object "com/example/weigh/weigh/usage/UsageLayout$TrunkRouting")), accessFlags := 4122, slot := 2, constantValue := 0 }]
  methods := #[]
  instanceTypes := #[(.object "java/lang/String"), .int, .int]
  staticTypes := #[(.object "com/example/weigh/weigh/usage/UsageLayout$TrunkRouting"), (.object "com/example/weigh/weigh/usage/UsageLayout$TrunkRouting"), (.array (.object "com/example/weigh/weigh/usage/UsageLayout$TrunkRouting"))]
  resolved := Array.replicate 52 none
  statics := some 2 }

def pool10 : Array CpInfo := pool [(1, u "java/lang/Cloneable"), (0, .class_ 1), (0, u "java/lang/Object"), (0, .class_ 3)] 3

/-- java/lang/Cloneable -/
def k10 : Class := { plain "java/lang/Cloneable" (some 0) with
  accessFlags := 1537
  interfaces := #[]
  cf := some (fileOf pool10 2 #[] #[] 1537 4 #[] #[])
  fields := #[]
  methods := #[]
  instanceTypes := #[]
  staticTypes := #[]
  resolved := Array.replicate 8 none
  statics := none }

/-- the primitive byte -/
def k11 : Class := { plain "byte" none with kind := .primitive 'B', accessFlags := 0x411 }
/-- [B -/
def k12 : Class := { plain "[B" (some 0) with kind := .array 11 .byte, interfaces := #[10, 5], accessFlags := 1041 }

/-- the primitive int -/
def k13 : Class := { plain "int" none with kind := .primitive 'I', accessFlags := 0x411 }
/-- [I -/
def k14 : Class := { plain "[I" (some 0) with kind := .array 13 .int, interfaces := #[10, 5], accessFlags := 1041 }

def heap : Heap := #[{ cls := 7, slots := #[.ref 3, .ref 4, .null], vm := .statics 7 },
  { cls := 8, slots := #[.ref 5, .ref 7, .ref 6, .null], vm := .statics 8 },
  { cls := 9, slots := #[.ref 9, .ref 8, .null], vm := .statics 9 },
  { cls := 7, slots := #[.null, .int 0, .int 0], vm := .none },
  { cls := 7, slots := #[.null, .int 1, .int 0], vm := .none },
  { cls := 8, slots := #[.null, .int 0, .int 0], vm := .none },
  { cls := 8, slots := #[.null, .int 2, .int 0], vm := .none },
  { cls := 8, slots := #[.null, .int 1, .int 0], vm := .none },
  { cls := 9, slots := #[.null, .int 1, .int 0], vm := .none },
  { cls := 9, slots := #[.null, .int 0, .int 0], vm := .none }]
def classes : Array Class := #[k0, k1, k2, k3, k4, k5, k6, k7, k8, k9, k10, k11, k12, k13, k14]
def interned : List (Array UInt16 × Addr) := []
def slotsUsed : Nat := 31
def theMethod : MethodId := ⟨1, 4⟩
def args0 : Array Value := #[.int 1, .int 2, .int 3, .int 4, .int 5, .int 6]
def aboutOver (below : List Frame) : State where
  vm := { classes := classes, interned := interned.toArray }
  heap := heap
  slotsUsed := slotsUsed
  threads := #[{ frames := .invoking theMethod args0 :: below }]
def below0 : List Frame := [.native { method := ⟨0, 0⟩, args := #[] }]
def about1 : State := aboutOver below0
def p0 : Program := .bare "" "" ""
def e0 : Env := launch0.env 0 0 0
theorem w_frames : about1.frames = Frame.invoking theMethod args0 :: below0 := rfl
set_option maxRecDepth 65536 in
theorem w_args : argsFit about1.vm theMethod args0 = true := by decide +kernel
set_option maxRecDepth 65536 in
theorem w_heap : heapFits about1 = true := by decide +kernel
set_option maxRecDepth 65536 in
theorem w_runnable : about1.curStatus? = some .runnable := by decide +kernel
set_option maxRecDepth 65536 in
theorem w_alone : about1.alone = true := by decide +kernel
set_option maxRecDepth 65536 in
theorem w_named : about1.methodNamed? x = some theMethod := by decide +kernel
set_option maxRecDepth 65536 in
theorem w_hears : about1.hears theMethod below0 = true := by decide +kernel
set_option maxRecDepth 65536 in
theorem w_ripe : about1.ripe theMethod args0 below0 = true := by decide +kernel
theorem w_running : about1.status = .running := rfl
set_option maxRecDepth 65536 in
theorem w_room : about1.hasRoom e0.platform room_1 = true :=
  launch0.hasRoom_least _ room_1 (by decide +kernel) (by decide +kernel) (by decide +kernel) (by decide +kernel) (by decide +kernel) (by decide +kernel)
theorem allAtoms_all (ts : List Jvm.Cond) (a : Array Jvm.Value) (st : Jvm.State) : (allAtoms ts).before a st = ts.all (fun c => c.before a st) := by
  induction ts with
  | nil => rfl
  | cons c t ih =>
    show (Jvm.Cond.and c (allAtoms t)).before a st = _
    rw [Jvm.Cond.before_and, ih, List.all_cons]
def words1 : List Jvm.Cond := Jvm.Cond.code x code maxLocals ret :: tables_1
/-- a 'code' word, met by the world's own term for the bytes: nothing is compared byte by byte -/
theorem code_word {y : MethodName} {bytes : ByteArray} {mx : Nat} {rt : Option FieldType} {a : Array Value} {s : State} {m : MethodId} {meth : Method} {c : Code} (h1 : s.methodNamed? y = some m) (h2 : s.vm.method? m = some meth) (h3 : meth.code = some c) (h4 : c.code = bytes)
    (h5 : (c.maxLocals == mx && c.exceptionTable.isEmpty && decide (c.maxStack ≤ mostOperands) && decide (meth.sig.returnType = rt) && !meth.locks && decide (parseMethodDescriptor y.desc = some meth.sig)) = true) : (Jvm.Cond.code y bytes mx rt).before a s = true := by
  simp only [Bool.and_eq_true, beq_iff_eq, Bool.not_eq_true', decide_eq_true_eq] at h5
  obtain ⟨⟨⟨⟨⟨g1, g2⟩, g3⟩, g4⟩, g5⟩, g6⟩ := h5
  simp [Cond.before, Cond.holds, Cond.value, h1, h2, h3, h4, g1, g2, g3, g4, g5, g6]
def isCode : Jvm.Cond → Bool
  | .code _ _ _ _ => true
  | _ => false
theorem all_split {L : List Jvm.Cond} {P : Jvm.Cond → Bool} (h1 : L.all (fun c => isCode c || P c) = true) (h2 : ∀ c ∈ L.filter isCode, P c = true) : L.all P = true := by
  refine List.all_eq_true.mpr fun c hc => ?_
  have h := List.all_eq_true.mp h1 c hc
  rcases Bool.eq_false_or_eq_true (isCode c) with hi | hi
  · exact h2 c (List.mem_filter.mpr ⟨hc, hi⟩)
  · simpa [hi] using h
set_option maxRecDepth 65536 in
theorem w_c0 : (Jvm.Cond.code x code maxLocals ret).before args0 about1 = true := code_word (m := ⟨1, 4⟩) (meth := k1m4) (c := k1c4) (by decide +kernel) rfl rfl rfl (by decide +kernel)
set_option maxRecDepth 65536 in
theorem w_c1 : (Jvm.Cond.code ({ cls := "com/example/weigh/weigh/tariff/CallSelectorMatchesPinLaw", name := "dir", desc := "(I)Lcom/example/weigh/weigh/usage/UsageLayout$Direction;" } : Jvm.MethodName) method_2_code (1 : Nat) (Option.some (Jvm.ClassFile.FieldType.object "com/example/weigh/weigh/usage/UsageLayout$Direction"))).before args0 about1 = true := code_word (m := ⟨1, 1⟩) (meth := k1m1) (c := k1c1) (by decide +kernel) rfl rfl rfl (by decide +kernel)
set_option maxRecDepth 65536 in
theorem w_c2 : (Jvm.Cond.code ({ cls := "com/example/weigh/weigh/tariff/CallSelector", name := "<init>", desc := "(Lcom/example/weigh/weigh/usage/UsageLayout$Direction;Lcom/example/weigh/weigh/usage/UsageLayout$Signaling;Lcom/example/weigh/weigh/usage/UsageLayout$TrunkRouting;)V" } : Jvm.MethodName) prog_87_method_1_code (4 : Nat) (Option.none : Option Jvm.ClassFile.FieldType)).before args0 about1 = true := code_word (m := ⟨2, 0⟩) (meth := k2m0) (c := k2c0) (by decide +kernel) rfl rfl rfl (by decide +kernel)
set_option maxRecDepth 65536 in
theorem w_c3 : (Jvm.Cond.code ({ cls := "com/example/weigh/weigh/tariff/CallSelector", name := "<init>", desc := "(Lcom/example/weigh/weigh/usage/UsageLayout$Direction;Lcom/example/weigh/weigh/usage/UsageLayout$Signaling;Lcom/example/weigh/weigh/usage/UsageLayout$TrunkRouting;Ljava/util/BitSet;)V" } : Jvm.MethodName) prog_87_method_2_code (5 : Nat) (Option.none : Option Jvm.ClassFile.FieldType)).before args0 about1 = true := code_word (m := ⟨2, 1⟩) (meth := k2m1) (c := k2c1) (by decide +kernel) rfl rfl rfl (by decide +kernel)
set_option maxRecDepth 65536 in
theorem w_c4 : (Jvm.Cond.code ({ cls := "java/lang/Object", name := "<init>", desc := "()V" } : Jvm.MethodName) object_method_1_code (1 : Nat) (Option.none : Option Jvm.ClassFile.FieldType)).before args0 about1 = true := code_word (m := ⟨0, 0⟩) (meth := k0m0) (c := k0c0) (by decide +kernel) rfl rfl rfl (by decide +kernel)
set_option maxRecDepth 65536 in
theorem w_c5 : (Jvm.Cond.code ({ cls := "com/example/weigh/weigh/tariff/CallSelectorMatchesPinLaw", name := "sig", desc := "(I)Lcom/example/weigh/weigh/usage/UsageLayout$Signaling;" } : Jvm.MethodName) method_3_code (1 : Nat) (Option.some (Jvm.ClassFile.FieldType.object "com/example/weigh/weigh/usage/UsageLayout$Signaling"))).before args0 about1 = true := code_word (m := ⟨1, 2⟩) (meth := k1m2) (c := k1c2) (by decide +kernel) rfl rfl rfl (by decide +kernel)
set_option maxRecDepth 65536 in
theorem w_c6 : (Jvm.Cond.code ({ cls := "com/example/weigh/weigh/tariff/CallSelectorMatchesPinLaw", name := "rt", desc := "(I)Lcom/example/weigh/weigh/usage/UsageLayout$TrunkRouting;" } : Jvm.MethodName) method_4_code (1 : Nat) (Option.some (Jvm.ClassFile.FieldType.object "com/example/weigh/weigh/usage/UsageLayout$TrunkRouting"))).before args0 about1 = true := code_word (m := ⟨1, 3⟩) (meth := k1m3) (c := k1c3) (by decide +kernel) rfl rfl rfl (by decide +kernel)
set_option maxRecDepth 65536 in
theorem w_c7 : (Jvm.Cond.code ({ cls := "com/example/weigh/weigh/tariff/CallSelector", name := "matches", desc := "(Lcom/example/weigh/weigh/usage/UsageLayout$Direction;Lcom/example/weigh/weigh/usage/UsageLayout$Signaling;Lcom/example/weigh/weigh/usage/UsageLayout$TrunkRouting;)Z" } : Jvm.MethodName) prog_87_method_3_code (4 : Nat) (Option.some Jvm.ClassFile.FieldType.boolean)).before args0 about1 = true := code_word (m := ⟨2, 2⟩) (meth := k2m2) (c := k2c2) (by decide +kernel) rfl rfl rfl (by decide +kernel)
def codes1 : List Jvm.Cond := [Jvm.Cond.code x code maxLocals ret, Jvm.Cond.code ({ cls := "com/example/weigh/weigh/tariff/CallSelectorMatchesPinLaw", name := "dir", desc := "(I)Lcom/example/weigh/weigh/usage/UsageLayout$Direction;" } : Jvm.MethodName) method_2_code (1 : Nat) (Option.some (Jvm.ClassFile.FieldType.object "com/example/weigh/weigh/usage/UsageLayout$Direction")), Jvm.Cond.code ({ cls := "com/example/weigh/weigh/tariff/CallSelector", name := "<init>", desc := "(Lcom/example/weigh/weigh/usage/UsageLayout$Direction;Lcom/example/weigh/weigh/usage/UsageLayout$Signaling;Lcom/example/weigh/weigh/usage/UsageLayout$TrunkRouting;)V" } : Jvm.MethodName) prog_87_method_1_code (4 : Nat) (Option.none : Option Jvm.ClassFile.FieldType), Jvm.Cond.code ({ cls := "com/example/weigh/weigh/tariff/CallSelector", name := "<init>", desc := "(Lcom/example/weigh/weigh/usage/UsageLayout$Direction;Lcom/example/weigh/weigh/usage/UsageLayout$Signaling;Lcom/example/weigh/weigh/usage/UsageLayout$TrunkRouting;Ljava/util/BitSet;)V" } : Jvm.MethodName) prog_87_method_2_code (5 : Nat) (Option.none : Option Jvm.ClassFile.FieldType), Jvm.Cond.code ({ cls := "java/lang/Object", name := "<init>", desc := "()V" } : Jvm.MethodName) object_method_1_code (1 : Nat) (Option.none : Option Jvm.ClassFile.FieldType), Jvm.Cond.code ({ cls := "com/example/weigh/weigh/tariff/CallSelectorMatchesPinLaw", name := "sig", desc := "(I)Lcom/example/weigh/weigh/usage/UsageLayout$Signaling;" } : Jvm.MethodName) method_3_code (1 : Nat) (Option.some (Jvm.ClassFile.FieldType.object "com/example/weigh/weigh/usage/UsageLayout$Signaling")), Jvm.Cond.code ({ cls := "com/example/weigh/weigh/tariff/CallSelectorMatchesPinLaw", name := "rt", desc := "(I)Lcom/example/weigh/weigh/usage/UsageLayout$TrunkRouting;" } : Jvm.MethodName) method_4_code (1 : Nat) (Option.some (Jvm.ClassFile.FieldType.object "com/example/weigh/weigh/usage/UsageLayout$TrunkRouting")), Jvm.Cond.code ({ cls := "com/example/weigh/weigh/tariff/CallSelector", name := "matches", desc := "(Lcom/example/weigh/weigh/usage/UsageLayout$Direction;Lcom/example/weigh/weigh/usage/UsageLayout$Signaling;Lcom/example/weigh/weigh/usage/UsageLayout$TrunkRouting;)Z" } : Jvm.MethodName) prog_87_method_3_code (4 : Nat) (Option.some Jvm.ClassFile.FieldType.boolean)]
set_option maxRecDepth 65536 in
theorem codes_eq : words1.filter isCode = codes1 := rfl
theorem w_codes : ∀ c ∈ words1.filter isCode, c.before args0 about1 = true := by
  rw [codes_eq]
  intro c hc
  simp only [codes1, List.mem_cons, List.not_mem_nil, or_false] at hc
  rcases hc with rfl | rfl | rfl | rfl | rfl | rfl | rfl | rfl
  · exact w_c0
  · exact w_c1
  · exact w_c2
  · exact w_c3
  · exact w_c4
  · exact w_c5
  · exact w_c6
  · exact w_c7
set_option maxRecDepth 65536 in
theorem w_t1 : (words1.take 24).all (fun c => isCode c || c.before args0 about1) = true := by decide +kernel
set_option maxRecDepth 65536 in
theorem w_t2 : ((words1.drop 24).take 24).all (fun c => isCode c || c.before args0 about1) = true := by decide +kernel
set_option maxRecDepth 65536 in
theorem w_t3 : ((words1.drop 24).drop 24).all (fun c => isCode c || c.before args0 about1) = true := by decide +kernel
theorem w_tables : (allAtoms (Jvm.Cond.code x code maxLocals ret :: tables_1)).before args0 about1 = true := by
  rw [allAtoms_all]
  show words1.all (fun c => c.before args0 about1) = true
  refine all_split ?_ w_codes
  rw [← List.take_append_drop 24 words1, List.all_append, w_t1, ← List.take_append_drop 24 (words1.drop 24), List.all_append, w_t2, w_t3]
  rfl
set_option maxRecDepth 65536 in
theorem w_case : (Jvm.Cond.and given_1 narrow_1).before args0 about1 = true := by decide +kernel
theorem w_applies : (headSpec (Jvm.Cond.code x code maxLocals ret :: tables_1) room_1).applies x e0.platform about1 = true :=
  (Spec.applies_iff w_frames).mpr ⟨w_running, w_runnable, w_alone, w_named, w_hears, w_ripe, w_room, w_tables⟩
theorem atStart : AtStart classFile x code maxLocals ret World_1 tables_1 room_1 Calls_1 rest_1 Pre_1 launch0 p0 e0 about1 theMethod args0 below0 :=
  ⟨lists_1, trivial, launch0.admits_env _ _ _, launch0.least_env, fairChoices_fair.cas, fairChoices_fair.clock, w_frames, w_args, w_heap, w_applies, trivial, trivial, w_case⟩
end start1
theorem witness_1 : WitnessClaimed_1 := ⟨start1.p0, start1.e0, start1.about1, start1.theMethod, start1.args0, start1.below0, start1.atStart⟩
end Jvm.Pilot.@@N@@
