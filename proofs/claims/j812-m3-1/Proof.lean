import JvmDerived
import JvmDerived.Pilot.@@N@@Statement
import JvmDerived.Pilot.@@N@@Code
set_option linter.unusedVariables false
set_option linter.unusedSimpArgs false
namespace Jvm.Pilot.@@N@@
open Jvm Jvm.ClassFile Sem Op Lib Jvm.Free Jvm.Stand Jvm.LawKit Jvm.RoadKit Bundle Jvm.Pilot.@@N@@.Jvm.D
/-! ## the shared layer: own_Go and its laws -/
def Go (p : Program) (e : Env) (below : List Frame) (P : State → Outcome → Prop) (T : State) (g : JFrame) : Prop := ∃ t o, Steps p.tables e below (T.setTop g) t ∧ t.status = .running ∧ Ended t below o ∧ P t o
def RP (s : State) (k n : Nat) (Q : Option Value → Heap → List Loc → Prop) (t : State) (o : Outcome) : Prop := ∃ v L, o = .returned v ∧ Q v t.heap L ∧ FrameEnd s o t L k n
theorem wd {a0 : Array Value} {Z : State} (hw : ∀ d ∈ tables_1, d.before a0 Z = true) (k : Nat) {d : Jvm.Cond} (h : tables_1[k]? = some d) : d.before a0 Z = true := hw _ (List.mem_of_getElem? h)
section OwnGo
variable {p : Program} {l : Launch} {e : Env} {R : Room} {s : State} {m : MethodId} {args : Array Value} {below : List Frame} {meth : Method} {c : Code} {T : State} {locs : List Loc} {cells slots : Nat} {P : State → Outcome → Prop} {pc : Nat} {Ls : Array Slot} {st : List Value} {Z : State} {a0 : Array Value} {h : Heap}
theorem Go.stp {T' : State} {g g' : JFrame} (G : Go p e below P T' g') (k : ∀ t, Steps p.tables e below (T'.setTop g') t → Steps p.tables e below (T.setTop g) t) : Go p e below P T g := by
  obtain ⟨t, o, h, r⟩ := G
  exact ⟨t, o, k t h, r⟩
theorem Go.cast {g g' : JFrame} (q : g = g') (G : Go p e below P T g') : Go p e below P T g := q ▸ G
theorem g_iload (X : Stand p l e R s m args below meth c T locs cells slots) (hx : p.tables.exec = Jvm.exec) {k : Nat} {v : Int32} (hl : Ls[k]? = some (.val (.int v))) (hd : decode c.code pc = .ok (.iload k, 2)) (pc' : Nat) (hp : pc + 2 = pc') (G : Go p e below P T (mkF m pc' Ls (.int v :: st))) : Go p e below P T (mkF m pc Ls st) := by
  subst hp
  exact G.stp fun _ h => XS.iload X.here hx rfl hd hl h
theorem g_iloadN (X : Stand p l e R s m args below meth c T locs cells slots) (hx : p.tables.exec = Jvm.exec) {k : Fin 4} {v : Int32} (hl : Ls[k.val]? = some (.val (.int v))) (hd : decode c.code pc = .ok (.iload_n k, 1)) (pc' : Nat) (hp : pc + 1 = pc') (G : Go p e below P T (mkF m pc' Ls (.int v :: st))) : Go p e below P T (mkF m pc Ls st) := by
  subst hp
  exact G.stp fun _ h => XS.iloadN X.here hx rfl hd hl h
theorem g_istore (X : Stand p l e R s m args below meth c T locs cells slots) (hx : p.tables.exec = Jvm.exec) {k : Nat} {v : Int32} (l' : Array Slot) (hl : storeLocals Ls k (.int v) = some l') (hd : decode c.code pc = .ok (.istore k, 2)) (pc' : Nat) (hp : pc + 2 = pc') (G : Go p e below P T (mkF m pc' l' st)) : Go p e below P T (mkF m pc Ls (.int v :: st)) := by
  subst hp
  exact G.stp fun _ h => XS.istore X.here hx rfl hd rfl hl h
theorem g_istoreN (X : Stand p l e R s m args below meth c T locs cells slots) (hx : p.tables.exec = Jvm.exec) {k : Fin 4} {v : Int32} (l' : Array Slot) (hl : storeLocals Ls k.val (.int v) = some l') (hd : decode c.code pc = .ok (.istore_n k, 1)) (pc' : Nat) (hp : pc + 1 = pc') (G : Go p e below P T (mkF m pc' l' st)) : Go p e below P T (mkF m pc Ls (.int v :: st)) := by
  subst hp
  exact G.stp fun _ h => XS.istoreN X.here hx rfl hd rfl hl h
theorem g_lload (X : Stand p l e R s m args below meth c T locs cells slots) (hx : p.tables.exec = Jvm.exec) {k : Nat} {v : Int64} (hl : Ls[k]? = some (.val (.long v))) (hd : decode c.code pc = .ok (.lload k, 2)) (pc' : Nat) (hp : pc + 2 = pc') (G : Go p e below P T (mkF m pc' Ls (.long v :: st))) : Go p e below P T (mkF m pc Ls st) := by
  subst hp
  exact G.stp fun _ h => XT.lload X.here hx rfl hd hl h
theorem g_lloadN (X : Stand p l e R s m args below meth c T locs cells slots) (hx : p.tables.exec = Jvm.exec) {k : Fin 4} {v : Int64} (hl : Ls[k.val]? = some (.val (.long v))) (hd : decode c.code pc = .ok (.lload_n k, 1)) (pc' : Nat) (hp : pc + 1 = pc') (G : Go p e below P T (mkF m pc' Ls (.long v :: st))) : Go p e below P T (mkF m pc Ls st) := by
  subst hp
  exact G.stp fun _ h => XT.lloadN X.here hx rfl hd hl h
theorem g_lstore (X : Stand p l e R s m args below meth c T locs cells slots) (hx : p.tables.exec = Jvm.exec) {k : Nat} {v : Int64} (l' : Array Slot) (hl : storeLocals Ls k (.long v) = some l') (hd : decode c.code pc = .ok (.lstore k, 2)) (pc' : Nat) (hp : pc + 2 = pc') (G : Go p e below P T (mkF m pc' l' st)) : Go p e below P T (mkF m pc Ls (.long v :: st)) := by
  subst hp
  exact G.stp fun _ h => XT.lstore X.here hx rfl hd rfl hl h
theorem g_lstoreN (X : Stand p l e R s m args below meth c T locs cells slots) (hx : p.tables.exec = Jvm.exec) {k : Fin 4} {v : Int64} (l' : Array Slot) (hl : storeLocals Ls k.val (.long v) = some l') (hd : decode c.code pc = .ok (.lstore_n k, 1)) (pc' : Nat) (hp : pc + 1 = pc') (G : Go p e below P T (mkF m pc' l' st)) : Go p e below P T (mkF m pc Ls (.long v :: st)) := by
  subst hp
  exact G.stp fun _ h => XT.lstoreN X.here hx rfl hd rfl hl h
theorem g_aload (X : Stand p l e R s m args below meth c T locs cells slots) (hx : p.tables.exec = Jvm.exec) {k : Nat} {v : Value} (hl : Ls[k]? = some (.val v)) (hv : v.isRef = true) (hd : decode c.code pc = .ok (.aload k, 2)) (pc' : Nat) (hp : pc + 2 = pc') (G : Go p e below P T (mkF m pc' Ls (v :: st))) : Go p e below P T (mkF m pc Ls st) := by
  subst hp
  exact G.stp fun _ h => XS.aload X.here hx rfl hd hl hv h
theorem g_aloadN (X : Stand p l e R s m args below meth c T locs cells slots) (hx : p.tables.exec = Jvm.exec) {k : Fin 4} {v : Value} (hl : Ls[k.val]? = some (.val v)) (hv : v.isRef = true) (hd : decode c.code pc = .ok (.aload_n k, 1)) (pc' : Nat) (hp : pc + 1 = pc') (G : Go p e below P T (mkF m pc' Ls (v :: st))) : Go p e below P T (mkF m pc Ls st) := by
  subst hp
  exact G.stp fun _ h => XS.aloadN X.here hx rfl hd hl hv h
theorem g_astore (X : Stand p l e R s m args below meth c T locs cells slots) (hx : p.tables.exec = Jvm.exec) {k : Nat} {v : Value} (l' : Array Slot) (hv : v.isRef = true) (hl : storeLocals Ls k v = some l') (hd : decode c.code pc = .ok (.astore k, 2)) (pc' : Nat) (hp : pc + 2 = pc') (G : Go p e below P T (mkF m pc' l' st)) : Go p e below P T (mkF m pc Ls (v :: st)) := by
  subst hp
  exact G.stp fun _ h => XS.astore X.here hx rfl hd rfl hv hl h
theorem g_astoreN (X : Stand p l e R s m args below meth c T locs cells slots) (hx : p.tables.exec = Jvm.exec) {k : Fin 4} {v : Value} (l' : Array Slot) (hv : v.isRef = true) (hl : storeLocals Ls k.val v = some l') (hd : decode c.code pc = .ok (.astore_n k, 1)) (pc' : Nat) (hp : pc + 1 = pc') (G : Go p e below P T (mkF m pc' l' st)) : Go p e below P T (mkF m pc Ls (v :: st)) := by
  subst hp
  exact G.stp fun _ h => XS.astoreN X.here hx rfl hd rfl hv hl h
theorem g_iconst (X : Stand p l e R s m args below meth c T locs cells slots) (hx : p.tables.exec = Jvm.exec) {i : Int} (v : Int32) (hv : Int32.ofInt i = v) (hd : decode c.code pc = .ok (.iconst i, 1)) (pc' : Nat) (hp : pc + 1 = pc') (G : Go p e below P T (mkF m pc' Ls (.int v :: st))) : Go p e below P T (mkF m pc Ls st) := by
  subst hp
  exact G.stp fun _ h => XT.iconstV X.here hx rfl v hd hv h
theorem g_bipush (X : Stand p l e R s m args below meth c T locs cells slots) (hx : p.tables.exec = Jvm.exec) {i : Int} (v : Int32) (hv : (Int8.ofInt i).toInt32 = v) (hd : decode c.code pc = .ok (.bipush i, 2)) (pc' : Nat) (hp : pc + 2 = pc') (G : Go p e below P T (mkF m pc' Ls (.int v :: st))) : Go p e below P T (mkF m pc Ls st) := by
  subst hp
  exact G.stp fun _ h => XT.bipushV X.here hx rfl v hd hv h
theorem g_sipush (X : Stand p l e R s m args below meth c T locs cells slots) (hx : p.tables.exec = Jvm.exec) {i : Int} (v : Int32) (hv : (Int16.ofInt i).toInt32 = v) (hd : decode c.code pc = .ok (.sipush i, 3)) (pc' : Nat) (hp : pc + 3 = pc') (G : Go p e below P T (mkF m pc' Ls (.int v :: st))) : Go p e below P T (mkF m pc Ls st) := by
  subst hp
  exact G.stp fun _ h => XT.sipushV X.here hx rfl v hd hv h
theorem g_lconst (X : Stand p l e R s m args below meth c T locs cells slots) (hx : p.tables.exec = Jvm.exec) {i : Fin 2} (v : Int64) (hv : Int64.ofNat i = v) (hd : decode c.code pc = .ok (.lconst i, 1)) (pc' : Nat) (hp : pc + 1 = pc') (G : Go p e below P T (mkF m pc' Ls (.long v :: st))) : Go p e below P T (mkF m pc Ls st) := by
  subst hp
  exact G.stp fun _ h => XT.lconstV X.here hx rfl v hd hv h
theorem g_aconst_null (X : Stand p l e R s m args below meth c T locs cells slots) (hx : p.tables.exec = Jvm.exec)  (hd : decode c.code pc = .ok (.aconst_null, 1)) (pc' : Nat) (hp : pc + 1 = pc') (G : Go p e below P T (mkF m pc' Ls (.null :: st))) : Go p e below P T (mkF m pc Ls st) := by
  subst hp
  exact G.stp fun _ h => XS.aconstNull X.here hx rfl hd h
theorem g_iadd (X : Stand p l e R s m args below meth c T locs cells slots) (hx : p.tables.exec = Jvm.exec) {x y : Int32} (hd : decode c.code pc = .ok (.iadd, 1)) (pc' : Nat) (hp : pc + 1 = pc') (G : Go p e below P T (mkF m pc' Ls (.int (x + y) :: st))) : Go p e below P T (mkF m pc Ls (.int y :: .int x :: st)) := by
  subst hp
  exact G.stp fun _ h => XS.iadd X.here hx rfl hd rfl h
theorem g_ladd (X : Stand p l e R s m args below meth c T locs cells slots) (hx : p.tables.exec = Jvm.exec) {x y : Int64} (hd : decode c.code pc = .ok (.ladd, 1)) (pc' : Nat) (hp : pc + 1 = pc') (G : Go p e below P T (mkF m pc' Ls (.long (x + y) :: st))) : Go p e below P T (mkF m pc Ls (.long y :: .long x :: st)) := by
  subst hp
  exact G.stp fun _ h => XT.ladd X.here hx rfl hd rfl h
theorem g_isub (X : Stand p l e R s m args below meth c T locs cells slots) (hx : p.tables.exec = Jvm.exec) {x y : Int32} (hd : decode c.code pc = .ok (.isub, 1)) (pc' : Nat) (hp : pc + 1 = pc') (G : Go p e below P T (mkF m pc' Ls (.int (x - y) :: st))) : Go p e below P T (mkF m pc Ls (.int y :: .int x :: st)) := by
  subst hp
  exact G.stp fun _ h => XS.isub X.here hx rfl hd rfl h
theorem g_lsub (X : Stand p l e R s m args below meth c T locs cells slots) (hx : p.tables.exec = Jvm.exec) {x y : Int64} (hd : decode c.code pc = .ok (.lsub, 1)) (pc' : Nat) (hp : pc + 1 = pc') (G : Go p e below P T (mkF m pc' Ls (.long (x - y) :: st))) : Go p e below P T (mkF m pc Ls (.long y :: .long x :: st)) := by
  subst hp
  exact G.stp fun _ h => XT.lsub X.here hx rfl hd rfl h
theorem g_imul (X : Stand p l e R s m args below meth c T locs cells slots) (hx : p.tables.exec = Jvm.exec) {x y : Int32} (hd : decode c.code pc = .ok (.imul, 1)) (pc' : Nat) (hp : pc + 1 = pc') (G : Go p e below P T (mkF m pc' Ls (.int (x * y) :: st))) : Go p e below P T (mkF m pc Ls (.int y :: .int x :: st)) := by
  subst hp
  exact G.stp fun _ h => XS.imul X.here hx rfl hd rfl h
theorem g_lmul (X : Stand p l e R s m args below meth c T locs cells slots) (hx : p.tables.exec = Jvm.exec) {x y : Int64} (hd : decode c.code pc = .ok (.lmul, 1)) (pc' : Nat) (hp : pc + 1 = pc') (G : Go p e below P T (mkF m pc' Ls (.long (x * y) :: st))) : Go p e below P T (mkF m pc Ls (.long y :: .long x :: st)) := by
  subst hp
  exact G.stp fun _ h => XT.lmul X.here hx rfl hd rfl h
theorem g_iand (X : Stand p l e R s m args below meth c T locs cells slots) (hx : p.tables.exec = Jvm.exec) {x y : Int32} (hd : decode c.code pc = .ok (.iand, 1)) (pc' : Nat) (hp : pc + 1 = pc') (G : Go p e below P T (mkF m pc' Ls (.int (x &&& y) :: st))) : Go p e below P T (mkF m pc Ls (.int y :: .int x :: st)) := by
  subst hp
  exact G.stp fun _ h => XS.iand X.here hx rfl hd rfl h
theorem g_land (X : Stand p l e R s m args below meth c T locs cells slots) (hx : p.tables.exec = Jvm.exec) {x y : Int64} (hd : decode c.code pc = .ok (.land, 1)) (pc' : Nat) (hp : pc + 1 = pc') (G : Go p e below P T (mkF m pc' Ls (.long (x &&& y) :: st))) : Go p e below P T (mkF m pc Ls (.long y :: .long x :: st)) := by
  subst hp
  exact G.stp fun _ h => XT.land X.here hx rfl hd rfl h
theorem g_ior (X : Stand p l e R s m args below meth c T locs cells slots) (hx : p.tables.exec = Jvm.exec) {x y : Int32} (hd : decode c.code pc = .ok (.ior, 1)) (pc' : Nat) (hp : pc + 1 = pc') (G : Go p e below P T (mkF m pc' Ls (.int (x ||| y) :: st))) : Go p e below P T (mkF m pc Ls (.int y :: .int x :: st)) := by
  subst hp
  exact G.stp fun _ h => XT.ior X.here hx rfl hd rfl h
theorem g_lor (X : Stand p l e R s m args below meth c T locs cells slots) (hx : p.tables.exec = Jvm.exec) {x y : Int64} (hd : decode c.code pc = .ok (.lor, 1)) (pc' : Nat) (hp : pc + 1 = pc') (G : Go p e below P T (mkF m pc' Ls (.long (x ||| y) :: st))) : Go p e below P T (mkF m pc Ls (.long y :: .long x :: st)) := by
  subst hp
  exact G.stp fun _ h => XT.lor X.here hx rfl hd rfl h
theorem g_ixor (X : Stand p l e R s m args below meth c T locs cells slots) (hx : p.tables.exec = Jvm.exec) {x y : Int32} (hd : decode c.code pc = .ok (.ixor, 1)) (pc' : Nat) (hp : pc + 1 = pc') (G : Go p e below P T (mkF m pc' Ls (.int (x ^^^ y) :: st))) : Go p e below P T (mkF m pc Ls (.int y :: .int x :: st)) := by
  subst hp
  exact G.stp fun _ h => XT.ixor X.here hx rfl hd rfl h
theorem g_lxor (X : Stand p l e R s m args below meth c T locs cells slots) (hx : p.tables.exec = Jvm.exec) {x y : Int64} (hd : decode c.code pc = .ok (.lxor, 1)) (pc' : Nat) (hp : pc + 1 = pc') (G : Go p e below P T (mkF m pc' Ls (.long (x ^^^ y) :: st))) : Go p e below P T (mkF m pc Ls (.long y :: .long x :: st)) := by
  subst hp
  exact G.stp fun _ h => XT.lxor X.here hx rfl hd rfl h
theorem g_idiv (X : Stand p l e R s m args below meth c T locs cells slots) (hx : p.tables.exec = Jvm.exec) {x y : Int32} (hy : y ≠ 0) (hd : decode c.code pc = .ok (.idiv, 1)) (pc' : Nat) (hp : pc + 1 = pc') (G : Go p e below P T (mkF m pc' Ls (.int (x / y) :: st))) : Go p e below P T (mkF m pc Ls (.int y :: .int x :: st)) := by
  subst hp
  exact G.stp fun _ h => XS.idiv X.here hx rfl hd rfl hy h
theorem g_irem (X : Stand p l e R s m args below meth c T locs cells slots) (hx : p.tables.exec = Jvm.exec) {x y : Int32} (hy : y ≠ 0) (hd : decode c.code pc = .ok (.irem, 1)) (pc' : Nat) (hp : pc + 1 = pc') (G : Go p e below P T (mkF m pc' Ls (.int (x % y) :: st))) : Go p e below P T (mkF m pc Ls (.int y :: .int x :: st)) := by
  subst hp
  exact G.stp fun _ h => iremM X hx rfl hd rfl hy h
theorem g_ldiv (X : Stand p l e R s m args below meth c T locs cells slots) (hx : p.tables.exec = Jvm.exec) {x y : Int64} (hy : y ≠ 0) (hd : decode c.code pc = .ok (.ldiv, 1)) (pc' : Nat) (hp : pc + 1 = pc') (G : Go p e below P T (mkF m pc' Ls (.long (x / y) :: st))) : Go p e below P T (mkF m pc Ls (.long y :: .long x :: st)) := by
  subst hp
  exact G.stp fun _ h => XT.ldiv X.here hx rfl hd rfl hy h
theorem g_lrem (X : Stand p l e R s m args below meth c T locs cells slots) (hx : p.tables.exec = Jvm.exec) {x y : Int64} (hy : y ≠ 0) (hd : decode c.code pc = .ok (.lrem, 1)) (pc' : Nat) (hp : pc + 1 = pc') (G : Go p e below P T (mkF m pc' Ls (.long (x % y) :: st))) : Go p e below P T (mkF m pc Ls (.long y :: .long x :: st)) := by
  subst hp
  rw [← lrem_mod] at G
  exact G.stp fun _ h => XT.lrem X.here hx rfl hd rfl hy h
theorem g_ishl (X : Stand p l e R s m args below meth c T locs cells slots) (hx : p.tables.exec = Jvm.exec) {x y : Int32} (hd : decode c.code pc = .ok (.ishl, 1)) (pc' : Nat) (hp : pc + 1 = pc') (G : Go p e below P T (mkF m pc' Ls (.int (x <<< (y &&& 31)) :: st))) : Go p e below P T (mkF m pc Ls (.int y :: .int x :: st)) := by
  subst hp
  exact G.stp fun _ h => XT.ishl X.here hx rfl hd rfl h
theorem g_ishr (X : Stand p l e R s m args below meth c T locs cells slots) (hx : p.tables.exec = Jvm.exec) {x y : Int32} (hd : decode c.code pc = .ok (.ishr, 1)) (pc' : Nat) (hp : pc + 1 = pc') (G : Go p e below P T (mkF m pc' Ls (.int (x >>> (y &&& 31)) :: st))) : Go p e below P T (mkF m pc Ls (.int y :: .int x :: st)) := by
  subst hp
  exact G.stp fun _ h => XT.ishr X.here hx rfl hd rfl h
theorem g_iushr (X : Stand p l e R s m args below meth c T locs cells slots) (hx : p.tables.exec = Jvm.exec) {x y : Int32} (hd : decode c.code pc = .ok (.iushr, 1)) (pc' : Nat) (hp : pc + 1 = pc') (G : Go p e below P T (mkF m pc' Ls (.int (XT.ushr x y) :: st))) : Go p e below P T (mkF m pc Ls (.int y :: .int x :: st)) := by
  subst hp
  exact G.stp fun _ h => XT.iushr X.here hx rfl hd rfl h
theorem g_lshl (X : Stand p l e R s m args below meth c T locs cells slots) (hx : p.tables.exec = Jvm.exec) {x : Int64} {y : Int32} (hd : decode c.code pc = .ok (.lshl, 1)) (pc' : Nat) (hp : pc + 1 = pc') (G : Go p e below P T (mkF m pc' Ls (.long (x <<< (y &&& 0x3f).toInt64) :: st))) : Go p e below P T (mkF m pc Ls (.int y :: .long x :: st)) := by
  subst hp
  exact G.stp fun _ h => XS.lshl X.here hx rfl hd rfl h
theorem g_lshr (X : Stand p l e R s m args below meth c T locs cells slots) (hx : p.tables.exec = Jvm.exec) {x : Int64} {y : Int32} (hd : decode c.code pc = .ok (.lshr, 1)) (pc' : Nat) (hp : pc + 1 = pc') (G : Go p e below P T (mkF m pc' Ls (.long (x >>> (y &&& 0x3f).toInt64) :: st))) : Go p e below P T (mkF m pc Ls (.int y :: .long x :: st)) := by
  subst hp
  exact G.stp fun _ h => XS.lshr X.here hx rfl hd rfl h
theorem g_lushr (X : Stand p l e R s m args below meth c T locs cells slots) (hx : p.tables.exec = Jvm.exec) {x : Int64} {y : Int32} (hd : decode c.code pc = .ok (.lushr, 1)) (pc' : Nat) (hp : pc + 1 = pc') (G : Go p e below P T (mkF m pc' Ls (.long (XT.ushrL x y) :: st))) : Go p e below P T (mkF m pc Ls (.int y :: .long x :: st)) := by
  subst hp
  exact G.stp fun _ h => XT.lushr X.here hx rfl hd rfl h
theorem g_ineg (X : Stand p l e R s m args below meth c T locs cells slots) (hx : p.tables.exec = Jvm.exec) {x : Int32} (hd : decode c.code pc = .ok (.ineg, 1)) (pc' : Nat) (hp : pc + 1 = pc') (G : Go p e below P T (mkF m pc' Ls (.int (-x) :: st))) : Go p e below P T (mkF m pc Ls (.int x :: st)) := by
  subst hp
  exact G.stp fun _ h => XS.ineg X.here hx rfl hd rfl h
theorem g_i2l (X : Stand p l e R s m args below meth c T locs cells slots) (hx : p.tables.exec = Jvm.exec) {x : Int32} (hd : decode c.code pc = .ok (.i2l, 1)) (pc' : Nat) (hp : pc + 1 = pc') (G : Go p e below P T (mkF m pc' Ls (.long x.toInt64 :: st))) : Go p e below P T (mkF m pc Ls (.int x :: st)) := by
  subst hp
  exact G.stp fun _ h => XT.i2l X.here hx rfl hd rfl h
theorem g_l2i (X : Stand p l e R s m args below meth c T locs cells slots) (hx : p.tables.exec = Jvm.exec) {x : Int64} (hd : decode c.code pc = .ok (.l2i, 1)) (pc' : Nat) (hp : pc + 1 = pc') (G : Go p e below P T (mkF m pc' Ls (.int x.toInt32 :: st))) : Go p e below P T (mkF m pc Ls (.long x :: st)) := by
  subst hp
  exact G.stp fun _ h => XT.l2i X.here hx rfl hd rfl h
theorem g_i2b (X : Stand p l e R s m args below meth c T locs cells slots) (hx : p.tables.exec = Jvm.exec) {x : Int32} (hd : decode c.code pc = .ok (.i2b, 1)) (pc' : Nat) (hp : pc + 1 = pc') (G : Go p e below P T (mkF m pc' Ls (.int x.toInt8.toInt32 :: st))) : Go p e below P T (mkF m pc Ls (.int x :: st)) := by
  subst hp
  exact G.stp fun _ h => XT.i2b X.here hx rfl hd rfl h
theorem g_i2s (X : Stand p l e R s m args below meth c T locs cells slots) (hx : p.tables.exec = Jvm.exec) {x : Int32} (hd : decode c.code pc = .ok (.i2s, 1)) (pc' : Nat) (hp : pc + 1 = pc') (G : Go p e below P T (mkF m pc' Ls (.int x.toInt16.toInt32 :: st))) : Go p e below P T (mkF m pc Ls (.int x :: st)) := by
  subst hp
  exact G.stp fun _ h => XT.i2s X.here hx rfl hd rfl h
theorem g_i2c (X : Stand p l e R s m args below meth c T locs cells slots) (hx : p.tables.exec = Jvm.exec) {x : Int32} (hd : decode c.code pc = .ok (.i2c, 1)) (pc' : Nat) (hp : pc + 1 = pc') (G : Go p e below P T (mkF m pc' Ls (.int x.toUInt32.toUInt16.toUInt32.toInt32 :: st))) : Go p e below P T (mkF m pc Ls (.int x :: st)) := by
  subst hp
  exact G.stp fun _ h => XT.i2c X.here hx rfl hd rfl h
theorem g_pop (X : Stand p l e R s m args below meth c T locs cells slots) (hx : p.tables.exec = Jvm.exec) {x : Value} (hc : x.category = 1) (hd : decode c.code pc = .ok (.pop, 1)) (pc' : Nat) (hp : pc + 1 = pc') (G : Go p e below P T (mkF m pc' Ls st)) : Go p e below P T (mkF m pc Ls (x :: st)) := by
  subst hp
  exact G.stp fun _ h => XT.pop X.here hx rfl hd rfl hc h
theorem g_dup (X : Stand p l e R s m args below meth c T locs cells slots) (hx : p.tables.exec = Jvm.exec) {x : Value} (hc : x.category = 1) (hd : decode c.code pc = .ok (.dup, 1)) (pc' : Nat) (hp : pc + 1 = pc') (G : Go p e below P T (mkF m pc' Ls (x :: x :: st))) : Go p e below P T (mkF m pc Ls (x :: st)) := by
  subst hp
  exact G.stp fun _ h => XS.dup X.here hx rfl hd rfl hc h
theorem g_dup_x1 (X : Stand p l e R s m args below meth c T locs cells slots) (hx : p.tables.exec = Jvm.exec) {x y : Value} (hc : x.category = 1) (hc' : y.category = 1) (hd : decode c.code pc = .ok (.dup_x1, 1)) (pc' : Nat) (hp : pc + 1 = pc') (G : Go p e below P T (mkF m pc' Ls (x :: y :: x :: st))) : Go p e below P T (mkF m pc Ls (x :: y :: st)) := by
  subst hp
  exact G.stp fun _ h => XT.dupX1 X.here hx rfl hd rfl hc hc' h
theorem g_dup2 (X : Stand p l e R s m args below meth c T locs cells slots) (hx : p.tables.exec = Jvm.exec) {x y : Value} (hc : x.category = 1) (hc' : y.category = 1) (hd : decode c.code pc = .ok (.dup2, 1)) (pc' : Nat) (hp : pc + 1 = pc') (G : Go p e below P T (mkF m pc' Ls (x :: y :: x :: y :: st))) : Go p e below P T (mkF m pc Ls (x :: y :: st)) := by
  subst hp
  exact G.stp fun _ h => XT.dup2 X.here hx rfl hd rfl hc hc' h
theorem g_iinc (X : Stand p l e R s m args below meth c T locs cells slots) (hx : p.tables.exec = Jvm.exec) {k : Nat} {cst : Int} {x : Int32} (v : Int32) (hv : Int32.ofInt cst = v) (hl : Ls[k]? = some (.val (.int x))) (l' : Array Slot) (hl' : storeLocals Ls k (.int (x + v)) = some l') (hd : decode c.code pc = .ok (.iinc k cst, 3)) (pc' : Nat) (hp : pc + 3 = pc') (G : Go p e below P T (mkF m pc' l' st)) : Go p e below P T (mkF m pc Ls st) := by
  subst hp
  exact G.stp fun _ h => XT.iincV X.here hx rfl v hd hv hl hl' h
theorem g_goto (X : Stand p l e R s m args below meth c T locs cells slots) (hx : p.tables.exec = Jvm.exec) {o : Int} (hd : decode c.code pc = .ok (.goto o, 3)) (pc' : Nat) (ho : 0 ≤ (pc : Int) + o) (hp : ((pc : Int) + o).toNat = pc') (G : Go p e below P T (mkF m pc' Ls st)) : Go p e below P T (mkF m pc Ls st) := by
  exact G.stp fun _ h => XS.goto X.here hx rfl rfl hd ho hp h
theorem g_icmp_eq (X : Stand p l e R s m args below meth c T locs cells slots) (hx : p.tables.exec = Jvm.exec) {x y : Int32} {o : Int} (hd : decode c.code pc = .ok (.if_icmp .eq o, 3)) (pcT pcF : Nat) (ho : 0 ≤ (pc : Int) + o) (hT : ((pc : Int) + o).toNat = pcT) (hF : pc + 3 = pcF) (G1 : x = y → Go p e below P T (mkF m pcT Ls st)) (G2 : ¬ x = y → Go p e below P T (mkF m pcF Ls st)) : Go p e below P T (mkF m pc Ls (.int y :: .int x :: st)) := by
  by_cases q : x = y
  · exact (G1 q).stp fun _ h => XS.icmpYes X.here hx rfl rfl hd rfl (XT.ii_eq_t q) ho hT h
  · subst hF
    exact (G2 q).stp fun _ h => XS.icmpNo X.here hx rfl hd rfl (XT.ii_eq_f q) h
theorem g_if_eq (X : Stand p l e R s m args below meth c T locs cells slots) (hx : p.tables.exec = Jvm.exec) {x : Int32} {o : Int} (hd : decode c.code pc = .ok (.ifCond .eq o, 3)) (pcT pcF : Nat) (ho : 0 ≤ (pc : Int) + o) (hT : ((pc : Int) + o).toNat = pcT) (hF : pc + 3 = pcF) (G1 : x = 0 → Go p e below P T (mkF m pcT Ls st)) (G2 : ¬ x = 0 → Go p e below P T (mkF m pcF Ls st)) : Go p e below P T (mkF m pc Ls (.int x :: st)) := by
  by_cases q : x = 0
  · exact (G1 q).stp fun _ h => XS.ifYes X.here hx rfl rfl hd rfl (XT.i0_eq_t q) ho hT h
  · subst hF
    exact (G2 q).stp fun _ h => XS.ifNo X.here hx rfl hd rfl (XT.i0_eq_f q) h
theorem g_lif_eq (X : Stand p l e R s m args below meth c T locs cells slots) (hx : p.tables.exec = Jvm.exec) {x y : Int64} {o : Int} (hd0 : decode c.code pc = .ok (.lcmp, 1)) (pc1 : Nat) (hp1 : pc + 1 = pc1) (hd : decode c.code pc1 = .ok (.ifCond .eq o, 3)) (pcT pcF : Nat) (ho : 0 ≤ (pc1 : Int) + o) (hT : ((pc1 : Int) + o).toNat = pcT) (hF : pc1 + 3 = pcF) (G1 : x = y → Go p e below P T (mkF m pcT Ls st)) (G2 : ¬ x = y → Go p e below P T (mkF m pcF Ls st)) : Go p e below P T (mkF m pc Ls (.long y :: .long x :: st)) := by
  subst hp1
  by_cases q : x = y
  · exact (G1 q).stp fun _ h => XT.lcmp X.here hx rfl hd0 rfl (XS.ifYes X.here hx rfl rfl hd rfl (XT.ll_eq_t q) ho hT h)
  · subst hF
    exact (G2 q).stp fun _ h => XT.lcmp X.here hx rfl hd0 rfl (XS.ifNo X.here hx rfl hd rfl (XT.ll_eq_f q) h)
theorem g_icmp_ne (X : Stand p l e R s m args below meth c T locs cells slots) (hx : p.tables.exec = Jvm.exec) {x y : Int32} {o : Int} (hd : decode c.code pc = .ok (.if_icmp .ne o, 3)) (pcT pcF : Nat) (ho : 0 ≤ (pc : Int) + o) (hT : ((pc : Int) + o).toNat = pcT) (hF : pc + 3 = pcF) (G1 : ¬ x = y → Go p e below P T (mkF m pcT Ls st)) (G2 : x = y → Go p e below P T (mkF m pcF Ls st)) : Go p e below P T (mkF m pc Ls (.int y :: .int x :: st)) := by
  by_cases q : ¬ x = y
  · exact (G1 q).stp fun _ h => XS.icmpYes X.here hx rfl rfl hd rfl (XT.ii_ne_t q) ho hT h
  · subst hF
    exact (G2 (Classical.not_not.mp q)).stp fun _ h => XS.icmpNo X.here hx rfl hd rfl (XT.ii_ne_f (Classical.not_not.mp q)) h
theorem g_if_ne (X : Stand p l e R s m args below meth c T locs cells slots) (hx : p.tables.exec = Jvm.exec) {x : Int32} {o : Int} (hd : decode c.code pc = .ok (.ifCond .ne o, 3)) (pcT pcF : Nat) (ho : 0 ≤ (pc : Int) + o) (hT : ((pc : Int) + o).toNat = pcT) (hF : pc + 3 = pcF) (G1 : ¬ x = 0 → Go p e below P T (mkF m pcT Ls st)) (G2 : x = 0 → Go p e below P T (mkF m pcF Ls st)) : Go p e below P T (mkF m pc Ls (.int x :: st)) := by
  by_cases q : ¬ x = 0
  · exact (G1 q).stp fun _ h => XS.ifYes X.here hx rfl rfl hd rfl (XT.i0_ne_t q) ho hT h
  · subst hF
    exact (G2 (Classical.not_not.mp q)).stp fun _ h => XS.ifNo X.here hx rfl hd rfl (XT.i0_ne_f (Classical.not_not.mp q)) h
theorem g_lif_ne (X : Stand p l e R s m args below meth c T locs cells slots) (hx : p.tables.exec = Jvm.exec) {x y : Int64} {o : Int} (hd0 : decode c.code pc = .ok (.lcmp, 1)) (pc1 : Nat) (hp1 : pc + 1 = pc1) (hd : decode c.code pc1 = .ok (.ifCond .ne o, 3)) (pcT pcF : Nat) (ho : 0 ≤ (pc1 : Int) + o) (hT : ((pc1 : Int) + o).toNat = pcT) (hF : pc1 + 3 = pcF) (G1 : ¬ x = y → Go p e below P T (mkF m pcT Ls st)) (G2 : x = y → Go p e below P T (mkF m pcF Ls st)) : Go p e below P T (mkF m pc Ls (.long y :: .long x :: st)) := by
  subst hp1
  by_cases q : ¬ x = y
  · exact (G1 q).stp fun _ h => XT.lcmp X.here hx rfl hd0 rfl (XS.ifYes X.here hx rfl rfl hd rfl (XT.ll_ne_t q) ho hT h)
  · subst hF
    exact (G2 (Classical.not_not.mp q)).stp fun _ h => XT.lcmp X.here hx rfl hd0 rfl (XS.ifNo X.here hx rfl hd rfl (XT.ll_ne_f (Classical.not_not.mp q)) h)
theorem g_icmp_lt (X : Stand p l e R s m args below meth c T locs cells slots) (hx : p.tables.exec = Jvm.exec) {x y : Int32} {o : Int} (hd : decode c.code pc = .ok (.if_icmp .lt o, 3)) (pcT pcF : Nat) (ho : 0 ≤ (pc : Int) + o) (hT : ((pc : Int) + o).toNat = pcT) (hF : pc + 3 = pcF) (G1 : x < y → Go p e below P T (mkF m pcT Ls st)) (G2 : ¬ x < y → Go p e below P T (mkF m pcF Ls st)) : Go p e below P T (mkF m pc Ls (.int y :: .int x :: st)) := by
  by_cases q : x < y
  · exact (G1 q).stp fun _ h => XS.icmpYes X.here hx rfl rfl hd rfl (XT.ii_lt_t q) ho hT h
  · subst hF
    exact (G2 q).stp fun _ h => XS.icmpNo X.here hx rfl hd rfl (XT.ii_lt_f q) h
theorem g_if_lt (X : Stand p l e R s m args below meth c T locs cells slots) (hx : p.tables.exec = Jvm.exec) {x : Int32} {o : Int} (hd : decode c.code pc = .ok (.ifCond .lt o, 3)) (pcT pcF : Nat) (ho : 0 ≤ (pc : Int) + o) (hT : ((pc : Int) + o).toNat = pcT) (hF : pc + 3 = pcF) (G1 : x < 0 → Go p e below P T (mkF m pcT Ls st)) (G2 : ¬ x < 0 → Go p e below P T (mkF m pcF Ls st)) : Go p e below P T (mkF m pc Ls (.int x :: st)) := by
  by_cases q : x < 0
  · exact (G1 q).stp fun _ h => XS.ifYes X.here hx rfl rfl hd rfl (XT.i0_lt_t q) ho hT h
  · subst hF
    exact (G2 q).stp fun _ h => XS.ifNo X.here hx rfl hd rfl (XT.i0_lt_f q) h
theorem g_lif_lt (X : Stand p l e R s m args below meth c T locs cells slots) (hx : p.tables.exec = Jvm.exec) {x y : Int64} {o : Int} (hd0 : decode c.code pc = .ok (.lcmp, 1)) (pc1 : Nat) (hp1 : pc + 1 = pc1) (hd : decode c.code pc1 = .ok (.ifCond .lt o, 3)) (pcT pcF : Nat) (ho : 0 ≤ (pc1 : Int) + o) (hT : ((pc1 : Int) + o).toNat = pcT) (hF : pc1 + 3 = pcF) (G1 : x < y → Go p e below P T (mkF m pcT Ls st)) (G2 : ¬ x < y → Go p e below P T (mkF m pcF Ls st)) : Go p e below P T (mkF m pc Ls (.long y :: .long x :: st)) := by
  subst hp1
  by_cases q : x < y
  · exact (G1 q).stp fun _ h => XT.lcmp X.here hx rfl hd0 rfl (XS.ifYes X.here hx rfl rfl hd rfl (XT.ll_lt_t q) ho hT h)
  · subst hF
    exact (G2 q).stp fun _ h => XT.lcmp X.here hx rfl hd0 rfl (XS.ifNo X.here hx rfl hd rfl (XT.ll_lt_f q) h)
theorem g_icmp_ge (X : Stand p l e R s m args below meth c T locs cells slots) (hx : p.tables.exec = Jvm.exec) {x y : Int32} {o : Int} (hd : decode c.code pc = .ok (.if_icmp .ge o, 3)) (pcT pcF : Nat) (ho : 0 ≤ (pc : Int) + o) (hT : ((pc : Int) + o).toNat = pcT) (hF : pc + 3 = pcF) (G1 : ¬ x < y → Go p e below P T (mkF m pcT Ls st)) (G2 : x < y → Go p e below P T (mkF m pcF Ls st)) : Go p e below P T (mkF m pc Ls (.int y :: .int x :: st)) := by
  by_cases q : ¬ x < y
  · exact (G1 q).stp fun _ h => XS.icmpYes X.here hx rfl rfl hd rfl (XT.ii_ge_t q) ho hT h
  · subst hF
    exact (G2 (Classical.not_not.mp q)).stp fun _ h => XS.icmpNo X.here hx rfl hd rfl (XT.ii_ge_f (Classical.not_not.mp q)) h
theorem g_if_ge (X : Stand p l e R s m args below meth c T locs cells slots) (hx : p.tables.exec = Jvm.exec) {x : Int32} {o : Int} (hd : decode c.code pc = .ok (.ifCond .ge o, 3)) (pcT pcF : Nat) (ho : 0 ≤ (pc : Int) + o) (hT : ((pc : Int) + o).toNat = pcT) (hF : pc + 3 = pcF) (G1 : ¬ x < 0 → Go p e below P T (mkF m pcT Ls st)) (G2 : x < 0 → Go p e below P T (mkF m pcF Ls st)) : Go p e below P T (mkF m pc Ls (.int x :: st)) := by
  by_cases q : ¬ x < 0
  · exact (G1 q).stp fun _ h => XS.ifYes X.here hx rfl rfl hd rfl (XT.i0_ge_t q) ho hT h
  · subst hF
    exact (G2 (Classical.not_not.mp q)).stp fun _ h => XS.ifNo X.here hx rfl hd rfl (XT.i0_ge_f (Classical.not_not.mp q)) h
theorem g_lif_ge (X : Stand p l e R s m args below meth c T locs cells slots) (hx : p.tables.exec = Jvm.exec) {x y : Int64} {o : Int} (hd0 : decode c.code pc = .ok (.lcmp, 1)) (pc1 : Nat) (hp1 : pc + 1 = pc1) (hd : decode c.code pc1 = .ok (.ifCond .ge o, 3)) (pcT pcF : Nat) (ho : 0 ≤ (pc1 : Int) + o) (hT : ((pc1 : Int) + o).toNat = pcT) (hF : pc1 + 3 = pcF) (G1 : ¬ x < y → Go p e below P T (mkF m pcT Ls st)) (G2 : x < y → Go p e below P T (mkF m pcF Ls st)) : Go p e below P T (mkF m pc Ls (.long y :: .long x :: st)) := by
  subst hp1
  by_cases q : ¬ x < y
  · exact (G1 q).stp fun _ h => XT.lcmp X.here hx rfl hd0 rfl (XS.ifYes X.here hx rfl rfl hd rfl (XT.ll_ge_t q) ho hT h)
  · subst hF
    exact (G2 (Classical.not_not.mp q)).stp fun _ h => XT.lcmp X.here hx rfl hd0 rfl (XS.ifNo X.here hx rfl hd rfl (XT.ll_ge_f (Classical.not_not.mp q)) h)
theorem g_icmp_gt (X : Stand p l e R s m args below meth c T locs cells slots) (hx : p.tables.exec = Jvm.exec) {x y : Int32} {o : Int} (hd : decode c.code pc = .ok (.if_icmp .gt o, 3)) (pcT pcF : Nat) (ho : 0 ≤ (pc : Int) + o) (hT : ((pc : Int) + o).toNat = pcT) (hF : pc + 3 = pcF) (G1 : y < x → Go p e below P T (mkF m pcT Ls st)) (G2 : ¬ y < x → Go p e below P T (mkF m pcF Ls st)) : Go p e below P T (mkF m pc Ls (.int y :: .int x :: st)) := by
  by_cases q : y < x
  · exact (G1 q).stp fun _ h => XS.icmpYes X.here hx rfl rfl hd rfl (XT.ii_gt_t q) ho hT h
  · subst hF
    exact (G2 q).stp fun _ h => XS.icmpNo X.here hx rfl hd rfl (XT.ii_gt_f q) h
theorem g_if_gt (X : Stand p l e R s m args below meth c T locs cells slots) (hx : p.tables.exec = Jvm.exec) {x : Int32} {o : Int} (hd : decode c.code pc = .ok (.ifCond .gt o, 3)) (pcT pcF : Nat) (ho : 0 ≤ (pc : Int) + o) (hT : ((pc : Int) + o).toNat = pcT) (hF : pc + 3 = pcF) (G1 : 0 < x → Go p e below P T (mkF m pcT Ls st)) (G2 : ¬ 0 < x → Go p e below P T (mkF m pcF Ls st)) : Go p e below P T (mkF m pc Ls (.int x :: st)) := by
  by_cases q : 0 < x
  · exact (G1 q).stp fun _ h => XS.ifYes X.here hx rfl rfl hd rfl (XT.i0_gt_t q) ho hT h
  · subst hF
    exact (G2 q).stp fun _ h => XS.ifNo X.here hx rfl hd rfl (XT.i0_gt_f q) h
theorem g_lif_gt (X : Stand p l e R s m args below meth c T locs cells slots) (hx : p.tables.exec = Jvm.exec) {x y : Int64} {o : Int} (hd0 : decode c.code pc = .ok (.lcmp, 1)) (pc1 : Nat) (hp1 : pc + 1 = pc1) (hd : decode c.code pc1 = .ok (.ifCond .gt o, 3)) (pcT pcF : Nat) (ho : 0 ≤ (pc1 : Int) + o) (hT : ((pc1 : Int) + o).toNat = pcT) (hF : pc1 + 3 = pcF) (G1 : y < x → Go p e below P T (mkF m pcT Ls st)) (G2 : ¬ y < x → Go p e below P T (mkF m pcF Ls st)) : Go p e below P T (mkF m pc Ls (.long y :: .long x :: st)) := by
  subst hp1
  by_cases q : y < x
  · exact (G1 q).stp fun _ h => XT.lcmp X.here hx rfl hd0 rfl (XS.ifYes X.here hx rfl rfl hd rfl (XT.ll_gt_t q) ho hT h)
  · subst hF
    exact (G2 q).stp fun _ h => XT.lcmp X.here hx rfl hd0 rfl (XS.ifNo X.here hx rfl hd rfl (XT.ll_gt_f q) h)
theorem g_icmp_le (X : Stand p l e R s m args below meth c T locs cells slots) (hx : p.tables.exec = Jvm.exec) {x y : Int32} {o : Int} (hd : decode c.code pc = .ok (.if_icmp .le o, 3)) (pcT pcF : Nat) (ho : 0 ≤ (pc : Int) + o) (hT : ((pc : Int) + o).toNat = pcT) (hF : pc + 3 = pcF) (G1 : ¬ y < x → Go p e below P T (mkF m pcT Ls st)) (G2 : y < x → Go p e below P T (mkF m pcF Ls st)) : Go p e below P T (mkF m pc Ls (.int y :: .int x :: st)) := by
  by_cases q : ¬ y < x
  · exact (G1 q).stp fun _ h => XS.icmpYes X.here hx rfl rfl hd rfl (XT.ii_le_t q) ho hT h
  · subst hF
    exact (G2 (Classical.not_not.mp q)).stp fun _ h => XS.icmpNo X.here hx rfl hd rfl (XT.ii_le_f (Classical.not_not.mp q)) h
theorem g_if_le (X : Stand p l e R s m args below meth c T locs cells slots) (hx : p.tables.exec = Jvm.exec) {x : Int32} {o : Int} (hd : decode c.code pc = .ok (.ifCond .le o, 3)) (pcT pcF : Nat) (ho : 0 ≤ (pc : Int) + o) (hT : ((pc : Int) + o).toNat = pcT) (hF : pc + 3 = pcF) (G1 : ¬ 0 < x → Go p e below P T (mkF m pcT Ls st)) (G2 : 0 < x → Go p e below P T (mkF m pcF Ls st)) : Go p e below P T (mkF m pc Ls (.int x :: st)) := by
  by_cases q : ¬ 0 < x
  · exact (G1 q).stp fun _ h => XS.ifYes X.here hx rfl rfl hd rfl (XT.i0_le_t q) ho hT h
  · subst hF
    exact (G2 (Classical.not_not.mp q)).stp fun _ h => XS.ifNo X.here hx rfl hd rfl (XT.i0_le_f (Classical.not_not.mp q)) h
theorem g_lif_le (X : Stand p l e R s m args below meth c T locs cells slots) (hx : p.tables.exec = Jvm.exec) {x y : Int64} {o : Int} (hd0 : decode c.code pc = .ok (.lcmp, 1)) (pc1 : Nat) (hp1 : pc + 1 = pc1) (hd : decode c.code pc1 = .ok (.ifCond .le o, 3)) (pcT pcF : Nat) (ho : 0 ≤ (pc1 : Int) + o) (hT : ((pc1 : Int) + o).toNat = pcT) (hF : pc1 + 3 = pcF) (G1 : ¬ y < x → Go p e below P T (mkF m pcT Ls st)) (G2 : y < x → Go p e below P T (mkF m pcF Ls st)) : Go p e below P T (mkF m pc Ls (.long y :: .long x :: st)) := by
  subst hp1
  by_cases q : ¬ y < x
  · exact (G1 q).stp fun _ h => XT.lcmp X.here hx rfl hd0 rfl (XS.ifYes X.here hx rfl rfl hd rfl (XT.ll_le_t q) ho hT h)
  · subst hF
    exact (G2 (Classical.not_not.mp q)).stp fun _ h => XT.lcmp X.here hx rfl hd0 rfl (XS.ifNo X.here hx rfl hd rfl (XT.ll_le_f (Classical.not_not.mp q)) h)
theorem g_acmp_eq (X : Stand p l e R s m args below meth c T locs cells slots) (hx : p.tables.exec = Jvm.exec) {x y : Value} (hx' : x.isRef = true) (hy' : y.isRef = true) {o : Int} (hd : decode c.code pc = .ok (.if_acmp .eq o, 3)) (pcT pcF : Nat) (ho : 0 ≤ (pc : Int) + o) (hT : ((pc : Int) + o).toNat = pcT) (hF : pc + 3 = pcF) (G1 : x = y → Go p e below P T (mkF m pcT Ls st)) (G2 : ¬ x = y → Go p e below P T (mkF m pcF Ls st)) : Go p e below P T (mkF m pc Ls (y :: x :: st)) := by
  by_cases q : x = y
  · exact (G1 q).stp fun _ h => XT.acmpYes X.here hx rfl rfl hd rfl hx' hy' (XT.aa_eq_t q) ho hT h
  · subst hF
    exact (G2 q).stp fun _ h => XT.acmpNo X.here hx rfl hd rfl hx' hy' (XT.aa_eq_f q) h
theorem g_acmp_ne (X : Stand p l e R s m args below meth c T locs cells slots) (hx : p.tables.exec = Jvm.exec) {x y : Value} (hx' : x.isRef = true) (hy' : y.isRef = true) {o : Int} (hd : decode c.code pc = .ok (.if_acmp .ne o, 3)) (pcT pcF : Nat) (ho : 0 ≤ (pc : Int) + o) (hT : ((pc : Int) + o).toNat = pcT) (hF : pc + 3 = pcF) (G1 : ¬ x = y → Go p e below P T (mkF m pcT Ls st)) (G2 : x = y → Go p e below P T (mkF m pcF Ls st)) : Go p e below P T (mkF m pc Ls (y :: x :: st)) := by
  by_cases q : ¬ x = y
  · exact (G1 q).stp fun _ h => XT.acmpYes X.here hx rfl rfl hd rfl hx' hy' (XT.aa_ne_t q) ho hT h
  · subst hF
    exact (G2 (Classical.not_not.mp q)).stp fun _ h => XT.acmpNo X.here hx rfl hd rfl hx' hy' (XT.aa_ne_f (Classical.not_not.mp q)) h
theorem g_ifnull (X : Stand p l e R s m args below meth c T locs cells slots) (hx : p.tables.exec = Jvm.exec) {x : Value} (hx' : x.isRef = true) {o : Int} (hd : decode c.code pc = .ok (.ifnull o, 3)) (pcT pcF : Nat) (ho : 0 ≤ (pc : Int) + o) (hT : ((pc : Int) + o).toNat = pcT) (hF : pc + 3 = pcF) (G1 : x = .null → Go p e below P T (mkF m pcT Ls st)) (G2 : ¬ x = .null → Go p e below P T (mkF m pcF Ls st)) : Go p e below P T (mkF m pc Ls (x :: st)) := by
  by_cases q : x = .null
  · exact (G1 q).stp fun _ h => XT.nullYes X.here hx rfl rfl hd rfl q ho hT h
  · subst hF
    exact (G2 q).stp fun _ h => XT.nullNo X.here hx rfl hd rfl hx' q h
theorem g_ifnonnull (X : Stand p l e R s m args below meth c T locs cells slots) (hx : p.tables.exec = Jvm.exec) {x : Value} (hx' : x.isRef = true) {o : Int} (hd : decode c.code pc = .ok (.ifnonnull o, 3)) (pcT pcF : Nat) (ho : 0 ≤ (pc : Int) + o) (hT : ((pc : Int) + o).toNat = pcT) (hF : pc + 3 = pcF) (G1 : ¬ x = .null → Go p e below P T (mkF m pcT Ls st)) (G2 : x = .null → Go p e below P T (mkF m pcF Ls st)) : Go p e below P T (mkF m pc Ls (x :: st)) := by
  by_cases q : x = .null
  · subst hF
    exact (G2 q).stp fun _ h => XT.nonnullNo X.here hx rfl hd rfl q h
  · exact (G1 q).stp fun _ h => XT.nonnullYes X.here hx rfl rfl hd rfl hx' q ho hT h
theorem g_ldc (X : Stand p l e R s m args below meth c T locs cells slots) (hx : p.tables.exec = Jvm.exec) (hZ : Z.Warmed39 s.vm) {own : String} (hown : s.vm.findClass own = some m.cls) {i : Nat} {v : Int32} (w : (Cond.constant own i v).before a0 Z = true) (hd : decode c.code pc = .ok (.ldc i, 2)) (pc' : Nat) (hp : pc + 2 = pc') (G : Go p e below P T (mkF m pc' Ls (.int v :: st))) : Go p e below P T (mkF m pc Ls st) := by
  subst hp
  exact G.stp fun _ h => Jvm.Stand.ldcI X hx hown (mv hZ w) rfl hd h
theorem g_ldc_w (X : Stand p l e R s m args below meth c T locs cells slots) (hx : p.tables.exec = Jvm.exec) (hZ : Z.Warmed39 s.vm) {own : String} (hown : s.vm.findClass own = some m.cls) {i : Nat} {v : Int32} (w : (Cond.constant own i v).before a0 Z = true) (hd : decode c.code pc = .ok (.ldc_w i, 3)) (pc' : Nat) (hp : pc + 3 = pc') (G : Go p e below P T (mkF m pc' Ls (.int v :: st))) : Go p e below P T (mkF m pc Ls st) := by
  subst hp
  exact G.stp fun _ h => Jvm.Stand.ldcWI X hx hown (mv hZ w) rfl hd h
theorem g_ldc2_w (X : Stand p l e R s m args below meth c T locs cells slots) (hx : p.tables.exec = Jvm.exec) (hZ : Z.Warmed39 s.vm) {own : String} (hown : s.vm.findClass own = some m.cls) {i : Nat} {v : Int64} (w : (Cond.constantLong own i v).before a0 Z = true) (hd : decode c.code pc = .ok (.ldc2_w i, 3)) (pc' : Nat) (hp : pc + 3 = pc') (G : Go p e below P T (mkF m pc' Ls (.long v :: st))) : Go p e below P T (mkF m pc Ls st) := by
  subst hp
  exact G.stp fun _ h => Jvm.Stand.ldc2J X hx hown (mv hZ w) rfl hd h
theorem g_getfield (X : Stand p l e R s m args below meth c T locs cells slots) (hx : p.tables.exec = Jvm.exec) (hZ : Z.Warmed39 s.vm) {own : String} (hown : s.vm.findClass own = some m.cls) {R0 O n d host : String} {i : Nat} (w : (Cond.fieldLink own i R0 n d).before a0 Z = true ∨ (Cond.fieldLinkNest own i R0 n d host).before a0 Z = true) (via : Via Z R0 O n d) {a : Addr} {v : Value} (F : Fld Z h a O n d v) (eT : T.heap = h) (hd : decode c.code pc = .ok (.getfield i, 3)) (pc' : Nat) (hp : pc + 3 = pc') (G : ∀ T', Stand p l e R s m args below meth c T' locs cells slots → T'.heap = h → Go p e below P T' (mkF m pc' Ls (v :: st))) : Go p e below P T (mkF m pc Ls (.ref a :: st)) := by
  subst hp
  obtain ⟨T', X', e', k⟩ := getF X hx hZ hown w via eT F (g := mkF m pc Ls (.ref a :: st)) rfl rfl hd
  exact (G T' X' e').stp k
theorem g_getstatic (X : Stand p l e R s m args below meth c T locs cells slots) (hx : p.tables.exec = Jvm.exec) (hZ : Z.Warmed39 s.vm) {own : String} (hown : s.vm.findClass own = some m.cls) {R0 O n d host : String} {i : Nat} (w : (Cond.fieldLink own i R0 n d).before a0 Z = true ∨ (Cond.fieldLinkNest own i R0 n d host).before a0 Z = true) (via : Via Z R0 O n d) {v : Value} (F : Sta Z h O n d v) (eT : T.heap = h) (hd : decode c.code pc = .ok (.getstatic i, 3)) (pc' : Nat) (hp : pc + 3 = pc') (G : ∀ T', Stand p l e R s m args below meth c T' locs cells slots → T'.heap = h → Go p e below P T' (mkF m pc' Ls (v :: st))) : Go p e below P T (mkF m pc Ls st) := by
  subst hp
  obtain ⟨T', X', e', k⟩ := getS2 X hx hZ hown w via eT F (g := mkF m pc Ls st) rfl hd
  exact (G T' X' e').stp k
theorem g_putfield (X : Stand p l e R s m args below meth c T locs cells slots) (hx : p.tables.exec = Jvm.exec) (hZ : Z.Warmed39 s.vm) {own : String} (hown : s.vm.findClass own = some m.cls) {R0 O n d host C : String} {i kk : Nat} {ty : FieldType} (w : (Cond.fieldLink own i R0 n d).before a0 Z = true ∨ (Cond.fieldLinkNest own i R0 n d host).before a0 Z = true) (via : Via Z R0 O n d) (eT : T.heap = h) {a : Addr} {v old : Value} (F : Fld Z h a O n d old) (E : Exa Z h a C) (L : (Cond.lays C O n d).before a0 Z = true ∨ ((Cond.laysFinal C O n d).before a0 Z = true ∧ own = O ∧ meth.name = "<init>")) (wi : (Cond.instantiable C kk).before a0 Z = true) (hty : parseFieldDescriptor d = some ty) (hn : narrow ty v = v) (hf : fits ty v = true) (hd : decode c.code pc = .ok (.putfield i, 3)) (pc' : Nat) (hp : pc + 3 = pc') (G : ∀ T' h', Stand p l e R s m args below meth c T' (locs ++ [⟨a, Jvm.RoadKit.slotOf Z O n d⟩]) cells slots → T'.heap = h' → Wr h h' a (Jvm.RoadKit.slotOf Z O n d) v → Go p e below P T' (mkF m pc' Ls st)) : Go p e below P T (mkF m pc Ls (v :: .ref a :: st)) := by
  subst hp
  obtain ⟨T', h', X', e', W, k⟩ := putF X hx hZ hown w via eT F E L wi hty hn hf (g := mkF m pc Ls (v :: .ref a :: st)) rfl rfl hd
  exact (G T' h' X' e' W).stp k
theorem g_initO (X : Stand p l e R s m args below meth c T locs cells slots) (hx : p.tables.exec = Jvm.exec) (hZ : Z.Warmed39 s.vm) {own : String} (hown : s.vm.findClass own = some m.cls) {i : Nat} (w1 : (Cond.methodLink own i Lib.objectInit).before a0 Z = true) (w2 : (Cond.instanceMethod Lib.objectInit).before a0 Z = true) (w3 : (Cond.code Lib.objectInit ⟨#[0xb1]⟩ 1 none).before a0 Z = true) (eT : T.heap = h) (hsz : Ls.size = c.maxLocals) {a : Addr} (hd : decode c.code pc = .ok (.invokespecial i, 3)) (hf : 1 ≤ R.frames) (W : Nat) (hW : (st.map fun v => v.category).sum ≤ W) (hl : W + 12 ≤ R.locals) (pc' : Nat) (hp : pc + 3 = pc') (G : ∀ T', Stand p l e R s m args below meth c T' locs cells slots → T'.heap = h → Go p e below P T' (mkF m pc' Ls st)) : Go p e below P T (mkF m pc Ls (.ref a :: st)) := by
  subst hp
  obtain ⟨T', X', e', k⟩ := initO X hx hZ hown w1 w2 w3 eT (g := mkF m pc Ls (.ref a :: st)) rfl hsz rfl hd hf (W := W) (by show 2 * 0 + _ ≤ W; omega) hl
  exact (G T' X' e').stp k
theorem g_new (X : Stand p l e R s m args below meth c T locs cells slots) (hx : p.tables.exec = Jvm.exec) (hZ : Z.Warmed39 s.vm) {own : String} (hown : s.vm.findClass own = some m.cls) {C : String} {i n : Nat} (w : (Cond.classLink own i C).before a0 Z = true) (wi : (Cond.instantiable C n).before a0 Z = true) (wz : (Cond.initialized C).before a0 Z = true) (eT : T.heap = h) (hd : decode c.code pc = .ok (.new i, 3)) (hc : cells + 1 ≤ R.cells) (hl : slots + n ≤ R.slots) (pc' : Nat) (hp : pc + 3 = pc') (G : ∀ T' h' b, Stand p l e R s m args below meth c T' locs (cells + 1) (slots + n) → T'.heap = h' → b = h.size → Ext h h' → Exa Z h' b C → (∀ {O nm d : String} {ty : FieldType}, Laid Z a0 C O nm d → parseFieldDescriptor d = some ty → Fld Z h' b O nm d (defaultValue ty)) → Go p e below P T' (mkF m pc' Ls (.ref b :: st))) : Go p e below P T (mkF m pc Ls st) := by
  subst hp
  obtain ⟨T', h', X', e', E, A, D, -, k⟩ := newO X hx hZ hown w wi wz eT (g := mkF m pc Ls st) rfl hd hc hl
  exact (G T' h' h.size X' e' rfl E A D).stp k
/-- the array at a: of that kind, holding just these values -/
def AV (Z : State) (h : Heap) (a : Addr) (ty : FieldType) (vs : List Value) : Prop := ∃ c : Cell, Arr Z h a c ty ∧ c.slots = vs.toArray ∧ vs.length < 2 ^ 31
theorem AV.lt {a : Addr} {ty : FieldType} {vs : List Value} (F : AV Z h a ty vs) : a < h.size := by obtain ⟨c, A, -⟩ := F; exact A.lt
theorem AV.ext {h' : Heap} {a : Addr} {ty : FieldType} {vs : List Value} (F : AV Z h a ty vs) (E : Ext h h') : AV Z h' a ty vs := by obtain ⟨c, A, r⟩ := F; exact ⟨c, A.ext E, r⟩
theorem AV.other {h' : Heap} {a b : Addr} {sl : Nat} {v : Value} {ty : FieldType} {vs : List Value} (F : AV Z h b ty vs) (W : Wr h h' a sl v) (q : b ≠ a) : AV Z h' b ty vs := by obtain ⟨c, A, r⟩ := F; exact ⟨c, A.other W q, r⟩
theorem AV.keep {h' : Heap} {a : Addr} {ws : List Addr} {ty : FieldType} {vs : List Value} (F : AV Z h a ty vs) (K : Keep h h' ws) (q : a ∉ ws) : AV Z h' a ty vs := by obtain ⟨c, A, r⟩ := F; exact ⟨c, ⟨K.2.1 a c A.1 q, A.2⟩, r⟩
theorem AV.same {h' : Heap} {a : Addr} {sl : Nat} {v : Value} {ty : FieldType} {vs : List Value} (F : AV Z h a ty vs) (W : Wr h h' a sl v) : AV Z h' a ty (vs.set sl v) := by
  obtain ⟨c, A, r1, r2⟩ := F
  exact ⟨_, A.same W, by simp [Cell.setSlot, r1], by simpa using r2⟩
theorem AV.new {a : Addr} {k : ClassId} {ty : FieldType} {n : Int32} (A : Arr Z h a (newA k ty n) ty) (vs : List Value) (q : vs = List.replicate n.toNatClampNeg (defaultValue ty)) (q2 : n.toNatClampNeg < 2 ^ 31) : AV Z h a ty vs := ⟨_, A, by subst q; simp [newA], by subst q; simpa using q2⟩
theorem AV.nostat {a : Addr} {ty : FieldType} {vs : List Value} (F : AV Z h a ty vs) : ∀ cell : Cell, h[a]? = some cell → cell.vm.isStatics = false := by obtain ⟨c, A, -⟩ := F; exact A.nostat
theorem in_of {vs : List Value} {c : Cell} {j : Int32} {v : Value} (r : c.slots = vs.toArray) (hj : ¬ j < 0) (hv : vs[j.toNatClampNeg]? = some v) : ¬ (j < 0 ∨ c.slots.size ≤ j.toNatClampNeg) := by
  have q := (List.getElem?_eq_some_iff.mp hv).1
  intro u
  rcases u with u | u
  · exact hj u
  · rw [r] at u; simp at u; omega
theorem g_iaload (X : Stand p l e R s m args below meth c T locs cells slots) (hx : p.tables.exec = Jvm.exec) (hZ : Z.Warmed39 s.vm) (eT : T.heap = h) {a : Addr} {vs : List Value} {j : Int32} {v : Value} (A : AV Z h a .int vs) (hj : ¬ j < 0) (hv : vs[j.toNatClampNeg]? = some v) (hd : decode c.code pc = .ok (.iaload, 1)) (pc' : Nat) (hp : pc + 1 = pc') (G : Go p e below P T (mkF m pc' Ls (v :: st))) : Go p e below P T (mkF m pc Ls (.int j :: .ref a :: st)) := by
  subst hp
  obtain ⟨cl, A, r1, r2⟩ := A
  exact G.stp fun _ k => X.iaload hx (j := j) (v := v) (by rw [eT]; exact A.1) (State.isArrayOf_alike hZ.alike A.2.1) A.2.2 (in_of r1 hj hv) (by rw [r1]; simpa using hv) (g := mkF m pc Ls (.int j :: .ref a :: st)) rfl rfl hd _ k
theorem g_caload (X : Stand p l e R s m args below meth c T locs cells slots) (hx : p.tables.exec = Jvm.exec) (hZ : Z.Warmed39 s.vm) (eT : T.heap = h) {a : Addr} {vs : List Value} {j : Int32} {v : Value} (A : AV Z h a .char vs) (hj : ¬ j < 0) (hv : vs[j.toNatClampNeg]? = some v) (hd : decode c.code pc = .ok (.caload, 1)) (pc' : Nat) (hp : pc + 1 = pc') (G : Go p e below P T (mkF m pc' Ls (v :: st))) : Go p e below P T (mkF m pc Ls (.int j :: .ref a :: st)) := by
  subst hp
  obtain ⟨cl, A, r1, r2⟩ := A
  exact G.stp fun _ k => X.caload hx (j := j) (v := v) (by rw [eT]; exact A.1) (State.isArrayOf_alike hZ.alike A.2.1) A.2.2 (in_of r1 hj hv) (by rw [r1]; simpa using hv) (g := mkF m pc Ls (.int j :: .ref a :: st)) rfl rfl hd _ k
theorem g_baload (X : Stand p l e R s m args below meth c T locs cells slots) (hx : p.tables.exec = Jvm.exec) (hZ : Z.Warmed39 s.vm) (eT : T.heap = h) {a : Addr} {vs : List Value} {j : Int32} {v : Value} (A : AV Z h a .byte vs) (hj : ¬ j < 0) (hv : vs[j.toNatClampNeg]? = some v) (hd : decode c.code pc = .ok (.baload, 1)) (pc' : Nat) (hp : pc + 1 = pc') (G : Go p e below P T (mkF m pc' Ls (v :: st))) : Go p e below P T (mkF m pc Ls (.int j :: .ref a :: st)) := by
  subst hp
  obtain ⟨cl, A, r1, r2⟩ := A
  exact G.stp fun _ k => X.baloadBytes hx (j := j) (v := v) (by rw [eT]; exact A.1) (State.isArrayOf_alike hZ.alike A.2.1) A.2.2 (in_of r1 hj hv) (by rw [r1]; simpa using hv) (g := mkF m pc Ls (.int j :: .ref a :: st)) rfl rfl hd _ k
theorem g_aaload (X : Stand p l e R s m args below meth c T locs cells slots) (hx : p.tables.exec = Jvm.exec) (hZ : Z.Warmed39 s.vm) (eT : T.heap = h) {a : Addr} {ty : FieldType} {vs : List Value} {j : Int32} {v : Value} (A : AV Z h a ty vs) (hty : ty.isReference = true) (hj : ¬ j < 0) (hv : vs[j.toNatClampNeg]? = some v) (hd : decode c.code pc = .ok (.aaload, 1)) (pc' : Nat) (hp : pc + 1 = pc') (G : Go p e below P T (mkF m pc' Ls (v :: st))) : Go p e below P T (mkF m pc Ls (.int j :: .ref a :: st)) := by
  subst hp
  obtain ⟨cl, A, r1, r2⟩ := A
  exact G.stp fun _ k => X.aaload hx (j := j) (v := v) (by rw [eT]; exact A.1) (State.isArrayOf_alike hZ.alike A.2.1) hty A.2.2 (in_of r1 hj hv) (by rw [r1]; simpa using hv) (g := mkF m pc Ls (.int j :: .ref a :: st)) rfl rfl hd _ k
theorem g_arraylength (X : Stand p l e R s m args below meth c T locs cells slots) (hx : p.tables.exec = Jvm.exec) (hZ : Z.Warmed39 s.vm) (eT : T.heap = h) {a : Addr} {ty : FieldType} {vs : List Value} (A : AV Z h a ty vs) (n : Int32) (hn : Int32.ofNat vs.length = n) (hd : decode c.code pc = .ok (.arraylength, 1)) (pc' : Nat) (hp : pc + 1 = pc') (G : Go p e below P T (mkF m pc' Ls (.int n :: st))) : Go p e below P T (mkF m pc Ls (.ref a :: st)) := by
  subst hp
  obtain ⟨cl, A, r1, r2⟩ := A
  have q : cl.slots.size.toInt32 = n := by rw [r1, ← hn]; simp
  rw [← q] at G
  exact G.stp fun _ k => X.arraylength hx (cell := cl) (by rw [eT]; exact A.1) (State.isArrayOf_alike hZ.alike A.2.1) (g := mkF m pc Ls (.ref a :: st)) rfl rfl hd _ k
theorem g_iastore (X : Stand p l e R s m args below meth c T locs cells slots) (hx : p.tables.exec = Jvm.exec) (hZ : Z.Warmed39 s.vm) (eT : T.heap = h) {a : Addr} {vs : List Value} {j x : Int32} (A : AV Z h a .int vs) (hj : ¬ j < 0) (hi : j.toNatClampNeg < vs.length) (hd : decode c.code pc = .ok (.iastore, 1)) (pc' : Nat) (hp : pc + 1 = pc') (G : ∀ T' h', Stand p l e R s m args below meth c T' (locs ++ [⟨a, j.toNatClampNeg⟩]) cells slots → T'.heap = h' → Wr h h' a j.toNatClampNeg (.int x) → AV Z h' a .int (vs.set j.toNatClampNeg (.int x)) → Go p e below P T' (mkF m pc' Ls st)) : Go p e below P T (mkF m pc Ls (.int x :: .int j :: .ref a :: st)) := by
  subst hp
  have A0 := A
  obtain ⟨cl, A, r1, r2⟩ := A
  obtain ⟨T', h', X', e', W, k⟩ := stI X hx hZ eT A (j := j) (x := x) (in_of r1 hj (List.getElem?_eq_getElem hi)) (g := mkF m pc Ls (.int x :: .int j :: .ref a :: st)) rfl rfl hd
  exact (G T' h' X' e' W (A0.same W)).stp k
theorem g_castore (X : Stand p l e R s m args below meth c T locs cells slots) (hx : p.tables.exec = Jvm.exec) (hZ : Z.Warmed39 s.vm) (eT : T.heap = h) {a : Addr} {vs : List Value} {j x : Int32} (A : AV Z h a .char vs) (hj : ¬ j < 0) (hi : j.toNatClampNeg < vs.length) (hd : decode c.code pc = .ok (.castore, 1)) (pc' : Nat) (hp : pc + 1 = pc') (G : ∀ T' h', Stand p l e R s m args below meth c T' (locs ++ [⟨a, j.toNatClampNeg⟩]) cells slots → T'.heap = h' → Wr h h' a j.toNatClampNeg (.int (nar .char x)) → AV Z h' a .char (vs.set j.toNatClampNeg (.int (nar .char x))) → Go p e below P T' (mkF m pc' Ls st)) : Go p e below P T (mkF m pc Ls (.int x :: .int j :: .ref a :: st)) := by
  subst hp
  have A0 := A
  obtain ⟨cl, A, r1, r2⟩ := A
  obtain ⟨T', h', X', e', W, k⟩ := stC X hx hZ eT A (j := j) (x := x) (in_of r1 hj (List.getElem?_eq_getElem hi)) (g := mkF m pc Ls (.int x :: .int j :: .ref a :: st)) rfl rfl hd
  exact (G T' h' X' e' W (A0.same W)).stp k
theorem g_bastore (X : Stand p l e R s m args below meth c T locs cells slots) (hx : p.tables.exec = Jvm.exec) (hZ : Z.Warmed39 s.vm) (eT : T.heap = h) {a : Addr} {vs : List Value} {j x : Int32} (A : AV Z h a .byte vs) (hj : ¬ j < 0) (hi : j.toNatClampNeg < vs.length) (hd : decode c.code pc = .ok (.bastore, 1)) (pc' : Nat) (hp : pc + 1 = pc') (G : ∀ T' h', Stand p l e R s m args below meth c T' (locs ++ [⟨a, j.toNatClampNeg⟩]) cells slots → T'.heap = h' → Wr h h' a j.toNatClampNeg (.int (nar .byte x)) → AV Z h' a .byte (vs.set j.toNatClampNeg (.int (nar .byte x))) → Go p e below P T' (mkF m pc' Ls st)) : Go p e below P T (mkF m pc Ls (.int x :: .int j :: .ref a :: st)) := by
  subst hp
  have A0 := A
  obtain ⟨cl, A, r1, r2⟩ := A
  obtain ⟨T', h', X', e', W, k⟩ := stB X hx hZ eT A (j := j) (x := x) (in_of r1 hj (List.getElem?_eq_getElem hi)) (g := mkF m pc Ls (.int x :: .int j :: .ref a :: st)) rfl rfl hd
  exact (G T' h' X' e' W (A0.same W)).stp k
theorem g_newarray (X : Stand p l e R s m args below meth c T locs cells slots) (hx : p.tables.exec = Jvm.exec) (hZ : Z.Warmed39 s.vm) {aty : ArrayType} (w : (Cond.arrayClass (newarray.typeOf aty)).before a0 Z = true) (eT : T.heap = h) {n : Int32} (hn : ¬ n < 0) (cap : Nat) (hcap : n.toNatClampNeg ≤ cap) (hb : cap * 8 ≤ 536870912) (hc : cells + 1 ≤ R.cells) (hl : slots + cap ≤ R.slots) (vs : List Value) (hvs : vs = List.replicate n.toNatClampNeg (defaultValue (newarray.typeOf aty))) (hd : decode c.code pc = .ok (.newarray aty, 2)) (pc' : Nat) (hp : pc + 2 = pc') (G : ∀ T' h' b, Stand p l e R s m args below meth c T' locs (cells + 1) (slots + cap) → T'.heap = h' → b = h.size → Ext h h' → AV Z h' b (newarray.typeOf aty) vs → Go p e below P T' (mkF m pc' Ls (.ref b :: st))) : Go p e below P T (mkF m pc Ls (.int n :: st)) := by
  subst hp
  obtain ⟨T', h', cA, X', e', E, A, k⟩ := newP X hx hZ w eT (g := mkF m pc Ls (.int n :: st)) rfl hd rfl hn hcap hb hc hl
  exact (G T' h' h.size X' e' rfl E (AV.new A vs hvs (by omega))).stp k
theorem g_checkcast (X : Stand p l e R s m args below meth c T locs cells slots) (hx : p.tables.exec = Jvm.exec) (hZ : Z.Warmed39 s.vm) {own : String} (hown : s.vm.findClass own = some m.cls) {K : String} {i : Nat} (w : (Cond.classLink own i K).before a0 Z = true) {a : Addr} (F : Ins Z h a K true) (eT : T.heap = h) (hd : decode c.code pc = .ok (.checkcast i, 3)) (pc' : Nat) (hp : pc + 3 = pc') (G : ∀ T', Stand p l e R s m args below meth c T' locs cells slots → T'.heap = h → Go p e below P T' (mkF m pc' Ls (.ref a :: st))) : Go p e below P T (mkF m pc Ls (.ref a :: st)) := by
  subst hp
  obtain ⟨T', X', e', k⟩ := castY X hx hZ hown w eT F (g := mkF m pc Ls (.ref a :: st)) rfl rfl hd
  exact (G T' X' e').stp k
theorem g_instYes (X : Stand p l e R s m args below meth c T locs cells slots) (hx : p.tables.exec = Jvm.exec) (hZ : Z.Warmed39 s.vm) {own : String} (hown : s.vm.findClass own = some m.cls) {K : String} {i : Nat} (w : (Cond.classLink own i K).before a0 Z = true) {a : Addr} (F : Ins Z h a K true) (eT : T.heap = h) (hd : decode c.code pc = .ok (.instanceof i, 3)) (pc' : Nat) (hp : pc + 3 = pc') (G : ∀ T', Stand p l e R s m args below meth c T' locs cells slots → T'.heap = h → Go p e below P T' (mkF m pc' Ls (.int 1 :: st))) : Go p e below P T (mkF m pc Ls (.ref a :: st)) := by
  subst hp
  obtain ⟨T', X', e', k⟩ := instY X hx hZ hown w eT F (g := mkF m pc Ls (.ref a :: st)) rfl rfl hd
  exact (G T' X' e').stp k
theorem g_instNo (X : Stand p l e R s m args below meth c T locs cells slots) (hx : p.tables.exec = Jvm.exec) (hZ : Z.Warmed39 s.vm) {own : String} (hown : s.vm.findClass own = some m.cls) {K C : String} {i : Nat} (w : (Cond.classLink own i K).before a0 Z = true) {a : Addr} (E : Exa Z h a C) (F : ∃ c t, Z.vm.findClass C = some c ∧ Z.vm.findClass K = some t ∧ Z.vm.assignable c t = false) (eT : T.heap = h) (hd : decode c.code pc = .ok (.instanceof i, 3)) (pc' : Nat) (hp : pc + 3 = pc') (G : ∀ T', Stand p l e R s m args below meth c T' locs cells slots → T'.heap = h → Go p e below P T' (mkF m pc' Ls (.int 0 :: st))) : Go p e below P T (mkF m pc Ls (.ref a :: st)) := by
  subst hp
  obtain ⟨T', X', e', k⟩ := instNo X hx hZ hown w eT E F (g := mkF m pc Ls (.ref a :: st)) rfl rfl hd
  exact (G T' X' e').stp k
theorem g_instNull (X : Stand p l e R s m args below meth c T locs cells slots) (hx : p.tables.exec = Jvm.exec) {i : Nat} (hd : decode c.code pc = .ok (.instanceof i, 3)) (pc' : Nat) (hp : pc + 3 = pc') (G : Go p e below P T (mkF m pc' Ls (.int 0 :: st))) : Go p e below P T (mkF m pc Ls (.null :: st)) := by
  subst hp
  exact G.stp fun _ h => X.instanceofNull hx (g := mkF m pc Ls (.null :: st)) rfl rfl hd _ h
theorem g_aastore (X : Stand p l e R s m args below meth c T locs cells slots) (hx : p.tables.exec = Jvm.exec) (hZ : Z.Warmed39 s.vm) (eT : T.heap = h) {a : Addr} {ty : FieldType} {vs : List Value} {j : Int32} {x : Value} (A : AV Z h a ty vs) (hty : ty.isReference = true) (F : Sto Z h a x) (hj : ¬ j < 0) (hi : j.toNatClampNeg < vs.length) (hd : decode c.code pc = .ok (.aastore, 1)) (pc' : Nat) (hp : pc + 1 = pc') (G : ∀ T' h', Stand p l e R s m args below meth c T' (locs ++ [⟨a, j.toNatClampNeg⟩]) cells slots → T'.heap = h' → Wr h h' a j.toNatClampNeg x → AV Z h' a ty (vs.set j.toNatClampNeg x) → Go p e below P T' (mkF m pc' Ls st)) : Go p e below P T (mkF m pc Ls (x :: .int j :: .ref a :: st)) := by
  subst hp
  have A0 := A
  obtain ⟨cl, A, r1, r2⟩ := A
  obtain ⟨T', h', X', e', W, k⟩ := stR X hx hZ eT A (j := j) (v := x) (in_of r1 hj (List.getElem?_eq_getElem hi)) hty F (g := mkF m pc Ls (x :: .int j :: .ref a :: st)) rfl rfl hd
  exact (G T' h' X' e' W (A0.same W)).stp k
/-- what may lie in the array at a: objects of C -/
def Ov (Z : State) (h : Heap) (a : Addr) (C : String) : Prop := ∃ c : Cell, h[a]? = some c ∧ Ovr Z c.cls C
theorem Ov.keep {h' : Heap} {a : Addr} {ws : List Addr} {C : String} (F : Ov Z h a C) (K : Keep h h' ws) : Ov Z h' a C := by obtain ⟨c, h1, o⟩ := F; obtain ⟨c', h2, e, -⟩ := K.2.2 a c h1; exact ⟨c', h2, by rw [e]; exact o⟩
theorem Ov.ext {h' : Heap} {a : Addr} {C : String} (F : Ov Z h a C) (E : Ext h h') : Ov Z h' a C := by obtain ⟨c, h1, o⟩ := F; exact ⟨c, E.2 _ _ h1, o⟩
theorem Ov.wr {h' : Heap} {a b : Addr} {sl : Nat} {v : Value} {C : String} (F : Ov Z h a C) (W : Wr h h' b sl v) : Ov Z h' a C := by obtain ⟨c, h1, o⟩ := F; obtain ⟨c', h2, e, -⟩ := wr_at W h1; exact ⟨c', h2, by rw [e]; exact o⟩
theorem Ov.lt {a : Addr} {C : String} (F : Ov Z h a C) : a < h.size := by obtain ⟨c, h1, -⟩ := F; exact (Array.getElem?_eq_some_iff.mp h1).1
theorem Ov.sto {a y : Addr} {C : String} {ty : FieldType} {vs : List Value} (F : Ov Z h a C) (A : AV Z h a ty vs) (I : Ins Z h y C true) : Sto Z h a (.ref y) := by
  obtain ⟨c, h1, o⟩ := F
  obtain ⟨c', A', -⟩ := A
  cases h1.symm.trans A'.1
  exact Sto.of A' o I
theorem g_anewarray (X : Stand p l e R s m args below meth c T locs cells slots) (hx : p.tables.exec = Jvm.exec) (hZ : Z.Warmed39 s.vm) {own : String} (hown : s.vm.findClass own = some m.cls) {C : String} {i : Nat} (w1 : (Cond.classLink own i C).before a0 Z = true) (w2 : (Cond.arrayOver (.object C)).before a0 Z = true) (eT : T.heap = h) {n : Int32} (hn : ¬ n < 0) (cap : Nat) (hcap : n.toNatClampNeg ≤ cap) (hb : cap * 8 ≤ 536870912) (hc : cells + 1 ≤ R.cells) (hl : slots + cap ≤ R.slots) (vs : List Value) (hvs : vs = List.replicate n.toNatClampNeg .null) (hd : decode c.code pc = .ok (.anewarray i, 3)) (pc' : Nat) (hp : pc + 3 = pc') (G : ∀ T' h' b, Stand p l e R s m args below meth c T' locs (cells + 1) (slots + cap) → T'.heap = h' → b = h.size → Ext h h' → AV Z h' b (.object C) vs → Ov Z h' b C → Go p e below P T' (mkF m pc' Ls (.ref b :: st))) : Go p e below P T (mkF m pc Ls (.int n :: st)) := by
  subst hp
  obtain ⟨T', h', cA, X', e', E, A, O, k⟩ := newR X hx hZ hown w1 w2 eT (g := mkF m pc Ls (.int n :: st)) rfl hd rfl hn hcap hb hc hl
  exact (G T' h' h.size X' e' rfl E (AV.new A vs hvs (by omega)) ⟨_, A.1, O⟩).stp k
theorem g_reti (X : Stand p l e R s m args below meth c T locs cells slots) (hx : p.tables.exec = Jvm.exec) {z : Int32} (hret : meth.sig.returnType = some .int) (hlk : meth.locks = false) {k n : Nat} {Q : Option Value → Heap → List Loc → Prop} (hk : cells ≤ k) (hn : slots ≤ n) (hd : decode c.code pc = .ok (.ireturn, 1)) (hq : Q (some (.int z)) T.heap locs) : Go p e below (RP s k n Q) T (mkF m pc Ls (.int z :: st)) := by
  obtain ⟨fs, hr, hrun, hended, hW, hsame⟩ := X.leave (v := (some (.int z))) (fun h => by first | rfl | (rw [hret] at h; cases h)) hlk
  exact ⟨_, _, retOut X hx hret rfl (Or.inl ⟨rfl, Or.inl rfl, z, rfl⟩) hd hr, hrun, hended, _, _, rfl, hq, ⟨_, rfl⟩, hW, hsame.mono hk hn⟩
theorem g_retz (X : Stand p l e R s m args below meth c T locs cells slots) (hx : p.tables.exec = Jvm.exec) {z : Int32} (hret : meth.sig.returnType = some .boolean) (hlk : meth.locks = false) {k n : Nat} {Q : Option Value → Heap → List Loc → Prop} (hk : cells ≤ k) (hn : slots ≤ n) (hd : decode c.code pc = .ok (.ireturn, 1)) (hq : Q (some (.int (z &&& 1))) T.heap locs) : Go p e below (RP s k n Q) T (mkF m pc Ls (.int z :: st)) := by
  obtain ⟨fs, hr, hrun, hended, hW, hsame⟩ := X.leave (v := (some (.int (z &&& 1)))) (fun h => by first | rfl | (rw [hret] at h; cases h)) hlk
  exact ⟨_, _, retN X hx (t := .boolean) hret (by simp) hd hr, hrun, hended, _, _, rfl, hq, ⟨_, rfl⟩, hW, hsame.mono hk hn⟩
theorem g_retb (X : Stand p l e R s m args below meth c T locs cells slots) (hx : p.tables.exec = Jvm.exec) {z : Int32} (hret : meth.sig.returnType = some .byte) (hlk : meth.locks = false) {k n : Nat} {Q : Option Value → Heap → List Loc → Prop} (hk : cells ≤ k) (hn : slots ≤ n) (hd : decode c.code pc = .ok (.ireturn, 1)) (hq : Q (some (.int z.toInt8.toInt32)) T.heap locs) : Go p e below (RP s k n Q) T (mkF m pc Ls (.int z :: st)) := by
  obtain ⟨fs, hr, hrun, hended, hW, hsame⟩ := X.leave (v := (some (.int z.toInt8.toInt32))) (fun h => by first | rfl | (rw [hret] at h; cases h)) hlk
  exact ⟨_, _, retN X hx (t := .byte) hret (by simp) hd hr, hrun, hended, _, _, rfl, hq, ⟨_, rfl⟩, hW, hsame.mono hk hn⟩
theorem g_retl (X : Stand p l e R s m args below meth c T locs cells slots) (hx : p.tables.exec = Jvm.exec) {z : Int64} (hret : meth.sig.returnType = some .long) (hlk : meth.locks = false) {k n : Nat} {Q : Option Value → Heap → List Loc → Prop} (hk : cells ≤ k) (hn : slots ≤ n) (hd : decode c.code pc = .ok (.lreturn, 1)) (hq : Q (some (.long z)) T.heap locs) : Go p e below (RP s k n Q) T (mkF m pc Ls (.long z :: st)) := by
  obtain ⟨fs, hr, hrun, hended, hW, hsame⟩ := X.leave (v := (some (.long z))) (fun h => by first | rfl | (rw [hret] at h; cases h)) hlk
  exact ⟨_, _, retOut X hx hret rfl (Or.inr (Or.inl ⟨rfl, rfl, z, rfl⟩)) hd hr, hrun, hended, _, _, rfl, hq, ⟨_, rfl⟩, hW, hsame.mono hk hn⟩
theorem g_reta (X : Stand p l e R s m args below meth c T locs cells slots) (hx : p.tables.exec = Jvm.exec) {v : Value} {t : FieldType} (hv : v.isRef = true) (ht : t.isReference = true) (hret : meth.sig.returnType = some t) (hlk : meth.locks = false) {k n : Nat} {Q : Option Value → Heap → List Loc → Prop} (hk : cells ≤ k) (hn : slots ≤ n) (hd : decode c.code pc = .ok (.areturn, 1)) (hq : Q (some v) T.heap locs) : Go p e below (RP s k n Q) T (mkF m pc Ls (v :: st)) := by
  obtain ⟨fs, hr, hrun, hended, hW, hsame⟩ := X.leave (v := (some v)) (fun h => by first | rfl | (rw [hret] at h; cases h)) hlk
  exact ⟨_, _, retOut X hx hret (by cases t <;> first | (cases ht; done) | rfl) (Or.inr (Or.inr (Or.inr (Or.inr ⟨rfl, ht, hv⟩)))) hd hr, hrun, hended, _, _, rfl, hq, ⟨_, rfl⟩, hW, hsame.mono hk hn⟩
theorem g_retv (X : Stand p l e R s m args below meth c T locs cells slots) (hx : p.tables.exec = Jvm.exec) (hret : meth.sig.returnType = none) (hlk : meth.locks = false) {k n : Nat} {Q : Option Value → Heap → List Loc → Prop} (hk : cells ≤ k) (hn : slots ≤ n) (hd : decode c.code pc = .ok (.return_, 1)) (hq : Q none T.heap locs) : Go p e below (RP s k n Q) T (mkF m pc Ls []) := by
  obtain ⟨fs, hr, hrun, hended, hW, hsame⟩ := X.leave (v := none) (fun _ => rfl) hlk
  exact ⟨_, _, X.returnOut hx hret hd hr, hrun, hended, _, _, rfl, hq, ⟨_, rfl⟩, hW, hsame.mono hk hn⟩
/-- what a method does, called with these arguments over this heap -/
def Co (l : Launch) (y : MethodName) (bytes : ByteArray) (maxL : Nat) (ret : Option FieldType) (ws : List Jvm.Cond) (rm : Room) (Z : State) (h : Heap) (as : Array Value) (Q : Option Value → Heap → List Loc → Prop) : Prop := MetFree l y (head1 (Jvm.Cond.code y bytes maxL ret :: ws) rm) (fun a U => a = as ∧ Z.Warmed39 U.vm ∧ U.heap = h) (fun _ _ _ _ _ => True) (fun _ U o U' => ∃ v L, o = .returned v ∧ Q v U'.heap L ∧ FrameEnd U o U' L rm.cells rm.slots)
theorem Co.of {y : MethodName} {bytes : ByteArray} {maxL : Nat} {ret : Option FieldType} {ws : List Jvm.Cond} {rm : Room} {as : Array Value} {Q : Option Value → Heap → List Loc → Prop} (hpl : plainFor y = true) (body : ∀ (p : Program) (e : Env) (s : State) (m : MethodId) (below : List Frame) (meth : Method) (c : Code) (T : State), Stand p l e rm s m as below meth c T [] 0 0 → p.tables.exec = Jvm.exec → c.code = bytes → c.maxLocals = maxL → s.vm.findClass y.cls = some m.cls → meth.name = y.name → meth.sig.returnType = ret → meth.locks = false → Z.Warmed39 s.vm → T.heap = h → Go p e below (RP s rm.cells rm.slots Q) T (entryFrame m as maxL)) : Co l y bytes maxL ret ws rm Z h as Q := by
  refine MetFree.of_bodySF hpl hisR ?_
  intro p e s m args below meth c s₁ Bd hml hP hK
  obtain ⟨rfl, hZ, hh⟩ := hP
  exact body p e s m below meth c s₁ (Stand.of_body Bd) Bd.exec Bd.bytes hml (findClass_of_methodNamed Bd.named) (name_of_methodNamed Bd.named Bd.method).1 Bd.returns (BodyLoose.notSynchronized Bd) hZ (by rw [← hh, Bd.state]; rfl)
theorem g_callS (X : Stand p l e R s m args below meth c T locs cells slots) (hx : p.tables.exec = Jvm.exec) (hZ : Z.Warmed39 s.vm) {own : String} (hown : s.vm.findClass own = some m.cls) {i : Nat} {y : MethodName} {bytes : ByteArray} {maxL : Nat} {ret : Option FieldType} (w1 : (Cond.methodLink own i y).before a0 Z = true) (w2 : (Cond.static y).before a0 Z = true) (w3 : (Cond.initialized y.cls).before a0 Z = true) (w4 : (Cond.code y bytes maxL ret).before a0 Z = true)  (hy : y.cls ≠ "java/lang/invoke/MethodHandle" ∧ y.cls ≠ "java/lang/invoke/VarHandle") (eT : T.heap = h) {rm : Room} {Q : Option Value → Heap → List Loc → Prop} {St : List Value} (argsL rest : List Value) (hs : St = argsL.reverse ++ rest) (M : Co l y bytes maxL ret [] rm Z h argsL.toArray Q) (hlen : ∀ sig, parseMethodDescriptor y.desc = some sig → argsL.length = sig.parameters.length) (W : Nat) (hW : (rest.map fun v => v.category).sum ≤ W) (hf : rm.frames + 1 ≤ R.frames) (hl : W + (maxL + 11) + rm.locals ≤ R.locals) (hc : cells + rm.cells ≤ R.cells) (hsl : slots + rm.slots ≤ R.slots) (hsz : Ls.size = c.maxLocals) (hd : decode c.code pc = .ok (.invokestatic i, 3)) (pc' : Nat) (hp : pc + 3 = pc') (G : ∀ v T' L, Stand p l e R s m args below meth c T' (locs ++ L) (cells + rm.cells) (slots + rm.slots) → Q v T'.heap L → Go p e below P T' (mkF m pc' Ls (v.toList ++ rest))) : Go p e below P T (mkF m pc Ls St) := by
  subst hp
  obtain ⟨v, vm1, ⟨T', L', k', n'⟩, -, X', ⟨L, hQ, h1, h2, h3⟩, k⟩ := Jvm.LawKit.callS X hx (y := y) hown (mvT hZ w1) (mvT hZ w2) (mvT hZ w3) (mvT hZ w4) hy (backOf (W := W) M hZ w4 w3 hf hl) (g := mkF m pc Ls St) rfl hsz (argsL := argsL) (rest := rest) hlen hs (by show 2 * 0 + _ ≤ W; omega) hd (fun _ _ => ⟨rfl, eT, hc, hsl⟩)
  dsimp only [Pt.U, Pt.locs, Pt.cells, Pt.slots] at X' h1 h2 h3 k hQ
  subst h1 h2 h3
  exact (G v T' L X' hQ).stp k
theorem g_init (X : Stand p l e R s m args below meth c T locs cells slots) (hx : p.tables.exec = Jvm.exec) (hZ : Z.Warmed39 s.vm) {own : String} (hown : s.vm.findClass own = some m.cls) {i : Nat} {y : MethodName} {bytes : ByteArray} {maxL : Nat} (w1 : (Cond.methodLink own i y).before a0 Z = true) (hnm : y.name = "<init>") (w2 : (Cond.instanceMethod y).before a0 Z = true) (w3 : (Cond.initialized y.cls).before a0 Z = true) (w4 : (Cond.code y bytes maxL none).before a0 Z = true)  (hy : y.cls ≠ "java/lang/invoke/MethodHandle" ∧ y.cls ≠ "java/lang/invoke/VarHandle") (eT : T.heap = h) {rm : Room} {Q : Option Value → Heap → List Loc → Prop} {St : List Value} (argsL rest : List Value) {a : Addr} (hs : St = argsL.reverse ++ .ref a :: rest) (M : Co l y bytes maxL none [] rm Z h (.ref a :: argsL).toArray Q) (hlen : ∀ sig, parseMethodDescriptor y.desc = some sig → argsL.length = sig.parameters.length) (W : Nat) (hW : (rest.map fun v => v.category).sum ≤ W) (hf : rm.frames + 1 ≤ R.frames) (hl : W + (maxL + 11) + rm.locals ≤ R.locals) (hc : cells + rm.cells ≤ R.cells) (hsl : slots + rm.slots ≤ R.slots) (hsz : Ls.size = c.maxLocals) (hd : decode c.code pc = .ok (.invokespecial i, 3)) (pc' : Nat) (hp : pc + 3 = pc') (G : ∀ v T' L, Stand p l e R s m args below meth c T' (locs ++ L) (cells + rm.cells) (slots + rm.slots) → Q v T'.heap L → Go p e below P T' (mkF m pc' Ls (v.toList ++ rest))) : Go p e below P T (mkF m pc Ls St) := by
  subst hp
  obtain ⟨v, vm1, ⟨T', L', k', n'⟩, -, X', ⟨L, hQ, h1, h2, h3⟩, k⟩ := X.specialBack hx (y := y) hnm hown (mvT hZ w1) (mvT hZ w2) (mvT hZ w4) hy (backOf (W := W) M hZ w4 w3 hf hl) (g := mkF m pc Ls St) rfl hsz (Steps.refl _) (a := a) (argsL := argsL) (rest := rest) hlen hs (by show 2 * 0 + _ ≤ W; omega) hd (fun _ _ => ⟨rfl, eT, hc, hsl⟩)
  dsimp only [Pt.U, Pt.locs, Pt.cells, Pt.slots] at X' h1 h2 h3 k hQ
  subst h1 h2 h3
  exact (G v T' L X' hQ).stp fun _ j => k.trans j
theorem g_callV (X : Stand p l e R s m args below meth c T locs cells slots) (hx : p.tables.exec = Jvm.exec) (hZ : Z.Warmed39 s.vm) {own : String} (hown : s.vm.findClass own = some m.cls) {i : Nat} {y : MethodName} {bytes : ByteArray} {maxL : Nat} {ret : Option FieldType} (w1 : (Cond.methodLink own i y).before a0 Z = true) {C : String} (w2 : (Cond.declares y).before a0 Z = true) (w5 : (Cond.selects C y y).before a0 Z = true) (w6 : (Cond.instanceMethod y).before a0 Z = true) (w3 : (Cond.initialized y.cls).before a0 Z = true) (w4 : (Cond.code y bytes maxL ret).before a0 Z = true)  (hy : y.cls ≠ "java/lang/invoke/MethodHandle" ∧ y.cls ≠ "java/lang/invoke/VarHandle") (eT : T.heap = h) {rm : Room} {Q : Option Value → Heap → List Loc → Prop} {St : List Value} (argsL rest : List Value) {a : Addr} (E : Exa Z h a C) (hs : St = argsL.reverse ++ .ref a :: rest) (M : Co l y bytes maxL ret [] rm Z h (.ref a :: argsL).toArray Q) (hlen : ∀ sig, parseMethodDescriptor y.desc = some sig → argsL.length = sig.parameters.length) (W : Nat) (hW : (rest.map fun v => v.category).sum ≤ W) (hf : rm.frames + 1 ≤ R.frames) (hl : W + (maxL + 11) + rm.locals ≤ R.locals) (hc : cells + rm.cells ≤ R.cells) (hsl : slots + rm.slots ≤ R.slots) (hsz : Ls.size = c.maxLocals) (hd : decode c.code pc = .ok (.invokevirtual i, 3)) (pc' : Nat) (hp : pc + 3 = pc') (G : ∀ v T' L, Stand p l e R s m args below meth c T' (locs ++ L) (cells + rm.cells) (slots + rm.slots) → Q v T'.heap L → Go p e below P T' (mkF m pc' Ls (v.toList ++ rest))) : Go p e below P T (mkF m pc Ls St) := by
  subst hp
  obtain ⟨cq, kq, qa, qb, qc⟩ := isOf hZ eT E
  obtain ⟨v, vm1, ⟨T', L', k', n'⟩, -, X', ⟨L, hQ, h1, h2, h3⟩, k⟩ := X.virtualBack hx (y := y) (z := y) hown (mvT hZ w1) (mvT hZ w2) (notFace_of_selects (args := #[]) (mvT hZ w5)) (mvT hZ w5) (mvT hZ w6) hy (backOf (W := W) M hZ w4 w3 hf hl) qa qc (g := mkF m pc Ls St) rfl hsz (Steps.refl _) (argsL := argsL) (rest := rest) hlen hs (by show 2 * 0 + _ ≤ W; omega) hd (fun _ _ => ⟨rfl, eT, hc, hsl⟩)
  dsimp only [Pt.U, Pt.locs, Pt.cells, Pt.slots] at X' h1 h2 h3 k hQ
  subst h1 h2 h3
  exact (G v T' L X' hQ).stp fun _ j => k.trans j
theorem g_callP (X : Stand p l e R s m args below meth c T locs cells slots) (hx : p.tables.exec = Jvm.exec) (hZ : Z.Warmed39 s.vm) {own : String} (hown : s.vm.findClass own = some m.cls) {i : Nat} {y : MethodName} {bytes : ByteArray} {maxL : Nat} {ret : Option FieldType} (w1 : (Cond.methodLink own i y).before a0 Z = true) {n : Nat} (w2 : (Cond.instanceMethod y).before a0 Z = true) (w5 : (Cond.privateMethod y).before a0 Z = true) (wi : (Cond.instantiable y.cls n).before a0 Z = true) (w3 : (Cond.initialized y.cls).before a0 Z = true) (w4 : (Cond.code y bytes maxL ret).before a0 Z = true)  (hy : y.cls ≠ "java/lang/invoke/MethodHandle" ∧ y.cls ≠ "java/lang/invoke/VarHandle") (eT : T.heap = h) {rm : Room} {Q : Option Value → Heap → List Loc → Prop} {St : List Value} (argsL rest : List Value) {a : Addr} (E : Exa Z h a y.cls) (hs : St = argsL.reverse ++ .ref a :: rest) (M : Co l y bytes maxL ret [] rm Z h (.ref a :: argsL).toArray Q) (hlen : ∀ sig, parseMethodDescriptor y.desc = some sig → argsL.length = sig.parameters.length) (W : Nat) (hW : (rest.map fun v => v.category).sum ≤ W) (hf : rm.frames + 1 ≤ R.frames) (hl : W + (maxL + 11) + rm.locals ≤ R.locals) (hc : cells + rm.cells ≤ R.cells) (hsl : slots + rm.slots ≤ R.slots) (hsz : Ls.size = c.maxLocals) (hd : decode c.code pc = .ok (.invokevirtual i, 3)) (pc' : Nat) (hp : pc + 3 = pc') (G : ∀ v T' L, Stand p l e R s m args below meth c T' (locs ++ L) (cells + rm.cells) (slots + rm.slots) → Q v T'.heap L → Go p e below P T' (mkF m pc' Ls (v.toList ++ rest))) : Go p e below P T (mkF m pc Ls St) := by
  subst hp
  obtain ⟨cl, q1, q2⟩ := E.cell
  have wi' : (Cond.instantiable y.cls n).before args s = true := mv hZ wi
  obtain ⟨ci, ki, i1, i2, i3, i4, -⟩ := Cond.instantiable_spec wi'
  have hpr : s.PrivateAt y := Cond.privateMethod_at (mvP hZ w5 (args := #[]))
  have hsel : (Cond.selects y.cls y y).before args s = true := selects_self_of_private i1 i2 (by simp only [Bool.or_eq_false_iff] at i4; exact i4.1) hpr (mv hZ w2) hy
  obtain ⟨v, vm1, ⟨T', L', k', n'⟩, -, X', ⟨L, hQ, h1, h2, h3⟩, k⟩ := X.privateBack hx (y := y) hown (mvT hZ w1) (mvT hZ w2) hsel hpr (mvT hZ w4) hy (backOf (W := W) M hZ w4 w3 hf hl) (g := mkF m pc Ls St) rfl hsz (Steps.refl _) (a := a) (by rw [eT]; exact q1) q2 (argsL := argsL) (rest := rest) hlen hs (by show 2 * 0 + _ ≤ W; omega) hd (fun _ _ => ⟨rfl, eT, hc, hsl⟩)
  dsimp only [Pt.U, Pt.locs, Pt.cells, Pt.slots] at X' h1 h2 h3 k hQ
  subst h1 h2 h3
  exact (G v T' L X' hQ).stp fun _ j => k.trans j
def Pu (h : Heap) (v : Option Value) (r : Option Value) (h' : Heap) (L : List Loc) : Prop := r = v ∧ h' = h ∧ L = []
theorem pu_cont {v : Option Value} {fr lo : Nat} {pc' : Nat} {rest : List Value} (G : ∀ T', Stand p l e R s m args below meth c T' locs cells slots → T'.heap = h → Go p e below P T' (mkF m pc' Ls (v.toList ++ rest))) : ∀ v' T' L, Stand p l e R s m args below meth c T' (locs ++ L) (cells + ({ frames := fr, cells := 0, slots := 0, locals := lo } : Room).cells) (slots + ({ frames := fr, cells := 0, slots := 0, locals := lo } : Room).slots) → Pu h v v' T'.heap L → Go p e below P T' (mkF m pc' Ls (v'.toList ++ rest)) := by
  rintro v' T' L X ⟨rfl, e1, rfl⟩
  exact G T' (by simpa using X) e1
theorem Go.joinT {α : Type} {g : JFrame} (X : Stand p l e R s m args below meth c T locs cells slots) (eT : T.heap = h) (f : α → JFrame) (Pz : α → Prop) (J : ∀ T', Stand p l e R s m args below meth c T' locs cells slots → T'.heap = h → ∀ z, Pz z → Go p e below P T' (f z)) (K : (∀ T', Stand p l e R s m args below meth c T' locs cells slots → T'.heap = h → ∀ z, Pz z → Go p e below P T' (f z)) → Go p e below P T g) : Go p e below P T g := K J
theorem Go.joinH {α : Type} {g : JFrame} (X : Stand p l e R s m args below meth c T locs cells slots) (f : α → JFrame) (Pz : Heap → List Loc → α → Prop) (kc kn : Nat) (J : ∀ T' h' locs', Stand p l e R s m args below meth c T' locs' kc kn → T'.heap = h' → ∀ z, Pz h' locs' z → Go p e below P T' (f z)) (K : (∀ T' h' locs', Stand p l e R s m args below meth c T' locs' kc kn → T'.heap = h' → ∀ z, Pz h' locs' z → Go p e below P T' (f z)) → Go p e below P T g) : Go p e below P T g := K J
theorem Go.loop {α : Type} (X : Stand p l e R s m args below meth c T locs cells slots) (eT : T.heap = h) (f : α → JFrame) (μ : α → Nat) (Pz : α → Prop) (body : ∀ z, Pz z → (∀ T', Stand p l e R s m args below meth c T' locs cells slots → T'.heap = h → ∀ z', Pz z' → μ z' < μ z → Go p e below P T' (f z')) → ∀ T', Stand p l e R s m args below meth c T' locs cells slots → T'.heap = h → Go p e below P T' (f z)) (z : α) (hz : Pz z) : Go p e below P T (f z) := by
  have key : ∀ n, ∀ z, μ z < n → Pz z → ∀ T', Stand p l e R s m args below meth c T' locs cells slots → T'.heap = h → Go p e below P T' (f z) := by
    intro n
    induction n with
    | zero => intro z hn; exact absurd hn (Nat.not_lt_zero _)
    | succ n ih =>
      intro z hn hz T' X' e'
      exact body z hz (fun T2 X2 e2 z2 hz2 hlt => ih z2 (by omega) hz2 T2 X2 e2) T' X' e'
  exact key (μ z + 1) z (Nat.lt_succ_self _) hz T X eT
theorem Go.loopH {α : Type} (X : Stand p l e R s m args below meth c T locs cells slots) (eT : T.heap = h) (f : α → JFrame) (μ : α → Nat) (Pz : Heap → List Loc → α → Prop) (body : ∀ z h' locs', Pz h' locs' z → (∀ T' h2 locs2, Stand p l e R s m args below meth c T' locs2 cells slots → T'.heap = h2 → ∀ z', Pz h2 locs2 z' → μ z' < μ z → Go p e below P T' (f z')) → ∀ T', Stand p l e R s m args below meth c T' locs' cells slots → T'.heap = h' → Go p e below P T' (f z)) (z : α) (hz : Pz h locs z) : Go p e below P T (f z) := by
  have key : ∀ n, ∀ z h' locs', μ z < n → Pz h' locs' z → ∀ T', Stand p l e R s m args below meth c T' locs' cells slots → T'.heap = h' → Go p e below P T' (f z) := by
    intro n
    induction n with
    | zero => intro z h' locs' hn; exact absurd hn (Nat.not_lt_zero _)
    | succ n ih =>
      intro z h' locs' hn hz T' X' e'
      exact body z h' locs' hz (fun T2 h2 locs2 X2 e2 z2 hz2 hlt => ih z2 h2 locs2 (by omega) hz2 T2 X2 e2) T' X' e'
  exact key (μ z + 1) z h locs (Nat.lt_succ_self _) hz T X eT
theorem own_sta_keep {C n d : String} {v : Value} {h' : Heap} {ws : List Addr} (F : Sta Z h C n d v) (K : Keep h h' ws) (q : ∀ x ∈ ws, ∀ cell : Cell, h[x]? = some cell → cell.vm.isStatics = false) : Sta Z h' C n d v := by
  obtain ⟨cf, i, k, f, st, cell, h1, h2, h3, h4, h5, h6, h7⟩ := F
  exact ⟨cf, i, k, f, st, cell, h1, h2, h3, h4, K.2.1 st cell h5 (fun hm => by rw [q st hm cell h5] at h6; cases h6), h6, h7⟩
end OwnGo
theorem d1_0 : decode method_3_code 0 = .ok (.lload_n 0, 1) := by decide +kernel
theorem d1_1 : decode method_3_code 1 = .ok (.iload_n 2, 1) := by decide +kernel
theorem d1_2 : decode method_3_code 2 = .ok (.bipush 8, 2) := by decide +kernel
theorem d1_4 : decode method_3_code 4 = .ok (.imul, 1) := by decide +kernel
theorem d1_5 : decode method_3_code 5 = .ok (.lushr, 1) := by decide +kernel
theorem d1_6 : decode method_3_code 6 = .ok (.ldc2_w 20, 3) := by decide +kernel
theorem d1_9 : decode method_3_code 9 = .ok (.land, 1) := by decide +kernel
theorem d1_10 : decode method_3_code 10 = .ok (.l2i, 1) := by decide +kernel
theorem d1_11 : decode method_3_code 11 = .ok (.istore 4, 2) := by decide +kernel
theorem d1_13 : decode method_3_code 13 = .ok (.iload 4, 2) := by decide +kernel
theorem d1_15 : decode method_3_code 15 = .ok (.iload_n 3, 1) := by decide +kernel
theorem d1_16 : decode method_3_code 16 = .ok (.if_icmp .ge 12, 3) := by decide +kernel
theorem d1_28 : decode method_3_code 28 = .ok (.lconst 0, 1) := by decide +kernel
theorem d1_19 : decode method_3_code 19 = .ok (.ldc2_w 22, 3) := by decide +kernel
theorem d1_22 : decode method_3_code 22 = .ok (.iload_n 2, 1) := by decide +kernel
theorem d1_23 : decode method_3_code 23 = .ok (.bipush 8, 2) := by decide +kernel
theorem d1_25 : decode method_3_code 25 = .ok (.imul, 1) := by decide +kernel
theorem d1_26 : decode method_3_code 26 = .ok (.lshl, 1) := by decide +kernel
def mark (w : Int64) (i : Int32) (n : Int32) : Int64 := if ((XT.ushrL w (i * (8 : Int32))) &&& (255 : Int64)).toInt32 < n then ((128 : Int64) <<< ((i * (8 : Int32)) &&& 0x3f).toInt64) else (0 : Int64)
theorem ef1 (m_ : MethodId) (w : Int64) (i : Int32) (n : Int32)  : entryFrame m_ #[(.long w), (.int i), (.int n)] 5 = mkF m_ 0 #[.val (.long w), .second, .val (.int i), .val (.int n), .unset] [] := by first | (simp [entryFrame, mkF, argsToLocals, Value.category]; done) | rfl
theorem pn_0 : plainName "com/example/weigh/weigh/io/ByteWordsBelowPinLaw" = true := by first | (simp [plainName, overriddenIn]; done) | decide +kernel
theorem d1_29 : decode method_3_code 29 = .ok (.lreturn, 1) := by decide +kernel
theorem d1_27 : decode method_3_code 27 = .ok (.lreturn, 1) := by decide +kernel
set_option maxRecDepth 65536 in
set_option maxHeartbeats 40000000 in
theorem co1 (l : Launch) (Z : State) (a0 : Array Value) (hw : ∀ d ∈ tables_1, d.before a0 Z = true) (w : Int64) (i : Int32) (n : Int32) (h0 : Heap)  : Co l (⟨"com/example/weigh/weigh/io/ByteWordsBelowPinLaw", "mark", "(JII)J"⟩ : MethodName) method_3_code 5 (some .long) [] ({ frames := 0, cells := 0, slots := 0, locals := 0 } : Room) Z h0 #[(.long w), (.int i), (.int n)] (Pu h0 (some (.long (mark w i n)))) := by
  refine Co.of (plainFor_of_name pn_0) ?_
  intro p_ e_ s_ m_ below meth c_ T0 X0 hx hby hml hown hnm hret hlk hZ eq0
  refine Go.cast (ef1 m_ w i n ) ?_
  refine g_lloadN X0 hx rfl (hb hby d1_0) 1 rfl ?_
  refine g_iloadN X0 hx rfl (hb hby d1_1) 2 rfl ?_
  refine g_bipush X0 hx (8 : Int32) rfl (hb hby d1_2) 4 rfl ?_
  refine g_imul X0 hx (hb hby d1_4) 5 rfl ?_
  refine g_lushr X0 hx (hb hby d1_5) 6 rfl ?_
  refine g_ldc2_w X0 hx hZ hown (wd hw 5 rfl) (hb hby d1_6) 9 rfl ?_
  refine g_land X0 hx (hb hby d1_9) 10 rfl ?_
  refine g_l2i X0 hx (hb hby d1_10) 11 rfl ?_
  refine g_istore X0 hx #[.val (.long w), .second, .val (.int i), .val (.int n), .val (.int ((XT.ushrL w (i * (8 : Int32))) &&& (255 : Int64)).toInt32)] rfl (hb hby d1_11) 13 rfl ?_
  refine g_iload X0 hx rfl (hb hby d1_13) 15 rfl ?_
  refine g_iloadN X0 hx rfl (hb hby d1_15) 16 rfl ?_
  refine g_icmp_ge X0 hx (hb hby d1_16) 28 19 (by decide) rfl rfl (fun q16 => ?_) (fun q16 => ?_)
  · refine g_lconst X0 hx (0 : Int64) rfl (hb hby d1_28) 29 rfl ?_
    exact g_retl X0 hx hret hlk (by decide) (by decide) (hb hby d1_29) ⟨congrArg (fun z => some (Value.long z)) (show mark w i n = _ from ((if_neg q16).trans rfl)).symm, eq0, rfl⟩
  · refine g_ldc2_w X0 hx hZ hown (wd hw 6 rfl) (hb hby d1_19) 22 rfl ?_
    refine g_iloadN X0 hx rfl (hb hby d1_22) 23 rfl ?_
    refine g_bipush X0 hx (8 : Int32) rfl (hb hby d1_23) 25 rfl ?_
    refine g_imul X0 hx (hb hby d1_25) 26 rfl ?_
    refine g_lshl X0 hx (hb hby d1_26) 27 rfl ?_
    exact g_retl X0 hx hret hlk (by decide) (by decide) (hb hby d1_27) ⟨congrArg (fun z => some (Value.long z)) (show mark w i n = _ from ((if_pos q16).trans rfl)).symm, eq0, rfl⟩
theorem d2_0 : decode prog_63_method_5_code 0 = .ok (.lload_n 0, 1) := by decide +kernel
theorem d2_1 : decode prog_63_method_5_code 1 = .ok (.ldc2_w 25, 3) := by decide +kernel
theorem d2_4 : decode prog_63_method_5_code 4 = .ok (.land, 1) := by decide +kernel
theorem d2_5 : decode prog_63_method_5_code 5 = .ok (.sipush 128, 3) := by decide +kernel
theorem d2_8 : decode prog_63_method_5_code 8 = .ok (.iload_n 2, 1) := by decide +kernel
theorem d2_9 : decode prog_63_method_5_code 9 = .ok (.isub, 1) := by decide +kernel
theorem d2_10 : decode prog_63_method_5_code 10 = .ok (.i2l, 1) := by decide +kernel
theorem d2_11 : decode prog_63_method_5_code 11 = .ok (.ldc2_w 23, 3) := by decide +kernel
theorem d2_14 : decode prog_63_method_5_code 14 = .ok (.lmul, 1) := by decide +kernel
theorem d2_15 : decode prog_63_method_5_code 15 = .ok (.ladd, 1) := by decide +kernel
theorem d2_16 : decode prog_63_method_5_code 16 = .ok (.lload_n 0, 1) := by decide +kernel
theorem d2_17 : decode prog_63_method_5_code 17 = .ok (.lor, 1) := by decide +kernel
theorem d2_18 : decode prog_63_method_5_code 18 = .ok (.ldc2_w 27, 3) := by decide +kernel
theorem d2_21 : decode prog_63_method_5_code 21 = .ok (.lxor, 1) := by decide +kernel
theorem d2_22 : decode prog_63_method_5_code 22 = .ok (.ldc2_w 29, 3) := by decide +kernel
theorem d2_25 : decode prog_63_method_5_code 25 = .ok (.land, 1) := by decide +kernel
def blw (w : Int64) (n : Int32) : Int64 := (((((w &&& (9187201950435737471 : Int64)) + (((128 : Int32) - n).toInt64 * (72340172838076673 : Int64))) ||| w) ^^^ (-1 : Int64)) &&& (-9187201950435737472 : Int64))
theorem ef2 (m_ : MethodId) (w : Int64) (n : Int32)  : entryFrame m_ #[(.long w), (.int n)] 3 = mkF m_ 0 #[.val (.long w), .second, .val (.int n)] [] := by first | (simp [entryFrame, mkF, argsToLocals, Value.category]; done) | rfl
theorem pn_1 : plainName "com/example/weigh/weigh/io/ByteWords" = true := by first | (simp [plainName, overriddenIn]; done) | decide +kernel
theorem d2_26 : decode prog_63_method_5_code 26 = .ok (.lreturn, 1) := by decide +kernel
set_option maxRecDepth 65536 in
set_option maxHeartbeats 40000000 in
theorem co2 (l : Launch) (Z : State) (a0 : Array Value) (hw : ∀ d ∈ tables_1, d.before a0 Z = true) (w : Int64) (n : Int32) (h0 : Heap)  : Co l (⟨"com/example/weigh/weigh/io/ByteWords", "below", "(JI)J"⟩ : MethodName) prog_63_method_5_code 3 (some .long) [] ({ frames := 0, cells := 0, slots := 0, locals := 0 } : Room) Z h0 #[(.long w), (.int n)] (Pu h0 (some (.long (blw w n)))) := by
  refine Co.of (plainFor_of_name pn_1) ?_
  intro p_ e_ s_ m_ below meth c_ T0 X0 hx hby hml hown hnm hret hlk hZ eq0
  refine Go.cast (ef2 m_ w n ) ?_
  refine g_lloadN X0 hx rfl (hb hby d2_0) 1 rfl ?_
  refine g_ldc2_w X0 hx hZ hown (wd hw 11 rfl) (hb hby d2_1) 4 rfl ?_
  refine g_land X0 hx (hb hby d2_4) 5 rfl ?_
  refine g_sipush X0 hx (128 : Int32) rfl (hb hby d2_5) 8 rfl ?_
  refine g_iloadN X0 hx rfl (hb hby d2_8) 9 rfl ?_
  refine g_isub X0 hx (hb hby d2_9) 10 rfl ?_
  refine g_i2l X0 hx (hb hby d2_10) 11 rfl ?_
  refine g_ldc2_w X0 hx hZ hown (wd hw 12 rfl) (hb hby d2_11) 14 rfl ?_
  refine g_lmul X0 hx (hb hby d2_14) 15 rfl ?_
  refine g_ladd X0 hx (hb hby d2_15) 16 rfl ?_
  refine g_lloadN X0 hx rfl (hb hby d2_16) 17 rfl ?_
  refine g_lor X0 hx (hb hby d2_17) 18 rfl ?_
  refine g_ldc2_w X0 hx hZ hown (wd hw 13 rfl) (hb hby d2_18) 21 rfl ?_
  refine g_lxor X0 hx (hb hby d2_21) 22 rfl ?_
  refine g_ldc2_w X0 hx hZ hown (wd hw 14 rfl) (hb hby d2_22) 25 rfl ?_
  refine g_land X0 hx (hb hby d2_25) 26 rfl ?_
  exact g_retl X0 hx hret hlk (by decide) (by decide) (hb hby d2_26) ⟨congrArg (fun z => some (Value.long z)) rfl.symm, eq0, rfl⟩
theorem own_dig (L s H P : Nat) (hP : 0 < P) (hL : L < P) (hs : s < 256) : (L + P * (s + 256 * H)) / P % 256 = s := by
  rw [Nat.add_mul_div_left _ _ hP, Nat.div_eq_of_lt hL, Nat.zero_add, Nat.add_mul_mod_self_left, Nat.mod_eq_of_lt hs]
def byt (i : Nat) (x : BitVec 64) : BitVec 8 := x.extractLsb' (8 * i) 8
theorem own_bytN (i : Nat) (x : BitVec 64) : (byt i x).toNat = x.toNat / 256 ^ i % 256 := by
  unfold byt
  rw [BitVec.extractLsb'_toNat, Nat.shiftRight_eq_div_pow, show (256 : Nat) = 2 ^ 8 from rfl, ← Nat.pow_mul]
theorem own_ext (x y : BitVec 64) (h : ∀ i, i < 8 → byt i x = byt i y) : x = y := by
  apply BitVec.eq_of_getLsbD_eq
  intro j hj
  have e := congrArg (fun z => z.getLsbD (j % 8)) (h (j / 8) (by omega))
  simp only [byt, BitVec.getLsbD_extractLsb'] at e
  have r : 8 * (j / 8) + j % 8 = j := by omega
  rw [r] at e
  simpa [show j % 8 < 8 by omega] using e
theorem own_and (i : Nat) (x y : BitVec 64) : byt i (x &&& y) = byt i x &&& byt i y := by
  unfold byt; exact BitVec.extractLsb'_and
theorem own_or (i : Nat) (x y : BitVec 64) : byt i (x ||| y) = byt i x ||| byt i y := by
  unfold byt; exact BitVec.extractLsb'_or
theorem own_xor (i : Nat) (x y : BitVec 64) : byt i (x ^^^ y) = byt i x ^^^ byt i y := by
  unfold byt; exact BitVec.extractLsb'_xor
theorem own_byte8 : ∀ b : Fin 256, ∀ n : Fin 129, (((((BitVec.ofNat 8 b.1 &&& 127#8) + BitVec.ofNat 8 (128 - n.1)) ||| BitVec.ofNat 8 b.1) ^^^ 255#8) &&& 128#8) = (if b.1 < n.1 then 128#8 else 0#8) := by decide +kernel
theorem own_s0 (s0 s1 s2 s3 s4 s5 s6 s7 : Nat) (h0 : s0 < 256) (h1 : s1 < 256) (h2 : s2 < 256) (h3 : s3 < 256) (h4 : s4 < 256) (h5 : s5 < 256) (h6 : s6 < 256) (h7 : s7 < 256) : (s0 + 256 * s1 + 65536 * s2 + 16777216 * s3 + 4294967296 * s4 + 1099511627776 * s5 + 281474976710656 * s6 + 72057594037927936 * s7) / 1 % 256 = s0 := by
  have e : (s0 + 256 * s1 + 65536 * s2 + 16777216 * s3 + 4294967296 * s4 + 1099511627776 * s5 + 281474976710656 * s6 + 72057594037927936 * s7) = (0) + 1 * (s0 + 256 * (s1 + 256 * s2 + 65536 * s3 + 16777216 * s4 + 4294967296 * s5 + 1099511627776 * s6 + 281474976710656 * s7)) := by omega
  rw [e]
  exact own_dig _ _ _ 1 (by decide) (by omega) h0
theorem own_s1 (s0 s1 s2 s3 s4 s5 s6 s7 : Nat) (h0 : s0 < 256) (h1 : s1 < 256) (h2 : s2 < 256) (h3 : s3 < 256) (h4 : s4 < 256) (h5 : s5 < 256) (h6 : s6 < 256) (h7 : s7 < 256) : (s0 + 256 * s1 + 65536 * s2 + 16777216 * s3 + 4294967296 * s4 + 1099511627776 * s5 + 281474976710656 * s6 + 72057594037927936 * s7) / 256 % 256 = s1 := by
  have e : (s0 + 256 * s1 + 65536 * s2 + 16777216 * s3 + 4294967296 * s4 + 1099511627776 * s5 + 281474976710656 * s6 + 72057594037927936 * s7) = (s0) + 256 * (s1 + 256 * (s2 + 256 * s3 + 65536 * s4 + 16777216 * s5 + 4294967296 * s6 + 1099511627776 * s7)) := by omega
  rw [e]
  exact own_dig _ _ _ 256 (by decide) (by omega) h1
theorem own_s2 (s0 s1 s2 s3 s4 s5 s6 s7 : Nat) (h0 : s0 < 256) (h1 : s1 < 256) (h2 : s2 < 256) (h3 : s3 < 256) (h4 : s4 < 256) (h5 : s5 < 256) (h6 : s6 < 256) (h7 : s7 < 256) : (s0 + 256 * s1 + 65536 * s2 + 16777216 * s3 + 4294967296 * s4 + 1099511627776 * s5 + 281474976710656 * s6 + 72057594037927936 * s7) / 65536 % 256 = s2 := by
  have e : (s0 + 256 * s1 + 65536 * s2 + 16777216 * s3 + 4294967296 * s4 + 1099511627776 * s5 + 281474976710656 * s6 + 72057594037927936 * s7) = (s0 + 256 * s1) + 65536 * (s2 + 256 * (s3 + 256 * s4 + 65536 * s5 + 16777216 * s6 + 4294967296 * s7)) := by omega
  rw [e]
  exact own_dig _ _ _ 65536 (by decide) (by omega) h2
theorem own_s3 (s0 s1 s2 s3 s4 s5 s6 s7 : Nat) (h0 : s0 < 256) (h1 : s1 < 256) (h2 : s2 < 256) (h3 : s3 < 256) (h4 : s4 < 256) (h5 : s5 < 256) (h6 : s6 < 256) (h7 : s7 < 256) : (s0 + 256 * s1 + 65536 * s2 + 16777216 * s3 + 4294967296 * s4 + 1099511627776 * s5 + 281474976710656 * s6 + 72057594037927936 * s7) / 16777216 % 256 = s3 := by
  have e : (s0 + 256 * s1 + 65536 * s2 + 16777216 * s3 + 4294967296 * s4 + 1099511627776 * s5 + 281474976710656 * s6 + 72057594037927936 * s7) = (s0 + 256 * s1 + 65536 * s2) + 16777216 * (s3 + 256 * (s4 + 256 * s5 + 65536 * s6 + 16777216 * s7)) := by omega
  rw [e]
  exact own_dig _ _ _ 16777216 (by decide) (by omega) h3
theorem own_s4 (s0 s1 s2 s3 s4 s5 s6 s7 : Nat) (h0 : s0 < 256) (h1 : s1 < 256) (h2 : s2 < 256) (h3 : s3 < 256) (h4 : s4 < 256) (h5 : s5 < 256) (h6 : s6 < 256) (h7 : s7 < 256) : (s0 + 256 * s1 + 65536 * s2 + 16777216 * s3 + 4294967296 * s4 + 1099511627776 * s5 + 281474976710656 * s6 + 72057594037927936 * s7) / 4294967296 % 256 = s4 := by
  have e : (s0 + 256 * s1 + 65536 * s2 + 16777216 * s3 + 4294967296 * s4 + 1099511627776 * s5 + 281474976710656 * s6 + 72057594037927936 * s7) = (s0 + 256 * s1 + 65536 * s2 + 16777216 * s3) + 4294967296 * (s4 + 256 * (s5 + 256 * s6 + 65536 * s7)) := by omega
  rw [e]
  exact own_dig _ _ _ 4294967296 (by decide) (by omega) h4
theorem own_s5 (s0 s1 s2 s3 s4 s5 s6 s7 : Nat) (h0 : s0 < 256) (h1 : s1 < 256) (h2 : s2 < 256) (h3 : s3 < 256) (h4 : s4 < 256) (h5 : s5 < 256) (h6 : s6 < 256) (h7 : s7 < 256) : (s0 + 256 * s1 + 65536 * s2 + 16777216 * s3 + 4294967296 * s4 + 1099511627776 * s5 + 281474976710656 * s6 + 72057594037927936 * s7) / 1099511627776 % 256 = s5 := by
  have e : (s0 + 256 * s1 + 65536 * s2 + 16777216 * s3 + 4294967296 * s4 + 1099511627776 * s5 + 281474976710656 * s6 + 72057594037927936 * s7) = (s0 + 256 * s1 + 65536 * s2 + 16777216 * s3 + 4294967296 * s4) + 1099511627776 * (s5 + 256 * (s6 + 256 * s7)) := by omega
  rw [e]
  exact own_dig _ _ _ 1099511627776 (by decide) (by omega) h5
theorem own_s6 (s0 s1 s2 s3 s4 s5 s6 s7 : Nat) (h0 : s0 < 256) (h1 : s1 < 256) (h2 : s2 < 256) (h3 : s3 < 256) (h4 : s4 < 256) (h5 : s5 < 256) (h6 : s6 < 256) (h7 : s7 < 256) : (s0 + 256 * s1 + 65536 * s2 + 16777216 * s3 + 4294967296 * s4 + 1099511627776 * s5 + 281474976710656 * s6 + 72057594037927936 * s7) / 281474976710656 % 256 = s6 := by
  have e : (s0 + 256 * s1 + 65536 * s2 + 16777216 * s3 + 4294967296 * s4 + 1099511627776 * s5 + 281474976710656 * s6 + 72057594037927936 * s7) = (s0 + 256 * s1 + 65536 * s2 + 16777216 * s3 + 4294967296 * s4 + 1099511627776 * s5) + 281474976710656 * (s6 + 256 * (s7)) := by omega
  rw [e]
  exact own_dig _ _ _ 281474976710656 (by decide) (by omega) h6
theorem own_s7 (s0 s1 s2 s3 s4 s5 s6 s7 : Nat) (h0 : s0 < 256) (h1 : s1 < 256) (h2 : s2 < 256) (h3 : s3 < 256) (h4 : s4 < 256) (h5 : s5 < 256) (h6 : s6 < 256) (h7 : s7 < 256) : (s0 + 256 * s1 + 65536 * s2 + 16777216 * s3 + 4294967296 * s4 + 1099511627776 * s5 + 281474976710656 * s6 + 72057594037927936 * s7) / 72057594037927936 % 256 = s7 := by
  have e : (s0 + 256 * s1 + 65536 * s2 + 16777216 * s3 + 4294967296 * s4 + 1099511627776 * s5 + 281474976710656 * s6 + 72057594037927936 * s7) = (s0 + 256 * s1 + 65536 * s2 + 16777216 * s3 + 4294967296 * s4 + 1099511627776 * s5 + 281474976710656 * s6) + 72057594037927936 * (s7 + 256 * (0)) := by omega
  rw [e]
  exact own_dig _ _ _ 72057594037927936 (by decide) (by omega) h7
theorem own_sum (A : BitVec 64) (k : Nat) (hk : k ≤ 128) (hA : ∀ i, i < 8 → (byt i A).toNat < 128) (i : Nat) (hi : i < 8) : byt i (A + BitVec.ofNat 64 k * 72340172838076673#64) = byt i A + BitVec.ofNat 8 k := by
  apply BitVec.eq_of_toNat_eq
  have hA' : ∀ i, i < 8 → A.toNat / 256 ^ i % 256 < 128 := fun i hi => by rw [← own_bytN]; exact hA i hi
  have hlt := A.isLt
  have a0 := hA' 0 (by decide)
  have a1 := hA' 1 (by decide)
  have a2 := hA' 2 (by decide)
  have a3 := hA' 3 (by decide)
  have a4 := hA' 4 (by decide)
  have a5 := hA' 5 (by decide)
  have a6 := hA' 6 (by decide)
  have a7 := hA' 7 (by decide)
  simp only [show (256 : Nat) ^ 0 = 1 from rfl, show (256 : Nat) ^ 1 = 256 from rfl, show (256 : Nat) ^ 2 = 65536 from rfl, show (256 : Nat) ^ 3 = 16777216 from rfl, show (256 : Nat) ^ 4 = 4294967296 from rfl, show (256 : Nat) ^ 5 = 1099511627776 from rfl, show (256 : Nat) ^ 6 = 281474976710656 from rfl, show (256 : Nat) ^ 7 = 72057594037927936 from rfl] at a0 a1 a2 a3 a4 a5 a6 a7
  obtain ⟨t0, ht0⟩ : ∃ t, t = A.toNat / 1 % 256 := ⟨_, rfl⟩
  obtain ⟨t1, ht1⟩ : ∃ t, t = A.toNat / 256 % 256 := ⟨_, rfl⟩
  obtain ⟨t2, ht2⟩ : ∃ t, t = A.toNat / 65536 % 256 := ⟨_, rfl⟩
  obtain ⟨t3, ht3⟩ : ∃ t, t = A.toNat / 16777216 % 256 := ⟨_, rfl⟩
  obtain ⟨t4, ht4⟩ : ∃ t, t = A.toNat / 4294967296 % 256 := ⟨_, rfl⟩
  obtain ⟨t5, ht5⟩ : ∃ t, t = A.toNat / 1099511627776 % 256 := ⟨_, rfl⟩
  obtain ⟨t6, ht6⟩ : ∃ t, t = A.toNat / 281474976710656 % 256 := ⟨_, rfl⟩
  obtain ⟨t7, ht7⟩ : ∃ t, t = A.toNat / 72057594037927936 % 256 := ⟨_, rfl⟩
  have eA : A.toNat = t0 + 256 * t1 + 65536 * t2 + 16777216 * t3 + 4294967296 * t4 + 1099511627776 * t5 + 281474976710656 * t6 + 72057594037927936 * t7 := by omega
  have eM : (BitVec.ofNat 64 k * 72340172838076673#64).toNat = k * 72340172838076673 := by
    rw [BitVec.toNat_mul, BitVec.toNat_ofNat, BitVec.toNat_ofNat, Nat.mod_eq_of_lt (show k < 2 ^ 64 by omega), Nat.mod_eq_of_lt (show 72340172838076673 < 2 ^ 64 by decide), Nat.mod_eq_of_lt (by omega)]
  have eS : (A + BitVec.ofNat 64 k * 72340172838076673#64).toNat = (t0 + k) + 256 * (t1 + k) + 65536 * (t2 + k) + 16777216 * (t3 + k) + 4294967296 * (t4 + k) + 1099511627776 * (t5 + k) + 281474976710656 * (t6 + k) + 72057594037927936 * (t7 + k) := by
    rw [BitVec.toNat_add, eM, Nat.mod_eq_of_lt (by omega)]
    omega
  rw [own_bytN, eS, BitVec.toNat_add, own_bytN, BitVec.toNat_ofNat]
  rcases (show i = 0 ∨ i = 1 ∨ i = 2 ∨ i = 3 ∨ i = 4 ∨ i = 5 ∨ i = 6 ∨ i = 7 by omega) with rfl | rfl | rfl | rfl | rfl | rfl | rfl | rfl
  · rw [show (256 : Nat) ^ 0 = 1 from rfl, own_s0 (t0 + k) (t1 + k) (t2 + k) (t3 + k) (t4 + k) (t5 + k) (t6 + k) (t7 + k) (by omega) (by omega) (by omega) (by omega) (by omega) (by omega) (by omega) (by omega), ← ht0, Nat.mod_eq_of_lt (show k < 2 ^ 8 by omega), Nat.mod_eq_of_lt (by omega)]
  · rw [show (256 : Nat) ^ 1 = 256 from rfl, own_s1 (t0 + k) (t1 + k) (t2 + k) (t3 + k) (t4 + k) (t5 + k) (t6 + k) (t7 + k) (by omega) (by omega) (by omega) (by omega) (by omega) (by omega) (by omega) (by omega), ← ht1, Nat.mod_eq_of_lt (show k < 2 ^ 8 by omega), Nat.mod_eq_of_lt (by omega)]
  · rw [show (256 : Nat) ^ 2 = 65536 from rfl, own_s2 (t0 + k) (t1 + k) (t2 + k) (t3 + k) (t4 + k) (t5 + k) (t6 + k) (t7 + k) (by omega) (by omega) (by omega) (by omega) (by omega) (by omega) (by omega) (by omega), ← ht2, Nat.mod_eq_of_lt (show k < 2 ^ 8 by omega), Nat.mod_eq_of_lt (by omega)]
  · rw [show (256 : Nat) ^ 3 = 16777216 from rfl, own_s3 (t0 + k) (t1 + k) (t2 + k) (t3 + k) (t4 + k) (t5 + k) (t6 + k) (t7 + k) (by omega) (by omega) (by omega) (by omega) (by omega) (by omega) (by omega) (by omega), ← ht3, Nat.mod_eq_of_lt (show k < 2 ^ 8 by omega), Nat.mod_eq_of_lt (by omega)]
  · rw [show (256 : Nat) ^ 4 = 4294967296 from rfl, own_s4 (t0 + k) (t1 + k) (t2 + k) (t3 + k) (t4 + k) (t5 + k) (t6 + k) (t7 + k) (by omega) (by omega) (by omega) (by omega) (by omega) (by omega) (by omega) (by omega), ← ht4, Nat.mod_eq_of_lt (show k < 2 ^ 8 by omega), Nat.mod_eq_of_lt (by omega)]
  · rw [show (256 : Nat) ^ 5 = 1099511627776 from rfl, own_s5 (t0 + k) (t1 + k) (t2 + k) (t3 + k) (t4 + k) (t5 + k) (t6 + k) (t7 + k) (by omega) (by omega) (by omega) (by omega) (by omega) (by omega) (by omega) (by omega), ← ht5, Nat.mod_eq_of_lt (show k < 2 ^ 8 by omega), Nat.mod_eq_of_lt (by omega)]
  · rw [show (256 : Nat) ^ 6 = 281474976710656 from rfl, own_s6 (t0 + k) (t1 + k) (t2 + k) (t3 + k) (t4 + k) (t5 + k) (t6 + k) (t7 + k) (by omega) (by omega) (by omega) (by omega) (by omega) (by omega) (by omega) (by omega), ← ht6, Nat.mod_eq_of_lt (show k < 2 ^ 8 by omega), Nat.mod_eq_of_lt (by omega)]
  · rw [show (256 : Nat) ^ 7 = 72057594037927936 from rfl, own_s7 (t0 + k) (t1 + k) (t2 + k) (t3 + k) (t4 + k) (t5 + k) (t6 + k) (t7 + k) (by omega) (by omega) (by omega) (by omega) (by omega) (by omega) (by omega) (by omega), ← ht7, Nat.mod_eq_of_lt (show k < 2 ^ 8 by omega), Nat.mod_eq_of_lt (by omega)]
theorem own_lit (i : Nat) (hi : i < 8) : byt i 9187201950435737471#64 = 127#8 ∧ byt i 9259542123273814144#64 = 128#8 ∧ byt i (-1#64) = 255#8 := by
  rcases (show i = 0 ∨ i = 1 ∨ i = 2 ∨ i = 3 ∨ i = 4 ∨ i = 5 ∨ i = 6 ∨ i = 7 by omega) with rfl | rfl | rfl | rfl | rfl | rfl | rfl | rfl <;> decide
theorem own_below (w : Int64) (n : Int32) (N : Nat) (hN : n.toInt = N) (h128 : N ≤ 128) : (blw w n).toBitVec = (((((w.toBitVec &&& 9187201950435737471#64) + BitVec.ofNat 64 (128 - N) * 72340172838076673#64) ||| w.toBitVec) ^^^ (-1#64)) &&& 9259542123273814144#64) := by
  have e : ((128 : Int32) - n).toInt64.toBitVec = BitVec.ofNat 64 (128 - N) := by
    have e1 := c_isub 128 n
    have r := rng32 ((128 : Int32) - n)
    simp only [Int32.reduceToInt] at e1
    have e2 : ((128 : Int32) - n).toInt64.toInt = ((128 - N : Nat) : Int) := by rw [c_i2l]; omega
    apply BitVec.eq_of_toInt_eq
    rw [show ((128 : Int32) - n).toInt64.toBitVec.toInt = ((128 : Int32) - n).toInt64.toInt from rfl, e2]
    rw [BitVec.toInt_eq_toNat_cond, BitVec.toNat_ofNat, Nat.mod_eq_of_lt (show 128 - N < 2 ^ 64 by omega), if_pos (by omega)]
  unfold blw
  simp only [Int64.toBitVec_and, Int64.toBitVec_or, Int64.toBitVec_xor, Int64.toBitVec_add, Int64.toBitVec_mul, e]
  rfl
theorem own_belowB (w : Int64) (n : Int32) (N : Nat) (hN : n.toInt = N) (h128 : N ≤ 128) (i : Nat) (hi : i < 8) : byt i (blw w n).toBitVec = (if (byt i w.toBitVec).toNat < N then 128#8 else 0#8) := by
  obtain ⟨l1, l2, l3⟩ := own_lit i hi
  rw [own_below w n N hN h128, own_and, own_xor, own_or, own_sum _ _ (by omega) _ i hi, own_and, l1, l2, l3]
  · have := own_byte8 ⟨(byt i w.toBitVec).toNat, (byt i w.toBitVec).isLt⟩ ⟨N, by omega⟩
    simpa using this
  · intro j hj
    rw [own_and, (own_lit j hj).1]
    have : (byt j w.toBitVec &&& 127#8).toNat ≤ 127 := by rw [BitVec.toNat_and]; exact Nat.and_le_right
    omega
theorem own_toInt (w : Int64) : w.toInt = (w.toBitVec.toNat : Int) - (if w.toBitVec.toNat < 9223372036854775808 then 0 else 18446744073709551616) := by
  have e : w.toInt = w.toBitVec.toInt := rfl
  have h := w.toBitVec.isLt
  rw [e, BitVec.toInt_eq_toNat_cond]
  split <;> split <;> omega
theorem own_ush0 (w : Int64) : (XT.ushrL w ((0 : Int32) * (8 : Int32))).toInt % 256 = ((w.toBitVec.toNat / 256 ^ 0 % 256 : Nat) : Int) := by
  have e : XT.ushrL w ((0 : Int32) * (8 : Int32)) = w := by unfold XT.ushrL; rw [show (((0 : Int32) * (8 : Int32)).toInt64.toUInt64 &&& Int64.toUInt64 63) = 0 from by decide]; simp
  rw [e, own_toInt w]; have hlt := w.toBitVec.isLt; split
  all_goals (simp only [show (256 : Nat) ^ 0 = 1 from rfl]; omega)
theorem own_ush1 (w : Int64) : (XT.ushrL w ((1 : Int32) * (8 : Int32))).toInt % 256 = ((w.toBitVec.toNat / 256 ^ 1 % 256 : Nat) : Int) := by
  have e : XT.ushrL w ((1 : Int32) * (8 : Int32)) = ((w.toUInt64 >>> (((8 : Int32) &&& 0x3f).toInt64.toUInt64)).toInt64) := by unfold XT.ushrL; rw [show (((1 : Int32) * (8 : Int32)).toInt64.toUInt64 &&& Int64.toUInt64 63) = ((8 : Int32) &&& 0x3f).toInt64.toUInt64 from by decide]
  rw [e, c_lushr w (8 : Int32) 8 (by decide) (by decide), own_toInt w]; have hlt := w.toBitVec.isLt; split
  all_goals (simp only [show (256 : Nat) ^ 1 = 256 from rfl, show (2 : Nat) ^ 8 = 256 from rfl]; omega)
theorem own_ush2 (w : Int64) : (XT.ushrL w ((2 : Int32) * (8 : Int32))).toInt % 256 = ((w.toBitVec.toNat / 256 ^ 2 % 256 : Nat) : Int) := by
  have e : XT.ushrL w ((2 : Int32) * (8 : Int32)) = ((w.toUInt64 >>> (((16 : Int32) &&& 0x3f).toInt64.toUInt64)).toInt64) := by unfold XT.ushrL; rw [show (((2 : Int32) * (8 : Int32)).toInt64.toUInt64 &&& Int64.toUInt64 63) = ((16 : Int32) &&& 0x3f).toInt64.toUInt64 from by decide]
  rw [e, c_lushr w (16 : Int32) 16 (by decide) (by decide), own_toInt w]; have hlt := w.toBitVec.isLt; split
  all_goals (simp only [show (256 : Nat) ^ 2 = 65536 from rfl, show (2 : Nat) ^ 16 = 65536 from rfl]; omega)
theorem own_ush3 (w : Int64) : (XT.ushrL w ((3 : Int32) * (8 : Int32))).toInt % 256 = ((w.toBitVec.toNat / 256 ^ 3 % 256 : Nat) : Int) := by
  have e : XT.ushrL w ((3 : Int32) * (8 : Int32)) = ((w.toUInt64 >>> (((24 : Int32) &&& 0x3f).toInt64.toUInt64)).toInt64) := by unfold XT.ushrL; rw [show (((3 : Int32) * (8 : Int32)).toInt64.toUInt64 &&& Int64.toUInt64 63) = ((24 : Int32) &&& 0x3f).toInt64.toUInt64 from by decide]
  rw [e, c_lushr w (24 : Int32) 24 (by decide) (by decide), own_toInt w]; have hlt := w.toBitVec.isLt; split
  all_goals (simp only [show (256 : Nat) ^ 3 = 16777216 from rfl, show (2 : Nat) ^ 24 = 16777216 from rfl]; omega)
theorem own_ush4 (w : Int64) : (XT.ushrL w ((4 : Int32) * (8 : Int32))).toInt % 256 = ((w.toBitVec.toNat / 256 ^ 4 % 256 : Nat) : Int) := by
  have e : XT.ushrL w ((4 : Int32) * (8 : Int32)) = ((w.toUInt64 >>> (((32 : Int32) &&& 0x3f).toInt64.toUInt64)).toInt64) := by unfold XT.ushrL; rw [show (((4 : Int32) * (8 : Int32)).toInt64.toUInt64 &&& Int64.toUInt64 63) = ((32 : Int32) &&& 0x3f).toInt64.toUInt64 from by decide]
  rw [e, c_lushr w (32 : Int32) 32 (by decide) (by decide), own_toInt w]; have hlt := w.toBitVec.isLt; split
  all_goals (simp only [show (256 : Nat) ^ 4 = 4294967296 from rfl, show (2 : Nat) ^ 32 = 4294967296 from rfl]; omega)
theorem own_ush5 (w : Int64) : (XT.ushrL w ((5 : Int32) * (8 : Int32))).toInt % 256 = ((w.toBitVec.toNat / 256 ^ 5 % 256 : Nat) : Int) := by
  have e : XT.ushrL w ((5 : Int32) * (8 : Int32)) = ((w.toUInt64 >>> (((40 : Int32) &&& 0x3f).toInt64.toUInt64)).toInt64) := by unfold XT.ushrL; rw [show (((5 : Int32) * (8 : Int32)).toInt64.toUInt64 &&& Int64.toUInt64 63) = ((40 : Int32) &&& 0x3f).toInt64.toUInt64 from by decide]
  rw [e, c_lushr w (40 : Int32) 40 (by decide) (by decide), own_toInt w]; have hlt := w.toBitVec.isLt; split
  all_goals (simp only [show (256 : Nat) ^ 5 = 1099511627776 from rfl, show (2 : Nat) ^ 40 = 1099511627776 from rfl]; omega)
theorem own_ush6 (w : Int64) : (XT.ushrL w ((6 : Int32) * (8 : Int32))).toInt % 256 = ((w.toBitVec.toNat / 256 ^ 6 % 256 : Nat) : Int) := by
  have e : XT.ushrL w ((6 : Int32) * (8 : Int32)) = ((w.toUInt64 >>> (((48 : Int32) &&& 0x3f).toInt64.toUInt64)).toInt64) := by unfold XT.ushrL; rw [show (((6 : Int32) * (8 : Int32)).toInt64.toUInt64 &&& Int64.toUInt64 63) = ((48 : Int32) &&& 0x3f).toInt64.toUInt64 from by decide]
  rw [e, c_lushr w (48 : Int32) 48 (by decide) (by decide), own_toInt w]; have hlt := w.toBitVec.isLt; split
  all_goals (simp only [show (256 : Nat) ^ 6 = 281474976710656 from rfl, show (2 : Nat) ^ 48 = 281474976710656 from rfl]; omega)
theorem own_ush7 (w : Int64) : (XT.ushrL w ((7 : Int32) * (8 : Int32))).toInt % 256 = ((w.toBitVec.toNat / 256 ^ 7 % 256 : Nat) : Int) := by
  have e : XT.ushrL w ((7 : Int32) * (8 : Int32)) = ((w.toUInt64 >>> (((56 : Int32) &&& 0x3f).toInt64.toUInt64)).toInt64) := by unfold XT.ushrL; rw [show (((7 : Int32) * (8 : Int32)).toInt64.toUInt64 &&& Int64.toUInt64 63) = ((56 : Int32) &&& 0x3f).toInt64.toUInt64 from by decide]
  rw [e, c_lushr w (56 : Int32) 56 (by decide) (by decide), own_toInt w]; have hlt := w.toBitVec.isLt; split
  all_goals (simp only [show (256 : Nat) ^ 7 = 72057594037927936 from rfl, show (2 : Nat) ^ 56 = 72057594037927936 from rfl]; omega)
theorem own_mark0 (w : Int64) (n : Int32) (N : Nat) (hN : n.toInt = N) : (mark w (0 : Int32) n).toBitVec = (if (byt 0 w.toBitVec).toNat < N then 128#64 else 0#64) := by
  have e : ((XT.ushrL w ((0 : Int32) * (8 : Int32))) &&& (255 : Int64)).toInt32.toInt = (byt 0 w.toBitVec).toNat := by
    rw [own_bytN]
    have e1 : ((XT.ushrL w ((0 : Int32) * (8 : Int32))) &&& (255 : Int64)).toInt = (XT.ushrL w ((0 : Int32) * (8 : Int32))).toInt % (2 ^ 8 : Nat) := c_maskL _ 255 8 (by decide) (by decide)
    have e2 := c_l2i ((XT.ushrL w ((0 : Int32) * (8 : Int32))) &&& (255 : Int64))
    have r := rng32 ((XT.ushrL w ((0 : Int32) * (8 : Int32))) &&& (255 : Int64)).toInt32
    have e3 : (XT.ushrL w ((0 : Int32) * (8 : Int32))).toInt % 256 = ((w.toBitVec.toNat / 256 ^ 0 % 256 : Nat) : Int) := own_ush0 w
    omega
  unfold mark
  by_cases c : (byt 0 w.toBitVec).toNat < N
  · rw [if_pos (by rw [Int32.lt_iff_toInt_lt, e, hN]; omega), if_pos c]; rfl
  · rw [if_neg (by rw [Int32.lt_iff_toInt_lt, e, hN]; omega), if_neg c]; rfl
theorem own_mark1 (w : Int64) (n : Int32) (N : Nat) (hN : n.toInt = N) : (mark w (1 : Int32) n).toBitVec = (if (byt 1 w.toBitVec).toNat < N then 32768#64 else 0#64) := by
  have e : ((XT.ushrL w ((1 : Int32) * (8 : Int32))) &&& (255 : Int64)).toInt32.toInt = (byt 1 w.toBitVec).toNat := by
    rw [own_bytN]
    have e1 : ((XT.ushrL w ((1 : Int32) * (8 : Int32))) &&& (255 : Int64)).toInt = (XT.ushrL w ((1 : Int32) * (8 : Int32))).toInt % (2 ^ 8 : Nat) := c_maskL _ 255 8 (by decide) (by decide)
    have e2 := c_l2i ((XT.ushrL w ((1 : Int32) * (8 : Int32))) &&& (255 : Int64))
    have r := rng32 ((XT.ushrL w ((1 : Int32) * (8 : Int32))) &&& (255 : Int64)).toInt32
    have e3 : (XT.ushrL w ((1 : Int32) * (8 : Int32))).toInt % 256 = ((w.toBitVec.toNat / 256 ^ 1 % 256 : Nat) : Int) := own_ush1 w
    omega
  unfold mark
  by_cases c : (byt 1 w.toBitVec).toNat < N
  · rw [if_pos (by rw [Int32.lt_iff_toInt_lt, e, hN]; omega), if_pos c]; rfl
  · rw [if_neg (by rw [Int32.lt_iff_toInt_lt, e, hN]; omega), if_neg c]; rfl
theorem own_mark2 (w : Int64) (n : Int32) (N : Nat) (hN : n.toInt = N) : (mark w (2 : Int32) n).toBitVec = (if (byt 2 w.toBitVec).toNat < N then 8388608#64 else 0#64) := by
  have e : ((XT.ushrL w ((2 : Int32) * (8 : Int32))) &&& (255 : Int64)).toInt32.toInt = (byt 2 w.toBitVec).toNat := by
    rw [own_bytN]
    have e1 : ((XT.ushrL w ((2 : Int32) * (8 : Int32))) &&& (255 : Int64)).toInt = (XT.ushrL w ((2 : Int32) * (8 : Int32))).toInt % (2 ^ 8 : Nat) := c_maskL _ 255 8 (by decide) (by decide)
    have e2 := c_l2i ((XT.ushrL w ((2 : Int32) * (8 : Int32))) &&& (255 : Int64))
    have r := rng32 ((XT.ushrL w ((2 : Int32) * (8 : Int32))) &&& (255 : Int64)).toInt32
    have e3 : (XT.ushrL w ((2 : Int32) * (8 : Int32))).toInt % 256 = ((w.toBitVec.toNat / 256 ^ 2 % 256 : Nat) : Int) := own_ush2 w
    omega
  unfold mark
  by_cases c : (byt 2 w.toBitVec).toNat < N
  · rw [if_pos (by rw [Int32.lt_iff_toInt_lt, e, hN]; omega), if_pos c]; rfl
  · rw [if_neg (by rw [Int32.lt_iff_toInt_lt, e, hN]; omega), if_neg c]; rfl
theorem own_mark3 (w : Int64) (n : Int32) (N : Nat) (hN : n.toInt = N) : (mark w (3 : Int32) n).toBitVec = (if (byt 3 w.toBitVec).toNat < N then 2147483648#64 else 0#64) := by
  have e : ((XT.ushrL w ((3 : Int32) * (8 : Int32))) &&& (255 : Int64)).toInt32.toInt = (byt 3 w.toBitVec).toNat := by
    rw [own_bytN]
    have e1 : ((XT.ushrL w ((3 : Int32) * (8 : Int32))) &&& (255 : Int64)).toInt = (XT.ushrL w ((3 : Int32) * (8 : Int32))).toInt % (2 ^ 8 : Nat) := c_maskL _ 255 8 (by decide) (by decide)
    have e2 := c_l2i ((XT.ushrL w ((3 : Int32) * (8 : Int32))) &&& (255 : Int64))
    have r := rng32 ((XT.ushrL w ((3 : Int32) * (8 : Int32))) &&& (255 : Int64)).toInt32
    have e3 : (XT.ushrL w ((3 : Int32) * (8 : Int32))).toInt % 256 = ((w.toBitVec.toNat / 256 ^ 3 % 256 : Nat) : Int) := own_ush3 w
    omega
  unfold mark
  by_cases c : (byt 3 w.toBitVec).toNat < N
  · rw [if_pos (by rw [Int32.lt_iff_toInt_lt, e, hN]; omega), if_pos c]; rfl
  · rw [if_neg (by rw [Int32.lt_iff_toInt_lt, e, hN]; omega), if_neg c]; rfl
theorem own_mark4 (w : Int64) (n : Int32) (N : Nat) (hN : n.toInt = N) : (mark w (4 : Int32) n).toBitVec = (if (byt 4 w.toBitVec).toNat < N then 549755813888#64 else 0#64) := by
  have e : ((XT.ushrL w ((4 : Int32) * (8 : Int32))) &&& (255 : Int64)).toInt32.toInt = (byt 4 w.toBitVec).toNat := by
    rw [own_bytN]
    have e1 : ((XT.ushrL w ((4 : Int32) * (8 : Int32))) &&& (255 : Int64)).toInt = (XT.ushrL w ((4 : Int32) * (8 : Int32))).toInt % (2 ^ 8 : Nat) := c_maskL _ 255 8 (by decide) (by decide)
    have e2 := c_l2i ((XT.ushrL w ((4 : Int32) * (8 : Int32))) &&& (255 : Int64))
    have r := rng32 ((XT.ushrL w ((4 : Int32) * (8 : Int32))) &&& (255 : Int64)).toInt32
    have e3 : (XT.ushrL w ((4 : Int32) * (8 : Int32))).toInt % 256 = ((w.toBitVec.toNat / 256 ^ 4 % 256 : Nat) : Int) := own_ush4 w
    omega
  unfold mark
  by_cases c : (byt 4 w.toBitVec).toNat < N
  · rw [if_pos (by rw [Int32.lt_iff_toInt_lt, e, hN]; omega), if_pos c]; rfl
  · rw [if_neg (by rw [Int32.lt_iff_toInt_lt, e, hN]; omega), if_neg c]; rfl
theorem own_mark5 (w : Int64) (n : Int32) (N : Nat) (hN : n.toInt = N) : (mark w (5 : Int32) n).toBitVec = (if (byt 5 w.toBitVec).toNat < N then 140737488355328#64 else 0#64) := by
  have e : ((XT.ushrL w ((5 : Int32) * (8 : Int32))) &&& (255 : Int64)).toInt32.toInt = (byt 5 w.toBitVec).toNat := by
    rw [own_bytN]
    have e1 : ((XT.ushrL w ((5 : Int32) * (8 : Int32))) &&& (255 : Int64)).toInt = (XT.ushrL w ((5 : Int32) * (8 : Int32))).toInt % (2 ^ 8 : Nat) := c_maskL _ 255 8 (by decide) (by decide)
    have e2 := c_l2i ((XT.ushrL w ((5 : Int32) * (8 : Int32))) &&& (255 : Int64))
    have r := rng32 ((XT.ushrL w ((5 : Int32) * (8 : Int32))) &&& (255 : Int64)).toInt32
    have e3 : (XT.ushrL w ((5 : Int32) * (8 : Int32))).toInt % 256 = ((w.toBitVec.toNat / 256 ^ 5 % 256 : Nat) : Int) := own_ush5 w
    omega
  unfold mark
  by_cases c : (byt 5 w.toBitVec).toNat < N
  · rw [if_pos (by rw [Int32.lt_iff_toInt_lt, e, hN]; omega), if_pos c]; rfl
  · rw [if_neg (by rw [Int32.lt_iff_toInt_lt, e, hN]; omega), if_neg c]; rfl
theorem own_mark6 (w : Int64) (n : Int32) (N : Nat) (hN : n.toInt = N) : (mark w (6 : Int32) n).toBitVec = (if (byt 6 w.toBitVec).toNat < N then 36028797018963968#64 else 0#64) := by
  have e : ((XT.ushrL w ((6 : Int32) * (8 : Int32))) &&& (255 : Int64)).toInt32.toInt = (byt 6 w.toBitVec).toNat := by
    rw [own_bytN]
    have e1 : ((XT.ushrL w ((6 : Int32) * (8 : Int32))) &&& (255 : Int64)).toInt = (XT.ushrL w ((6 : Int32) * (8 : Int32))).toInt % (2 ^ 8 : Nat) := c_maskL _ 255 8 (by decide) (by decide)
    have e2 := c_l2i ((XT.ushrL w ((6 : Int32) * (8 : Int32))) &&& (255 : Int64))
    have r := rng32 ((XT.ushrL w ((6 : Int32) * (8 : Int32))) &&& (255 : Int64)).toInt32
    have e3 : (XT.ushrL w ((6 : Int32) * (8 : Int32))).toInt % 256 = ((w.toBitVec.toNat / 256 ^ 6 % 256 : Nat) : Int) := own_ush6 w
    omega
  unfold mark
  by_cases c : (byt 6 w.toBitVec).toNat < N
  · rw [if_pos (by rw [Int32.lt_iff_toInt_lt, e, hN]; omega), if_pos c]; rfl
  · rw [if_neg (by rw [Int32.lt_iff_toInt_lt, e, hN]; omega), if_neg c]; rfl
theorem own_mark7 (w : Int64) (n : Int32) (N : Nat) (hN : n.toInt = N) : (mark w (7 : Int32) n).toBitVec = (if (byt 7 w.toBitVec).toNat < N then 9223372036854775808#64 else 0#64) := by
  have e : ((XT.ushrL w ((7 : Int32) * (8 : Int32))) &&& (255 : Int64)).toInt32.toInt = (byt 7 w.toBitVec).toNat := by
    rw [own_bytN]
    have e1 : ((XT.ushrL w ((7 : Int32) * (8 : Int32))) &&& (255 : Int64)).toInt = (XT.ushrL w ((7 : Int32) * (8 : Int32))).toInt % (2 ^ 8 : Nat) := c_maskL _ 255 8 (by decide) (by decide)
    have e2 := c_l2i ((XT.ushrL w ((7 : Int32) * (8 : Int32))) &&& (255 : Int64))
    have r := rng32 ((XT.ushrL w ((7 : Int32) * (8 : Int32))) &&& (255 : Int64)).toInt32
    have e3 : (XT.ushrL w ((7 : Int32) * (8 : Int32))).toInt % 256 = ((w.toBitVec.toNat / 256 ^ 7 % 256 : Nat) : Int) := own_ush7 w
    omega
  unfold mark
  by_cases c : (byt 7 w.toBitVec).toNat < N
  · rw [if_pos (by rw [Int32.lt_iff_toInt_lt, e, hN]; omega), if_pos c]; rfl
  · rw [if_neg (by rw [Int32.lt_iff_toInt_lt, e, hN]; omega), if_neg c]; rfl
theorem own_fin (w : Int64) (n : Int32) (hn : 0 ≤ n.toInt ∧ n.toInt ≤ 128) : blw w n = (((((((mark w (0 : Int32) n ||| mark w (1 : Int32) n) ||| mark w (2 : Int32) n) ||| mark w (3 : Int32) n) ||| mark w (4 : Int32) n) ||| mark w (5 : Int32) n) ||| mark w (6 : Int32) n) ||| mark w (7 : Int32) n) := by
  obtain ⟨N, hN⟩ : ∃ N : Nat, n.toInt = N := ⟨n.toInt.toNat, by omega⟩
  apply Int64.toBitVec_inj.mp
  apply own_ext
  intro i hi
  rw [own_belowB w n N hN (by omega) i hi]
  simp only [Int64.toBitVec_or, own_or, own_mark0 w n N hN, own_mark1 w n N hN, own_mark2 w n N hN, own_mark3 w n N hN, own_mark4 w n N hN, own_mark5 w n N hN, own_mark6 w n N hN, own_mark7 w n N hN]
  simp only [apply_ite (byt i)]
  rcases (show i = 0 ∨ i = 1 ∨ i = 2 ∨ i = 3 ∨ i = 4 ∨ i = 5 ∨ i = 6 ∨ i = 7 by omega) with rfl | rfl | rfl | rfl | rfl | rfl | rfl | rfl
  · simp only [show byt 0 0#64 = 0#8 from by decide, ite_self, show byt 0 128#64 = 128#8 from by decide, show byt 0 32768#64 = 0#8 from by decide, show byt 0 8388608#64 = 0#8 from by decide, show byt 0 2147483648#64 = 0#8 from by decide, show byt 0 549755813888#64 = 0#8 from by decide, show byt 0 140737488355328#64 = 0#8 from by decide, show byt 0 36028797018963968#64 = 0#8 from by decide, show byt 0 9223372036854775808#64 = 0#8 from by decide]
    simp
  · simp only [show byt 1 0#64 = 0#8 from by decide, ite_self, show byt 1 128#64 = 0#8 from by decide, show byt 1 32768#64 = 128#8 from by decide, show byt 1 8388608#64 = 0#8 from by decide, show byt 1 2147483648#64 = 0#8 from by decide, show byt 1 549755813888#64 = 0#8 from by decide, show byt 1 140737488355328#64 = 0#8 from by decide, show byt 1 36028797018963968#64 = 0#8 from by decide, show byt 1 9223372036854775808#64 = 0#8 from by decide]
    simp
  · simp only [show byt 2 0#64 = 0#8 from by decide, ite_self, show byt 2 128#64 = 0#8 from by decide, show byt 2 32768#64 = 0#8 from by decide, show byt 2 8388608#64 = 128#8 from by decide, show byt 2 2147483648#64 = 0#8 from by decide, show byt 2 549755813888#64 = 0#8 from by decide, show byt 2 140737488355328#64 = 0#8 from by decide, show byt 2 36028797018963968#64 = 0#8 from by decide, show byt 2 9223372036854775808#64 = 0#8 from by decide]
    simp
  · simp only [show byt 3 0#64 = 0#8 from by decide, ite_self, show byt 3 128#64 = 0#8 from by decide, show byt 3 32768#64 = 0#8 from by decide, show byt 3 8388608#64 = 0#8 from by decide, show byt 3 2147483648#64 = 128#8 from by decide, show byt 3 549755813888#64 = 0#8 from by decide, show byt 3 140737488355328#64 = 0#8 from by decide, show byt 3 36028797018963968#64 = 0#8 from by decide, show byt 3 9223372036854775808#64 = 0#8 from by decide]
    simp
  · simp only [show byt 4 0#64 = 0#8 from by decide, ite_self, show byt 4 128#64 = 0#8 from by decide, show byt 4 32768#64 = 0#8 from by decide, show byt 4 8388608#64 = 0#8 from by decide, show byt 4 2147483648#64 = 0#8 from by decide, show byt 4 549755813888#64 = 128#8 from by decide, show byt 4 140737488355328#64 = 0#8 from by decide, show byt 4 36028797018963968#64 = 0#8 from by decide, show byt 4 9223372036854775808#64 = 0#8 from by decide]
    simp
  · simp only [show byt 5 0#64 = 0#8 from by decide, ite_self, show byt 5 128#64 = 0#8 from by decide, show byt 5 32768#64 = 0#8 from by decide, show byt 5 8388608#64 = 0#8 from by decide, show byt 5 2147483648#64 = 0#8 from by decide, show byt 5 549755813888#64 = 0#8 from by decide, show byt 5 140737488355328#64 = 128#8 from by decide, show byt 5 36028797018963968#64 = 0#8 from by decide, show byt 5 9223372036854775808#64 = 0#8 from by decide]
    simp
  · simp only [show byt 6 0#64 = 0#8 from by decide, ite_self, show byt 6 128#64 = 0#8 from by decide, show byt 6 32768#64 = 0#8 from by decide, show byt 6 8388608#64 = 0#8 from by decide, show byt 6 2147483648#64 = 0#8 from by decide, show byt 6 549755813888#64 = 0#8 from by decide, show byt 6 140737488355328#64 = 0#8 from by decide, show byt 6 36028797018963968#64 = 128#8 from by decide, show byt 6 9223372036854775808#64 = 0#8 from by decide]
    simp
  · simp only [show byt 7 0#64 = 0#8 from by decide, ite_self, show byt 7 128#64 = 0#8 from by decide, show byt 7 32768#64 = 0#8 from by decide, show byt 7 8388608#64 = 0#8 from by decide, show byt 7 2147483648#64 = 0#8 from by decide, show byt 7 549755813888#64 = 0#8 from by decide, show byt 7 140737488355328#64 = 0#8 from by decide, show byt 7 36028797018963968#64 = 0#8 from by decide, show byt 7 9223372036854775808#64 = 128#8 from by decide]
    simp
theorem own_bnd (x : Int32) : 0 ≤ ((x &&& (2147483647 : Int32)) % (129 : Int32)).toInt ∧ ((x &&& (2147483647 : Int32)) % (129 : Int32)).toInt ≤ 128 := by
  have e : (x &&& (2147483647 : Int32)).toInt = x.toInt % (2 ^ 31 : Nat) := c_mask x 2147483647 31 (by decide) (by decide)
  have e2 := (c_irem (x &&& (2147483647 : Int32)) (129 : Int32) 129 (by decide)).1 (by omega)
  omega
theorem ef0 (m_ : MethodId) (x0 : Int64) (x1 : Int32)  : entryFrame m_ #[(.long x0), (.int x1)] maxLocals = mkF m_ 0 #[.val (.long x0), .second, .val (.int x1), .unset, .unset, .unset] [] := by first | (simp [entryFrame, mkF, argsToLocals, Value.category, maxLocals]; done) | rfl
theorem pd_0 : parseMethodDescriptor "(JII)J" = some ⟨[.long, .int, .int], some .long⟩ := by decide +kernel
theorem pd_1 : parseMethodDescriptor "(JI)J" = some ⟨[.long, .int], some .long⟩ := by decide +kernel
set_option maxRecDepth 65536 in
set_option maxHeartbeats 40000000 in
theorem rm0 (l : Launch) (Z : State) (a0 : Array Value) (hw : ∀ d ∈ tables_1, d.before a0 Z = true) (ws : List Jvm.Cond) (x0 : Int64) (x1 : Int32) (h0 : Heap)  : Co l x code maxLocals ret ws room_1 Z h0 #[(.long x0), (.int x1)] (fun v h L => v = some (.int 1) ∧ Fr h0.size L) := by
  refine Co.of (plainFor_of_name pn_0) ?_
  intro p_ e_ s_ m_ below meth c_ T0 X0 hx hby hml hown hnm hret hlk hZ eq0
  have N0 := Fr.nil h0.size
  refine Go.cast (ef0 m_ x0 x1) ?_
  refine g_iloadN X0 hx rfl (hb hby at_0) 1 rfl ?_
  refine g_ldc X0 hx hZ hown (wd hw 0 rfl) (hb hby at_1) 3 rfl ?_
  refine g_iand X0 hx (hb hby at_3) 4 rfl ?_
  refine g_sipush X0 hx (129 : Int32) rfl (hb hby at_4) 7 rfl ?_
  refine g_irem X0 hx (by decide) (hb hby at_7) 8 rfl ?_
  generalize hv101 : ((x1 &&& (2147483647 : Int32)) % (129 : Int32)) = v101
  refine g_istoreN X0 hx #[.val (.long x0), .second, .val (.int x1), .val (.int v101), .unset, .unset] rfl (hb hby at_8) 9 rfl ?_
  refine g_lloadN X0 hx rfl (hb hby at_9) 10 rfl ?_
  refine g_iconst X0 hx (0 : Int32) rfl (hb hby at_10) 11 rfl ?_
  refine g_iloadN X0 hx rfl (hb hby at_11) 12 rfl ?_
  refine g_callS X0 hx hZ hown (wd hw 1 rfl) (wd hw 2 rfl) (wd hw 3 rfl) (wd hw 4 rfl) (by decide) eq0 [(.long x0), (.int (0 : Int32)), (.int v101)] []  rfl (co1 l Z a0 hw x0 (0 : Int32) v101  h0 ) (lenOf pd_0 rfl) 0 (Nat.le_of_eq rfl) (by decide) (by decide) (by decide) (by decide) (by rw [hml]; rfl) (hb hby at_12) 15 rfl (pu_cont fun T103 X102 e104 => ?_)
  show Go p_ e_ below _ T103 (mkF m_ 15 #[.val (.long x0), .second, .val (.int x1), .val (.int v101), .unset, .unset] [(.long (mark x0 (0 : Int32) v101))])
  refine g_lloadN X102 hx rfl (hb hby at_15) 16 rfl ?_
  refine g_iconst X102 hx (1 : Int32) rfl (hb hby at_16) 17 rfl ?_
  refine g_iloadN X102 hx rfl (hb hby at_17) 18 rfl ?_
  refine g_callS X102 hx hZ hown (wd hw 1 rfl) (wd hw 2 rfl) (wd hw 3 rfl) (wd hw 4 rfl) (by decide) e104 [(.long x0), (.int (1 : Int32)), (.int v101)] [(.long (mark x0 (0 : Int32) v101))]  rfl (co1 l Z a0 hw x0 (1 : Int32) v101  h0 ) (lenOf pd_0 rfl) 2 (Nat.le_of_eq rfl) (by decide) (by decide) (by decide) (by decide) (by rw [hml]; rfl) (hb hby at_18) 21 rfl (pu_cont fun T106 X105 e107 => ?_)
  show Go p_ e_ below _ T106 (mkF m_ 21 #[.val (.long x0), .second, .val (.int x1), .val (.int v101), .unset, .unset] [(.long (mark x0 (1 : Int32) v101)), (.long (mark x0 (0 : Int32) v101))])
  refine g_lor X105 hx (hb hby at_21) 22 rfl ?_
  refine g_lloadN X105 hx rfl (hb hby at_22) 23 rfl ?_
  refine g_iconst X105 hx (2 : Int32) rfl (hb hby at_23) 24 rfl ?_
  refine g_iloadN X105 hx rfl (hb hby at_24) 25 rfl ?_
  refine g_callS X105 hx hZ hown (wd hw 1 rfl) (wd hw 2 rfl) (wd hw 3 rfl) (wd hw 4 rfl) (by decide) e107 [(.long x0), (.int (2 : Int32)), (.int v101)] [(.long ((mark x0 (0 : Int32) v101) ||| (mark x0 (1 : Int32) v101)))]  rfl (co1 l Z a0 hw x0 (2 : Int32) v101  h0 ) (lenOf pd_0 rfl) 2 (Nat.le_of_eq rfl) (by decide) (by decide) (by decide) (by decide) (by rw [hml]; rfl) (hb hby at_25) 28 rfl (pu_cont fun T109 X108 e110 => ?_)
  show Go p_ e_ below _ T109 (mkF m_ 28 #[.val (.long x0), .second, .val (.int x1), .val (.int v101), .unset, .unset] [(.long (mark x0 (2 : Int32) v101)), (.long ((mark x0 (0 : Int32) v101) ||| (mark x0 (1 : Int32) v101)))])
  refine g_lor X108 hx (hb hby at_28) 29 rfl ?_
  refine g_lloadN X108 hx rfl (hb hby at_29) 30 rfl ?_
  refine g_iconst X108 hx (3 : Int32) rfl (hb hby at_30) 31 rfl ?_
  refine g_iloadN X108 hx rfl (hb hby at_31) 32 rfl ?_
  refine g_callS X108 hx hZ hown (wd hw 1 rfl) (wd hw 2 rfl) (wd hw 3 rfl) (wd hw 4 rfl) (by decide) e110 [(.long x0), (.int (3 : Int32)), (.int v101)] [(.long (((mark x0 (0 : Int32) v101) ||| (mark x0 (1 : Int32) v101)) ||| (mark x0 (2 : Int32) v101)))]  rfl (co1 l Z a0 hw x0 (3 : Int32) v101  h0 ) (lenOf pd_0 rfl) 2 (Nat.le_of_eq rfl) (by decide) (by decide) (by decide) (by decide) (by rw [hml]; rfl) (hb hby at_32) 35 rfl (pu_cont fun T112 X111 e113 => ?_)
  show Go p_ e_ below _ T112 (mkF m_ 35 #[.val (.long x0), .second, .val (.int x1), .val (.int v101), .unset, .unset] [(.long (mark x0 (3 : Int32) v101)), (.long (((mark x0 (0 : Int32) v101) ||| (mark x0 (1 : Int32) v101)) ||| (mark x0 (2 : Int32) v101)))])
  refine g_lor X111 hx (hb hby at_35) 36 rfl ?_
  refine g_lloadN X111 hx rfl (hb hby at_36) 37 rfl ?_
  refine g_iconst X111 hx (4 : Int32) rfl (hb hby at_37) 38 rfl ?_
  refine g_iloadN X111 hx rfl (hb hby at_38) 39 rfl ?_
  refine g_callS X111 hx hZ hown (wd hw 1 rfl) (wd hw 2 rfl) (wd hw 3 rfl) (wd hw 4 rfl) (by decide) e113 [(.long x0), (.int (4 : Int32)), (.int v101)] [(.long ((((mark x0 (0 : Int32) v101) ||| (mark x0 (1 : Int32) v101)) ||| (mark x0 (2 : Int32) v101)) ||| (mark x0 (3 : Int32) v101)))]  rfl (co1 l Z a0 hw x0 (4 : Int32) v101  h0 ) (lenOf pd_0 rfl) 2 (Nat.le_of_eq rfl) (by decide) (by decide) (by decide) (by decide) (by rw [hml]; rfl) (hb hby at_39) 42 rfl (pu_cont fun T115 X114 e116 => ?_)
  show Go p_ e_ below _ T115 (mkF m_ 42 #[.val (.long x0), .second, .val (.int x1), .val (.int v101), .unset, .unset] [(.long (mark x0 (4 : Int32) v101)), (.long ((((mark x0 (0 : Int32) v101) ||| (mark x0 (1 : Int32) v101)) ||| (mark x0 (2 : Int32) v101)) ||| (mark x0 (3 : Int32) v101)))])
  refine g_lor X114 hx (hb hby at_42) 43 rfl ?_
  refine g_lloadN X114 hx rfl (hb hby at_43) 44 rfl ?_
  refine g_iconst X114 hx (5 : Int32) rfl (hb hby at_44) 45 rfl ?_
  refine g_iloadN X114 hx rfl (hb hby at_45) 46 rfl ?_
  refine g_callS X114 hx hZ hown (wd hw 1 rfl) (wd hw 2 rfl) (wd hw 3 rfl) (wd hw 4 rfl) (by decide) e116 [(.long x0), (.int (5 : Int32)), (.int v101)] [(.long (((((mark x0 (0 : Int32) v101) ||| (mark x0 (1 : Int32) v101)) ||| (mark x0 (2 : Int32) v101)) ||| (mark x0 (3 : Int32) v101)) ||| (mark x0 (4 : Int32) v101)))]  rfl (co1 l Z a0 hw x0 (5 : Int32) v101  h0 ) (lenOf pd_0 rfl) 2 (Nat.le_of_eq rfl) (by decide) (by decide) (by decide) (by decide) (by rw [hml]; rfl) (hb hby at_46) 49 rfl (pu_cont fun T118 X117 e119 => ?_)
  show Go p_ e_ below _ T118 (mkF m_ 49 #[.val (.long x0), .second, .val (.int x1), .val (.int v101), .unset, .unset] [(.long (mark x0 (5 : Int32) v101)), (.long (((((mark x0 (0 : Int32) v101) ||| (mark x0 (1 : Int32) v101)) ||| (mark x0 (2 : Int32) v101)) ||| (mark x0 (3 : Int32) v101)) ||| (mark x0 (4 : Int32) v101)))])
  refine g_lor X117 hx (hb hby at_49) 50 rfl ?_
  refine g_lloadN X117 hx rfl (hb hby at_50) 51 rfl ?_
  refine g_bipush X117 hx (6 : Int32) rfl (hb hby at_51) 53 rfl ?_
  refine g_iloadN X117 hx rfl (hb hby at_53) 54 rfl ?_
  refine g_callS X117 hx hZ hown (wd hw 1 rfl) (wd hw 2 rfl) (wd hw 3 rfl) (wd hw 4 rfl) (by decide) e119 [(.long x0), (.int (6 : Int32)), (.int v101)] [(.long ((((((mark x0 (0 : Int32) v101) ||| (mark x0 (1 : Int32) v101)) ||| (mark x0 (2 : Int32) v101)) ||| (mark x0 (3 : Int32) v101)) ||| (mark x0 (4 : Int32) v101)) ||| (mark x0 (5 : Int32) v101)))]  rfl (co1 l Z a0 hw x0 (6 : Int32) v101  h0 ) (lenOf pd_0 rfl) 2 (Nat.le_of_eq rfl) (by decide) (by decide) (by decide) (by decide) (by rw [hml]; rfl) (hb hby at_54) 57 rfl (pu_cont fun T121 X120 e122 => ?_)
  show Go p_ e_ below _ T121 (mkF m_ 57 #[.val (.long x0), .second, .val (.int x1), .val (.int v101), .unset, .unset] [(.long (mark x0 (6 : Int32) v101)), (.long ((((((mark x0 (0 : Int32) v101) ||| (mark x0 (1 : Int32) v101)) ||| (mark x0 (2 : Int32) v101)) ||| (mark x0 (3 : Int32) v101)) ||| (mark x0 (4 : Int32) v101)) ||| (mark x0 (5 : Int32) v101)))])
  refine g_lor X120 hx (hb hby at_57) 58 rfl ?_
  refine g_lloadN X120 hx rfl (hb hby at_58) 59 rfl ?_
  refine g_bipush X120 hx (7 : Int32) rfl (hb hby at_59) 61 rfl ?_
  refine g_iloadN X120 hx rfl (hb hby at_61) 62 rfl ?_
  refine g_callS X120 hx hZ hown (wd hw 1 rfl) (wd hw 2 rfl) (wd hw 3 rfl) (wd hw 4 rfl) (by decide) e122 [(.long x0), (.int (7 : Int32)), (.int v101)] [(.long (((((((mark x0 (0 : Int32) v101) ||| (mark x0 (1 : Int32) v101)) ||| (mark x0 (2 : Int32) v101)) ||| (mark x0 (3 : Int32) v101)) ||| (mark x0 (4 : Int32) v101)) ||| (mark x0 (5 : Int32) v101)) ||| (mark x0 (6 : Int32) v101)))]  rfl (co1 l Z a0 hw x0 (7 : Int32) v101  h0 ) (lenOf pd_0 rfl) 2 (Nat.le_of_eq rfl) (by decide) (by decide) (by decide) (by decide) (by rw [hml]; rfl) (hb hby at_62) 65 rfl (pu_cont fun T124 X123 e125 => ?_)
  show Go p_ e_ below _ T124 (mkF m_ 65 #[.val (.long x0), .second, .val (.int x1), .val (.int v101), .unset, .unset] [(.long (mark x0 (7 : Int32) v101)), (.long (((((((mark x0 (0 : Int32) v101) ||| (mark x0 (1 : Int32) v101)) ||| (mark x0 (2 : Int32) v101)) ||| (mark x0 (3 : Int32) v101)) ||| (mark x0 (4 : Int32) v101)) ||| (mark x0 (5 : Int32) v101)) ||| (mark x0 (6 : Int32) v101)))])
  refine g_lor X123 hx (hb hby at_65) 66 rfl ?_
  generalize hv126 : ((((((((mark x0 (0 : Int32) v101) ||| (mark x0 (1 : Int32) v101)) ||| (mark x0 (2 : Int32) v101)) ||| (mark x0 (3 : Int32) v101)) ||| (mark x0 (4 : Int32) v101)) ||| (mark x0 (5 : Int32) v101)) ||| (mark x0 (6 : Int32) v101)) ||| (mark x0 (7 : Int32) v101)) = v126
  refine g_lstore X123 hx #[.val (.long x0), .second, .val (.int x1), .val (.int v101), .val (.long v126), .second] rfl (hb hby at_66) 68 rfl ?_
  refine g_lloadN X123 hx rfl (hb hby at_68) 69 rfl ?_
  refine g_iloadN X123 hx rfl (hb hby at_69) 70 rfl ?_
  refine g_callS X123 hx hZ hown (wd hw 7 rfl) (wd hw 8 rfl) (wd hw 9 rfl) (wd hw 10 rfl) (by decide) e125 [(.long x0), (.int v101)] []  rfl (co2 l Z a0 hw x0 v101  h0 ) (lenOf pd_1 rfl) 0 (Nat.le_of_eq rfl) (by decide) (by decide) (by decide) (by decide) (by rw [hml]; rfl) (hb hby at_70) 73 rfl (pu_cont fun T128 X127 e129 => ?_)
  show Go p_ e_ below _ T128 (mkF m_ 73 #[.val (.long x0), .second, .val (.int x1), .val (.int v101), .val (.long v126), .second] [(.long (blw x0 v101))])
  refine g_lload X127 hx rfl (hb hby at_73) 75 rfl ?_
  refine g_lif_ne X127 hx (hb hby at_75) 76 rfl (hb hby at_76) 83 79 (by decide) rfl rfl (fun q75 => ?_) (fun q75 => ?_)
  · exact absurd (by rw [← hv126]; exact own_fin _ _ (by rw [← hv101]; exact own_bnd _)) q75
  · refine g_iconst X127 hx (1 : Int32) rfl (hb hby at_79) 80 rfl ?_
    refine g_goto X127 hx (hb hby at_80) 84 (by decide) rfl ?_
    exact g_retz X127 hx hret hlk (by decide) (by decide) (hb hby at_84) ⟨rfl, N0⟩
set_option maxRecDepth 65536 in
set_option maxHeartbeats 40000000 in
theorem comes_1 {Post : Tables → Env → Array Value → State → Outcome → State → Prop} (hpost : ∀ tb e args s v u, (limb_1_1.after args s (.returned v) u = true ∧ limb_1_2.after args s (.returned v) u = true ∧ True) → FrameEnd s (.returned v) u (Jvm.fieldLocs frame_1_writes args s ++ Jvm.arrayLocs frame_1_arrays args s ++ Jvm.staticLocs frame_1_statics s) 0 0 → Post tb e args s (.returned v) u) :
    ArmFor flags0 classFile x code maxLocals ret World_1 tables_1 room_1 Calls_1 rest_1 Pre_1 Post := by
  intro l hfl _ _ p e ha hc hk s m args below hf hA hF happ hP
  obtain ⟨hcalls, hrest, hpre⟩ := hP
  obtain ⟨-, -, -, hnamed, -, -, -, hat⟩ := (Spec.applies_iff hf).mp happ
  obtain ⟨hg, hn⟩ := and_e (Cond.before_iff.mp (show (Jvm.Cond.and given_1 narrow_1).before args s = true from hpre))
  obtain ⟨h1, g0⟩ := and_e hg
  obtain ⟨w0, w1, rfl⟩ : ∃ w0 w1 : Value, args = #[w0, w1] := by
    have hs : args.size = 2 := by simpa [Cond.value, given_1] using h1
    obtain ⟨L⟩ := args
    match L, hs with
    | [w0, w1], _ => exact ⟨w0, w1, rfl⟩
  have hw := fun d (hd : d ∈ tables_1) => atoms_spec (ws := Jvm.Cond.code x code maxLocals ret :: tables_1) hat d (List.mem_cons_of_mem _ hd)
  have hfit : Fit s := fun {y c} hc i hi => by
    obtain ⟨ha, rfl⟩ := Array.getElem?_eq_some_iff.mp hc
    have q := List.all_eq_true.mp ((Array.all_eq_true_iff_forall_mem.mp hF) _ (Array.getElem_mem ha)) i (List.mem_range.mpr hi)
    simpa [Array.getElem?_eq_getElem hi] using q
  obtain ⟨hk_0, hg_1⟩ := and_e g0
  obtain ⟨x0, r0⟩ := isL_v hk_0
  obtain rfl : w0 = (.long x0) := Option.some.inj r0
  obtain ⟨x1, r1⟩ := is_v hg_1
  obtain rfl : w1 = (.int x1) := Option.some.inj r1
  obtain ⟨n, o, h1, h2, h3, _, L, rfl, ⟨rfl, N⟩, hq⟩ := rm0 l s _ hw tables_1 x0 x1 s.heap  p e ha hc hk s m _ below hf ((Spec.applies_iff_loose hf).mp happ).1 ⟨rfl, State.Warmed39.refl s, rfl⟩ trivial
  refine ⟨n, _, h1, h2, h3, hpost _ _ _ _ _ _ ⟨Cond.after_iff.mpr rfl, Cond.after_iff.mpr (eq_i res_at (Term.int_eval (1)) rfl), trivial⟩ ⟨hq.1, hq.2.1, (hq.2.2.sift fun y hy => Or.inr (N y hy)).mono (by decide) (by decide)⟩⟩
theorem main_1_1 : Claimed_1_1 := comes_1 fun _ _ _ _ _ _ h hF => ⟨h.1, hF⟩
theorem main_1_2 : Claimed_1_2 := comes_1 fun _ _ _ _ _ _ h hF => ⟨h.2.1, hF⟩
end Jvm.Pilot.@@N@@
namespace Jvm.Pilot.@@N@@
open Jvm Jvm.ClassFile Sem Op Lib Jvm.Free Jvm.Stand Jvm.Pilot.@@N@@.Jvm.D
/-! MADE BY PROGRAM (witnessworld.py) out of the Statement's table words and the real class files: 9 classes; the members and pool entries that the words name. The judged class is class 1, her method 1. -/
namespace start1
open Jvm.ClassFile
def u (s : String) : CpInfo := .utf8 (stringToUtf16 s)
/-- a pool by its gaps: so many unusable entries, then the entry; so many at the end -/
def gap : Nat → List CpInfo → List CpInfo
  | 0, r => r
  | n + 1, r => .unusable :: gap n r
def poolList (es : List (Nat × CpInfo)) (last : Nat) : List CpInfo := es.foldr (fun e r => gap e.1 (e.2 :: r)) (gap last [])
def pool (es : List (Nat × CpInfo)) (last : Nat) : Array CpInfo := ⟨poolList es last⟩
def fileOf (pool : Array CpInfo) (this : Nat) (attrs : Array Attribute := #[]) (ms : Array MethodInfo := #[]) (fl : Nat := 33) (sup : Nat := 0) (ifs : Array Nat := #[]) (fds : Array FieldInfo := #[]) : ClassFile where
  minorVersion := 0
  majorVersion := 65
  constantPool := pool
  accessFlags := fl
  thisClass := this
  superClass := sup
  interfaces := ifs
  fields := fds
  methods := ms
  attributes := attrs
def plain (name : String) (sup : Option ClassId) : Class where
  name := name
  kind := .ordinary
  loader := none
  accessFlags := 33
  super := sup
  interfaces := #[]
  cf := none
  fields := #[]
  methods := #[]
  instanceTypes := #[]
  staticTypes := #[]
  resolved := #[]
  callSites := []
  init := .initialized
  statics := none
  mirror := none

def pool0 : Array CpInfo := pool [(5, u "<init>"), (0, u "()V"), (1, .class_ 10), (1, u "java/lang/Object")] 113

def k0m0 : Method := { name := "<init>", desc := "()V", sig := { parameters := [], returnType := none }, accessFlags := 1, code := none }
/-- java/lang/Object -/
def k0 : Class := { plain "java/lang/Object" none with
  accessFlags := 33
  interfaces := #[]
  cf := some (fileOf pool0 8 #[] #[{ accessFlags := 1, nameIndex := 5, descriptorIndex := 6, attributes := #[] }] 33 0 #[] #[])
  fields := #[]
  methods := #[k0m0]
  instanceTypes := #[]
  staticTypes := #[]
  resolved := Array.replicate 124 none
  statics := none }

def pool1 : Array CpInfo := pool [(2, .class_ 4), (1, u "java/lang/Object"), (0, u "<init>"), (0, u "()V"), (0, .integer 2147483647), (0, .methodref 9 10), (0, .class_ 11), (0, .nameAndType 12 13), (0, u "com/example/weigh/weigh/io/ByteWordsBelowPinLaw"), (0, u "mark"), (0, u "(JII)J"), (0, .methodref 15 16), (0, .class_ 17), (0, .nameAndType 18 19), (0, u "com/example/weigh/weigh/io/ByteWords"), (0, u "below"), (0, u "(JI)J"), (0, .long 255), (1, .long 128), (3, u "law"), (0, u "(JI)Z")] 3

def k1m0 : Method := { name := "<init>", desc := "()V", sig := { parameters := [], returnType := none }, accessFlags := 2, code := none }
def k1c1 : Code := { maxStack := 6, maxLocals := 6, code := code, exceptionTable := #[], attributes := #[] }
def k1m1 : Method := { name := "law", desc := "(JI)Z", sig := { parameters := [.long, .int], returnType := some .boolean }, accessFlags := 9, code := some k1c1 }
def k1c2 : Code := { maxStack := 4, maxLocals := 5, code := method_3_code, exceptionTable := #[], attributes := #[] }
def k1m2 : Method := { name := "mark", desc := "(JII)J", sig := { parameters := [.long, .int, .int], returnType := some .long }, accessFlags := 10, code := some k1c2 }
/-- com/example/weigh/weigh/io/ByteWordsBelowPinLaw -/
def k1 : Class := { plain "com/example/weigh/weigh/io/ByteWordsBelowPinLaw" (some 0) with
  accessFlags := 49
  interfaces := #[]
  cf := some (fileOf pool1 9 #[] #[{ accessFlags := 2, nameIndex := 5, descriptorIndex := 6, attributes := #[] }, { accessFlags := 9, nameIndex := 26, descriptorIndex := 27, attributes := #[] }, { accessFlags := 10, nameIndex := 12, descriptorIndex := 13, attributes := #[] }] 49 2 #[] #[])
  fields := #[]
  methods := #[k1m0, k1m1, k1m2]
  instanceTypes := #[]
  staticTypes := #[]
  resolved := Array.replicate 31 none
  statics := none }

def pool2 : Array CpInfo := pool [(4, .class_ 6), (1, u "java/lang/Object"), (0, u "<init>"), (0, u "()V"), (1, .class_ 12), (1, u "com/example/weigh/weigh/io/ByteWords"), (0, u "WORDS"), (0, u "Ljava/lang/invoke/VarHandle;"), (8, .long 72340172838076673), (1, .long 9187201950435737471), (1, .long 18446744073709551615), (1, .long 9259542123273814144), (19, u "SIZE"), (0, u "I"), (2, u "HIGH_BITS"), (0, u "J"), (0, u "LOW_BITS"), (0, u "ONES"), (7, u "below"), (0, u "(JI)J")] 5

def k2m0 : Method := { name := "<init>", desc := "()V", sig := { parameters := [], returnType := none }, accessFlags := 2, code := none }
def k2c1 : Code := { maxStack := 6, maxLocals := 3, code := prog_63_method_5_code, exceptionTable := #[], attributes := #[] }
def k2m1 : Method := { name := "below", desc := "(JI)J", sig := { parameters := [.long, .int], returnType := some .long }, accessFlags := 8, code := some k2c1 }
/-- com/example/weigh/weigh/io/ByteWords -/
def k2 : Class := { plain "com/example/weigh/weigh/io/ByteWords" (some 0) with
  accessFlags := 48
  interfaces := #[]
  cf := some (fileOf pool2 10 #[] #[{ accessFlags := 2, nameIndex := 7, descriptorIndex := 8, attributes := #[] }, { accessFlags := 8, nameIndex := 64, descriptorIndex := 65, attributes := #[] }] 48 4 #[] #[{ accessFlags := 24, nameIndex := 49, descriptorIndex := 50, attributes := #[] }, { accessFlags := 24, nameIndex := 53, descriptorIndex := 54, attributes := #[] }, { accessFlags := 26, nameIndex := 13, descriptorIndex := 14, attributes := #[] }, { accessFlags := 26, nameIndex := 55, descriptorIndex := 54, attributes := #[] }, { accessFlags := 26, nameIndex := 56, descriptorIndex := 54, attributes := #[] }])
  fields := #[{ name := "SIZE", type := .int, accessFlags := 24, slot := 0, constantValue := 0 }, { name := "HIGH_BITS", type := .long, accessFlags := 24, slot := 1, constantValue := 0 }, { name := "WORDS", type := (.object "java/lang/invoke/VarHandle"), accessFlags := 26, slot := 2, constantValue := 0 }, { name := "LOW_BITS", type := .long, accessFlags := 26, slot := 3, constantValue := 0 }, { name := "ONES", type := .long, accessFlags := 26, slot := 4, constantValue := 0 }]
  methods := #[k2m0, k2m1]
  instanceTypes := #[]
  staticTypes := #[.int, .long, (.object "java/lang/invoke/VarHandle"), .long, .long]
  resolved := Array.replicate 71 none
  statics := none }

def pool3 : Array CpInfo := pool [(1, u "java/lang/Cloneable"), (0, .class_ 1), (0, u "java/lang/Object"), (0, .class_ 3)] 3

/-- java/lang/Cloneable -/
def k3 : Class := { plain "java/lang/Cloneable" (some 0) with
  accessFlags := 1537
  interfaces := #[]
  cf := some (fileOf pool3 2 #[] #[] 1537 4 #[] #[])
  fields := #[]
  methods := #[]
  instanceTypes := #[]
  staticTypes := #[]
  resolved := Array.replicate 8 none
  statics := none }

def pool4 : Array CpInfo := pool [(1, u "java/io/Serializable"), (0, .class_ 1), (0, u "java/lang/Object"), (0, .class_ 3)] 3

/-- java/io/Serializable -/
def k4 : Class := { plain "java/io/Serializable" (some 0) with
  accessFlags := 1537
  interfaces := #[]
  cf := some (fileOf pool4 2 #[] #[] 1537 4 #[] #[])
  fields := #[]
  methods := #[]
  instanceTypes := #[]
  staticTypes := #[]
  resolved := Array.replicate 8 none
  statics := none }

/-- the primitive byte -/
def k5 : Class := { plain "byte" none with kind := .primitive 'B', accessFlags := 0x411 }
/-- [B -/
def k6 : Class := { plain "[B" (some 0) with kind := .array 5 .byte, interfaces := #[3, 4], accessFlags := 1041 }

/-- the primitive int -/
def k7 : Class := { plain "int" none with kind := .primitive 'I', accessFlags := 0x411 }
/-- [I -/
def k8 : Class := { plain "[I" (some 0) with kind := .array 7 .int, interfaces := #[3, 4], accessFlags := 1041 }

def heap : Heap := #[]
def classes : Array Class := #[k0, k1, k2, k3, k4, k5, k6, k7, k8]
def interned : List (Array UInt16 × Addr) := []
def slotsUsed : Nat := 0
def theMethod : MethodId := ⟨1, 1⟩
def args0 : Array Value := #[.long 5, .int 7]
def aboutOver (below : List Frame) : State where
  vm := { classes := classes, interned := interned.toArray }
  heap := heap
  slotsUsed := slotsUsed
  threads := #[{ frames := .invoking theMethod args0 :: below }]
def below0 : List Frame := [.native { method := ⟨0, 0⟩, args := #[] }]
def about1 : State := aboutOver below0
def p0 : Program := .bare "" "" ""
def e0 : Env := launch0.env 0 0 0
theorem w_frames : about1.frames = Frame.invoking theMethod args0 :: below0 := rfl
set_option maxRecDepth 65536 in
theorem w_args : argsFit about1.vm theMethod args0 = true := by decide +kernel
set_option maxRecDepth 65536 in
theorem w_heap : heapFits about1 = true := by decide +kernel
set_option maxRecDepth 65536 in
theorem w_runnable : about1.curStatus? = some .runnable := by decide +kernel
set_option maxRecDepth 65536 in
theorem w_alone : about1.alone = true := by decide +kernel
set_option maxRecDepth 65536 in
theorem w_named : about1.methodNamed? x = some theMethod := by decide +kernel
set_option maxRecDepth 65536 in
theorem w_hears : about1.hears theMethod below0 = true := by decide +kernel
set_option maxRecDepth 65536 in
theorem w_ripe : about1.ripe theMethod args0 below0 = true := by decide +kernel
theorem w_running : about1.status = .running := rfl
set_option maxRecDepth 65536 in
theorem w_room : about1.hasRoom e0.platform room_1 = true :=
  launch0.hasRoom_least _ room_1 (by decide +kernel) (by decide +kernel) (by decide +kernel) (by decide +kernel) (by decide +kernel) (by decide +kernel)
theorem allAtoms_all (ts : List Jvm.Cond) (a : Array Jvm.Value) (st : Jvm.State) : (allAtoms ts).before a st = ts.all (fun c => c.before a st) := by
  induction ts with
  | nil => rfl
  | cons c t ih =>
    show (Jvm.Cond.and c (allAtoms t)).before a st = _
    rw [Jvm.Cond.before_and, ih, List.all_cons]
def words1 : List Jvm.Cond := Jvm.Cond.code x code maxLocals ret :: tables_1
/-- a 'code' word, met by the world's own term for the bytes: nothing is compared byte by byte -/
theorem code_word {y : MethodName} {bytes : ByteArray} {mx : Nat} {rt : Option FieldType} {a : Array Value} {s : State} {m : MethodId} {meth : Method} {c : Code} (h1 : s.methodNamed? y = some m) (h2 : s.vm.method? m = some meth) (h3 : meth.code = some c) (h4 : c.code = bytes)
    (h5 : (c.maxLocals == mx && c.exceptionTable.isEmpty && decide (c.maxStack ≤ mostOperands) && decide (meth.sig.returnType = rt) && !meth.locks && decide (parseMethodDescriptor y.desc = some meth.sig)) = true) : (Jvm.Cond.code y bytes mx rt).before a s = true := by
  simp only [Bool.and_eq_true, beq_iff_eq, Bool.not_eq_true', decide_eq_true_eq] at h5
  obtain ⟨⟨⟨⟨⟨g1, g2⟩, g3⟩, g4⟩, g5⟩, g6⟩ := h5
  simp [Cond.before, Cond.holds, Cond.value, h1, h2, h3, h4, g1, g2, g3, g4, g5, g6]
def isCode : Jvm.Cond → Bool
  | .code _ _ _ _ => true
  | _ => false
theorem all_split {L : List Jvm.Cond} {P : Jvm.Cond → Bool} (h1 : L.all (fun c => isCode c || P c) = true) (h2 : ∀ c ∈ L.filter isCode, P c = true) : L.all P = true := by
  refine List.all_eq_true.mpr fun c hc => ?_
  have h := List.all_eq_true.mp h1 c hc
  rcases Bool.eq_false_or_eq_true (isCode c) with hi | hi
  · exact h2 c (List.mem_filter.mpr ⟨hc, hi⟩)
  · simpa [hi] using h
set_option maxRecDepth 65536 in
theorem w_c0 : (Jvm.Cond.code x code maxLocals ret).before args0 about1 = true := code_word (m := ⟨1, 1⟩) (meth := k1m1) (c := k1c1) (by decide +kernel) rfl rfl rfl (by decide +kernel)
set_option maxRecDepth 65536 in
theorem w_c1 : (Jvm.Cond.code ({ cls := "com/example/weigh/weigh/io/ByteWordsBelowPinLaw", name := "mark", desc := "(JII)J" } : Jvm.MethodName) method_3_code (5 : Nat) (Option.some Jvm.ClassFile.FieldType.long)).before args0 about1 = true := code_word (m := ⟨1, 2⟩) (meth := k1m2) (c := k1c2) (by decide +kernel) rfl rfl rfl (by decide +kernel)
set_option maxRecDepth 65536 in
theorem w_c2 : (Jvm.Cond.code ({ cls := "com/example/weigh/weigh/io/ByteWords", name := "below", desc := "(JI)J" } : Jvm.MethodName) prog_63_method_5_code (3 : Nat) (Option.some Jvm.ClassFile.FieldType.long)).before args0 about1 = true := code_word (m := ⟨2, 1⟩) (meth := k2m1) (c := k2c1) (by decide +kernel) rfl rfl rfl (by decide +kernel)
def codes1 : List Jvm.Cond := [Jvm.Cond.code x code maxLocals ret, Jvm.Cond.code ({ cls := "com/example/weigh/weigh/io/ByteWordsBelowPinLaw", name := "mark", desc := "(JII)J" } : Jvm.MethodName) method_3_code (5 : Nat) (Option.some Jvm.ClassFile.FieldType.long), Jvm.Cond.code ({ cls := "com/example/weigh/weigh/io/ByteWords", name := "below", desc := "(JI)J" } : Jvm.MethodName) prog_63_method_5_code (3 : Nat) (Option.some Jvm.ClassFile.FieldType.long)]
set_option maxRecDepth 65536 in
theorem codes_eq : words1.filter isCode = codes1 := rfl
theorem w_codes : ∀ c ∈ words1.filter isCode, c.before args0 about1 = true := by
  rw [codes_eq]
  intro c hc
  simp only [codes1, List.mem_cons, List.not_mem_nil, or_false] at hc
  rcases hc with rfl | rfl | rfl
  · exact w_c0
  · exact w_c1
  · exact w_c2
set_option maxRecDepth 65536 in
theorem w_t1 : words1.all (fun c => isCode c || c.before args0 about1) = true := by decide +kernel
theorem w_tables : (allAtoms (Jvm.Cond.code x code maxLocals ret :: tables_1)).before args0 about1 = true := by
  rw [allAtoms_all]
  show words1.all (fun c => c.before args0 about1) = true
  refine all_split ?_ w_codes
  rw [w_t1]
set_option maxRecDepth 65536 in
theorem w_case : (Jvm.Cond.and given_1 narrow_1).before args0 about1 = true := by decide +kernel
theorem w_applies : (headSpec (Jvm.Cond.code x code maxLocals ret :: tables_1) room_1).applies x e0.platform about1 = true :=
  (Spec.applies_iff w_frames).mpr ⟨w_running, w_runnable, w_alone, w_named, w_hears, w_ripe, w_room, w_tables⟩
theorem atStart : AtStart classFile x code maxLocals ret World_1 tables_1 room_1 Calls_1 rest_1 Pre_1 launch0 p0 e0 about1 theMethod args0 below0 :=
  ⟨lists_1, trivial, launch0.admits_env _ _ _, launch0.least_env, fairChoices_fair.cas, fairChoices_fair.clock, w_frames, w_args, w_heap, w_applies, trivial, trivial, w_case⟩
end start1
theorem witness_1 : WitnessClaimed_1 := ⟨start1.p0, start1.e0, start1.about1, start1.theMethod, start1.args0, start1.below0, start1.atStart⟩
end Jvm.Pilot.@@N@@
