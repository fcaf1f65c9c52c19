import JvmDerived
import JvmDerived.Pilot.@@N@@Statement
import JvmDerived.Pilot.@@N@@Code
set_option linter.unusedVariables false
set_option linter.unusedSimpArgs false
namespace Jvm.Pilot.@@N@@
open Jvm Jvm.ClassFile Sem Op Lib Jvm.Free Jvm.Stand Jvm.LawKit Jvm.RoadKit Bundle Jvm.Pilot.@@N@@.Jvm.D
/-! ## the shared layer: own_Go and its laws -/
def Go (p : Program) (e : Env) (below : List Frame) (P : State → Outcome → Prop) (T : State) (g : JFrame) : Prop := ∃ t o, Steps p.tables e below (T.setTop g) t ∧ t.status = .running ∧ Ended t below o ∧ P t o
def RP (s : State) (k n : Nat) (Q : Option Value → Heap → List Loc → Prop) (t : State) (o : Outcome) : Prop := ∃ v L, o = .returned v ∧ Q v t.heap L ∧ FrameEnd s o t L k n
theorem wd {a0 : Array Value} {Z : State} (hw : ∀ d ∈ tables_1, d.before a0 Z = true) (k : Nat) {d : Jvm.Cond} (h : tables_1[k]? = some d) : d.before a0 Z = true := hw _ (List.mem_of_getElem? h)
section OwnGo
variable {p : Program} {l : Launch} {e : Env} {R : Room} {s : State} {m : MethodId} {args : Array Value} {below : List Frame} {meth : Method} {c : Code} {T : State} {locs : List Loc} {cells slots : Nat} {P : State → Outcome → Prop} {pc : Nat} {Ls : Array Slot} {st : List Value} {Z : State} {a0 : Array Value} {h : Heap}
theorem Go.stp {T' : State} {g g' : JFrame} (G : Go p e below P T' g') (k : ∀ t, Steps p.tables e below (T'.setTop g') t → Steps p.tables e below (T.setTop g) t) : Go p e below P T g := by
  obtain ⟨t, o, h, r⟩ := G
  exact ⟨t, o, k t h, r⟩
theorem Go.cast {g g' : JFrame} (q : g = g') (G : Go p e below P T g') : Go p e below P T g := q ▸ G
theorem g_iload (X : Stand p l e R s m args below meth c T locs cells slots) (hx : p.tables.exec = Jvm.exec) {k : Nat} {v : Int32} (hl : Ls[k]? = some (.val (.int v))) (hd : decode c.code pc = .ok (.iload k, 2)) (pc' : Nat) (hp : pc + 2 = pc') (G : Go p e below P T (mkF m pc' Ls (.int v :: st))) : Go p e below P T (mkF m pc Ls st) := by
  subst hp
  exact G.stp fun _ h => XS.iload X.here hx rfl hd hl h
theorem g_iloadN (X : Stand p l e R s m args below meth c T locs cells slots) (hx : p.tables.exec = Jvm.exec) {k : Fin 4} {v : Int32} (hl : Ls[k.val]? = some (.val (.int v))) (hd : decode c.code pc = .ok (.iload_n k, 1)) (pc' : Nat) (hp : pc + 1 = pc') (G : Go p e below P T (mkF m pc' Ls (.int v :: st))) : Go p e below P T (mkF m pc Ls st) := by
  subst hp
  exact G.stp fun _ h => XS.iloadN X.here hx rfl hd hl h
theorem g_istore (X : Stand p l e R s m args below meth c T locs cells slots) (hx : p.tables.exec = Jvm.exec) {k : Nat} {v : Int32} (l' : Array Slot) (hl : storeLocals Ls k (.int v) = some l') (hd : decode c.code pc = .ok (.istore k, 2)) (pc' : Nat) (hp : pc + 2 = pc') (G : Go p e below P T (mkF m pc' l' st)) : Go p e below P T (mkF m pc Ls (.int v :: st)) := by
  subst hp
  exact G.stp fun _ h => XS.istore X.here hx rfl hd rfl hl h
theorem g_istoreN (X : Stand p l e R s m args below meth c T locs cells slots) (hx : p.tables.exec = Jvm.exec) {k : Fin 4} {v : Int32} (l' : Array Slot) (hl : storeLocals Ls k.val (.int v) = some l') (hd : decode c.code pc = .ok (.istore_n k, 1)) (pc' : Nat) (hp : pc + 1 = pc') (G : Go p e below P T (mkF m pc' l' st)) : Go p e below P T (mkF m pc Ls (.int v :: st)) := by
  subst hp
  exact G.stp fun _ h => XS.istoreN X.here hx rfl hd rfl hl h
theorem g_lload (X : Stand p l e R s m args below meth c T locs cells slots) (hx : p.tables.exec = Jvm.exec) {k : Nat} {v : Int64} (hl : Ls[k]? = some (.val (.long v))) (hd : decode c.code pc = .ok (.lload k, 2)) (pc' : Nat) (hp : pc + 2 = pc') (G : Go p e below P T (mkF m pc' Ls (.long v :: st))) : Go p e below P T (mkF m pc Ls st) := by
  subst hp
  exact G.stp fun _ h => XT.lload X.here hx rfl hd hl h
theorem g_lloadN (X : Stand p l e R s m args below meth c T locs cells slots) (hx : p.tables.exec = Jvm.exec) {k : Fin 4} {v : Int64} (hl : Ls[k.val]? = some (.val (.long v))) (hd : decode c.code pc = .ok (.lload_n k, 1)) (pc' : Nat) (hp : pc + 1 = pc') (G : Go p e below P T (mkF m pc' Ls (.long v :: st))) : Go p e below P T (mkF m pc Ls st) := by
  subst hp
  exact G.stp fun _ h => XT.lloadN X.here hx rfl hd hl h
theorem g_lstore (X : Stand p l e R s m args below meth c T locs cells slots) (hx : p.tables.exec = Jvm.exec) {k : Nat} {v : Int64} (l' : Array Slot) (hl : storeLocals Ls k (.long v) = some l') (hd : decode c.code pc = .ok (.lstore k, 2)) (pc' : Nat) (hp : pc + 2 = pc') (G : Go p e below P T (mkF m pc' l' st)) : Go p e below P T (mkF m pc Ls (.long v :: st)) := by
  subst hp
  exact G.stp fun _ h => XT.lstore X.here hx rfl hd rfl hl h
theorem g_lstoreN (X : Stand p l e R s m args below meth c T locs cells slots) (hx : p.tables.exec = Jvm.exec) {k : Fin 4} {v : Int64} (l' : Array Slot) (hl : storeLocals Ls k.val (.long v) = some l') (hd : decode c.code pc = .ok (.lstore_n k, 1)) (pc' : Nat) (hp : pc + 1 = pc') (G : Go p e below P T (mkF m pc' l' st)) : Go p e below P T (mkF m pc Ls (.long v :: st)) := by
  subst hp
  exact G.stp fun _ h => XT.lstoreN X.here hx rfl hd rfl hl h
theorem g_aload (X : Stand p l e R s m args below meth c T locs cells slots) (hx : p.tables.exec = Jvm.exec) {k : Nat} {v : Value} (hl : Ls[k]? = some (.val v)) (hv : v.isRef = true) (hd : decode c.code pc = .ok (.aload k, 2)) (pc' : Nat) (hp : pc + 2 = pc') (G : Go p e below P T (mkF m pc' Ls (v :: st))) : Go p e below P T (mkF m pc Ls st) := by
  subst hp
  exact G.stp fun _ h => XS.aload X.here hx rfl hd hl hv h
theorem g_aloadN (X : Stand p l e R s m args below meth c T locs cells slots) (hx : p.tables.exec = Jvm.exec) {k : Fin 4} {v : Value} (hl : Ls[k.val]? = some (.val v)) (hv : v.isRef = true) (hd : decode c.code pc = .ok (.aload_n k, 1)) (pc' : Nat) (hp : pc + 1 = pc') (G : Go p e below P T (mkF m pc' Ls (v :: st))) : Go p e below P T (mkF m pc Ls st) := by
  subst hp
  exact G.stp fun _ h => XS.aloadN X.here hx rfl hd hl hv h
theorem g_astore (X : Stand p l e R s m args below meth c T locs cells slots) (hx : p.tables.exec = Jvm.exec) {k : Nat} {v : Value} (l' : Array Slot) (hv : v.isRef = true) (hl : storeLocals Ls k v = some l') (hd : decode c.code pc = .ok (.astore k, 2)) (pc' : Nat) (hp : pc + 2 = pc') (G : Go p e below P T (mkF m pc' l' st)) : Go p e below P T (mkF m pc Ls (v :: st)) := by
  subst hp
  exact G.stp fun _ h => XS.astore X.here hx rfl hd rfl hv hl h
theorem g_astoreN (X : Stand p l e R s m args below meth c T locs cells slots) (hx : p.tables.exec = Jvm.exec) {k : Fin 4} {v : Value} (l' : Array Slot) (hv : v.isRef = true) (hl : storeLocals Ls k.val v = some l') (hd : decode c.code pc = .ok (.astore_n k, 1)) (pc' : Nat) (hp : pc + 1 = pc') (G : Go p e below P T (mkF m pc' l' st)) : Go p e below P T (mkF m pc Ls (v :: st)) := by
  subst hp
  exact G.stp fun _ h => XS.astoreN X.here hx rfl hd rfl hv hl h
theorem g_iconst (X : Stand p l e R s m args below meth c T locs cells slots) (hx : p.tables.exec = Jvm.exec) {i : Int} (v : Int32) (hv : Int32.ofInt i = v) (hd : decode c.code pc = .ok (.iconst i, 1)) (pc' : Nat) (hp : pc + 1 = pc') (G : Go p e below P T (mkF m pc' Ls (.int v :: st))) : Go p e below P T (mkF m pc Ls st) := by
  subst hp
  exact G.stp fun _ h => XT.iconstV X.here hx rfl v hd hv h
theorem g_bipush (X : Stand p l e R s m args below meth c T locs cells slots) (hx : p.tables.exec = Jvm.exec) {i : Int} (v : Int32) (hv : (Int8.ofInt i).toInt32 = v) (hd : decode c.code pc = .ok (.bipush i, 2)) (pc' : Nat) (hp : pc + 2 = pc') (G : Go p e below P T (mkF m pc' Ls (.int v :: st))) : Go p e below P T (mkF m pc Ls st) := by
  subst hp
  exact G.stp fun _ h => XT.bipushV X.here hx rfl v hd hv h
theorem g_sipush (X : Stand p l e R s m args below meth c T locs cells slots) (hx : p.tables.exec = Jvm.exec) {i : Int} (v : Int32) (hv : (Int16.ofInt i).toInt32 = v) (hd : decode c.code pc = .ok (.sipush i, 3)) (pc' : Nat) (hp : pc + 3 = pc') (G : Go p e below P T (mkF m pc' Ls (.int v :: st))) : Go p e below P T (mkF m pc Ls st) := by
  subst hp
  exact G.stp fun _ h => XT.sipushV X.here hx rfl v hd hv h
theorem g_lconst (X : Stand p l e R s m args below meth c T locs cells slots) (hx : p.tables.exec = Jvm.exec) {i : Fin 2} (v : Int64) (hv : Int64.ofNat i = v) (hd : decode c.code pc = .ok (.lconst i, 1)) (pc' : Nat) (hp : pc + 1 = pc') (G : Go p e below P T (mkF m pc' Ls (.long v :: st))) : Go p e below P T (mkF m pc Ls st) := by
  subst hp
  exact G.stp fun _ h => XT.lconstV X.here hx rfl v hd hv h
theorem g_aconst_null (X : Stand p l e R s m args below meth c T locs cells slots) (hx : p.tables.exec = Jvm.exec)  (hd : decode c.code pc = .ok (.aconst_null, 1)) (pc' : Nat) (hp : pc + 1 = pc') (G : Go p e below P T (mkF m pc' Ls (.null :: st))) : Go p e below P T (mkF m pc Ls st) := by
  subst hp
  exact G.stp fun _ h => XS.aconstNull X.here hx rfl hd h
theorem g_iadd (X : Stand p l e R s m args below meth c T locs cells slots) (hx : p.tables.exec = Jvm.exec) {x y : Int32} (hd : decode c.code pc = .ok (.iadd, 1)) (pc' : Nat) (hp : pc + 1 = pc') (G : Go p e below P T (mkF m pc' Ls (.int (x + y) :: st))) : Go p e below P T (mkF m pc Ls (.int y :: .int x :: st)) := by
  subst hp
  exact G.stp fun _ h => XS.iadd X.here hx rfl hd rfl h
theorem g_ladd (X : Stand p l e R s m args below meth c T locs cells slots) (hx : p.tables.exec = Jvm.exec) {x y : Int64} (hd : decode c.code pc = .ok (.ladd, 1)) (pc' : Nat) (hp : pc + 1 = pc') (G : Go p e below P T (mkF m pc' Ls (.long (x + y) :: st))) : Go p e below P T (mkF m pc Ls (.long y :: .long x :: st)) := by
  subst hp
  exact G.stp fun _ h => XT.ladd X.here hx rfl hd rfl h
theorem g_isub (X : Stand p l e R s m args below meth c T locs cells slots) (hx : p.tables.exec = Jvm.exec) {x y : Int32} (hd : decode c.code pc = .ok (.isub, 1)) (pc' : Nat) (hp : pc + 1 = pc') (G : Go p e below P T (mkF m pc' Ls (.int (x - y) :: st))) : Go p e below P T (mkF m pc Ls (.int y :: .int x :: st)) := by
  subst hp
  exact G.stp fun _ h => XS.isub X.here hx rfl hd rfl h
theorem g_lsub (X : Stand p l e R s m args below meth c T locs cells slots) (hx : p.tables.exec = Jvm.exec) {x y : Int64} (hd : decode c.code pc = .ok (.lsub, 1)) (pc' : Nat) (hp : pc + 1 = pc') (G : Go p e below P T (mkF m pc' Ls (.long (x - y) :: st))) : Go p e below P T (mkF m pc Ls (.long y :: .long x :: st)) := by
  subst hp
  exact G.stp fun _ h => XT.lsub X.here hx rfl hd rfl h
theorem g_imul (X : Stand p l e R s m args below meth c T locs cells slots) (hx : p.tables.exec = Jvm.exec) {x y : Int32} (hd : decode c.code pc = .ok (.imul, 1)) (pc' : Nat) (hp : pc + 1 = pc') (G : Go p e below P T (mkF m pc' Ls (.int (x * y) :: st))) : Go p e below P T (mkF m pc Ls (.int y :: .int x :: st)) := by
  subst hp
  exact G.stp fun _ h => XS.imul X.here hx rfl hd rfl h
theorem g_lmul (X : Stand p l e R s m args below meth c T locs cells slots) (hx : p.tables.exec = Jvm.exec) {x y : Int64} (hd : decode c.code pc = .ok (.lmul, 1)) (pc' : Nat) (hp : pc + 1 = pc') (G : Go p e below P T (mkF m pc' Ls (.long (x * y) :: st))) : Go p e below P T (mkF m pc Ls (.long y :: .long x :: st)) := by
  subst hp
  exact G.stp fun _ h => XT.lmul X.here hx rfl hd rfl h
theorem g_iand (X : Stand p l e R s m args below meth c T locs cells slots) (hx : p.tables.exec = Jvm.exec) {x y : Int32} (hd : decode c.code pc = .ok (.iand, 1)) (pc' : Nat) (hp : pc + 1 = pc') (G : Go p e below P T (mkF m pc' Ls (.int (x &&& y) :: st))) : Go p e below P T (mkF m pc Ls (.int y :: .int x :: st)) := by
  subst hp
  exact G.stp fun _ h => XS.iand X.here hx rfl hd rfl h
theorem g_land (X : Stand p l e R s m args below meth c T locs cells slots) (hx : p.tables.exec = Jvm.exec) {x y : Int64} (hd : decode c.code pc = .ok (.land, 1)) (pc' : Nat) (hp : pc + 1 = pc') (G : Go p e below P T (mkF m pc' Ls (.long (x &&& y) :: st))) : Go p e below P T (mkF m pc Ls (.long y :: .long x :: st)) := by
  subst hp
  exact G.stp fun _ h => XT.land X.here hx rfl hd rfl h
theorem g_ior (X : Stand p l e R s m args below meth c T locs cells slots) (hx : p.tables.exec = Jvm.exec) {x y : Int32} (hd : decode c.code pc = .ok (.ior, 1)) (pc' : Nat) (hp : pc + 1 = pc') (G : Go p e below P T (mkF m pc' Ls (.int (x ||| y) :: st))) : Go p e below P T (mkF m pc Ls (.int y :: .int x :: st)) := by
  subst hp
  exact G.stp fun _ h => XT.ior X.here hx rfl hd rfl h
theorem g_lor (X : Stand p l e R s m args below meth c T locs cells slots) (hx : p.tables.exec = Jvm.exec) {x y : Int64} (hd : decode c.code pc = .ok (.lor, 1)) (pc' : Nat) (hp : pc + 1 = pc') (G : Go p e below P T (mkF m pc' Ls (.long (x ||| y) :: st))) : Go p e below P T (mkF m pc Ls (.long y :: .long x :: st)) := by
  subst hp
  exact G.stp fun _ h => XT.lor X.here hx rfl hd rfl h
theorem g_ixor (X : Stand p l e R s m args below meth c T locs cells slots) (hx : p.tables.exec = Jvm.exec) {x y : Int32} (hd : decode c.code pc = .ok (.ixor, 1)) (pc' : Nat) (hp : pc + 1 = pc') (G : Go p e below P T (mkF m pc' Ls (.int (x ^^^ y) :: st))) : Go p e below P T (mkF m pc Ls (.int y :: .int x :: st)) := by
  subst hp
  exact G.stp fun _ h => XT.ixor X.here hx rfl hd rfl h
theorem g_lxor (X : Stand p l e R s m args below meth c T locs cells slots) (hx : p.tables.exec = Jvm.exec) {x y : Int64} (hd : decode c.code pc = .ok (.lxor, 1)) (pc' : Nat) (hp : pc + 1 = pc') (G : Go p e below P T (mkF m pc' Ls (.long (x ^^^ y) :: st))) : Go p e below P T (mkF m pc Ls (.long y :: .long x :: st)) := by
  subst hp
  exact G.stp fun _ h => XT.lxor X.here hx rfl hd rfl h
theorem g_idiv (X : Stand p l e R s m args below meth c T locs cells slots) (hx : p.tables.exec = Jvm.exec) {x y : Int32} (hy : y ≠ 0) (hd : decode c.code pc = .ok (.idiv, 1)) (pc' : Nat) (hp : pc + 1 = pc') (G : Go p e below P T (mkF m pc' Ls (.int (x / y) :: st))) : Go p e below P T (mkF m pc Ls (.int y :: .int x :: st)) := by
  subst hp
  exact G.stp fun _ h => XS.idiv X.here hx rfl hd rfl hy h
theorem g_irem (X : Stand p l e R s m args below meth c T locs cells slots) (hx : p.tables.exec = Jvm.exec) {x y : Int32} (hy : y ≠ 0) (hd : decode c.code pc = .ok (.irem, 1)) (pc' : Nat) (hp : pc + 1 = pc') (G : Go p e below P T (mkF m pc' Ls (.int (x % y) :: st))) : Go p e below P T (mkF m pc Ls (.int y :: .int x :: st)) := by
  subst hp
  exact G.stp fun _ h => iremM X hx rfl hd rfl hy h
theorem g_ldiv (X : Stand p l e R s m args below meth c T locs cells slots) (hx : p.tables.exec = Jvm.exec) {x y : Int64} (hy : y ≠ 0) (hd : decode c.code pc = .ok (.ldiv, 1)) (pc' : Nat) (hp : pc + 1 = pc') (G : Go p e below P T (mkF m pc' Ls (.long (x / y) :: st))) : Go p e below P T (mkF m pc Ls (.long y :: .long x :: st)) := by
  subst hp
  exact G.stp fun _ h => XT.ldiv X.here hx rfl hd rfl hy h
theorem g_lrem (X : Stand p l e R s m args below meth c T locs cells slots) (hx : p.tables.exec = Jvm.exec) {x y : Int64} (hy : y ≠ 0) (hd : decode c.code pc = .ok (.lrem, 1)) (pc' : Nat) (hp : pc + 1 = pc') (G : Go p e below P T (mkF m pc' Ls (.long (x % y) :: st))) : Go p e below P T (mkF m pc Ls (.long y :: .long x :: st)) := by
  subst hp
  rw [← lrem_mod] at G
  exact G.stp fun _ h => XT.lrem X.here hx rfl hd rfl hy h
theorem g_ishl (X : Stand p l e R s m args below meth c T locs cells slots) (hx : p.tables.exec = Jvm.exec) {x y : Int32} (hd : decode c.code pc = .ok (.ishl, 1)) (pc' : Nat) (hp : pc + 1 = pc') (G : Go p e below P T (mkF m pc' Ls (.int (x <<< (y &&& 31)) :: st))) : Go p e below P T (mkF m pc Ls (.int y :: .int x :: st)) := by
  subst hp
  exact G.stp fun _ h => XT.ishl X.here hx rfl hd rfl h
theorem g_ishr (X : Stand p l e R s m args below meth c T locs cells slots) (hx : p.tables.exec = Jvm.exec) {x y : Int32} (hd : decode c.code pc = .ok (.ishr, 1)) (pc' : Nat) (hp : pc + 1 = pc') (G : Go p e below P T (mkF m pc' Ls (.int (x >>> (y &&& 31)) :: st))) : Go p e below P T (mkF m pc Ls (.int y :: .int x :: st)) := by
  subst hp
  exact G.stp fun _ h => XT.ishr X.here hx rfl hd rfl h
theorem g_iushr (X : Stand p l e R s m args below meth c T locs cells slots) (hx : p.tables.exec = Jvm.exec) {x y : Int32} (hd : decode c.code pc = .ok (.iushr, 1)) (pc' : Nat) (hp : pc + 1 = pc') (G : Go p e below P T (mkF m pc' Ls (.int (XT.ushr x y) :: st))) : Go p e below P T (mkF m pc Ls (.int y :: .int x :: st)) := by
  subst hp
  exact G.stp fun _ h => XT.iushr X.here hx rfl hd rfl h
theorem g_lshl (X : Stand p l e R s m args below meth c T locs cells slots) (hx : p.tables.exec = Jvm.exec) {x : Int64} {y : Int32} (hd : decode c.code pc = .ok (.lshl, 1)) (pc' : Nat) (hp : pc + 1 = pc') (G : Go p e below P T (mkF m pc' Ls (.long (x <<< (y &&& 0x3f).toInt64) :: st))) : Go p e below P T (mkF m pc Ls (.int y :: .long x :: st)) := by
  subst hp
  exact G.stp fun _ h => XS.lshl X.here hx rfl hd rfl h
theorem g_lshr (X : Stand p l e R s m args below meth c T locs cells slots) (hx : p.tables.exec = Jvm.exec) {x : Int64} {y : Int32} (hd : decode c.code pc = .ok (.lshr, 1)) (pc' : Nat) (hp : pc + 1 = pc') (G : Go p e below P T (mkF m pc' Ls (.long (x >>> (y &&& 0x3f).toInt64) :: st))) : Go p e below P T (mkF m pc Ls (.int y :: .long x :: st)) := by
  subst hp
  exact G.stp fun _ h => XS.lshr X.here hx rfl hd rfl h
theorem g_lushr (X : Stand p l e R s m args below meth c T locs cells slots) (hx : p.tables.exec = Jvm.exec) {x : Int64} {y : Int32} (hd : decode c.code pc = .ok (.lushr, 1)) (pc' : Nat) (hp : pc + 1 = pc') (G : Go p e below P T (mkF m pc' Ls (.long (XT.ushrL x y) :: st))) : Go p e below P T (mkF m pc Ls (.int y :: .long x :: st)) := by
  subst hp
  exact G.stp fun _ h => XT.lushr X.here hx rfl hd rfl h
theorem g_ineg (X : Stand p l e R s m args below meth c T locs cells slots) (hx : p.tables.exec = Jvm.exec) {x : Int32} (hd : decode c.code pc = .ok (.ineg, 1)) (pc' : Nat) (hp : pc + 1 = pc') (G : Go p e below P T (mkF m pc' Ls (.int (-x) :: st))) : Go p e below P T (mkF m pc Ls (.int x :: st)) := by
  subst hp
  exact G.stp fun _ h => XS.ineg X.here hx rfl hd rfl h
theorem g_i2l (X : Stand p l e R s m args below meth c T locs cells slots) (hx : p.tables.exec = Jvm.exec) {x : Int32} (hd : decode c.code pc = .ok (.i2l, 1)) (pc' : Nat) (hp : pc + 1 = pc') (G : Go p e below P T (mkF m pc' Ls (.long x.toInt64 :: st))) : Go p e below P T (mkF m pc Ls (.int x :: st)) := by
  subst hp
  exact G.stp fun _ h => XT.i2l X.here hx rfl hd rfl h
theorem g_l2i (X : Stand p l e R s m args below meth c T locs cells slots) (hx : p.tables.exec = Jvm.exec) {x : Int64} (hd : decode c.code pc = .ok (.l2i, 1)) (pc' : Nat) (hp : pc + 1 = pc') (G : Go p e below P T (mkF m pc' Ls (.int x.toInt32 :: st))) : Go p e below P T (mkF m pc Ls (.long x :: st)) := by
  subst hp
  exact G.stp fun _ h => XT.l2i X.here hx rfl hd rfl h
theorem g_i2b (X : Stand p l e R s m args below meth c T locs cells slots) (hx : p.tables.exec = Jvm.exec) {x : Int32} (hd : decode c.code pc = .ok (.i2b, 1)) (pc' : Nat) (hp : pc + 1 = pc') (G : Go p e below P T (mkF m pc' Ls (.int x.toInt8.toInt32 :: st))) : Go p e below P T (mkF m pc Ls (.int x :: st)) := by
  subst hp
  exact G.stp fun _ h => XT.i2b X.here hx rfl hd rfl h
theorem g_i2s (X : Stand p l e R s m args below meth c T locs cells slots) (hx : p.tables.exec = Jvm.exec) {x : Int32} (hd : decode c.code pc = .ok (.i2s, 1)) (pc' : Nat) (hp : pc + 1 = pc') (G : Go p e below P T (mkF m pc' Ls (.int x.toInt16.toInt32 :: st))) : Go p e below P T (mkF m pc Ls (.int x :: st)) := by
  subst hp
  exact G.stp fun _ h => XT.i2s X.here hx rfl hd rfl h
theorem g_i2c (X : Stand p l e R s m args below meth c T locs cells slots) (hx : p.tables.exec = Jvm.exec) {x : Int32} (hd : decode c.code pc = .ok (.i2c, 1)) (pc' : Nat) (hp : pc + 1 = pc') (G : Go p e below P T (mkF m pc' Ls (.int x.toUInt32.toUInt16.toUInt32.toInt32 :: st))) : Go p e below P T (mkF m pc Ls (.int x :: st)) := by
  subst hp
  exact G.stp fun _ h => XT.i2c X.here hx rfl hd rfl h
theorem g_pop (X : Stand p l e R s m args below meth c T locs cells slots) (hx : p.tables.exec = Jvm.exec) {x : Value} (hc : x.category = 1) (hd : decode c.code pc = .ok (.pop, 1)) (pc' : Nat) (hp : pc + 1 = pc') (G : Go p e below P T (mkF m pc' Ls st)) : Go p e below P T (mkF m pc Ls (x :: st)) := by
  subst hp
  exact G.stp fun _ h => XT.pop X.here hx rfl hd rfl hc h
theorem g_dup (X : Stand p l e R s m args below meth c T locs cells slots) (hx : p.tables.exec = Jvm.exec) {x : Value} (hc : x.category = 1) (hd : decode c.code pc = .ok (.dup, 1)) (pc' : Nat) (hp : pc + 1 = pc') (G : Go p e below P T (mkF m pc' Ls (x :: x :: st))) : Go p e below P T (mkF m pc Ls (x :: st)) := by
  subst hp
  exact G.stp fun _ h => XS.dup X.here hx rfl hd rfl hc h
theorem g_dup_x1 (X : Stand p l e R s m args below meth c T locs cells slots) (hx : p.tables.exec = Jvm.exec) {x y : Value} (hc : x.category = 1) (hc' : y.category = 1) (hd : decode c.code pc = .ok (.dup_x1, 1)) (pc' : Nat) (hp : pc + 1 = pc') (G : Go p e below P T (mkF m pc' Ls (x :: y :: x :: st))) : Go p e below P T (mkF m pc Ls (x :: y :: st)) := by
  subst hp
  exact G.stp fun _ h => XT.dupX1 X.here hx rfl hd rfl hc hc' h
theorem g_dup2 (X : Stand p l e R s m args below meth c T locs cells slots) (hx : p.tables.exec = Jvm.exec) {x y : Value} (hc : x.category = 1) (hc' : y.category = 1) (hd : decode c.code pc = .ok (.dup2, 1)) (pc' : Nat) (hp : pc + 1 = pc') (G : Go p e below P T (mkF m pc' Ls (x :: y :: x :: y :: st))) : Go p e below P T (mkF m pc Ls (x :: y :: st)) := by
  subst hp
  exact G.stp fun _ h => XT.dup2 X.here hx rfl hd rfl hc hc' h
theorem g_iinc (X : Stand p l e R s m args below meth c T locs cells slots) (hx : p.tables.exec = Jvm.exec) {k : Nat} {cst : Int} {x : Int32} (v : Int32) (hv : Int32.ofInt cst = v) (hl : Ls[k]? = some (.val (.int x))) (l' : Array Slot) (hl' : storeLocals Ls k (.int (x + v)) = some l') (hd : decode c.code pc = .ok (.iinc k cst, 3)) (pc' : Nat) (hp : pc + 3 = pc') (G : Go p e below P T (mkF m pc' l' st)) : Go p e below P T (mkF m pc Ls st) := by
  subst hp
  exact G.stp fun _ h => XT.iincV X.here hx rfl v hd hv hl hl' h
theorem g_goto (X : Stand p l e R s m args below meth c T locs cells slots) (hx : p.tables.exec = Jvm.exec) {o : Int} (hd : decode c.code pc = .ok (.goto o, 3)) (pc' : Nat) (ho : 0 ≤ (pc : Int) + o) (hp : ((pc : Int) + o).toNat = pc') (G : Go p e below P T (mkF m pc' Ls st)) : Go p e below P T (mkF m pc Ls st) := by
  exact G.stp fun _ h => XS.goto X.here hx rfl rfl hd ho hp h
theorem g_icmp_eq (X : Stand p l e R s m args below meth c T locs cells slots) (hx : p.tables.exec = Jvm.exec) {x y : Int32} {o : Int} (hd : decode c.code pc = .ok (.if_icmp .eq o, 3)) (pcT pcF : Nat) (ho : 0 ≤ (pc : Int) + o) (hT : ((pc : Int) + o).toNat = pcT) (hF : pc + 3 = pcF) (G1 : x = y → Go p e below P T (mkF m pcT Ls st)) (G2 : ¬ x = y → Go p e below P T (mkF m pcF Ls st)) : Go p e below P T (mkF m pc Ls (.int y :: .int x :: st)) := by
  by_cases q : x = y
  · exact (G1 q).stp fun _ h => XS.icmpYes X.here hx rfl rfl hd rfl (XT.ii_eq_t q) ho hT h
  · subst hF
    exact (G2 q).stp fun _ h => XS.icmpNo X.here hx rfl hd rfl (XT.ii_eq_f q) h
theorem g_if_eq (X : Stand p l e R s m args below meth c T locs cells slots) (hx : p.tables.exec = Jvm.exec) {x : Int32} {o : Int} (hd : decode c.code pc = .ok (.ifCond .eq o, 3)) (pcT pcF : Nat) (ho : 0 ≤ (pc : Int) + o) (hT : ((pc : Int) + o).toNat = pcT) (hF : pc + 3 = pcF) (G1 : x = 0 → Go p e below P T (mkF m pcT Ls st)) (G2 : ¬ x = 0 → Go p e below P T (mkF m pcF Ls st)) : Go p e below P T (mkF m pc Ls (.int x :: st)) := by
  by_cases q : x = 0
  · exact (G1 q).stp fun _ h => XS.ifYes X.here hx rfl rfl hd rfl (XT.i0_eq_t q) ho hT h
  · subst hF
    exact (G2 q).stp fun _ h => XS.ifNo X.here hx rfl hd rfl (XT.i0_eq_f q) h
theorem g_lif_eq (X : Stand p l e R s m args below meth c T locs cells slots) (hx : p.tables.exec = Jvm.exec) {x y : Int64} {o : Int} (hd0 : decode c.code pc = .ok (.lcmp, 1)) (pc1 : Nat) (hp1 : pc + 1 = pc1) (hd : decode c.code pc1 = .ok (.ifCond .eq o, 3)) (pcT pcF : Nat) (ho : 0 ≤ (pc1 : Int) + o) (hT : ((pc1 : Int) + o).toNat = pcT) (hF : pc1 + 3 = pcF) (G1 : x = y → Go p e below P T (mkF m pcT Ls st)) (G2 : ¬ x = y → Go p e below P T (mkF m pcF Ls st)) : Go p e below P T (mkF m pc Ls (.long y :: .long x :: st)) := by
  subst hp1
  by_cases q : x = y
  · exact (G1 q).stp fun _ h => XT.lcmp X.here hx rfl hd0 rfl (XS.ifYes X.here hx rfl rfl hd rfl (XT.ll_eq_t q) ho hT h)
  · subst hF
    exact (G2 q).stp fun _ h => XT.lcmp X.here hx rfl hd0 rfl (XS.ifNo X.here hx rfl hd rfl (XT.ll_eq_f q) h)
theorem g_icmp_ne (X : Stand p l e R s m args below meth c T locs cells slots) (hx : p.tables.exec = Jvm.exec) {x y : Int32} {o : Int} (hd : decode c.code pc = .ok (.if_icmp .ne o, 3)) (pcT pcF : Nat) (ho : 0 ≤ (pc : Int) + o) (hT : ((pc : Int) + o).toNat = pcT) (hF : pc + 3 = pcF) (G1 : ¬ x = y → Go p e below P T (mkF m pcT Ls st)) (G2 : x = y → Go p e below P T (mkF m pcF Ls st)) : Go p e below P T (mkF m pc Ls (.int y :: .int x :: st)) := by
  by_cases q : ¬ x = y
  · exact (G1 q).stp fun _ h => XS.icmpYes X.here hx rfl rfl hd rfl (XT.ii_ne_t q) ho hT h
  · subst hF
    exact (G2 (Classical.not_not.mp q)).stp fun _ h => XS.icmpNo X.here hx rfl hd rfl (XT.ii_ne_f (Classical.not_not.mp q)) h
theorem g_if_ne (X : Stand p l e R s m args below meth c T locs cells slots) (hx : p.tables.exec = Jvm.exec) {x : Int32} {o : Int} (hd : decode c.code pc = .ok (.ifCond .ne o, 3)) (pcT pcF : Nat) (ho : 0 ≤ (pc : Int) + o) (hT : ((pc : Int) + o).toNat = pcT) (hF : pc + 3 = pcF) (G1 : ¬ x = 0 → Go p e below P T (mkF m pcT Ls st)) (G2 : x = 0 → Go p e below P T (mkF m pcF Ls st)) : Go p e below P T (mkF m pc Ls (.int x :: st)) := by
  by_cases q : ¬ x = 0
  · exact (G1 q).stp fun _ h => XS.ifYes X.here hx rfl rfl hd rfl (XT.i0_ne_t q) ho hT h
  · subst hF
    exact (G2 (Classical.not_not.mp q)).stp fun _ h => XS.ifNo X.here hx rfl hd rfl (XT.i0_ne_f (Classical.not_not.mp q)) h
theorem g_lif_ne (X : Stand p l e R s m args below meth c T locs cells slots) (hx : p.tables.exec = Jvm.exec) {x y : Int64} {o : Int} (hd0 : decode c.code pc = .ok (.lcmp, 1)) (pc1 : Nat) (hp1 : pc + 1 = pc1) (hd : decode c.code pc1 = .ok (.ifCond .ne o, 3)) (pcT pcF : Nat) (ho : 0 ≤ (pc1 : Int) + o) (hT : ((pc1 : Int) + o).toNat = pcT) (hF : pc1 + 3 = pcF) (G1 : ¬ x = y → Go p e below P T (mkF m pcT Ls st)) (G2 : x = y → Go p e below P T (mkF m pcF Ls st)) : Go p e below P T (mkF m pc Ls (.long y :: .long x :: st)) := by
  subst hp1
  by_cases q : ¬ x = y
  · exact (G1 q).stp fun _ h => XT.lcmp X.here hx rfl hd0 rfl (XS.ifYes X.here hx rfl rfl hd rfl (XT.ll_ne_t q) ho hT h)
  · subst hF
    exact (G2 (Classical.not_not.mp q)).stp fun _ h => XT.lcmp X.here hx rfl hd0 rfl (XS.ifNo X.here hx rfl hd rfl (XT.ll_ne_f (Classical.not_not.mp q)) h)
theorem g_icmp_lt (X : Stand p l e R s m args below meth c T locs cells slots) (hx : p.tables.exec = Jvm.exec) {x y : Int32} {o : Int} (hd : decode c.code pc = .ok (.if_icmp .lt o, 3)) (pcT pcF : Nat) (ho : 0 ≤ (pc : Int) + o) (hT : ((pc : Int) + o).toNat = pcT) (hF : pc + 3 = pcF) (G1 : x < y → Go p e below P T (mkF m pcT Ls st)) (G2 : ¬ x < y → Go p e below P T (mkF m pcF Ls st)) : Go p e below P T (mkF m pc Ls (.int y :: .int x :: st)) := by
  by_cases q : x < y
  · exact (G1 q).stp fun _ h => XS.icmpYes X.here hx rfl rfl hd rfl (XT.ii_lt_t q) ho hT h
  · subst hF
    exact (G2 q).stp fun _ h => XS.icmpNo X.here hx rfl hd rfl (XT.ii_lt_f q) h
theorem g_if_lt (X : Stand p l e R s m args below meth c T locs cells slots) (hx : p.tables.exec = Jvm.exec) {x : Int32} {o : Int} (hd : decode c.code pc = .ok (.ifCond .lt o, 3)) (pcT pcF : Nat) (ho : 0 ≤ (pc : Int) + o) (hT : ((pc : Int) + o).toNat = pcT) (hF : pc + 3 = pcF) (G1 : x < 0 → Go p e below P T (mkF m pcT Ls st)) (G2 : ¬ x < 0 → Go p e below P T (mkF m pcF Ls st)) : Go p e below P T (mkF m pc Ls (.int x :: st)) := by
  by_cases q : x < 0
  · exact (G1 q).stp fun _ h => XS.ifYes X.here hx rfl rfl hd rfl (XT.i0_lt_t q) ho hT h
  · subst hF
    exact (G2 q).stp fun _ h => XS.ifNo X.here hx rfl hd rfl (XT.i0_lt_f q) h
theorem g_lif_lt (X : Stand p l e R s m args below meth c T locs cells slots) (hx : p.tables.exec = Jvm.exec) {x y : Int64} {o : Int} (hd0 : decode c.code pc = .ok (.lcmp, 1)) (pc1 : Nat) (hp1 : pc + 1 = pc1) (hd : decode c.code pc1 = .ok (.ifCond .lt o, 3)) (pcT pcF : Nat) (ho : 0 ≤ (pc1 : Int) + o) (hT : ((pc1 : Int) + o).toNat = pcT) (hF : pc1 + 3 = pcF) (G1 : x < y → Go p e below P T (mkF m pcT Ls st)) (G2 : ¬ x < y → Go p e below P T (mkF m pcF Ls st)) : Go p e below P T (mkF m pc Ls (.long y :: .long x :: st)) := by
  subst hp1
  by_cases q : x < y
  · exact (G1 q).stp fun _ h => XT.lcmp X.here hx rfl hd0 rfl (XS.ifYes X.here hx rfl rfl hd rfl (XT.ll_lt_t q) ho hT h)
  · subst hF
    exact (G2 q).stp fun _ h => XT.lcmp X.here hx rfl hd0 rfl (XS.ifNo X.here hx rfl hd rfl (XT.ll_lt_f q) h)
theorem g_icmp_ge (X : Stand p l e R s m args below meth c T locs cells slots) (hx : p.tables.exec = Jvm.exec) {x y : Int32} {o : Int} (hd : decode c.code pc = .ok (.if_icmp .ge o, 3)) (pcT pcF : Nat) (ho : 0 ≤ (pc : Int) + o) (hT : ((pc : Int) + o).toNat = pcT) (hF : pc + 3 = pcF) (G1 : ¬ x < y → Go p e below P T (mkF m pcT Ls st)) (G2 : x < y → Go p e below P T (mkF m pcF Ls st)) : Go p e below P T (mkF m pc Ls (.int y :: .int x :: st)) := by
  by_cases q : ¬ x < y
  · exact (G1 q).stp fun _ h => XS.icmpYes X.here hx rfl rfl hd rfl (XT.ii_ge_t q) ho hT h
  · subst hF
    exact (G2 (Classical.not_not.mp q)).stp fun _ h => XS.icmpNo X.here hx rfl hd rfl (XT.ii_ge_f (Classical.not_not.mp q)) h
theorem g_if_ge (X : Stand p l e R s m args below meth c T locs cells slots) (hx : p.tables.exec = Jvm.exec) {x : Int32} {o : Int} (hd : decode c.code pc = .ok (.ifCond .ge o, 3)) (pcT pcF : Nat) (ho : 0 ≤ (pc : Int) + o) (hT : ((pc : Int) + o).toNat = pcT) (hF : pc + 3 = pcF) (G1 : ¬ x < 0 → Go p e below P T (mkF m pcT Ls st)) (G2 : x < 0 → Go p e below P T (mkF m pcF Ls st)) : Go p e below P T (mkF m pc Ls (.int x :: st)) := by
  by_cases q : ¬ x < 0
  · exact (G1 q).stp fun _ h => XS.ifYes X.here hx rfl rfl hd rfl (XT.i0_ge_t q) ho hT h
  · subst hF
    exact (G2 (Classical.not_not.mp q)).stp fun _ h => XS.ifNo X.here hx rfl hd rfl (XT.i0_ge_f (Classical.not_not.mp q)) h
theorem g_lif_ge (X : Stand p l e R s m args below meth c T locs cells slots) (hx : p.tables.exec = Jvm.exec) {x y : Int64} {o : Int} (hd0 : decode c.code pc = .ok (.lcmp, 1)) (pc1 : Nat) (hp1 : pc + 1 = pc1) (hd : decode c.code pc1 = .ok (.ifCond .ge o, 3)) (pcT pcF : Nat) (ho : 0 ≤ (pc1 : Int) + o) (hT : ((pc1 : Int) + o).toNat = pcT) (hF : pc1 + 3 = pcF) (G1 : ¬ x < y → Go p e below P T (mkF m pcT Ls st)) (G2 : x < y → Go p e below P T (mkF m pcF Ls st)) : Go p e below P T (mkF m pc Ls (.long y :: .long x :: st)) := by
  subst hp1
  by_cases q : ¬ x < y
  · exact (G1 q).stp fun _ h => XT.lcmp X.here hx rfl hd0 rfl (XS.ifYes X.here hx rfl rfl hd rfl (XT.ll_ge_t q) ho hT h)
  · subst hF
    exact (G2 (Classical.not_not.mp q)).stp fun _ h => XT.lcmp X.here hx rfl hd0 rfl (XS.ifNo X.here hx rfl hd rfl (XT.ll_ge_f (Classical.not_not.mp q)) h)
theorem g_icmp_gt (X : Stand p l e R s m args below meth c T locs cells slots) (hx : p.tables.exec = Jvm.exec) {x y : Int32} {o : Int} (hd : decode c.code pc = .ok (.if_icmp .gt o, 3)) (pcT pcF : Nat) (ho : 0 ≤ (pc : Int) + o) (hT : ((pc : Int) + o).toNat = pcT) (hF : pc + 3 = pcF) (G1 : y < x → Go p e below P T (mkF m pcT Ls st)) (G2 : ¬ y < x → Go p e below P T (mkF m pcF Ls st)) : Go p e below P T (mkF m pc Ls (.int y :: .int x :: st)) := by
  by_cases q : y < x
  · exact (G1 q).stp fun _ h => XS.icmpYes X.here hx rfl rfl hd rfl (XT.ii_gt_t q) ho hT h
  · subst hF
    exact (G2 q).stp fun _ h => XS.icmpNo X.here hx rfl hd rfl (XT.ii_gt_f q) h
theorem g_if_gt (X : Stand p l e R s m args below meth c T locs cells slots) (hx : p.tables.exec = Jvm.exec) {x : Int32} {o : Int} (hd : decode c.code pc = .ok (.ifCond .gt o, 3)) (pcT pcF : Nat) (ho : 0 ≤ (pc : Int) + o) (hT : ((pc : Int) + o).toNat = pcT) (hF : pc + 3 = pcF) (G1 : 0 < x → Go p e below P T (mkF m pcT Ls st)) (G2 : ¬ 0 < x → Go p e below P T (mkF m pcF Ls st)) : Go p e below P T (mkF m pc Ls (.int x :: st)) := by
  by_cases q : 0 < x
  · exact (G1 q).stp fun _ h => XS.ifYes X.here hx rfl rfl hd rfl (XT.i0_gt_t q) ho hT h
  · subst hF
    exact (G2 q).stp fun _ h => XS.ifNo X.here hx rfl hd rfl (XT.i0_gt_f q) h
theorem g_lif_gt (X : Stand p l e R s m args below meth c T locs cells slots) (hx : p.tables.exec = Jvm.exec) {x y : Int64} {o : Int} (hd0 : decode c.code pc = .ok (.lcmp, 1)) (pc1 : Nat) (hp1 : pc + 1 = pc1) (hd : decode c.code pc1 = .ok (.ifCond .gt o, 3)) (pcT pcF : Nat) (ho : 0 ≤ (pc1 : Int) + o) (hT : ((pc1 : Int) + o).toNat = pcT) (hF : pc1 + 3 = pcF) (G1 : y < x → Go p e below P T (mkF m pcT Ls st)) (G2 : ¬ y < x → Go p e below P T (mkF m pcF Ls st)) : Go p e below P T (mkF m pc Ls (.long y :: .long x :: st)) := by
  subst hp1
  by_cases q : y < x
  · exact (G1 q).stp fun _ h => XT.lcmp X.here hx rfl hd0 rfl (XS.ifYes X.here hx rfl rfl hd rfl (XT.ll_gt_t q) ho hT h)
  · subst hF
    exact (G2 q).stp fun _ h => XT.lcmp X.here hx rfl hd0 rfl (XS.ifNo X.here hx rfl hd rfl (XT.ll_gt_f q) h)
theorem g_icmp_le (X : Stand p l e R s m args below meth c T locs cells slots) (hx : p.tables.exec = Jvm.exec) {x y : Int32} {o : Int} (hd : decode c.code pc = .ok (.if_icmp .le o, 3)) (pcT pcF : Nat) (ho : 0 ≤ (pc : Int) + o) (hT : ((pc : Int) + o).toNat = pcT) (hF : pc + 3 = pcF) (G1 : ¬ y < x → Go p e below P T (mkF m pcT Ls st)) (G2 : y < x → Go p e below P T (mkF m pcF Ls st)) : Go p e below P T (mkF m pc Ls (.int y :: .int x :: st)) := by
  by_cases q : ¬ y < x
  · exact (G1 q).stp fun _ h => XS.icmpYes X.here hx rfl rfl hd rfl (XT.ii_le_t q) ho hT h
  · subst hF
    exact (G2 (Classical.not_not.mp q)).stp fun _ h => XS.icmpNo X.here hx rfl hd rfl (XT.ii_le_f (Classical.not_not.mp q)) h
theorem g_if_le (X : Stand p l e R s m args below meth c T locs cells slots) (hx : p.tables.exec = Jvm.exec) {x : Int32} {o : Int} (hd : decode c.code pc = .ok (.ifCond .le o, 3)) (pcT pcF : Nat) (ho : 0 ≤ (pc : Int) + o) (hT : ((pc : Int) + o).toNat = pcT) (hF : pc + 3 = pcF) (G1 : ¬ 0 < x → Go p e below P T (mkF m pcT Ls st)) (G2 : 0 < x → Go p e below P T (mkF m pcF Ls st)) : Go p e below P T (mkF m pc Ls (.int x :: st)) := by
  by_cases q : ¬ 0 < x
  · exact (G1 q).stp fun _ h => XS.ifYes X.here hx rfl rfl hd rfl (XT.i0_le_t q) ho hT h
  · subst hF
    exact (G2 (Classical.not_not.mp q)).stp fun _ h => XS.ifNo X.here hx rfl hd rfl (XT.i0_le_f (Classical.not_not.mp q)) h
theorem g_lif_le (X : Stand p l e R s m args below meth c T locs cells slots) (hx : p.tables.exec = Jvm.exec) {x y : Int64} {o : Int} (hd0 : decode c.code pc = .ok (.lcmp, 1)) (pc1 : Nat) (hp1 : pc + 1 = pc1) (hd : decode c.code pc1 = .ok (.ifCond .le o, 3)) (pcT pcF : Nat) (ho : 0 ≤ (pc1 : Int) + o) (hT : ((pc1 : Int) + o).toNat = pcT) (hF : pc1 + 3 = pcF) (G1 : ¬ y < x → Go p e below P T (mkF m pcT Ls st)) (G2 : y < x → Go p e below P T (mkF m pcF Ls st)) : Go p e below P T (mkF m pc Ls (.long y :: .long x :: st)) := by
  subst hp1
  by_cases q : ¬ y < x
  · exact (G1 q).stp fun _ h => XT.lcmp X.here hx rfl hd0 rfl (XS.ifYes X.here hx rfl rfl hd rfl (XT.ll_le_t q) ho hT h)
  · subst hF
    exact (G2 (Classical.not_not.mp q)).stp fun _ h => XT.lcmp X.here hx rfl hd0 rfl (XS.ifNo X.here hx rfl hd rfl (XT.ll_le_f (Classical.not_not.mp q)) h)
theorem g_acmp_eq (X : Stand p l e R s m args below meth c T locs cells slots) (hx : p.tables.exec = Jvm.exec) {x y : Value} (hx' : x.isRef = true) (hy' : y.isRef = true) {o : Int} (hd : decode c.code pc = .ok (.if_acmp .eq o, 3)) (pcT pcF : Nat) (ho : 0 ≤ (pc : Int) + o) (hT : ((pc : Int) + o).toNat = pcT) (hF : pc + 3 = pcF) (G1 : x = y → Go p e below P T (mkF m pcT Ls st)) (G2 : ¬ x = y → Go p e below P T (mkF m pcF Ls st)) : Go p e below P T (mkF m pc Ls (y :: x :: st)) := by
  by_cases q : x = y
  · exact (G1 q).stp fun _ h => XT.acmpYes X.here hx rfl rfl hd rfl hx' hy' (XT.aa_eq_t q) ho hT h
  · subst hF
    exact (G2 q).stp fun _ h => XT.acmpNo X.here hx rfl hd rfl hx' hy' (XT.aa_eq_f q) h
theorem g_acmp_ne (X : Stand p l e R s m args below meth c T locs cells slots) (hx : p.tables.exec = Jvm.exec) {x y : Value} (hx' : x.isRef = true) (hy' : y.isRef = true) {o : Int} (hd : decode c.code pc = .ok (.if_acmp .ne o, 3)) (pcT pcF : Nat) (ho : 0 ≤ (pc : Int) + o) (hT : ((pc : Int) + o).toNat = pcT) (hF : pc + 3 = pcF) (G1 : ¬ x = y → Go p e below P T (mkF m pcT Ls st)) (G2 : x = y → Go p e below P T (mkF m pcF Ls st)) : Go p e below P T (mkF m pc Ls (y :: x :: st)) := by
  by_cases q : ¬ x = y
  · exact (G1 q).stp fun _ h => XT.acmpYes X.here hx rfl rfl hd rfl hx' hy' (XT.aa_ne_t q) ho hT h
  · subst hF
    exact (G2 (Classical.not_not.mp q)).stp fun _ h => XT.acmpNo X.here hx rfl hd rfl hx' hy' (XT.aa_ne_f (Classical.not_not.mp q)) h
theorem g_ifnull (X : Stand p l e R s m args below meth c T locs cells slots) (hx : p.tables.exec = Jvm.exec) {x : Value} (hx' : x.isRef = true) {o : Int} (hd : decode c.code pc = .ok (.ifnull o, 3)) (pcT pcF : Nat) (ho : 0 ≤ (pc : Int) + o) (hT : ((pc : Int) + o).toNat = pcT) (hF : pc + 3 = pcF) (G1 : x = .null → Go p e below P T (mkF m pcT Ls st)) (G2 : ¬ x = .null → Go p e below P T (mkF m pcF Ls st)) : Go p e below P T (mkF m pc Ls (x :: st)) := by
  by_cases q : x = .null
  · exact (G1 q).stp fun _ h => XT.nullYes X.here hx rfl rfl hd rfl q ho hT h
  · subst hF
    exact (G2 q).stp fun _ h => XT.nullNo X.here hx rfl hd rfl hx' q h
theorem g_ifnonnull (X : Stand p l e R s m args below meth c T locs cells slots) (hx : p.tables.exec = Jvm.exec) {x : Value} (hx' : x.isRef = true) {o : Int} (hd : decode c.code pc = .ok (.ifnonnull o, 3)) (pcT pcF : Nat) (ho : 0 ≤ (pc : Int) + o) (hT : ((pc : Int) + o).toNat = pcT) (hF : pc + 3 = pcF) (G1 : ¬ x = .null → Go p e below P T (mkF m pcT Ls st)) (G2 : x = .null → Go p e below P T (mkF m pcF Ls st)) : Go p e below P T (mkF m pc Ls (x :: st)) := by
  by_cases q : x = .null
  · subst hF
    exact (G2 q).stp fun _ h => XT.nonnullNo X.here hx rfl hd rfl q h
  · exact (G1 q).stp fun _ h => XT.nonnullYes X.here hx rfl rfl hd rfl hx' q ho hT h
theorem g_ldc (X : Stand p l e R s m args below meth c T locs cells slots) (hx : p.tables.exec = Jvm.exec) (hZ : Z.Warmed39 s.vm) {own : String} (hown : s.vm.findClass own = some m.cls) {i : Nat} {v : Int32} (w : (Cond.constant own i v).before a0 Z = true) (hd : decode c.code pc = .ok (.ldc i, 2)) (pc' : Nat) (hp : pc + 2 = pc') (G : Go p e below P T (mkF m pc' Ls (.int v :: st))) : Go p e below P T (mkF m pc Ls st) := by
  subst hp
  exact G.stp fun _ h => Jvm.Stand.ldcI X hx hown (mv hZ w) rfl hd h
theorem g_ldc_w (X : Stand p l e R s m args below meth c T locs cells slots) (hx : p.tables.exec = Jvm.exec) (hZ : Z.Warmed39 s.vm) {own : String} (hown : s.vm.findClass own = some m.cls) {i : Nat} {v : Int32} (w : (Cond.constant own i v).before a0 Z = true) (hd : decode c.code pc = .ok (.ldc_w i, 3)) (pc' : Nat) (hp : pc + 3 = pc') (G : Go p e below P T (mkF m pc' Ls (.int v :: st))) : Go p e below P T (mkF m pc Ls st) := by
  subst hp
  exact G.stp fun _ h => Jvm.Stand.ldcWI X hx hown (mv hZ w) rfl hd h
theorem g_ldc2_w (X : Stand p l e R s m args below meth c T locs cells slots) (hx : p.tables.exec = Jvm.exec) (hZ : Z.Warmed39 s.vm) {own : String} (hown : s.vm.findClass own = some m.cls) {i : Nat} {v : Int64} (w : (Cond.constantLong own i v).before a0 Z = true) (hd : decode c.code pc = .ok (.ldc2_w i, 3)) (pc' : Nat) (hp : pc + 3 = pc') (G : Go p e below P T (mkF m pc' Ls (.long v :: st))) : Go p e below P T (mkF m pc Ls st) := by
  subst hp
  exact G.stp fun _ h => Jvm.Stand.ldc2J X hx hown (mv hZ w) rfl hd h
theorem g_getfield (X : Stand p l e R s m args below meth c T locs cells slots) (hx : p.tables.exec = Jvm.exec) (hZ : Z.Warmed39 s.vm) {own : String} (hown : s.vm.findClass own = some m.cls) {R0 O n d host : String} {i : Nat} (w : (Cond.fieldLink own i R0 n d).before a0 Z = true ∨ (Cond.fieldLinkNest own i R0 n d host).before a0 Z = true) (via : Via Z R0 O n d) {a : Addr} {v : Value} (F : Fld Z h a O n d v) (eT : T.heap = h) (hd : decode c.code pc = .ok (.getfield i, 3)) (pc' : Nat) (hp : pc + 3 = pc') (G : ∀ T', Stand p l e R s m args below meth c T' locs cells slots → T'.heap = h → Go p e below P T' (mkF m pc' Ls (v :: st))) : Go p e below P T (mkF m pc Ls (.ref a :: st)) := by
  subst hp
  obtain ⟨T', X', e', k⟩ := getF X hx hZ hown w via eT F (g := mkF m pc Ls (.ref a :: st)) rfl rfl hd
  exact (G T' X' e').stp k
theorem g_getstatic (X : Stand p l e R s m args below meth c T locs cells slots) (hx : p.tables.exec = Jvm.exec) (hZ : Z.Warmed39 s.vm) {own : String} (hown : s.vm.findClass own = some m.cls) {R0 O n d host : String} {i : Nat} (w : (Cond.fieldLink own i R0 n d).before a0 Z = true ∨ (Cond.fieldLinkNest own i R0 n d host).before a0 Z = true) (via : Via Z R0 O n d) {v : Value} (F : Sta Z h O n d v) (eT : T.heap = h) (hd : decode c.code pc = .ok (.getstatic i, 3)) (pc' : Nat) (hp : pc + 3 = pc') (G : ∀ T', Stand p l e R s m args below meth c T' locs cells slots → T'.heap = h → Go p e below P T' (mkF m pc' Ls (v :: st))) : Go p e below P T (mkF m pc Ls st) := by
  subst hp
  obtain ⟨T', X', e', k⟩ := getS2 X hx hZ hown w via eT F (g := mkF m pc Ls st) rfl hd
  exact (G T' X' e').stp k
theorem g_putfield (X : Stand p l e R s m args below meth c T locs cells slots) (hx : p.tables.exec = Jvm.exec) (hZ : Z.Warmed39 s.vm) {own : String} (hown : s.vm.findClass own = some m.cls) {R0 O n d host C : String} {i kk : Nat} {ty : FieldType} (w : (Cond.fieldLink own i R0 n d).before a0 Z = true ∨ (Cond.fieldLinkNest own i R0 n d host).before a0 Z = true) (via : Via Z R0 O n d) (eT : T.heap = h) {a : Addr} {v old : Value} (F : Fld Z h a O n d old) (E : Exa Z h a C) (L : (Cond.lays C O n d).before a0 Z = true ∨ ((Cond.laysFinal C O n d).before a0 Z = true ∧ own = O ∧ meth.name = "<init>")) (wi : (Cond.instantiable C kk).before a0 Z = true) (hty : parseFieldDescriptor d = some ty) (hn : narrow ty v = v) (hf : fits ty v = true) (hd : decode c.code pc = .ok (.putfield i, 3)) (pc' : Nat) (hp : pc + 3 = pc') (G : ∀ T' h', Stand p l e R s m args below meth c T' (locs ++ [⟨a, Jvm.RoadKit.slotOf Z O n d⟩]) cells slots → T'.heap = h' → Wr h h' a (Jvm.RoadKit.slotOf Z O n d) v → Go p e below P T' (mkF m pc' Ls st)) : Go p e below P T (mkF m pc Ls (v :: .ref a :: st)) := by
  subst hp
  obtain ⟨T', h', X', e', W, k⟩ := putF X hx hZ hown w via eT F E L wi hty hn hf (g := mkF m pc Ls (v :: .ref a :: st)) rfl rfl hd
  exact (G T' h' X' e' W).stp k
theorem g_initO (X : Stand p l e R s m args below meth c T locs cells slots) (hx : p.tables.exec = Jvm.exec) (hZ : Z.Warmed39 s.vm) {own : String} (hown : s.vm.findClass own = some m.cls) {i : Nat} (w1 : (Cond.methodLink own i Lib.objectInit).before a0 Z = true) (w2 : (Cond.instanceMethod Lib.objectInit).before a0 Z = true) (w3 : (Cond.code Lib.objectInit ⟨#[0xb1]⟩ 1 none).before a0 Z = true) (eT : T.heap = h) (hsz : Ls.size = c.maxLocals) {a : Addr} (hd : decode c.code pc = .ok (.invokespecial i, 3)) (hf : 1 ≤ R.frames) (W : Nat) (hW : (st.map fun v => v.category).sum ≤ W) (hl : W + 12 ≤ R.locals) (pc' : Nat) (hp : pc + 3 = pc') (G : ∀ T', Stand p l e R s m args below meth c T' locs cells slots → T'.heap = h → Go p e below P T' (mkF m pc' Ls st)) : Go p e below P T (mkF m pc Ls (.ref a :: st)) := by
  subst hp
  obtain ⟨T', X', e', k⟩ := initO X hx hZ hown w1 w2 w3 eT (g := mkF m pc Ls (.ref a :: st)) rfl hsz rfl hd hf (W := W) (by show 2 * 0 + _ ≤ W; omega) hl
  exact (G T' X' e').stp k
theorem g_new (X : Stand p l e R s m args below meth c T locs cells slots) (hx : p.tables.exec = Jvm.exec) (hZ : Z.Warmed39 s.vm) {own : String} (hown : s.vm.findClass own = some m.cls) {C : String} {i n : Nat} (w : (Cond.classLink own i C).before a0 Z = true) (wi : (Cond.instantiable C n).before a0 Z = true) (wz : (Cond.initialized C).before a0 Z = true) (eT : T.heap = h) (hd : decode c.code pc = .ok (.new i, 3)) (hc : cells + 1 ≤ R.cells) (hl : slots + n ≤ R.slots) (pc' : Nat) (hp : pc + 3 = pc') (G : ∀ T' h' b, Stand p l e R s m args below meth c T' locs (cells + 1) (slots + n) → T'.heap = h' → b = h.size → Ext h h' → Exa Z h' b C → (∀ {O nm d : String} {ty : FieldType}, Laid Z a0 C O nm d → parseFieldDescriptor d = some ty → Fld Z h' b O nm d (defaultValue ty)) → Go p e below P T' (mkF m pc' Ls (.ref b :: st))) : Go p e below P T (mkF m pc Ls st) := by
  subst hp
  obtain ⟨T', h', X', e', E, A, D, -, k⟩ := newO X hx hZ hown w wi wz eT (g := mkF m pc Ls st) rfl hd hc hl
  exact (G T' h' h.size X' e' rfl E A D).stp k
/-- the array at a: of that kind, holding just these values -/
def AV (Z : State) (h : Heap) (a : Addr) (ty : FieldType) (vs : List Value) : Prop := ∃ c : Cell, Arr Z h a c ty ∧ c.slots = vs.toArray ∧ vs.length < 2 ^ 31
theorem AV.lt {a : Addr} {ty : FieldType} {vs : List Value} (F : AV Z h a ty vs) : a < h.size := by obtain ⟨c, A, -⟩ := F; exact A.lt
theorem AV.ext {h' : Heap} {a : Addr} {ty : FieldType} {vs : List Value} (F : AV Z h a ty vs) (E : Ext h h') : AV Z h' a ty vs := by obtain ⟨c, A, r⟩ := F; exact ⟨c, A.ext E, r⟩
theorem AV.other {h' : Heap} {a b : Addr} {sl : Nat} {v : Value} {ty : FieldType} {vs : List Value} (F : AV Z h b ty vs) (W : Wr h h' a sl v) (q : b ≠ a) : AV Z h' b ty vs := by obtain ⟨c, A, r⟩ := F; exact ⟨c, A.other W q, r⟩
theorem AV.keep {h' : Heap} {a : Addr} {ws : List Addr} {ty : FieldType} {vs : List Value} (F : AV Z h a ty vs) (K : Keep h h' ws) (q : a ∉ ws) : AV Z h' a ty vs := by obtain ⟨c, A, r⟩ := F; exact ⟨c, ⟨K.2.1 a c A.1 q, A.2⟩, r⟩
theorem AV.same {h' : Heap} {a : Addr} {sl : Nat} {v : Value} {ty : FieldType} {vs : List Value} (F : AV Z h a ty vs) (W : Wr h h' a sl v) : AV Z h' a ty (vs.set sl v) := by
  obtain ⟨c, A, r1, r2⟩ := F
  exact ⟨_, A.same W, by simp [Cell.setSlot, r1], by simpa using r2⟩
theorem AV.new {a : Addr} {k : ClassId} {ty : FieldType} {n : Int32} (A : Arr Z h a (newA k ty n) ty) (vs : List Value) (q : vs = List.replicate n.toNatClampNeg (defaultValue ty)) (q2 : n.toNatClampNeg < 2 ^ 31) : AV Z h a ty vs := ⟨_, A, by subst q; simp [newA], by subst q; simpa using q2⟩
theorem AV.nostat {a : Addr} {ty : FieldType} {vs : List Value} (F : AV Z h a ty vs) : ∀ cell : Cell, h[a]? = some cell → cell.vm.isStatics = false := by obtain ⟨c, A, -⟩ := F; exact A.nostat
theorem in_of {vs : List Value} {c : Cell} {j : Int32} {v : Value} (r : c.slots = vs.toArray) (hj : ¬ j < 0) (hv : vs[j.toNatClampNeg]? = some v) : ¬ (j < 0 ∨ c.slots.size ≤ j.toNatClampNeg) := by
  have q := (List.getElem?_eq_some_iff.mp hv).1
  intro u
  rcases u with u | u
  · exact hj u
  · rw [r] at u; simp at u; omega
theorem g_iaload (X : Stand p l e R s m args below meth c T locs cells slots) (hx : p.tables.exec = Jvm.exec) (hZ : Z.Warmed39 s.vm) (eT : T.heap = h) {a : Addr} {vs : List Value} {j : Int32} {v : Value} (A : AV Z h a .int vs) (hj : ¬ j < 0) (hv : vs[j.toNatClampNeg]? = some v) (hd : decode c.code pc = .ok (.iaload, 1)) (pc' : Nat) (hp : pc + 1 = pc') (G : Go p e below P T (mkF m pc' Ls (v :: st))) : Go p e below P T (mkF m pc Ls (.int j :: .ref a :: st)) := by
  subst hp
  obtain ⟨cl, A, r1, r2⟩ := A
  exact G.stp fun _ k => X.iaload hx (j := j) (v := v) (by rw [eT]; exact A.1) (State.isArrayOf_alike hZ.alike A.2.1) A.2.2 (in_of r1 hj hv) (by rw [r1]; simpa using hv) (g := mkF m pc Ls (.int j :: .ref a :: st)) rfl rfl hd _ k
theorem g_caload (X : Stand p l e R s m args below meth c T locs cells slots) (hx : p.tables.exec = Jvm.exec) (hZ : Z.Warmed39 s.vm) (eT : T.heap = h) {a : Addr} {vs : List Value} {j : Int32} {v : Value} (A : AV Z h a .char vs) (hj : ¬ j < 0) (hv : vs[j.toNatClampNeg]? = some v) (hd : decode c.code pc = .ok (.caload, 1)) (pc' : Nat) (hp : pc + 1 = pc') (G : Go p e below P T (mkF m pc' Ls (v :: st))) : Go p e below P T (mkF m pc Ls (.int j :: .ref a :: st)) := by
  subst hp
  obtain ⟨cl, A, r1, r2⟩ := A
  exact G.stp fun _ k => X.caload hx (j := j) (v := v) (by rw [eT]; exact A.1) (State.isArrayOf_alike hZ.alike A.2.1) A.2.2 (in_of r1 hj hv) (by rw [r1]; simpa using hv) (g := mkF m pc Ls (.int j :: .ref a :: st)) rfl rfl hd _ k
theorem g_baload (X : Stand p l e R s m args below meth c T locs cells slots) (hx : p.tables.exec = Jvm.exec) (hZ : Z.Warmed39 s.vm) (eT : T.heap = h) {a : Addr} {vs : List Value} {j : Int32} {v : Value} (A : AV Z h a .byte vs) (hj : ¬ j < 0) (hv : vs[j.toNatClampNeg]? = some v) (hd : decode c.code pc = .ok (.baload, 1)) (pc' : Nat) (hp : pc + 1 = pc') (G : Go p e below P T (mkF m pc' Ls (v :: st))) : Go p e below P T (mkF m pc Ls (.int j :: .ref a :: st)) := by
  subst hp
  obtain ⟨cl, A, r1, r2⟩ := A
  exact G.stp fun _ k => X.baloadBytes hx (j := j) (v := v) (by rw [eT]; exact A.1) (State.isArrayOf_alike hZ.alike A.2.1) A.2.2 (in_of r1 hj hv) (by rw [r1]; simpa using hv) (g := mkF m pc Ls (.int j :: .ref a :: st)) rfl rfl hd _ k
theorem g_aaload (X : Stand p l e R s m args below meth c T locs cells slots) (hx : p.tables.exec = Jvm.exec) (hZ : Z.Warmed39 s.vm) (eT : T.heap = h) {a : Addr} {ty : FieldType} {vs : List Value} {j : Int32} {v : Value} (A : AV Z h a ty vs) (hty : ty.isReference = true) (hj : ¬ j < 0) (hv : vs[j.toNatClampNeg]? = some v) (hd : decode c.code pc = .ok (.aaload, 1)) (pc' : Nat) (hp : pc + 1 = pc') (G : Go p e below P T (mkF m pc' Ls (v :: st))) : Go p e below P T (mkF m pc Ls (.int j :: .ref a :: st)) := by
  subst hp
  obtain ⟨cl, A, r1, r2⟩ := A
  exact G.stp fun _ k => X.aaload hx (j := j) (v := v) (by rw [eT]; exact A.1) (State.isArrayOf_alike hZ.alike A.2.1) hty A.2.2 (in_of r1 hj hv) (by rw [r1]; simpa using hv) (g := mkF m pc Ls (.int j :: .ref a :: st)) rfl rfl hd _ k
theorem g_arraylength (X : Stand p l e R s m args below meth c T locs cells slots) (hx : p.tables.exec = Jvm.exec) (hZ : Z.Warmed39 s.vm) (eT : T.heap = h) {a : Addr} {ty : FieldType} {vs : List Value} (A : AV Z h a ty vs) (n : Int32) (hn : Int32.ofNat vs.length = n) (hd : decode c.code pc = .ok (.arraylength, 1)) (pc' : Nat) (hp : pc + 1 = pc') (G : Go p e below P T (mkF m pc' Ls (.int n :: st))) : Go p e below P T (mkF m pc Ls (.ref a :: st)) := by
  subst hp
  obtain ⟨cl, A, r1, r2⟩ := A
  have q : cl.slots.size.toInt32 = n := by rw [r1, ← hn]; simp
  rw [← q] at G
  exact G.stp fun _ k => X.arraylength hx (cell := cl) (by rw [eT]; exact A.1) (State.isArrayOf_alike hZ.alike A.2.1) (g := mkF m pc Ls (.ref a :: st)) rfl rfl hd _ k
theorem g_iastore (X : Stand p l e R s m args below meth c T locs cells slots) (hx : p.tables.exec = Jvm.exec) (hZ : Z.Warmed39 s.vm) (eT : T.heap = h) {a : Addr} {vs : List Value} {j x : Int32} (A : AV Z h a .int vs) (hj : ¬ j < 0) (hi : j.toNatClampNeg < vs.length) (hd : decode c.code pc = .ok (.iastore, 1)) (pc' : Nat) (hp : pc + 1 = pc') (G : ∀ T' h', Stand p l e R s m args below meth c T' (locs ++ [⟨a, j.toNatClampNeg⟩]) cells slots → T'.heap = h' → Wr h h' a j.toNatClampNeg (.int x) → AV Z h' a .int (vs.set j.toNatClampNeg (.int x)) → Go p e below P T' (mkF m pc' Ls st)) : Go p e below P T (mkF m pc Ls (.int x :: .int j :: .ref a :: st)) := by
  subst hp
  have A0 := A
  obtain ⟨cl, A, r1, r2⟩ := A
  obtain ⟨T', h', X', e', W, k⟩ := stI X hx hZ eT A (j := j) (x := x) (in_of r1 hj (List.getElem?_eq_getElem hi)) (g := mkF m pc Ls (.int x :: .int j :: .ref a :: st)) rfl rfl hd
  exact (G T' h' X' e' W (A0.same W)).stp k
theorem g_castore (X : Stand p l e R s m args below meth c T locs cells slots) (hx : p.tables.exec = Jvm.exec) (hZ : Z.Warmed39 s.vm) (eT : T.heap = h) {a : Addr} {vs : List Value} {j x : Int32} (A : AV Z h a .char vs) (hj : ¬ j < 0) (hi : j.toNatClampNeg < vs.length) (hd : decode c.code pc = .ok (.castore, 1)) (pc' : Nat) (hp : pc + 1 = pc') (G : ∀ T' h', Stand p l e R s m args below meth c T' (locs ++ [⟨a, j.toNatClampNeg⟩]) cells slots → T'.heap = h' → Wr h h' a j.toNatClampNeg (.int (nar .char x)) → AV Z h' a .char (vs.set j.toNatClampNeg (.int (nar .char x))) → Go p e below P T' (mkF m pc' Ls st)) : Go p e below P T (mkF m pc Ls (.int x :: .int j :: .ref a :: st)) := by
  subst hp
  have A0 := A
  obtain ⟨cl, A, r1, r2⟩ := A
  obtain ⟨T', h', X', e', W, k⟩ := stC X hx hZ eT A (j := j) (x := x) (in_of r1 hj (List.getElem?_eq_getElem hi)) (g := mkF m pc Ls (.int x :: .int j :: .ref a :: st)) rfl rfl hd
  exact (G T' h' X' e' W (A0.same W)).stp k
theorem g_bastore (X : Stand p l e R s m args below meth c T locs cells slots) (hx : p.tables.exec = Jvm.exec) (hZ : Z.Warmed39 s.vm) (eT : T.heap = h) {a : Addr} {vs : List Value} {j x : Int32} (A : AV Z h a .byte vs) (hj : ¬ j < 0) (hi : j.toNatClampNeg < vs.length) (hd : decode c.code pc = .ok (.bastore, 1)) (pc' : Nat) (hp : pc + 1 = pc') (G : ∀ T' h', Stand p l e R s m args below meth c T' (locs ++ [⟨a, j.toNatClampNeg⟩]) cells slots → T'.heap = h' → Wr h h' a j.toNatClampNeg (.int (nar .byte x)) → AV Z h' a .byte (vs.set j.toNatClampNeg (.int (nar .byte x))) → Go p e below P T' (mkF m pc' Ls st)) : Go p e below P T (mkF m pc Ls (.int x :: .int j :: .ref a :: st)) := by
  subst hp
  have A0 := A
  obtain ⟨cl, A, r1, r2⟩ := A
  obtain ⟨T', h', X', e', W, k⟩ := stB X hx hZ eT A (j := j) (x := x) (in_of r1 hj (List.getElem?_eq_getElem hi)) (g := mkF m pc Ls (.int x :: .int j :: .ref a :: st)) rfl rfl hd
  exact (G T' h' X' e' W (A0.same W)).stp k
theorem g_newarray (X : Stand p l e R s m args below meth c T locs cells slots) (hx : p.tables.exec = Jvm.exec) (hZ : Z.Warmed39 s.vm) {aty : ArrayType} (w : (Cond.arrayClass (newarray.typeOf aty)).before a0 Z = true) (eT : T.heap = h) {n : Int32} (hn : ¬ n < 0) (cap : Nat) (hcap : n.toNatClampNeg ≤ cap) (hb : cap * 8 ≤ 536870912) (hc : cells + 1 ≤ R.cells) (hl : slots + cap ≤ R.slots) (vs : List Value) (hvs : vs = List.replicate n.toNatClampNeg (defaultValue (newarray.typeOf aty))) (hd : decode c.code pc = .ok (.newarray aty, 2)) (pc' : Nat) (hp : pc + 2 = pc') (G : ∀ T' h' b, Stand p l e R s m args below meth c T' locs (cells + 1) (slots + cap) → T'.heap = h' → b = h.size → Ext h h' → AV Z h' b (newarray.typeOf aty) vs → Go p e below P T' (mkF m pc' Ls (.ref b :: st))) : Go p e below P T (mkF m pc Ls (.int n :: st)) := by
  subst hp
  obtain ⟨T', h', cA, X', e', E, A, k⟩ := newP X hx hZ w eT (g := mkF m pc Ls (.int n :: st)) rfl hd rfl hn hcap hb hc hl
  exact (G T' h' h.size X' e' rfl E (AV.new A vs hvs (by omega))).stp k
theorem g_checkcast (X : Stand p l e R s m args below meth c T locs cells slots) (hx : p.tables.exec = Jvm.exec) (hZ : Z.Warmed39 s.vm) {own : String} (hown : s.vm.findClass own = some m.cls) {K : String} {i : Nat} (w : (Cond.classLink own i K).before a0 Z = true) {a : Addr} (F : Ins Z h a K true) (eT : T.heap = h) (hd : decode c.code pc = .ok (.checkcast i, 3)) (pc' : Nat) (hp : pc + 3 = pc') (G : ∀ T', Stand p l e R s m args below meth c T' locs cells slots → T'.heap = h → Go p e below P T' (mkF m pc' Ls (.ref a :: st))) : Go p e below P T (mkF m pc Ls (.ref a :: st)) := by
  subst hp
  obtain ⟨T', X', e', k⟩ := castY X hx hZ hown w eT F (g := mkF m pc Ls (.ref a :: st)) rfl rfl hd
  exact (G T' X' e').stp k
theorem g_instYes (X : Stand p l e R s m args below meth c T locs cells slots) (hx : p.tables.exec = Jvm.exec) (hZ : Z.Warmed39 s.vm) {own : String} (hown : s.vm.findClass own = some m.cls) {K : String} {i : Nat} (w : (Cond.classLink own i K).before a0 Z = true) {a : Addr} (F : Ins Z h a K true) (eT : T.heap = h) (hd : decode c.code pc = .ok (.instanceof i, 3)) (pc' : Nat) (hp : pc + 3 = pc') (G : ∀ T', Stand p l e R s m args below meth c T' locs cells slots → T'.heap = h → Go p e below P T' (mkF m pc' Ls (.int 1 :: st))) : Go p e below P T (mkF m pc Ls (.ref a :: st)) := by
  subst hp
  obtain ⟨T', X', e', k⟩ := instY X hx hZ hown w eT F (g := mkF m pc Ls (.ref a :: st)) rfl rfl hd
  exact (G T' X' e').stp k
theorem g_instNo (X : Stand p l e R s m args below meth c T locs cells slots) (hx : p.tables.exec = Jvm.exec) (hZ : Z.Warmed39 s.vm) {own : String} (hown : s.vm.findClass own = some m.cls) {K C : String} {i : Nat} (w : (Cond.classLink own i K).before a0 Z = true) {a : Addr} (E : Exa Z h a C) (F : ∃ c t, Z.vm.findClass C = some c ∧ Z.vm.findClass K = some t ∧ Z.vm.assignable c t = false) (eT : T.heap = h) (hd : decode c.code pc = .ok (.instanceof i, 3)) (pc' : Nat) (hp : pc + 3 = pc') (G : ∀ T', Stand p l e R s m args below meth c T' locs cells slots → T'.heap = h → Go p e below P T' (mkF m pc' Ls (.int 0 :: st))) : Go p e below P T (mkF m pc Ls (.ref a :: st)) := by
  subst hp
  obtain ⟨T', X', e', k⟩ := instNo X hx hZ hown w eT E F (g := mkF m pc Ls (.ref a :: st)) rfl rfl hd
  exact (G T' X' e').stp k
theorem g_instNull (X : Stand p l e R s m args below meth c T locs cells slots) (hx : p.tables.exec = Jvm.exec) {i : Nat} (hd : decode c.code pc = .ok (.instanceof i, 3)) (pc' : Nat) (hp : pc + 3 = pc') (G : Go p e below P T (mkF m pc' Ls (.int 0 :: st))) : Go p e below P T (mkF m pc Ls (.null :: st)) := by
  subst hp
  exact G.stp fun _ h => X.instanceofNull hx (g := mkF m pc Ls (.null :: st)) rfl rfl hd _ h
theorem g_aastore (X : Stand p l e R s m args below meth c T locs cells slots) (hx : p.tables.exec = Jvm.exec) (hZ : Z.Warmed39 s.vm) (eT : T.heap = h) {a : Addr} {ty : FieldType} {vs : List Value} {j : Int32} {x : Value} (A : AV Z h a ty vs) (hty : ty.isReference = true) (F : Sto Z h a x) (hj : ¬ j < 0) (hi : j.toNatClampNeg < vs.length) (hd : decode c.code pc = .ok (.aastore, 1)) (pc' : Nat) (hp : pc + 1 = pc') (G : ∀ T' h', Stand p l e R s m args below meth c T' (locs ++ [⟨a, j.toNatClampNeg⟩]) cells slots → T'.heap = h' → Wr h h' a j.toNatClampNeg x → AV Z h' a ty (vs.set j.toNatClampNeg x) → Go p e below P T' (mkF m pc' Ls st)) : Go p e below P T (mkF m pc Ls (x :: .int j :: .ref a :: st)) := by
  subst hp
  have A0 := A
  obtain ⟨cl, A, r1, r2⟩ := A
  obtain ⟨T', h', X', e', W, k⟩ := stR X hx hZ eT A (j := j) (v := x) (in_of r1 hj (List.getElem?_eq_getElem hi)) hty F (g := mkF m pc Ls (x :: .int j :: .ref a :: st)) rfl rfl hd
  exact (G T' h' X' e' W (A0.same W)).stp k
/-- what may lie in the array at a: objects of C -/
def Ov (Z : State) (h : Heap) (a : Addr) (C : String) : Prop := ∃ c : Cell, h[a]? = some c ∧ Ovr Z c.cls C
theorem Ov.keep {h' : Heap} {a : Addr} {ws : List Addr} {C : String} (F : Ov Z h a C) (K : Keep h h' ws) : Ov Z h' a C := by obtain ⟨c, h1, o⟩ := F; obtain ⟨c', h2, e, -⟩ := K.2.2 a c h1; exact ⟨c', h2, by rw [e]; exact o⟩
theorem Ov.ext {h' : Heap} {a : Addr} {C : String} (F : Ov Z h a C) (E : Ext h h') : Ov Z h' a C := by obtain ⟨c, h1, o⟩ := F; exact ⟨c, E.2 _ _ h1, o⟩
theorem Ov.wr {h' : Heap} {a b : Addr} {sl : Nat} {v : Value} {C : String} (F : Ov Z h a C) (W : Wr h h' b sl v) : Ov Z h' a C := by obtain ⟨c, h1, o⟩ := F; obtain ⟨c', h2, e, -⟩ := wr_at W h1; exact ⟨c', h2, by rw [e]; exact o⟩
theorem Ov.lt {a : Addr} {C : String} (F : Ov Z h a C) : a < h.size := by obtain ⟨c, h1, -⟩ := F; exact (Array.getElem?_eq_some_iff.mp h1).1
theorem Ov.sto {a y : Addr} {C : String} {ty : FieldType} {vs : List Value} (F : Ov Z h a C) (A : AV Z h a ty vs) (I : Ins Z h y C true) : Sto Z h a (.ref y) := by
  obtain ⟨c, h1, o⟩ := F
  obtain ⟨c', A', -⟩ := A
  cases h1.symm.trans A'.1
  exact Sto.of A' o I
theorem g_anewarray (X : Stand p l e R s m args below meth c T locs cells slots) (hx : p.tables.exec = Jvm.exec) (hZ : Z.Warmed39 s.vm) {own : String} (hown : s.vm.findClass own = some m.cls) {C : String} {i : Nat} (w1 : (Cond.classLink own i C).before a0 Z = true) (w2 : (Cond.arrayOver (.object C)).before a0 Z = true) (eT : T.heap = h) {n : Int32} (hn : ¬ n < 0) (cap : Nat) (hcap : n.toNatClampNeg ≤ cap) (hb : cap * 8 ≤ 536870912) (hc : cells + 1 ≤ R.cells) (hl : slots + cap ≤ R.slots) (vs : List Value) (hvs : vs = List.replicate n.toNatClampNeg .null) (hd : decode c.code pc = .ok (.anewarray i, 3)) (pc' : Nat) (hp : pc + 3 = pc') (G : ∀ T' h' b, Stand p l e R s m args below meth c T' locs (cells + 1) (slots + cap) → T'.heap = h' → b = h.size → Ext h h' → AV Z h' b (.object C) vs → Ov Z h' b C → Go p e below P T' (mkF m pc' Ls (.ref b :: st))) : Go p e below P T (mkF m pc Ls (.int n :: st)) := by
  subst hp
  obtain ⟨T', h', cA, X', e', E, A, O, k⟩ := newR X hx hZ hown w1 w2 eT (g := mkF m pc Ls (.int n :: st)) rfl hd rfl hn hcap hb hc hl
  exact (G T' h' h.size X' e' rfl E (AV.new A vs hvs (by omega)) ⟨_, A.1, O⟩).stp k
theorem g_reti (X : Stand p l e R s m args below meth c T locs cells slots) (hx : p.tables.exec = Jvm.exec) {z : Int32} (hret : meth.sig.returnType = some .int) (hlk : meth.locks = false) {k n : Nat} {Q : Option Value → Heap → List Loc → Prop} (hk : cells ≤ k) (hn : slots ≤ n) (hd : decode c.code pc = .ok (.ireturn, 1)) (hq : Q (some (.int z)) T.heap locs) : Go p e below (RP s k n Q) T (mkF m pc Ls (.int z :: st)) := by
  obtain ⟨fs, hr, hrun, hended, hW, hsame⟩ := X.leave (v := (some (.int z))) (fun h => by first | rfl | (rw [hret] at h; cases h)) hlk
  exact ⟨_, _, retOut X hx hret rfl (Or.inl ⟨rfl, Or.inl rfl, z, rfl⟩) hd hr, hrun, hended, _, _, rfl, hq, ⟨_, rfl⟩, hW, hsame.mono hk hn⟩
theorem g_retz (X : Stand p l e R s m args below meth c T locs cells slots) (hx : p.tables.exec = Jvm.exec) {z : Int32} (hret : meth.sig.returnType = some .boolean) (hlk : meth.locks = false) {k n : Nat} {Q : Option Value → Heap → List Loc → Prop} (hk : cells ≤ k) (hn : slots ≤ n) (hd : decode c.code pc = .ok (.ireturn, 1)) (hq : Q (some (.int (z &&& 1))) T.heap locs) : Go p e below (RP s k n Q) T (mkF m pc Ls (.int z :: st)) := by
  obtain ⟨fs, hr, hrun, hended, hW, hsame⟩ := X.leave (v := (some (.int (z &&& 1)))) (fun h => by first | rfl | (rw [hret] at h; cases h)) hlk
  exact ⟨_, _, retN X hx (t := .boolean) hret (by simp) hd hr, hrun, hended, _, _, rfl, hq, ⟨_, rfl⟩, hW, hsame.mono hk hn⟩
theorem g_retb (X : Stand p l e R s m args below meth c T locs cells slots) (hx : p.tables.exec = Jvm.exec) {z : Int32} (hret : meth.sig.returnType = some .byte) (hlk : meth.locks = false) {k n : Nat} {Q : Option Value → Heap → List Loc → Prop} (hk : cells ≤ k) (hn : slots ≤ n) (hd : decode c.code pc = .ok (.ireturn, 1)) (hq : Q (some (.int z.toInt8.toInt32)) T.heap locs) : Go p e below (RP s k n Q) T (mkF m pc Ls (.int z :: st)) := by
  obtain ⟨fs, hr, hrun, hended, hW, hsame⟩ := X.leave (v := (some (.int z.toInt8.toInt32))) (fun h => by first | rfl | (rw [hret] at h; cases h)) hlk
  exact ⟨_, _, retN X hx (t := .byte) hret (by simp) hd hr, hrun, hended, _, _, rfl, hq, ⟨_, rfl⟩, hW, hsame.mono hk hn⟩
theorem g_retl (X : Stand p l e R s m args below meth c T locs cells slots) (hx : p.tables.exec = Jvm.exec) {z : Int64} (hret : meth.sig.returnType = some .long) (hlk : meth.locks = false) {k n : Nat} {Q : Option Value → Heap → List Loc → Prop} (hk : cells ≤ k) (hn : slots ≤ n) (hd : decode c.code pc = .ok (.lreturn, 1)) (hq : Q (some (.long z)) T.heap locs) : Go p e below (RP s k n Q) T (mkF m pc Ls (.long z :: st)) := by
  obtain ⟨fs, hr, hrun, hended, hW, hsame⟩ := X.leave (v := (some (.long z))) (fun h => by first | rfl | (rw [hret] at h; cases h)) hlk
  exact ⟨_, _, retOut X hx hret rfl (Or.inr (Or.inl ⟨rfl, rfl, z, rfl⟩)) hd hr, hrun, hended, _, _, rfl, hq, ⟨_, rfl⟩, hW, hsame.mono hk hn⟩
theorem g_reta (X : Stand p l e R s m args below meth c T locs cells slots) (hx : p.tables.exec = Jvm.exec) {v : Value} {t : FieldType} (hv : v.isRef = true) (ht : t.isReference = true) (hret : meth.sig.returnType = some t) (hlk : meth.locks = false) {k n : Nat} {Q : Option Value → Heap → List Loc → Prop} (hk : cells ≤ k) (hn : slots ≤ n) (hd : decode c.code pc = .ok (.areturn, 1)) (hq : Q (some v) T.heap locs) : Go p e below (RP s k n Q) T (mkF m pc Ls (v :: st)) := by
  obtain ⟨fs, hr, hrun, hended, hW, hsame⟩ := X.leave (v := (some v)) (fun h => by first | rfl | (rw [hret] at h; cases h)) hlk
  exact ⟨_, _, retOut X hx hret (by cases t <;> first | (cases ht; done) | rfl) (Or.inr (Or.inr (Or.inr (Or.inr ⟨rfl, ht, hv⟩)))) hd hr, hrun, hended, _, _, rfl, hq, ⟨_, rfl⟩, hW, hsame.mono hk hn⟩
theorem g_retv (X : Stand p l e R s m args below meth c T locs cells slots) (hx : p.tables.exec = Jvm.exec) (hret : meth.sig.returnType = none) (hlk : meth.locks = false) {k n : Nat} {Q : Option Value → Heap → List Loc → Prop} (hk : cells ≤ k) (hn : slots ≤ n) (hd : decode c.code pc = .ok (.return_, 1)) (hq : Q none T.heap locs) : Go p e below (RP s k n Q) T (mkF m pc Ls []) := by
  obtain ⟨fs, hr, hrun, hended, hW, hsame⟩ := X.leave (v := none) (fun _ => rfl) hlk
  exact ⟨_, _, X.returnOut hx hret hd hr, hrun, hended, _, _, rfl, hq, ⟨_, rfl⟩, hW, hsame.mono hk hn⟩
/-- what a method does, called with these arguments over this heap -/
def Co (l : Launch) (y : MethodName) (bytes : ByteArray) (maxL : Nat) (ret : Option FieldType) (ws : List Jvm.Cond) (rm : Room) (Z : State) (h : Heap) (as : Array Value) (Q : Option Value → Heap → List Loc → Prop) : Prop := MetFree l y (head1 (Jvm.Cond.code y bytes maxL ret :: ws) rm) (fun a U => a = as ∧ Z.Warmed39 U.vm ∧ U.heap = h) (fun _ _ _ _ _ => True) (fun _ U o U' => ∃ v L, o = .returned v ∧ Q v U'.heap L ∧ FrameEnd U o U' L rm.cells rm.slots)
theorem Co.of {y : MethodName} {bytes : ByteArray} {maxL : Nat} {ret : Option FieldType} {ws : List Jvm.Cond} {rm : Room} {as : Array Value} {Q : Option Value → Heap → List Loc → Prop} (hpl : plainFor y = true) (body : ∀ (p : Program) (e : Env) (s : State) (m : MethodId) (below : List Frame) (meth : Method) (c : Code) (T : State), Stand p l e rm s m as below meth c T [] 0 0 → p.tables.exec = Jvm.exec → c.code = bytes → c.maxLocals = maxL → s.vm.findClass y.cls = some m.cls → meth.name = y.name → meth.sig.returnType = ret → meth.locks = false → Z.Warmed39 s.vm → T.heap = h → Go p e below (RP s rm.cells rm.slots Q) T (entryFrame m as maxL)) : Co l y bytes maxL ret ws rm Z h as Q := by
  refine MetFree.of_bodySF hpl hisR ?_
  intro p e s m args below meth c s₁ Bd hml hP hK
  obtain ⟨rfl, hZ, hh⟩ := hP
  exact body p e s m below meth c s₁ (Stand.of_body Bd) Bd.exec Bd.bytes hml (findClass_of_methodNamed Bd.named) (name_of_methodNamed Bd.named Bd.method).1 Bd.returns (BodyLoose.notSynchronized Bd) hZ (by rw [← hh, Bd.state]; rfl)
theorem g_callS (X : Stand p l e R s m args below meth c T locs cells slots) (hx : p.tables.exec = Jvm.exec) (hZ : Z.Warmed39 s.vm) {own : String} (hown : s.vm.findClass own = some m.cls) {i : Nat} {y : MethodName} {bytes : ByteArray} {maxL : Nat} {ret : Option FieldType} (w1 : (Cond.methodLink own i y).before a0 Z = true) (w2 : (Cond.static y).before a0 Z = true) (w3 : (Cond.initialized y.cls).before a0 Z = true) (w4 : (Cond.code y bytes maxL ret).before a0 Z = true)  (hy : y.cls ≠ "java/lang/invoke/MethodHandle" ∧ y.cls ≠ "java/lang/invoke/VarHandle") (eT : T.heap = h) {rm : Room} {Q : Option Value → Heap → List Loc → Prop} {St : List Value} (argsL rest : List Value) (hs : St = argsL.reverse ++ rest) (M : Co l y bytes maxL ret [] rm Z h argsL.toArray Q) (hlen : ∀ sig, parseMethodDescriptor y.desc = some sig → argsL.length = sig.parameters.length) (W : Nat) (hW : (rest.map fun v => v.category).sum ≤ W) (hf : rm.frames + 1 ≤ R.frames) (hl : W + (maxL + 11) + rm.locals ≤ R.locals) (hc : cells + rm.cells ≤ R.cells) (hsl : slots + rm.slots ≤ R.slots) (hsz : Ls.size = c.maxLocals) (hd : decode c.code pc = .ok (.invokestatic i, 3)) (pc' : Nat) (hp : pc + 3 = pc') (G : ∀ v T' L, Stand p l e R s m args below meth c T' (locs ++ L) (cells + rm.cells) (slots + rm.slots) → Q v T'.heap L → Go p e below P T' (mkF m pc' Ls (v.toList ++ rest))) : Go p e below P T (mkF m pc Ls St) := by
  subst hp
  obtain ⟨v, vm1, ⟨T', L', k', n'⟩, -, X', ⟨L, hQ, h1, h2, h3⟩, k⟩ := Jvm.LawKit.callS X hx (y := y) hown (mvT hZ w1) (mvT hZ w2) (mvT hZ w3) (mvT hZ w4) hy (backOf (W := W) M hZ w4 w3 hf hl) (g := mkF m pc Ls St) rfl hsz (argsL := argsL) (rest := rest) hlen hs (by show 2 * 0 + _ ≤ W; omega) hd (fun _ _ => ⟨rfl, eT, hc, hsl⟩)
  dsimp only [Pt.U, Pt.locs, Pt.cells, Pt.slots] at X' h1 h2 h3 k hQ
  subst h1 h2 h3
  exact (G v T' L X' hQ).stp k
theorem g_init (X : Stand p l e R s m args below meth c T locs cells slots) (hx : p.tables.exec = Jvm.exec) (hZ : Z.Warmed39 s.vm) {own : String} (hown : s.vm.findClass own = some m.cls) {i : Nat} {y : MethodName} {bytes : ByteArray} {maxL : Nat} (w1 : (Cond.methodLink own i y).before a0 Z = true) (hnm : y.name = "<init>") (w2 : (Cond.instanceMethod y).before a0 Z = true) (w3 : (Cond.initialized y.cls).before a0 Z = true) (w4 : (Cond.code y bytes maxL none).before a0 Z = true)  (hy : y.cls ≠ "java/lang/invoke/MethodHandle" ∧ y.cls ≠ "java/lang/invoke/VarHandle") (eT : T.heap = h) {rm : Room} {Q : Option Value → Heap → List Loc → Prop} {St : List Value} (argsL rest : List Value) {a : Addr} (hs : St = argsL.reverse ++ .ref a :: rest) (M : Co l y bytes maxL none [] rm Z h (.ref a :: argsL).toArray Q) (hlen : ∀ sig, parseMethodDescriptor y.desc = some sig → argsL.length = sig.parameters.length) (W : Nat) (hW : (rest.map fun v => v.category).sum ≤ W) (hf : rm.frames + 1 ≤ R.frames) (hl : W + (maxL + 11) + rm.locals ≤ R.locals) (hc : cells + rm.cells ≤ R.cells) (hsl : slots + rm.slots ≤ R.slots) (hsz : Ls.size = c.maxLocals) (hd : decode c.code pc = .ok (.invokespecial i, 3)) (pc' : Nat) (hp : pc + 3 = pc') (G : ∀ v T' L, Stand p l e R s m args below meth c T' (locs ++ L) (cells + rm.cells) (slots + rm.slots) → Q v T'.heap L → Go p e below P T' (mkF m pc' Ls (v.toList ++ rest))) : Go p e below P T (mkF m pc Ls St) := by
  subst hp
  obtain ⟨v, vm1, ⟨T', L', k', n'⟩, -, X', ⟨L, hQ, h1, h2, h3⟩, k⟩ := X.specialBack hx (y := y) hnm hown (mvT hZ w1) (mvT hZ w2) (mvT hZ w4) hy (backOf (W := W) M hZ w4 w3 hf hl) (g := mkF m pc Ls St) rfl hsz (Steps.refl _) (a := a) (argsL := argsL) (rest := rest) hlen hs (by show 2 * 0 + _ ≤ W; omega) hd (fun _ _ => ⟨rfl, eT, hc, hsl⟩)
  dsimp only [Pt.U, Pt.locs, Pt.cells, Pt.slots] at X' h1 h2 h3 k hQ
  subst h1 h2 h3
  exact (G v T' L X' hQ).stp fun _ j => k.trans j
theorem g_callV (X : Stand p l e R s m args below meth c T locs cells slots) (hx : p.tables.exec = Jvm.exec) (hZ : Z.Warmed39 s.vm) {own : String} (hown : s.vm.findClass own = some m.cls) {i : Nat} {y : MethodName} {bytes : ByteArray} {maxL : Nat} {ret : Option FieldType} (w1 : (Cond.methodLink own i y).before a0 Z = true) {C : String} (w2 : (Cond.declares y).before a0 Z = true) (w5 : (Cond.selects C y y).before a0 Z = true) (w6 : (Cond.instanceMethod y).before a0 Z = true) (w3 : (Cond.initialized y.cls).before a0 Z = true) (w4 : (Cond.code y bytes maxL ret).before a0 Z = true)  (hy : y.cls ≠ "java/lang/invoke/MethodHandle" ∧ y.cls ≠ "java/lang/invoke/VarHandle") (eT : T.heap = h) {rm : Room} {Q : Option Value → Heap → List Loc → Prop} {St : List Value} (argsL rest : List Value) {a : Addr} (E : Exa Z h a C) (hs : St = argsL.reverse ++ .ref a :: rest) (M : Co l y bytes maxL ret [] rm Z h (.ref a :: argsL).toArray Q) (hlen : ∀ sig, parseMethodDescriptor y.desc = some sig → argsL.length = sig.parameters.length) (W : Nat) (hW : (rest.map fun v => v.category).sum ≤ W) (hf : rm.frames + 1 ≤ R.frames) (hl : W + (maxL + 11) + rm.locals ≤ R.locals) (hc : cells + rm.cells ≤ R.cells) (hsl : slots + rm.slots ≤ R.slots) (hsz : Ls.size = c.maxLocals) (hd : decode c.code pc = .ok (.invokevirtual i, 3)) (pc' : Nat) (hp : pc + 3 = pc') (G : ∀ v T' L, Stand p l e R s m args below meth c T' (locs ++ L) (cells + rm.cells) (slots + rm.slots) → Q v T'.heap L → Go p e below P T' (mkF m pc' Ls (v.toList ++ rest))) : Go p e below P T (mkF m pc Ls St) := by
  subst hp
  obtain ⟨cq, kq, qa, qb, qc⟩ := isOf hZ eT E
  obtain ⟨v, vm1, ⟨T', L', k', n'⟩, -, X', ⟨L, hQ, h1, h2, h3⟩, k⟩ := X.virtualBack hx (y := y) (z := y) hown (mvT hZ w1) (mvT hZ w2) (notFace_of_selects (args := #[]) (mvT hZ w5)) (mvT hZ w5) (mvT hZ w6) hy (backOf (W := W) M hZ w4 w3 hf hl) qa qc (g := mkF m pc Ls St) rfl hsz (Steps.refl _) (argsL := argsL) (rest := rest) hlen hs (by show 2 * 0 + _ ≤ W; omega) hd (fun _ _ => ⟨rfl, eT, hc, hsl⟩)
  dsimp only [Pt.U, Pt.locs, Pt.cells, Pt.slots] at X' h1 h2 h3 k hQ
  subst h1 h2 h3
  exact (G v T' L X' hQ).stp fun _ j => k.trans j
theorem g_callP (X : Stand p l e R s m args below meth c T locs cells slots) (hx : p.tables.exec = Jvm.exec) (hZ : Z.Warmed39 s.vm) {own : String} (hown : s.vm.findClass own = some m.cls) {i : Nat} {y : MethodName} {bytes : ByteArray} {maxL : Nat} {ret : Option FieldType} (w1 : (Cond.methodLink own i y).before a0 Z = true) {n : Nat} (w2 : (Cond.instanceMethod y).before a0 Z = true) (w5 : (Cond.privateMethod y).before a0 Z = true) (wi : (Cond.instantiable y.cls n).before a0 Z = true) (w3 : (Cond.initialized y.cls).before a0 Z = true) (w4 : (Cond.code y bytes maxL ret).before a0 Z = true)  (hy : y.cls ≠ "java/lang/invoke/MethodHandle" ∧ y.cls ≠ "java/lang/invoke/VarHandle") (eT : T.heap = h) {rm : Room} {Q : Option Value → Heap → List Loc → Prop} {St : List Value} (argsL rest : List Value) {a : Addr} (E : Exa Z h a y.cls) (hs : St = argsL.reverse ++ .ref a :: rest) (M : Co l y bytes maxL ret [] rm Z h (.ref a :: argsL).toArray Q) (hlen : ∀ sig, parseMethodDescriptor y.desc = some sig → argsL.length = sig.parameters.length) (W : Nat) (hW : (rest.map fun v => v.category).sum ≤ W) (hf : rm.frames + 1 ≤ R.frames) (hl : W + (maxL + 11) + rm.locals ≤ R.locals) (hc : cells + rm.cells ≤ R.cells) (hsl : slots + rm.slots ≤ R.slots) (hsz : Ls.size = c.maxLocals) (hd : decode c.code pc = .ok (.invokevirtual i, 3)) (pc' : Nat) (hp : pc + 3 = pc') (G : ∀ v T' L, Stand p l e R s m args below meth c T' (locs ++ L) (cells + rm.cells) (slots + rm.slots) → Q v T'.heap L → Go p e below P T' (mkF m pc' Ls (v.toList ++ rest))) : Go p e below P T (mkF m pc Ls St) := by
  subst hp
  obtain ⟨cl, q1, q2⟩ := E.cell
  have wi' : (Cond.instantiable y.cls n).before args s = true := mv hZ wi
  obtain ⟨ci, ki, i1, i2, i3, i4, -⟩ := Cond.instantiable_spec wi'
  have hpr : s.PrivateAt y := Cond.privateMethod_at (mvP hZ w5 (args := #[]))
  have hsel : (Cond.selects y.cls y y).before args s = true := selects_self_of_private i1 i2 (by simp only [Bool.or_eq_false_iff] at i4; exact i4.1) hpr (mv hZ w2) hy
  obtain ⟨v, vm1, ⟨T', L', k', n'⟩, -, X', ⟨L, hQ, h1, h2, h3⟩, k⟩ := X.privateBack hx (y := y) hown (mvT hZ w1) (mvT hZ w2) hsel hpr (mvT hZ w4) hy (backOf (W := W) M hZ w4 w3 hf hl) (g := mkF m pc Ls St) rfl hsz (Steps.refl _) (a := a) (by rw [eT]; exact q1) q2 (argsL := argsL) (rest := rest) hlen hs (by show 2 * 0 + _ ≤ W; omega) hd (fun _ _ => ⟨rfl, eT, hc, hsl⟩)
  dsimp only [Pt.U, Pt.locs, Pt.cells, Pt.slots] at X' h1 h2 h3 k hQ
  subst h1 h2 h3
  exact (G v T' L X' hQ).stp fun _ j => k.trans j
def Pu (h : Heap) (v : Option Value) (r : Option Value) (h' : Heap) (L : List Loc) : Prop := r = v ∧ h' = h ∧ L = []
theorem pu_cont {v : Option Value} {fr lo : Nat} {pc' : Nat} {rest : List Value} (G : ∀ T', Stand p l e R s m args below meth c T' locs cells slots → T'.heap = h → Go p e below P T' (mkF m pc' Ls (v.toList ++ rest))) : ∀ v' T' L, Stand p l e R s m args below meth c T' (locs ++ L) (cells + ({ frames := fr, cells := 0, slots := 0, locals := lo } : Room).cells) (slots + ({ frames := fr, cells := 0, slots := 0, locals := lo } : Room).slots) → Pu h v v' T'.heap L → Go p e below P T' (mkF m pc' Ls (v'.toList ++ rest)) := by
  rintro v' T' L X ⟨rfl, e1, rfl⟩
  exact G T' (by simpa using X) e1
theorem Go.joinT {α : Type} {g : JFrame} (X : Stand p l e R s m args below meth c T locs cells slots) (eT : T.heap = h) (f : α → JFrame) (Pz : α → Prop) (J : ∀ T', Stand p l e R s m args below meth c T' locs cells slots → T'.heap = h → ∀ z, Pz z → Go p e below P T' (f z)) (K : (∀ T', Stand p l e R s m args below meth c T' locs cells slots → T'.heap = h → ∀ z, Pz z → Go p e below P T' (f z)) → Go p e below P T g) : Go p e below P T g := K J
theorem Go.joinH {α : Type} {g : JFrame} (X : Stand p l e R s m args below meth c T locs cells slots) (f : α → JFrame) (Pz : Heap → List Loc → α → Prop) (kc kn : Nat) (J : ∀ T' h' locs', Stand p l e R s m args below meth c T' locs' kc kn → T'.heap = h' → ∀ z, Pz h' locs' z → Go p e below P T' (f z)) (K : (∀ T' h' locs', Stand p l e R s m args below meth c T' locs' kc kn → T'.heap = h' → ∀ z, Pz h' locs' z → Go p e below P T' (f z)) → Go p e below P T g) : Go p e below P T g := K J
theorem Go.loop {α : Type} (X : Stand p l e R s m args below meth c T locs cells slots) (eT : T.heap = h) (f : α → JFrame) (μ : α → Nat) (Pz : α → Prop) (body : ∀ z, Pz z → (∀ T', Stand p l e R s m args below meth c T' locs cells slots → T'.heap = h → ∀ z', Pz z' → μ z' < μ z → Go p e below P T' (f z')) → ∀ T', Stand p l e R s m args below meth c T' locs cells slots → T'.heap = h → Go p e below P T' (f z)) (z : α) (hz : Pz z) : Go p e below P T (f z) := by
  have key : ∀ n, ∀ z, μ z < n → Pz z → ∀ T', Stand p l e R s m args below meth c T' locs cells slots → T'.heap = h → Go p e below P T' (f z) := by
    intro n
    induction n with
    | zero => intro z hn; exact absurd hn (Nat.not_lt_zero _)
    | succ n ih =>
      intro z hn hz T' X' e'
      exact body z hz (fun T2 X2 e2 z2 hz2 hlt => ih z2 (by omega) hz2 T2 X2 e2) T' X' e'
  exact key (μ z + 1) z (Nat.lt_succ_self _) hz T X eT
theorem Go.loopH {α : Type} (X : Stand p l e R s m args below meth c T locs cells slots) (eT : T.heap = h) (f : α → JFrame) (μ : α → Nat) (Pz : Heap → List Loc → α → Prop) (body : ∀ z h' locs', Pz h' locs' z → (∀ T' h2 locs2, Stand p l e R s m args below meth c T' locs2 cells slots → T'.heap = h2 → ∀ z', Pz h2 locs2 z' → μ z' < μ z → Go p e below P T' (f z')) → ∀ T', Stand p l e R s m args below meth c T' locs' cells slots → T'.heap = h' → Go p e below P T' (f z)) (z : α) (hz : Pz h locs z) : Go p e below P T (f z) := by
  have key : ∀ n, ∀ z h' locs', μ z < n → Pz h' locs' z → ∀ T', Stand p l e R s m args below meth c T' locs' cells slots → T'.heap = h' → Go p e below P T' (f z) := by
    intro n
    induction n with
    | zero => intro z h' locs' hn; exact absurd hn (Nat.not_lt_zero _)
    | succ n ih =>
      intro z h' locs' hn hz T' X' e'
      exact body z h' locs' hz (fun T2 h2 locs2 X2 e2 z2 hz2 hlt => ih z2 h2 locs2 (by omega) hz2 T2 X2 e2) T' X' e'
  exact key (μ z + 1) z h locs (Nat.lt_succ_self _) hz T X eT
theorem own_sta_keep {C n d : String} {v : Value} {h' : Heap} {ws : List Addr} (F : Sta Z h C n d v) (K : Keep h h' ws) (q : ∀ x ∈ ws, ∀ cell : Cell, h[x]? = some cell → cell.vm.isStatics = false) : Sta Z h' C n d v := by
  obtain ⟨cf, i, k, f, st, cell, h1, h2, h3, h4, h5, h6, h7⟩ := F
  exact ⟨cf, i, k, f, st, cell, h1, h2, h3, h4, K.2.1 st cell h5 (fun hm => by rw [q st hm cell h5] at h6; cases h6), h6, h7⟩
end OwnGo
section OwnWide
variable {p : Program} {l : Launch} {e : Env} {R : Room} {s : State} {m : MethodId} {args : Array Value} {below : List Frame} {meth : Method} {c : Code} {T : State} {locs : List Loc} {cells slots : Nat} {P : State → Outcome → Prop} {pc : Nat} {Ls : Array Slot} {st : List Value} {Z : State} {a0 : Array Value} {h : Heap} {vm : Vm} {EL : List (String × Nat)} {k0 : Nat}
def RPH (s : State) (Z : State) (EL : List (String × Nat)) (k n : Nat) (Q : Option Value → Heap → List Loc → Prop) (t : State) (o : Outcome) : Prop := ∃ v L, o = .returned v ∧ Q v t.heap L ∧ CHr Z EL s.vm s.heap t.vm t.heap ∧ ReturnedEndW s o t L k n
def CoH (l : Launch) (y : MethodName) (bytes : ByteArray) (maxL : Nat) (ret : Option FieldType) (ws : List Jvm.Cond) (rm : Room) (Z : State) (EL : List (String × Nat)) (h : Heap) (as : Array Value) (Q : Option Value → Heap → List Loc → Prop) : Prop := MetFree l y (head1 (Jvm.Cond.code y bytes maxL ret :: ws) rm) (fun a U => a = as ∧ Z.Warmed39 U.vm ∧ U.heap = h ∧ CHv Z EL U.vm h) (fun _ _ _ _ _ => True) (fun _ U o U' => ∃ v L, o = .returned v ∧ Q v U'.heap L ∧ CHr Z EL U.vm U.heap U'.vm U'.heap ∧ ReturnedEndW U o U' L rm.cells rm.slots)
theorem CoH.of {y : MethodName} {bytes : ByteArray} {maxL : Nat} {ret : Option FieldType} {ws : List Jvm.Cond} {rm : Room} {as : Array Value} {Q : Option Value → Heap → List Loc → Prop} (hpl : plainFor y = true) (body : ∀ (p : Program) (e : Env) (s : State) (m : MethodId) (below : List Frame) (meth : Method) (c : Code) (T : State), Stand p l e rm (s.setVm s.vm) m as below meth c T [] 0 0 → p.tables.exec = Jvm.exec → c.code = bytes → c.maxLocals = maxL → s.vm.findClass y.cls = some m.cls → meth.name = y.name → meth.sig.returnType = ret → meth.locks = false → Z.Warmed39 s.vm → T.heap = h → s.heap = h → s.Since s.vm h.size → CHr Z EL s.vm s.heap s.vm h → Go p e below (RPH s Z EL rm.cells rm.slots Q) T (entryFrame m as maxL)) : CoH l y bytes maxL ret ws rm Z EL h as Q := by
  refine MetFree.of_bodySF hpl hisR ?_
  intro p e s m args below meth c s₁ Bd hml hP hK
  obtain ⟨rfl, hZ, hh, hC⟩ := hP
  have Xb : Stand p l e rm s m args below meth c s₁ [] 0 0 := Stand.of_body Bd
  refine body p e s m below meth c s₁ Xb Bd.exec Bd.bytes hml (findClass_of_methodNamed Bd.named) (name_of_methodNamed Bd.named Bd.method).1 Bd.returns (BodyLoose.notSynchronized Bd) hZ (by rw [← hh, Bd.state]; rfl) hh ((State.WarmedH.refl s).since _) ?_
  rw [hh]
  exact CHr.refl hC
theorem g_retiH (X : Stand p l e R (s.setVm vm) m args below meth c T locs cells slots) (hx : p.tables.exec = Jvm.exec) {z : Int32} (hret : meth.sig.returnType = some .int) (hlk : meth.locks = false) {k n : Nat} {Q : Option Value → Heap → List Loc → Prop} (hk : cells ≤ k) (hn : slots ≤ n) (hd : decode c.code pc = .ok (.ireturn, 1)) (eT : T.heap = h) (hZ : Z.Warmed39 vm) (hS : s.Since vm k0) (hk0 : k0 ≤ h.size) (hEL : EW Z a0 EL) (H : CHr Z EL s.vm s.heap vm h) (hq : Q (some (.int z)) h locs) : Go p e below (RPH s Z EL k n Q) T (mkF m pc Ls (.int z :: st)) := by
  obtain ⟨fs, hr, hrun, hended, hW, hsame⟩ := X.leave (v := (some (.int z))) (fun h => by first | rfl | (rw [hret] at h; cases h)) hlk
  have en := hS.ended hW (by show k0 ≤ T.heap.size; rw [eT]; exact hk0) (hsame.mono hk hn)
  refine ⟨_, _, retOut X hx hret rfl (Or.inl ⟨rfl, Or.inl rfl, z, rfl⟩) hd hr, hrun, hended, _, _, rfl, ?_, ?_, ⟨_, rfl⟩, en.1, en.2.1, en.2.2⟩
  · show Q _ T.heap _
    rw [eT]; exact hq
  · show CHr Z EL s.vm s.heap T.vm T.heap
    rw [eT]; exact H.trans (CHv.at X hZ hEL H.1)
theorem g_retzH (X : Stand p l e R (s.setVm vm) m args below meth c T locs cells slots) (hx : p.tables.exec = Jvm.exec) {z : Int32} (hret : meth.sig.returnType = some .boolean) (hlk : meth.locks = false) {k n : Nat} {Q : Option Value → Heap → List Loc → Prop} (hk : cells ≤ k) (hn : slots ≤ n) (hd : decode c.code pc = .ok (.ireturn, 1)) (eT : T.heap = h) (hZ : Z.Warmed39 vm) (hS : s.Since vm k0) (hk0 : k0 ≤ h.size) (hEL : EW Z a0 EL) (H : CHr Z EL s.vm s.heap vm h) (hq : Q (some (.int (z &&& 1))) h locs) : Go p e below (RPH s Z EL k n Q) T (mkF m pc Ls (.int z :: st)) := by
  obtain ⟨fs, hr, hrun, hended, hW, hsame⟩ := X.leave (v := (some (.int (z &&& 1)))) (fun h => by first | rfl | (rw [hret] at h; cases h)) hlk
  have en := hS.ended hW (by show k0 ≤ T.heap.size; rw [eT]; exact hk0) (hsame.mono hk hn)
  refine ⟨_, _, retN X hx (t := .boolean) hret (by simp) hd hr, hrun, hended, _, _, rfl, ?_, ?_, ⟨_, rfl⟩, en.1, en.2.1, en.2.2⟩
  · show Q _ T.heap _
    rw [eT]; exact hq
  · show CHr Z EL s.vm s.heap T.vm T.heap
    rw [eT]; exact H.trans (CHv.at X hZ hEL H.1)
theorem g_retaH (X : Stand p l e R (s.setVm vm) m args below meth c T locs cells slots) (hx : p.tables.exec = Jvm.exec) {v : Value} {t : FieldType} (hv : v.isRef = true) (ht : t.isReference = true) (hret : meth.sig.returnType = some t) (hlk : meth.locks = false) {k n : Nat} {Q : Option Value → Heap → List Loc → Prop} (hk : cells ≤ k) (hn : slots ≤ n) (hd : decode c.code pc = .ok (.areturn, 1)) (eT : T.heap = h) (hZ : Z.Warmed39 vm) (hS : s.Since vm k0) (hk0 : k0 ≤ h.size) (hEL : EW Z a0 EL) (H : CHr Z EL s.vm s.heap vm h) (hq : Q (some v) h locs) : Go p e below (RPH s Z EL k n Q) T (mkF m pc Ls (v :: st)) := by
  obtain ⟨fs, hr, hrun, hended, hW, hsame⟩ := X.leave (v := (some v)) (fun h => by first | rfl | (rw [hret] at h; cases h)) hlk
  have en := hS.ended hW (by show k0 ≤ T.heap.size; rw [eT]; exact hk0) (hsame.mono hk hn)
  refine ⟨_, _, retOut X hx hret (by cases t <;> first | (cases ht; done) | rfl) (Or.inr (Or.inr (Or.inr (Or.inr ⟨rfl, ht, hv⟩)))) hd hr, hrun, hended, _, _, rfl, ?_, ?_, ⟨_, rfl⟩, en.1, en.2.1, en.2.2⟩
  · show Q _ T.heap _
    rw [eT]; exact hq
  · show CHr Z EL s.vm s.heap T.vm T.heap
    rw [eT]; exact H.trans (CHv.at X hZ hEL H.1)
theorem g_retvH (X : Stand p l e R (s.setVm vm) m args below meth c T locs cells slots) (hx : p.tables.exec = Jvm.exec)  (hret : meth.sig.returnType = none) (hlk : meth.locks = false) {k n : Nat} {Q : Option Value → Heap → List Loc → Prop} (hk : cells ≤ k) (hn : slots ≤ n) (hd : decode c.code pc = .ok (.return_, 1)) (eT : T.heap = h) (hZ : Z.Warmed39 vm) (hS : s.Since vm k0) (hk0 : k0 ≤ h.size) (hEL : EW Z a0 EL) (H : CHr Z EL s.vm s.heap vm h) (hq : Q none h locs) : Go p e below (RPH s Z EL k n Q) T (mkF m pc Ls []) := by
  obtain ⟨fs, hr, hrun, hended, hW, hsame⟩ := X.leave (v := none) (fun h => by first | rfl | (rw [hret] at h; cases h)) hlk
  have en := hS.ended hW (by show k0 ≤ T.heap.size; rw [eT]; exact hk0) (hsame.mono hk hn)
  refine ⟨_, _, X.returnOut hx hret hd hr, hrun, hended, _, _, rfl, ?_, ?_, ⟨_, rfl⟩, en.1, en.2.1, en.2.2⟩
  · show Q _ T.heap _
    rw [eT]; exact hq
  · show CHr Z EL s.vm s.heap T.vm T.heap
    rw [eT]; exact H.trans (CHv.at X hZ hEL H.1)
theorem g_ldcO (X : Stand p l e R (s.setVm vm) m args below meth c T locs cells slots) (hx : p.tables.exec = Jvm.exec) {own text : String} {i : Nat} (hown : vm.findClass own = some m.cls) (ws : (Cond.stringLink own i text).before a0 Z = true) (wS : ∀ a ∈ Bundle.stringAtoms, a.before a0 Z = true) (eT : T.heap = h) (hZ : Z.Warmed39 vm) (hS : s.Since vm k0) (hk0 : k0 ≤ h.size) (hEL : EW Z a0 EL) (H : CHr Z EL s.vm s.heap vm h) (hd : decode c.code pc = .ok (.ldc i, 2)) {n : Nat} (hn : 4 * text.toList.length ≤ n) (hbig : n ≤ 536870912) (hc : cells + 2 ≤ R.cells) (hl : slots + (n + 4) ≤ R.slots) (pc' : Nat) (hp : pc + 2 = pc') (G : ∀ a T' h' k1, Stand p l e R (s.setVm T'.vm) m args below meth c T' locs (cells + 2) (slots + (n + 4)) → T'.heap = h' → Ext h h' → Z.Warmed39 T'.vm → T'.vm.findClass own = some m.cls → s.Since T'.vm k1 → k1 ≤ h'.size → CHr Z EL s.vm s.heap T'.vm h' → Go p e below P T' (mkF m pc' Ls (.ref a :: st))) : Go p e below P T (mkF m pc Ls st) := by
  subst hp
  obtain ⟨a, T', h', k1, X', e', E, hS', hk', hZ', ho', hC, -, k⟩ := ldcOH X hx hZ hown ws wS eT hS hk0 hEL H.1 (g := mkF m pc Ls st) rfl hd hn hbig hc hl
  exact (G a T' h' k1 X' e' E hZ' ho' hS' hk' (H.trans hC)).stp k
theorem av_of_arv {a : Addr} {k : ClassId} {ty : FieldType} {z : Int32} {vs : List Value} {d : Value} (F : Arv Z h a k ty z vs d) (hl : z.toNatClampNeg = vs.length) (hb : vs.length < 2 ^ 31) : AV Z h a ty vs := by
  obtain ⟨c, A, -, S, -, Hs, -⟩ := F
  refine ⟨c, A, ?_, hb⟩
  apply Array.ext
  · simp [S, hl]
  · intro i h1 h2
    have q := Hs i h1
    rw [Array.getElem?_eq_getElem h1] at q
    have h3 : i < vs.length := by simpa using h2
    simpa [List.getD_eq_getElem?_getD, List.getElem?_eq_getElem h3] using q
theorem g_ldcC (X : Stand p l e R (s.setVm vm) m args below meth c T locs cells slots) (hx : p.tables.exec = Jvm.exec) {own text : String} {i : Nat} (hown : vm.findClass own = some m.cls) (ws : (Cond.stringLink own i text).before a0 Z = true) (wS : ∀ a ∈ Bundle.stringAtoms, a.before a0 Z = true) (eT : T.heap = h) (hZ : Z.Warmed39 vm) (hS : s.Since vm k0) (hk0 : k0 ≤ h.size) (hEL : EW Z a0 EL) (H : CHr Z EL s.vm s.heap vm h) (hmem : (own, i) ∈ EL) {vs : List Value} {z : Int32} (ht : (∀ c ∈ text.toList, c.toNat < 256) ∧ text.toList.map (fun c => Value.int (Jvm.Lit.byteI c.toNat.toUInt16)) = vs) (hz : ¬ z < 0) (hzl : z.toNatClampNeg = vs.length) (hvl : vs.length < 2 ^ 31) (hd : decode c.code pc = .ok (.ldc i, 2)) {n : Nat} (hn : 4 * text.toList.length ≤ n) (hbig : n ≤ 536870912) (hc : cells + 2 ≤ R.cells) (hl : slots + (n + 4) ≤ R.slots) (pc' : Nat) (hp : pc + 2 = pc') (G : ∀ a b T' h' k1, Stand p l e R (s.setVm T'.vm) m args below meth c T' locs (cells + 2) (slots + (n + 4)) → T'.heap = h' → Ext h h' → Z.Warmed39 T'.vm → T'.vm.findClass own = some m.cls → s.Since T'.vm k1 → k1 ≤ h'.size → CHr Z EL s.vm s.heap T'.vm h' → Exa Z h' a "java/lang/String" → Fld Z h' a "java/lang/String" "coder" "B" (.int 0) → Fld Z h' a "java/lang/String" "value" "[B" (.ref b) → AV Z h' b .byte vs → (∀ x, Safe Z EL T'.vm h' x → x ≠ a ∧ x ≠ b) → Go p e below P T' (mkF m pc' Ls (.ref a :: st))) : Go p e below P T (mkF m pc Ls st) := by
  subst hp
  obtain ⟨a, T', h', k1, b, kk, X', e', E, hS', hk', hZ', ho', EA, FC, FV, AB, -, -, hC, -, hsf, k⟩ := ldcCH X hx hZ hown ws wS eT hS hk0 hEL hmem H.1 ht hz hzl (g := mkF m pc Ls st) rfl hd hn hbig hc hl
  exact (G a b T' h' k1 X' e' E hZ' ho' hS' hk' (H.trans hC) EA FC FV (av_of_arv AB hzl hvl) hsf).stp k
theorem g_callSH (X : Stand p l e R (s.setVm vm) m args below meth c T locs cells slots) (hx : p.tables.exec = Jvm.exec) {own : String} (hown : vm.findClass own = some m.cls) {i : Nat} {y : MethodName} {bytes : ByteArray} {maxL : Nat} {ret : Option FieldType} (w1 : (Cond.methodLink own i y).before a0 Z = true) (w2 : (Cond.static y).before a0 Z = true) (w3 : (Cond.initialized y.cls).before a0 Z = true) (w4 : (Cond.code y bytes maxL ret).before a0 Z = true)  (hy : y.cls ≠ "java/lang/invoke/MethodHandle" ∧ y.cls ≠ "java/lang/invoke/VarHandle") (eT : T.heap = h) {rm : Room} {Q : Option Value → Heap → List Loc → Prop} {St : List Value} (argsL rest : List Value) (hZ : Z.Warmed39 vm) (hS : s.Since vm k0) (hk0 : k0 ≤ h.size) (hEL : EW Z a0 EL) (H : CHr Z EL s.vm s.heap vm h) (hs : St = argsL.reverse ++ rest) (M : CoH l y bytes maxL ret [] rm Z EL h argsL.toArray Q) (hlen : ∀ sig, parseMethodDescriptor y.desc = some sig → argsL.length = sig.parameters.length) (W : Nat) (hW : (rest.map fun v => v.category).sum ≤ W) (hf : rm.frames + 1 ≤ R.frames) (hl : W + (maxL + 11) + rm.locals ≤ R.locals) (hc : cells + rm.cells ≤ R.cells) (hsl : slots + rm.slots ≤ R.slots) (hsz : Ls.size = c.maxLocals) (hd : decode c.code pc = .ok (.invokestatic i, 3)) (pc' : Nat) (hp : pc + 3 = pc') (G : ∀ v T' h' L, Stand p l e R (s.setVm T'.vm) m args below meth c T' (locs ++ L) (cells + rm.cells) (slots + rm.slots) → T'.heap = h' → Z.Warmed39 T'.vm → T'.vm.findClass own = some m.cls → s.Since T'.vm h'.size → CHr Z EL s.vm s.heap T'.vm h' → Q v h' L → Go p e below P T' (mkF m pc' Ls (v.toList ++ rest))) : Go p e below P T (mkF m pc Ls St) := by
  subst hp
  obtain ⟨v, vm1, ⟨T', L', k', n'⟩, -, X', hS', hgr, ⟨L, hQ, h1, h2, h3, h4⟩, k⟩ := callSS X hx (y := y) hown (mvT (s := s.setVm vm) hZ w1) (mvT (s := s.setVm vm) hZ w2) (mvT (s := s.setVm vm) hZ w3) (mvT (s := s.setVm vm) hZ w4) hy (backOfSH (W := W) M hZ w4 w3 hf hl hEL H.1) (g := mkF m pc Ls St) rfl hsz (argsL := argsL) (rest := rest) hlen hs (by show 2 * 0 + _ ≤ W; omega) hd (fun _ _ => ⟨rfl, eT, hc, hsl⟩)
  dsimp only [Pt.U, Pt.locs, Pt.cells, Pt.slots] at X' h1 h2 h3 h4 k hQ hS' hgr
  subst h1 h2 h3
  have hZ' : Z.Warmed39 T'.vm := State.Warmed39.trans (t := s.setVm vm) hZ hS'.1
  have ho' : T'.vm.findClass own = some m.cls := by rw [hS'.1.alike.findClass]; exact hown
  refine (G v T' _ L X' rfl hZ' ho' (hS.trans hS' (by rw [← eT] at hk0; omega)) (H.trans h4) hQ).stp ?_
  exact fun _ j => k.trans j
theorem g_initH (X : Stand p l e R (s.setVm vm) m args below meth c T locs cells slots) (hx : p.tables.exec = Jvm.exec) {own : String} (hown : vm.findClass own = some m.cls) {i : Nat} {y : MethodName} {bytes : ByteArray} {maxL : Nat} (w1 : (Cond.methodLink own i y).before a0 Z = true) (hnm : y.name = "<init>") (w2 : (Cond.instanceMethod y).before a0 Z = true) (w3 : (Cond.initialized y.cls).before a0 Z = true) (w4 : (Cond.code y bytes maxL none).before a0 Z = true)  (hy : y.cls ≠ "java/lang/invoke/MethodHandle" ∧ y.cls ≠ "java/lang/invoke/VarHandle") (eT : T.heap = h) {rm : Room} {Q : Option Value → Heap → List Loc → Prop} {St : List Value} (argsL rest : List Value) (hZ : Z.Warmed39 vm) (hS : s.Since vm k0) (hk0 : k0 ≤ h.size) (hEL : EW Z a0 EL) (H : CHr Z EL s.vm s.heap vm h) {a : Addr} (hs : St = argsL.reverse ++ .ref a :: rest) (M : CoH l y bytes maxL none [] rm Z EL h (.ref a :: argsL).toArray Q) (hlen : ∀ sig, parseMethodDescriptor y.desc = some sig → argsL.length = sig.parameters.length) (W : Nat) (hW : (rest.map fun v => v.category).sum ≤ W) (hf : rm.frames + 1 ≤ R.frames) (hl : W + (maxL + 11) + rm.locals ≤ R.locals) (hc : cells + rm.cells ≤ R.cells) (hsl : slots + rm.slots ≤ R.slots) (hsz : Ls.size = c.maxLocals) (hd : decode c.code pc = .ok (.invokespecial i, 3)) (pc' : Nat) (hp : pc + 3 = pc') (G : ∀ v T' h' L, Stand p l e R (s.setVm T'.vm) m args below meth c T' (locs ++ L) (cells + rm.cells) (slots + rm.slots) → T'.heap = h' → Z.Warmed39 T'.vm → T'.vm.findClass own = some m.cls → s.Since T'.vm h'.size → CHr Z EL s.vm s.heap T'.vm h' → Q v h' L → Go p e below P T' (mkF m pc' Ls (v.toList ++ rest))) : Go p e below P T (mkF m pc Ls St) := by
  subst hp
  obtain ⟨v, vm1, ⟨T', L', k', n'⟩, -, X', hS', hgr, ⟨L, hQ, h1, h2, h3, h4⟩, k⟩ := X.specialBackS hx (y := y) hnm hown (mvT (s := s.setVm vm) hZ w1) (mvT (s := s.setVm vm) hZ w2) (mvT (s := s.setVm vm) hZ w4) hy (backOfSH (W := W) M hZ w4 w3 hf hl hEL H.1) (g := mkF m pc Ls St) rfl hsz (Steps.refl _) (a := a) (argsL := argsL) (rest := rest) hlen hs (by show 2 * 0 + _ ≤ W; omega) hd (fun _ _ => ⟨rfl, eT, hc, hsl⟩)
  dsimp only [Pt.U, Pt.locs, Pt.cells, Pt.slots] at X' h1 h2 h3 h4 k hQ hS' hgr
  subst h1 h2 h3
  have hZ' : Z.Warmed39 T'.vm := State.Warmed39.trans (t := s.setVm vm) hZ hS'.1
  have ho' : T'.vm.findClass own = some m.cls := by rw [hS'.1.alike.findClass]; exact hown
  refine (G v T' _ L X' rfl hZ' ho' (hS.trans hS' (by rw [← eT] at hk0; omega)) (H.trans h4) hQ).stp ?_
  exact fun _ j => k.trans j
theorem AV.safe {a : Addr} {ty : FieldType} {vs : List Value} (hal : Z.vm.Alike vm) (F : AV Z h a ty vs) (ht : ty ≠ .byte) : Safe Z EL vm h a := by obtain ⟨c, A, -⟩ := F; exact Safe.arr hal A ht
theorem own_safe_new {h' : Heap} {b : Addr} (H : CHv Z EL vm h) (E : Ext h h') (gb : b = h.size) : Safe Z EL vm h' b := Safe.ext E H (Safe.new (Nat.le_of_eq gb.symm))
theorem own_safe_null {x : Addr} (hal : Z.vm.Alike vm) (E : Exa Z h x "java/lang/String") (F : Fld Z h x "java/lang/String" "value" "[B" .null) : Safe Z EL vm h x := fun B => by
  obtain ⟨cell, k, e1, e2, e3, -, -⟩ := E
  obtain ⟨p, -, u, a, -, q, -, G, rfl | rfl⟩ := B
  · obtain ⟨cell', cf, k', i, f, g1, g2, -, -, -, -, g7⟩ := F
    cases (show h[q.sa]? = some q.sC from G.ha).symm.trans g1
    obtain ⟨cS, ⟨⟨-, -, -, ⟨c1, k1, i1, f1, -⟩, -, -, -, v1, -⟩, -⟩, -⟩ := G
    obtain ⟨k3, e4⟩ := ff_back (U := Wst Z vm h) hal f1
    have e5 := e4.symm.trans g2
    simp only [Option.some.injEq, Prod.mk.injEq] at e5
    rw [e5.2.2.2, g7] at v1
    cases v1
  · cases (show h[q.sd]? = some q.SA from G.hd).symm.trans e1
    obtain ⟨cS, -, -, f, -⟩ := G
    have f : vm.findClass "[B" = some q.SA.cls := f
    rw [hal.findClass] at f
    obtain ⟨k1, q1, q2⟩ := Vm.findClass_spec f
    obtain ⟨k2, q3, q4⟩ := Vm.findClass_spec e2
    cases q1.symm.trans q3
    exact absurd (q2.symm.trans q4) (by decide)
end OwnWide
def EL : List (String × Nat) := [("com/example/quadrille/quadrille/nquads/Grammar", 9)]
theorem own_wS {a0 : Array Value} {Z : State} (hw : ∀ d ∈ tables_1, d.before a0 Z = true) : ∀ a ∈ Bundle.stringAtoms, a.before a0 Z = true := by
  intro d hd
  simp only [Bundle.stringAtoms, List.mem_cons, List.not_mem_nil, or_false] at hd
  rcases hd with rfl | rfl | rfl | rfl | rfl | rfl | rfl
  · exact wd hw 10 rfl
  · exact wd hw 11 rfl
  · exact wd hw 12 rfl
  · exact wd hw 13 rfl
  · exact wd hw 14 rfl
  · exact wd hw 15 rfl
  · exact wd hw 16 rfl
theorem ef7 (m_ : MethodId) (a : Addr)  : entryFrame m_ #[(.ref a)] 1 = mkF m_ 0 #[.val (.ref a)] [] := by first | (simp [entryFrame, mkF, argsToLocals, Value.category]; done) | rfl
theorem pn_0 : plainName "java/lang/String" = true := by first | (simp [plainName, overriddenIn]; done) | decide +kernel
theorem d7_0 : decode jdk_42_method_152_code 0 = .ok (.getstatic 38, 3) := by decide +kernel
theorem d7_3 : decode jdk_42_method_152_code 3 = .ok (.ifCond .eq 10, 3) := by decide +kernel
theorem d7_6 : decode jdk_42_method_152_code 6 = .ok (.aload_n 0, 1) := by decide +kernel
theorem d7_7 : decode jdk_42_method_152_code 7 = .ok (.getfield 15, 3) := by decide +kernel
theorem d7_10 : decode jdk_42_method_152_code 10 = .ok (.goto 4, 3) := by decide +kernel
theorem d7_14 : decode jdk_42_method_152_code 14 = .ok (.ireturn, 1) := by decide +kernel
set_option maxRecDepth 65536 in
set_option maxHeartbeats 40000000 in
theorem co7 (l : Launch) (Z : State) (a0 : Array Value) (hw : ∀ d ∈ tables_1, d.before a0 Z = true) (a : Addr) (b : Addr) (cs : Int32) (h0 : Heap) (E_a : Exa Z h0 a "java/lang/String") (F_coder : Fld Z h0 a "java/lang/String" "coder" "B" (.int (0 : Int32))) (F_value : Fld Z h0 a "java/lang/String" "value" "[B" (.ref b)) (A_b : AV Z h0 b .byte [(.int (60 : Int32)), (.int (62 : Int32)), (.int (34 : Int32)), (.int (123 : Int32)), (.int (125 : Int32)), (.int (124 : Int32)), (.int (94 : Int32)), (.int (96 : Int32)), (.int (92 : Int32))]) (S_cs : Sta Z h0 "java/lang/String" "COMPACT_STRINGS" "Z" (.int cs)) (hcs : ¬ cs = (0 : Int32)) : Co l (⟨"java/lang/String", "coder", "()B"⟩ : MethodName) jdk_42_method_152_code 1 (some .byte) [] ({ frames := 0, cells := 0, slots := 0, locals := 0 } : Room) Z h0 #[(.ref a)] (Pu h0 (some (.int ((0 : Int32) )))) := by
  refine Co.of (plainFor_of_name pn_0) ?_
  intro p_ e_ s_ m_ below meth c_ T0 X0 hx hby hml hown hnm hret hlk hZ e0
  refine Go.cast (ef7 m_ a ) ?_
  refine g_getstatic X0 hx hZ hown (host := "") (Or.inl (wd hw 32 rfl)) Via.refl S_cs e0 (hb hby d7_0) 3 rfl (fun T1 X2 e3 => ?_)
  show Go p_ e_ below _ T1 (mkF m_ 3 #[.val (.ref a)] [(.int cs)])
  refine g_if_eq X2 hx (hb hby d7_3) 13 6 (by decide) rfl rfl (fun q3 => ?_) (fun q3 => ?_)
  · exact absurd q3 hcs
  · refine g_aloadN X2 hx rfl rfl (hb hby d7_6) 7 rfl ?_
    refine g_getfield X2 hx hZ hown (host := "") (Or.inl (wd hw 33 rfl)) Via.refl F_coder e3 (hb hby d7_7) 10 rfl (fun T4 X5 e6 => ?_)
    show Go p_ e_ below _ T4 (mkF m_ 10 #[.val (.ref a)] [(.int (0 : Int32))])
    refine g_goto X5 hx (hb hby d7_10) 14 (by decide) rfl ?_
    exact g_retb X5 hx hret hlk (by decide) (by decide) (hb hby d7_14) ⟨congrArg (fun z => some (Value.int z)) rfl, e6, rfl⟩
theorem ef5 (m_ : MethodId) (a : Addr)  : entryFrame m_ #[(.ref a)] 1 = mkF m_ 0 #[.val (.ref a)] [] := by first | (simp [entryFrame, mkF, argsToLocals, Value.category]; done) | rfl
theorem d5_0 : decode jdk_42_method_154_code 0 = .ok (.getstatic 38, 3) := by decide +kernel
theorem d5_3 : decode jdk_42_method_154_code 3 = .ok (.ifCond .eq 14, 3) := by decide +kernel
theorem d5_6 : decode jdk_42_method_154_code 6 = .ok (.aload_n 0, 1) := by decide +kernel
theorem d5_7 : decode jdk_42_method_154_code 7 = .ok (.getfield 15, 3) := by decide +kernel
theorem d5_10 : decode jdk_42_method_154_code 10 = .ok (.ifCond .ne 7, 3) := by decide +kernel
theorem d5_13 : decode jdk_42_method_154_code 13 = .ok (.iconst 1, 1) := by decide +kernel
theorem d5_14 : decode jdk_42_method_154_code 14 = .ok (.goto 4, 3) := by decide +kernel
theorem d5_18 : decode jdk_42_method_154_code 18 = .ok (.ireturn, 1) := by decide +kernel
set_option maxRecDepth 65536 in
set_option maxHeartbeats 40000000 in
theorem co5 (l : Launch) (Z : State) (a0 : Array Value) (hw : ∀ d ∈ tables_1, d.before a0 Z = true) (a : Addr) (b : Addr) (cs : Int32) (h0 : Heap) (E_a : Exa Z h0 a "java/lang/String") (F_coder : Fld Z h0 a "java/lang/String" "coder" "B" (.int (0 : Int32))) (F_value : Fld Z h0 a "java/lang/String" "value" "[B" (.ref b)) (A_b : AV Z h0 b .byte [(.int (60 : Int32)), (.int (62 : Int32)), (.int (34 : Int32)), (.int (123 : Int32)), (.int (125 : Int32)), (.int (124 : Int32)), (.int (94 : Int32)), (.int (96 : Int32)), (.int (92 : Int32))]) (S_cs : Sta Z h0 "java/lang/String" "COMPACT_STRINGS" "Z" (.int cs)) (hcs : ¬ cs = (0 : Int32)) : Co l (⟨"java/lang/String", "isLatin1", "()Z"⟩ : MethodName) jdk_42_method_154_code 1 (some .boolean) [] ({ frames := 0, cells := 0, slots := 0, locals := 0 } : Room) Z h0 #[(.ref a)] (Pu h0 (some (.int ((1 : Int32) )))) := by
  refine Co.of (plainFor_of_name pn_0) ?_
  intro p_ e_ s_ m_ below meth c_ T0 X0 hx hby hml hown hnm hret hlk hZ e0
  refine Go.cast (ef5 m_ a ) ?_
  refine g_getstatic X0 hx hZ hown (host := "") (Or.inl (wd hw 32 rfl)) Via.refl S_cs e0 (hb hby d5_0) 3 rfl (fun T1 X2 e3 => ?_)
  show Go p_ e_ below _ T1 (mkF m_ 3 #[.val (.ref a)] [(.int cs)])
  refine g_if_eq X2 hx (hb hby d5_3) 17 6 (by decide) rfl rfl (fun q3 => ?_) (fun q3 => ?_)
  · exact absurd q3 hcs
  · refine g_aloadN X2 hx rfl rfl (hb hby d5_6) 7 rfl ?_
    refine g_getfield X2 hx hZ hown (host := "") (Or.inl (wd hw 33 rfl)) Via.refl F_coder e3 (hb hby d5_7) 10 rfl (fun T4 X5 e6 => ?_)
    show Go p_ e_ below _ T4 (mkF m_ 10 #[.val (.ref a)] [(.int (0 : Int32))])
    refine g_if_ne X5 hx (hb hby d5_10) 17 13 (by decide) rfl rfl (fun q10 => ?_) (fun q10 => ?_)
    · exact absurd rfl q10
    · refine g_iconst X5 hx (1 : Int32) rfl (hb hby d5_13) 14 rfl ?_
      refine g_goto X5 hx (hb hby d5_14) 18 (by decide) rfl ?_
      exact g_retz X5 hx hret hlk (by decide) (by decide) (hb hby d5_18) ⟨congrArg (fun z => some (Value.int z)) rfl, e6, rfl⟩
theorem ef6 (m_ : MethodId) (a : Addr)  : entryFrame m_ #[(.ref a)] 1 = mkF m_ 0 #[.val (.ref a)] [] := by first | (simp [entryFrame, mkF, argsToLocals, Value.category]; done) | rfl
theorem d6_0 : decode jdk_42_method_54_code 0 = .ok (.aload_n 0, 1) := by decide +kernel
theorem d6_1 : decode jdk_42_method_54_code 1 = .ok (.getfield 9, 3) := by decide +kernel
theorem d6_4 : decode jdk_42_method_54_code 4 = .ok (.arraylength, 1) := by decide +kernel
theorem d6_5 : decode jdk_42_method_54_code 5 = .ok (.aload_n 0, 1) := by decide +kernel
theorem pd_0 : parseMethodDescriptor "()B" = some ⟨[], some .byte⟩ := by decide +kernel
theorem d6_6 : decode jdk_42_method_54_code 6 = .ok (.invokevirtual 335, 3) := by decide +kernel
theorem d6_9 : decode jdk_42_method_54_code 9 = .ok (.ishr, 1) := by decide +kernel
theorem d6_10 : decode jdk_42_method_54_code 10 = .ok (.ireturn, 1) := by decide +kernel
set_option maxRecDepth 65536 in
set_option maxHeartbeats 40000000 in
theorem co6 (l : Launch) (Z : State) (a0 : Array Value) (hw : ∀ d ∈ tables_1, d.before a0 Z = true) (a : Addr) (b : Addr) (cs : Int32) (h0 : Heap) (E_a : Exa Z h0 a "java/lang/String") (F_coder : Fld Z h0 a "java/lang/String" "coder" "B" (.int (0 : Int32))) (F_value : Fld Z h0 a "java/lang/String" "value" "[B" (.ref b)) (A_b : AV Z h0 b .byte [(.int (60 : Int32)), (.int (62 : Int32)), (.int (34 : Int32)), (.int (123 : Int32)), (.int (125 : Int32)), (.int (124 : Int32)), (.int (94 : Int32)), (.int (96 : Int32)), (.int (92 : Int32))]) (S_cs : Sta Z h0 "java/lang/String" "COMPACT_STRINGS" "Z" (.int cs)) (hcs : ¬ cs = (0 : Int32)) : Co l (⟨"java/lang/String", "length", "()I"⟩ : MethodName) jdk_42_method_54_code 1 (some .int) [] ({ frames := 1, cells := 0, slots := 0, locals := 13 } : Room) Z h0 #[(.ref a)] (Pu h0 (some (.int ((9 : Int32) )))) := by
  refine Co.of (plainFor_of_name pn_0) ?_
  intro p_ e_ s_ m_ below meth c_ T0 X0 hx hby hml hown hnm hret hlk hZ e0
  refine Go.cast (ef6 m_ a ) ?_
  refine g_aloadN X0 hx rfl rfl (hb hby d6_0) 1 rfl ?_
  refine g_getfield X0 hx hZ hown (host := "") (Or.inl (wd hw 34 rfl)) Via.refl F_value e0 (hb hby d6_1) 4 rfl (fun T1 X2 e3 => ?_)
  show Go p_ e_ below _ T1 (mkF m_ 4 #[.val (.ref a)] [(.ref b)])
  refine g_arraylength X2 hx hZ e3 A_b (9 : Int32) rfl (hb hby d6_4) 5 rfl ?_
  refine g_aloadN X2 hx rfl rfl (hb hby d6_5) 6 rfl ?_
  refine g_callV X2 hx hZ hown (wd hw 40 rfl) (C := "java/lang/String") (wd hw 41 rfl) (wd hw 43 rfl) (wd hw 42 rfl) (wd hw 10 rfl) (wd hw 44 rfl) (by decide) e3 [] [(.int (9 : Int32))] E_a rfl (co7 l Z a0 hw a b cs h0 E_a F_coder F_value A_b S_cs hcs) (lenOf pd_0 rfl) 1 (Nat.le_of_eq rfl) (by decide) (by decide) (by decide) (by decide) (by rw [hml]; rfl) (hb hby d6_6) 9 rfl (pu_cont fun T5 X4 e6 => ?_)
  show Go p_ e_ below _ T5 (mkF m_ 9 #[.val (.ref a)] [(.int (0 : Int32)), (.int (9 : Int32))])
  refine g_ishr X4 hx (hb hby d6_9) 10 rfl ?_
  exact g_reti X4 hx hret hlk (by decide) (by decide) (hb hby d6_10) ⟨congrArg (fun z => some (Value.int z)) (by decide), e6, rfl⟩
theorem d9_0 : decode jdk_43_method_4_code 0 = .ok (.iload_n 0, 1) := by decide +kernel
theorem d9_1 : decode jdk_43_method_4_code 1 = .ok (.ifCond .lt 14, 3) := by decide +kernel
theorem d9_15 : decode jdk_43_method_4_code 15 = .ok (.iconst 0, 1) := by decide +kernel
theorem d9_4 : decode jdk_43_method_4_code 4 = .ok (.iload_n 0, 1) := by decide +kernel
theorem d9_5 : decode jdk_43_method_4_code 5 = .ok (.sipush 255, 3) := by decide +kernel
theorem d9_8 : decode jdk_43_method_4_code 8 = .ok (.if_icmp .gt 7, 3) := by decide +kernel
theorem d9_11 : decode jdk_43_method_4_code 11 = .ok (.iconst 1, 1) := by decide +kernel
theorem d9_12 : decode jdk_43_method_4_code 12 = .ok (.goto 4, 3) := by decide +kernel
def can (x0 : Int32) : Int32 := if x0 < (0 : Int32) then ((0 : Int32) &&& 1) else (if (255 : Int32) < x0 then ((0 : Int32) &&& 1) else ((1 : Int32) &&& 1))
theorem ef9 (m_ : MethodId) (x0 : Int32)  : entryFrame m_ #[(.int x0)] 1 = mkF m_ 0 #[.val (.int x0)] [] := by first | (simp [entryFrame, mkF, argsToLocals, Value.category]; done) | rfl
theorem pn_1 : plainName "java/lang/StringLatin1" = true := by first | (simp [plainName, overriddenIn]; done) | decide +kernel
theorem d9_16 : decode jdk_43_method_4_code 16 = .ok (.ireturn, 1) := by decide +kernel
set_option maxRecDepth 65536 in
set_option maxHeartbeats 40000000 in
theorem co9 (l : Launch) (Z : State) (a0 : Array Value) (hw : ∀ d ∈ tables_1, d.before a0 Z = true) (x0 : Int32) (h0 : Heap)  : Co l (⟨"java/lang/StringLatin1", "canEncode", "(I)Z"⟩ : MethodName) jdk_43_method_4_code 1 (some .boolean) [] ({ frames := 0, cells := 0, slots := 0, locals := 0 } : Room) Z h0 #[(.int x0)] (Pu h0 (some (.int (can x0)))) := by
  refine Co.of (plainFor_of_name pn_1) ?_
  intro p_ e_ s_ m_ below meth c_ T0 X0 hx hby hml hown hnm hret hlk hZ e0
  refine Go.cast (ef9 m_ x0 ) ?_
  refine g_iloadN X0 hx rfl (hb hby d9_0) 1 rfl ?_
  refine g_if_lt X0 hx (hb hby d9_1) 15 4 (by decide) rfl rfl (fun q1 => ?_) (fun q1 => ?_)
  · refine g_iconst X0 hx (0 : Int32) rfl (hb hby d9_15) 16 rfl ?_
    exact g_retz X0 hx hret hlk (by decide) (by decide) (hb hby d9_16) ⟨congrArg (fun z => some (Value.int z)) (show can x0 = _ from ((if_pos q1).trans rfl)).symm, e0, rfl⟩
  · refine g_iloadN X0 hx rfl (hb hby d9_4) 5 rfl ?_
    refine g_sipush X0 hx (255 : Int32) rfl (hb hby d9_5) 8 rfl ?_
    refine g_icmp_gt X0 hx (hb hby d9_8) 15 11 (by decide) rfl rfl (fun q8 => ?_) (fun q8 => ?_)
    · refine g_iconst X0 hx (0 : Int32) rfl (hb hby d9_15) 16 rfl ?_
      exact g_retz X0 hx hret hlk (by decide) (by decide) (hb hby d9_16) ⟨congrArg (fun z => some (Value.int z)) (show can x0 = _ from ((if_neg q1).trans ((if_pos q8).trans rfl))).symm, e0, rfl⟩
    · refine g_iconst X0 hx (1 : Int32) rfl (hb hby d9_11) 12 rfl ?_
      refine g_goto X0 hx (hb hby d9_12) 16 (by decide) rfl ?_
      exact g_retz X0 hx hret hlk (by decide) (by decide) (hb hby d9_16) ⟨congrArg (fun z => some (Value.int z)) (show can x0 = _ from ((if_neg q1).trans ((if_neg q8).trans rfl))).symm, e0, rfl⟩
theorem d10_0 : decode jdk_29_method_65_code 0 = .ok (.iload_n 0, 1) := by decide +kernel
theorem d10_1 : decode jdk_29_method_65_code 1 = .ok (.iload_n 1, 1) := by decide +kernel
theorem d10_2 : decode jdk_29_method_65_code 2 = .ok (.if_icmp .lt 7, 3) := by decide +kernel
theorem d10_9 : decode jdk_29_method_65_code 9 = .ok (.iload_n 1, 1) := by decide +kernel
theorem d10_5 : decode jdk_29_method_65_code 5 = .ok (.iload_n 0, 1) := by decide +kernel
theorem d10_6 : decode jdk_29_method_65_code 6 = .ok (.goto 4, 3) := by decide +kernel
def mx (x : Int32) (y : Int32) : Int32 := if x < y then y else x
theorem ef10 (m_ : MethodId) (x : Int32) (y : Int32)  : entryFrame m_ #[(.int x), (.int y)] 2 = mkF m_ 0 #[.val (.int x), .val (.int y)] [] := by first | (simp [entryFrame, mkF, argsToLocals, Value.category]; done) | rfl
theorem d10_10 : decode jdk_29_method_65_code 10 = .ok (.ireturn, 1) := by decide +kernel
set_option maxRecDepth 65536 in
set_option maxHeartbeats 40000000 in
theorem co10 (l : Launch) (Z : State) (a0 : Array Value) (hw : ∀ d ∈ tables_1, d.before a0 Z = true) (x : Int32) (y : Int32) (h0 : Heap)  : Co l (⟨"java/lang/Math", "max", "(II)I"⟩ : MethodName) jdk_29_method_65_code 2 (some .int) [] ({ frames := 0, cells := 0, slots := 0, locals := 0 } : Room) Z h0 #[(.int x), (.int y)] (Pu h0 (some (.int (mx x y)))) := by
  refine Co.of (by decide +kernel) ?_
  intro p_ e_ s_ m_ below meth c_ T0 X0 hx hby hml hown hnm hret hlk hZ e0
  refine Go.cast (ef10 m_ x y ) ?_
  refine g_iloadN X0 hx rfl (hb hby d10_0) 1 rfl ?_
  refine g_iloadN X0 hx rfl (hb hby d10_1) 2 rfl ?_
  refine g_icmp_lt X0 hx (hb hby d10_2) 9 5 (by decide) rfl rfl (fun q2 => ?_) (fun q2 => ?_)
  · refine g_iloadN X0 hx rfl (hb hby d10_9) 10 rfl ?_
    exact g_reti X0 hx hret hlk (by decide) (by decide) (hb hby d10_10) ⟨congrArg (fun z => some (Value.int z)) (show mx x y = _ from ((if_pos q2).trans rfl)).symm, e0, rfl⟩
  · refine g_iloadN X0 hx rfl (hb hby d10_5) 6 rfl ?_
    refine g_goto X0 hx (hb hby d10_6) 10 (by decide) rfl ?_
    exact g_reti X0 hx hret hlk (by decide) (by decide) (hb hby d10_10) ⟨congrArg (fun z => some (Value.int z)) (show mx x y = _ from ((if_neg q2).trans rfl)).symm, e0, rfl⟩
theorem d11_0 : decode jdk_29_method_69_code 0 = .ok (.iload_n 0, 1) := by decide +kernel
theorem d11_1 : decode jdk_29_method_69_code 1 = .ok (.iload_n 1, 1) := by decide +kernel
theorem d11_2 : decode jdk_29_method_69_code 2 = .ok (.if_icmp .gt 7, 3) := by decide +kernel
theorem d11_9 : decode jdk_29_method_69_code 9 = .ok (.iload_n 1, 1) := by decide +kernel
theorem d11_5 : decode jdk_29_method_69_code 5 = .ok (.iload_n 0, 1) := by decide +kernel
theorem d11_6 : decode jdk_29_method_69_code 6 = .ok (.goto 4, 3) := by decide +kernel
def mn (x : Int32) (y : Int32) : Int32 := if y < x then y else x
theorem ef11 (m_ : MethodId) (x : Int32) (y : Int32)  : entryFrame m_ #[(.int x), (.int y)] 2 = mkF m_ 0 #[.val (.int x), .val (.int y)] [] := by first | (simp [entryFrame, mkF, argsToLocals, Value.category]; done) | rfl
theorem d11_10 : decode jdk_29_method_69_code 10 = .ok (.ireturn, 1) := by decide +kernel
set_option maxRecDepth 65536 in
set_option maxHeartbeats 40000000 in
theorem co11 (l : Launch) (Z : State) (a0 : Array Value) (hw : ∀ d ∈ tables_1, d.before a0 Z = true) (x : Int32) (y : Int32) (h0 : Heap)  : Co l (⟨"java/lang/Math", "min", "(II)I"⟩ : MethodName) jdk_29_method_69_code 2 (some .int) [] ({ frames := 0, cells := 0, slots := 0, locals := 0 } : Room) Z h0 #[(.int x), (.int y)] (Pu h0 (some (.int (mn x y)))) := by
  refine Co.of (by decide +kernel) ?_
  intro p_ e_ s_ m_ below meth c_ T0 X0 hx hby hml hown hnm hret hlk hZ e0
  refine Go.cast (ef11 m_ x y ) ?_
  refine g_iloadN X0 hx rfl (hb hby d11_0) 1 rfl ?_
  refine g_iloadN X0 hx rfl (hb hby d11_1) 2 rfl ?_
  refine g_icmp_gt X0 hx (hb hby d11_2) 9 5 (by decide) rfl rfl (fun q2 => ?_) (fun q2 => ?_)
  · refine g_iloadN X0 hx rfl (hb hby d11_9) 10 rfl ?_
    exact g_reti X0 hx hret hlk (by decide) (by decide) (hb hby d11_10) ⟨congrArg (fun z => some (Value.int z)) (show mn x y = _ from ((if_pos q2).trans rfl)).symm, e0, rfl⟩
  · refine g_iloadN X0 hx rfl (hb hby d11_5) 6 rfl ?_
    refine g_goto X0 hx (hb hby d11_6) 10 (by decide) rfl ?_
    exact g_reti X0 hx hret hlk (by decide) (by decide) (hb hby d11_10) ⟨congrArg (fun z => some (Value.int z)) (show mn x y = _ from ((if_neg q2).trans rfl)).symm, e0, rfl⟩
theorem d12_0 : decode jdk_43_method_23_code 0 = .ok (.iload_n 1, 1) := by decide +kernel
theorem d12_1 : decode jdk_43_method_23_code 1 = .ok (.i2b, 1) := by decide +kernel
theorem d12_2 : decode jdk_43_method_23_code 2 = .ok (.istore 4, 2) := by decide +kernel
theorem d12_4 : decode jdk_43_method_23_code 4 = .ok (.iload_n 2, 1) := by decide +kernel
theorem d12_5 : decode jdk_43_method_23_code 5 = .ok (.istore 5, 2) := by decide +kernel
theorem d12_7 : decode jdk_43_method_23_code 7 = .ok (.iload 5, 2) := by decide +kernel
theorem d12_9 : decode jdk_43_method_23_code 9 = .ok (.iload_n 3, 1) := by decide +kernel
theorem d12_10 : decode jdk_43_method_23_code 10 = .ok (.if_icmp .ge 21, 3) := by decide +kernel
theorem d12_13 : decode jdk_43_method_23_code 13 = .ok (.aload_n 0, 1) := by decide +kernel
theorem d12_14 : decode jdk_43_method_23_code 14 = .ok (.iload 5, 2) := by decide +kernel
theorem d12_16 : decode jdk_43_method_23_code 16 = .ok (.baload, 1) := by decide +kernel
theorem d12_17 : decode jdk_43_method_23_code 17 = .ok (.iload 4, 2) := by decide +kernel
theorem d12_19 : decode jdk_43_method_23_code 19 = .ok (.if_icmp .ne 6, 3) := by decide +kernel
theorem d12_25 : decode jdk_43_method_23_code 25 = .ok (.iinc 5 1, 3) := by decide +kernel
theorem d12_28 : decode jdk_43_method_23_code 28 = .ok (.goto (-21), 3) := by decide +kernel
theorem d12_31 : decode jdk_43_method_23_code 31 = .ok (.iconst (-1), 1) := by decide +kernel
theorem d12_22 : decode jdk_43_method_23_code 22 = .ok (.iload 5, 2) := by decide +kernel
def ioc (c : Int32) : Int32 := if (60 : Int32) = c.toInt8.toInt32 then (0 : Int32) else (if (62 : Int32) = c.toInt8.toInt32 then (1 : Int32) else (if (34 : Int32) = c.toInt8.toInt32 then (2 : Int32) else (if (123 : Int32) = c.toInt8.toInt32 then (3 : Int32) else (if (125 : Int32) = c.toInt8.toInt32 then (4 : Int32) else (if (124 : Int32) = c.toInt8.toInt32 then (5 : Int32) else (if (94 : Int32) = c.toInt8.toInt32 then (6 : Int32) else (if (96 : Int32) = c.toInt8.toInt32 then (7 : Int32) else (if (92 : Int32) = c.toInt8.toInt32 then (8 : Int32) else (-1 : Int32)))))))))
theorem ef12 (m_ : MethodId) (b : Addr) (c : Int32)  : entryFrame m_ #[(.ref b), (.int c), (.int (0 : Int32)), (.int (9 : Int32))] 6 = mkF m_ 0 #[.val (.ref b), .val (.int c), .val (.int (0 : Int32)), .val (.int (9 : Int32)), .unset, .unset] [] := by first | (simp [entryFrame, mkF, argsToLocals, Value.category]; done) | rfl
theorem d12_32 : decode jdk_43_method_23_code 32 = .ok (.ireturn, 1) := by decide +kernel
theorem d12_24 : decode jdk_43_method_23_code 24 = .ok (.ireturn, 1) := by decide +kernel
set_option maxRecDepth 65536 in
set_option maxHeartbeats 40000000 in
theorem co12 (l : Launch) (Z : State) (a0 : Array Value) (hw : ∀ d ∈ tables_1, d.before a0 Z = true) (b : Addr) (c : Int32) (h0 : Heap) (A_b : AV Z h0 b .byte [(.int (60 : Int32)), (.int (62 : Int32)), (.int (34 : Int32)), (.int (123 : Int32)), (.int (125 : Int32)), (.int (124 : Int32)), (.int (94 : Int32)), (.int (96 : Int32)), (.int (92 : Int32))]) : Co l (⟨"java/lang/StringLatin1", "indexOfChar", "([BIII)I"⟩ : MethodName) jdk_43_method_23_code 6 (some .int) [] ({ frames := 0, cells := 0, slots := 0, locals := 0 } : Room) Z h0 #[(.ref b), (.int c), (.int (0 : Int32)), (.int (9 : Int32))] (Pu h0 (some (.int (ioc c)))) := by
  refine Co.of (plainFor_of_name pn_1) ?_
  intro p_ e_ s_ m_ below meth c_ T0 X0 hx hby hml hown hnm hret hlk hZ e0
  refine Go.cast (ef12 m_ b c ) ?_
  refine g_iloadN X0 hx rfl (hb hby d12_0) 1 rfl ?_
  refine g_i2b X0 hx (hb hby d12_1) 2 rfl ?_
  refine g_istore X0 hx #[.val (.ref b), .val (.int c), .val (.int (0 : Int32)), .val (.int (9 : Int32)), .val (.int c.toInt8.toInt32), .unset] rfl (hb hby d12_2) 4 rfl ?_
  refine g_iloadN X0 hx rfl (hb hby d12_4) 5 rfl ?_
  refine g_istore X0 hx #[.val (.ref b), .val (.int c), .val (.int (0 : Int32)), .val (.int (9 : Int32)), .val (.int c.toInt8.toInt32), .val (.int (0 : Int32))] rfl (hb hby d12_5) 7 rfl ?_
  refine g_iload X0 hx rfl (hb hby d12_7) 9 rfl ?_
  refine g_iloadN X0 hx rfl (hb hby d12_9) 10 rfl ?_
  refine g_icmp_ge X0 hx (hb hby d12_10) 31 13 (by decide) rfl rfl (fun q1 => ?_) (fun q1 => ?_)
  · exact absurd q1 (by decide)
  · refine g_aloadN X0 hx rfl rfl (hb hby d12_13) 14 rfl ?_
    refine g_iload X0 hx rfl (hb hby d12_14) 16 rfl ?_
    refine g_baload X0 hx hZ e0 A_b (by decide) rfl (hb hby d12_16) 17 rfl ?_
    show Go p_ e_ below _ T0 (mkF m_ 17 #[.val (.ref b), .val (.int c), .val (.int (0 : Int32)), .val (.int (9 : Int32)), .val (.int c.toInt8.toInt32), .val (.int (0 : Int32))] [(.int (60 : Int32))])
    refine g_iload X0 hx rfl (hb hby d12_17) 19 rfl ?_
    refine g_icmp_ne X0 hx (hb hby d12_19) 25 22 (by decide) rfl rfl (fun q2 => ?_) (fun q2 => ?_)
    · refine g_iinc X0 hx (1 : Int32) rfl rfl #[.val (.ref b), .val (.int c), .val (.int (0 : Int32)), .val (.int (9 : Int32)), .val (.int c.toInt8.toInt32), .val (.int (1 : Int32))] rfl (hb hby d12_25) 28 rfl ?_
      refine g_goto X0 hx (hb hby d12_28) 7 (by decide) rfl ?_
      refine g_iload X0 hx rfl (hb hby d12_7) 9 rfl ?_
      refine g_iloadN X0 hx rfl (hb hby d12_9) 10 rfl ?_
      refine g_icmp_ge X0 hx (hb hby d12_10) 31 13 (by decide) rfl rfl (fun q3 => ?_) (fun q3 => ?_)
      · exact absurd q3 (by decide)
      · refine g_aloadN X0 hx rfl rfl (hb hby d12_13) 14 rfl ?_
        refine g_iload X0 hx rfl (hb hby d12_14) 16 rfl ?_
        refine g_baload X0 hx hZ e0 A_b (by decide) rfl (hb hby d12_16) 17 rfl ?_
        show Go p_ e_ below _ T0 (mkF m_ 17 #[.val (.ref b), .val (.int c), .val (.int (0 : Int32)), .val (.int (9 : Int32)), .val (.int c.toInt8.toInt32), .val (.int (1 : Int32))] [(.int (62 : Int32))])
        refine g_iload X0 hx rfl (hb hby d12_17) 19 rfl ?_
        refine g_icmp_ne X0 hx (hb hby d12_19) 25 22 (by decide) rfl rfl (fun q4 => ?_) (fun q4 => ?_)
        · refine g_iinc X0 hx (1 : Int32) rfl rfl #[.val (.ref b), .val (.int c), .val (.int (0 : Int32)), .val (.int (9 : Int32)), .val (.int c.toInt8.toInt32), .val (.int (2 : Int32))] rfl (hb hby d12_25) 28 rfl ?_
          refine g_goto X0 hx (hb hby d12_28) 7 (by decide) rfl ?_
          refine g_iload X0 hx rfl (hb hby d12_7) 9 rfl ?_
          refine g_iloadN X0 hx rfl (hb hby d12_9) 10 rfl ?_
          refine g_icmp_ge X0 hx (hb hby d12_10) 31 13 (by decide) rfl rfl (fun q5 => ?_) (fun q5 => ?_)
          · exact absurd q5 (by decide)
          · refine g_aloadN X0 hx rfl rfl (hb hby d12_13) 14 rfl ?_
            refine g_iload X0 hx rfl (hb hby d12_14) 16 rfl ?_
            refine g_baload X0 hx hZ e0 A_b (by decide) rfl (hb hby d12_16) 17 rfl ?_
            show Go p_ e_ below _ T0 (mkF m_ 17 #[.val (.ref b), .val (.int c), .val (.int (0 : Int32)), .val (.int (9 : Int32)), .val (.int c.toInt8.toInt32), .val (.int (2 : Int32))] [(.int (34 : Int32))])
            refine g_iload X0 hx rfl (hb hby d12_17) 19 rfl ?_
            refine g_icmp_ne X0 hx (hb hby d12_19) 25 22 (by decide) rfl rfl (fun q6 => ?_) (fun q6 => ?_)
            · refine g_iinc X0 hx (1 : Int32) rfl rfl #[.val (.ref b), .val (.int c), .val (.int (0 : Int32)), .val (.int (9 : Int32)), .val (.int c.toInt8.toInt32), .val (.int (3 : Int32))] rfl (hb hby d12_25) 28 rfl ?_
              refine g_goto X0 hx (hb hby d12_28) 7 (by decide) rfl ?_
              refine g_iload X0 hx rfl (hb hby d12_7) 9 rfl ?_
              refine g_iloadN X0 hx rfl (hb hby d12_9) 10 rfl ?_
              refine g_icmp_ge X0 hx (hb hby d12_10) 31 13 (by decide) rfl rfl (fun q7 => ?_) (fun q7 => ?_)
              · exact absurd q7 (by decide)
              · refine g_aloadN X0 hx rfl rfl (hb hby d12_13) 14 rfl ?_
                refine g_iload X0 hx rfl (hb hby d12_14) 16 rfl ?_
                refine g_baload X0 hx hZ e0 A_b (by decide) rfl (hb hby d12_16) 17 rfl ?_
                show Go p_ e_ below _ T0 (mkF m_ 17 #[.val (.ref b), .val (.int c), .val (.int (0 : Int32)), .val (.int (9 : Int32)), .val (.int c.toInt8.toInt32), .val (.int (3 : Int32))] [(.int (123 : Int32))])
                refine g_iload X0 hx rfl (hb hby d12_17) 19 rfl ?_
                refine g_icmp_ne X0 hx (hb hby d12_19) 25 22 (by decide) rfl rfl (fun q8 => ?_) (fun q8 => ?_)
                · refine g_iinc X0 hx (1 : Int32) rfl rfl #[.val (.ref b), .val (.int c), .val (.int (0 : Int32)), .val (.int (9 : Int32)), .val (.int c.toInt8.toInt32), .val (.int (4 : Int32))] rfl (hb hby d12_25) 28 rfl ?_
                  refine g_goto X0 hx (hb hby d12_28) 7 (by decide) rfl ?_
                  refine g_iload X0 hx rfl (hb hby d12_7) 9 rfl ?_
                  refine g_iloadN X0 hx rfl (hb hby d12_9) 10 rfl ?_
                  refine g_icmp_ge X0 hx (hb hby d12_10) 31 13 (by decide) rfl rfl (fun q9 => ?_) (fun q9 => ?_)
                  · exact absurd q9 (by decide)
                  · refine g_aloadN X0 hx rfl rfl (hb hby d12_13) 14 rfl ?_
                    refine g_iload X0 hx rfl (hb hby d12_14) 16 rfl ?_
                    refine g_baload X0 hx hZ e0 A_b (by decide) rfl (hb hby d12_16) 17 rfl ?_
                    show Go p_ e_ below _ T0 (mkF m_ 17 #[.val (.ref b), .val (.int c), .val (.int (0 : Int32)), .val (.int (9 : Int32)), .val (.int c.toInt8.toInt32), .val (.int (4 : Int32))] [(.int (125 : Int32))])
                    refine g_iload X0 hx rfl (hb hby d12_17) 19 rfl ?_
                    refine g_icmp_ne X0 hx (hb hby d12_19) 25 22 (by decide) rfl rfl (fun q10 => ?_) (fun q10 => ?_)
                    · refine g_iinc X0 hx (1 : Int32) rfl rfl #[.val (.ref b), .val (.int c), .val (.int (0 : Int32)), .val (.int (9 : Int32)), .val (.int c.toInt8.toInt32), .val (.int (5 : Int32))] rfl (hb hby d12_25) 28 rfl ?_
                      refine g_goto X0 hx (hb hby d12_28) 7 (by decide) rfl ?_
                      refine g_iload X0 hx rfl (hb hby d12_7) 9 rfl ?_
                      refine g_iloadN X0 hx rfl (hb hby d12_9) 10 rfl ?_
                      refine g_icmp_ge X0 hx (hb hby d12_10) 31 13 (by decide) rfl rfl (fun q11 => ?_) (fun q11 => ?_)
                      · exact absurd q11 (by decide)
                      · refine g_aloadN X0 hx rfl rfl (hb hby d12_13) 14 rfl ?_
                        refine g_iload X0 hx rfl (hb hby d12_14) 16 rfl ?_
                        refine g_baload X0 hx hZ e0 A_b (by decide) rfl (hb hby d12_16) 17 rfl ?_
                        show Go p_ e_ below _ T0 (mkF m_ 17 #[.val (.ref b), .val (.int c), .val (.int (0 : Int32)), .val (.int (9 : Int32)), .val (.int c.toInt8.toInt32), .val (.int (5 : Int32))] [(.int (124 : Int32))])
                        refine g_iload X0 hx rfl (hb hby d12_17) 19 rfl ?_
                        refine g_icmp_ne X0 hx (hb hby d12_19) 25 22 (by decide) rfl rfl (fun q12 => ?_) (fun q12 => ?_)
                        · refine g_iinc X0 hx (1 : Int32) rfl rfl #[.val (.ref b), .val (.int c), .val (.int (0 : Int32)), .val (.int (9 : Int32)), .val (.int c.toInt8.toInt32), .val (.int (6 : Int32))] rfl (hb hby d12_25) 28 rfl ?_
                          refine g_goto X0 hx (hb hby d12_28) 7 (by decide) rfl ?_
                          refine g_iload X0 hx rfl (hb hby d12_7) 9 rfl ?_
                          refine g_iloadN X0 hx rfl (hb hby d12_9) 10 rfl ?_
                          refine g_icmp_ge X0 hx (hb hby d12_10) 31 13 (by decide) rfl rfl (fun q13 => ?_) (fun q13 => ?_)
                          · exact absurd q13 (by decide)
                          · refine g_aloadN X0 hx rfl rfl (hb hby d12_13) 14 rfl ?_
                            refine g_iload X0 hx rfl (hb hby d12_14) 16 rfl ?_
                            refine g_baload X0 hx hZ e0 A_b (by decide) rfl (hb hby d12_16) 17 rfl ?_
                            show Go p_ e_ below _ T0 (mkF m_ 17 #[.val (.ref b), .val (.int c), .val (.int (0 : Int32)), .val (.int (9 : Int32)), .val (.int c.toInt8.toInt32), .val (.int (6 : Int32))] [(.int (94 : Int32))])
                            refine g_iload X0 hx rfl (hb hby d12_17) 19 rfl ?_
                            refine g_icmp_ne X0 hx (hb hby d12_19) 25 22 (by decide) rfl rfl (fun q14 => ?_) (fun q14 => ?_)
                            · refine g_iinc X0 hx (1 : Int32) rfl rfl #[.val (.ref b), .val (.int c), .val (.int (0 : Int32)), .val (.int (9 : Int32)), .val (.int c.toInt8.toInt32), .val (.int (7 : Int32))] rfl (hb hby d12_25) 28 rfl ?_
                              refine g_goto X0 hx (hb hby d12_28) 7 (by decide) rfl ?_
                              refine g_iload X0 hx rfl (hb hby d12_7) 9 rfl ?_
                              refine g_iloadN X0 hx rfl (hb hby d12_9) 10 rfl ?_
                              refine g_icmp_ge X0 hx (hb hby d12_10) 31 13 (by decide) rfl rfl (fun q15 => ?_) (fun q15 => ?_)
                              · exact absurd q15 (by decide)
                              · refine g_aloadN X0 hx rfl rfl (hb hby d12_13) 14 rfl ?_
                                refine g_iload X0 hx rfl (hb hby d12_14) 16 rfl ?_
                                refine g_baload X0 hx hZ e0 A_b (by decide) rfl (hb hby d12_16) 17 rfl ?_
                                show Go p_ e_ below _ T0 (mkF m_ 17 #[.val (.ref b), .val (.int c), .val (.int (0 : Int32)), .val (.int (9 : Int32)), .val (.int c.toInt8.toInt32), .val (.int (7 : Int32))] [(.int (96 : Int32))])
                                refine g_iload X0 hx rfl (hb hby d12_17) 19 rfl ?_
                                refine g_icmp_ne X0 hx (hb hby d12_19) 25 22 (by decide) rfl rfl (fun q16 => ?_) (fun q16 => ?_)
                                · refine g_iinc X0 hx (1 : Int32) rfl rfl #[.val (.ref b), .val (.int c), .val (.int (0 : Int32)), .val (.int (9 : Int32)), .val (.int c.toInt8.toInt32), .val (.int (8 : Int32))] rfl (hb hby d12_25) 28 rfl ?_
                                  refine g_goto X0 hx (hb hby d12_28) 7 (by decide) rfl ?_
                                  refine g_iload X0 hx rfl (hb hby d12_7) 9 rfl ?_
                                  refine g_iloadN X0 hx rfl (hb hby d12_9) 10 rfl ?_
                                  refine g_icmp_ge X0 hx (hb hby d12_10) 31 13 (by decide) rfl rfl (fun q17 => ?_) (fun q17 => ?_)
                                  · exact absurd q17 (by decide)
                                  · refine g_aloadN X0 hx rfl rfl (hb hby d12_13) 14 rfl ?_
                                    refine g_iload X0 hx rfl (hb hby d12_14) 16 rfl ?_
                                    refine g_baload X0 hx hZ e0 A_b (by decide) rfl (hb hby d12_16) 17 rfl ?_
                                    show Go p_ e_ below _ T0 (mkF m_ 17 #[.val (.ref b), .val (.int c), .val (.int (0 : Int32)), .val (.int (9 : Int32)), .val (.int c.toInt8.toInt32), .val (.int (8 : Int32))] [(.int (92 : Int32))])
                                    refine g_iload X0 hx rfl (hb hby d12_17) 19 rfl ?_
                                    refine g_icmp_ne X0 hx (hb hby d12_19) 25 22 (by decide) rfl rfl (fun q18 => ?_) (fun q18 => ?_)
                                    · refine g_iinc X0 hx (1 : Int32) rfl rfl #[.val (.ref b), .val (.int c), .val (.int (0 : Int32)), .val (.int (9 : Int32)), .val (.int c.toInt8.toInt32), .val (.int (9 : Int32))] rfl (hb hby d12_25) 28 rfl ?_
                                      refine g_goto X0 hx (hb hby d12_28) 7 (by decide) rfl ?_
                                      refine g_iload X0 hx rfl (hb hby d12_7) 9 rfl ?_
                                      refine g_iloadN X0 hx rfl (hb hby d12_9) 10 rfl ?_
                                      refine g_icmp_ge X0 hx (hb hby d12_10) 31 13 (by decide) rfl rfl (fun q19 => ?_) (fun q19 => ?_)
                                      · refine g_iconst X0 hx (-1 : Int32) rfl (hb hby d12_31) 32 rfl ?_
                                        exact g_reti X0 hx hret hlk (by decide) (by decide) (hb hby d12_32) ⟨congrArg (fun z => some (Value.int z)) (show ioc c = _ from ((if_neg q2).trans ((if_neg q4).trans ((if_neg q6).trans ((if_neg q8).trans ((if_neg q10).trans ((if_neg q12).trans ((if_neg q14).trans ((if_neg q16).trans ((if_neg q18).trans rfl)))))))))).symm, e0, rfl⟩
                                      · exact absurd q19 (by decide)
                                    · refine g_iload X0 hx rfl (hb hby d12_22) 24 rfl ?_
                                      exact g_reti X0 hx hret hlk (by decide) (by decide) (hb hby d12_24) ⟨congrArg (fun z => some (Value.int z)) (show ioc c = _ from ((if_neg q2).trans ((if_neg q4).trans ((if_neg q6).trans ((if_neg q8).trans ((if_neg q10).trans ((if_neg q12).trans ((if_neg q14).trans ((if_neg q16).trans ((if_pos q18).trans rfl)))))))))).symm, e0, rfl⟩
                                · refine g_iload X0 hx rfl (hb hby d12_22) 24 rfl ?_
                                  exact g_reti X0 hx hret hlk (by decide) (by decide) (hb hby d12_24) ⟨congrArg (fun z => some (Value.int z)) (show ioc c = _ from ((if_neg q2).trans ((if_neg q4).trans ((if_neg q6).trans ((if_neg q8).trans ((if_neg q10).trans ((if_neg q12).trans ((if_neg q14).trans ((if_pos q16).trans rfl))))))))).symm, e0, rfl⟩
                            · refine g_iload X0 hx rfl (hb hby d12_22) 24 rfl ?_
                              exact g_reti X0 hx hret hlk (by decide) (by decide) (hb hby d12_24) ⟨congrArg (fun z => some (Value.int z)) (show ioc c = _ from ((if_neg q2).trans ((if_neg q4).trans ((if_neg q6).trans ((if_neg q8).trans ((if_neg q10).trans ((if_neg q12).trans ((if_pos q14).trans rfl)))))))).symm, e0, rfl⟩
                        · refine g_iload X0 hx rfl (hb hby d12_22) 24 rfl ?_
                          exact g_reti X0 hx hret hlk (by decide) (by decide) (hb hby d12_24) ⟨congrArg (fun z => some (Value.int z)) (show ioc c = _ from ((if_neg q2).trans ((if_neg q4).trans ((if_neg q6).trans ((if_neg q8).trans ((if_neg q10).trans ((if_pos q12).trans rfl))))))).symm, e0, rfl⟩
                    · refine g_iload X0 hx rfl (hb hby d12_22) 24 rfl ?_
                      exact g_reti X0 hx hret hlk (by decide) (by decide) (hb hby d12_24) ⟨congrArg (fun z => some (Value.int z)) (show ioc c = _ from ((if_neg q2).trans ((if_neg q4).trans ((if_neg q6).trans ((if_neg q8).trans ((if_pos q10).trans rfl)))))).symm, e0, rfl⟩
                · refine g_iload X0 hx rfl (hb hby d12_22) 24 rfl ?_
                  exact g_reti X0 hx hret hlk (by decide) (by decide) (hb hby d12_24) ⟨congrArg (fun z => some (Value.int z)) (show ioc c = _ from ((if_neg q2).trans ((if_neg q4).trans ((if_neg q6).trans ((if_pos q8).trans rfl))))).symm, e0, rfl⟩
            · refine g_iload X0 hx rfl (hb hby d12_22) 24 rfl ?_
              exact g_reti X0 hx hret hlk (by decide) (by decide) (hb hby d12_24) ⟨congrArg (fun z => some (Value.int z)) (show ioc c = _ from ((if_neg q2).trans ((if_neg q4).trans ((if_pos q6).trans rfl)))).symm, e0, rfl⟩
        · refine g_iload X0 hx rfl (hb hby d12_22) 24 rfl ?_
          exact g_reti X0 hx hret hlk (by decide) (by decide) (hb hby d12_24) ⟨congrArg (fun z => some (Value.int z)) (show ioc c = _ from ((if_neg q2).trans ((if_pos q4).trans rfl))).symm, e0, rfl⟩
    · refine g_iload X0 hx rfl (hb hby d12_22) 24 rfl ?_
      exact g_reti X0 hx hret hlk (by decide) (by decide) (hb hby d12_24) ⟨congrArg (fun z => some (Value.int z)) (show ioc c = _ from ((if_pos q2).trans rfl)).symm, e0, rfl⟩
theorem d8_0 : decode jdk_43_method_22_code 0 = .ok (.iload_n 1, 1) := by decide +kernel
theorem pd_1 : parseMethodDescriptor "(I)Z" = some ⟨[.int], some .boolean⟩ := by decide +kernel
theorem d8_1 : decode jdk_43_method_22_code 1 = .ok (.invokestatic 88, 3) := by decide +kernel
theorem d8_4 : decode jdk_43_method_22_code 4 = .ok (.ifCond .ne 5, 3) := by decide +kernel
theorem d8_9 : decode jdk_43_method_22_code 9 = .ok (.iload_n 2, 1) := by decide +kernel
theorem d8_10 : decode jdk_43_method_22_code 10 = .ok (.iconst 0, 1) := by decide +kernel
theorem pd_2 : parseMethodDescriptor "(II)I" = some ⟨[.int, .int], some .int⟩ := by decide +kernel
theorem d8_11 : decode jdk_43_method_22_code 11 = .ok (.invokestatic 92, 3) := by decide +kernel
theorem d8_14 : decode jdk_43_method_22_code 14 = .ok (.istore_n 2, 1) := by decide +kernel
theorem d8_15 : decode jdk_43_method_22_code 15 = .ok (.iload_n 3, 1) := by decide +kernel
theorem d8_16 : decode jdk_43_method_22_code 16 = .ok (.aload_n 0, 1) := by decide +kernel
theorem d8_17 : decode jdk_43_method_22_code 17 = .ok (.arraylength, 1) := by decide +kernel
theorem d8_18 : decode jdk_43_method_22_code 18 = .ok (.invokestatic 38, 3) := by decide +kernel
theorem d8_21 : decode jdk_43_method_22_code 21 = .ok (.istore_n 3, 1) := by decide +kernel
theorem d8_22 : decode jdk_43_method_22_code 22 = .ok (.iload_n 2, 1) := by decide +kernel
theorem d8_23 : decode jdk_43_method_22_code 23 = .ok (.iload_n 3, 1) := by decide +kernel
theorem d8_24 : decode jdk_43_method_22_code 24 = .ok (.if_icmp .lt 5, 3) := by decide +kernel
theorem d8_29 : decode jdk_43_method_22_code 29 = .ok (.aload_n 0, 1) := by decide +kernel
theorem d8_30 : decode jdk_43_method_22_code 30 = .ok (.iload_n 1, 1) := by decide +kernel
theorem d8_31 : decode jdk_43_method_22_code 31 = .ok (.iload_n 2, 1) := by decide +kernel
theorem d8_32 : decode jdk_43_method_22_code 32 = .ok (.iload_n 3, 1) := by decide +kernel
theorem pd_3 : parseMethodDescriptor "([BIII)I" = some ⟨[(.array .byte), .int, .int, .int], some .int⟩ := by decide +kernel
theorem d8_33 : decode jdk_43_method_22_code 33 = .ok (.invokestatic 95, 3) := by decide +kernel
theorem d8_7 : decode jdk_43_method_22_code 7 = .ok (.iconst (-1), 1) := by decide +kernel
def lio (c : Int32) : Int32 := if (can c) = (0 : Int32) then (-1 : Int32) else (ioc c)
theorem ef8 (m_ : MethodId) (b : Addr) (c : Int32)  : entryFrame m_ #[(.ref b), (.int c), (.int (0 : Int32)), (.int (9 : Int32))] 4 = mkF m_ 0 #[.val (.ref b), .val (.int c), .val (.int (0 : Int32)), .val (.int (9 : Int32))] [] := by first | (simp [entryFrame, mkF, argsToLocals, Value.category]; done) | rfl
theorem d8_36 : decode jdk_43_method_22_code 36 = .ok (.ireturn, 1) := by decide +kernel
theorem d8_8 : decode jdk_43_method_22_code 8 = .ok (.ireturn, 1) := by decide +kernel
set_option maxRecDepth 65536 in
set_option maxHeartbeats 40000000 in
theorem co8 (l : Launch) (Z : State) (a0 : Array Value) (hw : ∀ d ∈ tables_1, d.before a0 Z = true) (b : Addr) (c : Int32) (h0 : Heap) (A_b : AV Z h0 b .byte [(.int (60 : Int32)), (.int (62 : Int32)), (.int (34 : Int32)), (.int (123 : Int32)), (.int (125 : Int32)), (.int (124 : Int32)), (.int (94 : Int32)), (.int (96 : Int32)), (.int (92 : Int32))]) : Co l (⟨"java/lang/StringLatin1", "indexOf", "([BIII)I"⟩ : MethodName) jdk_43_method_22_code 4 (some .int) [] ({ frames := 1, cells := 0, slots := 0, locals := 17 } : Room) Z h0 #[(.ref b), (.int c), (.int (0 : Int32)), (.int (9 : Int32))] (Pu h0 (some (.int (lio c)))) := by
  refine Co.of (plainFor_of_name pn_1) ?_
  intro p_ e_ s_ m_ below meth c_ T0 X0 hx hby hml hown hnm hret hlk hZ e0
  refine Go.cast (ef8 m_ b c ) ?_
  refine g_iloadN X0 hx rfl (hb hby d8_0) 1 rfl ?_
  refine g_callS X0 hx hZ hown (wd hw 49 rfl) (wd hw 50 rfl) (wd hw 47 rfl) (wd hw 51 rfl) (by decide) e0 [(.int c)] []  rfl (co9 l Z a0 hw c  h0 ) (lenOf pd_1 rfl) 0 (Nat.le_of_eq rfl) (by decide) (by decide) (by decide) (by decide) (by rw [hml]; rfl) (hb hby d8_1) 4 rfl (pu_cont fun T2 X1 e3 => ?_)
  show Go p_ e_ below _ T2 (mkF m_ 4 #[.val (.ref b), .val (.int c), .val (.int (0 : Int32)), .val (.int (9 : Int32))] [(.int (can c))])
  refine g_if_ne X1 hx (hb hby d8_4) 9 7 (by decide) rfl rfl (fun q4 => ?_) (fun q4 => ?_)
  · refine g_iloadN X1 hx rfl (hb hby d8_9) 10 rfl ?_
    refine g_iconst X1 hx (0 : Int32) rfl (hb hby d8_10) 11 rfl ?_
    refine g_callS X1 hx hZ hown (wd hw 52 rfl) (wd hw 53 rfl) (wd hw 54 rfl) (wd hw 55 rfl) (by decide) e3 [(.int (0 : Int32)), (.int (0 : Int32))] []  rfl (co10 l Z a0 hw (0 : Int32) (0 : Int32)  h0 ) (lenOf pd_2 rfl) 0 (Nat.le_of_eq rfl) (by decide) (by decide) (by decide) (by decide) (by rw [hml]; rfl) (hb hby d8_11) 14 rfl (pu_cont fun T5 X4 e6 => ?_)
    show Go p_ e_ below _ T5 (mkF m_ 14 #[.val (.ref b), .val (.int c), .val (.int (0 : Int32)), .val (.int (9 : Int32))] [(.int (mx (0 : Int32) (0 : Int32)))])
    rw [show (mx (0 : Int32) (0 : Int32)) = (0 : Int32) from by decide]
    refine g_istoreN X4 hx #[.val (.ref b), .val (.int c), .val (.int (0 : Int32)), .val (.int (9 : Int32))] rfl (hb hby d8_14) 15 rfl ?_
    refine g_iloadN X4 hx rfl (hb hby d8_15) 16 rfl ?_
    refine g_aloadN X4 hx rfl rfl (hb hby d8_16) 17 rfl ?_
    refine g_arraylength X4 hx hZ e6 A_b (9 : Int32) rfl (hb hby d8_17) 18 rfl ?_
    refine g_callS X4 hx hZ hown (wd hw 56 rfl) (wd hw 57 rfl) (wd hw 54 rfl) (wd hw 58 rfl) (by decide) e6 [(.int (9 : Int32)), (.int (9 : Int32))] []  rfl (co11 l Z a0 hw (9 : Int32) (9 : Int32)  h0 ) (lenOf pd_2 rfl) 0 (Nat.le_of_eq rfl) (by decide) (by decide) (by decide) (by decide) (by rw [hml]; rfl) (hb hby d8_18) 21 rfl (pu_cont fun T8 X7 e9 => ?_)
    show Go p_ e_ below _ T8 (mkF m_ 21 #[.val (.ref b), .val (.int c), .val (.int (0 : Int32)), .val (.int (9 : Int32))] [(.int (mn (9 : Int32) (9 : Int32)))])
    rw [show (mn (9 : Int32) (9 : Int32)) = (9 : Int32) from by decide]
    refine g_istoreN X7 hx #[.val (.ref b), .val (.int c), .val (.int (0 : Int32)), .val (.int (9 : Int32))] rfl (hb hby d8_21) 22 rfl ?_
    refine g_iloadN X7 hx rfl (hb hby d8_22) 23 rfl ?_
    refine g_iloadN X7 hx rfl (hb hby d8_23) 24 rfl ?_
    refine g_icmp_lt X7 hx (hb hby d8_24) 29 27 (by decide) rfl rfl (fun q24 => ?_) (fun q24 => ?_)
    · refine g_aloadN X7 hx rfl rfl (hb hby d8_29) 30 rfl ?_
      refine g_iloadN X7 hx rfl (hb hby d8_30) 31 rfl ?_
      refine g_iloadN X7 hx rfl (hb hby d8_31) 32 rfl ?_
      refine g_iloadN X7 hx rfl (hb hby d8_32) 33 rfl ?_
      refine g_callS X7 hx hZ hown (wd hw 59 rfl) (wd hw 60 rfl) (wd hw 47 rfl) (wd hw 61 rfl) (by decide) e9 [(.ref b), (.int c), (.int (0 : Int32)), (.int (9 : Int32))] []  rfl (co12 l Z a0 hw b c  h0 A_b) (lenOf pd_3 rfl) 0 (Nat.le_of_eq rfl) (by decide) (by decide) (by decide) (by decide) (by rw [hml]; rfl) (hb hby d8_33) 36 rfl (pu_cont fun T11 X10 e12 => ?_)
      show Go p_ e_ below _ T11 (mkF m_ 36 #[.val (.ref b), .val (.int c), .val (.int (0 : Int32)), .val (.int (9 : Int32))] [(.int (ioc c))])
      exact g_reti X10 hx hret hlk (by decide) (by decide) (hb hby d8_36) ⟨congrArg (fun z => some (Value.int z)) (show lio c = _ from ((if_neg q4).trans rfl)).symm, e12, rfl⟩
    · exact absurd q24 (by decide)
  · refine g_iconst X1 hx (-1 : Int32) rfl (hb hby d8_7) 8 rfl ?_
    exact g_reti X1 hx hret hlk (by decide) (by decide) (hb hby d8_8) ⟨congrArg (fun z => some (Value.int z)) (show lio c = _ from ((if_pos q4).trans rfl)).symm, e3, rfl⟩
theorem d4_0 : decode jdk_42_method_80_code 0 = .ok (.aload_n 0, 1) := by decide +kernel
theorem pd_4 : parseMethodDescriptor "()Z" = some ⟨[], some .boolean⟩ := by decide +kernel
theorem d4_1 : decode jdk_42_method_80_code 1 = .ok (.invokevirtual 492, 3) := by decide +kernel
theorem d4_4 : decode jdk_42_method_80_code 4 = .ok (.ifCond .eq 19, 3) := by decide +kernel
theorem d4_7 : decode jdk_42_method_80_code 7 = .ok (.aload_n 0, 1) := by decide +kernel
theorem d4_8 : decode jdk_42_method_80_code 8 = .ok (.getfield 9, 3) := by decide +kernel
theorem d4_11 : decode jdk_42_method_80_code 11 = .ok (.iload_n 1, 1) := by decide +kernel
theorem d4_12 : decode jdk_42_method_80_code 12 = .ok (.iload_n 2, 1) := by decide +kernel
theorem d4_13 : decode jdk_42_method_80_code 13 = .ok (.aload_n 0, 1) := by decide +kernel
theorem pd_5 : parseMethodDescriptor "()I" = some ⟨[], some .int⟩ := by decide +kernel
theorem d4_14 : decode jdk_42_method_80_code 14 = .ok (.invokevirtual 505, 3) := by decide +kernel
theorem d4_17 : decode jdk_42_method_80_code 17 = .ok (.invokestatic 637, 3) := by decide +kernel
theorem d4_20 : decode jdk_42_method_80_code 20 = .ok (.goto 16, 3) := by decide +kernel
def sio (c : Int32) : Int32 := (lio c)
theorem ef4 (m_ : MethodId) (a : Addr) (c : Int32)  : entryFrame m_ #[(.ref a), (.int c), (.int (0 : Int32))] 3 = mkF m_ 0 #[.val (.ref a), .val (.int c), .val (.int (0 : Int32))] [] := by first | (simp [entryFrame, mkF, argsToLocals, Value.category]; done) | rfl
theorem d4_36 : decode jdk_42_method_80_code 36 = .ok (.ireturn, 1) := by decide +kernel
set_option maxRecDepth 65536 in
set_option maxHeartbeats 40000000 in
theorem co4 (l : Launch) (Z : State) (a0 : Array Value) (hw : ∀ d ∈ tables_1, d.before a0 Z = true) (a : Addr) (c : Int32) (b : Addr) (cs : Int32) (h0 : Heap) (E_a : Exa Z h0 a "java/lang/String") (F_coder : Fld Z h0 a "java/lang/String" "coder" "B" (.int (0 : Int32))) (F_value : Fld Z h0 a "java/lang/String" "value" "[B" (.ref b)) (A_b : AV Z h0 b .byte [(.int (60 : Int32)), (.int (62 : Int32)), (.int (34 : Int32)), (.int (123 : Int32)), (.int (125 : Int32)), (.int (124 : Int32)), (.int (94 : Int32)), (.int (96 : Int32)), (.int (92 : Int32))]) (S_cs : Sta Z h0 "java/lang/String" "COMPACT_STRINGS" "Z" (.int cs)) (hcs : ¬ cs = (0 : Int32)) : Co l (⟨"java/lang/String", "indexOf", "(II)I"⟩ : MethodName) jdk_42_method_80_code 3 (some .int) [] ({ frames := 2, cells := 0, slots := 0, locals := 32 } : Room) Z h0 #[(.ref a), (.int c), (.int (0 : Int32))] (Pu h0 (some (.int (sio c)))) := by
  refine Co.of (plainFor_of_name pn_0) ?_
  intro p_ e_ s_ m_ below meth c_ T0 X0 hx hby hml hown hnm hret hlk hZ e0
  refine Go.cast (ef4 m_ a c ) ?_
  refine g_aloadN X0 hx rfl rfl (hb hby d4_0) 1 rfl ?_
  refine g_callV X0 hx hZ hown (wd hw 27 rfl) (C := "java/lang/String") (wd hw 28 rfl) (wd hw 30 rfl) (wd hw 29 rfl) (wd hw 10 rfl) (wd hw 31 rfl) (by decide) e0 [] [] E_a rfl (co5 l Z a0 hw a b cs h0 E_a F_coder F_value A_b S_cs hcs) (lenOf pd_4 rfl) 0 (Nat.le_of_eq rfl) (by decide) (by decide) (by decide) (by decide) (by rw [hml]; rfl) (hb hby d4_1) 4 rfl (pu_cont fun T2 X1 e3 => ?_)
  show Go p_ e_ below _ T2 (mkF m_ 4 #[.val (.ref a), .val (.int c), .val (.int (0 : Int32))] [(.int (1 : Int32))])
  refine g_if_eq X1 hx (hb hby d4_4) 23 7 (by decide) rfl rfl (fun q4 => ?_) (fun q4 => ?_)
  · exact absurd q4 (by decide)
  · refine g_aloadN X1 hx rfl rfl (hb hby d4_7) 8 rfl ?_
    refine g_getfield X1 hx hZ hown (host := "") (Or.inl (wd hw 34 rfl)) Via.refl F_value e3 (hb hby d4_8) 11 rfl (fun T4 X5 e6 => ?_)
    show Go p_ e_ below _ T4 (mkF m_ 11 #[.val (.ref a), .val (.int c), .val (.int (0 : Int32))] [(.ref b)])
    refine g_iloadN X5 hx rfl (hb hby d4_11) 12 rfl ?_
    refine g_iloadN X5 hx rfl (hb hby d4_12) 13 rfl ?_
    refine g_aloadN X5 hx rfl rfl (hb hby d4_13) 14 rfl ?_
    refine g_callV X5 hx hZ hown (wd hw 35 rfl) (C := "java/lang/String") (wd hw 36 rfl) (wd hw 38 rfl) (wd hw 37 rfl) (wd hw 10 rfl) (wd hw 39 rfl) (by decide) e6 [] [(.int (0 : Int32)), (.int c), (.ref b)] E_a rfl (co6 l Z a0 hw a b cs h0 E_a F_coder F_value A_b S_cs hcs) (lenOf pd_5 rfl) 3 (Nat.le_of_eq rfl) (by decide) (by decide) (by decide) (by decide) (by rw [hml]; rfl) (hb hby d4_14) 17 rfl (pu_cont fun T8 X7 e9 => ?_)
    show Go p_ e_ below _ T8 (mkF m_ 17 #[.val (.ref a), .val (.int c), .val (.int (0 : Int32))] [(.int (9 : Int32)), (.int (0 : Int32)), (.int c), (.ref b)])
    refine g_callS X7 hx hZ hown (wd hw 45 rfl) (wd hw 46 rfl) (wd hw 47 rfl) (wd hw 48 rfl) (by decide) e9 [(.ref b), (.int c), (.int (0 : Int32)), (.int (9 : Int32))] []  rfl (co8 l Z a0 hw b c  h0 A_b) (lenOf pd_3 rfl) 0 (Nat.le_of_eq rfl) (by decide) (by decide) (by decide) (by decide) (by rw [hml]; rfl) (hb hby d4_17) 20 rfl (pu_cont fun T11 X10 e12 => ?_)
    show Go p_ e_ below _ T11 (mkF m_ 20 #[.val (.ref a), .val (.int c), .val (.int (0 : Int32))] [(.int (lio c))])
    refine g_goto X10 hx (hb hby d4_20) 36 (by decide) rfl ?_
    exact g_reti X10 hx hret hlk (by decide) (by decide) (hb hby d4_36) ⟨congrArg (fun z => some (Value.int z)) rfl.symm, e12, rfl⟩
theorem d3_0 : decode jdk_42_method_79_code 0 = .ok (.aload_n 0, 1) := by decide +kernel
theorem d3_1 : decode jdk_42_method_79_code 1 = .ok (.iload_n 1, 1) := by decide +kernel
theorem d3_2 : decode jdk_42_method_79_code 2 = .ok (.iconst 0, 1) := by decide +kernel
theorem d3_3 : decode jdk_42_method_79_code 3 = .ok (.invokevirtual 633, 3) := by decide +kernel
def sio1 (c : Int32) : Int32 := (sio c)
theorem ef3 (m_ : MethodId) (a : Addr) (c : Int32)  : entryFrame m_ #[(.ref a), (.int c)] 2 = mkF m_ 0 #[.val (.ref a), .val (.int c)] [] := by first | (simp [entryFrame, mkF, argsToLocals, Value.category]; done) | rfl
theorem d3_6 : decode jdk_42_method_79_code 6 = .ok (.ireturn, 1) := by decide +kernel
set_option maxRecDepth 65536 in
set_option maxHeartbeats 40000000 in
theorem co3 (l : Launch) (Z : State) (a0 : Array Value) (hw : ∀ d ∈ tables_1, d.before a0 Z = true) (a : Addr) (c : Int32) (b : Addr) (cs : Int32) (h0 : Heap) (E_a : Exa Z h0 a "java/lang/String") (F_coder : Fld Z h0 a "java/lang/String" "coder" "B" (.int (0 : Int32))) (F_value : Fld Z h0 a "java/lang/String" "value" "[B" (.ref b)) (A_b : AV Z h0 b .byte [(.int (60 : Int32)), (.int (62 : Int32)), (.int (34 : Int32)), (.int (123 : Int32)), (.int (125 : Int32)), (.int (124 : Int32)), (.int (94 : Int32)), (.int (96 : Int32)), (.int (92 : Int32))]) (S_cs : Sta Z h0 "java/lang/String" "COMPACT_STRINGS" "Z" (.int cs)) (hcs : ¬ cs = (0 : Int32)) : Co l (⟨"java/lang/String", "indexOf", "(I)I"⟩ : MethodName) jdk_42_method_79_code 2 (some .int) [] ({ frames := 3, cells := 0, slots := 0, locals := 46 } : Room) Z h0 #[(.ref a), (.int c)] (Pu h0 (some (.int (sio1 c)))) := by
  refine Co.of (plainFor_of_name pn_0) ?_
  intro p_ e_ s_ m_ below meth c_ T0 X0 hx hby hml hown hnm hret hlk hZ e0
  refine Go.cast (ef3 m_ a c ) ?_
  refine g_aloadN X0 hx rfl rfl (hb hby d3_0) 1 rfl ?_
  refine g_iloadN X0 hx rfl (hb hby d3_1) 2 rfl ?_
  refine g_iconst X0 hx (0 : Int32) rfl (hb hby d3_2) 3 rfl ?_
  refine g_callV X0 hx hZ hown (wd hw 22 rfl) (C := "java/lang/String") (wd hw 23 rfl) (wd hw 25 rfl) (wd hw 24 rfl) (wd hw 10 rfl) (wd hw 26 rfl) (by decide) e0 [(.int c), (.int (0 : Int32))] [] E_a rfl (co4 l Z a0 hw a c b cs h0 E_a F_coder F_value A_b S_cs hcs) (lenOf pd_2 rfl) 0 (Nat.le_of_eq rfl) (by decide) (by decide) (by decide) (by decide) (by rw [hml]; rfl) (hb hby d3_3) 6 rfl (pu_cont fun T2 X1 e3 => ?_)
  show Go p_ e_ below _ T2 (mkF m_ 6 #[.val (.ref a), .val (.int c)] [(.int (sio c))])
  exact g_reti X1 hx hret hlk (by decide) (by decide) (hb hby d3_6) ⟨congrArg (fun z => some (Value.int z)) rfl.symm, e3, rfl⟩
def iri (x : Int32) : Int32 := if (32 : Int32) < x then (if (sio1 x) < (0 : Int32) then ((1 : Int32) &&& 1) else ((0 : Int32) &&& 1)) else ((0 : Int32) &&& 1)
def Q1 (Z : State) (x : Int32) (cs : Int32) (h0 : Heap) (n0 : Nat) (v : Option Value) (h : Heap) (L : List Loc) : Prop := v = some (.int (iri x)) ∧ Fr n0 L ∧ Keep h0 h []
theorem ef1 (m_ : MethodId) (x : Int32)  : entryFrame m_ #[(.int x)] 1 = mkF m_ 0 #[.val (.int x)] [] := by first | (simp [entryFrame, mkF, argsToLocals, Value.category]; done) | rfl
theorem pn_2 : plainName "com/example/quadrille/quadrille/nquads/Grammar" = true := by first | (simp [plainName, overriddenIn]; done) | decide +kernel
theorem d1_0 : decode prog_24_method_2_code 0 = .ok (.iload_n 0, 1) := by decide +kernel
theorem d1_1 : decode prog_24_method_2_code 1 = .ok (.bipush 32, 2) := by decide +kernel
theorem d1_3 : decode prog_24_method_2_code 3 = .ok (.if_icmp .le 16, 3) := by decide +kernel
theorem d1_19 : decode prog_24_method_2_code 19 = .ok (.iconst 0, 1) := by decide +kernel
theorem d1_20 : decode prog_24_method_2_code 20 = .ok (.ireturn, 1) := by decide +kernel
theorem d1_6 : decode prog_24_method_2_code 6 = .ok (.ldc 9, 2) := by decide +kernel
theorem d1_8 : decode prog_24_method_2_code 8 = .ok (.iload_n 0, 1) := by decide +kernel
theorem pd_6 : parseMethodDescriptor "(I)I" = some ⟨[.int], some .int⟩ := by decide +kernel
theorem d1_9 : decode prog_24_method_2_code 9 = .ok (.invokevirtual 11, 3) := by decide +kernel
theorem d1_12 : decode prog_24_method_2_code 12 = .ok (.ifCond .ge 7, 3) := by decide +kernel
theorem d1_15 : decode prog_24_method_2_code 15 = .ok (.iconst 1, 1) := by decide +kernel
theorem d1_16 : decode prog_24_method_2_code 16 = .ok (.goto 4, 3) := by decide +kernel
set_option maxRecDepth 65536 in
set_option maxHeartbeats 40000000 in
theorem co1 (l : Launch) (Z : State) (a0 : Array Value) (hw : ∀ d ∈ tables_1, d.before a0 Z = true) (hEL : EW Z a0 EL) (x : Int32) (cs : Int32) (h0 : Heap) (n0 : Nat) (Z0 : n0 ≤ h0.size)   (S_cs : Sta Z h0 "java/lang/String" "COMPACT_STRINGS" "Z" (.int cs)) (hcs : ¬ cs = (0 : Int32)) : CoH l (⟨"com/example/quadrille/quadrille/nquads/Grammar", "isIriChar", "(I)Z"⟩ : MethodName) prog_24_method_2_code 1 (some .boolean) [] ({ frames := 4, cells := 2, slots := 40, locals := 59 } : Room) Z EL h0 #[(.int x)] (Q1 Z x cs h0 n0) := by
  refine CoH.of (plainFor_of_name pn_2) ?_
  intro p_ e_ s_ m_ below meth c_ T0 X0 hx hby hml hown hnm hret hlk hZ e0 hs0 hS H
  have N0 := Fr.nil n0
  have hk0 := Nat.le_refl h0.size
  refine Go.cast (ef1 m_ x ) ?_
  refine g_iloadN X0 hx rfl (hb hby d1_0) 1 rfl ?_
  refine g_bipush X0 hx (32 : Int32) rfl (hb hby d1_1) 3 rfl ?_
  refine g_icmp_le X0 hx (hb hby d1_3) 19 6 (by decide) rfl rfl (fun q3 => ?_) (fun q3 => ?_)
  · refine g_iconst X0 hx (0 : Int32) rfl (hb hby d1_19) 20 rfl ?_
    exact g_retzH X0 hx hret hlk (by decide) (by decide) (hb hby d1_20) e0 hZ hS hk0 hEL H ⟨congrArg (fun z => some (Value.int z)) (show iri x = _ from ((if_neg q3).trans rfl)).symm, N0, (Keep.refl h0 [])⟩
  · refine g_ldcC X0 hx hown (wd hw 9 rfl) (own_wS hw) e0 hZ hS hk0 hEL H (by decide) (vs := [(.int (60 : Int32)), (.int (62 : Int32)), (.int (34 : Int32)), (.int (123 : Int32)), (.int (125 : Int32)), (.int (124 : Int32)), (.int (94 : Int32)), (.int (96 : Int32)), (.int (92 : Int32))]) (z := (9 : Int32)) (by decide +kernel) (by decide) rfl (by decide) (hb hby d1_6) (n := 36) (by decide) (by decide) (by decide) (by decide) 8 rfl (fun b3 b4 T1 h2 k5 X6 e7 E8 hZ hown hS hk0 H E9 F10 F11 A12 sf13 => ?_)
    have F14 := S_cs.ext E8
    have szh15 : n0 ≤ h2.size := Nat.le_trans Z0 E8.1
    have K16 := (Keep.refl h0 []).ext E8
    show Go p_ e_ below _ T1 (mkF m_ 8 #[.val (.int x)] [(.ref b3)])
    refine g_iloadN X6 hx rfl (hb hby d1_8) 9 rfl ?_
    refine g_callV X6 hx hZ hown (wd hw 17 rfl) (C := "java/lang/String") (wd hw 18 rfl) (wd hw 20 rfl) (wd hw 19 rfl) (wd hw 10 rfl) (wd hw 21 rfl) (by decide) e7 [(.int x)] [] E9 rfl (co3 l Z a0 hw b3 x b4 cs h2 E9 F10 F11 A12 F14 hcs) (lenOf pd_6 rfl) 0 (Nat.le_of_eq rfl) (by decide) (by decide) (by decide) (by decide) (by rw [hml]; rfl) (hb hby d1_9) 12 rfl (pu_cont fun T18 X17 e19 => ?_)
    show Go p_ e_ below _ T18 (mkF m_ 12 #[.val (.int x)] [(.int (sio1 x))])
    refine g_if_ge X17 hx (hb hby d1_12) 19 15 (by decide) rfl rfl (fun q12 => ?_) (fun q12 => ?_)
    · refine g_iconst X17 hx (0 : Int32) rfl (hb hby d1_19) 20 rfl ?_
      exact g_retzH X17 hx hret hlk (by decide) (by decide) (hb hby d1_20) e19 hZ hS hk0 hEL H ⟨congrArg (fun z => some (Value.int z)) (show iri x = _ from ((if_pos q3).trans ((if_neg q12).trans rfl))).symm, N0, K16⟩
    · refine g_iconst X17 hx (1 : Int32) rfl (hb hby d1_15) 16 rfl ?_
      refine g_goto X17 hx (hb hby d1_16) 20 (by decide) rfl ?_
      exact g_retzH X17 hx hret hlk (by decide) (by decide) (hb hby d1_20) e19 hZ hS hk0 hEL H ⟨congrArg (fun z => some (Value.int z)) (show iri x = _ from ((if_pos q3).trans ((if_pos q12).trans rfl))).symm, N0, K16⟩
theorem d2_0 : decode method_2_code 0 = .ok (.iload_n 0, 1) := by decide +kernel
theorem d2_1 : decode method_2_code 1 = .ok (.bipush 32, 2) := by decide +kernel
theorem d2_3 : decode method_2_code 3 = .ok (.if_icmp .gt 5, 3) := by decide +kernel
theorem d2_8 : decode method_2_code 8 = .ok (.iload_n 0, 1) := by decide +kernel
theorem d2_9 : decode method_2_code 9 = .ok (.bipush 60, 2) := by decide +kernel
theorem d2_11 : decode method_2_code 11 = .ok (.if_icmp .eq 27, 3) := by decide +kernel
theorem d2_38 : decode method_2_code 38 = .ok (.iconst 0, 1) := by decide +kernel
theorem d2_14 : decode method_2_code 14 = .ok (.iload_n 0, 1) := by decide +kernel
theorem d2_15 : decode method_2_code 15 = .ok (.bipush 62, 2) := by decide +kernel
theorem d2_17 : decode method_2_code 17 = .ok (.if_icmp .eq 21, 3) := by decide +kernel
theorem d2_20 : decode method_2_code 20 = .ok (.iload_n 0, 1) := by decide +kernel
theorem d2_21 : decode method_2_code 21 = .ok (.bipush 34, 2) := by decide +kernel
theorem d2_23 : decode method_2_code 23 = .ok (.if_icmp .eq 15, 3) := by decide +kernel
theorem d2_26 : decode method_2_code 26 = .ok (.iload_n 0, 1) := by decide +kernel
theorem d2_27 : decode method_2_code 27 = .ok (.bipush 123, 2) := by decide +kernel
theorem d2_29 : decode method_2_code 29 = .ok (.if_icmp .eq 9, 3) := by decide +kernel
theorem d2_32 : decode method_2_code 32 = .ok (.iload_n 0, 1) := by decide +kernel
theorem d2_33 : decode method_2_code 33 = .ok (.bipush 125, 2) := by decide +kernel
theorem d2_35 : decode method_2_code 35 = .ok (.if_icmp .ne 5, 3) := by decide +kernel
theorem d2_40 : decode method_2_code 40 = .ok (.iload_n 0, 1) := by decide +kernel
theorem d2_41 : decode method_2_code 41 = .ok (.bipush 124, 2) := by decide +kernel
theorem d2_43 : decode method_2_code 43 = .ok (.if_icmp .eq 21, 3) := by decide +kernel
theorem d2_64 : decode method_2_code 64 = .ok (.iconst 0, 1) := by decide +kernel
theorem d2_46 : decode method_2_code 46 = .ok (.iload_n 0, 1) := by decide +kernel
theorem d2_47 : decode method_2_code 47 = .ok (.bipush 94, 2) := by decide +kernel
theorem d2_49 : decode method_2_code 49 = .ok (.if_icmp .eq 15, 3) := by decide +kernel
theorem d2_52 : decode method_2_code 52 = .ok (.iload_n 0, 1) := by decide +kernel
theorem d2_53 : decode method_2_code 53 = .ok (.bipush 96, 2) := by decide +kernel
theorem d2_55 : decode method_2_code 55 = .ok (.if_icmp .eq 9, 3) := by decide +kernel
theorem d2_58 : decode method_2_code 58 = .ok (.iload_n 0, 1) := by decide +kernel
theorem d2_59 : decode method_2_code 59 = .ok (.bipush 92, 2) := by decide +kernel
theorem d2_61 : decode method_2_code 61 = .ok (.if_icmp .ne 5, 3) := by decide +kernel
theorem d2_66 : decode method_2_code 66 = .ok (.iconst 1, 1) := by decide +kernel
theorem d2_6 : decode method_2_code 6 = .ok (.iconst 0, 1) := by decide +kernel
def exq (c : Int32) : Int32 := if (32 : Int32) < c then (if c = (60 : Int32) then ((0 : Int32) &&& 1) else (if c = (62 : Int32) then ((0 : Int32) &&& 1) else (if c = (34 : Int32) then ((0 : Int32) &&& 1) else (if c = (123 : Int32) then ((0 : Int32) &&& 1) else (if c = (125 : Int32) then ((0 : Int32) &&& 1) else (if c = (124 : Int32) then ((0 : Int32) &&& 1) else (if c = (94 : Int32) then ((0 : Int32) &&& 1) else (if c = (96 : Int32) then ((0 : Int32) &&& 1) else (if c = (92 : Int32) then ((0 : Int32) &&& 1) else ((1 : Int32) &&& 1)))))))))) else ((0 : Int32) &&& 1)
theorem ef2 (m_ : MethodId) (c : Int32)  : entryFrame m_ #[(.int c)] 1 = mkF m_ 0 #[.val (.int c)] [] := by first | (simp [entryFrame, mkF, argsToLocals, Value.category]; done) | rfl
theorem pn_3 : plainName "com/example/quadrille/quadrille/nquads/GrammarIsIriCharPinLaw" = true := by first | (simp [plainName, overriddenIn]; done) | decide +kernel
theorem d2_39 : decode method_2_code 39 = .ok (.ireturn, 1) := by decide +kernel
theorem d2_65 : decode method_2_code 65 = .ok (.ireturn, 1) := by decide +kernel
theorem d2_67 : decode method_2_code 67 = .ok (.ireturn, 1) := by decide +kernel
theorem d2_7 : decode method_2_code 7 = .ok (.ireturn, 1) := by decide +kernel
set_option maxRecDepth 65536 in
set_option maxHeartbeats 40000000 in
theorem co2 (l : Launch) (Z : State) (a0 : Array Value) (hw : ∀ d ∈ tables_1, d.before a0 Z = true) (c : Int32) (h0 : Heap)  : Co l (⟨"com/example/quadrille/quadrille/nquads/GrammarIsIriCharPinLaw", "expected", "(I)Z"⟩ : MethodName) method_2_code 1 (some .boolean) [] ({ frames := 0, cells := 0, slots := 0, locals := 0 } : Room) Z h0 #[(.int c)] (Pu h0 (some (.int (exq c)))) := by
  refine Co.of (plainFor_of_name pn_3) ?_
  intro p_ e_ s_ m_ below meth c_ T0 X0 hx hby hml hown hnm hret hlk hZ e0
  refine Go.cast (ef2 m_ c ) ?_
  refine g_iloadN X0 hx rfl (hb hby d2_0) 1 rfl ?_
  refine g_bipush X0 hx (32 : Int32) rfl (hb hby d2_1) 3 rfl ?_
  refine g_icmp_gt X0 hx (hb hby d2_3) 8 6 (by decide) rfl rfl (fun q3 => ?_) (fun q3 => ?_)
  · refine g_iloadN X0 hx rfl (hb hby d2_8) 9 rfl ?_
    refine g_bipush X0 hx (60 : Int32) rfl (hb hby d2_9) 11 rfl ?_
    refine g_icmp_eq X0 hx (hb hby d2_11) 38 14 (by decide) rfl rfl (fun q11 => ?_) (fun q11 => ?_)
    · refine g_iconst X0 hx (0 : Int32) rfl (hb hby d2_38) 39 rfl ?_
      exact g_retz X0 hx hret hlk (by decide) (by decide) (hb hby d2_39) ⟨congrArg (fun z => some (Value.int z)) (show exq c = _ from ((if_pos q3).trans ((if_pos q11).trans rfl))).symm, e0, rfl⟩
    · refine g_iloadN X0 hx rfl (hb hby d2_14) 15 rfl ?_
      refine g_bipush X0 hx (62 : Int32) rfl (hb hby d2_15) 17 rfl ?_
      refine g_icmp_eq X0 hx (hb hby d2_17) 38 20 (by decide) rfl rfl (fun q17 => ?_) (fun q17 => ?_)
      · refine g_iconst X0 hx (0 : Int32) rfl (hb hby d2_38) 39 rfl ?_
        exact g_retz X0 hx hret hlk (by decide) (by decide) (hb hby d2_39) ⟨congrArg (fun z => some (Value.int z)) (show exq c = _ from ((if_pos q3).trans ((if_neg q11).trans ((if_pos q17).trans rfl)))).symm, e0, rfl⟩
      · refine g_iloadN X0 hx rfl (hb hby d2_20) 21 rfl ?_
        refine g_bipush X0 hx (34 : Int32) rfl (hb hby d2_21) 23 rfl ?_
        refine g_icmp_eq X0 hx (hb hby d2_23) 38 26 (by decide) rfl rfl (fun q23 => ?_) (fun q23 => ?_)
        · refine g_iconst X0 hx (0 : Int32) rfl (hb hby d2_38) 39 rfl ?_
          exact g_retz X0 hx hret hlk (by decide) (by decide) (hb hby d2_39) ⟨congrArg (fun z => some (Value.int z)) (show exq c = _ from ((if_pos q3).trans ((if_neg q11).trans ((if_neg q17).trans ((if_pos q23).trans rfl))))).symm, e0, rfl⟩
        · refine g_iloadN X0 hx rfl (hb hby d2_26) 27 rfl ?_
          refine g_bipush X0 hx (123 : Int32) rfl (hb hby d2_27) 29 rfl ?_
          refine g_icmp_eq X0 hx (hb hby d2_29) 38 32 (by decide) rfl rfl (fun q29 => ?_) (fun q29 => ?_)
          · refine g_iconst X0 hx (0 : Int32) rfl (hb hby d2_38) 39 rfl ?_
            exact g_retz X0 hx hret hlk (by decide) (by decide) (hb hby d2_39) ⟨congrArg (fun z => some (Value.int z)) (show exq c = _ from ((if_pos q3).trans ((if_neg q11).trans ((if_neg q17).trans ((if_neg q23).trans ((if_pos q29).trans rfl)))))).symm, e0, rfl⟩
          · refine g_iloadN X0 hx rfl (hb hby d2_32) 33 rfl ?_
            refine g_bipush X0 hx (125 : Int32) rfl (hb hby d2_33) 35 rfl ?_
            refine g_icmp_ne X0 hx (hb hby d2_35) 40 38 (by decide) rfl rfl (fun q35 => ?_) (fun q35 => ?_)
            · refine g_iloadN X0 hx rfl (hb hby d2_40) 41 rfl ?_
              refine g_bipush X0 hx (124 : Int32) rfl (hb hby d2_41) 43 rfl ?_
              refine g_icmp_eq X0 hx (hb hby d2_43) 64 46 (by decide) rfl rfl (fun q43 => ?_) (fun q43 => ?_)
              · refine g_iconst X0 hx (0 : Int32) rfl (hb hby d2_64) 65 rfl ?_
                exact g_retz X0 hx hret hlk (by decide) (by decide) (hb hby d2_65) ⟨congrArg (fun z => some (Value.int z)) (show exq c = _ from ((if_pos q3).trans ((if_neg q11).trans ((if_neg q17).trans ((if_neg q23).trans ((if_neg q29).trans ((if_neg q35).trans ((if_pos q43).trans rfl)))))))).symm, e0, rfl⟩
              · refine g_iloadN X0 hx rfl (hb hby d2_46) 47 rfl ?_
                refine g_bipush X0 hx (94 : Int32) rfl (hb hby d2_47) 49 rfl ?_
                refine g_icmp_eq X0 hx (hb hby d2_49) 64 52 (by decide) rfl rfl (fun q49 => ?_) (fun q49 => ?_)
                · refine g_iconst X0 hx (0 : Int32) rfl (hb hby d2_64) 65 rfl ?_
                  exact g_retz X0 hx hret hlk (by decide) (by decide) (hb hby d2_65) ⟨congrArg (fun z => some (Value.int z)) (show exq c = _ from ((if_pos q3).trans ((if_neg q11).trans ((if_neg q17).trans ((if_neg q23).trans ((if_neg q29).trans ((if_neg q35).trans ((if_neg q43).trans ((if_pos q49).trans rfl))))))))).symm, e0, rfl⟩
                · refine g_iloadN X0 hx rfl (hb hby d2_52) 53 rfl ?_
                  refine g_bipush X0 hx (96 : Int32) rfl (hb hby d2_53) 55 rfl ?_
                  refine g_icmp_eq X0 hx (hb hby d2_55) 64 58 (by decide) rfl rfl (fun q55 => ?_) (fun q55 => ?_)
                  · refine g_iconst X0 hx (0 : Int32) rfl (hb hby d2_64) 65 rfl ?_
                    exact g_retz X0 hx hret hlk (by decide) (by decide) (hb hby d2_65) ⟨congrArg (fun z => some (Value.int z)) (show exq c = _ from ((if_pos q3).trans ((if_neg q11).trans ((if_neg q17).trans ((if_neg q23).trans ((if_neg q29).trans ((if_neg q35).trans ((if_neg q43).trans ((if_neg q49).trans ((if_pos q55).trans rfl)))))))))).symm, e0, rfl⟩
                  · refine g_iloadN X0 hx rfl (hb hby d2_58) 59 rfl ?_
                    refine g_bipush X0 hx (92 : Int32) rfl (hb hby d2_59) 61 rfl ?_
                    refine g_icmp_ne X0 hx (hb hby d2_61) 66 64 (by decide) rfl rfl (fun q61 => ?_) (fun q61 => ?_)
                    · refine g_iconst X0 hx (1 : Int32) rfl (hb hby d2_66) 67 rfl ?_
                      exact g_retz X0 hx hret hlk (by decide) (by decide) (hb hby d2_67) ⟨congrArg (fun z => some (Value.int z)) (show exq c = _ from ((if_pos q3).trans ((if_neg q11).trans ((if_neg q17).trans ((if_neg q23).trans ((if_neg q29).trans ((if_neg q35).trans ((if_neg q43).trans ((if_neg q49).trans ((if_neg q55).trans ((if_neg q61).trans rfl))))))))))).symm, e0, rfl⟩
                    · refine g_iconst X0 hx (0 : Int32) rfl (hb hby d2_64) 65 rfl ?_
                      exact g_retz X0 hx hret hlk (by decide) (by decide) (hb hby d2_65) ⟨congrArg (fun z => some (Value.int z)) (show exq c = _ from ((if_pos q3).trans ((if_neg q11).trans ((if_neg q17).trans ((if_neg q23).trans ((if_neg q29).trans ((if_neg q35).trans ((if_neg q43).trans ((if_neg q49).trans ((if_neg q55).trans ((if_pos q61).trans rfl))))))))))).symm, e0, rfl⟩
            · refine g_iconst X0 hx (0 : Int32) rfl (hb hby d2_38) 39 rfl ?_
              exact g_retz X0 hx hret hlk (by decide) (by decide) (hb hby d2_39) ⟨congrArg (fun z => some (Value.int z)) (show exq c = _ from ((if_pos q3).trans ((if_neg q11).trans ((if_neg q17).trans ((if_neg q23).trans ((if_neg q29).trans ((if_pos q35).trans rfl))))))).symm, e0, rfl⟩
  · refine g_iconst X0 hx (0 : Int32) rfl (hb hby d2_6) 7 rfl ?_
    exact g_retz X0 hx hret hlk (by decide) (by decide) (hb hby d2_7) ⟨congrArg (fun z => some (Value.int z)) (show exq c = _ from ((if_neg q3).trans rfl)).symm, e0, rfl⟩
theorem own_small (c : Int32) (h0 : ¬ c < 0) (h1 : ¬ (255 : Int32) < c) (k : Int32) (hk : 0 ≤ k.toInt ∧ k.toInt < 128) : k = c.toInt8.toInt32 ↔ c = k := by
  have e := c_i2b c
  rw [Int32.lt_iff_toInt_lt] at h0 h1
  simp only [Int32.reduceToInt] at h0 h1
  rw [← Int32.toInt_inj, ← Int32.toInt_inj]
  omega
theorem own_ioc (c : Int32) (h0 : ¬ c < 0) (h1 : ¬ (255 : Int32) < c) : ioc c < (0 : Int32) ↔ ¬ (c = 60 ∨ c = 62 ∨ c = 34 ∨ c = 123 ∨ c = 125 ∨ c = 124 ∨ c = 94 ∨ c = 96 ∨ c = 92) := by
  unfold ioc
  have s := fun k hk => own_small c h0 h1 k hk
  simp only [s (60 : Int32) (by decide), s (62 : Int32) (by decide), s (34 : Int32) (by decide), s (123 : Int32) (by decide), s (125 : Int32) (by decide), s (124 : Int32) (by decide), s (94 : Int32) (by decide), s (96 : Int32) (by decide), s (92 : Int32) (by decide)]
  by_cases a0 : c = 60
  · subst a0; decide
  by_cases a1 : c = 62
  · subst a1; decide
  by_cases a2 : c = 34
  · subst a2; decide
  by_cases a3 : c = 123
  · subst a3; decide
  by_cases a4 : c = 125
  · subst a4; decide
  by_cases a5 : c = 124
  · subst a5; decide
  by_cases a6 : c = 94
  · subst a6; decide
  by_cases a7 : c = 96
  · subst a7; decide
  by_cases a8 : c = 92
  · subst a8; decide
  simp [a0, a1, a2, a3, a4, a5, a6, a7, a8]
theorem own_fin (c : Int32) : iri c = exq c := by
  by_cases q : (32 : Int32) < c
  · have hx : (c = 60 ∨ c = 62 ∨ c = 34 ∨ c = 123 ∨ c = 125 ∨ c = 124 ∨ c = 94 ∨ c = 96 ∨ c = 92) ∨ ¬ (c = 60 ∨ c = 62 ∨ c = 34 ∨ c = 123 ∨ c = 125 ∨ c = 124 ∨ c = 94 ∨ c = 96 ∨ c = 92) := Classical.em _
    rcases hx with hx | hx
    · rcases hx with rfl | rfl | rfl | rfl | rfl | rfl | rfl | rfl | rfl <;> decide
    · have hi : sio1 c < (0 : Int32) := by
        show lio c < (0 : Int32)
        unfold lio can
        by_cases h0 : c < (0 : Int32)
        · rw [if_pos h0, if_pos (by decide)]; decide
        · by_cases h1 : (255 : Int32) < c
          · rw [if_neg h0, if_pos h1, if_pos (by decide)]; decide
          · rw [if_neg h0, if_neg h1, if_neg (by decide)]; exact (own_ioc c h0 h1).mpr hx
      unfold iri
      rw [if_pos q, if_pos hi]
      simp only [not_or] at hx
      obtain ⟨b0, b1, b2, b3, b4, b5, b6, b7, b8⟩ := hx
      unfold exq
      rw [if_pos q]
      simp [b0, b1, b2, b3, b4, b5, b6, b7, b8]
  · unfold iri exq
    rw [if_neg q, if_neg q]
theorem ef0 (m_ : MethodId) (x0 : Int32) (x1 : Int32)  : entryFrame m_ #[(.int x0), (.int x1)] maxLocals = mkF m_ 0 #[.val (.int x0), .val (.int x1), .unset, .unset] [] := by first | (simp [entryFrame, mkF, argsToLocals, Value.category, maxLocals]; done) | rfl
set_option maxRecDepth 65536 in
set_option maxHeartbeats 40000000 in
theorem rm0 (l : Launch) (Z : State) (a0 : Array Value) (hw : ∀ d ∈ tables_1, d.before a0 Z = true) (hEL : EW Z a0 EL) (ws : List Jvm.Cond) (x0 : Int32) (x1 : Int32) (h0 : Heap) (cs : Int32) (S_cs : Sta Z h0 "java/lang/String" "COMPACT_STRINGS" "Z" (.int cs)) (hcs : ¬ cs = (0 : Int32)) : CoH l x code maxLocals ret ws room_1 Z EL h0 #[(.int x0), (.int x1)] (fun v h L => v = some (.int 1) ∧ Fr h0.size L) := by
  refine CoH.of (plainFor_of_name pn_3) ?_
  intro p_ e_ s_ m_ below meth c_ T0 X0 hx hby hml hown hnm hret hlk hZ e0 hs0 hS H
  have N0 := Fr.nil h0.size
  have hk0 := Nat.le_refl h0.size
  refine Go.cast (ef0 m_ x0 x1) ?_
  refine g_iloadN X0 hx rfl (hb hby at_0) 1 rfl ?_
  refine g_iconst X0 hx (3 : Int32) rfl (hb hby at_1) 2 rfl ?_
  refine g_iand X0 hx (hb hby at_2) 3 rfl ?_
  generalize hv1 : (x1 &&& (3 : Int32)) = v1
  refine g_istoreN X0 hx #[.val (.int x0), .val (.int x1), .val (.int v1), .unset] rfl (hb hby at_3) 4 rfl ?_
  refine g_iloadN X0 hx rfl (hb hby at_4) 5 rfl ?_
  refine Go.joinT (α := Int32) X0 e0 (fun z => mkF m_ 47 #[.val (.int x0), .val (.int x1), .val (.int v1), .val (.int z)] []) (fun z => z = (if v1 = (0 : Int32) then x0 else (if v1 = (1 : Int32) then (x0 &&& (127 : Int32)) else (if v1 = (2 : Int32) then ((x0 &&& (63 : Int32)) - (16 : Int32)) else (x0 &&& (65535 : Int32)))))) ?_ (fun J3 => ?_)
  · rintro T4 X5 e6 z2 hz2
    show Go p_ e_ below _ T4 (mkF m_ 47 #[.val (.int x0), .val (.int x1), .val (.int v1), .val (.int z2)] [])
    refine g_iloadN X5 hx rfl (hb hby at_47) 48 rfl ?_
    refine g_callSH X5 hx hown (wd hw 1 rfl) (wd hw 2 rfl) (wd hw 3 rfl) (wd hw 4 rfl) (by decide) e6 [(.int z2)] [] hZ hS hk0 hEL H rfl (co1 l Z a0 hw hEL z2 cs h0 h0.size (Nat.le_refl h0.size) S_cs hcs) (lenOf pd_1 rfl) 0 (Nat.le_of_eq rfl) (by decide) (by decide) (by decide) (by decide) (by rw [hml]; rfl) (hb hby at_48) 51 rfl (fun r9 T10 h11 L12 X13 e14 hZ hown hS H Q15 => ?_)
    have hk0 := Nat.le_refl h11.size
    obtain ⟨rfl, n16, K17⟩ := Q15
    have N18 := Fr.app N0 n16
    have F19 := own_sta_keep S_cs K17 ns0
    have szh20 : h0.size ≤ h11.size := Nat.le_trans (Nat.le_refl h0.size) K17.1
    show Go p_ e_ below _ T10 (mkF m_ 51 #[.val (.int x0), .val (.int x1), .val (.int v1), .val (.int z2)] [(.int (iri z2))])
    refine g_iloadN X13 hx rfl (hb hby at_51) 52 rfl ?_
    refine g_callS X13 hx hZ hown (wd hw 5 rfl) (wd hw 6 rfl) (wd hw 7 rfl) (wd hw 8 rfl) (by decide) e14 [(.int z2)] [(.int (iri z2))]  rfl (co2 l Z a0 hw z2  h11 ) (lenOf pd_1 rfl) 1 (Nat.le_of_eq rfl) (by decide) (by decide) (by decide) (by decide) (by rw [hml]; rfl) (hb hby at_52) 55 rfl (pu_cont fun T22 X21 e23 => ?_)
    show Go p_ e_ below _ T22 (mkF m_ 55 #[.val (.int x0), .val (.int x1), .val (.int v1), .val (.int z2)] [(.int (exq z2)), (.int (iri z2))])
    refine g_icmp_ne X21 hx (hb hby at_55) 62 58 (by decide) rfl rfl (fun q55 => ?_) (fun q55 => ?_)
    · exact absurd (own_fin _) q55
    · refine g_iconst X21 hx (1 : Int32) rfl (hb hby at_58) 59 rfl ?_
      refine g_goto X21 hx (hb hby at_59) 63 (by decide) rfl ?_
      exact g_retzH X21 hx hret hlk (by decide) (by decide) (hb hby at_63) e23 hZ hS hk0 hEL H ⟨rfl, N18⟩
  · refine g_if_ne X0 hx (hb hby at_5) 13 8 (by decide) rfl rfl (fun q5 => ?_) (fun q5 => ?_)
    · refine g_iloadN X0 hx rfl (hb hby at_13) 14 rfl ?_
      refine g_iconst X0 hx (1 : Int32) rfl (hb hby at_14) 15 rfl ?_
      refine g_icmp_ne X0 hx (hb hby at_15) 26 18 (by decide) rfl rfl (fun q15 => ?_) (fun q15 => ?_)
      · refine g_iloadN X0 hx rfl (hb hby at_26) 27 rfl ?_
        refine g_iconst X0 hx (2 : Int32) rfl (hb hby at_27) 28 rfl ?_
        refine g_icmp_ne X0 hx (hb hby at_28) 42 31 (by decide) rfl rfl (fun q28 => ?_) (fun q28 => ?_)
        · refine g_iloadN X0 hx rfl (hb hby at_42) 43 rfl ?_
          refine g_ldc X0 hx hZ hown (wd hw 0 rfl) (hb hby at_43) 45 rfl ?_
          refine g_iand X0 hx (hb hby at_45) 46 rfl ?_
          refine g_istoreN X0 hx #[.val (.int x0), .val (.int x1), .val (.int v1), .val (.int (x0 &&& (65535 : Int32)))] rfl (hb hby at_46) 47 rfl ?_
          exact J3 T0 X0 e0 ((x0 &&& (65535 : Int32))) ((if_neg q5).trans ((if_neg q15).trans ((if_neg q28).trans rfl))).symm
        · refine g_iloadN X0 hx rfl (hb hby at_31) 32 rfl ?_
          refine g_bipush X0 hx (63 : Int32) rfl (hb hby at_32) 34 rfl ?_
          refine g_iand X0 hx (hb hby at_34) 35 rfl ?_
          refine g_bipush X0 hx (16 : Int32) rfl (hb hby at_35) 37 rfl ?_
          refine g_isub X0 hx (hb hby at_37) 38 rfl ?_
          refine g_istoreN X0 hx #[.val (.int x0), .val (.int x1), .val (.int v1), .val (.int ((x0 &&& (63 : Int32)) - (16 : Int32)))] rfl (hb hby at_38) 39 rfl ?_
          refine g_goto X0 hx (hb hby at_39) 47 (by decide) rfl ?_
          exact J3 T0 X0 e0 (((x0 &&& (63 : Int32)) - (16 : Int32))) ((if_neg q5).trans ((if_neg q15).trans ((if_pos q28).trans rfl))).symm
      · refine g_iloadN X0 hx rfl (hb hby at_18) 19 rfl ?_
        refine g_bipush X0 hx (127 : Int32) rfl (hb hby at_19) 21 rfl ?_
        refine g_iand X0 hx (hb hby at_21) 22 rfl ?_
        refine g_istoreN X0 hx #[.val (.int x0), .val (.int x1), .val (.int v1), .val (.int (x0 &&& (127 : Int32)))] rfl (hb hby at_22) 23 rfl ?_
        refine g_goto X0 hx (hb hby at_23) 47 (by decide) rfl ?_
        exact J3 T0 X0 e0 ((x0 &&& (127 : Int32))) ((if_neg q5).trans ((if_pos q15).trans rfl)).symm
    · refine g_iloadN X0 hx rfl (hb hby at_8) 9 rfl ?_
      refine g_istoreN X0 hx #[.val (.int x0), .val (.int x1), .val (.int v1), .val (.int x0)] rfl (hb hby at_9) 10 rfl ?_
      refine g_goto X0 hx (hb hby at_10) 47 (by decide) rfl ?_
      exact J3 T0 X0 e0 (x0) ((if_pos q5).trans rfl).symm
set_option maxRecDepth 65536 in
set_option maxHeartbeats 40000000 in
theorem comes_1 {Post : Tables → Env → Array Value → State → Outcome → State → Prop} (hpost : ∀ tb e args s v u, (limb_1_1.after args s (.returned v) u = true ∧ limb_1_2.after args s (.returned v) u = true ∧ True) → ReturnedEndW s (.returned v) u (Jvm.fieldLocs frame_1_writes args s ++ Jvm.arrayLocs frame_1_arrays args s ++ Jvm.staticLocs frame_1_statics s) 8 1088 → Post tb e args s (.returned v) u) :
    ArmFor flags0 classFile x code maxLocals ret World_1 tables_1 room_1 Calls_1 rest_1 Pre_1 Post := by
  intro l hfl _ _ p e ha hc hk s m args below hf hA hF happ hP
  obtain ⟨hcalls, hrest, hpre⟩ := hP
  obtain ⟨-, -, -, hnamed, -, -, -, hat⟩ := (Spec.applies_iff hf).mp happ
  obtain ⟨hg, hn⟩ := and_e (Cond.before_iff.mp (show (Jvm.Cond.and given_1 narrow_1).before args s = true from hpre))
  obtain ⟨h1, g0⟩ := and_e hg
  obtain ⟨w0, w1, rfl⟩ : ∃ w0 w1 : Value, args = #[w0, w1] := by
    have hs : args.size = 2 := by simpa [Cond.value, given_1] using h1
    obtain ⟨L⟩ := args
    match L, hs with
    | [w0, w1], _ => exact ⟨w0, w1, rfl⟩
  have hw := fun d (hd : d ∈ tables_1) => atoms_spec (ws := Jvm.Cond.code x code maxLocals ret :: tables_1) hat d (List.mem_cons_of_mem _ hd)
  have hfit : Fit s := fun {y c} hc i hi => by
    obtain ⟨ha, rfl⟩ := Array.getElem?_eq_some_iff.mp hc
    have q := List.all_eq_true.mp ((Array.all_eq_true_iff_forall_mem.mp hF) _ (Array.getElem_mem ha)) i (List.mem_range.mpr hi)
    simpa [Array.getElem?_eq_getElem hi] using q
  obtain ⟨hk_0, hg_1⟩ := and_e g0
  obtain ⟨x0, r0⟩ := is_v hk_0
  obtain rfl : w0 = (.int x0) := Option.some.inj r0
  obtain ⟨x1, r1⟩ := is_v hg_1
  obtain rfl : w1 = (.int x1) := Option.some.inj r1
  have hr0 := hrest
  rw [show rest_1 = Jvm.D.preC rest_1_c from rfl] at hr0
  have hr1 : rest_1_c.before _ s = true := hr0
  rw [rest_1_c_eq] at hr1
  obtain ⟨hsets, -⟩ := atoms_of jdkStatics_1 hr1
  have k0 := hsets _ (List.mem_of_getElem? (i := 0) rfl)
  obtain ⟨cs, evc⟩ := is_v (Cond.before_iff.mp (hsets _ (List.mem_of_getElem? (i := 1) rfl)))
  have S_cs := Sta.start evc (Or.inl k0)
  have hcs : ¬ cs = (0 : Int32) := fun q => by
    have u := not_v (Cond.before_iff.mp (hsets _ (List.mem_of_getElem? (i := 2) rfl)))
    subst q
    exact absurd (u.symm.trans (eq_i evc (Term.int_eval 0) rfl)) (by decide)
  have hEL : EW s _ EL := (EW.cons (wd hw 9 rfl) (by decide +kernel) EW.nil)
  have hCH : CHv s EL s.vm s.heap := CHv.start hEL hcalls.1 (hsets _ (List.mem_of_getElem? (i := 2) rfl)) (wd hw 12 rfl) (wd hw 11 rfl)
  obtain ⟨n, o, h1, h2, h3, _, L, rfl, ⟨rfl, N⟩, -, hq⟩ := rm0 l s _ hw hEL tables_1 x0 x1 s.heap cs S_cs hcs p e ha hc hk s m _ below hf ((Spec.applies_iff_loose hf).mp happ).1 ⟨rfl, State.Warmed39.refl s, rfl, hCH⟩ trivial
  refine ⟨n, _, h1, h2, h3, hpost _ _ _ _ _ _ ⟨Cond.after_iff.mpr rfl, Cond.after_iff.mpr (eq_i res_at (Term.int_eval (1)) rfl), trivial⟩ ⟨hq.1, hq.2.1, hq.2.2.1, (hq.2.2.2.sift fun y hy => Or.inr (N y hy)).mono (by decide) (by decide)⟩⟩
theorem main_1_1 : Claimed_1_1 := comes_1 fun _ _ _ _ _ _ h hF => ⟨h.1, hF⟩
theorem main_1_2 : Claimed_1_2 := comes_1 fun _ _ _ _ _ _ h hF => ⟨h.2.1, hF⟩
end Jvm.Pilot.@@N@@
namespace Jvm.Pilot.@@N@@
open Jvm Jvm.ClassFile Sem Op Lib Jvm.Free Jvm.Stand Jvm.Pilot.@@N@@.Jvm.D
/-! MADE BY PROGRAM (witnessworld.py) out of the Statement's table words and the real class files: 18 classes; the members and pool entries that the words name. The judged class is class 1, her method 2. -/
namespace start1
open Jvm.ClassFile
def u (s : String) : CpInfo := .utf8 (stringToUtf16 s)
/-- a pool by its gaps: so many unusable entries, then the entry; so many at the end -/
def gap : Nat → List CpInfo → List CpInfo
  | 0, r => r
  | n + 1, r => .unusable :: gap n r
def poolList (es : List (Nat × CpInfo)) (last : Nat) : List CpInfo := es.foldr (fun e r => gap e.1 (e.2 :: r)) (gap last [])
def pool (es : List (Nat × CpInfo)) (last : Nat) : Array CpInfo := ⟨poolList es last⟩
def fileOf (pool : Array CpInfo) (this : Nat) (attrs : Array Attribute := #[]) (ms : Array MethodInfo := #[]) (fl : Nat := 33) (sup : Nat := 0) (ifs : Array Nat := #[]) (fds : Array FieldInfo := #[]) : ClassFile where
  minorVersion := 0
  majorVersion := 65
  constantPool := pool
  accessFlags := fl
  thisClass := this
  superClass := sup
  interfaces := ifs
  fields := fds
  methods := ms
  attributes := attrs
def plain (name : String) (sup : Option ClassId) : Class where
  name := name
  kind := .ordinary
  loader := none
  accessFlags := 33
  super := sup
  interfaces := #[]
  cf := none
  fields := #[]
  methods := #[]
  instanceTypes := #[]
  staticTypes := #[]
  resolved := #[]
  callSites := []
  init := .initialized
  statics := none
  mirror := none

def pool0 : Array CpInfo := pool [(5, u "<init>"), (0, u "()V"), (1, .class_ 10), (1, u "java/lang/Object")] 113

def k0m0 : Method := { name := "<init>", desc := "()V", sig := { parameters := [], returnType := none }, accessFlags := 1, code := none }
/-- java/lang/Object -/
def k0 : Class := { plain "java/lang/Object" none with
  accessFlags := 33
  interfaces := #[]
  cf := some (fileOf pool0 8 #[] #[{ accessFlags := 1, nameIndex := 5, descriptorIndex := 6, attributes := #[] }] 33 0 #[] #[])
  fields := #[]
  methods := #[k0m0]
  instanceTypes := #[]
  staticTypes := #[]
  resolved := Array.replicate 124 none
  statics := none }

def pool1 : Array CpInfo := pool [(2, .class_ 4), (1, u "java/lang/Object"), (0, u "<init>"), (0, u "()V"), (0, .integer 65535), (0, .methodref 9 10), (0, .class_ 11), (0, .nameAndType 12 13), (0, u "com/example/quadrille/quadrille/nquads/Grammar"), (0, u "isIriChar"), (0, u "(I)Z"), (0, .methodref 15 16), (0, .class_ 17), (0, .nameAndType 18 13), (0, u "com/example/quadrille/quadrille/nquads/GrammarIsIriCharPinLaw"), (0, u "expected"), (3, u "law"), (0, u "(II)Z")] 2

def k1m0 : Method := { name := "<init>", desc := "()V", sig := { parameters := [], returnType := none }, accessFlags := 2, code := none }
def k1c1 : Code := { maxStack := 2, maxLocals := 1, code := method_2_code, exceptionTable := #[], attributes := #[] }
def k1m1 : Method := { name := "expected", desc := "(I)Z", sig := { parameters := [.int], returnType := some .boolean }, accessFlags := 10, code := some k1c1 }
def k1c2 : Code := { maxStack := 2, maxLocals := 4, code := code, exceptionTable := #[], attributes := #[] }
def k1m2 : Method := { name := "law", desc := "(II)Z", sig := { parameters := [.int, .int], returnType := some .boolean }, accessFlags := 9, code := some k1c2 }
/-- com/example/quadrille/quadrille/nquads/GrammarIsIriCharPinLaw -/
def k1 : Class := { plain "com/example/quadrille/quadrille/nquads/GrammarIsIriCharPinLaw" (some 0) with
  accessFlags := 49
  interfaces := #[]
  cf := some (fileOf pool1 15 #[] #[{ accessFlags := 2, nameIndex := 5, descriptorIndex := 6, attributes := #[] }, { accessFlags := 10, nameIndex := 18, descriptorIndex := 13, attributes := #[] }, { accessFlags := 9, nameIndex := 22, descriptorIndex := 23, attributes := #[] }] 49 2 #[] #[])
  fields := #[]
  methods := #[k1m0, k1m1, k1m2]
  instanceTypes := #[]
  staticTypes := #[]
  resolved := Array.replicate 26 none
  statics := none }

def pool2 : Array CpInfo := pool [(2, .class_ 4), (1, u "java/lang/Object"), (0, u "<init>"), (0, u "()V"), (0, .class_ 8), (0, u "com/example/quadrille/quadrille/nquads/Grammar"), (0, .string 10), (0, u "<>\"{}|^`\\"), (0, .methodref 12 13), (0, .class_ 14), (0, .nameAndType 15 16), (0, u "java/lang/String"), (0, u "indexOf"), (0, u "(I)I"), (10, u "(I)Z"), (36, u "NOT_IN_IRI"), (0, u "Ljava/lang/String;"), (3, u "isIriChar")] 6

def k2m0 : Method := { name := "<init>", desc := "()V", sig := { parameters := [], returnType := none }, accessFlags := 2, code := none }
def k2c1 : Code := { maxStack := 2, maxLocals := 1, code := prog_24_method_2_code, exceptionTable := #[], attributes := #[] }
def k2m1 : Method := { name := "isIriChar", desc := "(I)Z", sig := { parameters := [.int], returnType := some .boolean }, accessFlags := 8, code := some k2c1 }
/-- com/example/quadrille/quadrille/nquads/Grammar -/
def k2 : Class := { plain "com/example/quadrille/quadrille/nquads/Grammar" (some 0) with
  accessFlags := 48
  interfaces := #[]
  cf := some (fileOf pool2 7 #[] #[{ accessFlags := 2, nameIndex := 5, descriptorIndex := 6, attributes := #[] }, { accessFlags := 8, nameIndex := 69, descriptorIndex := 27, attributes := #[] }] 48 2 #[] #[{ accessFlags := 26, nameIndex := 64, descriptorIndex := 65, attributes := #[] }])
  fields := #[{ name := "NOT_IN_IRI", type := (.object "java/lang/String"), accessFlags := 26, slot := 0, constantValue := 0 }]
  methods := #[k2m0, k2m1]
  instanceTypes := #[]
  staticTypes := #[(.object "java/lang/String")]
  resolved := Array.replicate 76 none
  statics := none }

def pool3 : Array CpInfo := pool [(1, .class_ 2), (0, u "java/io/Serializable"), (0, .class_ 4), (0, u "java/lang/Object")] 2

/-- java/io/Serializable -/
def k3 : Class := { plain "java/io/Serializable" (some 0) with
  accessFlags := 1537
  interfaces := #[]
  cf := some (fileOf pool3 1 #[] #[] 1537 3 #[] #[])
  fields := #[]
  methods := #[]
  instanceTypes := #[]
  staticTypes := #[]
  resolved := Array.replicate 7 none
  statics := none }

def pool4 : Array CpInfo := pool [(1, .class_ 2), (0, u "java/lang/Comparable"), (0, .class_ 4), (0, u "java/lang/Object")] 7

/-- java/lang/Comparable -/
def k4 : Class := { plain "java/lang/Comparable" (some 0) with
  accessFlags := 1537
  interfaces := #[]
  cf := some (fileOf pool4 1 #[] #[] 1537 3 #[] #[])
  fields := #[]
  methods := #[]
  instanceTypes := #[]
  staticTypes := #[]
  resolved := Array.replicate 12 none
  statics := none }

def pool5 : Array CpInfo := pool [(2, .class_ 4), (1, u "java/lang/CharSequence"), (42, .class_ 48), (0, u "java/lang/CharSequence$1CodePointIterator"), (10, .class_ 60), (0, u "java/lang/CharSequence$1CharIterator"), (5, .class_ 67), (0, u "java/lang/Object")] 63

/-- java/lang/CharSequence -/
def k5 : Class := { plain "java/lang/CharSequence" (some 0) with
  accessFlags := 1537
  interfaces := #[]
  cf := some (fileOf pool5 2 #[.nestMembers #[47, 59]] #[] 1537 66 #[] #[])
  fields := #[]
  methods := #[]
  instanceTypes := #[]
  staticTypes := #[]
  resolved := Array.replicate 131 none
  statics := none }

def pool6 : Array CpInfo := pool [(1, .class_ 2), (0, u "java/lang/constant/Constable"), (0, .class_ 4), (0, u "java/lang/Object")] 6

/-- java/lang/constant/Constable -/
def k6 : Class := { plain "java/lang/constant/Constable" (some 0) with
  accessFlags := 1537
  interfaces := #[]
  cf := some (fileOf pool6 1 #[] #[] 1537 3 #[] #[])
  fields := #[]
  methods := #[]
  instanceTypes := #[]
  staticTypes := #[]
  resolved := Array.replicate 11 none
  statics := none }

def pool7 : Array CpInfo := pool [(1, .class_ 2), (0, u "java/lang/constant/ConstantDesc"), (0, .class_ 4), (0, u "java/lang/Object")] 32

/-- java/lang/constant/ConstantDesc -/
def k7 : Class := { plain "java/lang/constant/ConstantDesc" (some 0) with
  accessFlags := 1537
  interfaces := #[]
  cf := some (fileOf pool7 1 #[] #[] 1537 3 #[] #[])
  fields := #[]
  methods := #[]
  instanceTypes := #[]
  staticTypes := #[]
  resolved := Array.replicate 37 none
  statics := none }

def pool8 : Array CpInfo := pool [(2, .class_ 4), (1, u "java/lang/Object"), (0, u "<init>"), (0, u "()V"), (2, .fieldref 10 11), (0, .class_ 12), (0, .nameAndType 13 14), (0, u "java/lang/String"), (0, u "value"), (0, u "[B"), (0, .fieldref 10 16), (0, .nameAndType 17 18), (0, u "coder"), (0, u "B"), (2, u "hash"), (0, u "I"), (2, u "hashIsZero"), (0, u "Z"), (11, .fieldref 10 39), (0, .nameAndType 40 26), (0, u "COMPACT_STRINGS"), (66, .class_ 109), (1, u "java/lang/StringLatin1"), (32, u "()Z"), (191, u "()I"), (0, .methodref 10 336), (0, .nameAndType 17 337), (0, u "()B"), (154, .methodref 10 493), (0, .nameAndType 494 142), (0, u "isLatin1"), (10, .methodref 10 506), (0, .nameAndType 507 334), (0, u "length"), (67, .class_ 576), (0, u "java/lang/CharSequence"), (22, u "CASE_INSENSITIVE_ORDER"), (0, u "Ljava/util/Comparator;"), (32, .methodref 10 634), (0, .nameAndType 635 636), (0, u "indexOf"), (0, u "(II)I"), (0, .methodref 107 638), (0, .nameAndType 635 639), (0, u "([BIII)I"), (125, u "(I)I"), (335, u "serialPersistentFields"), (0, u "[Ljava/io/ObjectStreamField;"), (0, .class_ 1104), (0, u "java/lang/String$CaseInsensitiveComparator"), (1, .class_ 1107), (0, u "java/io/Serializable"), (0, .class_ 1109), (0, u "java/lang/Comparable"), (0, .class_ 1111), (0, u "java/lang/constant/Constable"), (0, .class_ 1113), (0, u "java/lang/constant/ConstantDesc"), (2, u "serialVersionUID"), (0, u "J"), (3, u "REPL"), (0, u "C"), (2, u "LATIN1"), (1, u "UTF16")] 323

def k8m0 : Method := { name := "<init>", desc := "()V", sig := { parameters := [], returnType := none }, accessFlags := 1, code := none }
def k8c1 : Code := { maxStack := 2, maxLocals := 1, code := jdk_42_method_54_code, exceptionTable := #[], attributes := #[] }
def k8m1 : Method := { name := "length", desc := "()I", sig := { parameters := [], returnType := some .int }, accessFlags := 1, code := some k8c1 }
def k8c2 : Code := { maxStack := 3, maxLocals := 2, code := jdk_42_method_79_code, exceptionTable := #[], attributes := #[] }
def k8m2 : Method := { name := "indexOf", desc := "(I)I", sig := { parameters := [.int], returnType := some .int }, accessFlags := 1, code := some k8c2 }
def k8c3 : Code := { maxStack := 4, maxLocals := 3, code := jdk_42_method_80_code, exceptionTable := #[], attributes := #[] }
def k8m3 : Method := { name := "indexOf", desc := "(II)I", sig := { parameters := [.int, .int], returnType := some .int }, accessFlags := 1, code := some k8c3 }
def k8c4 : Code := { maxStack := 1, maxLocals := 1, code := jdk_42_method_152_code, exceptionTable := #[], attributes := #[] }
def k8m4 : Method := { name := "coder", desc := "()B", sig := { parameters := [], returnType := some .byte }, accessFlags := 0, code := some k8c4 }
def k8c5 : Code := { maxStack := 1, maxLocals := 1, code := jdk_42_method_154_code, exceptionTable := #[], attributes := #[] }
def k8m5 : Method := { name := "isLatin1", desc := "()Z", sig := { parameters := [], returnType := some .boolean }, accessFlags := 0, code := some k8c5 }
/-- java/lang/String -/
def k8 : Class := { plain "java/lang/String" (some 0) with
  accessFlags := 49
  interfaces := #[3, 4, 5, 6, 7]
  cf := some (fileOf pool8 10 #[.nestMembers #[1103]] #[{ accessFlags := 1, nameIndex := 5, descriptorIndex := 6, attributes := #[] }, { accessFlags := 1, nameIndex := 507, descriptorIndex := 334, attributes := #[] }, { accessFlags := 1, nameIndex := 635, descriptorIndex := 765, attributes := #[] }, { accessFlags := 1, nameIndex := 635, descriptorIndex := 636, attributes := #[] }, { accessFlags := 0, nameIndex := 17, descriptorIndex := 337, attributes := #[] }, { accessFlags := 0, nameIndex := 494, descriptorIndex := 142, attributes := #[] }] 49 2 #[1106, 1108, 575, 1110, 1112] #[{ accessFlags := 18, nameIndex := 13, descriptorIndex := 14, attributes := #[] }, { accessFlags := 18, nameIndex := 17, descriptorIndex := 18, attributes := #[] }, { accessFlags := 2, nameIndex := 21, descriptorIndex := 22, attributes := #[] }, { accessFlags := 2, nameIndex := 25, descriptorIndex := 26, attributes := #[] }, { accessFlags := 26, nameIndex := 1116, descriptorIndex := 1117, attributes := #[] }, { accessFlags := 24, nameIndex := 40, descriptorIndex := 26, attributes := #[] }, { accessFlags := 26, nameIndex := 1101, descriptorIndex := 1102, attributes := #[] }, { accessFlags := 26, nameIndex := 1121, descriptorIndex := 1122, attributes := #[] }, { accessFlags := 25, nameIndex := 599, descriptorIndex := 600, attributes := #[] }, { accessFlags := 24, nameIndex := 1125, descriptorIndex := 18, attributes := #[] }, { accessFlags := 24, nameIndex := 1127, descriptorIndex := 18, attributes := #[] }])
  fields := #[{ name := "value", type := (.array .byte), accessFlags := 18, slot := 0, constantValue := 0 }, { name := "coder", type := .byte, accessFlags := 18, slot := 1, constantValue := 0 }, { name := "hash", type := .int, accessFlags := 2, slot := 2, constantValue := 0 }, { name := "hashIsZero", type := .boolean, accessFlags := 2, slot := 3, constantValue := 0 }, { name := "serialVersionUID", type := .long, accessFlags := 26, slot := 0, constantValue := 0 }, { name := "COMPACT_STRINGS", type := .boolean, accessFlags := 24, slot := 1, constantValue := 0 }, { name := "serialPersistentFields", type := (.array (.object "java/io/ObjectStreamField")), accessFlags := 26, slot := 2, constantValue := 0 }, { name := "REPL", type := .char, accessFlags := 26, slot := 3, constantValue := 0 }, { name := "CASE_INSENSITIVE_ORDER", type := (.object "java/util/Comparator"), accessFlags := 25, slot := 4, constantValue := 0 }, { name := "LATIN1", type := .byte, accessFlags := 24, slot := 5, constantValue := 0 }, { name := "UTF16", type := .byte, accessFlags := 24, slot := 6, constantValue := 0 }]
  methods := #[k8m0, k8m1, k8m2, k8m3, k8m4, k8m5]
  instanceTypes := #[(.array .byte), .byte, .int, .boolean]
  staticTypes := #[.long, .boolean, (.array (.object "java/io/ObjectStreamField")), .char, (.object "java/util/Comparator"), .byte, .byte]
  resolved := Array.replicate 1451 none
  statics := some 0 }

def pool9 : Array CpInfo := pool [(4, .class_ 6), (1, u "java/lang/Object"), (0, u "<init>"), (0, u "()V"), (5, .class_ 16), (1, u "java/lang/StringLatin1"), (21, .methodref 39 40), (0, .class_ 41), (0, .nameAndType 42 43), (0, u "java/lang/Math"), (0, u "min"), (0, u "(II)I"), (44, .methodref 14 89), (0, .nameAndType 90 91), (0, u "canEncode"), (0, u "(I)Z"), (0, .methodref 39 93), (0, .nameAndType 94 43), (0, u "max"), (0, .methodref 14 96), (0, .nameAndType 97 98), (0, u "indexOfChar"), (0, u "([BIII)I"), (2, u "indexOf"), (19, u "$assertionsDisabled"), (0, u "Z"), (98, .class_ 223), (1, u "java/lang/StringLatin1$LinesSpliterator"), (166, .class_ 391), (0, u "java/lang/StringLatin1$CharsSpliterator")] 3

def k9m0 : Method := { name := "<init>", desc := "()V", sig := { parameters := [], returnType := none }, accessFlags := 0, code := none }
def k9c1 : Code := { maxStack := 2, maxLocals := 1, code := jdk_43_method_4_code, exceptionTable := #[], attributes := #[] }
def k9m1 : Method := { name := "canEncode", desc := "(I)Z", sig := { parameters := [.int], returnType := some .boolean }, accessFlags := 9, code := some k9c1 }
def k9c2 : Code := { maxStack := 4, maxLocals := 4, code := jdk_43_method_22_code, exceptionTable := #[], attributes := #[] }
def k9m2 : Method := { name := "indexOf", desc := "([BIII)I", sig := { parameters := [(.array .byte), .int, .int, .int], returnType := some .int }, accessFlags := 9, code := some k9c2 }
def k9c3 : Code := { maxStack := 2, maxLocals := 6, code := jdk_43_method_23_code, exceptionTable := #[], attributes := #[] }
def k9m3 : Method := { name := "indexOfChar", desc := "([BIII)I", sig := { parameters := [(.array .byte), .int, .int, .int], returnType := some .int }, accessFlags := 10, code := some k9c3 }
/-- java/lang/StringLatin1 -/
def k9 : Class := { plain "java/lang/StringLatin1" (some 0) with
  accessFlags := 48
  interfaces := #[]
  cf := some (fileOf pool9 14 #[.nestMembers #[390, 221]] #[{ accessFlags := 0, nameIndex := 7, descriptorIndex := 8, attributes := #[] }, { accessFlags := 9, nameIndex := 90, descriptorIndex := 91, attributes := #[] }, { accessFlags := 9, nameIndex := 101, descriptorIndex := 98, attributes := #[] }, { accessFlags := 10, nameIndex := 97, descriptorIndex := 98, attributes := #[] }] 48 4 #[] #[{ accessFlags := 4120, nameIndex := 121, descriptorIndex := 122, attributes := #[] }])
  fields := #[{ name := "$assertionsDisabled", type := .boolean, accessFlags := 4120, slot := 0, constantValue := 0 }]
  methods := #[k9m0, k9m1, k9m2, k9m3]
  instanceTypes := #[]
  staticTypes := #[.boolean]
  resolved := Array.replicate 395 none
  statics := none }

def pool10 : Array CpInfo := pool [(1, .class_ 2), (0, u "java/lang/Math"), (1, .class_ 6), (1, u "java/lang/Object"), (0, u "<init>"), (0, u "()V"), (89, .class_ 100), (1, u "java/lang/Math$RandomNumberGeneratorHolder"), (71, u "negativeZeroFloatBits"), (0, u "J"), (2, u "negativeZeroDoubleBits"), (21, u "max"), (2, u "min"), (43, u "$assertionsDisabled"), (0, u "Z"), (88, u "(II)I"), (2, u "twoToTheDoubleScaleDown"), (0, u "D"), (4, u "twoToTheDoubleScaleUp"), (9, u "E"), (3, u "PI"), (2, u "TAU"), (2, u "DEGREES_TO_RADIANS"), (0, u "RADIANS_TO_DEGREES")] 94

def k10m0 : Method := { name := "<init>", desc := "()V", sig := { parameters := [], returnType := none }, accessFlags := 2, code := none }
def k10c1 : Code := { maxStack := 2, maxLocals := 2, code := jdk_29_method_65_code, exceptionTable := #[], attributes := #[] }
def k10m1 : Method := { name := "max", desc := "(II)I", sig := { parameters := [.int, .int], returnType := some .int }, accessFlags := 9, code := some k10c1 }
def k10c2 : Code := { maxStack := 2, maxLocals := 2, code := jdk_29_method_69_code, exceptionTable := #[], attributes := #[] }
def k10m2 : Method := { name := "min", desc := "(II)I", sig := { parameters := [.int, .int], returnType := some .int }, accessFlags := 9, code := some k10c2 }
/-- java/lang/Math -/
def k10 : Class := { plain "java/lang/Math" (some 0) with
  accessFlags := 49
  interfaces := #[]
  cf := some (fileOf pool10 1 #[.nestMembers #[98]] #[{ accessFlags := 2, nameIndex := 7, descriptorIndex := 8, attributes := #[] }, { accessFlags := 9, nameIndex := 198, descriptorIndex := 335, attributes := #[] }, { accessFlags := 9, nameIndex := 201, descriptorIndex := 335, attributes := #[] }] 49 4 #[] #[{ accessFlags := 25, nameIndex := 354, descriptorIndex := 339, attributes := #[] }, { accessFlags := 25, nameIndex := 358, descriptorIndex := 339, attributes := #[] }, { accessFlags := 25, nameIndex := 361, descriptorIndex := 339, attributes := #[] }, { accessFlags := 26, nameIndex := 364, descriptorIndex := 339, attributes := #[] }, { accessFlags := 26, nameIndex := 365, descriptorIndex := 339, attributes := #[] }, { accessFlags := 26, nameIndex := 172, descriptorIndex := 173, attributes := #[] }, { accessFlags := 26, nameIndex := 176, descriptorIndex := 173, attributes := #[] }, { accessFlags := 8, nameIndex := 344, descriptorIndex := 339, attributes := #[] }, { accessFlags := 8, nameIndex := 338, descriptorIndex := 339, attributes := #[] }, { accessFlags := 4120, nameIndex := 245, descriptorIndex := 246, attributes := #[] }])
  fields := #[{ name := "E", type := .double, accessFlags := 25, slot := 0, constantValue := 0 }, { name := "PI", type := .double, accessFlags := 25, slot := 1, constantValue := 0 }, { name := "TAU", type := .double, accessFlags := 25, slot := 2, constantValue := 0 }, { name := "DEGREES_TO_RADIANS", type := .double, accessFlags := 26, slot := 3, constantValue := 0 }, { name := "RADIANS_TO_DEGREES", type := .double, accessFlags := 26, slot := 4, constantValue := 0 }, { name := "negativeZeroFloatBits", type := .long, accessFlags := 26, slot := 5, constantValue := 0 }, { name := "negativeZeroDoubleBits", type := .long, accessFlags := 26, slot := 6, constantValue := 0 }, { name := "twoToTheDoubleScaleUp", type := .double, accessFlags := 8, slot := 7, constantValue := 0 }, { name := "twoToTheDoubleScaleDown", type := .double, accessFlags := 8, slot := 8, constantValue := 0 }, { name := "$assertionsDisabled", type := .boolean, accessFlags := 4120, slot := 9, constantValue := 0 }]
  methods := #[k10m0, k10m1, k10m2]
  instanceTypes := #[]
  staticTypes := #[.double, .double, .double, .double, .double, .long, .long, .double, .double, .boolean]
  resolved := Array.replicate 460 none
  statics := none }

def pool11 : Array CpInfo := pool [(2, .class_ 4), (1, u "java/lang/Object"), (0, u "<init>"), (0, u "()V"), (17, .class_ 26), (1, u "jdk/internal/util/Preconditions"), (28, .class_ 56), (0, u "jdk/internal/util/Preconditions$4"), (57, .class_ 115), (0, u "jdk/internal/util/Preconditions$1"), (7, u "SIOOBE_FORMATTER"), (0, u "Ljava/util/function/BiFunction;"), (0, .class_ 126), (0, u "jdk/internal/util/Preconditions$2"), (3, u "AIOOBE_FORMATTER"), (0, .class_ 132), (0, u "jdk/internal/util/Preconditions$3"), (3, u "IOOBE_FORMATTER")] 57

def k11m0 : Method := { name := "<init>", desc := "()V", sig := { parameters := [], returnType := none }, accessFlags := 1, code := none }
/-- jdk/internal/util/Preconditions -/
def k11 : Class := { plain "jdk/internal/util/Preconditions" (some 0) with
  accessFlags := 33
  interfaces := #[]
  cf := some (fileOf pool11 24 #[.nestMembers #[55, 131, 125, 114]] #[{ accessFlags := 1, nameIndex := 5, descriptorIndex := 6, attributes := #[] }] 33 2 #[] #[{ accessFlags := 25, nameIndex := 123, descriptorIndex := 124, attributes := #[] }, { accessFlags := 25, nameIndex := 130, descriptorIndex := 124, attributes := #[] }, { accessFlags := 25, nameIndex := 136, descriptorIndex := 124, attributes := #[] }])
  fields := #[{ name := "SIOOBE_FORMATTER", type := (.object "java/util/function/BiFunction"), accessFlags := 25, slot := 0, constantValue := 0 }, { name := "AIOOBE_FORMATTER", type := (.object "java/util/function/BiFunction"), accessFlags := 25, slot := 1, constantValue := 0 }, { name := "IOOBE_FORMATTER", type := (.object "java/util/function/BiFunction"), accessFlags := 25, slot := 2, constantValue := 0 }]
  methods := #[k11m0]
  instanceTypes := #[]
  staticTypes := #[(.object "java/util/function/BiFunction"), (.object "java/util/function/BiFunction"), (.object "java/util/function/BiFunction")]
  resolved := Array.replicate 194 none
  statics := some 1 }

def pool12 : Array CpInfo := pool [(9, u "<init>"), (6, .class_ 18), (1, u "java/lang/Object"), (0, u "()V"), (1, .class_ 23), (1, u "jdk/internal/util/ArraysSupport"), (0, u "LOG2_ARRAY_LONG_INDEX_SCALE"), (0, u "I"), (2, u "U"), (0, u "Ljdk/internal/misc/Unsafe;"), (8, u "BIG_ENDIAN"), (0, u "Z"), (8, u "LOG2_BYTE_BIT_SIZE"), (4, u "LOG2_ARRAY_INT_INDEX_SCALE"), (54, u "JLA"), (0, u "Ljdk/internal/access/JavaLangAccess;"), (11, u "LOG2_ARRAY_BOOLEAN_INDEX_SCALE"), (9, u "LOG2_ARRAY_BYTE_INDEX_SCALE"), (5, u "LOG2_ARRAY_CHAR_INDEX_SCALE"), (5, u "LOG2_ARRAY_SHORT_INDEX_SCALE"), (18, u "LOG2_ARRAY_FLOAT_INDEX_SCALE"), (24, u "LOG2_ARRAY_DOUBLE_INDEX_SCALE"), (89, u "T_BOOLEAN"), (2, u "T_CHAR"), (1, u "T_FLOAT"), (1, u "T_DOUBLE"), (1, u "T_BYTE"), (1, u "T_SHORT"), (1, u "T_INT"), (1, u "T_LONG"), (1, u "SOFT_MAX_ARRAY_LENGTH")] 83

def k12m0 : Method := { name := "<init>", desc := "()V", sig := { parameters := [], returnType := none }, accessFlags := 2, code := none }
/-- jdk/internal/util/ArraysSupport -/
def k12 : Class := { plain "jdk/internal/util/ArraysSupport" (some 0) with
  accessFlags := 33
  interfaces := #[]
  cf := some (fileOf pool12 21 #[] #[{ accessFlags := 2, nameIndex := 9, descriptorIndex := 19, attributes := #[] }] 33 16 #[] #[{ accessFlags := 24, nameIndex := 28, descriptorIndex := 29, attributes := #[] }, { accessFlags := 26, nameIndex := 38, descriptorIndex := 39, attributes := #[] }, { accessFlags := 25, nameIndex := 121, descriptorIndex := 25, attributes := #[] }, { accessFlags := 25, nameIndex := 131, descriptorIndex := 25, attributes := #[] }, { accessFlags := 25, nameIndex := 137, descriptorIndex := 25, attributes := #[] }, { accessFlags := 25, nameIndex := 143, descriptorIndex := 25, attributes := #[] }, { accessFlags := 25, nameIndex := 53, descriptorIndex := 25, attributes := #[] }, { accessFlags := 25, nameIndex := 24, descriptorIndex := 25, attributes := #[] }, { accessFlags := 25, nameIndex := 162, descriptorIndex := 25, attributes := #[] }, { accessFlags := 25, nameIndex := 187, descriptorIndex := 25, attributes := #[] }, { accessFlags := 26, nameIndex := 48, descriptorIndex := 25, attributes := #[] }, { accessFlags := 25, nameIndex := 277, descriptorIndex := 25, attributes := #[] }, { accessFlags := 25, nameIndex := 280, descriptorIndex := 25, attributes := #[] }, { accessFlags := 25, nameIndex := 282, descriptorIndex := 25, attributes := #[] }, { accessFlags := 25, nameIndex := 284, descriptorIndex := 25, attributes := #[] }, { accessFlags := 25, nameIndex := 286, descriptorIndex := 25, attributes := #[] }, { accessFlags := 25, nameIndex := 288, descriptorIndex := 25, attributes := #[] }, { accessFlags := 25, nameIndex := 290, descriptorIndex := 25, attributes := #[] }, { accessFlags := 25, nameIndex := 292, descriptorIndex := 25, attributes := #[] }, { accessFlags := 26, nameIndex := 108, descriptorIndex := 109, attributes := #[] }, { accessFlags := 25, nameIndex := 294, descriptorIndex := 25, attributes := #[] }])
  fields := #[{ name := "U", type := (.object "jdk/internal/misc/Unsafe"), accessFlags := 24, slot := 0, constantValue := 0 }, { name := "BIG_ENDIAN", type := .boolean, accessFlags := 26, slot := 1, constantValue := 0 }, { name := "LOG2_ARRAY_BOOLEAN_INDEX_SCALE", type := .int, accessFlags := 25, slot := 2, constantValue := 0 }, { name := "LOG2_ARRAY_BYTE_INDEX_SCALE", type := .int, accessFlags := 25, slot := 3, constantValue := 0 }, { name := "LOG2_ARRAY_CHAR_INDEX_SCALE", type := .int, accessFlags := 25, slot := 4, constantValue := 0 }, { name := "LOG2_ARRAY_SHORT_INDEX_SCALE", type := .int, accessFlags := 25, slot := 5, constantValue := 0 }, { name := "LOG2_ARRAY_INT_INDEX_SCALE", type := .int, accessFlags := 25, slot := 6, constantValue := 0 }, { name := "LOG2_ARRAY_LONG_INDEX_SCALE", type := .int, accessFlags := 25, slot := 7, constantValue := 0 }, { name := "LOG2_ARRAY_FLOAT_INDEX_SCALE", type := .int, accessFlags := 25, slot := 8, constantValue := 0 }, { name := "LOG2_ARRAY_DOUBLE_INDEX_SCALE", type := .int, accessFlags := 25, slot := 9, constantValue := 0 }, { name := "LOG2_BYTE_BIT_SIZE", type := .int, accessFlags := 26, slot := 10, constantValue := 0 }, { name := "T_BOOLEAN", type := .int, accessFlags := 25, slot := 11, constantValue := 0 }, { name := "T_CHAR", type := .int, accessFlags := 25, slot := 12, constantValue := 0 }, { name := "T_FLOAT", type := .int, accessFlags := 25, slot := 13, constantValue := 0 }, { name := "T_DOUBLE", type := .int, accessFlags := 25, slot := 14, constantValue := 0 }, { name := "T_BYTE", type := .int, accessFlags := 25, slot := 15, constantValue := 0 }, { name := "T_SHORT", type := .int, accessFlags := 25, slot := 16, constantValue := 0 }, { name := "T_INT", type := .int, accessFlags := 25, slot := 17, constantValue := 0 }, { name := "T_LONG", type := .int, accessFlags := 25, slot := 18, constantValue := 0 }, { name := "JLA", type := (.object "jdk/internal/access/JavaLangAccess"), accessFlags := 26, slot := 19, constantValue := 0 }, { name := "SOFT_MAX_ARRAY_LENGTH", type := .int, accessFlags := 25, slot := 20, constantValue := 0 }]
  methods := #[k12m0]
  instanceTypes := #[]
  staticTypes := #[(.object "jdk/internal/misc/Unsafe"), .boolean, .int, .int, .int, .int, .int, .int, .int, .int, .int, .int, .int, .int, .int, .int, .int, .int, .int, (.object "jdk/internal/access/JavaLangAccess"), .int]
  resolved := Array.replicate 378 none
  statics := none }

def pool13 : Array CpInfo := pool [(1, u "java/lang/Cloneable"), (0, .class_ 1), (0, u "java/lang/Object"), (0, .class_ 3)] 3

/-- java/lang/Cloneable -/
def k13 : Class := { plain "java/lang/Cloneable" (some 0) with
  accessFlags := 1537
  interfaces := #[]
  cf := some (fileOf pool13 2 #[] #[] 1537 4 #[] #[])
  fields := #[]
  methods := #[]
  instanceTypes := #[]
  staticTypes := #[]
  resolved := Array.replicate 8 none
  statics := none }

/-- the primitive byte -/
def k14 : Class := { plain "byte" none with kind := .primitive 'B', accessFlags := 0x411 }
/-- [B -/
def k15 : Class := { plain "[B" (some 0) with kind := .array 14 .byte, interfaces := #[13, 3], accessFlags := 1041 }

/-- the primitive int -/
def k16 : Class := { plain "int" none with kind := .primitive 'I', accessFlags := 0x411 }
/-- [I -/
def k17 : Class := { plain "[I" (some 0) with kind := .array 16 .int, interfaces := #[13, 3], accessFlags := 1041 }

def heap : Heap := #[{ cls := 8, slots := #[.long 0, .int 1, .null, .int 0, .null, .int 0, .int 0], vm := .statics 8 },
  { cls := 11, slots := #[.null, .null, .null], vm := .statics 11 }]
def classes : Array Class := #[k0, k1, k2, k3, k4, k5, k6, k7, k8, k9, k10, k11, k12, k13, k14, k15, k16, k17]
def interned : List (Array UInt16 × Addr) := []
def slotsUsed : Nat := 10
def theMethod : MethodId := ⟨1, 2⟩
def args0 : Array Value := #[.int 5, .int 7]
def aboutOver (below : List Frame) : State where
  vm := { classes := classes, interned := interned.toArray }
  heap := heap
  slotsUsed := slotsUsed
  threads := #[{ frames := .invoking theMethod args0 :: below }]
def below0 : List Frame := [.native { method := ⟨0, 0⟩, args := #[] }]
def about1 : State := aboutOver below0
def p0 : Program := .bare "" "" ""
def e0 : Env := launch0.env 0 0 0
theorem w_frames : about1.frames = Frame.invoking theMethod args0 :: below0 := rfl
set_option maxRecDepth 65536 in
theorem w_args : argsFit about1.vm theMethod args0 = true := by decide +kernel
set_option maxRecDepth 65536 in
theorem w_heap : heapFits about1 = true := by decide +kernel
set_option maxRecDepth 65536 in
theorem w_runnable : about1.curStatus? = some .runnable := by decide +kernel
set_option maxRecDepth 65536 in
theorem w_alone : about1.alone = true := by decide +kernel
set_option maxRecDepth 65536 in
theorem w_named : about1.methodNamed? x = some theMethod := by decide +kernel
set_option maxRecDepth 65536 in
theorem w_hears : about1.hears theMethod below0 = true := by decide +kernel
set_option maxRecDepth 65536 in
theorem w_ripe : about1.ripe theMethod args0 below0 = true := by decide +kernel
theorem w_running : about1.status = .running := rfl
set_option maxRecDepth 65536 in
theorem w_room : about1.hasRoom e0.platform room_1 = true :=
  launch0.hasRoom_least _ room_1 (by decide +kernel) (by decide +kernel) (by decide +kernel) (by decide +kernel) (by decide +kernel) (by decide +kernel)
theorem allAtoms_all (ts : List Jvm.Cond) (a : Array Jvm.Value) (st : Jvm.State) : (allAtoms ts).before a st = ts.all (fun c => c.before a st) := by
  induction ts with
  | nil => rfl
  | cons c t ih =>
    show (Jvm.Cond.and c (allAtoms t)).before a st = _
    rw [Jvm.Cond.before_and, ih, List.all_cons]
def words1 : List Jvm.Cond := Jvm.Cond.code x code maxLocals ret :: tables_1
/-- a 'code' word, met by the world's own term for the bytes: nothing is compared byte by byte -/
theorem code_word {y : MethodName} {bytes : ByteArray} {mx : Nat} {rt : Option FieldType} {a : Array Value} {s : State} {m : MethodId} {meth : Method} {c : Code} (h1 : s.methodNamed? y = some m) (h2 : s.vm.method? m = some meth) (h3 : meth.code = some c) (h4 : c.code = bytes)
    (h5 : (c.maxLocals == mx && c.exceptionTable.isEmpty && decide (c.maxStack ≤ mostOperands) && decide (meth.sig.returnType = rt) && !meth.locks && decide (parseMethodDescriptor y.desc = some meth.sig)) = true) : (Jvm.Cond.code y bytes mx rt).before a s = true := by
  simp only [Bool.and_eq_true, beq_iff_eq, Bool.not_eq_true', decide_eq_true_eq] at h5
  obtain ⟨⟨⟨⟨⟨g1, g2⟩, g3⟩, g4⟩, g5⟩, g6⟩ := h5
  simp [Cond.before, Cond.holds, Cond.value, h1, h2, h3, h4, g1, g2, g3, g4, g5, g6]
def isCode : Jvm.Cond → Bool
  | .code _ _ _ _ => true
  | _ => false
theorem all_split {L : List Jvm.Cond} {P : Jvm.Cond → Bool} (h1 : L.all (fun c => isCode c || P c) = true) (h2 : ∀ c ∈ L.filter isCode, P c = true) : L.all P = true := by
  refine List.all_eq_true.mpr fun c hc => ?_
  have h := List.all_eq_true.mp h1 c hc
  rcases Bool.eq_false_or_eq_true (isCode c) with hi | hi
  · exact h2 c (List.mem_filter.mpr ⟨hc, hi⟩)
  · simpa [hi] using h
set_option maxRecDepth 65536 in
theorem w_c0 : (Jvm.Cond.code x code maxLocals ret).before args0 about1 = true := code_word (m := ⟨1, 2⟩) (meth := k1m2) (c := k1c2) (by decide +kernel) rfl rfl rfl (by decide +kernel)
set_option maxRecDepth 65536 in
theorem w_c1 : (Jvm.Cond.code ({ cls := "com/example/quadrille/quadrille/nquads/Grammar", name := "isIriChar", desc := "(I)Z" } : Jvm.MethodName) prog_24_method_2_code (1 : Nat) (Option.some Jvm.ClassFile.FieldType.boolean)).before args0 about1 = true := code_word (m := ⟨2, 1⟩) (meth := k2m1) (c := k2c1) (by decide +kernel) rfl rfl rfl (by decide +kernel)
set_option maxRecDepth 65536 in
theorem w_c2 : (Jvm.Cond.code ({ cls := "com/example/quadrille/quadrille/nquads/GrammarIsIriCharPinLaw", name := "expected", desc := "(I)Z" } : Jvm.MethodName) method_2_code (1 : Nat) (Option.some Jvm.ClassFile.FieldType.boolean)).before args0 about1 = true := code_word (m := ⟨1, 1⟩) (meth := k1m1) (c := k1c1) (by decide +kernel) rfl rfl rfl (by decide +kernel)
set_option maxRecDepth 65536 in
theorem w_c3 : (Jvm.Cond.code ({ cls := "java/lang/String", name := "indexOf", desc := "(I)I" } : Jvm.MethodName) jdk_42_method_79_code (2 : Nat) (Option.some Jvm.ClassFile.FieldType.int)).before args0 about1 = true := code_word (m := ⟨8, 2⟩) (meth := k8m2) (c := k8c2) (by decide +kernel) rfl rfl rfl (by decide +kernel)
set_option maxRecDepth 65536 in
theorem w_c4 : (Jvm.Cond.code ({ cls := "java/lang/String", name := "indexOf", desc := "(II)I" } : Jvm.MethodName) jdk_42_method_80_code (3 : Nat) (Option.some Jvm.ClassFile.FieldType.int)).before args0 about1 = true := code_word (m := ⟨8, 3⟩) (meth := k8m3) (c := k8c3) (by decide +kernel) rfl rfl rfl (by decide +kernel)
set_option maxRecDepth 65536 in
theorem w_c5 : (Jvm.Cond.code ({ cls := "java/lang/String", name := "isLatin1", desc := "()Z" } : Jvm.MethodName) jdk_42_method_154_code (1 : Nat) (Option.some Jvm.ClassFile.FieldType.boolean)).before args0 about1 = true := code_word (m := ⟨8, 5⟩) (meth := k8m5) (c := k8c5) (by decide +kernel) rfl rfl rfl (by decide +kernel)
set_option maxRecDepth 65536 in
theorem w_c6 : (Jvm.Cond.code ({ cls := "java/lang/String", name := "length", desc := "()I" } : Jvm.MethodName) jdk_42_method_54_code (1 : Nat) (Option.some Jvm.ClassFile.FieldType.int)).before args0 about1 = true := code_word (m := ⟨8, 1⟩) (meth := k8m1) (c := k8c1) (by decide +kernel) rfl rfl rfl (by decide +kernel)
set_option maxRecDepth 65536 in
theorem w_c7 : (Jvm.Cond.code ({ cls := "java/lang/String", name := "coder", desc := "()B" } : Jvm.MethodName) jdk_42_method_152_code (1 : Nat) (Option.some Jvm.ClassFile.FieldType.byte)).before args0 about1 = true := code_word (m := ⟨8, 4⟩) (meth := k8m4) (c := k8c4) (by decide +kernel) rfl rfl rfl (by decide +kernel)
set_option maxRecDepth 65536 in
theorem w_c8 : (Jvm.Cond.code ({ cls := "java/lang/StringLatin1", name := "indexOf", desc := "([BIII)I" } : Jvm.MethodName) jdk_43_method_22_code (4 : Nat) (Option.some Jvm.ClassFile.FieldType.int)).before args0 about1 = true := code_word (m := ⟨9, 2⟩) (meth := k9m2) (c := k9c2) (by decide +kernel) rfl rfl rfl (by decide +kernel)
set_option maxRecDepth 65536 in
theorem w_c9 : (Jvm.Cond.code ({ cls := "java/lang/StringLatin1", name := "canEncode", desc := "(I)Z" } : Jvm.MethodName) jdk_43_method_4_code (1 : Nat) (Option.some Jvm.ClassFile.FieldType.boolean)).before args0 about1 = true := code_word (m := ⟨9, 1⟩) (meth := k9m1) (c := k9c1) (by decide +kernel) rfl rfl rfl (by decide +kernel)
set_option maxRecDepth 65536 in
theorem w_c10 : (Jvm.Cond.code ({ cls := "java/lang/Math", name := "max", desc := "(II)I" } : Jvm.MethodName) jdk_29_method_65_code (2 : Nat) (Option.some Jvm.ClassFile.FieldType.int)).before args0 about1 = true := code_word (m := ⟨10, 1⟩) (meth := k10m1) (c := k10c1) (by decide +kernel) rfl rfl rfl (by decide +kernel)
set_option maxRecDepth 65536 in
theorem w_c11 : (Jvm.Cond.code ({ cls := "java/lang/Math", name := "min", desc := "(II)I" } : Jvm.MethodName) jdk_29_method_69_code (2 : Nat) (Option.some Jvm.ClassFile.FieldType.int)).before args0 about1 = true := code_word (m := ⟨10, 2⟩) (meth := k10m2) (c := k10c2) (by decide +kernel) rfl rfl rfl (by decide +kernel)
set_option maxRecDepth 65536 in
theorem w_c12 : (Jvm.Cond.code ({ cls := "java/lang/StringLatin1", name := "indexOfChar", desc := "([BIII)I" } : Jvm.MethodName) jdk_43_method_23_code (6 : Nat) (Option.some Jvm.ClassFile.FieldType.int)).before args0 about1 = true := code_word (m := ⟨9, 3⟩) (meth := k9m3) (c := k9c3) (by decide +kernel) rfl rfl rfl (by decide +kernel)
def codes1 : List Jvm.Cond := [Jvm.Cond.code x code maxLocals ret, Jvm.Cond.code ({ cls := "com/example/quadrille/quadrille/nquads/Grammar", name := "isIriChar", desc := "(I)Z" } : Jvm.MethodName) prog_24_method_2_code (1 : Nat) (Option.some Jvm.ClassFile.FieldType.boolean), Jvm.Cond.code ({ cls := "com/example/quadrille/quadrille/nquads/GrammarIsIriCharPinLaw", name := "expected", desc := "(I)Z" } : Jvm.MethodName) method_2_code (1 : Nat) (Option.some Jvm.ClassFile.FieldType.boolean), Jvm.Cond.code ({ cls := "java/lang/String", name := "indexOf", desc := "(I)I" } : Jvm.MethodName) jdk_42_method_79_code (2 : Nat) (Option.some Jvm.ClassFile.FieldType.int), Jvm.Cond.code ({ cls := "java/lang/String", name := "indexOf", desc := "(II)I" } : Jvm.MethodName) jdk_42_method_80_code (3 : Nat) (Option.some Jvm.ClassFile.FieldType.int), Jvm.Cond.code ({ cls := "java/lang/String", name := "isLatin1", desc := "()Z" } : Jvm.MethodName) jdk_42_method_154_code (1 : Nat) (Option.some Jvm.ClassFile.FieldType.boolean), Jvm.Cond.code ({ cls := "java/lang/String", name := "length", desc := "()I" } : Jvm.MethodName) jdk_42_method_54_code (1 : Nat) (Option.some Jvm.ClassFile.FieldType.int), Jvm.Cond.code ({ cls := "java/lang/String", name := "coder", desc := "()B" } : Jvm.MethodName) jdk_42_method_152_code (1 : Nat) (Option.some Jvm.ClassFile.FieldType.byte), Jvm.Cond.code ({ cls := "java/lang/StringLatin1", name := "indexOf", desc := "([BIII)I" } : Jvm.MethodName) jdk_43_method_22_code (4 : Nat) (Option.some Jvm.ClassFile.FieldType.int), Jvm.Cond.code ({ cls := "java/lang/StringLatin1", name := "canEncode", desc := "(I)Z" } : Jvm.MethodName) jdk_43_method_4_code (1 : Nat) (Option.some Jvm.ClassFile.FieldType.boolean), Jvm.Cond.code ({ cls := "java/lang/Math", name := "max", desc := "(II)I" } : Jvm.MethodName) jdk_29_method_65_code (2 : Nat) (Option.some Jvm.ClassFile.FieldType.int), Jvm.Cond.code ({ cls := "java/lang/Math", name := "min", desc := "(II)I" } : Jvm.MethodName) jdk_29_method_69_code (2 : Nat) (Option.some Jvm.ClassFile.FieldType.int), Jvm.Cond.code ({ cls := "java/lang/StringLatin1", name := "indexOfChar", desc := "([BIII)I" } : Jvm.MethodName) jdk_43_method_23_code (6 : Nat) (Option.some Jvm.ClassFile.FieldType.int)]
set_option maxRecDepth 65536 in
theorem codes_eq : words1.filter isCode = codes1 := rfl
theorem w_codes : ∀ c ∈ words1.filter isCode, c.before args0 about1 = true := by
  rw [codes_eq]
  intro c hc
  simp only [codes1, List.mem_cons, List.not_mem_nil, or_false] at hc
  rcases hc with rfl | rfl | rfl | rfl | rfl | rfl | rfl | rfl | rfl | rfl | rfl | rfl | rfl
  · exact w_c0
  · exact w_c1
  · exact w_c2
  · exact w_c3
  · exact w_c4
  · exact w_c5
  · exact w_c6
  · exact w_c7
  · exact w_c8
  · exact w_c9
  · exact w_c10
  · exact w_c11
  · exact w_c12
set_option maxRecDepth 65536 in
theorem w_t1 : (words1.take 24).all (fun c => isCode c || c.before args0 about1) = true := by decide +kernel
set_option maxRecDepth 65536 in
theorem w_t2 : ((words1.drop 24).take 24).all (fun c => isCode c || c.before args0 about1) = true := by decide +kernel
set_option maxRecDepth 65536 in
theorem w_t3 : ((words1.drop 24).drop 24).all (fun c => isCode c || c.before args0 about1) = true := by decide +kernel
theorem w_tables : (allAtoms (Jvm.Cond.code x code maxLocals ret :: tables_1)).before args0 about1 = true := by
  rw [allAtoms_all]
  show words1.all (fun c => c.before args0 about1) = true
  refine all_split ?_ w_codes
  rw [← List.take_append_drop 24 words1, List.all_append, w_t1, ← List.take_append_drop 24 (words1.drop 24), List.all_append, w_t2, w_t3]
  rfl
set_option maxRecDepth 65536 in
theorem w_rest : rest_1_c.before args0 about1 = true := by decide +kernel
set_option maxRecDepth 65536 in
theorem w_case : (Jvm.Cond.and given_1 narrow_1).before args0 about1 = true := by decide +kernel
set_option maxRecDepth 65536 in
theorem w_consts : constsHeld consts_1 about1 := Jvm.Lit.constsHeldB_iff.mp (by decide +kernel)
theorem w_applies : (headSpec (Jvm.Cond.code x code maxLocals ret :: tables_1) room_1).applies x e0.platform about1 = true :=
  (Spec.applies_iff w_frames).mpr ⟨w_running, w_runnable, w_alone, w_named, w_hears, w_ripe, w_room, w_tables⟩
theorem atStart : AtStart classFile x code maxLocals ret World_1 tables_1 room_1 Calls_1 rest_1 Pre_1 launch0 p0 e0 about1 theMethod args0 below0 :=
  ⟨lists_1, trivial, launch0.admits_env _ _ _, launch0.least_env, fairChoices_fair.cas, fairChoices_fair.clock, w_frames, w_args, w_heap, w_applies, ⟨w_consts, trivial⟩, w_rest, w_case⟩
end start1
theorem witness_1 : WitnessClaimed_1 := ⟨start1.p0, start1.e0, start1.about1, start1.theMethod, start1.args0, start1.below0, start1.atStart⟩
end Jvm.Pilot.@@N@@
