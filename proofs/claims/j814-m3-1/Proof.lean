import JvmDerived
import JvmDerived.Pilot.@@N@@Statement
import JvmDerived.Pilot.@@N@@Code
set_option linter.unusedVariables false
set_option linter.unusedSimpArgs false
namespace Jvm.Pilot.@@N@@
open Jvm Jvm.ClassFile Sem Op Lib Jvm.Free Jvm.Stand Jvm.LawKit Jvm.RoadKit Bundle Jvm.Pilot.@@N@@.Jvm.D
/-! ## the shared layer: own_Go and its laws -/
def Go (p : Program) (e : Env) (below : List Frame) (P : State → Outcome → Prop) (T : State) (g : JFrame) : Prop := ∃ t o, Steps p.tables e below (T.setTop g) t ∧ t.status = .running ∧ Ended t below o ∧ P t o
def RP (s : State) (k n : Nat) (Q : Option Value → Heap → List Loc → Prop) (t : State) (o : Outcome) : Prop := ∃ v L, o = .returned v ∧ Q v t.heap L ∧ FrameEnd s o t L k n
theorem wd {a0 : Array Value} {Z : State} (hw : ∀ d ∈ tables_1, d.before a0 Z = true) (k : Nat) {d : Jvm.Cond} (h : tables_1[k]? = some d) : d.before a0 Z = true := hw _ (List.mem_of_getElem? h)
section OwnGo
variable {p : Program} {l : Launch} {e : Env} {R : Room} {s : State} {m : MethodId} {args : Array Value} {below : List Frame} {meth : Method} {c : Code} {T : State} {locs : List Loc} {cells slots : Nat} {P : State → Outcome → Prop} {pc : Nat} {Ls : Array Slot} {st : List Value} {Z : State} {a0 : Array Value} {h : Heap}
theorem Go.stp {T' : State} {g g' : JFrame} (G : Go p e below P T' g') (k : ∀ t, Steps p.tables e below (T'.setTop g') t → Steps p.tables e below (T.setTop g) t) : Go p e below P T g := by
  obtain ⟨t, o, h, r⟩ := G
  exact ⟨t, o, k t h, r⟩
theorem Go.cast {g g' : JFrame} (q : g = g') (G : Go p e below P T g') : Go p e below P T g := q ▸ G
theorem g_iload (X : Stand p l e R s m args below meth c T locs cells slots) (hx : p.tables.exec = Jvm.exec) {k : Nat} {v : Int32} (hl : Ls[k]? = some (.val (.int v))) (hd : decode c.code pc = .ok (.iload k, 2)) (pc' : Nat) (hp : pc + 2 = pc') (G : Go p e below P T (mkF m pc' Ls (.int v :: st))) : Go p e below P T (mkF m pc Ls st) := by
  subst hp
  exact G.stp fun _ h => XS.iload X.here hx rfl hd hl h
theorem g_iloadN (X : Stand p l e R s m args below meth c T locs cells slots) (hx : p.tables.exec = Jvm.exec) {k : Fin 4} {v : Int32} (hl : Ls[k.val]? = some (.val (.int v))) (hd : decode c.code pc = .ok (.iload_n k, 1)) (pc' : Nat) (hp : pc + 1 = pc') (G : Go p e below P T (mkF m pc' Ls (.int v :: st))) : Go p e below P T (mkF m pc Ls st) := by
  subst hp
  exact G.stp fun _ h => XS.iloadN X.here hx rfl hd hl h
theorem g_istore (X : Stand p l e R s m args below meth c T locs cells slots) (hx : p.tables.exec = Jvm.exec) {k : Nat} {v : Int32} (l' : Array Slot) (hl : storeLocals Ls k (.int v) = some l') (hd : decode c.code pc = .ok (.istore k, 2)) (pc' : Nat) (hp : pc + 2 = pc') (G : Go p e below P T (mkF m pc' l' st)) : Go p e below P T (mkF m pc Ls (.int v :: st)) := by
  subst hp
  exact G.stp fun _ h => XS.istore X.here hx rfl hd rfl hl h
theorem g_istoreN (X : Stand p l e R s m args below meth c T locs cells slots) (hx : p.tables.exec = Jvm.exec) {k : Fin 4} {v : Int32} (l' : Array Slot) (hl : storeLocals Ls k.val (.int v) = some l') (hd : decode c.code pc = .ok (.istore_n k, 1)) (pc' : Nat) (hp : pc + 1 = pc') (G : Go p e below P T (mkF m pc' l' st)) : Go p e below P T (mkF m pc Ls (.int v :: st)) := by
  subst hp
  exact G.stp fun _ h => XS.istoreN X.here hx rfl hd rfl hl h
theorem g_lload (X : Stand p l e R s m args below meth c T locs cells slots) (hx : p.tables.exec = Jvm.exec) {k : Nat} {v : Int64} (hl : Ls[k]? = some (.val (.long v))) (hd : decode c.code pc = .ok (.lload k, 2)) (pc' : Nat) (hp : pc + 2 = pc') (G : Go p e below P T (mkF m pc' Ls (.long v :: st))) : Go p e below P T (mkF m pc Ls st) := by
  subst hp
  exact G.stp fun _ h => XT.lload X.here hx rfl hd hl h
theorem g_lloadN (X : Stand p l e R s m args below meth c T locs cells slots) (hx : p.tables.exec = Jvm.exec) {k : Fin 4} {v : Int64} (hl : Ls[k.val]? = some (.val (.long v))) (hd : decode c.code pc = .ok (.lload_n k, 1)) (pc' : Nat) (hp : pc + 1 = pc') (G : Go p e below P T (mkF m pc' Ls (.long v :: st))) : Go p e below P T (mkF m pc Ls st) := by
  subst hp
  exact G.stp fun _ h => XT.lloadN X.here hx rfl hd hl h
theorem g_lstore (X : Stand p l e R s m args below meth c T locs cells slots) (hx : p.tables.exec = Jvm.exec) {k : Nat} {v : Int64} (l' : Array Slot) (hl : storeLocals Ls k (.long v) = some l') (hd : decode c.code pc = .ok (.lstore k, 2)) (pc' : Nat) (hp : pc + 2 = pc') (G : Go p e below P T (mkF m pc' l' st)) : Go p e below P T (mkF m pc Ls (.long v :: st)) := by
  subst hp
  exact G.stp fun _ h => XT.lstore X.here hx rfl hd rfl hl h
theorem g_lstoreN (X : Stand p l e R s m args below meth c T locs cells slots) (hx : p.tables.exec = Jvm.exec) {k : Fin 4} {v : Int64} (l' : Array Slot) (hl : storeLocals Ls k.val (.long v) = some l') (hd : decode c.code pc = .ok (.lstore_n k, 1)) (pc' : Nat) (hp : pc + 1 = pc') (G : Go p e below P T (mkF m pc' l' st)) : Go p e below P T (mkF m pc Ls (.long v :: st)) := by
  subst hp
  exact G.stp fun _ h => XT.lstoreN X.here hx rfl hd rfl hl h
theorem g_aload (X : Stand p l e R s m args below meth c T locs cells slots) (hx : p.tables.exec = Jvm.exec) {k : Nat} {v : Value} (hl : Ls[k]? = some (.val v)) (hv : v.isRef = true) (hd : decode c.code pc = .ok (.aload k, 2)) (pc' : Nat) (hp : pc + 2 = pc') (G : Go p e below P T (mkF m pc' Ls (v :: st))) : Go p e below P T (mkF m pc Ls st) := by
  subst hp
  exact G.stp fun _ h => XS.aload X.here hx rfl hd hl hv h
theorem g_aloadN (X : Stand p l e R s m args below meth c T locs cells slots) (hx : p.tables.exec = Jvm.exec) {k : Fin 4} {v : Value} (hl : Ls[k.val]? = some (.val v)) (hv : v.isRef = true) (hd : decode c.code pc = .ok (.aload_n k, 1)) (pc' : Nat) (hp : pc + 1 = pc') (G : Go p e below P T (mkF m pc' Ls (v :: st))) : Go p e below P T (mkF m pc Ls st) := by
  subst hp
  exact G.stp fun _ h => XS.aloadN X.here hx rfl hd hl hv h
theorem g_astore (X : Stand p l e R s m args below meth c T locs cells slots) (hx : p.tables.exec = Jvm.exec) {k : Nat} {v : Value} (l' : Array Slot) (hv : v.isRef = true) (hl : storeLocals Ls k v = some l') (hd : decode c.code pc = .ok (.astore k, 2)) (pc' : Nat) (hp : pc + 2 = pc') (G : Go p e below P T (mkF m pc' l' st)) : Go p e below P T (mkF m pc Ls (v :: st)) := by
  subst hp
  exact G.stp fun _ h => XS.astore X.here hx rfl hd rfl hv hl h
theorem g_astoreN (X : Stand p l e R s m args below meth c T locs cells slots) (hx : p.tables.exec = Jvm.exec) {k : Fin 4} {v : Value} (l' : Array Slot) (hv : v.isRef = true) (hl : storeLocals Ls k.val v = some l') (hd : decode c.code pc = .ok (.astore_n k, 1)) (pc' : Nat) (hp : pc + 1 = pc') (G : Go p e below P T (mkF m pc' l' st)) : Go p e below P T (mkF m pc Ls (v :: st)) := by
  subst hp
  exact G.stp fun _ h => XS.astoreN X.here hx rfl hd rfl hv hl h
theorem g_iconst (X : Stand p l e R s m args below meth c T locs cells slots) (hx : p.tables.exec = Jvm.exec) {i : Int} (v : Int32) (hv : Int32.ofInt i = v) (hd : decode c.code pc = .ok (.iconst i, 1)) (pc' : Nat) (hp : pc + 1 = pc') (G : Go p e below P T (mkF m pc' Ls (.int v :: st))) : Go p e below P T (mkF m pc Ls st) := by
  subst hp
  exact G.stp fun _ h => XT.iconstV X.here hx rfl v hd hv h
theorem g_bipush (X : Stand p l e R s m args below meth c T locs cells slots) (hx : p.tables.exec = Jvm.exec) {i : Int} (v : Int32) (hv : (Int8.ofInt i).toInt32 = v) (hd : decode c.code pc = .ok (.bipush i, 2)) (pc' : Nat) (hp : pc + 2 = pc') (G : Go p e below P T (mkF m pc' Ls (.int v :: st))) : Go p e below P T (mkF m pc Ls st) := by
  subst hp
  exact G.stp fun _ h => XT.bipushV X.here hx rfl v hd hv h
theorem g_sipush (X : Stand p l e R s m args below meth c T locs cells slots) (hx : p.tables.exec = Jvm.exec) {i : Int} (v : Int32) (hv : (Int16.ofInt i).toInt32 = v) (hd : decode c.code pc = .ok (.sipush i, 3)) (pc' : Nat) (hp : pc + 3 = pc') (G : Go p e below P T (mkF m pc' Ls (.int v :: st))) : Go p e below P T (mkF m pc Ls st) := by
  subst hp
  exact G.stp fun _ h => XT.sipushV X.here hx rfl v hd hv h
theorem g_lconst (X : Stand p l e R s m args below meth c T locs cells slots) (hx : p.tables.exec = Jvm.exec) {i : Fin 2} (v : Int64) (hv : Int64.ofNat i = v) (hd : decode c.code pc = .ok (.lconst i, 1)) (pc' : Nat) (hp : pc + 1 = pc') (G : Go p e below P T (mkF m pc' Ls (.long v :: st))) : Go p e below P T (mkF m pc Ls st) := by
  subst hp
  exact G.stp fun _ h => XT.lconstV X.here hx rfl v hd hv h
theorem g_aconst_null (X : Stand p l e R s m args below meth c T locs cells slots) (hx : p.tables.exec = Jvm.exec)  (hd : decode c.code pc = .ok (.aconst_null, 1)) (pc' : Nat) (hp : pc + 1 = pc') (G : Go p e below P T (mkF m pc' Ls (.null :: st))) : Go p e below P T (mkF m pc Ls st) := by
  subst hp
  exact G.stp fun _ h => XS.aconstNull X.here hx rfl hd h
theorem g_iadd (X : Stand p l e R s m args below meth c T locs cells slots) (hx : p.tables.exec = Jvm.exec) {x y : Int32} (hd : decode c.code pc = .ok (.iadd, 1)) (pc' : Nat) (hp : pc + 1 = pc') (G : Go p e below P T (mkF m pc' Ls (.int (x + y) :: st))) : Go p e below P T (mkF m pc Ls (.int y :: .int x :: st)) := by
  subst hp
  exact G.stp fun _ h => XS.iadd X.here hx rfl hd rfl h
theorem g_ladd (X : Stand p l e R s m args below meth c T locs cells slots) (hx : p.tables.exec = Jvm.exec) {x y : Int64} (hd : decode c.code pc = .ok (.ladd, 1)) (pc' : Nat) (hp : pc + 1 = pc') (G : Go p e below P T (mkF m pc' Ls (.long (x + y) :: st))) : Go p e below P T (mkF m pc Ls (.long y :: .long x :: st)) := by
  subst hp
  exact G.stp fun _ h => XT.ladd X.here hx rfl hd rfl h
theorem g_isub (X : Stand p l e R s m args below meth c T locs cells slots) (hx : p.tables.exec = Jvm.exec) {x y : Int32} (hd : decode c.code pc = .ok (.isub, 1)) (pc' : Nat) (hp : pc + 1 = pc') (G : Go p e below P T (mkF m pc' Ls (.int (x - y) :: st))) : Go p e below P T (mkF m pc Ls (.int y :: .int x :: st)) := by
  subst hp
  exact G.stp fun _ h => XS.isub X.here hx rfl hd rfl h
theorem g_lsub (X : Stand p l e R s m args below meth c T locs cells slots) (hx : p.tables.exec = Jvm.exec) {x y : Int64} (hd : decode c.code pc = .ok (.lsub, 1)) (pc' : Nat) (hp : pc + 1 = pc') (G : Go p e below P T (mkF m pc' Ls (.long (x - y) :: st))) : Go p e below P T (mkF m pc Ls (.long y :: .long x :: st)) := by
  subst hp
  exact G.stp fun _ h => XT.lsub X.here hx rfl hd rfl h
theorem g_imul (X : Stand p l e R s m args below meth c T locs cells slots) (hx : p.tables.exec = Jvm.exec) {x y : Int32} (hd : decode c.code pc = .ok (.imul, 1)) (pc' : Nat) (hp : pc + 1 = pc') (G : Go p e below P T (mkF m pc' Ls (.int (x * y) :: st))) : Go p e below P T (mkF m pc Ls (.int y :: .int x :: st)) := by
  subst hp
  exact G.stp fun _ h => XS.imul X.here hx rfl hd rfl h
theorem g_lmul (X : Stand p l e R s m args below meth c T locs cells slots) (hx : p.tables.exec = Jvm.exec) {x y : Int64} (hd : decode c.code pc = .ok (.lmul, 1)) (pc' : Nat) (hp : pc + 1 = pc') (G : Go p e below P T (mkF m pc' Ls (.long (x * y) :: st))) : Go p e below P T (mkF m pc Ls (.long y :: .long x :: st)) := by
  subst hp
  exact G.stp fun _ h => XT.lmul X.here hx rfl hd rfl h
theorem g_iand (X : Stand p l e R s m args below meth c T locs cells slots) (hx : p.tables.exec = Jvm.exec) {x y : Int32} (hd : decode c.code pc = .ok (.iand, 1)) (pc' : Nat) (hp : pc + 1 = pc') (G : Go p e below P T (mkF m pc' Ls (.int (x &&& y) :: st))) : Go p e below P T (mkF m pc Ls (.int y :: .int x :: st)) := by
  subst hp
  exact G.stp fun _ h => XS.iand X.here hx rfl hd rfl h
theorem g_land (X : Stand p l e R s m args below meth c T locs cells slots) (hx : p.tables.exec = Jvm.exec) {x y : Int64} (hd : decode c.code pc = .ok (.land, 1)) (pc' : Nat) (hp : pc + 1 = pc') (G : Go p e below P T (mkF m pc' Ls (.long (x &&& y) :: st))) : Go p e below P T (mkF m pc Ls (.long y :: .long x :: st)) := by
  subst hp
  exact G.stp fun _ h => XT.land X.here hx rfl hd rfl h
theorem g_ior (X : Stand p l e R s m args below meth c T locs cells slots) (hx : p.tables.exec = Jvm.exec) {x y : Int32} (hd : decode c.code pc = .ok (.ior, 1)) (pc' : Nat) (hp : pc + 1 = pc') (G : Go p e below P T (mkF m pc' Ls (.int (x ||| y) :: st))) : Go p e below P T (mkF m pc Ls (.int y :: .int x :: st)) := by
  subst hp
  exact G.stp fun _ h => XT.ior X.here hx rfl hd rfl h
theorem g_lor (X : Stand p l e R s m args below meth c T locs cells slots) (hx : p.tables.exec = Jvm.exec) {x y : Int64} (hd : decode c.code pc = .ok (.lor, 1)) (pc' : Nat) (hp : pc + 1 = pc') (G : Go p e below P T (mkF m pc' Ls (.long (x ||| y) :: st))) : Go p e below P T (mkF m pc Ls (.long y :: .long x :: st)) := by
  subst hp
  exact G.stp fun _ h => XT.lor X.here hx rfl hd rfl h
theorem g_ixor (X : Stand p l e R s m args below meth c T locs cells slots) (hx : p.tables.exec = Jvm.exec) {x y : Int32} (hd : decode c.code pc = .ok (.ixor, 1)) (pc' : Nat) (hp : pc + 1 = pc') (G : Go p e below P T (mkF m pc' Ls (.int (x ^^^ y) :: st))) : Go p e below P T (mkF m pc Ls (.int y :: .int x :: st)) := by
  subst hp
  exact G.stp fun _ h => XT.ixor X.here hx rfl hd rfl h
theorem g_lxor (X : Stand p l e R s m args below meth c T locs cells slots) (hx : p.tables.exec = Jvm.exec) {x y : Int64} (hd : decode c.code pc = .ok (.lxor, 1)) (pc' : Nat) (hp : pc + 1 = pc') (G : Go p e below P T (mkF m pc' Ls (.long (x ^^^ y) :: st))) : Go p e below P T (mkF m pc Ls (.long y :: .long x :: st)) := by
  subst hp
  exact G.stp fun _ h => XT.lxor X.here hx rfl hd rfl h
theorem g_idiv (X : Stand p l e R s m args below meth c T locs cells slots) (hx : p.tables.exec = Jvm.exec) {x y : Int32} (hy : y ≠ 0) (hd : decode c.code pc = .ok (.idiv, 1)) (pc' : Nat) (hp : pc + 1 = pc') (G : Go p e below P T (mkF m pc' Ls (.int (x / y) :: st))) : Go p e below P T (mkF m pc Ls (.int y :: .int x :: st)) := by
  subst hp
  exact G.stp fun _ h => XS.idiv X.here hx rfl hd rfl hy h
theorem g_irem (X : Stand p l e R s m args below meth c T locs cells slots) (hx : p.tables.exec = Jvm.exec) {x y : Int32} (hy : y ≠ 0) (hd : decode c.code pc = .ok (.irem, 1)) (pc' : Nat) (hp : pc + 1 = pc') (G : Go p e below P T (mkF m pc' Ls (.int (x % y) :: st))) : Go p e below P T (mkF m pc Ls (.int y :: .int x :: st)) := by
  subst hp
  exact G.stp fun _ h => iremM X hx rfl hd rfl hy h
theorem g_ldiv (X : Stand p l e R s m args below meth c T locs cells slots) (hx : p.tables.exec = Jvm.exec) {x y : Int64} (hy : y ≠ 0) (hd : decode c.code pc = .ok (.ldiv, 1)) (pc' : Nat) (hp : pc + 1 = pc') (G : Go p e below P T (mkF m pc' Ls (.long (x / y) :: st))) : Go p e below P T (mkF m pc Ls (.long y :: .long x :: st)) := by
  subst hp
  exact G.stp fun _ h => XT.ldiv X.here hx rfl hd rfl hy h
theorem g_lrem (X : Stand p l e R s m args below meth c T locs cells slots) (hx : p.tables.exec = Jvm.exec) {x y : Int64} (hy : y ≠ 0) (hd : decode c.code pc = .ok (.lrem, 1)) (pc' : Nat) (hp : pc + 1 = pc') (G : Go p e below P T (mkF m pc' Ls (.long (x % y) :: st))) : Go p e below P T (mkF m pc Ls (.long y :: .long x :: st)) := by
  subst hp
  rw [← lrem_mod] at G
  exact G.stp fun _ h => XT.lrem X.here hx rfl hd rfl hy h
theorem g_ishl (X : Stand p l e R s m args below meth c T locs cells slots) (hx : p.tables.exec = Jvm.exec) {x y : Int32} (hd : decode c.code pc = .ok (.ishl, 1)) (pc' : Nat) (hp : pc + 1 = pc') (G : Go p e below P T (mkF m pc' Ls (.int (x <<< (y &&& 31)) :: st))) : Go p e below P T (mkF m pc Ls (.int y :: .int x :: st)) := by
  subst hp
  exact G.stp fun _ h => XT.ishl X.here hx rfl hd rfl h
theorem g_ishr (X : Stand p l e R s m args below meth c T locs cells slots) (hx : p.tables.exec = Jvm.exec) {x y : Int32} (hd : decode c.code pc = .ok (.ishr, 1)) (pc' : Nat) (hp : pc + 1 = pc') (G : Go p e below P T (mkF m pc' Ls (.int (x >>> (y &&& 31)) :: st))) : Go p e below P T (mkF m pc Ls (.int y :: .int x :: st)) := by
  subst hp
  exact G.stp fun _ h => XT.ishr X.here hx rfl hd rfl h
theorem g_iushr (X : Stand p l e R s m args below meth c T locs cells slots) (hx : p.tables.exec = Jvm.exec) {x y : Int32} (hd : decode c.code pc = .ok (.iushr, 1)) (pc' : Nat) (hp : pc + 1 = pc') (G : Go p e below P T (mkF m pc' Ls (.int (XT.ushr x y) :: st))) : Go p e below P T (mkF m pc Ls (.int y :: .int x :: st)) := by
  subst hp
  exact G.stp fun _ h => XT.iushr X.here hx rfl hd rfl h
theorem g_lshl (X : Stand p l e R s m args below meth c T locs cells slots) (hx : p.tables.exec = Jvm.exec) {x : Int64} {y : Int32} (hd : decode c.code pc = .ok (.lshl, 1)) (pc' : Nat) (hp : pc + 1 = pc') (G : Go p e below P T (mkF m pc' Ls (.long (x <<< (y &&& 0x3f).toInt64) :: st))) : Go p e below P T (mkF m pc Ls (.int y :: .long x :: st)) := by
  subst hp
  exact G.stp fun _ h => XS.lshl X.here hx rfl hd rfl h
theorem g_lshr (X : Stand p l e R s m args below meth c T locs cells slots) (hx : p.tables.exec = Jvm.exec) {x : Int64} {y : Int32} (hd : decode c.code pc = .ok (.lshr, 1)) (pc' : Nat) (hp : pc + 1 = pc') (G : Go p e below P T (mkF m pc' Ls (.long (x >>> (y &&& 0x3f).toInt64) :: st))) : Go p e below P T (mkF m pc Ls (.int y :: .long x :: st)) := by
  subst hp
  exact G.stp fun _ h => XS.lshr X.here hx rfl hd rfl h
theorem g_lushr (X : Stand p l e R s m args below meth c T locs cells slots) (hx : p.tables.exec = Jvm.exec) {x : Int64} {y : Int32} (hd : decode c.code pc = .ok (.lushr, 1)) (pc' : Nat) (hp : pc + 1 = pc') (G : Go p e below P T (mkF m pc' Ls (.long (XT.ushrL x y) :: st))) : Go p e below P T (mkF m pc Ls (.int y :: .long x :: st)) := by
  subst hp
  exact G.stp fun _ h => XT.lushr X.here hx rfl hd rfl h
theorem g_ineg (X : Stand p l e R s m args below meth c T locs cells slots) (hx : p.tables.exec = Jvm.exec) {x : Int32} (hd : decode c.code pc = .ok (.ineg, 1)) (pc' : Nat) (hp : pc + 1 = pc') (G : Go p e below P T (mkF m pc' Ls (.int (-x) :: st))) : Go p e below P T (mkF m pc Ls (.int x :: st)) := by
  subst hp
  exact G.stp fun _ h => XS.ineg X.here hx rfl hd rfl h
theorem g_i2l (X : Stand p l e R s m args below meth c T locs cells slots) (hx : p.tables.exec = Jvm.exec) {x : Int32} (hd : decode c.code pc = .ok (.i2l, 1)) (pc' : Nat) (hp : pc + 1 = pc') (G : Go p e below P T (mkF m pc' Ls (.long x.toInt64 :: st))) : Go p e below P T (mkF m pc Ls (.int x :: st)) := by
  subst hp
  exact G.stp fun _ h => XT.i2l X.here hx rfl hd rfl h
theorem g_l2i (X : Stand p l e R s m args below meth c T locs cells slots) (hx : p.tables.exec = Jvm.exec) {x : Int64} (hd : decode c.code pc = .ok (.l2i, 1)) (pc' : Nat) (hp : pc + 1 = pc') (G : Go p e below P T (mkF m pc' Ls (.int x.toInt32 :: st))) : Go p e below P T (mkF m pc Ls (.long x :: st)) := by
  subst hp
  exact G.stp fun _ h => XT.l2i X.here hx rfl hd rfl h
theorem g_i2b (X : Stand p l e R s m args below meth c T locs cells slots) (hx : p.tables.exec = Jvm.exec) {x : Int32} (hd : decode c.code pc = .ok (.i2b, 1)) (pc' : Nat) (hp : pc + 1 = pc') (G : Go p e below P T (mkF m pc' Ls (.int x.toInt8.toInt32 :: st))) : Go p e below P T (mkF m pc Ls (.int x :: st)) := by
  subst hp
  exact G.stp fun _ h => XT.i2b X.here hx rfl hd rfl h
theorem g_i2s (X : Stand p l e R s m args below meth c T locs cells slots) (hx : p.tables.exec = Jvm.exec) {x : Int32} (hd : decode c.code pc = .ok (.i2s, 1)) (pc' : Nat) (hp : pc + 1 = pc') (G : Go p e below P T (mkF m pc' Ls (.int x.toInt16.toInt32 :: st))) : Go p e below P T (mkF m pc Ls (.int x :: st)) := by
  subst hp
  exact G.stp fun _ h => XT.i2s X.here hx rfl hd rfl h
theorem g_i2c (X : Stand p l e R s m args below meth c T locs cells slots) (hx : p.tables.exec = Jvm.exec) {x : Int32} (hd : decode c.code pc = .ok (.i2c, 1)) (pc' : Nat) (hp : pc + 1 = pc') (G : Go p e below P T (mkF m pc' Ls (.int x.toUInt32.toUInt16.toUInt32.toInt32 :: st))) : Go p e below P T (mkF m pc Ls (.int x :: st)) := by
  subst hp
  exact G.stp fun _ h => XT.i2c X.here hx rfl hd rfl h
theorem g_pop (X : Stand p l e R s m args below meth c T locs cells slots) (hx : p.tables.exec = Jvm.exec) {x : Value} (hc : x.category = 1) (hd : decode c.code pc = .ok (.pop, 1)) (pc' : Nat) (hp : pc + 1 = pc') (G : Go p e below P T (mkF m pc' Ls st)) : Go p e below P T (mkF m pc Ls (x :: st)) := by
  subst hp
  exact G.stp fun _ h => XT.pop X.here hx rfl hd rfl hc h
theorem g_dup (X : Stand p l e R s m args below meth c T locs cells slots) (hx : p.tables.exec = Jvm.exec) {x : Value} (hc : x.category = 1) (hd : decode c.code pc = .ok (.dup, 1)) (pc' : Nat) (hp : pc + 1 = pc') (G : Go p e below P T (mkF m pc' Ls (x :: x :: st))) : Go p e below P T (mkF m pc Ls (x :: st)) := by
  subst hp
  exact G.stp fun _ h => XS.dup X.here hx rfl hd rfl hc h
theorem g_dup_x1 (X : Stand p l e R s m args below meth c T locs cells slots) (hx : p.tables.exec = Jvm.exec) {x y : Value} (hc : x.category = 1) (hc' : y.category = 1) (hd : decode c.code pc = .ok (.dup_x1, 1)) (pc' : Nat) (hp : pc + 1 = pc') (G : Go p e below P T (mkF m pc' Ls (x :: y :: x :: st))) : Go p e below P T (mkF m pc Ls (x :: y :: st)) := by
  subst hp
  exact G.stp fun _ h => XT.dupX1 X.here hx rfl hd rfl hc hc' h
theorem g_dup2 (X : Stand p l e R s m args below meth c T locs cells slots) (hx : p.tables.exec = Jvm.exec) {x y : Value} (hc : x.category = 1) (hc' : y.category = 1) (hd : decode c.code pc = .ok (.dup2, 1)) (pc' : Nat) (hp : pc + 1 = pc') (G : Go p e below P T (mkF m pc' Ls (x :: y :: x :: y :: st))) : Go p e below P T (mkF m pc Ls (x :: y :: st)) := by
  subst hp
  exact G.stp fun _ h => XT.dup2 X.here hx rfl hd rfl hc hc' h
theorem g_iinc (X : Stand p l e R s m args below meth c T locs cells slots) (hx : p.tables.exec = Jvm.exec) {k : Nat} {cst : Int} {x : Int32} (v : Int32) (hv : Int32.ofInt cst = v) (hl : Ls[k]? = some (.val (.int x))) (l' : Array Slot) (hl' : storeLocals Ls k (.int (x + v)) = some l') (hd : decode c.code pc = .ok (.iinc k cst, 3)) (pc' : Nat) (hp : pc + 3 = pc') (G : Go p e below P T (mkF m pc' l' st)) : Go p e below P T (mkF m pc Ls st) := by
  subst hp
  exact G.stp fun _ h => XT.iincV X.here hx rfl v hd hv hl hl' h
theorem g_goto (X : Stand p l e R s m args below meth c T locs cells slots) (hx : p.tables.exec = Jvm.exec) {o : Int} (hd : decode c.code pc = .ok (.goto o, 3)) (pc' : Nat) (ho : 0 ≤ (pc : Int) + o) (hp : ((pc : Int) + o).toNat = pc') (G : Go p e below P T (mkF m pc' Ls st)) : Go p e below P T (mkF m pc Ls st) := by
  exact G.stp fun _ h => XS.goto X.here hx rfl rfl hd ho hp h
theorem g_icmp_eq (X : Stand p l e R s m args below meth c T locs cells slots) (hx : p.tables.exec = Jvm.exec) {x y : Int32} {o : Int} (hd : decode c.code pc = .ok (.if_icmp .eq o, 3)) (pcT pcF : Nat) (ho : 0 ≤ (pc : Int) + o) (hT : ((pc : Int) + o).toNat = pcT) (hF : pc + 3 = pcF) (G1 : x = y → Go p e below P T (mkF m pcT Ls st)) (G2 : ¬ x = y → Go p e below P T (mkF m pcF Ls st)) : Go p e below P T (mkF m pc Ls (.int y :: .int x :: st)) := by
  by_cases q : x = y
  · exact (G1 q).stp fun _ h => XS.icmpYes X.here hx rfl rfl hd rfl (XT.ii_eq_t q) ho hT h
  · subst hF
    exact (G2 q).stp fun _ h => XS.icmpNo X.here hx rfl hd rfl (XT.ii_eq_f q) h
theorem g_if_eq (X : Stand p l e R s m args below meth c T locs cells slots) (hx : p.tables.exec = Jvm.exec) {x : Int32} {o : Int} (hd : decode c.code pc = .ok (.ifCond .eq o, 3)) (pcT pcF : Nat) (ho : 0 ≤ (pc : Int) + o) (hT : ((pc : Int) + o).toNat = pcT) (hF : pc + 3 = pcF) (G1 : x = 0 → Go p e below P T (mkF m pcT Ls st)) (G2 : ¬ x = 0 → Go p e below P T (mkF m pcF Ls st)) : Go p e below P T (mkF m pc Ls (.int x :: st)) := by
  by_cases q : x = 0
  · exact (G1 q).stp fun _ h => XS.ifYes X.here hx rfl rfl hd rfl (XT.i0_eq_t q) ho hT h
  · subst hF
    exact (G2 q).stp fun _ h => XS.ifNo X.here hx rfl hd rfl (XT.i0_eq_f q) h
theorem g_lif_eq (X : Stand p l e R s m args below meth c T locs cells slots) (hx : p.tables.exec = Jvm.exec) {x y : Int64} {o : Int} (hd0 : decode c.code pc = .ok (.lcmp, 1)) (pc1 : Nat) (hp1 : pc + 1 = pc1) (hd : decode c.code pc1 = .ok (.ifCond .eq o, 3)) (pcT pcF : Nat) (ho : 0 ≤ (pc1 : Int) + o) (hT : ((pc1 : Int) + o).toNat = pcT) (hF : pc1 + 3 = pcF) (G1 : x = y → Go p e below P T (mkF m pcT Ls st)) (G2 : ¬ x = y → Go p e below P T (mkF m pcF Ls st)) : Go p e below P T (mkF m pc Ls (.long y :: .long x :: st)) := by
  subst hp1
  by_cases q : x = y
  · exact (G1 q).stp fun _ h => XT.lcmp X.here hx rfl hd0 rfl (XS.ifYes X.here hx rfl rfl hd rfl (XT.ll_eq_t q) ho hT h)
  · subst hF
    exact (G2 q).stp fun _ h => XT.lcmp X.here hx rfl hd0 rfl (XS.ifNo X.here hx rfl hd rfl (XT.ll_eq_f q) h)
theorem g_icmp_ne (X : Stand p l e R s m args below meth c T locs cells slots) (hx : p.tables.exec = Jvm.exec) {x y : Int32} {o : Int} (hd : decode c.code pc = .ok (.if_icmp .ne o, 3)) (pcT pcF : Nat) (ho : 0 ≤ (pc : Int) + o) (hT : ((pc : Int) + o).toNat = pcT) (hF : pc + 3 = pcF) (G1 : ¬ x = y → Go p e below P T (mkF m pcT Ls st)) (G2 : x = y → Go p e below P T (mkF m pcF Ls st)) : Go p e below P T (mkF m pc Ls (.int y :: .int x :: st)) := by
  by_cases q : ¬ x = y
  · exact (G1 q).stp fun _ h => XS.icmpYes X.here hx rfl rfl hd rfl (XT.ii_ne_t q) ho hT h
  · subst hF
    exact (G2 (Classical.not_not.mp q)).stp fun _ h => XS.icmpNo X.here hx rfl hd rfl (XT.ii_ne_f (Classical.not_not.mp q)) h
theorem g_if_ne (X : Stand p l e R s m args below meth c T locs cells slots) (hx : p.tables.exec = Jvm.exec) {x : Int32} {o : Int} (hd : decode c.code pc = .ok (.ifCond .ne o, 3)) (pcT pcF : Nat) (ho : 0 ≤ (pc : Int) + o) (hT : ((pc : Int) + o).toNat = pcT) (hF : pc + 3 = pcF) (G1 : ¬ x = 0 → Go p e below P T (mkF m pcT Ls st)) (G2 : x = 0 → Go p e below P T (mkF m pcF Ls st)) : Go p e below P T (mkF m pc Ls (.int x :: st)) := by
  by_cases q : ¬ x = 0
  · exact (G1 q).stp fun _ h => XS.ifYes X.here hx rfl rfl hd rfl (XT.i0_ne_t q) ho hT h
  · subst hF
    exact (G2 (Classical.not_not.mp q)).stp fun _ h => XS.ifNo X.here hx rfl hd rfl (XT.i0_ne_f (Classical.not_not.mp q)) h
theorem g_lif_ne (X : Stand p l e R s m args below meth c T locs cells slots) (hx : p.tables.exec = Jvm.exec) {x y : Int64} {o : Int} (hd0 : decode c.code pc = .ok (.lcmp, 1)) (pc1 : Nat) (hp1 : pc + 1 = pc1) (hd : decode c.code pc1 = .ok (.ifCond .ne o, 3)) (pcT pcF : Nat) (ho : 0 ≤ (pc1 : Int) + o) (hT : ((pc1 : Int) + o).toNat = pcT) (hF : pc1 + 3 = pcF) (G1 : ¬ x = y → Go p e below P T (mkF m pcT Ls st)) (G2 : x = y → Go p e below P T (mkF m pcF Ls st)) : Go p e below P T (mkF m pc Ls (.long y :: .long x :: st)) := by
  subst hp1
  by_cases q : ¬ x = y
  · exact (G1 q).stp fun _ h => XT.lcmp X.here hx rfl hd0 rfl (XS.ifYes X.here hx rfl rfl hd rfl (XT.ll_ne_t q) ho hT h)
  · subst hF
    exact (G2 (Classical.not_not.mp q)).stp fun _ h => XT.lcmp X.here hx rfl hd0 rfl (XS.ifNo X.here hx rfl hd rfl (XT.ll_ne_f (Classical.not_not.mp q)) h)
theorem g_icmp_lt (X : Stand p l e R s m args below meth c T locs cells slots) (hx : p.tables.exec = Jvm.exec) {x y : Int32} {o : Int} (hd : decode c.code pc = .ok (.if_icmp .lt o, 3)) (pcT pcF : Nat) (ho : 0 ≤ (pc : Int) + o) (hT : ((pc : Int) + o).toNat = pcT) (hF : pc + 3 = pcF) (G1 : x < y → Go p e below P T (mkF m pcT Ls st)) (G2 : ¬ x < y → Go p e below P T (mkF m pcF Ls st)) : Go p e below P T (mkF m pc Ls (.int y :: .int x :: st)) := by
  by_cases q : x < y
  · exact (G1 q).stp fun _ h => XS.icmpYes X.here hx rfl rfl hd rfl (XT.ii_lt_t q) ho hT h
  · subst hF
    exact (G2 q).stp fun _ h => XS.icmpNo X.here hx rfl hd rfl (XT.ii_lt_f q) h
theorem g_if_lt (X : Stand p l e R s m args below meth c T locs cells slots) (hx : p.tables.exec = Jvm.exec) {x : Int32} {o : Int} (hd : decode c.code pc = .ok (.ifCond .lt o, 3)) (pcT pcF : Nat) (ho : 0 ≤ (pc : Int) + o) (hT : ((pc : Int) + o).toNat = pcT) (hF : pc + 3 = pcF) (G1 : x < 0 → Go p e below P T (mkF m pcT Ls st)) (G2 : ¬ x < 0 → Go p e below P T (mkF m pcF Ls st)) : Go p e below P T (mkF m pc Ls (.int x :: st)) := by
  by_cases q : x < 0
  · exact (G1 q).stp fun _ h => XS.ifYes X.here hx rfl rfl hd rfl (XT.i0_lt_t q) ho hT h
  · subst hF
    exact (G2 q).stp fun _ h => XS.ifNo X.here hx rfl hd rfl (XT.i0_lt_f q) h
theorem g_lif_lt (X : Stand p l e R s m args below meth c T locs cells slots) (hx : p.tables.exec = Jvm.exec) {x y : Int64} {o : Int} (hd0 : decode c.code pc = .ok (.lcmp, 1)) (pc1 : Nat) (hp1 : pc + 1 = pc1) (hd : decode c.code pc1 = .ok (.ifCond .lt o, 3)) (pcT pcF : Nat) (ho : 0 ≤ (pc1 : Int) + o) (hT : ((pc1 : Int) + o).toNat = pcT) (hF : pc1 + 3 = pcF) (G1 : x < y → Go p e below P T (mkF m pcT Ls st)) (G2 : ¬ x < y → Go p e below P T (mkF m pcF Ls st)) : Go p e below P T (mkF m pc Ls (.long y :: .long x :: st)) := by
  subst hp1
  by_cases q : x < y
  · exact (G1 q).stp fun _ h => XT.lcmp X.here hx rfl hd0 rfl (XS.ifYes X.here hx rfl rfl hd rfl (XT.ll_lt_t q) ho hT h)
  · subst hF
    exact (G2 q).stp fun _ h => XT.lcmp X.here hx rfl hd0 rfl (XS.ifNo X.here hx rfl hd rfl (XT.ll_lt_f q) h)
theorem g_icmp_ge (X : Stand p l e R s m args below meth c T locs cells slots) (hx : p.tables.exec = Jvm.exec) {x y : Int32} {o : Int} (hd : decode c.code pc = .ok (.if_icmp .ge o, 3)) (pcT pcF : Nat) (ho : 0 ≤ (pc : Int) + o) (hT : ((pc : Int) + o).toNat = pcT) (hF : pc + 3 = pcF) (G1 : ¬ x < y → Go p e below P T (mkF m pcT Ls st)) (G2 : x < y → Go p e below P T (mkF m pcF Ls st)) : Go p e below P T (mkF m pc Ls (.int y :: .int x :: st)) := by
  by_cases q : ¬ x < y
  · exact (G1 q).stp fun _ h => XS.icmpYes X.here hx rfl rfl hd rfl (XT.ii_ge_t q) ho hT h
  · subst hF
    exact (G2 (Classical.not_not.mp q)).stp fun _ h => XS.icmpNo X.here hx rfl hd rfl (XT.ii_ge_f (Classical.not_not.mp q)) h
theorem g_if_ge (X : Stand p l e R s m args below meth c T locs cells slots) (hx : p.tables.exec = Jvm.exec) {x : Int32} {o : Int} (hd : decode c.code pc = .ok (.ifCond .ge o, 3)) (pcT pcF : Nat) (ho : 0 ≤ (pc : Int) + o) (hT : ((pc : Int) + o).toNat = pcT) (hF : pc + 3 = pcF) (G1 : ¬ x < 0 → Go p e below P T (mkF m pcT Ls st)) (G2 : x < 0 → Go p e below P T (mkF m pcF Ls st)) : Go p e below P T (mkF m pc Ls (.int x :: st)) := by
  by_cases q : ¬ x < 0
  · exact (G1 q).stp fun _ h => XS.ifYes X.here hx rfl rfl hd rfl (XT.i0_ge_t q) ho hT h
  · subst hF
    exact (G2 (Classical.not_not.mp q)).stp fun _ h => XS.ifNo X.here hx rfl hd rfl (XT.i0_ge_f (Classical.not_not.mp q)) h
theorem g_lif_ge (X : Stand p l e R s m args below meth c T locs cells slots) (hx : p.tables.exec = Jvm.exec) {x y : Int64} {o : Int} (hd0 : decode c.code pc = .ok (.lcmp, 1)) (pc1 : Nat) (hp1 : pc + 1 = pc1) (hd : decode c.code pc1 = .ok (.ifCond .ge o, 3)) (pcT pcF : Nat) (ho : 0 ≤ (pc1 : Int) + o) (hT : ((pc1 : Int) + o).toNat = pcT) (hF : pc1 + 3 = pcF) (G1 : ¬ x < y → Go p e below P T (mkF m pcT Ls st)) (G2 : x < y → Go p e below P T (mkF m pcF Ls st)) : Go p e below P T (mkF m pc Ls (.long y :: .long x :: st)) := by
  subst hp1
  by_cases q : ¬ x < y
  · exact (G1 q).stp fun _ h => XT.lcmp X.here hx rfl hd0 rfl (XS.ifYes X.here hx rfl rfl hd rfl (XT.ll_ge_t q) ho hT h)
  · subst hF
    exact (G2 (Classical.not_not.mp q)).stp fun _ h => XT.lcmp X.here hx rfl hd0 rfl (XS.ifNo X.here hx rfl hd rfl (XT.ll_ge_f (Classical.not_not.mp q)) h)
theorem g_icmp_gt (X : Stand p l e R s m args below meth c T locs cells slots) (hx : p.tables.exec = Jvm.exec) {x y : Int32} {o : Int} (hd : decode c.code pc = .ok (.if_icmp .gt o, 3)) (pcT pcF : Nat) (ho : 0 ≤ (pc : Int) + o) (hT : ((pc : Int) + o).toNat = pcT) (hF : pc + 3 = pcF) (G1 : y < x → Go p e below P T (mkF m pcT Ls st)) (G2 : ¬ y < x → Go p e below P T (mkF m pcF Ls st)) : Go p e below P T (mkF m pc Ls (.int y :: .int x :: st)) := by
  by_cases q : y < x
  · exact (G1 q).stp fun _ h => XS.icmpYes X.here hx rfl rfl hd rfl (XT.ii_gt_t q) ho hT h
  · subst hF
    exact (G2 q).stp fun _ h => XS.icmpNo X.here hx rfl hd rfl (XT.ii_gt_f q) h
theorem g_if_gt (X : Stand p l e R s m args below meth c T locs cells slots) (hx : p.tables.exec = Jvm.exec) {x : Int32} {o : Int} (hd : decode c.code pc = .ok (.ifCond .gt o, 3)) (pcT pcF : Nat) (ho : 0 ≤ (pc : Int) + o) (hT : ((pc : Int) + o).toNat = pcT) (hF : pc + 3 = pcF) (G1 : 0 < x → Go p e below P T (mkF m pcT Ls st)) (G2 : ¬ 0 < x → Go p e below P T (mkF m pcF Ls st)) : Go p e below P T (mkF m pc Ls (.int x :: st)) := by
  by_cases q : 0 < x
  · exact (G1 q).stp fun _ h => XS.ifYes X.here hx rfl rfl hd rfl (XT.i0_gt_t q) ho hT h
  · subst hF
    exact (G2 q).stp fun _ h => XS.ifNo X.here hx rfl hd rfl (XT.i0_gt_f q) h
theorem g_lif_gt (X : Stand p l e R s m args below meth c T locs cells slots) (hx : p.tables.exec = Jvm.exec) {x y : Int64} {o : Int} (hd0 : decode c.code pc = .ok (.lcmp, 1)) (pc1 : Nat) (hp1 : pc + 1 = pc1) (hd : decode c.code pc1 = .ok (.ifCond .gt o, 3)) (pcT pcF : Nat) (ho : 0 ≤ (pc1 : Int) + o) (hT : ((pc1 : Int) + o).toNat = pcT) (hF : pc1 + 3 = pcF) (G1 : y < x → Go p e below P T (mkF m pcT Ls st)) (G2 : ¬ y < x → Go p e below P T (mkF m pcF Ls st)) : Go p e below P T (mkF m pc Ls (.long y :: .long x :: st)) := by
  subst hp1
  by_cases q : y < x
  · exact (G1 q).stp fun _ h => XT.lcmp X.here hx rfl hd0 rfl (XS.ifYes X.here hx rfl rfl hd rfl (XT.ll_gt_t q) ho hT h)
  · subst hF
    exact (G2 q).stp fun _ h => XT.lcmp X.here hx rfl hd0 rfl (XS.ifNo X.here hx rfl hd rfl (XT.ll_gt_f q) h)
theorem g_icmp_le (X : Stand p l e R s m args below meth c T locs cells slots) (hx : p.tables.exec = Jvm.exec) {x y : Int32} {o : Int} (hd : decode c.code pc = .ok (.if_icmp .le o, 3)) (pcT pcF : Nat) (ho : 0 ≤ (pc : Int) + o) (hT : ((pc : Int) + o).toNat = pcT) (hF : pc + 3 = pcF) (G1 : ¬ y < x → Go p e below P T (mkF m pcT Ls st)) (G2 : y < x → Go p e below P T (mkF m pcF Ls st)) : Go p e below P T (mkF m pc Ls (.int y :: .int x :: st)) := by
  by_cases q : ¬ y < x
  · exact (G1 q).stp fun _ h => XS.icmpYes X.here hx rfl rfl hd rfl (XT.ii_le_t q) ho hT h
  · subst hF
    exact (G2 (Classical.not_not.mp q)).stp fun _ h => XS.icmpNo X.here hx rfl hd rfl (XT.ii_le_f (Classical.not_not.mp q)) h
theorem g_if_le (X : Stand p l e R s m args below meth c T locs cells slots) (hx : p.tables.exec = Jvm.exec) {x : Int32} {o : Int} (hd : decode c.code pc = .ok (.ifCond .le o, 3)) (pcT pcF : Nat) (ho : 0 ≤ (pc : Int) + o) (hT : ((pc : Int) + o).toNat = pcT) (hF : pc + 3 = pcF) (G1 : ¬ 0 < x → Go p e below P T (mkF m pcT Ls st)) (G2 : 0 < x → Go p e below P T (mkF m pcF Ls st)) : Go p e below P T (mkF m pc Ls (.int x :: st)) := by
  by_cases q : ¬ 0 < x
  · exact (G1 q).stp fun _ h => XS.ifYes X.here hx rfl rfl hd rfl (XT.i0_le_t q) ho hT h
  · subst hF
    exact (G2 (Classical.not_not.mp q)).stp fun _ h => XS.ifNo X.here hx rfl hd rfl (XT.i0_le_f (Classical.not_not.mp q)) h
theorem g_lif_le (X : Stand p l e R s m args below meth c T locs cells slots) (hx : p.tables.exec = Jvm.exec) {x y : Int64} {o : Int} (hd0 : decode c.code pc = .ok (.lcmp, 1)) (pc1 : Nat) (hp1 : pc + 1 = pc1) (hd : decode c.code pc1 = .ok (.ifCond .le o, 3)) (pcT pcF : Nat) (ho : 0 ≤ (pc1 : Int) + o) (hT : ((pc1 : Int) + o).toNat = pcT) (hF : pc1 + 3 = pcF) (G1 : ¬ y < x → Go p e below P T (mkF m pcT Ls st)) (G2 : y < x → Go p e below P T (mkF m pcF Ls st)) : Go p e below P T (mkF m pc Ls (.long y :: .long x :: st)) := by
  subst hp1
  by_cases q : ¬ y < x
  · exact (G1 q).stp fun _ h => XT.lcmp X.here hx rfl hd0 rfl (XS.ifYes X.here hx rfl rfl hd rfl (XT.ll_le_t q) ho hT h)
  · subst hF
    exact (G2 (Classical.not_not.mp q)).stp fun _ h => XT.lcmp X.here hx rfl hd0 rfl (XS.ifNo X.here hx rfl hd rfl (XT.ll_le_f (Classical.not_not.mp q)) h)
theorem g_acmp_eq (X : Stand p l e R s m args below meth c T locs cells slots) (hx : p.tables.exec = Jvm.exec) {x y : Value} (hx' : x.isRef = true) (hy' : y.isRef = true) {o : Int} (hd : decode c.code pc = .ok (.if_acmp .eq o, 3)) (pcT pcF : Nat) (ho : 0 ≤ (pc : Int) + o) (hT : ((pc : Int) + o).toNat = pcT) (hF : pc + 3 = pcF) (G1 : x = y → Go p e below P T (mkF m pcT Ls st)) (G2 : ¬ x = y → Go p e below P T (mkF m pcF Ls st)) : Go p e below P T (mkF m pc Ls (y :: x :: st)) := by
  by_cases q : x = y
  · exact (G1 q).stp fun _ h => XT.acmpYes X.here hx rfl rfl hd rfl hx' hy' (XT.aa_eq_t q) ho hT h
  · subst hF
    exact (G2 q).stp fun _ h => XT.acmpNo X.here hx rfl hd rfl hx' hy' (XT.aa_eq_f q) h
theorem g_acmp_ne (X : Stand p l e R s m args below meth c T locs cells slots) (hx : p.tables.exec = Jvm.exec) {x y : Value} (hx' : x.isRef = true) (hy' : y.isRef = true) {o : Int} (hd : decode c.code pc = .ok (.if_acmp .ne o, 3)) (pcT pcF : Nat) (ho : 0 ≤ (pc : Int) + o) (hT : ((pc : Int) + o).toNat = pcT) (hF : pc + 3 = pcF) (G1 : ¬ x = y → Go p e below P T (mkF m pcT Ls st)) (G2 : x = y → Go p e below P T (mkF m pcF Ls st)) : Go p e below P T (mkF m pc Ls (y :: x :: st)) := by
  by_cases q : ¬ x = y
  · exact (G1 q).stp fun _ h => XT.acmpYes X.here hx rfl rfl hd rfl hx' hy' (XT.aa_ne_t q) ho hT h
  · subst hF
    exact (G2 (Classical.not_not.mp q)).stp fun _ h => XT.acmpNo X.here hx rfl hd rfl hx' hy' (XT.aa_ne_f (Classical.not_not.mp q)) h
theorem g_ifnull (X : Stand p l e R s m args below meth c T locs cells slots) (hx : p.tables.exec = Jvm.exec) {x : Value} (hx' : x.isRef = true) {o : Int} (hd : decode c.code pc = .ok (.ifnull o, 3)) (pcT pcF : Nat) (ho : 0 ≤ (pc : Int) + o) (hT : ((pc : Int) + o).toNat = pcT) (hF : pc + 3 = pcF) (G1 : x = .null → Go p e below P T (mkF m pcT Ls st)) (G2 : ¬ x = .null → Go p e below P T (mkF m pcF Ls st)) : Go p e below P T (mkF m pc Ls (x :: st)) := by
  by_cases q : x = .null
  · exact (G1 q).stp fun _ h => XT.nullYes X.here hx rfl rfl hd rfl q ho hT h
  · subst hF
    exact (G2 q).stp fun _ h => XT.nullNo X.here hx rfl hd rfl hx' q h
theorem g_ifnonnull (X : Stand p l e R s m args below meth c T locs cells slots) (hx : p.tables.exec = Jvm.exec) {x : Value} (hx' : x.isRef = true) {o : Int} (hd : decode c.code pc = .ok (.ifnonnull o, 3)) (pcT pcF : Nat) (ho : 0 ≤ (pc : Int) + o) (hT : ((pc : Int) + o).toNat = pcT) (hF : pc + 3 = pcF) (G1 : ¬ x = .null → Go p e below P T (mkF m pcT Ls st)) (G2 : x = .null → Go p e below P T (mkF m pcF Ls st)) : Go p e below P T (mkF m pc Ls (x :: st)) := by
  by_cases q : x = .null
  · subst hF
    exact (G2 q).stp fun _ h => XT.nonnullNo X.here hx rfl hd rfl q h
  · exact (G1 q).stp fun _ h => XT.nonnullYes X.here hx rfl rfl hd rfl hx' q ho hT h
theorem g_ldc (X : Stand p l e R s m args below meth c T locs cells slots) (hx : p.tables.exec = Jvm.exec) (hZ : Z.Warmed39 s.vm) {own : String} (hown : s.vm.findClass own = some m.cls) {i : Nat} {v : Int32} (w : (Cond.constant own i v).before a0 Z = true) (hd : decode c.code pc = .ok (.ldc i, 2)) (pc' : Nat) (hp : pc + 2 = pc') (G : Go p e below P T (mkF m pc' Ls (.int v :: st))) : Go p e below P T (mkF m pc Ls st) := by
  subst hp
  exact G.stp fun _ h => Jvm.Stand.ldcI X hx hown (mv hZ w) rfl hd h
theorem g_ldc_w (X : Stand p l e R s m args below meth c T locs cells slots) (hx : p.tables.exec = Jvm.exec) (hZ : Z.Warmed39 s.vm) {own : String} (hown : s.vm.findClass own = some m.cls) {i : Nat} {v : Int32} (w : (Cond.constant own i v).before a0 Z = true) (hd : decode c.code pc = .ok (.ldc_w i, 3)) (pc' : Nat) (hp : pc + 3 = pc') (G : Go p e below P T (mkF m pc' Ls (.int v :: st))) : Go p e below P T (mkF m pc Ls st) := by
  subst hp
  exact G.stp fun _ h => Jvm.Stand.ldcWI X hx hown (mv hZ w) rfl hd h
theorem g_ldc2_w (X : Stand p l e R s m args below meth c T locs cells slots) (hx : p.tables.exec = Jvm.exec) (hZ : Z.Warmed39 s.vm) {own : String} (hown : s.vm.findClass own = some m.cls) {i : Nat} {v : Int64} (w : (Cond.constantLong own i v).before a0 Z = true) (hd : decode c.code pc = .ok (.ldc2_w i, 3)) (pc' : Nat) (hp : pc + 3 = pc') (G : Go p e below P T (mkF m pc' Ls (.long v :: st))) : Go p e below P T (mkF m pc Ls st) := by
  subst hp
  exact G.stp fun _ h => Jvm.Stand.ldc2J X hx hown (mv hZ w) rfl hd h
theorem g_getfield (X : Stand p l e R s m args below meth c T locs cells slots) (hx : p.tables.exec = Jvm.exec) (hZ : Z.Warmed39 s.vm) {own : String} (hown : s.vm.findClass own = some m.cls) {R0 O n d host : String} {i : Nat} (w : (Cond.fieldLink own i R0 n d).before a0 Z = true ∨ (Cond.fieldLinkNest own i R0 n d host).before a0 Z = true) (via : Via Z R0 O n d) {a : Addr} {v : Value} (F : Fld Z h a O n d v) (eT : T.heap = h) (hd : decode c.code pc = .ok (.getfield i, 3)) (pc' : Nat) (hp : pc + 3 = pc') (G : ∀ T', Stand p l e R s m args below meth c T' locs cells slots → T'.heap = h → Go p e below P T' (mkF m pc' Ls (v :: st))) : Go p e below P T (mkF m pc Ls (.ref a :: st)) := by
  subst hp
  obtain ⟨T', X', e', k⟩ := getF X hx hZ hown w via eT F (g := mkF m pc Ls (.ref a :: st)) rfl rfl hd
  exact (G T' X' e').stp k
theorem g_getstatic (X : Stand p l e R s m args below meth c T locs cells slots) (hx : p.tables.exec = Jvm.exec) (hZ : Z.Warmed39 s.vm) {own : String} (hown : s.vm.findClass own = some m.cls) {R0 O n d host : String} {i : Nat} (w : (Cond.fieldLink own i R0 n d).before a0 Z = true ∨ (Cond.fieldLinkNest own i R0 n d host).before a0 Z = true) (via : Via Z R0 O n d) {v : Value} (F : Sta Z h O n d v) (eT : T.heap = h) (hd : decode c.code pc = .ok (.getstatic i, 3)) (pc' : Nat) (hp : pc + 3 = pc') (G : ∀ T', Stand p l e R s m args below meth c T' locs cells slots → T'.heap = h → Go p e below P T' (mkF m pc' Ls (v :: st))) : Go p e below P T (mkF m pc Ls st) := by
  subst hp
  obtain ⟨T', X', e', k⟩ := getS2 X hx hZ hown w via eT F (g := mkF m pc Ls st) rfl hd
  exact (G T' X' e').stp k
theorem g_putfield (X : Stand p l e R s m args below meth c T locs cells slots) (hx : p.tables.exec = Jvm.exec) (hZ : Z.Warmed39 s.vm) {own : String} (hown : s.vm.findClass own = some m.cls) {R0 O n d host C : String} {i kk : Nat} {ty : FieldType} (w : (Cond.fieldLink own i R0 n d).before a0 Z = true ∨ (Cond.fieldLinkNest own i R0 n d host).before a0 Z = true) (via : Via Z R0 O n d) (eT : T.heap = h) {a : Addr} {v old : Value} (F : Fld Z h a O n d old) (E : Exa Z h a C) (L : (Cond.lays C O n d).before a0 Z = true ∨ ((Cond.laysFinal C O n d).before a0 Z = true ∧ own = O ∧ meth.name = "<init>")) (wi : (Cond.instantiable C kk).before a0 Z = true) (hty : parseFieldDescriptor d = some ty) (hn : narrow ty v = v) (hf : fits ty v = true) (hd : decode c.code pc = .ok (.putfield i, 3)) (pc' : Nat) (hp : pc + 3 = pc') (G : ∀ T' h', Stand p l e R s m args below meth c T' (locs ++ [⟨a, Jvm.RoadKit.slotOf Z O n d⟩]) cells slots → T'.heap = h' → Wr h h' a (Jvm.RoadKit.slotOf Z O n d) v → Go p e below P T' (mkF m pc' Ls st)) : Go p e below P T (mkF m pc Ls (v :: .ref a :: st)) := by
  subst hp
  obtain ⟨T', h', X', e', W, k⟩ := putF X hx hZ hown w via eT F E L wi hty hn hf (g := mkF m pc Ls (v :: .ref a :: st)) rfl rfl hd
  exact (G T' h' X' e' W).stp k
theorem g_initO (X : Stand p l e R s m args below meth c T locs cells slots) (hx : p.tables.exec = Jvm.exec) (hZ : Z.Warmed39 s.vm) {own : String} (hown : s.vm.findClass own = some m.cls) {i : Nat} (w1 : (Cond.methodLink own i Lib.objectInit).before a0 Z = true) (w2 : (Cond.instanceMethod Lib.objectInit).before a0 Z = true) (w3 : (Cond.code Lib.objectInit ⟨#[0xb1]⟩ 1 none).before a0 Z = true) (eT : T.heap = h) (hsz : Ls.size = c.maxLocals) {a : Addr} (hd : decode c.code pc = .ok (.invokespecial i, 3)) (hf : 1 ≤ R.frames) (W : Nat) (hW : (st.map fun v => v.category).sum ≤ W) (hl : W + 12 ≤ R.locals) (pc' : Nat) (hp : pc + 3 = pc') (G : ∀ T', Stand p l e R s m args below meth c T' locs cells slots → T'.heap = h → Go p e below P T' (mkF m pc' Ls st)) : Go p e below P T (mkF m pc Ls (.ref a :: st)) := by
  subst hp
  obtain ⟨T', X', e', k⟩ := initO X hx hZ hown w1 w2 w3 eT (g := mkF m pc Ls (.ref a :: st)) rfl hsz rfl hd hf (W := W) (by show 2 * 0 + _ ≤ W; omega) hl
  exact (G T' X' e').stp k
theorem g_new (X : Stand p l e R s m args below meth c T locs cells slots) (hx : p.tables.exec = Jvm.exec) (hZ : Z.Warmed39 s.vm) {own : String} (hown : s.vm.findClass own = some m.cls) {C : String} {i n : Nat} (w : (Cond.classLink own i C).before a0 Z = true) (wi : (Cond.instantiable C n).before a0 Z = true) (wz : (Cond.initialized C).before a0 Z = true) (eT : T.heap = h) (hd : decode c.code pc = .ok (.new i, 3)) (hc : cells + 1 ≤ R.cells) (hl : slots + n ≤ R.slots) (pc' : Nat) (hp : pc + 3 = pc') (G : ∀ T' h' b, Stand p l e R s m args below meth c T' locs (cells + 1) (slots + n) → T'.heap = h' → b = h.size → Ext h h' → Exa Z h' b C → (∀ {O nm d : String} {ty : FieldType}, Laid Z a0 C O nm d → parseFieldDescriptor d = some ty → Fld Z h' b O nm d (defaultValue ty)) → Go p e below P T' (mkF m pc' Ls (.ref b :: st))) : Go p e below P T (mkF m pc Ls st) := by
  subst hp
  obtain ⟨T', h', X', e', E, A, D, -, k⟩ := newO X hx hZ hown w wi wz eT (g := mkF m pc Ls st) rfl hd hc hl
  exact (G T' h' h.size X' e' rfl E A D).stp k
/-- the array at a: of that kind, holding just these values -/
def AV (Z : State) (h : Heap) (a : Addr) (ty : FieldType) (vs : List Value) : Prop := ∃ c : Cell, Arr Z h a c ty ∧ c.slots = vs.toArray ∧ vs.length < 2 ^ 31
theorem AV.lt {a : Addr} {ty : FieldType} {vs : List Value} (F : AV Z h a ty vs) : a < h.size := by obtain ⟨c, A, -⟩ := F; exact A.lt
theorem AV.ext {h' : Heap} {a : Addr} {ty : FieldType} {vs : List Value} (F : AV Z h a ty vs) (E : Ext h h') : AV Z h' a ty vs := by obtain ⟨c, A, r⟩ := F; exact ⟨c, A.ext E, r⟩
theorem AV.other {h' : Heap} {a b : Addr} {sl : Nat} {v : Value} {ty : FieldType} {vs : List Value} (F : AV Z h b ty vs) (W : Wr h h' a sl v) (q : b ≠ a) : AV Z h' b ty vs := by obtain ⟨c, A, r⟩ := F; exact ⟨c, A.other W q, r⟩
theorem AV.keep {h' : Heap} {a : Addr} {ws : List Addr} {ty : FieldType} {vs : List Value} (F : AV Z h a ty vs) (K : Keep h h' ws) (q : a ∉ ws) : AV Z h' a ty vs := by obtain ⟨c, A, r⟩ := F; exact ⟨c, ⟨K.2.1 a c A.1 q, A.2⟩, r⟩
theorem AV.same {h' : Heap} {a : Addr} {sl : Nat} {v : Value} {ty : FieldType} {vs : List Value} (F : AV Z h a ty vs) (W : Wr h h' a sl v) : AV Z h' a ty (vs.set sl v) := by
  obtain ⟨c, A, r1, r2⟩ := F
  exact ⟨_, A.same W, by simp [Cell.setSlot, r1], by simpa using r2⟩
theorem AV.new {a : Addr} {k : ClassId} {ty : FieldType} {n : Int32} (A : Arr Z h a (newA k ty n) ty) (vs : List Value) (q : vs = List.replicate n.toNatClampNeg (defaultValue ty)) (q2 : n.toNatClampNeg < 2 ^ 31) : AV Z h a ty vs := ⟨_, A, by subst q; simp [newA], by subst q; simpa using q2⟩
theorem AV.nostat {a : Addr} {ty : FieldType} {vs : List Value} (F : AV Z h a ty vs) : ∀ cell : Cell, h[a]? = some cell → cell.vm.isStatics = false := by obtain ⟨c, A, -⟩ := F; exact A.nostat
theorem in_of {vs : List Value} {c : Cell} {j : Int32} {v : Value} (r : c.slots = vs.toArray) (hj : ¬ j < 0) (hv : vs[j.toNatClampNeg]? = some v) : ¬ (j < 0 ∨ c.slots.size ≤ j.toNatClampNeg) := by
  have q := (List.getElem?_eq_some_iff.mp hv).1
  intro u
  rcases u with u | u
  · exact hj u
  · rw [r] at u; simp at u; omega
theorem g_iaload (X : Stand p l e R s m args below meth c T locs cells slots) (hx : p.tables.exec = Jvm.exec) (hZ : Z.Warmed39 s.vm) (eT : T.heap = h) {a : Addr} {vs : List Value} {j : Int32} {v : Value} (A : AV Z h a .int vs) (hj : ¬ j < 0) (hv : vs[j.toNatClampNeg]? = some v) (hd : decode c.code pc = .ok (.iaload, 1)) (pc' : Nat) (hp : pc + 1 = pc') (G : Go p e below P T (mkF m pc' Ls (v :: st))) : Go p e below P T (mkF m pc Ls (.int j :: .ref a :: st)) := by
  subst hp
  obtain ⟨cl, A, r1, r2⟩ := A
  exact G.stp fun _ k => X.iaload hx (j := j) (v := v) (by rw [eT]; exact A.1) (State.isArrayOf_alike hZ.alike A.2.1) A.2.2 (in_of r1 hj hv) (by rw [r1]; simpa using hv) (g := mkF m pc Ls (.int j :: .ref a :: st)) rfl rfl hd _ k
theorem g_caload (X : Stand p l e R s m args below meth c T locs cells slots) (hx : p.tables.exec = Jvm.exec) (hZ : Z.Warmed39 s.vm) (eT : T.heap = h) {a : Addr} {vs : List Value} {j : Int32} {v : Value} (A : AV Z h a .char vs) (hj : ¬ j < 0) (hv : vs[j.toNatClampNeg]? = some v) (hd : decode c.code pc = .ok (.caload, 1)) (pc' : Nat) (hp : pc + 1 = pc') (G : Go p e below P T (mkF m pc' Ls (v :: st))) : Go p e below P T (mkF m pc Ls (.int j :: .ref a :: st)) := by
  subst hp
  obtain ⟨cl, A, r1, r2⟩ := A
  exact G.stp fun _ k => X.caload hx (j := j) (v := v) (by rw [eT]; exact A.1) (State.isArrayOf_alike hZ.alike A.2.1) A.2.2 (in_of r1 hj hv) (by rw [r1]; simpa using hv) (g := mkF m pc Ls (.int j :: .ref a :: st)) rfl rfl hd _ k
theorem g_baload (X : Stand p l e R s m args below meth c T locs cells slots) (hx : p.tables.exec = Jvm.exec) (hZ : Z.Warmed39 s.vm) (eT : T.heap = h) {a : Addr} {vs : List Value} {j : Int32} {v : Value} (A : AV Z h a .byte vs) (hj : ¬ j < 0) (hv : vs[j.toNatClampNeg]? = some v) (hd : decode c.code pc = .ok (.baload, 1)) (pc' : Nat) (hp : pc + 1 = pc') (G : Go p e below P T (mkF m pc' Ls (v :: st))) : Go p e below P T (mkF m pc Ls (.int j :: .ref a :: st)) := by
  subst hp
  obtain ⟨cl, A, r1, r2⟩ := A
  exact G.stp fun _ k => X.baloadBytes hx (j := j) (v := v) (by rw [eT]; exact A.1) (State.isArrayOf_alike hZ.alike A.2.1) A.2.2 (in_of r1 hj hv) (by rw [r1]; simpa using hv) (g := mkF m pc Ls (.int j :: .ref a :: st)) rfl rfl hd _ k
theorem g_aaload (X : Stand p l e R s m args below meth c T locs cells slots) (hx : p.tables.exec = Jvm.exec) (hZ : Z.Warmed39 s.vm) (eT : T.heap = h) {a : Addr} {ty : FieldType} {vs : List Value} {j : Int32} {v : Value} (A : AV Z h a ty vs) (hty : ty.isReference = true) (hj : ¬ j < 0) (hv : vs[j.toNatClampNeg]? = some v) (hd : decode c.code pc = .ok (.aaload, 1)) (pc' : Nat) (hp : pc + 1 = pc') (G : Go p e below P T (mkF m pc' Ls (v :: st))) : Go p e below P T (mkF m pc Ls (.int j :: .ref a :: st)) := by
  subst hp
  obtain ⟨cl, A, r1, r2⟩ := A
  exact G.stp fun _ k => X.aaload hx (j := j) (v := v) (by rw [eT]; exact A.1) (State.isArrayOf_alike hZ.alike A.2.1) hty A.2.2 (in_of r1 hj hv) (by rw [r1]; simpa using hv) (g := mkF m pc Ls (.int j :: .ref a :: st)) rfl rfl hd _ k
theorem g_arraylength (X : Stand p l e R s m args below meth c T locs cells slots) (hx : p.tables.exec = Jvm.exec) (hZ : Z.Warmed39 s.vm) (eT : T.heap = h) {a : Addr} {ty : FieldType} {vs : List Value} (A : AV Z h a ty vs) (n : Int32) (hn : Int32.ofNat vs.length = n) (hd : decode c.code pc = .ok (.arraylength, 1)) (pc' : Nat) (hp : pc + 1 = pc') (G : Go p e below P T (mkF m pc' Ls (.int n :: st))) : Go p e below P T (mkF m pc Ls (.ref a :: st)) := by
  subst hp
  obtain ⟨cl, A, r1, r2⟩ := A
  have q : cl.slots.size.toInt32 = n := by rw [r1, ← hn]; simp
  rw [← q] at G
  exact G.stp fun _ k => X.arraylength hx (cell := cl) (by rw [eT]; exact A.1) (State.isArrayOf_alike hZ.alike A.2.1) (g := mkF m pc Ls (.ref a :: st)) rfl rfl hd _ k
theorem g_iastore (X : Stand p l e R s m args below meth c T locs cells slots) (hx : p.tables.exec = Jvm.exec) (hZ : Z.Warmed39 s.vm) (eT : T.heap = h) {a : Addr} {vs : List Value} {j x : Int32} (A : AV Z h a .int vs) (hj : ¬ j < 0) (hi : j.toNatClampNeg < vs.length) (hd : decode c.code pc = .ok (.iastore, 1)) (pc' : Nat) (hp : pc + 1 = pc') (G : ∀ T' h', Stand p l e R s m args below meth c T' (locs ++ [⟨a, j.toNatClampNeg⟩]) cells slots → T'.heap = h' → Wr h h' a j.toNatClampNeg (.int x) → AV Z h' a .int (vs.set j.toNatClampNeg (.int x)) → Go p e below P T' (mkF m pc' Ls st)) : Go p e below P T (mkF m pc Ls (.int x :: .int j :: .ref a :: st)) := by
  subst hp
  have A0 := A
  obtain ⟨cl, A, r1, r2⟩ := A
  obtain ⟨T', h', X', e', W, k⟩ := stI X hx hZ eT A (j := j) (x := x) (in_of r1 hj (List.getElem?_eq_getElem hi)) (g := mkF m pc Ls (.int x :: .int j :: .ref a :: st)) rfl rfl hd
  exact (G T' h' X' e' W (A0.same W)).stp k
theorem g_castore (X : Stand p l e R s m args below meth c T locs cells slots) (hx : p.tables.exec = Jvm.exec) (hZ : Z.Warmed39 s.vm) (eT : T.heap = h) {a : Addr} {vs : List Value} {j x : Int32} (A : AV Z h a .char vs) (hj : ¬ j < 0) (hi : j.toNatClampNeg < vs.length) (hd : decode c.code pc = .ok (.castore, 1)) (pc' : Nat) (hp : pc + 1 = pc') (G : ∀ T' h', Stand p l e R s m args below meth c T' (locs ++ [⟨a, j.toNatClampNeg⟩]) cells slots → T'.heap = h' → Wr h h' a j.toNatClampNeg (.int (nar .char x)) → AV Z h' a .char (vs.set j.toNatClampNeg (.int (nar .char x))) → Go p e below P T' (mkF m pc' Ls st)) : Go p e below P T (mkF m pc Ls (.int x :: .int j :: .ref a :: st)) := by
  subst hp
  have A0 := A
  obtain ⟨cl, A, r1, r2⟩ := A
  obtain ⟨T', h', X', e', W, k⟩ := stC X hx hZ eT A (j := j) (x := x) (in_of r1 hj (List.getElem?_eq_getElem hi)) (g := mkF m pc Ls (.int x :: .int j :: .ref a :: st)) rfl rfl hd
  exact (G T' h' X' e' W (A0.same W)).stp k
theorem g_bastore (X : Stand p l e R s m args below meth c T locs cells slots) (hx : p.tables.exec = Jvm.exec) (hZ : Z.Warmed39 s.vm) (eT : T.heap = h) {a : Addr} {vs : List Value} {j x : Int32} (A : AV Z h a .byte vs) (hj : ¬ j < 0) (hi : j.toNatClampNeg < vs.length) (hd : decode c.code pc = .ok (.bastore, 1)) (pc' : Nat) (hp : pc + 1 = pc') (G : ∀ T' h', Stand p l e R s m args below meth c T' (locs ++ [⟨a, j.toNatClampNeg⟩]) cells slots → T'.heap = h' → Wr h h' a j.toNatClampNeg (.int (nar .byte x)) → AV Z h' a .byte (vs.set j.toNatClampNeg (.int (nar .byte x))) → Go p e below P T' (mkF m pc' Ls st)) : Go p e below P T (mkF m pc Ls (.int x :: .int j :: .ref a :: st)) := by
  subst hp
  have A0 := A
  obtain ⟨cl, A, r1, r2⟩ := A
  obtain ⟨T', h', X', e', W, k⟩ := stB X hx hZ eT A (j := j) (x := x) (in_of r1 hj (List.getElem?_eq_getElem hi)) (g := mkF m pc Ls (.int x :: .int j :: .ref a :: st)) rfl rfl hd
  exact (G T' h' X' e' W (A0.same W)).stp k
theorem g_newarray (X : Stand p l e R s m args below meth c T locs cells slots) (hx : p.tables.exec = Jvm.exec) (hZ : Z.Warmed39 s.vm) {aty : ArrayType} (w : (Cond.arrayClass (newarray.typeOf aty)).before a0 Z = true) (eT : T.heap = h) {n : Int32} (hn : ¬ n < 0) (cap : Nat) (hcap : n.toNatClampNeg ≤ cap) (hb : cap * 8 ≤ 536870912) (hc : cells + 1 ≤ R.cells) (hl : slots + cap ≤ R.slots) (vs : List Value) (hvs : vs = List.replicate n.toNatClampNeg (defaultValue (newarray.typeOf aty))) (hd : decode c.code pc = .ok (.newarray aty, 2)) (pc' : Nat) (hp : pc + 2 = pc') (G : ∀ T' h' b, Stand p l e R s m args below meth c T' locs (cells + 1) (slots + cap) → T'.heap = h' → b = h.size → Ext h h' → AV Z h' b (newarray.typeOf aty) vs → Go p e below P T' (mkF m pc' Ls (.ref b :: st))) : Go p e below P T (mkF m pc Ls (.int n :: st)) := by
  subst hp
  obtain ⟨T', h', cA, X', e', E, A, k⟩ := newP X hx hZ w eT (g := mkF m pc Ls (.int n :: st)) rfl hd rfl hn hcap hb hc hl
  exact (G T' h' h.size X' e' rfl E (AV.new A vs hvs (by omega))).stp k
theorem g_checkcast (X : Stand p l e R s m args below meth c T locs cells slots) (hx : p.tables.exec = Jvm.exec) (hZ : Z.Warmed39 s.vm) {own : String} (hown : s.vm.findClass own = some m.cls) {K : String} {i : Nat} (w : (Cond.classLink own i K).before a0 Z = true) {a : Addr} (F : Ins Z h a K true) (eT : T.heap = h) (hd : decode c.code pc = .ok (.checkcast i, 3)) (pc' : Nat) (hp : pc + 3 = pc') (G : ∀ T', Stand p l e R s m args below meth c T' locs cells slots → T'.heap = h → Go p e below P T' (mkF m pc' Ls (.ref a :: st))) : Go p e below P T (mkF m pc Ls (.ref a :: st)) := by
  subst hp
  obtain ⟨T', X', e', k⟩ := castY X hx hZ hown w eT F (g := mkF m pc Ls (.ref a :: st)) rfl rfl hd
  exact (G T' X' e').stp k
theorem g_instYes (X : Stand p l e R s m args below meth c T locs cells slots) (hx : p.tables.exec = Jvm.exec) (hZ : Z.Warmed39 s.vm) {own : String} (hown : s.vm.findClass own = some m.cls) {K : String} {i : Nat} (w : (Cond.classLink own i K).before a0 Z = true) {a : Addr} (F : Ins Z h a K true) (eT : T.heap = h) (hd : decode c.code pc = .ok (.instanceof i, 3)) (pc' : Nat) (hp : pc + 3 = pc') (G : ∀ T', Stand p l e R s m args below meth c T' locs cells slots → T'.heap = h → Go p e below P T' (mkF m pc' Ls (.int 1 :: st))) : Go p e below P T (mkF m pc Ls (.ref a :: st)) := by
  subst hp
  obtain ⟨T', X', e', k⟩ := instY X hx hZ hown w eT F (g := mkF m pc Ls (.ref a :: st)) rfl rfl hd
  exact (G T' X' e').stp k
theorem g_instNo (X : Stand p l e R s m args below meth c T locs cells slots) (hx : p.tables.exec = Jvm.exec) (hZ : Z.Warmed39 s.vm) {own : String} (hown : s.vm.findClass own = some m.cls) {K C : String} {i : Nat} (w : (Cond.classLink own i K).before a0 Z = true) {a : Addr} (E : Exa Z h a C) (F : ∃ c t, Z.vm.findClass C = some c ∧ Z.vm.findClass K = some t ∧ Z.vm.assignable c t = false) (eT : T.heap = h) (hd : decode c.code pc = .ok (.instanceof i, 3)) (pc' : Nat) (hp : pc + 3 = pc') (G : ∀ T', Stand p l e R s m args below meth c T' locs cells slots → T'.heap = h → Go p e below P T' (mkF m pc' Ls (.int 0 :: st))) : Go p e below P T (mkF m pc Ls (.ref a :: st)) := by
  subst hp
  obtain ⟨T', X', e', k⟩ := instNo X hx hZ hown w eT E F (g := mkF m pc Ls (.ref a :: st)) rfl rfl hd
  exact (G T' X' e').stp k
theorem g_instNull (X : Stand p l e R s m args below meth c T locs cells slots) (hx : p.tables.exec = Jvm.exec) {i : Nat} (hd : decode c.code pc = .ok (.instanceof i, 3)) (pc' : Nat) (hp : pc + 3 = pc') (G : Go p e below P T (mkF m pc' Ls (.int 0 :: st))) : Go p e below P T (mkF m pc Ls (.null :: st)) := by
  subst hp
  exact G.stp fun _ h => X.instanceofNull hx (g := mkF m pc Ls (.null :: st)) rfl rfl hd _ h
theorem g_aastore (X : Stand p l e R s m args below meth c T locs cells slots) (hx : p.tables.exec = Jvm.exec) (hZ : Z.Warmed39 s.vm) (eT : T.heap = h) {a : Addr} {ty : FieldType} {vs : List Value} {j : Int32} {x : Value} (A : AV Z h a ty vs) (hty : ty.isReference = true) (F : Sto Z h a x) (hj : ¬ j < 0) (hi : j.toNatClampNeg < vs.length) (hd : decode c.code pc = .ok (.aastore, 1)) (pc' : Nat) (hp : pc + 1 = pc') (G : ∀ T' h', Stand p l e R s m args below meth c T' (locs ++ [⟨a, j.toNatClampNeg⟩]) cells slots → T'.heap = h' → Wr h h' a j.toNatClampNeg x → AV Z h' a ty (vs.set j.toNatClampNeg x) → Go p e below P T' (mkF m pc' Ls st)) : Go p e below P T (mkF m pc Ls (x :: .int j :: .ref a :: st)) := by
  subst hp
  have A0 := A
  obtain ⟨cl, A, r1, r2⟩ := A
  obtain ⟨T', h', X', e', W, k⟩ := stR X hx hZ eT A (j := j) (v := x) (in_of r1 hj (List.getElem?_eq_getElem hi)) hty F (g := mkF m pc Ls (x :: .int j :: .ref a :: st)) rfl rfl hd
  exact (G T' h' X' e' W (A0.same W)).stp k
/-- what may lie in the array at a: objects of C -/
def Ov (Z : State) (h : Heap) (a : Addr) (C : String) : Prop := ∃ c : Cell, h[a]? = some c ∧ Ovr Z c.cls C
theorem Ov.keep {h' : Heap} {a : Addr} {ws : List Addr} {C : String} (F : Ov Z h a C) (K : Keep h h' ws) : Ov Z h' a C := by obtain ⟨c, h1, o⟩ := F; obtain ⟨c', h2, e, -⟩ := K.2.2 a c h1; exact ⟨c', h2, by rw [e]; exact o⟩
theorem Ov.ext {h' : Heap} {a : Addr} {C : String} (F : Ov Z h a C) (E : Ext h h') : Ov Z h' a C := by obtain ⟨c, h1, o⟩ := F; exact ⟨c, E.2 _ _ h1, o⟩
theorem Ov.wr {h' : Heap} {a b : Addr} {sl : Nat} {v : Value} {C : String} (F : Ov Z h a C) (W : Wr h h' b sl v) : Ov Z h' a C := by obtain ⟨c, h1, o⟩ := F; obtain ⟨c', h2, e, -⟩ := wr_at W h1; exact ⟨c', h2, by rw [e]; exact o⟩
theorem Ov.lt {a : Addr} {C : String} (F : Ov Z h a C) : a < h.size := by obtain ⟨c, h1, -⟩ := F; exact (Array.getElem?_eq_some_iff.mp h1).1
theorem Ov.sto {a y : Addr} {C : String} {ty : FieldType} {vs : List Value} (F : Ov Z h a C) (A : AV Z h a ty vs) (I : Ins Z h y C true) : Sto Z h a (.ref y) := by
  obtain ⟨c, h1, o⟩ := F
  obtain ⟨c', A', -⟩ := A
  cases h1.symm.trans A'.1
  exact Sto.of A' o I
theorem g_anewarray (X : Stand p l e R s m args below meth c T locs cells slots) (hx : p.tables.exec = Jvm.exec) (hZ : Z.Warmed39 s.vm) {own : String} (hown : s.vm.findClass own = some m.cls) {C : String} {i : Nat} (w1 : (Cond.classLink own i C).before a0 Z = true) (w2 : (Cond.arrayOver (.object C)).before a0 Z = true) (eT : T.heap = h) {n : Int32} (hn : ¬ n < 0) (cap : Nat) (hcap : n.toNatClampNeg ≤ cap) (hb : cap * 8 ≤ 536870912) (hc : cells + 1 ≤ R.cells) (hl : slots + cap ≤ R.slots) (vs : List Value) (hvs : vs = List.replicate n.toNatClampNeg .null) (hd : decode c.code pc = .ok (.anewarray i, 3)) (pc' : Nat) (hp : pc + 3 = pc') (G : ∀ T' h' b, Stand p l e R s m args below meth c T' locs (cells + 1) (slots + cap) → T'.heap = h' → b = h.size → Ext h h' → AV Z h' b (.object C) vs → Ov Z h' b C → Go p e below P T' (mkF m pc' Ls (.ref b :: st))) : Go p e below P T (mkF m pc Ls (.int n :: st)) := by
  subst hp
  obtain ⟨T', h', cA, X', e', E, A, O, k⟩ := newR X hx hZ hown w1 w2 eT (g := mkF m pc Ls (.int n :: st)) rfl hd rfl hn hcap hb hc hl
  exact (G T' h' h.size X' e' rfl E (AV.new A vs hvs (by omega)) ⟨_, A.1, O⟩).stp k
theorem g_reti (X : Stand p l e R s m args below meth c T locs cells slots) (hx : p.tables.exec = Jvm.exec) {z : Int32} (hret : meth.sig.returnType = some .int) (hlk : meth.locks = false) {k n : Nat} {Q : Option Value → Heap → List Loc → Prop} (hk : cells ≤ k) (hn : slots ≤ n) (hd : decode c.code pc = .ok (.ireturn, 1)) (hq : Q (some (.int z)) T.heap locs) : Go p e below (RP s k n Q) T (mkF m pc Ls (.int z :: st)) := by
  obtain ⟨fs, hr, hrun, hended, hW, hsame⟩ := X.leave (v := (some (.int z))) (fun h => by first | rfl | (rw [hret] at h; cases h)) hlk
  exact ⟨_, _, retOut X hx hret rfl (Or.inl ⟨rfl, Or.inl rfl, z, rfl⟩) hd hr, hrun, hended, _, _, rfl, hq, ⟨_, rfl⟩, hW, hsame.mono hk hn⟩
theorem g_retz (X : Stand p l e R s m args below meth c T locs cells slots) (hx : p.tables.exec = Jvm.exec) {z : Int32} (hret : meth.sig.returnType = some .boolean) (hlk : meth.locks = false) {k n : Nat} {Q : Option Value → Heap → List Loc → Prop} (hk : cells ≤ k) (hn : slots ≤ n) (hd : decode c.code pc = .ok (.ireturn, 1)) (hq : Q (some (.int (z &&& 1))) T.heap locs) : Go p e below (RP s k n Q) T (mkF m pc Ls (.int z :: st)) := by
  obtain ⟨fs, hr, hrun, hended, hW, hsame⟩ := X.leave (v := (some (.int (z &&& 1)))) (fun h => by first | rfl | (rw [hret] at h; cases h)) hlk
  exact ⟨_, _, retN X hx (t := .boolean) hret (by simp) hd hr, hrun, hended, _, _, rfl, hq, ⟨_, rfl⟩, hW, hsame.mono hk hn⟩
theorem g_retb (X : Stand p l e R s m args below meth c T locs cells slots) (hx : p.tables.exec = Jvm.exec) {z : Int32} (hret : meth.sig.returnType = some .byte) (hlk : meth.locks = false) {k n : Nat} {Q : Option Value → Heap → List Loc → Prop} (hk : cells ≤ k) (hn : slots ≤ n) (hd : decode c.code pc = .ok (.ireturn, 1)) (hq : Q (some (.int z.toInt8.toInt32)) T.heap locs) : Go p e below (RP s k n Q) T (mkF m pc Ls (.int z :: st)) := by
  obtain ⟨fs, hr, hrun, hended, hW, hsame⟩ := X.leave (v := (some (.int z.toInt8.toInt32))) (fun h => by first | rfl | (rw [hret] at h; cases h)) hlk
  exact ⟨_, _, retN X hx (t := .byte) hret (by simp) hd hr, hrun, hended, _, _, rfl, hq, ⟨_, rfl⟩, hW, hsame.mono hk hn⟩
theorem g_retl (X : Stand p l e R s m args below meth c T locs cells slots) (hx : p.tables.exec = Jvm.exec) {z : Int64} (hret : meth.sig.returnType = some .long) (hlk : meth.locks = false) {k n : Nat} {Q : Option Value → Heap → List Loc → Prop} (hk : cells ≤ k) (hn : slots ≤ n) (hd : decode c.code pc = .ok (.lreturn, 1)) (hq : Q (some (.long z)) T.heap locs) : Go p e below (RP s k n Q) T (mkF m pc Ls (.long z :: st)) := by
  obtain ⟨fs, hr, hrun, hended, hW, hsame⟩ := X.leave (v := (some (.long z))) (fun h => by first | rfl | (rw [hret] at h; cases h)) hlk
  exact ⟨_, _, retOut X hx hret rfl (Or.inr (Or.inl ⟨rfl, rfl, z, rfl⟩)) hd hr, hrun, hended, _, _, rfl, hq, ⟨_, rfl⟩, hW, hsame.mono hk hn⟩
theorem g_reta (X : Stand p l e R s m args below meth c T locs cells slots) (hx : p.tables.exec = Jvm.exec) {v : Value} {t : FieldType} (hv : v.isRef = true) (ht : t.isReference = true) (hret : meth.sig.returnType = some t) (hlk : meth.locks = false) {k n : Nat} {Q : Option Value → Heap → List Loc → Prop} (hk : cells ≤ k) (hn : slots ≤ n) (hd : decode c.code pc = .ok (.areturn, 1)) (hq : Q (some v) T.heap locs) : Go p e below (RP s k n Q) T (mkF m pc Ls (v :: st)) := by
  obtain ⟨fs, hr, hrun, hended, hW, hsame⟩ := X.leave (v := (some v)) (fun h => by first | rfl | (rw [hret] at h; cases h)) hlk
  exact ⟨_, _, retOut X hx hret (by cases t <;> first | (cases ht; done) | rfl) (Or.inr (Or.inr (Or.inr (Or.inr ⟨rfl, ht, hv⟩)))) hd hr, hrun, hended, _, _, rfl, hq, ⟨_, rfl⟩, hW, hsame.mono hk hn⟩
theorem g_retv (X : Stand p l e R s m args below meth c T locs cells slots) (hx : p.tables.exec = Jvm.exec) (hret : meth.sig.returnType = none) (hlk : meth.locks = false) {k n : Nat} {Q : Option Value → Heap → List Loc → Prop} (hk : cells ≤ k) (hn : slots ≤ n) (hd : decode c.code pc = .ok (.return_, 1)) (hq : Q none T.heap locs) : Go p e below (RP s k n Q) T (mkF m pc Ls []) := by
  obtain ⟨fs, hr, hrun, hended, hW, hsame⟩ := X.leave (v := none) (fun _ => rfl) hlk
  exact ⟨_, _, X.returnOut hx hret hd hr, hrun, hended, _, _, rfl, hq, ⟨_, rfl⟩, hW, hsame.mono hk hn⟩
/-- what a method does, called with these arguments over this heap -/
def Co (l : Launch) (y : MethodName) (bytes : ByteArray) (maxL : Nat) (ret : Option FieldType) (ws : List Jvm.Cond) (rm : Room) (Z : State) (h : Heap) (as : Array Value) (Q : Option Value → Heap → List Loc → Prop) : Prop := MetFree l y (head1 (Jvm.Cond.code y bytes maxL ret :: ws) rm) (fun a U => a = as ∧ Z.Warmed39 U.vm ∧ U.heap = h) (fun _ _ _ _ _ => True) (fun _ U o U' => ∃ v L, o = .returned v ∧ Q v U'.heap L ∧ FrameEnd U o U' L rm.cells rm.slots)
theorem Co.of {y : MethodName} {bytes : ByteArray} {maxL : Nat} {ret : Option FieldType} {ws : List Jvm.Cond} {rm : Room} {as : Array Value} {Q : Option Value → Heap → List Loc → Prop} (hpl : plainFor y = true) (body : ∀ (p : Program) (e : Env) (s : State) (m : MethodId) (below : List Frame) (meth : Method) (c : Code) (T : State), Stand p l e rm s m as below meth c T [] 0 0 → p.tables.exec = Jvm.exec → c.code = bytes → c.maxLocals = maxL → s.vm.findClass y.cls = some m.cls → meth.name = y.name → meth.sig.returnType = ret → meth.locks = false → Z.Warmed39 s.vm → T.heap = h → Go p e below (RP s rm.cells rm.slots Q) T (entryFrame m as maxL)) : Co l y bytes maxL ret ws rm Z h as Q := by
  refine MetFree.of_bodySF hpl hisR ?_
  intro p e s m args below meth c s₁ Bd hml hP hK
  obtain ⟨rfl, hZ, hh⟩ := hP
  exact body p e s m below meth c s₁ (Stand.of_body Bd) Bd.exec Bd.bytes hml (findClass_of_methodNamed Bd.named) (name_of_methodNamed Bd.named Bd.method).1 Bd.returns (BodyLoose.notSynchronized Bd) hZ (by rw [← hh, Bd.state]; rfl)
theorem g_callS (X : Stand p l e R s m args below meth c T locs cells slots) (hx : p.tables.exec = Jvm.exec) (hZ : Z.Warmed39 s.vm) {own : String} (hown : s.vm.findClass own = some m.cls) {i : Nat} {y : MethodName} {bytes : ByteArray} {maxL : Nat} {ret : Option FieldType} (w1 : (Cond.methodLink own i y).before a0 Z = true) (w2 : (Cond.static y).before a0 Z = true) (w3 : (Cond.initialized y.cls).before a0 Z = true) (w4 : (Cond.code y bytes maxL ret).before a0 Z = true)  (hy : y.cls ≠ "java/lang/invoke/MethodHandle" ∧ y.cls ≠ "java/lang/invoke/VarHandle") (eT : T.heap = h) {rm : Room} {Q : Option Value → Heap → List Loc → Prop} {St : List Value} (argsL rest : List Value) (hs : St = argsL.reverse ++ rest) (M : Co l y bytes maxL ret [] rm Z h argsL.toArray Q) (hlen : ∀ sig, parseMethodDescriptor y.desc = some sig → argsL.length = sig.parameters.length) (W : Nat) (hW : (rest.map fun v => v.category).sum ≤ W) (hf : rm.frames + 1 ≤ R.frames) (hl : W + (maxL + 11) + rm.locals ≤ R.locals) (hc : cells + rm.cells ≤ R.cells) (hsl : slots + rm.slots ≤ R.slots) (hsz : Ls.size = c.maxLocals) (hd : decode c.code pc = .ok (.invokestatic i, 3)) (pc' : Nat) (hp : pc + 3 = pc') (G : ∀ v T' L, Stand p l e R s m args below meth c T' (locs ++ L) (cells + rm.cells) (slots + rm.slots) → Q v T'.heap L → Go p e below P T' (mkF m pc' Ls (v.toList ++ rest))) : Go p e below P T (mkF m pc Ls St) := by
  subst hp
  obtain ⟨v, vm1, ⟨T', L', k', n'⟩, -, X', ⟨L, hQ, h1, h2, h3⟩, k⟩ := Jvm.LawKit.callS X hx (y := y) hown (mvT hZ w1) (mvT hZ w2) (mvT hZ w3) (mvT hZ w4) hy (backOf (W := W) M hZ w4 w3 hf hl) (g := mkF m pc Ls St) rfl hsz (argsL := argsL) (rest := rest) hlen hs (by show 2 * 0 + _ ≤ W; omega) hd (fun _ _ => ⟨rfl, eT, hc, hsl⟩)
  dsimp only [Pt.U, Pt.locs, Pt.cells, Pt.slots] at X' h1 h2 h3 k hQ
  subst h1 h2 h3
  exact (G v T' L X' hQ).stp k
theorem g_init (X : Stand p l e R s m args below meth c T locs cells slots) (hx : p.tables.exec = Jvm.exec) (hZ : Z.Warmed39 s.vm) {own : String} (hown : s.vm.findClass own = some m.cls) {i : Nat} {y : MethodName} {bytes : ByteArray} {maxL : Nat} (w1 : (Cond.methodLink own i y).before a0 Z = true) (hnm : y.name = "<init>") (w2 : (Cond.instanceMethod y).before a0 Z = true) (w3 : (Cond.initialized y.cls).before a0 Z = true) (w4 : (Cond.code y bytes maxL none).before a0 Z = true)  (hy : y.cls ≠ "java/lang/invoke/MethodHandle" ∧ y.cls ≠ "java/lang/invoke/VarHandle") (eT : T.heap = h) {rm : Room} {Q : Option Value → Heap → List Loc → Prop} {St : List Value} (argsL rest : List Value) {a : Addr} (hs : St = argsL.reverse ++ .ref a :: rest) (M : Co l y bytes maxL none [] rm Z h (.ref a :: argsL).toArray Q) (hlen : ∀ sig, parseMethodDescriptor y.desc = some sig → argsL.length = sig.parameters.length) (W : Nat) (hW : (rest.map fun v => v.category).sum ≤ W) (hf : rm.frames + 1 ≤ R.frames) (hl : W + (maxL + 11) + rm.locals ≤ R.locals) (hc : cells + rm.cells ≤ R.cells) (hsl : slots + rm.slots ≤ R.slots) (hsz : Ls.size = c.maxLocals) (hd : decode c.code pc = .ok (.invokespecial i, 3)) (pc' : Nat) (hp : pc + 3 = pc') (G : ∀ v T' L, Stand p l e R s m args below meth c T' (locs ++ L) (cells + rm.cells) (slots + rm.slots) → Q v T'.heap L → Go p e below P T' (mkF m pc' Ls (v.toList ++ rest))) : Go p e below P T (mkF m pc Ls St) := by
  subst hp
  obtain ⟨v, vm1, ⟨T', L', k', n'⟩, -, X', ⟨L, hQ, h1, h2, h3⟩, k⟩ := X.specialBack hx (y := y) hnm hown (mvT hZ w1) (mvT hZ w2) (mvT hZ w4) hy (backOf (W := W) M hZ w4 w3 hf hl) (g := mkF m pc Ls St) rfl hsz (Steps.refl _) (a := a) (argsL := argsL) (rest := rest) hlen hs (by show 2 * 0 + _ ≤ W; omega) hd (fun _ _ => ⟨rfl, eT, hc, hsl⟩)
  dsimp only [Pt.U, Pt.locs, Pt.cells, Pt.slots] at X' h1 h2 h3 k hQ
  subst h1 h2 h3
  exact (G v T' L X' hQ).stp fun _ j => k.trans j
theorem g_callV (X : Stand p l e R s m args below meth c T locs cells slots) (hx : p.tables.exec = Jvm.exec) (hZ : Z.Warmed39 s.vm) {own : String} (hown : s.vm.findClass own = some m.cls) {i : Nat} {y : MethodName} {bytes : ByteArray} {maxL : Nat} {ret : Option FieldType} (w1 : (Cond.methodLink own i y).before a0 Z = true) {C : String} (w2 : (Cond.declares y).before a0 Z = true) (w5 : (Cond.selects C y y).before a0 Z = true) (w6 : (Cond.instanceMethod y).before a0 Z = true) (w3 : (Cond.initialized y.cls).before a0 Z = true) (w4 : (Cond.code y bytes maxL ret).before a0 Z = true)  (hy : y.cls ≠ "java/lang/invoke/MethodHandle" ∧ y.cls ≠ "java/lang/invoke/VarHandle") (eT : T.heap = h) {rm : Room} {Q : Option Value → Heap → List Loc → Prop} {St : List Value} (argsL rest : List Value) {a : Addr} (E : Exa Z h a C) (hs : St = argsL.reverse ++ .ref a :: rest) (M : Co l y bytes maxL ret [] rm Z h (.ref a :: argsL).toArray Q) (hlen : ∀ sig, parseMethodDescriptor y.desc = some sig → argsL.length = sig.parameters.length) (W : Nat) (hW : (rest.map fun v => v.category).sum ≤ W) (hf : rm.frames + 1 ≤ R.frames) (hl : W + (maxL + 11) + rm.locals ≤ R.locals) (hc : cells + rm.cells ≤ R.cells) (hsl : slots + rm.slots ≤ R.slots) (hsz : Ls.size = c.maxLocals) (hd : decode c.code pc = .ok (.invokevirtual i, 3)) (pc' : Nat) (hp : pc + 3 = pc') (G : ∀ v T' L, Stand p l e R s m args below meth c T' (locs ++ L) (cells + rm.cells) (slots + rm.slots) → Q v T'.heap L → Go p e below P T' (mkF m pc' Ls (v.toList ++ rest))) : Go p e below P T (mkF m pc Ls St) := by
  subst hp
  obtain ⟨cq, kq, qa, qb, qc⟩ := isOf hZ eT E
  obtain ⟨v, vm1, ⟨T', L', k', n'⟩, -, X', ⟨L, hQ, h1, h2, h3⟩, k⟩ := X.virtualBack hx (y := y) (z := y) hown (mvT hZ w1) (mvT hZ w2) (notFace_of_selects (args := #[]) (mvT hZ w5)) (mvT hZ w5) (mvT hZ w6) hy (backOf (W := W) M hZ w4 w3 hf hl) qa qc (g := mkF m pc Ls St) rfl hsz (Steps.refl _) (argsL := argsL) (rest := rest) hlen hs (by show 2 * 0 + _ ≤ W; omega) hd (fun _ _ => ⟨rfl, eT, hc, hsl⟩)
  dsimp only [Pt.U, Pt.locs, Pt.cells, Pt.slots] at X' h1 h2 h3 k hQ
  subst h1 h2 h3
  exact (G v T' L X' hQ).stp fun _ j => k.trans j
theorem g_callP (X : Stand p l e R s m args below meth c T locs cells slots) (hx : p.tables.exec = Jvm.exec) (hZ : Z.Warmed39 s.vm) {own : String} (hown : s.vm.findClass own = some m.cls) {i : Nat} {y : MethodName} {bytes : ByteArray} {maxL : Nat} {ret : Option FieldType} (w1 : (Cond.methodLink own i y).before a0 Z = true) {n : Nat} (w2 : (Cond.instanceMethod y).before a0 Z = true) (w5 : (Cond.privateMethod y).before a0 Z = true) (wi : (Cond.instantiable y.cls n).before a0 Z = true) (w3 : (Cond.initialized y.cls).before a0 Z = true) (w4 : (Cond.code y bytes maxL ret).before a0 Z = true)  (hy : y.cls ≠ "java/lang/invoke/MethodHandle" ∧ y.cls ≠ "java/lang/invoke/VarHandle") (eT : T.heap = h) {rm : Room} {Q : Option Value → Heap → List Loc → Prop} {St : List Value} (argsL rest : List Value) {a : Addr} (E : Exa Z h a y.cls) (hs : St = argsL.reverse ++ .ref a :: rest) (M : Co l y bytes maxL ret [] rm Z h (.ref a :: argsL).toArray Q) (hlen : ∀ sig, parseMethodDescriptor y.desc = some sig → argsL.length = sig.parameters.length) (W : Nat) (hW : (rest.map fun v => v.category).sum ≤ W) (hf : rm.frames + 1 ≤ R.frames) (hl : W + (maxL + 11) + rm.locals ≤ R.locals) (hc : cells + rm.cells ≤ R.cells) (hsl : slots + rm.slots ≤ R.slots) (hsz : Ls.size = c.maxLocals) (hd : decode c.code pc = .ok (.invokevirtual i, 3)) (pc' : Nat) (hp : pc + 3 = pc') (G : ∀ v T' L, Stand p l e R s m args below meth c T' (locs ++ L) (cells + rm.cells) (slots + rm.slots) → Q v T'.heap L → Go p e below P T' (mkF m pc' Ls (v.toList ++ rest))) : Go p e below P T (mkF m pc Ls St) := by
  subst hp
  obtain ⟨cl, q1, q2⟩ := E.cell
  have wi' : (Cond.instantiable y.cls n).before args s = true := mv hZ wi
  obtain ⟨ci, ki, i1, i2, i3, i4, -⟩ := Cond.instantiable_spec wi'
  have hpr : s.PrivateAt y := Cond.privateMethod_at (mvP hZ w5 (args := #[]))
  have hsel : (Cond.selects y.cls y y).before args s = true := selects_self_of_private i1 i2 (by simp only [Bool.or_eq_false_iff] at i4; exact i4.1) hpr (mv hZ w2) hy
  obtain ⟨v, vm1, ⟨T', L', k', n'⟩, -, X', ⟨L, hQ, h1, h2, h3⟩, k⟩ := X.privateBack hx (y := y) hown (mvT hZ w1) (mvT hZ w2) hsel hpr (mvT hZ w4) hy (backOf (W := W) M hZ w4 w3 hf hl) (g := mkF m pc Ls St) rfl hsz (Steps.refl _) (a := a) (by rw [eT]; exact q1) q2 (argsL := argsL) (rest := rest) hlen hs (by show 2 * 0 + _ ≤ W; omega) hd (fun _ _ => ⟨rfl, eT, hc, hsl⟩)
  dsimp only [Pt.U, Pt.locs, Pt.cells, Pt.slots] at X' h1 h2 h3 k hQ
  subst h1 h2 h3
  exact (G v T' L X' hQ).stp fun _ j => k.trans j
def Pu (h : Heap) (v : Option Value) (r : Option Value) (h' : Heap) (L : List Loc) : Prop := r = v ∧ h' = h ∧ L = []
theorem pu_cont {v : Option Value} {fr lo : Nat} {pc' : Nat} {rest : List Value} (G : ∀ T', Stand p l e R s m args below meth c T' locs cells slots → T'.heap = h → Go p e below P T' (mkF m pc' Ls (v.toList ++ rest))) : ∀ v' T' L, Stand p l e R s m args below meth c T' (locs ++ L) (cells + ({ frames := fr, cells := 0, slots := 0, locals := lo } : Room).cells) (slots + ({ frames := fr, cells := 0, slots := 0, locals := lo } : Room).slots) → Pu h v v' T'.heap L → Go p e below P T' (mkF m pc' Ls (v'.toList ++ rest)) := by
  rintro v' T' L X ⟨rfl, e1, rfl⟩
  exact G T' (by simpa using X) e1
theorem Go.joinT {α : Type} {g : JFrame} (X : Stand p l e R s m args below meth c T locs cells slots) (eT : T.heap = h) (f : α → JFrame) (Pz : α → Prop) (J : ∀ T', Stand p l e R s m args below meth c T' locs cells slots → T'.heap = h → ∀ z, Pz z → Go p e below P T' (f z)) (K : (∀ T', Stand p l e R s m args below meth c T' locs cells slots → T'.heap = h → ∀ z, Pz z → Go p e below P T' (f z)) → Go p e below P T g) : Go p e below P T g := K J
theorem Go.joinH {α : Type} {g : JFrame} (X : Stand p l e R s m args below meth c T locs cells slots) (f : α → JFrame) (Pz : Heap → List Loc → α → Prop) (kc kn : Nat) (J : ∀ T' h' locs', Stand p l e R s m args below meth c T' locs' kc kn → T'.heap = h' → ∀ z, Pz h' locs' z → Go p e below P T' (f z)) (K : (∀ T' h' locs', Stand p l e R s m args below meth c T' locs' kc kn → T'.heap = h' → ∀ z, Pz h' locs' z → Go p e below P T' (f z)) → Go p e below P T g) : Go p e below P T g := K J
theorem Go.loop {α : Type} (X : Stand p l e R s m args below meth c T locs cells slots) (eT : T.heap = h) (f : α → JFrame) (μ : α → Nat) (Pz : α → Prop) (body : ∀ z, Pz z → (∀ T', Stand p l e R s m args below meth c T' locs cells slots → T'.heap = h → ∀ z', Pz z' → μ z' < μ z → Go p e below P T' (f z')) → ∀ T', Stand p l e R s m args below meth c T' locs cells slots → T'.heap = h → Go p e below P T' (f z)) (z : α) (hz : Pz z) : Go p e below P T (f z) := by
  have key : ∀ n, ∀ z, μ z < n → Pz z → ∀ T', Stand p l e R s m args below meth c T' locs cells slots → T'.heap = h → Go p e below P T' (f z) := by
    intro n
    induction n with
    | zero => intro z hn; exact absurd hn (Nat.not_lt_zero _)
    | succ n ih =>
      intro z hn hz T' X' e'
      exact body z hz (fun T2 X2 e2 z2 hz2 hlt => ih z2 (by omega) hz2 T2 X2 e2) T' X' e'
  exact key (μ z + 1) z (Nat.lt_succ_self _) hz T X eT
theorem Go.loopH {α : Type} (X : Stand p l e R s m args below meth c T locs cells slots) (eT : T.heap = h) (f : α → JFrame) (μ : α → Nat) (Pz : Heap → List Loc → α → Prop) (body : ∀ z h' locs', Pz h' locs' z → (∀ T' h2 locs2, Stand p l e R s m args below meth c T' locs2 cells slots → T'.heap = h2 → ∀ z', Pz h2 locs2 z' → μ z' < μ z → Go p e below P T' (f z')) → ∀ T', Stand p l e R s m args below meth c T' locs' cells slots → T'.heap = h' → Go p e below P T' (f z)) (z : α) (hz : Pz h locs z) : Go p e below P T (f z) := by
  have key : ∀ n, ∀ z h' locs', μ z < n → Pz h' locs' z → ∀ T', Stand p l e R s m args below meth c T' locs' cells slots → T'.heap = h' → Go p e below P T' (f z) := by
    intro n
    induction n with
    | zero => intro z h' locs' hn; exact absurd hn (Nat.not_lt_zero _)
    | succ n ih =>
      intro z h' locs' hn hz T' X' e'
      exact body z h' locs' hz (fun T2 h2 locs2 X2 e2 z2 hz2 hlt => ih z2 h2 locs2 (by omega) hz2 T2 X2 e2) T' X' e'
  exact key (μ z + 1) z h locs (Nat.lt_succ_self _) hz T X eT
theorem own_sta_keep {C n d : String} {v : Value} {h' : Heap} {ws : List Addr} (F : Sta Z h C n d v) (K : Keep h h' ws) (q : ∀ x ∈ ws, ∀ cell : Cell, h[x]? = some cell → cell.vm.isStatics = false) : Sta Z h' C n d v := by
  obtain ⟨cf, i, k, f, st, cell, h1, h2, h3, h4, h5, h6, h7⟩ := F
  exact ⟨cf, i, k, f, st, cell, h1, h2, h3, h4, K.2.1 st cell h5 (fun hm => by rw [q st hm cell h5] at h6; cases h6), h6, h7⟩
end OwnGo
section OwnWide
variable {p : Program} {l : Launch} {e : Env} {R : Room} {s : State} {m : MethodId} {args : Array Value} {below : List Frame} {meth : Method} {c : Code} {T : State} {locs : List Loc} {cells slots : Nat} {P : State → Outcome → Prop} {pc : Nat} {Ls : Array Slot} {st : List Value} {Z : State} {a0 : Array Value} {h : Heap} {vm : Vm} {EL : List (String × Nat)} {k0 : Nat}
def RPH (s : State) (Z : State) (EL : List (String × Nat)) (k n : Nat) (Q : Option Value → Heap → List Loc → Prop) (t : State) (o : Outcome) : Prop := ∃ v L, o = .returned v ∧ Q v t.heap L ∧ CHr Z EL s.vm s.heap t.vm t.heap ∧ ReturnedEndW s o t L k n
def CoH (l : Launch) (y : MethodName) (bytes : ByteArray) (maxL : Nat) (ret : Option FieldType) (ws : List Jvm.Cond) (rm : Room) (Z : State) (EL : List (String × Nat)) (h : Heap) (as : Array Value) (Q : Option Value → Heap → List Loc → Prop) : Prop := MetFree l y (head1 (Jvm.Cond.code y bytes maxL ret :: ws) rm) (fun a U => a = as ∧ Z.Warmed39 U.vm ∧ U.heap = h ∧ CHv Z EL U.vm h) (fun _ _ _ _ _ => True) (fun _ U o U' => ∃ v L, o = .returned v ∧ Q v U'.heap L ∧ CHr Z EL U.vm U.heap U'.vm U'.heap ∧ ReturnedEndW U o U' L rm.cells rm.slots)
theorem CoH.of {y : MethodName} {bytes : ByteArray} {maxL : Nat} {ret : Option FieldType} {ws : List Jvm.Cond} {rm : Room} {as : Array Value} {Q : Option Value → Heap → List Loc → Prop} (hpl : plainFor y = true) (body : ∀ (p : Program) (e : Env) (s : State) (m : MethodId) (below : List Frame) (meth : Method) (c : Code) (T : State), Stand p l e rm (s.setVm s.vm) m as below meth c T [] 0 0 → p.tables.exec = Jvm.exec → c.code = bytes → c.maxLocals = maxL → s.vm.findClass y.cls = some m.cls → meth.name = y.name → meth.sig.returnType = ret → meth.locks = false → Z.Warmed39 s.vm → T.heap = h → s.heap = h → s.Since s.vm h.size → CHr Z EL s.vm s.heap s.vm h → Go p e below (RPH s Z EL rm.cells rm.slots Q) T (entryFrame m as maxL)) : CoH l y bytes maxL ret ws rm Z EL h as Q := by
  refine MetFree.of_bodySF hpl hisR ?_
  intro p e s m args below meth c s₁ Bd hml hP hK
  obtain ⟨rfl, hZ, hh, hC⟩ := hP
  have Xb : Stand p l e rm s m args below meth c s₁ [] 0 0 := Stand.of_body Bd
  refine body p e s m below meth c s₁ Xb Bd.exec Bd.bytes hml (findClass_of_methodNamed Bd.named) (name_of_methodNamed Bd.named Bd.method).1 Bd.returns (BodyLoose.notSynchronized Bd) hZ (by rw [← hh, Bd.state]; rfl) hh ((State.WarmedH.refl s).since _) ?_
  rw [hh]
  exact CHr.refl hC
theorem g_retiH (X : Stand p l e R (s.setVm vm) m args below meth c T locs cells slots) (hx : p.tables.exec = Jvm.exec) {z : Int32} (hret : meth.sig.returnType = some .int) (hlk : meth.locks = false) {k n : Nat} {Q : Option Value → Heap → List Loc → Prop} (hk : cells ≤ k) (hn : slots ≤ n) (hd : decode c.code pc = .ok (.ireturn, 1)) (eT : T.heap = h) (hZ : Z.Warmed39 vm) (hS : s.Since vm k0) (hk0 : k0 ≤ h.size) (hEL : EW Z a0 EL) (H : CHr Z EL s.vm s.heap vm h) (hq : Q (some (.int z)) h locs) : Go p e below (RPH s Z EL k n Q) T (mkF m pc Ls (.int z :: st)) := by
  obtain ⟨fs, hr, hrun, hended, hW, hsame⟩ := X.leave (v := (some (.int z))) (fun h => by first | rfl | (rw [hret] at h; cases h)) hlk
  have en := hS.ended hW (by show k0 ≤ T.heap.size; rw [eT]; exact hk0) (hsame.mono hk hn)
  refine ⟨_, _, retOut X hx hret rfl (Or.inl ⟨rfl, Or.inl rfl, z, rfl⟩) hd hr, hrun, hended, _, _, rfl, ?_, ?_, ⟨_, rfl⟩, en.1, en.2.1, en.2.2⟩
  · show Q _ T.heap _
    rw [eT]; exact hq
  · show CHr Z EL s.vm s.heap T.vm T.heap
    rw [eT]; exact H.trans (CHv.at X hZ hEL H.1)
theorem g_retzH (X : Stand p l e R (s.setVm vm) m args below meth c T locs cells slots) (hx : p.tables.exec = Jvm.exec) {z : Int32} (hret : meth.sig.returnType = some .boolean) (hlk : meth.locks = false) {k n : Nat} {Q : Option Value → Heap → List Loc → Prop} (hk : cells ≤ k) (hn : slots ≤ n) (hd : decode c.code pc = .ok (.ireturn, 1)) (eT : T.heap = h) (hZ : Z.Warmed39 vm) (hS : s.Since vm k0) (hk0 : k0 ≤ h.size) (hEL : EW Z a0 EL) (H : CHr Z EL s.vm s.heap vm h) (hq : Q (some (.int (z &&& 1))) h locs) : Go p e below (RPH s Z EL k n Q) T (mkF m pc Ls (.int z :: st)) := by
  obtain ⟨fs, hr, hrun, hended, hW, hsame⟩ := X.leave (v := (some (.int (z &&& 1)))) (fun h => by first | rfl | (rw [hret] at h; cases h)) hlk
  have en := hS.ended hW (by show k0 ≤ T.heap.size; rw [eT]; exact hk0) (hsame.mono hk hn)
  refine ⟨_, _, retN X hx (t := .boolean) hret (by simp) hd hr, hrun, hended, _, _, rfl, ?_, ?_, ⟨_, rfl⟩, en.1, en.2.1, en.2.2⟩
  · show Q _ T.heap _
    rw [eT]; exact hq
  · show CHr Z EL s.vm s.heap T.vm T.heap
    rw [eT]; exact H.trans (CHv.at X hZ hEL H.1)
theorem g_retaH (X : Stand p l e R (s.setVm vm) m args below meth c T locs cells slots) (hx : p.tables.exec = Jvm.exec) {v : Value} {t : FieldType} (hv : v.isRef = true) (ht : t.isReference = true) (hret : meth.sig.returnType = some t) (hlk : meth.locks = false) {k n : Nat} {Q : Option Value → Heap → List Loc → Prop} (hk : cells ≤ k) (hn : slots ≤ n) (hd : decode c.code pc = .ok (.areturn, 1)) (eT : T.heap = h) (hZ : Z.Warmed39 vm) (hS : s.Since vm k0) (hk0 : k0 ≤ h.size) (hEL : EW Z a0 EL) (H : CHr Z EL s.vm s.heap vm h) (hq : Q (some v) h locs) : Go p e below (RPH s Z EL k n Q) T (mkF m pc Ls (v :: st)) := by
  obtain ⟨fs, hr, hrun, hended, hW, hsame⟩ := X.leave (v := (some v)) (fun h => by first | rfl | (rw [hret] at h; cases h)) hlk
  have en := hS.ended hW (by show k0 ≤ T.heap.size; rw [eT]; exact hk0) (hsame.mono hk hn)
  refine ⟨_, _, retOut X hx hret (by cases t <;> first | (cases ht; done) | rfl) (Or.inr (Or.inr (Or.inr (Or.inr ⟨rfl, ht, hv⟩)))) hd hr, hrun, hended, _, _, rfl, ?_, ?_, ⟨_, rfl⟩, en.1, en.2.1, en.2.2⟩
  · show Q _ T.heap _
    rw [eT]; exact hq
  · show CHr Z EL s.vm s.heap T.vm T.heap
    rw [eT]; exact H.trans (CHv.at X hZ hEL H.1)
theorem g_retvH (X : Stand p l e R (s.setVm vm) m args below meth c T locs cells slots) (hx : p.tables.exec = Jvm.exec)  (hret : meth.sig.returnType = none) (hlk : meth.locks = false) {k n : Nat} {Q : Option Value → Heap → List Loc → Prop} (hk : cells ≤ k) (hn : slots ≤ n) (hd : decode c.code pc = .ok (.return_, 1)) (eT : T.heap = h) (hZ : Z.Warmed39 vm) (hS : s.Since vm k0) (hk0 : k0 ≤ h.size) (hEL : EW Z a0 EL) (H : CHr Z EL s.vm s.heap vm h) (hq : Q none h locs) : Go p e below (RPH s Z EL k n Q) T (mkF m pc Ls []) := by
  obtain ⟨fs, hr, hrun, hended, hW, hsame⟩ := X.leave (v := none) (fun h => by first | rfl | (rw [hret] at h; cases h)) hlk
  have en := hS.ended hW (by show k0 ≤ T.heap.size; rw [eT]; exact hk0) (hsame.mono hk hn)
  refine ⟨_, _, X.returnOut hx hret hd hr, hrun, hended, _, _, rfl, ?_, ?_, ⟨_, rfl⟩, en.1, en.2.1, en.2.2⟩
  · show Q _ T.heap _
    rw [eT]; exact hq
  · show CHr Z EL s.vm s.heap T.vm T.heap
    rw [eT]; exact H.trans (CHv.at X hZ hEL H.1)
theorem g_ldcO (X : Stand p l e R (s.setVm vm) m args below meth c T locs cells slots) (hx : p.tables.exec = Jvm.exec) {own text : String} {i : Nat} (hown : vm.findClass own = some m.cls) (ws : (Cond.stringLink own i text).before a0 Z = true) (wS : ∀ a ∈ Bundle.stringAtoms, a.before a0 Z = true) (eT : T.heap = h) (hZ : Z.Warmed39 vm) (hS : s.Since vm k0) (hk0 : k0 ≤ h.size) (hEL : EW Z a0 EL) (H : CHr Z EL s.vm s.heap vm h) (hd : decode c.code pc = .ok (.ldc i, 2)) {n : Nat} (hn : 4 * text.toList.length ≤ n) (hbig : n ≤ 536870912) (hc : cells + 2 ≤ R.cells) (hl : slots + (n + 4) ≤ R.slots) (pc' : Nat) (hp : pc + 2 = pc') (G : ∀ a T' h' k1, Stand p l e R (s.setVm T'.vm) m args below meth c T' locs (cells + 2) (slots + (n + 4)) → T'.heap = h' → Ext h h' → Z.Warmed39 T'.vm → T'.vm.findClass own = some m.cls → s.Since T'.vm k1 → k1 ≤ h'.size → CHr Z EL s.vm s.heap T'.vm h' → Go p e below P T' (mkF m pc' Ls (.ref a :: st))) : Go p e below P T (mkF m pc Ls st) := by
  subst hp
  obtain ⟨a, T', h', k1, X', e', E, hS', hk', hZ', ho', hC, -, k⟩ := ldcOH X hx hZ hown ws wS eT hS hk0 hEL H.1 (g := mkF m pc Ls st) rfl hd hn hbig hc hl
  exact (G a T' h' k1 X' e' E hZ' ho' hS' hk' (H.trans hC)).stp k
theorem av_of_arv {a : Addr} {k : ClassId} {ty : FieldType} {z : Int32} {vs : List Value} {d : Value} (F : Arv Z h a k ty z vs d) (hl : z.toNatClampNeg = vs.length) (hb : vs.length < 2 ^ 31) : AV Z h a ty vs := by
  obtain ⟨c, A, -, S, -, Hs, -⟩ := F
  refine ⟨c, A, ?_, hb⟩
  apply Array.ext
  · simp [S, hl]
  · intro i h1 h2
    have q := Hs i h1
    rw [Array.getElem?_eq_getElem h1] at q
    have h3 : i < vs.length := by simpa using h2
    simpa [List.getD_eq_getElem?_getD, List.getElem?_eq_getElem h3] using q
theorem g_ldcC (X : Stand p l e R (s.setVm vm) m args below meth c T locs cells slots) (hx : p.tables.exec = Jvm.exec) {own text : String} {i : Nat} (hown : vm.findClass own = some m.cls) (ws : (Cond.stringLink own i text).before a0 Z = true) (wS : ∀ a ∈ Bundle.stringAtoms, a.before a0 Z = true) (eT : T.heap = h) (hZ : Z.Warmed39 vm) (hS : s.Since vm k0) (hk0 : k0 ≤ h.size) (hEL : EW Z a0 EL) (H : CHr Z EL s.vm s.heap vm h) (hmem : (own, i) ∈ EL) {vs : List Value} {z : Int32} (ht : (∀ c ∈ text.toList, c.toNat < 256) ∧ text.toList.map (fun c => Value.int (Jvm.Lit.byteI c.toNat.toUInt16)) = vs) (hz : ¬ z < 0) (hzl : z.toNatClampNeg = vs.length) (hvl : vs.length < 2 ^ 31) (hd : decode c.code pc = .ok (.ldc i, 2)) {n : Nat} (hn : 4 * text.toList.length ≤ n) (hbig : n ≤ 536870912) (hc : cells + 2 ≤ R.cells) (hl : slots + (n + 4) ≤ R.slots) (pc' : Nat) (hp : pc + 2 = pc') (G : ∀ a b T' h' k1, Stand p l e R (s.setVm T'.vm) m args below meth c T' locs (cells + 2) (slots + (n + 4)) → T'.heap = h' → Ext h h' → Z.Warmed39 T'.vm → T'.vm.findClass own = some m.cls → s.Since T'.vm k1 → k1 ≤ h'.size → CHr Z EL s.vm s.heap T'.vm h' → Exa Z h' a "java/lang/String" → Fld Z h' a "java/lang/String" "coder" "B" (.int 0) → Fld Z h' a "java/lang/String" "value" "[B" (.ref b) → AV Z h' b .byte vs → (∀ x, Safe Z EL T'.vm h' x → x ≠ a ∧ x ≠ b) → Go p e below P T' (mkF m pc' Ls (.ref a :: st))) : Go p e below P T (mkF m pc Ls st) := by
  subst hp
  obtain ⟨a, T', h', k1, b, kk, X', e', E, hS', hk', hZ', ho', EA, FC, FV, AB, -, -, hC, -, hsf, k⟩ := ldcCH X hx hZ hown ws wS eT hS hk0 hEL hmem H.1 ht hz hzl (g := mkF m pc Ls st) rfl hd hn hbig hc hl
  exact (G a b T' h' k1 X' e' E hZ' ho' hS' hk' (H.trans hC) EA FC FV (av_of_arv AB hzl hvl) hsf).stp k
theorem g_callSH (X : Stand p l e R (s.setVm vm) m args below meth c T locs cells slots) (hx : p.tables.exec = Jvm.exec) {own : String} (hown : vm.findClass own = some m.cls) {i : Nat} {y : MethodName} {bytes : ByteArray} {maxL : Nat} {ret : Option FieldType} (w1 : (Cond.methodLink own i y).before a0 Z = true) (w2 : (Cond.static y).before a0 Z = true) (w3 : (Cond.initialized y.cls).before a0 Z = true) (w4 : (Cond.code y bytes maxL ret).before a0 Z = true)  (hy : y.cls ≠ "java/lang/invoke/MethodHandle" ∧ y.cls ≠ "java/lang/invoke/VarHandle") (eT : T.heap = h) {rm : Room} {Q : Option Value → Heap → List Loc → Prop} {St : List Value} (argsL rest : List Value) (hZ : Z.Warmed39 vm) (hS : s.Since vm k0) (hk0 : k0 ≤ h.size) (hEL : EW Z a0 EL) (H : CHr Z EL s.vm s.heap vm h) (hs : St = argsL.reverse ++ rest) (M : CoH l y bytes maxL ret [] rm Z EL h argsL.toArray Q) (hlen : ∀ sig, parseMethodDescriptor y.desc = some sig → argsL.length = sig.parameters.length) (W : Nat) (hW : (rest.map fun v => v.category).sum ≤ W) (hf : rm.frames + 1 ≤ R.frames) (hl : W + (maxL + 11) + rm.locals ≤ R.locals) (hc : cells + rm.cells ≤ R.cells) (hsl : slots + rm.slots ≤ R.slots) (hsz : Ls.size = c.maxLocals) (hd : decode c.code pc = .ok (.invokestatic i, 3)) (pc' : Nat) (hp : pc + 3 = pc') (G : ∀ v T' h' L, Stand p l e R (s.setVm T'.vm) m args below meth c T' (locs ++ L) (cells + rm.cells) (slots + rm.slots) → T'.heap = h' → Z.Warmed39 T'.vm → T'.vm.findClass own = some m.cls → s.Since T'.vm h'.size → CHr Z EL s.vm s.heap T'.vm h' → Q v h' L → Go p e below P T' (mkF m pc' Ls (v.toList ++ rest))) : Go p e below P T (mkF m pc Ls St) := by
  subst hp
  obtain ⟨v, vm1, ⟨T', L', k', n'⟩, -, X', hS', hgr, ⟨L, hQ, h1, h2, h3, h4⟩, k⟩ := callSS X hx (y := y) hown (mvT (s := s.setVm vm) hZ w1) (mvT (s := s.setVm vm) hZ w2) (mvT (s := s.setVm vm) hZ w3) (mvT (s := s.setVm vm) hZ w4) hy (backOfSH (W := W) M hZ w4 w3 hf hl hEL H.1) (g := mkF m pc Ls St) rfl hsz (argsL := argsL) (rest := rest) hlen hs (by show 2 * 0 + _ ≤ W; omega) hd (fun _ _ => ⟨rfl, eT, hc, hsl⟩)
  dsimp only [Pt.U, Pt.locs, Pt.cells, Pt.slots] at X' h1 h2 h3 h4 k hQ hS' hgr
  subst h1 h2 h3
  have hZ' : Z.Warmed39 T'.vm := State.Warmed39.trans (t := s.setVm vm) hZ hS'.1
  have ho' : T'.vm.findClass own = some m.cls := by rw [hS'.1.alike.findClass]; exact hown
  refine (G v T' _ L X' rfl hZ' ho' (hS.trans hS' (by rw [← eT] at hk0; omega)) (H.trans h4) hQ).stp ?_
  exact fun _ j => k.trans j
theorem g_initH (X : Stand p l e R (s.setVm vm) m args below meth c T locs cells slots) (hx : p.tables.exec = Jvm.exec) {own : String} (hown : vm.findClass own = some m.cls) {i : Nat} {y : MethodName} {bytes : ByteArray} {maxL : Nat} (w1 : (Cond.methodLink own i y).before a0 Z = true) (hnm : y.name = "<init>") (w2 : (Cond.instanceMethod y).before a0 Z = true) (w3 : (Cond.initialized y.cls).before a0 Z = true) (w4 : (Cond.code y bytes maxL none).before a0 Z = true)  (hy : y.cls ≠ "java/lang/invoke/MethodHandle" ∧ y.cls ≠ "java/lang/invoke/VarHandle") (eT : T.heap = h) {rm : Room} {Q : Option Value → Heap → List Loc → Prop} {St : List Value} (argsL rest : List Value) (hZ : Z.Warmed39 vm) (hS : s.Since vm k0) (hk0 : k0 ≤ h.size) (hEL : EW Z a0 EL) (H : CHr Z EL s.vm s.heap vm h) {a : Addr} (hs : St = argsL.reverse ++ .ref a :: rest) (M : CoH l y bytes maxL none [] rm Z EL h (.ref a :: argsL).toArray Q) (hlen : ∀ sig, parseMethodDescriptor y.desc = some sig → argsL.length = sig.parameters.length) (W : Nat) (hW : (rest.map fun v => v.category).sum ≤ W) (hf : rm.frames + 1 ≤ R.frames) (hl : W + (maxL + 11) + rm.locals ≤ R.locals) (hc : cells + rm.cells ≤ R.cells) (hsl : slots + rm.slots ≤ R.slots) (hsz : Ls.size = c.maxLocals) (hd : decode c.code pc = .ok (.invokespecial i, 3)) (pc' : Nat) (hp : pc + 3 = pc') (G : ∀ v T' h' L, Stand p l e R (s.setVm T'.vm) m args below meth c T' (locs ++ L) (cells + rm.cells) (slots + rm.slots) → T'.heap = h' → Z.Warmed39 T'.vm → T'.vm.findClass own = some m.cls → s.Since T'.vm h'.size → CHr Z EL s.vm s.heap T'.vm h' → Q v h' L → Go p e below P T' (mkF m pc' Ls (v.toList ++ rest))) : Go p e below P T (mkF m pc Ls St) := by
  subst hp
  obtain ⟨v, vm1, ⟨T', L', k', n'⟩, -, X', hS', hgr, ⟨L, hQ, h1, h2, h3, h4⟩, k⟩ := X.specialBackS hx (y := y) hnm hown (mvT (s := s.setVm vm) hZ w1) (mvT (s := s.setVm vm) hZ w2) (mvT (s := s.setVm vm) hZ w4) hy (backOfSH (W := W) M hZ w4 w3 hf hl hEL H.1) (g := mkF m pc Ls St) rfl hsz (Steps.refl _) (a := a) (argsL := argsL) (rest := rest) hlen hs (by show 2 * 0 + _ ≤ W; omega) hd (fun _ _ => ⟨rfl, eT, hc, hsl⟩)
  dsimp only [Pt.U, Pt.locs, Pt.cells, Pt.slots] at X' h1 h2 h3 h4 k hQ hS' hgr
  subst h1 h2 h3
  have hZ' : Z.Warmed39 T'.vm := State.Warmed39.trans (t := s.setVm vm) hZ hS'.1
  have ho' : T'.vm.findClass own = some m.cls := by rw [hS'.1.alike.findClass]; exact hown
  refine (G v T' _ L X' rfl hZ' ho' (hS.trans hS' (by rw [← eT] at hk0; omega)) (H.trans h4) hQ).stp ?_
  exact fun _ j => k.trans j
theorem AV.safe {a : Addr} {ty : FieldType} {vs : List Value} (hal : Z.vm.Alike vm) (F : AV Z h a ty vs) (ht : ty ≠ .byte) : Safe Z EL vm h a := by obtain ⟨c, A, -⟩ := F; exact Safe.arr hal A ht
theorem own_safe_new {h' : Heap} {b : Addr} (H : CHv Z EL vm h) (E : Ext h h') (gb : b = h.size) : Safe Z EL vm h' b := Safe.ext E H (Safe.new (Nat.le_of_eq gb.symm))
theorem own_safe_null {x : Addr} (hal : Z.vm.Alike vm) (E : Exa Z h x "java/lang/String") (F : Fld Z h x "java/lang/String" "value" "[B" .null) : Safe Z EL vm h x := fun B => by
  obtain ⟨cell, k, e1, e2, e3, -, -⟩ := E
  obtain ⟨p, -, u, a, -, q, -, G, rfl | rfl⟩ := B
  · obtain ⟨cell', cf, k', i, f, g1, g2, -, -, -, -, g7⟩ := F
    cases (show h[q.sa]? = some q.sC from G.ha).symm.trans g1
    obtain ⟨cS, ⟨⟨-, -, -, ⟨c1, k1, i1, f1, -⟩, -, -, -, v1, -⟩, -⟩, -⟩ := G
    obtain ⟨k3, e4⟩ := ff_back (U := Wst Z vm h) hal f1
    have e5 := e4.symm.trans g2
    simp only [Option.some.injEq, Prod.mk.injEq] at e5
    rw [e5.2.2.2, g7] at v1
    cases v1
  · cases (show h[q.sd]? = some q.SA from G.hd).symm.trans e1
    obtain ⟨cS, -, -, f, -⟩ := G
    have f : vm.findClass "[B" = some q.SA.cls := f
    rw [hal.findClass] at f
    obtain ⟨k1, q1, q2⟩ := Vm.findClass_spec f
    obtain ⟨k2, q3, q4⟩ := Vm.findClass_spec e2
    cases q1.symm.trans q3
    exact absurd (q2.symm.trans q4) (by decide)
end OwnWide
section OwnIface
variable {p : Program} {l : Launch} {e : Env} {R : Room} {s : State} {m : MethodId} {args : Array Value} {below : List Frame} {meth : Method} {c : Code} {T : State} {locs : List Loc} {cells slots : Nat} {P : State → Outcome → Prop} {pc : Nat} {Ls : Array Slot} {st : List Value} {Z : State} {a0 : Array Value} {h : Heap}
theorem g_callVU (X : Stand p l e R s m args below meth c T locs cells slots) (hx : p.tables.exec = Jvm.exec) (hZ : Z.Warmed39 s.vm) {own : String} (hown : s.vm.findClass own = some m.cls) {i : Nat} {y : MethodName} {bytes : ByteArray} {maxL : Nat} {ret : Option FieldType} (w1 : (Cond.methodLink own i y).before a0 Z = true) {C owner : String} {z : MethodName} (w7 : (Cond.sameMethod y.cls owner y.name y.desc).before a0 Z = true) (w2 : (Cond.declares ⟨owner, y.name, y.desc⟩).before a0 Z = true) (ho : owner ≠ "java/lang/invoke/MethodHandle" ∧ owner ≠ "java/lang/invoke/VarHandle") (w5 : (Cond.selects C y z).before a0 Z = true) (w6 : (Cond.instanceMethod z).before a0 Z = true) (w3 : (Cond.initialized z.cls).before a0 Z = true) (w4 : (Cond.code z bytes maxL ret).before a0 Z = true) (hy : y.cls ≠ "java/lang/invoke/MethodHandle" ∧ y.cls ≠ "java/lang/invoke/VarHandle") (eT : T.heap = h) {rm : Room} {Q : Option Value → Heap → List Loc → Prop} {St : List Value} (argsL rest : List Value) {a : Addr} (E : Exa Z h a C) (hs : St = argsL.reverse ++ .ref a :: rest) (M : Co l z bytes maxL ret [] rm Z h (.ref a :: argsL).toArray Q) (hlen : ∀ sig, parseMethodDescriptor y.desc = some sig → argsL.length = sig.parameters.length) (W : Nat) (hW : (rest.map fun v => v.category).sum ≤ W) (hf : rm.frames + 1 ≤ R.frames) (hl : W + (maxL + 11) + rm.locals ≤ R.locals) (hc : cells + rm.cells ≤ R.cells) (hsl : slots + rm.slots ≤ R.slots) (hsz : Ls.size = c.maxLocals) (hd : decode c.code pc = .ok (.invokevirtual i, 3)) (pc' : Nat) (hp : pc + 3 = pc') (G : ∀ v T' L, Stand p l e R s m args below meth c T' (locs ++ L) (cells + rm.cells) (slots + rm.slots) → Q v T'.heap L → Go p e below P T' (mkF m pc' Ls (v.toList ++ rest))) : Go p e below P T (mkF m pc Ls St) := by
  subst hp
  obtain ⟨cq, kq, qa, qb, qc⟩ := isOf hZ eT E
  obtain ⟨v, vm1, ⟨T', L', k', n'⟩, -, X', ⟨L, hQ, h1, h2, h3⟩, k⟩ := X.virtualBackUp hx (x := y) (y := z) hown (mvT hZ w1) (mvT hZ w7) (mvT hZ w2) ho (mvT hZ w5) (mvT hZ w6) (backOf (W := W) M hZ w4 w3 hf hl) qa qc (g := mkF m pc Ls St) rfl hsz (Steps.refl _) (argsL := argsL) (rest := rest) hlen hs (by show 2 * 0 + _ ≤ W; omega) hd (fun _ _ => ⟨rfl, eT, hc, hsl⟩)
  dsimp only [Pt.U, Pt.locs, Pt.cells, Pt.slots] at X' h1 h2 h3 k hQ
  subst h1 h2 h3
  exact (G v T' L X' hQ).stp fun _ j => k.trans j
theorem g_callI (X : Stand p l e R s m args below meth c T locs cells slots) (hx : p.tables.exec = Jvm.exec) (hZ : Z.Warmed39 s.vm) {own : String} (hown : s.vm.findClass own = some m.cls) {i : Nat} {y : MethodName} {bytes : ByteArray} {maxL : Nat} {ret : Option FieldType} (w1 : (Cond.methodLink own i y).before a0 Z = true) {C : String} {z : MethodName} {count : Nat} (w2 : (Cond.declares y).before a0 Z = true) (w7 : (Cond.interfaceMethod y.cls y.cls y.name y.desc).before a0 Z = true) (w5 : (Cond.selects C y z).before a0 Z = true) (w6 : (Cond.instanceMethod z).before a0 Z = true) (w8 : (Cond.publicMethod z).before a0 Z = true) (w9 : (Cond.unhidden C y.name y.desc).before a0 Z = true) (w10 : (Cond.castable C y.cls).before a0 Z = true) (w3 : (Cond.initialized z.cls).before a0 Z = true) (w4 : (Cond.code z bytes maxL ret).before a0 Z = true) (hy : y.cls ≠ "java/lang/invoke/MethodHandle" ∧ y.cls ≠ "java/lang/invoke/VarHandle") (eT : T.heap = h) {rm : Room} {Q : Option Value → Heap → List Loc → Prop} {St : List Value} (argsL rest : List Value) {a : Addr} (E : Exa Z h a C) (hs : St = argsL.reverse ++ .ref a :: rest) (M : Co l z bytes maxL ret [] rm Z h (.ref a :: argsL).toArray Q) (hlen : ∀ sig, parseMethodDescriptor y.desc = some sig → argsL.length = sig.parameters.length) (W : Nat) (hW : (rest.map fun v => v.category).sum ≤ W) (hf : rm.frames + 1 ≤ R.frames) (hl : W + (maxL + 11) + rm.locals ≤ R.locals) (hc : cells + rm.cells ≤ R.cells) (hsl : slots + rm.slots ≤ R.slots) (hsz : Ls.size = c.maxLocals) (hd : decode c.code pc = .ok (.invokeinterface i count, 5)) (pc' : Nat) (hp : pc + 5 = pc') (G : ∀ v T' L, Stand p l e R s m args below meth c T' (locs ++ L) (cells + rm.cells) (slots + rm.slots) → Q v T'.heap L → Go p e below P T' (mkF m pc' Ls (v.toList ++ rest))) : Go p e below P T (mkF m pc Ls St) := by
  subst hp
  obtain ⟨cq, kq, qa, qb, qc⟩ := isOf hZ eT E
  obtain ⟨v, vm1, ⟨T', L', k', n'⟩, -, X', ⟨L, hQ, h1, h2, h3⟩, k⟩ := X.interfaceBack hx (xi := y) (y := z) hown (mvT hZ w1) (mvT hZ w2) (mvT hZ w7 (by simp [Cond.onTables, Cond.keepsFace, Cond.keeps, Cond.steady, Cond.faceAtom, hy.1, hy.2])) (mvT hZ w5) (mvT hZ w6) (mvT hZ w8) (mvT hZ w9) (mvT hZ w10) hy (backOf (W := W) M hZ w4 w3 hf hl) qa qb qc (g := mkF m pc Ls St) rfl hsz (Steps.refl _) (argsL := argsL) (rest := rest) hlen hs (by show 2 * 0 + _ ≤ W; omega) hd (fun _ _ => ⟨rfl, eT, hc, hsl⟩)
  dsimp only [Pt.U, Pt.locs, Pt.cells, Pt.slots] at X' h1 h2 h3 k hQ
  subst h1 h2 h3
  exact (G v T' L X' hQ).stp fun _ j => k.trans j
end OwnIface
def EL : List (String × Nat) := [("java/lang/String", 7)]
theorem own_wS {a0 : Array Value} {Z : State} (hw : ∀ d ∈ tables_1, d.before a0 Z = true) : ∀ a ∈ Bundle.stringAtoms, a.before a0 Z = true := by
  intro d hd
  simp only [Bundle.stringAtoms, List.mem_cons, List.not_mem_nil, or_false] at hd
  rcases hd with rfl | rfl | rfl | rfl | rfl | rfl | rfl
  · exact wd hw 6 rfl
  · exact wd hw 5 rfl
  · exact wd hw 19 rfl
  · exact wd hw 20 rfl
  · exact wd hw 21 rfl
  · exact wd hw 22 rfl
  · exact wd hw 23 rfl
theorem own_eqI {args : Array Value} {s : State} {t : Term} {i : Int32} (h : (Jvm.Cond.eq t (.int i)).value args s none s [] = some true) : t.eval args s none [] s = some (.int i) := by
  cases ht : t.eval args s none [] s with
  | none => simp [Cond.value, Term.eval, ht] at h
  | some v => cases v <;> simp [Cond.value, Term.eval, ht] at h; exact congrArg (fun z => some (Value.int z)) h
theorem own_fo {args : Array Value} {s : State} {t : Term} {C n d : String} {a : Addr} {i : Int32} (ev : t.eval args s none [] s = some (.ref a)) (h : (Jvm.Cond.eq (Term.field t C n d) (.int i)).value args s none s [] = some true) : Fld s s.heap a C n d (.int i) := Fld.start ((fld_at ev).symm.trans (own_eqI h))
theorem own_clamp {n : Nat} (h : n < 2 ^ 31) : n.toInt32.toNatClampNeg = n := by
  show (Int32.ofNat n).toNatClampNeg = n
  rw [Int32.toNatClampNeg, Int32.toInt_ofNat_of_lt h]
  simp
theorem own_arr_ref {args : Array Value} {s : State} {t : Term} {ty : FieldType} (h : (Jvm.Cond.arrayOf t ty).value args s none s [] = some true) : ∃ a, t.eval args s none [] s = some (.ref a) := by
  cases ht : t.eval args s none [] s with
  | none => simp [Cond.value, ht] at h
  | some v =>
    cases v with
    | ref a => exact ⟨a, rfl⟩
    | _ => simp [Cond.value, ht] at h
theorem own_av {args : Array Value} {s : State} {t : Term} {ty : FieldType} {b : Addr} {n : Int32} {vs : List Value} (ev : t.eval args s none [] s = some (.ref b)) (h1 : (Jvm.Cond.arrayOf t ty).value args s none s [] = some true) (hl : (Jvm.Cond.eq (Term.length t) (.int n)).value args s none s [] = some true) (hn : n.toNatClampNeg = vs.length) (he : ∀ i, i < vs.length → ∃ k : Int32, k.toNatClampNeg = i ∧ (Term.elem t (.int k)).eval args s none [] s = vs[i]?) : AV s s.heap b ty vs := by
  have q := own_eqI hl
  simp only [Term.eval, ev, Option.bind_eq_bind, Option.bind_some] at q
  obtain ⟨cell, hc, q⟩ := Option.bind_eq_some_iff.mp q
  by_cases hb : cell.slots.size < 2 ^ 31
  · rw [if_pos hb] at q
    have q2 : cell.slots.size.toInt32 = n := by simpa using q
    have hcell := (State.arrayAt?_spec hc).1
    have hA := Cond.arrayOf_spec (beq_iff_eq.mpr h1 : (Jvm.Cond.arrayOf t ty).holds args s none s [] = true) ev hcell
    have hsz : cell.slots.size = vs.length := by
      rw [← hn, ← q2]
      exact (own_clamp hb).symm
    refine ⟨cell, ⟨hcell, hA.1, hA.2⟩, ?_, by rw [← hsz]; exact hb⟩
    apply Array.ext
    · simpa using hsz
    · intro i h1 h2
      obtain ⟨k, hk, e⟩ := he i (by simpa using h2)
      rw [List.getElem?_eq_getElem (by simpa using h2)] at e
      obtain ⟨c', e1, -, e3⟩ := elem_at e ev rfl
      cases hcell.symm.trans e1
      rw [hk, Array.getElem?_eq_getElem h1] at e3
      simpa using Option.some.inj e3
  · rw [if_neg hb] at q
    cases q
theorem own_lat (x : Int32) : ¬ (255 : Int32) < (x &&& (255 : Int32)).toUInt32.toUInt16.toUInt32.toInt32.toUInt32.toUInt16.toUInt32.toInt32 := by
  have e := c_and x 255 (by decide)
  have a := c_i2c (x &&& 255)
  have b := c_i2c (x &&& 255).toUInt32.toUInt16.toUInt32.toInt32
  simp only [show (255 : Int32).toInt = 255 from rfl] at e
  rw [Int32.lt_iff_toInt_lt, show (255 : Int32).toInt = 255 from rfl]
  omega
theorem own_lat1 (x : Int32) : ¬ (255 : Int32) < (x &&& (255 : Int32)).toUInt32.toUInt16.toUInt32.toInt32 := by
  have e := c_and x 255 (by decide)
  have a := c_i2c (x &&& 255)
  simp only [show (255 : Int32).toInt = 255 from rfl] at e
  rw [Int32.lt_iff_toInt_lt, show (255 : Int32).toInt = 255 from rfl]
  omega
def Q6_2 (Z : State) (b : Addr) (d : Addr) (c0 : Int32) (c1 : Int32) (h0 : Heap) (n0 : Nat) (v : Option Value) (h : Heap) (L : List Loc) : Prop := v = some (.int (2 : Int32)) ∧ Fr n0 L ∧ Keep h0 h [d] ∧ AV Z h d .byte [(.int c0.toInt8.toInt32.toInt8.toInt32), (.int c1.toInt8.toInt32.toInt8.toInt32)]
theorem ef6_2 (m_ : MethodId) (b : Addr) (d : Addr)  : entryFrame m_ #[(.ref b), (.int (0 : Int32)), (.ref d), (.int (0 : Int32)), (.int (2 : Int32))] 7 = mkF m_ 0 #[.val (.ref b), .val (.int (0 : Int32)), .val (.ref d), .val (.int (0 : Int32)), .val (.int (2 : Int32)), .unset, .unset] [] := by first | (simp [entryFrame, mkF, argsToLocals, Value.category]; done) | rfl
theorem pn_0 : plainName "java/lang/StringUTF16" = true := by first | (simp [plainName, overriddenIn]; done) | decide +kernel
theorem d6_0 : decode jdk_52_method_21_code 0 = .ok (.iconst 0, 1) := by decide +kernel
theorem d6_1 : decode jdk_52_method_21_code 1 = .ok (.istore 5, 2) := by decide +kernel
theorem d6_3 : decode jdk_52_method_21_code 3 = .ok (.iload 5, 2) := by decide +kernel
theorem d6_5 : decode jdk_52_method_21_code 5 = .ok (.iload 4, 2) := by decide +kernel
theorem d6_7 : decode jdk_52_method_21_code 7 = .ok (.if_icmp .ge 37, 3) := by decide +kernel
theorem d6_10 : decode jdk_52_method_21_code 10 = .ok (.aload_n 0, 1) := by decide +kernel
theorem d6_11 : decode jdk_52_method_21_code 11 = .ok (.iload_n 1, 1) := by decide +kernel
theorem d6_12 : decode jdk_52_method_21_code 12 = .ok (.caload, 1) := by decide +kernel
theorem d6_13 : decode jdk_52_method_21_code 13 = .ok (.istore 6, 2) := by decide +kernel
theorem d6_15 : decode jdk_52_method_21_code 15 = .ok (.iload 6, 2) := by decide +kernel
theorem d6_17 : decode jdk_52_method_21_code 17 = .ok (.sipush 255, 3) := by decide +kernel
theorem d6_20 : decode jdk_52_method_21_code 20 = .ok (.if_icmp .le 6, 3) := by decide +kernel
theorem d6_26 : decode jdk_52_method_21_code 26 = .ok (.aload_n 2, 1) := by decide +kernel
theorem d6_27 : decode jdk_52_method_21_code 27 = .ok (.iload_n 3, 1) := by decide +kernel
theorem d6_28 : decode jdk_52_method_21_code 28 = .ok (.iload 6, 2) := by decide +kernel
theorem d6_30 : decode jdk_52_method_21_code 30 = .ok (.i2b, 1) := by decide +kernel
theorem d6_31 : decode jdk_52_method_21_code 31 = .ok (.bastore, 1) := by decide +kernel
theorem d6_32 : decode jdk_52_method_21_code 32 = .ok (.iinc 1 1, 3) := by decide +kernel
theorem d6_35 : decode jdk_52_method_21_code 35 = .ok (.iinc 3 1, 3) := by decide +kernel
theorem d6_38 : decode jdk_52_method_21_code 38 = .ok (.iinc 5 1, 3) := by decide +kernel
theorem d6_41 : decode jdk_52_method_21_code 41 = .ok (.goto (-38), 3) := by decide +kernel
theorem d6_44 : decode jdk_52_method_21_code 44 = .ok (.iload 4, 2) := by decide +kernel
theorem d6_46 : decode jdk_52_method_21_code 46 = .ok (.ireturn, 1) := by decide +kernel
set_option maxRecDepth 65536 in
set_option maxHeartbeats 40000000 in
theorem co6_2 (l : Launch) (Z : State) (a0 : Array Value) (hw : ∀ d ∈ tables_1, d.before a0 Z = true) (b : Addr) (d : Addr) (c0 : Int32) (c1 : Int32) (h0 : Heap) (n0 : Nat) (Z0 : n0 ≤ h0.size)  (g_d : n0 ≤ d) (A_b : AV Z h0 b .char [(.int c0), (.int c1)]) (A_d : AV Z h0 d .byte [(.int (0 : Int32)), (.int (0 : Int32))]) (nbd : b ≠ d) (l0 : ¬ (255 : Int32) < c0) (l1 : ¬ (255 : Int32) < c1) : Co l (⟨"java/lang/StringUTF16", "compress", "([CI[BII)I"⟩ : MethodName) jdk_52_method_21_code 7 (some .int) [] ({ frames := 0, cells := 0, slots := 0, locals := 0 } : Room) Z h0 #[(.ref b), (.int (0 : Int32)), (.ref d), (.int (0 : Int32)), (.int (2 : Int32))] (Q6_2 Z b d c0 c1 h0 n0) := by
  refine Co.of (plainFor_of_name pn_0) ?_
  intro p_ e_ s_ m_ below meth c_ T0 X0 hx hby hml hown hnm hret hlk hZ eq0
  have N0 := Fr.nil n0
  refine Go.cast (ef6_2 m_ b d ) ?_
  refine g_iconst X0 hx (0 : Int32) rfl (hb hby d6_0) 1 rfl ?_
  refine g_istore X0 hx #[.val (.ref b), .val (.int (0 : Int32)), .val (.ref d), .val (.int (0 : Int32)), .val (.int (2 : Int32)), .val (.int (0 : Int32)), .unset] rfl (hb hby d6_1) 3 rfl ?_
  refine g_iload X0 hx rfl (hb hby d6_3) 5 rfl ?_
  refine g_iload X0 hx rfl (hb hby d6_5) 7 rfl ?_
  refine g_icmp_ge X0 hx (hb hby d6_7) 44 10 (by decide) rfl rfl (fun q101 => ?_) (fun q101 => ?_)
  · exact absurd q101 (by decide)
  · refine g_aloadN X0 hx rfl rfl (hb hby d6_10) 11 rfl ?_
    refine g_iloadN X0 hx rfl (hb hby d6_11) 12 rfl ?_
    refine g_caload X0 hx hZ eq0 A_b (by decide) rfl (hb hby d6_12) 13 rfl ?_
    show Go p_ e_ below _ T0 (mkF m_ 13 #[.val (.ref b), .val (.int (0 : Int32)), .val (.ref d), .val (.int (0 : Int32)), .val (.int (2 : Int32)), .val (.int (0 : Int32)), .unset] [(.int c0)])
    refine g_istore X0 hx #[.val (.ref b), .val (.int (0 : Int32)), .val (.ref d), .val (.int (0 : Int32)), .val (.int (2 : Int32)), .val (.int (0 : Int32)), .val (.int c0)] rfl (hb hby d6_13) 15 rfl ?_
    refine g_iload X0 hx rfl (hb hby d6_15) 17 rfl ?_
    refine g_sipush X0 hx (255 : Int32) rfl (hb hby d6_17) 20 rfl ?_
    refine g_icmp_le X0 hx (hb hby d6_20) 26 23 (by decide) rfl rfl (fun q102 => ?_) (fun q102 => ?_)
    · refine g_aloadN X0 hx rfl rfl (hb hby d6_26) 27 rfl ?_
      refine g_iloadN X0 hx rfl (hb hby d6_27) 28 rfl ?_
      refine g_iload X0 hx rfl (hb hby d6_28) 30 rfl ?_
      refine g_i2b X0 hx (hb hby d6_30) 31 rfl ?_
      refine g_bastore X0 hx hZ eq0 A_d (by decide) (Nat.le_of_ble_eq_true rfl) (hb hby d6_31) 32 rfl (fun T103 h104 X105 e106 W107 A108 => ?_)
      have A109 : AV Z h104 d .byte [(.int c0.toInt8.toInt32.toInt8.toInt32), (.int (0 : Int32))] := A108
      have F110 := A_b.other W107 nbd
      have F111 := A109
      have N112 := Fr.snoc X105 N0 g_d
      have szh113 : n0 ≤ h104.size := Nat.le_trans Z0 (Nat.le_of_eq W107.size.symm)
      have K114 := (Keep.refl h0 [d]).wr W107 (Or.inl (List.mem_of_getElem? (i := 0) rfl))
      show Go p_ e_ below _ T103 (mkF m_ 32 #[.val (.ref b), .val (.int (0 : Int32)), .val (.ref d), .val (.int (0 : Int32)), .val (.int (2 : Int32)), .val (.int (0 : Int32)), .val (.int c0)] [])
      refine g_iinc X105 hx (1 : Int32) rfl rfl #[.val (.ref b), .val (.int (1 : Int32)), .val (.ref d), .val (.int (0 : Int32)), .val (.int (2 : Int32)), .val (.int (0 : Int32)), .val (.int c0)] rfl (hb hby d6_32) 35 rfl ?_
      refine g_iinc X105 hx (1 : Int32) rfl rfl #[.val (.ref b), .val (.int (1 : Int32)), .val (.ref d), .val (.int (1 : Int32)), .val (.int (2 : Int32)), .val (.int (0 : Int32)), .val (.int c0)] rfl (hb hby d6_35) 38 rfl ?_
      refine g_iinc X105 hx (1 : Int32) rfl rfl #[.val (.ref b), .val (.int (1 : Int32)), .val (.ref d), .val (.int (1 : Int32)), .val (.int (2 : Int32)), .val (.int (1 : Int32)), .val (.int c0)] rfl (hb hby d6_38) 41 rfl ?_
      refine g_goto X105 hx (hb hby d6_41) 3 (by decide) rfl ?_
      refine g_iload X105 hx rfl (hb hby d6_3) 5 rfl ?_
      refine g_iload X105 hx rfl (hb hby d6_5) 7 rfl ?_
      refine g_icmp_ge X105 hx (hb hby d6_7) 44 10 (by decide) rfl rfl (fun q115 => ?_) (fun q115 => ?_)
      · exact absurd q115 (by decide)
      · refine g_aloadN X105 hx rfl rfl (hb hby d6_10) 11 rfl ?_
        refine g_iloadN X105 hx rfl (hb hby d6_11) 12 rfl ?_
        refine g_caload X105 hx hZ e106 F110 (by decide) rfl (hb hby d6_12) 13 rfl ?_
        show Go p_ e_ below _ T103 (mkF m_ 13 #[.val (.ref b), .val (.int (1 : Int32)), .val (.ref d), .val (.int (1 : Int32)), .val (.int (2 : Int32)), .val (.int (1 : Int32)), .val (.int c0)] [(.int c1)])
        refine g_istore X105 hx #[.val (.ref b), .val (.int (1 : Int32)), .val (.ref d), .val (.int (1 : Int32)), .val (.int (2 : Int32)), .val (.int (1 : Int32)), .val (.int c1)] rfl (hb hby d6_13) 15 rfl ?_
        refine g_iload X105 hx rfl (hb hby d6_15) 17 rfl ?_
        refine g_sipush X105 hx (255 : Int32) rfl (hb hby d6_17) 20 rfl ?_
        refine g_icmp_le X105 hx (hb hby d6_20) 26 23 (by decide) rfl rfl (fun q116 => ?_) (fun q116 => ?_)
        · refine g_aloadN X105 hx rfl rfl (hb hby d6_26) 27 rfl ?_
          refine g_iloadN X105 hx rfl (hb hby d6_27) 28 rfl ?_
          refine g_iload X105 hx rfl (hb hby d6_28) 30 rfl ?_
          refine g_i2b X105 hx (hb hby d6_30) 31 rfl ?_
          refine g_bastore X105 hx hZ e106 A109 (by decide) (Nat.le_of_ble_eq_true rfl) (hb hby d6_31) 32 rfl (fun T117 h118 X119 e120 W121 A122 => ?_)
          have A123 : AV Z h118 d .byte [(.int c0.toInt8.toInt32.toInt8.toInt32), (.int c1.toInt8.toInt32.toInt8.toInt32)] := A122
          have F124 := F110.other W121 nbd
          have F125 := A123
          have N126 := Fr.snoc X119 N112 g_d
          have szh127 : n0 ≤ h118.size := Nat.le_trans szh113 (Nat.le_of_eq W121.size.symm)
          have K128 := K114.wr W121 (Or.inl (List.mem_of_getElem? (i := 0) rfl))
          show Go p_ e_ below _ T117 (mkF m_ 32 #[.val (.ref b), .val (.int (1 : Int32)), .val (.ref d), .val (.int (1 : Int32)), .val (.int (2 : Int32)), .val (.int (1 : Int32)), .val (.int c1)] [])
          refine g_iinc X119 hx (1 : Int32) rfl rfl #[.val (.ref b), .val (.int (2 : Int32)), .val (.ref d), .val (.int (1 : Int32)), .val (.int (2 : Int32)), .val (.int (1 : Int32)), .val (.int c1)] rfl (hb hby d6_32) 35 rfl ?_
          refine g_iinc X119 hx (1 : Int32) rfl rfl #[.val (.ref b), .val (.int (2 : Int32)), .val (.ref d), .val (.int (2 : Int32)), .val (.int (2 : Int32)), .val (.int (1 : Int32)), .val (.int c1)] rfl (hb hby d6_35) 38 rfl ?_
          refine g_iinc X119 hx (1 : Int32) rfl rfl #[.val (.ref b), .val (.int (2 : Int32)), .val (.ref d), .val (.int (2 : Int32)), .val (.int (2 : Int32)), .val (.int (2 : Int32)), .val (.int c1)] rfl (hb hby d6_38) 41 rfl ?_
          refine g_goto X119 hx (hb hby d6_41) 3 (by decide) rfl ?_
          refine g_iload X119 hx rfl (hb hby d6_3) 5 rfl ?_
          refine g_iload X119 hx rfl (hb hby d6_5) 7 rfl ?_
          refine g_icmp_ge X119 hx (hb hby d6_7) 44 10 (by decide) rfl rfl (fun q129 => ?_) (fun q129 => ?_)
          · refine g_iload X119 hx rfl (hb hby d6_44) 46 rfl ?_
            exact g_reti X119 hx hret hlk (by decide) (by decide) (hb hby d6_46) (by rw [e120]; exact ⟨rfl, N126, K128, A123⟩)
          · exact absurd q129 (by decide)
        · exact absurd q116 l1
    · exact absurd q102 l0
def Q5_2 (Z : State) (b : Addr) (c0 : Int32) (c1 : Int32) (h0 : Heap) (n0 : Nat) (v : Option Value) (h : Heap) (L : List Loc) : Prop := ∃ d, v = some (.ref d) ∧ Fr n0 L ∧ Keep h0 h [] ∧ h0.size ≤ d ∧ AV Z h d .byte [(.int c0.toInt8.toInt32.toInt8.toInt32), (.int c1.toInt8.toInt32.toInt8.toInt32)]
theorem ef5_2 (m_ : MethodId) (b : Addr)  : entryFrame m_ #[(.ref b), (.int (0 : Int32)), (.int (2 : Int32))] 6 = mkF m_ 0 #[.val (.ref b), .val (.int (0 : Int32)), .val (.int (2 : Int32)), .unset, .unset, .unset] [] := by first | (simp [entryFrame, mkF, argsToLocals, Value.category]; done) | rfl
theorem d5_0 : decode jdk_52_method_16_code 0 = .ok (.iload_n 2, 1) := by decide +kernel
theorem d5_1 : decode jdk_52_method_16_code 1 = .ok (.newarray .byte, 2) := by decide +kernel
theorem d5_3 : decode jdk_52_method_16_code 3 = .ok (.astore_n 3, 1) := by decide +kernel
theorem d5_4 : decode jdk_52_method_16_code 4 = .ok (.aload_n 0, 1) := by decide +kernel
theorem d5_5 : decode jdk_52_method_16_code 5 = .ok (.iload_n 1, 1) := by decide +kernel
theorem d5_6 : decode jdk_52_method_16_code 6 = .ok (.aload_n 3, 1) := by decide +kernel
theorem d5_7 : decode jdk_52_method_16_code 7 = .ok (.iconst 0, 1) := by decide +kernel
theorem d5_8 : decode jdk_52_method_16_code 8 = .ok (.iload_n 2, 1) := by decide +kernel
theorem pd_0 : parseMethodDescriptor "([CI[BII)I" = some ⟨[(.array .char), .int, (.array .byte), .int, .int], some .int⟩ := by decide +kernel
theorem d5_9 : decode jdk_52_method_16_code 9 = .ok (.invokestatic 115, 3) := by decide +kernel
theorem d5_12 : decode jdk_52_method_16_code 12 = .ok (.istore 4, 2) := by decide +kernel
theorem d5_14 : decode jdk_52_method_16_code 14 = .ok (.iload 4, 2) := by decide +kernel
theorem d5_16 : decode jdk_52_method_16_code 16 = .ok (.iload_n 2, 1) := by decide +kernel
theorem d5_17 : decode jdk_52_method_16_code 17 = .ok (.if_icmp .eq 40, 3) := by decide +kernel
theorem d5_57 : decode jdk_52_method_16_code 57 = .ok (.aload_n 3, 1) := by decide +kernel
theorem d5_58 : decode jdk_52_method_16_code 58 = .ok (.areturn, 1) := by decide +kernel
set_option maxRecDepth 65536 in
set_option maxHeartbeats 40000000 in
theorem co5_2 (l : Launch) (Z : State) (a0 : Array Value) (hw : ∀ d ∈ tables_1, d.before a0 Z = true) (b : Addr) (c0 : Int32) (c1 : Int32) (h0 : Heap) (n0 : Nat) (Z0 : n0 ≤ h0.size)   (A_b : AV Z h0 b .char [(.int c0), (.int c1)]) (l0 : ¬ (255 : Int32) < c0) (l1 : ¬ (255 : Int32) < c1) : Co l (⟨"java/lang/StringUTF16", "compress", "([CII)[B"⟩ : MethodName) jdk_52_method_16_code 6 (some (.array .byte)) [] ({ frames := 1, cells := 1, slots := 2, locals := 18 } : Room) Z h0 #[(.ref b), (.int (0 : Int32)), (.int (2 : Int32))] (Q5_2 Z b c0 c1 h0 n0) := by
  refine Co.of (plainFor_of_name pn_0) ?_
  intro p_ e_ s_ m_ below meth c_ T0 X0 hx hby hml hown hnm hret hlk hZ eq0
  have N0 := Fr.nil n0
  refine Go.cast (ef5_2 m_ b ) ?_
  refine g_iloadN X0 hx rfl (hb hby d5_0) 1 rfl ?_
  refine g_newarray X0 hx hZ (aty := .byte) (wd hw 19 rfl) eq0 (by decide) 2 (by decide) (by decide) (by decide) (by decide) [(.int (0 : Int32)), (.int (0 : Int32))] rfl (hb hby d5_1) 3 rfl (fun T101 h102 b103 X104 e105 g106 E107 A108 => ?_)
  have ne109 : b ≠ b103 := Nat.ne_of_lt (Nat.lt_of_lt_of_eq A_b.lt g106.symm)
  have F110 := A_b.ext E107
  have sz111 : n0 ≤ b103 := Nat.le_trans Z0 (Nat.le_of_eq g106.symm)
  have szh112 : n0 ≤ h102.size := Nat.le_trans Z0 E107.1
  have szk113 : h0.size ≤ b103 := Nat.le_trans (Keep.refl h0 []).1 (Nat.le_of_eq g106.symm)
  have K114 := (Keep.refl h0 []).ext E107
  have A115 : AV Z h102 b103 .byte [(.int (0 : Int32)), (.int (0 : Int32))] := A108
  show Go p_ e_ below _ T101 (mkF m_ 3 #[.val (.ref b), .val (.int (0 : Int32)), .val (.int (2 : Int32)), .unset, .unset, .unset] [(.ref b103)])
  refine g_astoreN X104 hx #[.val (.ref b), .val (.int (0 : Int32)), .val (.int (2 : Int32)), .val (.ref b103), .unset, .unset] rfl rfl (hb hby d5_3) 4 rfl ?_
  refine g_aloadN X104 hx rfl rfl (hb hby d5_4) 5 rfl ?_
  refine g_iloadN X104 hx rfl (hb hby d5_5) 6 rfl ?_
  refine g_aloadN X104 hx rfl rfl (hb hby d5_6) 7 rfl ?_
  refine g_iconst X104 hx (0 : Int32) rfl (hb hby d5_7) 8 rfl ?_
  refine g_iloadN X104 hx rfl (hb hby d5_8) 9 rfl ?_
  refine g_callS X104 hx hZ hown (wd hw 31 rfl) (wd hw 32 rfl) (wd hw 29 rfl) (wd hw 33 rfl) (by decide) e105 [(.ref b), (.int (0 : Int32)), (.ref b103), (.int (0 : Int32)), (.int (2 : Int32))] [] rfl (co6_2 l Z a0 hw b b103 c0 c1 h102 n0 szh112 sz111 F110 A115 ne109 l0 l1) (lenOf pd_0 rfl) 0 (Nat.le_of_eq rfl) (by decide) (by decide) (by decide) (by decide) (by rw [hml]; rfl) (hb hby d5_9) 12 rfl (fun r116 T117 L118 X119 Q120 => ?_)
  obtain ⟨h121, e122⟩ : ∃ h, T117.heap = h := ⟨_, rfl⟩
  rw [e122] at Q120
  obtain ⟨rfl, n123, K124, A125⟩ := Q120
  have N126 := Fr.app N0 n123
  have F127 := F110.keep K124 (ninS ne109 nin0)
  have szh128 : n0 ≤ h121.size := Nat.le_trans szh112 K124.1
  have K129 := K114.trans K124 (allS (Or.inr szk113) all0)
  show Go p_ e_ below _ T117 (mkF m_ 12 #[.val (.ref b), .val (.int (0 : Int32)), .val (.int (2 : Int32)), .val (.ref b103), .unset, .unset] [(.int (2 : Int32))])
  refine g_istore X119 hx #[.val (.ref b), .val (.int (0 : Int32)), .val (.int (2 : Int32)), .val (.ref b103), .val (.int (2 : Int32)), .unset] rfl (hb hby d5_12) 14 rfl ?_
  refine g_iload X119 hx rfl (hb hby d5_14) 16 rfl ?_
  refine g_iloadN X119 hx rfl (hb hby d5_16) 17 rfl ?_
  refine g_icmp_eq X119 hx (hb hby d5_17) 57 20 (by decide) rfl rfl (fun q17 => ?_) (fun q17 => ?_)
  · refine g_aloadN X119 hx rfl rfl (hb hby d5_57) 58 rfl ?_
    exact g_reta X119 hx rfl rfl hret hlk (by decide) (by decide) (hb hby d5_58) (by rw [e122]; exact ⟨b103, rfl, N126, K129, szk113, A125⟩)
  · exact absurd rfl q17
theorem ef7_2 (m_ : MethodId) (b : Addr)  : entryFrame m_ #[(.ref b), (.int (2 : Int32))] 2 = mkF m_ 0 #[.val (.ref b), .val (.int (2 : Int32))] [] := by first | (simp [entryFrame, mkF, argsToLocals, Value.category]; done) | rfl
theorem d7_0 : decode jdk_52_method_15_code 0 = .ok (.iload_n 1, 1) := by decide +kernel
theorem d7_1 : decode jdk_52_method_15_code 1 = .ok (.aload_n 0, 1) := by decide +kernel
theorem d7_2 : decode jdk_52_method_15_code 2 = .ok (.arraylength, 1) := by decide +kernel
theorem d7_3 : decode jdk_52_method_15_code 3 = .ok (.isub, 1) := by decide +kernel
theorem d7_4 : decode jdk_52_method_15_code 4 = .ok (.bipush 31, 2) := by decide +kernel
theorem d7_6 : decode jdk_52_method_15_code 6 = .ok (.iushr, 1) := by decide +kernel
theorem d7_7 : decode jdk_52_method_15_code 7 = .ok (.i2b, 1) := by decide +kernel
theorem d7_8 : decode jdk_52_method_15_code 8 = .ok (.ireturn, 1) := by decide +kernel
set_option maxRecDepth 65536 in
set_option maxHeartbeats 40000000 in
theorem co7_2 (l : Launch) (Z : State) (a0 : Array Value) (hw : ∀ d ∈ tables_1, d.before a0 Z = true) (b : Addr) (v0 : Value) (v1 : Value) (h0 : Heap) (A_b : AV Z h0 b .byte [v0, v1]) : Co l (⟨"java/lang/StringUTF16", "coderFromArrayLen", "([BI)B"⟩ : MethodName) jdk_52_method_15_code 2 (some .byte) [] ({ frames := 0, cells := 0, slots := 0, locals := 0 } : Room) Z h0 #[(.ref b), (.int (2 : Int32))] (Pu h0 (some (.int ((0 : Int32) )))) := by
  refine Co.of (plainFor_of_name pn_0) ?_
  intro p_ e_ s_ m_ below meth c_ T0 X0 hx hby hml hown hnm hret hlk hZ eq0
  refine Go.cast (ef7_2 m_ b ) ?_
  refine g_iloadN X0 hx rfl (hb hby d7_0) 1 rfl ?_
  refine g_aloadN X0 hx rfl rfl (hb hby d7_1) 2 rfl ?_
  refine g_arraylength X0 hx hZ eq0 A_b (2 : Int32) rfl (hb hby d7_2) 3 rfl ?_
  refine g_isub X0 hx (hb hby d7_3) 4 rfl ?_
  show Go p_ e_ below _ T0 (mkF m_ 4 #[.val (.ref b), .val (.int (2 : Int32))] [(.int (0 : Int32))])
  refine g_bipush X0 hx (31 : Int32) rfl (hb hby d7_4) 6 rfl ?_
  refine g_iushr X0 hx (hb hby d7_6) 7 rfl ?_
  refine g_i2b X0 hx (hb hby d7_7) 8 rfl ?_
  exact g_retb X0 hx hret hlk (by decide) (by decide) (hb hby d7_8) ⟨congrArg (fun z => some (Value.int z)) (by decide), eq0, rfl⟩
def Q3_2 (Z : State) (a : Addr) (b : Addr) (c0 : Int32) (c1 : Int32) (cs : Int32) (h0 : Heap) (n0 : Nat) (v : Option Value) (h : Heap) (L : List Loc) : Prop := v = none ∧ Fr n0 L ∧ Keep h0 h [a] ∧ Exa Z h a "java/lang/String" ∧ Fld Z h a "java/lang/String" "coder" "B" (.int (0 : Int32)) ∧ ∃ d, h0.size ≤ d ∧ Fld Z h a "java/lang/String" "value" "[B" (.ref d) ∧ AV Z h d .byte [(.int c0.toInt8.toInt32.toInt8.toInt32), (.int c1.toInt8.toInt32.toInt8.toInt32)]
theorem ef3_2 (m_ : MethodId) (a : Addr) (b : Addr)  : entryFrame m_ #[(.ref a), (.ref b), (.int (0 : Int32)), (.int (2 : Int32)), .null] 6 = mkF m_ 0 #[.val (.ref a), .val (.ref b), .val (.int (0 : Int32)), .val (.int (2 : Int32)), .val .null, .unset] [] := by first | (simp [entryFrame, mkF, argsToLocals, Value.category]; done) | rfl
theorem pn_1 : plainName "java/lang/String" = true := by first | (simp [plainName, overriddenIn]; done) | decide +kernel
theorem d3_0 : decode jdk_42_method_149_code 0 = .ok (.aload_n 0, 1) := by decide +kernel
theorem d3_1 : decode jdk_42_method_149_code 1 = .ok (.invokespecial 1, 3) := by decide +kernel
theorem d3_4 : decode jdk_42_method_149_code 4 = .ok (.iload_n 3, 1) := by decide +kernel
theorem d3_5 : decode jdk_42_method_149_code 5 = .ok (.ifCond .ne 22, 3) := by decide +kernel
theorem d3_27 : decode jdk_42_method_149_code 27 = .ok (.getstatic 38, 3) := by decide +kernel
theorem d3_30 : decode jdk_42_method_149_code 30 = .ok (.ifCond .eq 28, 3) := by decide +kernel
theorem d3_33 : decode jdk_42_method_149_code 33 = .ok (.aload_n 1, 1) := by decide +kernel
theorem d3_34 : decode jdk_42_method_149_code 34 = .ok (.iload_n 2, 1) := by decide +kernel
theorem d3_35 : decode jdk_42_method_149_code 35 = .ok (.iload_n 3, 1) := by decide +kernel
theorem pd_1 : parseMethodDescriptor "([CII)[B" = some ⟨[(.array .char), .int, .int], some (.array .byte)⟩ := by decide +kernel
theorem d3_36 : decode jdk_42_method_149_code 36 = .ok (.invokestatic 177, 3) := by decide +kernel
theorem d3_39 : decode jdk_42_method_149_code 39 = .ok (.astore 5, 2) := by decide +kernel
theorem d3_41 : decode jdk_42_method_149_code 41 = .ok (.aload_n 0, 1) := by decide +kernel
theorem d3_42 : decode jdk_42_method_149_code 42 = .ok (.aload 5, 2) := by decide +kernel
theorem d3_44 : decode jdk_42_method_149_code 44 = .ok (.iload_n 3, 1) := by decide +kernel
theorem pd_2 : parseMethodDescriptor "([BI)B" = some ⟨[(.array .byte), .int], some .byte⟩ := by decide +kernel
theorem d3_45 : decode jdk_42_method_149_code 45 = .ok (.invokestatic 47, 3) := by decide +kernel
theorem d3_48 : decode jdk_42_method_149_code 48 = .ok (.putfield 15, 3) := by decide +kernel
theorem d3_51 : decode jdk_42_method_149_code 51 = .ok (.aload_n 0, 1) := by decide +kernel
theorem d3_52 : decode jdk_42_method_149_code 52 = .ok (.aload 5, 2) := by decide +kernel
theorem d3_54 : decode jdk_42_method_149_code 54 = .ok (.putfield 9, 3) := by decide +kernel
theorem d3_57 : decode jdk_42_method_149_code 57 = .ok (.return_, 1) := by decide +kernel
set_option maxRecDepth 65536 in
set_option maxHeartbeats 40000000 in
theorem co3_2 (l : Launch) (Z : State) (a0 : Array Value) (hw : ∀ d ∈ tables_1, d.before a0 Z = true) (a : Addr) (b : Addr) (c0 : Int32) (c1 : Int32) (cs : Int32) (h0 : Heap) (n0 : Nat) (Z0 : n0 ≤ h0.size)  (g_a : n0 ≤ a) (E_a : Exa Z h0 a "java/lang/String") (F_c : Fld Z h0 a "java/lang/String" "coder" "B" (.int (0 : Int32))) (F_v : Fld Z h0 a "java/lang/String" "value" "[B" .null) (A_b : AV Z h0 b .char [(.int c0), (.int c1)]) (nba : a ≠ b) (S_cs : Sta Z h0 "java/lang/String" "COMPACT_STRINGS" "Z" (.int cs)) (hcs : ¬ cs = (0 : Int32)) (l0 : ¬ (255 : Int32) < c0) (l1 : ¬ (255 : Int32) < c1) : Co l (⟨"java/lang/String", "<init>", "([CIILjava/lang/Void;)V"⟩ : MethodName) jdk_42_method_149_code 6 none [] ({ frames := 2, cells := 1, slots := 2, locals := 35 } : Room) Z h0 #[(.ref a), (.ref b), (.int (0 : Int32)), (.int (2 : Int32)), .null] (Q3_2 Z a b c0 c1 cs h0 n0) := by
  refine Co.of (plainFor_of_name pn_1) ?_
  intro p_ e_ s_ m_ below meth c_ T0 X0 hx hby hml hown hnm hret hlk hZ eq0
  have N0 := Fr.nil n0
  refine Go.cast (ef3_2 m_ a b ) ?_
  refine g_aloadN X0 hx rfl rfl (hb hby d3_0) 1 rfl ?_
  refine g_initO X0 hx hZ hown (wd hw 15 rfl) (wd hw 16 rfl) (wd hw 17 rfl) eq0 (by rw [hml]; rfl) (hb hby d3_1) (by decide) 0 (Nat.le_of_eq rfl) (by decide) 4 rfl (fun T101 X102 e103 => ?_)
  show Go p_ e_ below _ T101 (mkF m_ 4 #[.val (.ref a), .val (.ref b), .val (.int (0 : Int32)), .val (.int (2 : Int32)), .val .null, .unset] [])
  refine g_iloadN X102 hx rfl (hb hby d3_4) 5 rfl ?_
  refine g_if_ne X102 hx (hb hby d3_5) 27 8 (by decide) rfl rfl (fun q5 => ?_) (fun q5 => ?_)
  · refine g_getstatic X102 hx hZ hown (host := "") (Or.inl (wd hw 26 rfl)) Via.refl S_cs e103 (hb hby d3_27) 30 rfl (fun T104 X105 e106 => ?_)
    show Go p_ e_ below _ T104 (mkF m_ 30 #[.val (.ref a), .val (.ref b), .val (.int (0 : Int32)), .val (.int (2 : Int32)), .val .null, .unset] [(.int cs)])
    refine g_if_eq X105 hx (hb hby d3_30) 58 33 (by decide) rfl rfl (fun q30 => ?_) (fun q30 => ?_)
    · exact absurd q30 hcs
    · refine g_aloadN X105 hx rfl rfl (hb hby d3_33) 34 rfl ?_
      refine g_iloadN X105 hx rfl (hb hby d3_34) 35 rfl ?_
      refine g_iloadN X105 hx rfl (hb hby d3_35) 36 rfl ?_
      refine g_callS X105 hx hZ hown (wd hw 27 rfl) (wd hw 28 rfl) (wd hw 29 rfl) (wd hw 30 rfl) (by decide) e106 [(.ref b), (.int (0 : Int32)), (.int (2 : Int32))] [] rfl (co5_2 l Z a0 hw b c0 c1 h0 n0 Z0 A_b l0 l1) (lenOf pd_1 rfl) 0 (Nat.le_of_eq rfl) (by decide) (by decide) (by decide) (by decide) (by rw [hml]; rfl) (hb hby d3_36) 39 rfl (fun r107 T108 L109 X110 Q111 => ?_)
      obtain ⟨h112, e113⟩ : ∃ h, T108.heap = h := ⟨_, rfl⟩
      rw [e113] at Q111
      obtain ⟨b114, rfl, n115, K116, sz117, A118⟩ := Q111
      have N119 := Fr.app N0 n115
      have ne120 : a ≠ b114 := Nat.ne_of_lt (Nat.lt_of_lt_of_le E_a.lt sz117)
      have ne121 : b ≠ b114 := Nat.ne_of_lt (Nat.lt_of_lt_of_le A_b.lt sz117)
      have F122 := E_a.keep K116
      have F123 := F_c.keep K116 nin0
      have F124 := F_v.keep K116 nin0
      have F125 := A_b.keep K116 nin0
      have F126 := own_sta_keep S_cs K116 ns0
      have szh127 : n0 ≤ h112.size := Nat.le_trans Z0 K116.1
      have K128 := (Keep.refl h0 [a]).trans K116 all0
      show Go p_ e_ below _ T108 (mkF m_ 39 #[.val (.ref a), .val (.ref b), .val (.int (0 : Int32)), .val (.int (2 : Int32)), .val .null, .unset] [(.ref b114)])
      refine g_astore X110 hx #[.val (.ref a), .val (.ref b), .val (.int (0 : Int32)), .val (.int (2 : Int32)), .val .null, .val (.ref b114)] rfl rfl (hb hby d3_39) 41 rfl ?_
      refine g_aloadN X110 hx rfl rfl (hb hby d3_41) 42 rfl ?_
      refine g_aload X110 hx rfl rfl (hb hby d3_42) 44 rfl ?_
      refine g_iloadN X110 hx rfl (hb hby d3_44) 45 rfl ?_
      refine g_callS X110 hx hZ hown (wd hw 34 rfl) (wd hw 35 rfl) (wd hw 29 rfl) (wd hw 36 rfl) (by decide) e113 [(.ref b114), (.int (2 : Int32))] [(.ref a)]  rfl (co7_2 l Z a0 hw b114 (.int c0.toInt8.toInt32.toInt8.toInt32) (.int c1.toInt8.toInt32.toInt8.toInt32) h112 A118) (lenOf pd_2 rfl) 1 (Nat.le_of_eq rfl) (by decide) (by decide) (by decide) (by decide) (by rw [hml]; rfl) (hb hby d3_45) 48 rfl (pu_cont fun T130 X129 e131 => ?_)
      show Go p_ e_ below _ T130 (mkF m_ 48 #[.val (.ref a), .val (.ref b), .val (.int (0 : Int32)), .val (.int (2 : Int32)), .val .null, .val (.ref b114)] [(.int (0 : Int32)), (.ref a)])
      refine g_putfield X129 hx hZ hown (host := "") (Or.inl (wd hw 25 rfl)) Via.refl e131 F123 F122 (Or.inr ⟨(wd hw 21 rfl), rfl, hnm⟩) (wd hw 5 rfl) (ty := .byte) (by decide) rfl rfl (hb hby d3_48) 51 rfl (fun T132 h133 X134 e135 W136 => ?_)
      have F137 := F122.wr W136
      have F138 := F123.same W136
      have F139 := F124.other W136 (Or.inr (slot_ne (Or.inr (wd hw 20 rfl)) (Or.inr (wd hw 21 rfl)) (by decide) (t := (.array .byte)) (t' := .byte) (by decide) (by decide)))
      have F140 := F125.other W136 (Ne.symm nba)
      have F141 := F126.wr W136
      have F142 := A118.other W136 (Ne.symm ne120)
      have N143 := Fr.snoc X134 N119 g_a
      have szh144 : n0 ≤ h133.size := Nat.le_trans szh127 (Nat.le_of_eq W136.size.symm)
      have K145 := K128.wr W136 (Or.inl (List.mem_of_getElem? (i := 0) rfl))
      show Go p_ e_ below _ T132 (mkF m_ 51 #[.val (.ref a), .val (.ref b), .val (.int (0 : Int32)), .val (.int (2 : Int32)), .val .null, .val (.ref b114)] [])
      refine g_aloadN X134 hx rfl rfl (hb hby d3_51) 52 rfl ?_
      refine g_aload X134 hx rfl rfl (hb hby d3_52) 54 rfl ?_
      refine g_putfield X134 hx hZ hown (host := "") (Or.inl (wd hw 24 rfl)) Via.refl e135 F139 F137 (Or.inr ⟨(wd hw 20 rfl), rfl, hnm⟩) (wd hw 5 rfl) (ty := (.array .byte)) (by decide) rfl rfl (hb hby d3_54) 57 rfl (fun T146 h147 X148 e149 W150 => ?_)
      have F151 := F137.wr W150
      have F152 := F138.other W150 (Or.inr (slot_ne (Or.inr (wd hw 21 rfl)) (Or.inr (wd hw 20 rfl)) (by decide) (t := .byte) (t' := (.array .byte)) (by decide) (by decide)))
      have F153 := F139.same W150
      have F154 := F140.other W150 (Ne.symm nba)
      have F155 := F141.wr W150
      have F156 := F142.other W150 (Ne.symm ne120)
      have N157 := Fr.snoc X148 N143 g_a
      have szh158 : n0 ≤ h147.size := Nat.le_trans szh144 (Nat.le_of_eq W150.size.symm)
      have K159 := K145.wr W150 (Or.inl (List.mem_of_getElem? (i := 0) rfl))
      show Go p_ e_ below _ T146 (mkF m_ 57 #[.val (.ref a), .val (.ref b), .val (.int (0 : Int32)), .val (.int (2 : Int32)), .val .null, .val (.ref b114)] [])
      exact g_retv X148 hx hret hlk (by decide) (by decide) (hb hby d3_57) (by rw [e149]; exact ⟨rfl, N157, K159, F151, F152, b114, sz117, F153, F156⟩)
  · exact absurd q5 (by decide)
def Q2_2 (Z : State) (a : Addr) (b : Addr) (c0 : Int32) (c1 : Int32) (cs : Int32) (h0 : Heap) (n0 : Nat) (v : Option Value) (h : Heap) (L : List Loc) : Prop := v = none ∧ Fr n0 L ∧ Keep h0 h [a] ∧ Exa Z h a "java/lang/String" ∧ Fld Z h a "java/lang/String" "coder" "B" (.int (0 : Int32)) ∧ ∃ d, h0.size ≤ d ∧ Fld Z h a "java/lang/String" "value" "[B" (.ref d) ∧ AV Z h d .byte [(.int c0.toInt8.toInt32.toInt8.toInt32), (.int c1.toInt8.toInt32.toInt8.toInt32)]
theorem ef2_2 (m_ : MethodId) (a : Addr) (b : Addr)  : entryFrame m_ #[(.ref a), (.ref b)] 2 = mkF m_ 0 #[.val (.ref a), .val (.ref b)] [] := by first | (simp [entryFrame, mkF, argsToLocals, Value.category]; done) | rfl
theorem d2_0 : decode jdk_42_method_3_code 0 = .ok (.aload_n 0, 1) := by decide +kernel
theorem d2_1 : decode jdk_42_method_3_code 1 = .ok (.aload_n 1, 1) := by decide +kernel
theorem d2_2 : decode jdk_42_method_3_code 2 = .ok (.iconst 0, 1) := by decide +kernel
theorem d2_3 : decode jdk_42_method_3_code 3 = .ok (.aload_n 1, 1) := by decide +kernel
theorem d2_4 : decode jdk_42_method_3_code 4 = .ok (.arraylength, 1) := by decide +kernel
theorem d2_5 : decode jdk_42_method_3_code 5 = .ok (.aconst_null, 1) := by decide +kernel
theorem pd_3 : parseMethodDescriptor "([CIILjava/lang/Void;)V" = some ⟨[(.array .char), .int, .int, (.object "java/lang/Void")], none⟩ := by decide +kernel
theorem d2_6 : decode jdk_42_method_3_code 6 = .ok (.invokespecial 27, 3) := by decide +kernel
theorem d2_9 : decode jdk_42_method_3_code 9 = .ok (.return_, 1) := by decide +kernel
set_option maxRecDepth 65536 in
set_option maxHeartbeats 40000000 in
theorem co2_2 (l : Launch) (Z : State) (a0 : Array Value) (hw : ∀ d ∈ tables_1, d.before a0 Z = true) (a : Addr) (b : Addr) (c0 : Int32) (c1 : Int32) (cs : Int32) (h0 : Heap) (n0 : Nat) (Z0 : n0 ≤ h0.size)  (g_a : n0 ≤ a) (E_a : Exa Z h0 a "java/lang/String") (F_c : Fld Z h0 a "java/lang/String" "coder" "B" (.int (0 : Int32))) (F_v : Fld Z h0 a "java/lang/String" "value" "[B" .null) (A_b : AV Z h0 b .char [(.int c0), (.int c1)]) (nba : a ≠ b) (S_cs : Sta Z h0 "java/lang/String" "COMPACT_STRINGS" "Z" (.int cs)) (hcs : ¬ cs = (0 : Int32)) (l0 : ¬ (255 : Int32) < c0) (l1 : ¬ (255 : Int32) < c1) : Co l (⟨"java/lang/String", "<init>", "([C)V"⟩ : MethodName) jdk_42_method_3_code 2 none [] ({ frames := 3, cells := 1, slots := 2, locals := 52 } : Room) Z h0 #[(.ref a), (.ref b)] (Q2_2 Z a b c0 c1 cs h0 n0) := by
  refine Co.of (plainFor_of_name pn_1) ?_
  intro p_ e_ s_ m_ below meth c_ T0 X0 hx hby hml hown hnm hret hlk hZ eq0
  have N0 := Fr.nil n0
  refine Go.cast (ef2_2 m_ a b ) ?_
  refine g_aloadN X0 hx rfl rfl (hb hby d2_0) 1 rfl ?_
  refine g_aloadN X0 hx rfl rfl (hb hby d2_1) 2 rfl ?_
  refine g_iconst X0 hx (0 : Int32) rfl (hb hby d2_2) 3 rfl ?_
  refine g_aloadN X0 hx rfl rfl (hb hby d2_3) 4 rfl ?_
  refine g_arraylength X0 hx hZ eq0 A_b (2 : Int32) rfl (hb hby d2_4) 5 rfl ?_
  refine g_aconst_null X0 hx (hb hby d2_5) 6 rfl ?_
  refine g_init X0 hx hZ hown (wd hw 11 rfl) rfl (wd hw 12 rfl) (wd hw 6 rfl) (wd hw 14 rfl) (by decide) eq0 [(.ref b), (.int (0 : Int32)), (.int (2 : Int32)), .null] [] rfl (co3_2 l Z a0 hw a b c0 c1 cs h0 n0 Z0 g_a E_a F_c F_v A_b nba S_cs hcs l0 l1) (lenOf pd_3 rfl) 0 (Nat.le_of_eq rfl) (by decide) (by decide) (by decide) (by decide) (by rw [hml]; rfl) (hb hby d2_6) 9 rfl (fun r101 T102 L103 X104 Q105 => ?_)
  obtain ⟨h106, e107⟩ : ∃ h, T102.heap = h := ⟨_, rfl⟩
  rw [e107] at Q105
  obtain ⟨rfl, n108, K109, E110, F111, b112, sz113, F114, A115⟩ := Q105
  have N116 := Fr.app N0 n108
  have ne117 : a ≠ b112 := Nat.ne_of_lt (Nat.lt_of_lt_of_le E_a.lt sz113)
  have ne118 : b ≠ b112 := Nat.ne_of_lt (Nat.lt_of_lt_of_le A_b.lt sz113)
  have F119 := E_a.keep K109
  have F120 := A_b.keep K109 (ninS (Ne.symm nba) nin0)
  have F121 := own_sta_keep S_cs K109 (nsS E_a.nostat ns0)
  have szh122 : n0 ≤ h106.size := Nat.le_trans Z0 K109.1
  have K123 := (Keep.refl h0 [a]).trans K109 (allS (Or.inl (List.mem_of_getElem? (i := 0) rfl)) all0)
  show Go p_ e_ below _ T102 (mkF m_ 9 #[.val (.ref a), .val (.ref b)] [])
  exact g_retv X104 hx hret hlk (by decide) (by decide) (hb hby d2_9) (by rw [e107]; exact ⟨rfl, N116, K123, E110, F111, b112, sz113, F114, A115⟩)
def Q6_3 (Z : State) (b : Addr) (d : Addr) (c0 : Int32) (c1 : Int32) (c2 : Int32) (h0 : Heap) (n0 : Nat) (v : Option Value) (h : Heap) (L : List Loc) : Prop := v = some (.int (3 : Int32)) ∧ Fr n0 L ∧ Keep h0 h [d] ∧ AV Z h d .byte [(.int c0.toInt8.toInt32.toInt8.toInt32), (.int c1.toInt8.toInt32.toInt8.toInt32), (.int c2.toInt8.toInt32.toInt8.toInt32)]
theorem ef6_3 (m_ : MethodId) (b : Addr) (d : Addr)  : entryFrame m_ #[(.ref b), (.int (0 : Int32)), (.ref d), (.int (0 : Int32)), (.int (3 : Int32))] 7 = mkF m_ 0 #[.val (.ref b), .val (.int (0 : Int32)), .val (.ref d), .val (.int (0 : Int32)), .val (.int (3 : Int32)), .unset, .unset] [] := by first | (simp [entryFrame, mkF, argsToLocals, Value.category]; done) | rfl
set_option maxRecDepth 65536 in
set_option maxHeartbeats 40000000 in
theorem co6_3 (l : Launch) (Z : State) (a0 : Array Value) (hw : ∀ d ∈ tables_1, d.before a0 Z = true) (b : Addr) (d : Addr) (c0 : Int32) (c1 : Int32) (c2 : Int32) (h0 : Heap) (n0 : Nat) (Z0 : n0 ≤ h0.size)  (g_d : n0 ≤ d) (A_b : AV Z h0 b .char [(.int c0), (.int c1), (.int c2)]) (A_d : AV Z h0 d .byte [(.int (0 : Int32)), (.int (0 : Int32)), (.int (0 : Int32))]) (nbd : b ≠ d) (l0 : ¬ (255 : Int32) < c0) (l1 : ¬ (255 : Int32) < c1) (l2 : ¬ (255 : Int32) < c2) : Co l (⟨"java/lang/StringUTF16", "compress", "([CI[BII)I"⟩ : MethodName) jdk_52_method_21_code 7 (some .int) [] ({ frames := 0, cells := 0, slots := 0, locals := 0 } : Room) Z h0 #[(.ref b), (.int (0 : Int32)), (.ref d), (.int (0 : Int32)), (.int (3 : Int32))] (Q6_3 Z b d c0 c1 c2 h0 n0) := by
  refine Co.of (plainFor_of_name pn_0) ?_
  intro p_ e_ s_ m_ below meth c_ T0 X0 hx hby hml hown hnm hret hlk hZ eq0
  have N0 := Fr.nil n0
  refine Go.cast (ef6_3 m_ b d ) ?_
  refine g_iconst X0 hx (0 : Int32) rfl (hb hby d6_0) 1 rfl ?_
  refine g_istore X0 hx #[.val (.ref b), .val (.int (0 : Int32)), .val (.ref d), .val (.int (0 : Int32)), .val (.int (3 : Int32)), .val (.int (0 : Int32)), .unset] rfl (hb hby d6_1) 3 rfl ?_
  refine g_iload X0 hx rfl (hb hby d6_3) 5 rfl ?_
  refine g_iload X0 hx rfl (hb hby d6_5) 7 rfl ?_
  refine g_icmp_ge X0 hx (hb hby d6_7) 44 10 (by decide) rfl rfl (fun q101 => ?_) (fun q101 => ?_)
  · exact absurd q101 (by decide)
  · refine g_aloadN X0 hx rfl rfl (hb hby d6_10) 11 rfl ?_
    refine g_iloadN X0 hx rfl (hb hby d6_11) 12 rfl ?_
    refine g_caload X0 hx hZ eq0 A_b (by decide) rfl (hb hby d6_12) 13 rfl ?_
    show Go p_ e_ below _ T0 (mkF m_ 13 #[.val (.ref b), .val (.int (0 : Int32)), .val (.ref d), .val (.int (0 : Int32)), .val (.int (3 : Int32)), .val (.int (0 : Int32)), .unset] [(.int c0)])
    refine g_istore X0 hx #[.val (.ref b), .val (.int (0 : Int32)), .val (.ref d), .val (.int (0 : Int32)), .val (.int (3 : Int32)), .val (.int (0 : Int32)), .val (.int c0)] rfl (hb hby d6_13) 15 rfl ?_
    refine g_iload X0 hx rfl (hb hby d6_15) 17 rfl ?_
    refine g_sipush X0 hx (255 : Int32) rfl (hb hby d6_17) 20 rfl ?_
    refine g_icmp_le X0 hx (hb hby d6_20) 26 23 (by decide) rfl rfl (fun q102 => ?_) (fun q102 => ?_)
    · refine g_aloadN X0 hx rfl rfl (hb hby d6_26) 27 rfl ?_
      refine g_iloadN X0 hx rfl (hb hby d6_27) 28 rfl ?_
      refine g_iload X0 hx rfl (hb hby d6_28) 30 rfl ?_
      refine g_i2b X0 hx (hb hby d6_30) 31 rfl ?_
      refine g_bastore X0 hx hZ eq0 A_d (by decide) (Nat.le_of_ble_eq_true rfl) (hb hby d6_31) 32 rfl (fun T103 h104 X105 e106 W107 A108 => ?_)
      have A109 : AV Z h104 d .byte [(.int c0.toInt8.toInt32.toInt8.toInt32), (.int (0 : Int32)), (.int (0 : Int32))] := A108
      have F110 := A_b.other W107 nbd
      have F111 := A109
      have N112 := Fr.snoc X105 N0 g_d
      have szh113 : n0 ≤ h104.size := Nat.le_trans Z0 (Nat.le_of_eq W107.size.symm)
      have K114 := (Keep.refl h0 [d]).wr W107 (Or.inl (List.mem_of_getElem? (i := 0) rfl))
      show Go p_ e_ below _ T103 (mkF m_ 32 #[.val (.ref b), .val (.int (0 : Int32)), .val (.ref d), .val (.int (0 : Int32)), .val (.int (3 : Int32)), .val (.int (0 : Int32)), .val (.int c0)] [])
      refine g_iinc X105 hx (1 : Int32) rfl rfl #[.val (.ref b), .val (.int (1 : Int32)), .val (.ref d), .val (.int (0 : Int32)), .val (.int (3 : Int32)), .val (.int (0 : Int32)), .val (.int c0)] rfl (hb hby d6_32) 35 rfl ?_
      refine g_iinc X105 hx (1 : Int32) rfl rfl #[.val (.ref b), .val (.int (1 : Int32)), .val (.ref d), .val (.int (1 : Int32)), .val (.int (3 : Int32)), .val (.int (0 : Int32)), .val (.int c0)] rfl (hb hby d6_35) 38 rfl ?_
      refine g_iinc X105 hx (1 : Int32) rfl rfl #[.val (.ref b), .val (.int (1 : Int32)), .val (.ref d), .val (.int (1 : Int32)), .val (.int (3 : Int32)), .val (.int (1 : Int32)), .val (.int c0)] rfl (hb hby d6_38) 41 rfl ?_
      refine g_goto X105 hx (hb hby d6_41) 3 (by decide) rfl ?_
      refine g_iload X105 hx rfl (hb hby d6_3) 5 rfl ?_
      refine g_iload X105 hx rfl (hb hby d6_5) 7 rfl ?_
      refine g_icmp_ge X105 hx (hb hby d6_7) 44 10 (by decide) rfl rfl (fun q115 => ?_) (fun q115 => ?_)
      · exact absurd q115 (by decide)
      · refine g_aloadN X105 hx rfl rfl (hb hby d6_10) 11 rfl ?_
        refine g_iloadN X105 hx rfl (hb hby d6_11) 12 rfl ?_
        refine g_caload X105 hx hZ e106 F110 (by decide) rfl (hb hby d6_12) 13 rfl ?_
        show Go p_ e_ below _ T103 (mkF m_ 13 #[.val (.ref b), .val (.int (1 : Int32)), .val (.ref d), .val (.int (1 : Int32)), .val (.int (3 : Int32)), .val (.int (1 : Int32)), .val (.int c0)] [(.int c1)])
        refine g_istore X105 hx #[.val (.ref b), .val (.int (1 : Int32)), .val (.ref d), .val (.int (1 : Int32)), .val (.int (3 : Int32)), .val (.int (1 : Int32)), .val (.int c1)] rfl (hb hby d6_13) 15 rfl ?_
        refine g_iload X105 hx rfl (hb hby d6_15) 17 rfl ?_
        refine g_sipush X105 hx (255 : Int32) rfl (hb hby d6_17) 20 rfl ?_
        refine g_icmp_le X105 hx (hb hby d6_20) 26 23 (by decide) rfl rfl (fun q116 => ?_) (fun q116 => ?_)
        · refine g_aloadN X105 hx rfl rfl (hb hby d6_26) 27 rfl ?_
          refine g_iloadN X105 hx rfl (hb hby d6_27) 28 rfl ?_
          refine g_iload X105 hx rfl (hb hby d6_28) 30 rfl ?_
          refine g_i2b X105 hx (hb hby d6_30) 31 rfl ?_
          refine g_bastore X105 hx hZ e106 A109 (by decide) (Nat.le_of_ble_eq_true rfl) (hb hby d6_31) 32 rfl (fun T117 h118 X119 e120 W121 A122 => ?_)
          have A123 : AV Z h118 d .byte [(.int c0.toInt8.toInt32.toInt8.toInt32), (.int c1.toInt8.toInt32.toInt8.toInt32), (.int (0 : Int32))] := A122
          have F124 := F110.other W121 nbd
          have F125 := A123
          have N126 := Fr.snoc X119 N112 g_d
          have szh127 : n0 ≤ h118.size := Nat.le_trans szh113 (Nat.le_of_eq W121.size.symm)
          have K128 := K114.wr W121 (Or.inl (List.mem_of_getElem? (i := 0) rfl))
          show Go p_ e_ below _ T117 (mkF m_ 32 #[.val (.ref b), .val (.int (1 : Int32)), .val (.ref d), .val (.int (1 : Int32)), .val (.int (3 : Int32)), .val (.int (1 : Int32)), .val (.int c1)] [])
          refine g_iinc X119 hx (1 : Int32) rfl rfl #[.val (.ref b), .val (.int (2 : Int32)), .val (.ref d), .val (.int (1 : Int32)), .val (.int (3 : Int32)), .val (.int (1 : Int32)), .val (.int c1)] rfl (hb hby d6_32) 35 rfl ?_
          refine g_iinc X119 hx (1 : Int32) rfl rfl #[.val (.ref b), .val (.int (2 : Int32)), .val (.ref d), .val (.int (2 : Int32)), .val (.int (3 : Int32)), .val (.int (1 : Int32)), .val (.int c1)] rfl (hb hby d6_35) 38 rfl ?_
          refine g_iinc X119 hx (1 : Int32) rfl rfl #[.val (.ref b), .val (.int (2 : Int32)), .val (.ref d), .val (.int (2 : Int32)), .val (.int (3 : Int32)), .val (.int (2 : Int32)), .val (.int c1)] rfl (hb hby d6_38) 41 rfl ?_
          refine g_goto X119 hx (hb hby d6_41) 3 (by decide) rfl ?_
          refine g_iload X119 hx rfl (hb hby d6_3) 5 rfl ?_
          refine g_iload X119 hx rfl (hb hby d6_5) 7 rfl ?_
          refine g_icmp_ge X119 hx (hb hby d6_7) 44 10 (by decide) rfl rfl (fun q129 => ?_) (fun q129 => ?_)
          · exact absurd q129 (by decide)
          · refine g_aloadN X119 hx rfl rfl (hb hby d6_10) 11 rfl ?_
            refine g_iloadN X119 hx rfl (hb hby d6_11) 12 rfl ?_
            refine g_caload X119 hx hZ e120 F124 (by decide) rfl (hb hby d6_12) 13 rfl ?_
            show Go p_ e_ below _ T117 (mkF m_ 13 #[.val (.ref b), .val (.int (2 : Int32)), .val (.ref d), .val (.int (2 : Int32)), .val (.int (3 : Int32)), .val (.int (2 : Int32)), .val (.int c1)] [(.int c2)])
            refine g_istore X119 hx #[.val (.ref b), .val (.int (2 : Int32)), .val (.ref d), .val (.int (2 : Int32)), .val (.int (3 : Int32)), .val (.int (2 : Int32)), .val (.int c2)] rfl (hb hby d6_13) 15 rfl ?_
            refine g_iload X119 hx rfl (hb hby d6_15) 17 rfl ?_
            refine g_sipush X119 hx (255 : Int32) rfl (hb hby d6_17) 20 rfl ?_
            refine g_icmp_le X119 hx (hb hby d6_20) 26 23 (by decide) rfl rfl (fun q130 => ?_) (fun q130 => ?_)
            · refine g_aloadN X119 hx rfl rfl (hb hby d6_26) 27 rfl ?_
              refine g_iloadN X119 hx rfl (hb hby d6_27) 28 rfl ?_
              refine g_iload X119 hx rfl (hb hby d6_28) 30 rfl ?_
              refine g_i2b X119 hx (hb hby d6_30) 31 rfl ?_
              refine g_bastore X119 hx hZ e120 A123 (by decide) (Nat.le_of_ble_eq_true rfl) (hb hby d6_31) 32 rfl (fun T131 h132 X133 e134 W135 A136 => ?_)
              have A137 : AV Z h132 d .byte [(.int c0.toInt8.toInt32.toInt8.toInt32), (.int c1.toInt8.toInt32.toInt8.toInt32), (.int c2.toInt8.toInt32.toInt8.toInt32)] := A136
              have F138 := F124.other W135 nbd
              have F139 := A137
              have N140 := Fr.snoc X133 N126 g_d
              have szh141 : n0 ≤ h132.size := Nat.le_trans szh127 (Nat.le_of_eq W135.size.symm)
              have K142 := K128.wr W135 (Or.inl (List.mem_of_getElem? (i := 0) rfl))
              show Go p_ e_ below _ T131 (mkF m_ 32 #[.val (.ref b), .val (.int (2 : Int32)), .val (.ref d), .val (.int (2 : Int32)), .val (.int (3 : Int32)), .val (.int (2 : Int32)), .val (.int c2)] [])
              refine g_iinc X133 hx (1 : Int32) rfl rfl #[.val (.ref b), .val (.int (3 : Int32)), .val (.ref d), .val (.int (2 : Int32)), .val (.int (3 : Int32)), .val (.int (2 : Int32)), .val (.int c2)] rfl (hb hby d6_32) 35 rfl ?_
              refine g_iinc X133 hx (1 : Int32) rfl rfl #[.val (.ref b), .val (.int (3 : Int32)), .val (.ref d), .val (.int (3 : Int32)), .val (.int (3 : Int32)), .val (.int (2 : Int32)), .val (.int c2)] rfl (hb hby d6_35) 38 rfl ?_
              refine g_iinc X133 hx (1 : Int32) rfl rfl #[.val (.ref b), .val (.int (3 : Int32)), .val (.ref d), .val (.int (3 : Int32)), .val (.int (3 : Int32)), .val (.int (3 : Int32)), .val (.int c2)] rfl (hb hby d6_38) 41 rfl ?_
              refine g_goto X133 hx (hb hby d6_41) 3 (by decide) rfl ?_
              refine g_iload X133 hx rfl (hb hby d6_3) 5 rfl ?_
              refine g_iload X133 hx rfl (hb hby d6_5) 7 rfl ?_
              refine g_icmp_ge X133 hx (hb hby d6_7) 44 10 (by decide) rfl rfl (fun q143 => ?_) (fun q143 => ?_)
              · refine g_iload X133 hx rfl (hb hby d6_44) 46 rfl ?_
                exact g_reti X133 hx hret hlk (by decide) (by decide) (hb hby d6_46) (by rw [e134]; exact ⟨rfl, N140, K142, A137⟩)
              · exact absurd q143 (by decide)
            · exact absurd q130 l2
        · exact absurd q116 l1
    · exact absurd q102 l0
def Q5_3 (Z : State) (b : Addr) (c0 : Int32) (c1 : Int32) (c2 : Int32) (h0 : Heap) (n0 : Nat) (v : Option Value) (h : Heap) (L : List Loc) : Prop := ∃ d, v = some (.ref d) ∧ Fr n0 L ∧ Keep h0 h [] ∧ h0.size ≤ d ∧ AV Z h d .byte [(.int c0.toInt8.toInt32.toInt8.toInt32), (.int c1.toInt8.toInt32.toInt8.toInt32), (.int c2.toInt8.toInt32.toInt8.toInt32)]
theorem ef5_3 (m_ : MethodId) (b : Addr)  : entryFrame m_ #[(.ref b), (.int (0 : Int32)), (.int (3 : Int32))] 6 = mkF m_ 0 #[.val (.ref b), .val (.int (0 : Int32)), .val (.int (3 : Int32)), .unset, .unset, .unset] [] := by first | (simp [entryFrame, mkF, argsToLocals, Value.category]; done) | rfl
set_option maxRecDepth 65536 in
set_option maxHeartbeats 40000000 in
theorem co5_3 (l : Launch) (Z : State) (a0 : Array Value) (hw : ∀ d ∈ tables_1, d.before a0 Z = true) (b : Addr) (c0 : Int32) (c1 : Int32) (c2 : Int32) (h0 : Heap) (n0 : Nat) (Z0 : n0 ≤ h0.size)   (A_b : AV Z h0 b .char [(.int c0), (.int c1), (.int c2)]) (l0 : ¬ (255 : Int32) < c0) (l1 : ¬ (255 : Int32) < c1) (l2 : ¬ (255 : Int32) < c2) : Co l (⟨"java/lang/StringUTF16", "compress", "([CII)[B"⟩ : MethodName) jdk_52_method_16_code 6 (some (.array .byte)) [] ({ frames := 1, cells := 1, slots := 3, locals := 18 } : Room) Z h0 #[(.ref b), (.int (0 : Int32)), (.int (3 : Int32))] (Q5_3 Z b c0 c1 c2 h0 n0) := by
  refine Co.of (plainFor_of_name pn_0) ?_
  intro p_ e_ s_ m_ below meth c_ T0 X0 hx hby hml hown hnm hret hlk hZ eq0
  have N0 := Fr.nil n0
  refine Go.cast (ef5_3 m_ b ) ?_
  refine g_iloadN X0 hx rfl (hb hby d5_0) 1 rfl ?_
  refine g_newarray X0 hx hZ (aty := .byte) (wd hw 19 rfl) eq0 (by decide) 3 (by decide) (by decide) (by decide) (by decide) [(.int (0 : Int32)), (.int (0 : Int32)), (.int (0 : Int32))] rfl (hb hby d5_1) 3 rfl (fun T101 h102 b103 X104 e105 g106 E107 A108 => ?_)
  have ne109 : b ≠ b103 := Nat.ne_of_lt (Nat.lt_of_lt_of_eq A_b.lt g106.symm)
  have F110 := A_b.ext E107
  have sz111 : n0 ≤ b103 := Nat.le_trans Z0 (Nat.le_of_eq g106.symm)
  have szh112 : n0 ≤ h102.size := Nat.le_trans Z0 E107.1
  have szk113 : h0.size ≤ b103 := Nat.le_trans (Keep.refl h0 []).1 (Nat.le_of_eq g106.symm)
  have K114 := (Keep.refl h0 []).ext E107
  have A115 : AV Z h102 b103 .byte [(.int (0 : Int32)), (.int (0 : Int32)), (.int (0 : Int32))] := A108
  show Go p_ e_ below _ T101 (mkF m_ 3 #[.val (.ref b), .val (.int (0 : Int32)), .val (.int (3 : Int32)), .unset, .unset, .unset] [(.ref b103)])
  refine g_astoreN X104 hx #[.val (.ref b), .val (.int (0 : Int32)), .val (.int (3 : Int32)), .val (.ref b103), .unset, .unset] rfl rfl (hb hby d5_3) 4 rfl ?_
  refine g_aloadN X104 hx rfl rfl (hb hby d5_4) 5 rfl ?_
  refine g_iloadN X104 hx rfl (hb hby d5_5) 6 rfl ?_
  refine g_aloadN X104 hx rfl rfl (hb hby d5_6) 7 rfl ?_
  refine g_iconst X104 hx (0 : Int32) rfl (hb hby d5_7) 8 rfl ?_
  refine g_iloadN X104 hx rfl (hb hby d5_8) 9 rfl ?_
  refine g_callS X104 hx hZ hown (wd hw 31 rfl) (wd hw 32 rfl) (wd hw 29 rfl) (wd hw 33 rfl) (by decide) e105 [(.ref b), (.int (0 : Int32)), (.ref b103), (.int (0 : Int32)), (.int (3 : Int32))] [] rfl (co6_3 l Z a0 hw b b103 c0 c1 c2 h102 n0 szh112 sz111 F110 A115 ne109 l0 l1 l2) (lenOf pd_0 rfl) 0 (Nat.le_of_eq rfl) (by decide) (by decide) (by decide) (by decide) (by rw [hml]; rfl) (hb hby d5_9) 12 rfl (fun r116 T117 L118 X119 Q120 => ?_)
  obtain ⟨h121, e122⟩ : ∃ h, T117.heap = h := ⟨_, rfl⟩
  rw [e122] at Q120
  obtain ⟨rfl, n123, K124, A125⟩ := Q120
  have N126 := Fr.app N0 n123
  have F127 := F110.keep K124 (ninS ne109 nin0)
  have szh128 : n0 ≤ h121.size := Nat.le_trans szh112 K124.1
  have K129 := K114.trans K124 (allS (Or.inr szk113) all0)
  show Go p_ e_ below _ T117 (mkF m_ 12 #[.val (.ref b), .val (.int (0 : Int32)), .val (.int (3 : Int32)), .val (.ref b103), .unset, .unset] [(.int (3 : Int32))])
  refine g_istore X119 hx #[.val (.ref b), .val (.int (0 : Int32)), .val (.int (3 : Int32)), .val (.ref b103), .val (.int (3 : Int32)), .unset] rfl (hb hby d5_12) 14 rfl ?_
  refine g_iload X119 hx rfl (hb hby d5_14) 16 rfl ?_
  refine g_iloadN X119 hx rfl (hb hby d5_16) 17 rfl ?_
  refine g_icmp_eq X119 hx (hb hby d5_17) 57 20 (by decide) rfl rfl (fun q17 => ?_) (fun q17 => ?_)
  · refine g_aloadN X119 hx rfl rfl (hb hby d5_57) 58 rfl ?_
    exact g_reta X119 hx rfl rfl hret hlk (by decide) (by decide) (hb hby d5_58) (by rw [e122]; exact ⟨b103, rfl, N126, K129, szk113, A125⟩)
  · exact absurd rfl q17
theorem ef7_3 (m_ : MethodId) (b : Addr)  : entryFrame m_ #[(.ref b), (.int (3 : Int32))] 2 = mkF m_ 0 #[.val (.ref b), .val (.int (3 : Int32))] [] := by first | (simp [entryFrame, mkF, argsToLocals, Value.category]; done) | rfl
set_option maxRecDepth 65536 in
set_option maxHeartbeats 40000000 in
theorem co7_3 (l : Launch) (Z : State) (a0 : Array Value) (hw : ∀ d ∈ tables_1, d.before a0 Z = true) (b : Addr) (v0 : Value) (v1 : Value) (v2 : Value) (h0 : Heap) (A_b : AV Z h0 b .byte [v0, v1, v2]) : Co l (⟨"java/lang/StringUTF16", "coderFromArrayLen", "([BI)B"⟩ : MethodName) jdk_52_method_15_code 2 (some .byte) [] ({ frames := 0, cells := 0, slots := 0, locals := 0 } : Room) Z h0 #[(.ref b), (.int (3 : Int32))] (Pu h0 (some (.int ((0 : Int32) )))) := by
  refine Co.of (plainFor_of_name pn_0) ?_
  intro p_ e_ s_ m_ below meth c_ T0 X0 hx hby hml hown hnm hret hlk hZ eq0
  refine Go.cast (ef7_3 m_ b ) ?_
  refine g_iloadN X0 hx rfl (hb hby d7_0) 1 rfl ?_
  refine g_aloadN X0 hx rfl rfl (hb hby d7_1) 2 rfl ?_
  refine g_arraylength X0 hx hZ eq0 A_b (3 : Int32) rfl (hb hby d7_2) 3 rfl ?_
  refine g_isub X0 hx (hb hby d7_3) 4 rfl ?_
  show Go p_ e_ below _ T0 (mkF m_ 4 #[.val (.ref b), .val (.int (3 : Int32))] [(.int (0 : Int32))])
  refine g_bipush X0 hx (31 : Int32) rfl (hb hby d7_4) 6 rfl ?_
  refine g_iushr X0 hx (hb hby d7_6) 7 rfl ?_
  refine g_i2b X0 hx (hb hby d7_7) 8 rfl ?_
  exact g_retb X0 hx hret hlk (by decide) (by decide) (hb hby d7_8) ⟨congrArg (fun z => some (Value.int z)) (by decide), eq0, rfl⟩
def Q3_3 (Z : State) (a : Addr) (b : Addr) (c0 : Int32) (c1 : Int32) (c2 : Int32) (cs : Int32) (h0 : Heap) (n0 : Nat) (v : Option Value) (h : Heap) (L : List Loc) : Prop := v = none ∧ Fr n0 L ∧ Keep h0 h [a] ∧ Exa Z h a "java/lang/String" ∧ Fld Z h a "java/lang/String" "coder" "B" (.int (0 : Int32)) ∧ ∃ d, h0.size ≤ d ∧ Fld Z h a "java/lang/String" "value" "[B" (.ref d) ∧ AV Z h d .byte [(.int c0.toInt8.toInt32.toInt8.toInt32), (.int c1.toInt8.toInt32.toInt8.toInt32), (.int c2.toInt8.toInt32.toInt8.toInt32)]
theorem ef3_3 (m_ : MethodId) (a : Addr) (b : Addr)  : entryFrame m_ #[(.ref a), (.ref b), (.int (0 : Int32)), (.int (3 : Int32)), .null] 6 = mkF m_ 0 #[.val (.ref a), .val (.ref b), .val (.int (0 : Int32)), .val (.int (3 : Int32)), .val .null, .unset] [] := by first | (simp [entryFrame, mkF, argsToLocals, Value.category]; done) | rfl
set_option maxRecDepth 65536 in
set_option maxHeartbeats 40000000 in
theorem co3_3 (l : Launch) (Z : State) (a0 : Array Value) (hw : ∀ d ∈ tables_1, d.before a0 Z = true) (a : Addr) (b : Addr) (c0 : Int32) (c1 : Int32) (c2 : Int32) (cs : Int32) (h0 : Heap) (n0 : Nat) (Z0 : n0 ≤ h0.size)  (g_a : n0 ≤ a) (E_a : Exa Z h0 a "java/lang/String") (F_c : Fld Z h0 a "java/lang/String" "coder" "B" (.int (0 : Int32))) (F_v : Fld Z h0 a "java/lang/String" "value" "[B" .null) (A_b : AV Z h0 b .char [(.int c0), (.int c1), (.int c2)]) (nba : a ≠ b) (S_cs : Sta Z h0 "java/lang/String" "COMPACT_STRINGS" "Z" (.int cs)) (hcs : ¬ cs = (0 : Int32)) (l0 : ¬ (255 : Int32) < c0) (l1 : ¬ (255 : Int32) < c1) (l2 : ¬ (255 : Int32) < c2) : Co l (⟨"java/lang/String", "<init>", "([CIILjava/lang/Void;)V"⟩ : MethodName) jdk_42_method_149_code 6 none [] ({ frames := 2, cells := 1, slots := 3, locals := 35 } : Room) Z h0 #[(.ref a), (.ref b), (.int (0 : Int32)), (.int (3 : Int32)), .null] (Q3_3 Z a b c0 c1 c2 cs h0 n0) := by
  refine Co.of (plainFor_of_name pn_1) ?_
  intro p_ e_ s_ m_ below meth c_ T0 X0 hx hby hml hown hnm hret hlk hZ eq0
  have N0 := Fr.nil n0
  refine Go.cast (ef3_3 m_ a b ) ?_
  refine g_aloadN X0 hx rfl rfl (hb hby d3_0) 1 rfl ?_
  refine g_initO X0 hx hZ hown (wd hw 15 rfl) (wd hw 16 rfl) (wd hw 17 rfl) eq0 (by rw [hml]; rfl) (hb hby d3_1) (by decide) 0 (Nat.le_of_eq rfl) (by decide) 4 rfl (fun T101 X102 e103 => ?_)
  show Go p_ e_ below _ T101 (mkF m_ 4 #[.val (.ref a), .val (.ref b), .val (.int (0 : Int32)), .val (.int (3 : Int32)), .val .null, .unset] [])
  refine g_iloadN X102 hx rfl (hb hby d3_4) 5 rfl ?_
  refine g_if_ne X102 hx (hb hby d3_5) 27 8 (by decide) rfl rfl (fun q5 => ?_) (fun q5 => ?_)
  · refine g_getstatic X102 hx hZ hown (host := "") (Or.inl (wd hw 26 rfl)) Via.refl S_cs e103 (hb hby d3_27) 30 rfl (fun T104 X105 e106 => ?_)
    show Go p_ e_ below _ T104 (mkF m_ 30 #[.val (.ref a), .val (.ref b), .val (.int (0 : Int32)), .val (.int (3 : Int32)), .val .null, .unset] [(.int cs)])
    refine g_if_eq X105 hx (hb hby d3_30) 58 33 (by decide) rfl rfl (fun q30 => ?_) (fun q30 => ?_)
    · exact absurd q30 hcs
    · refine g_aloadN X105 hx rfl rfl (hb hby d3_33) 34 rfl ?_
      refine g_iloadN X105 hx rfl (hb hby d3_34) 35 rfl ?_
      refine g_iloadN X105 hx rfl (hb hby d3_35) 36 rfl ?_
      refine g_callS X105 hx hZ hown (wd hw 27 rfl) (wd hw 28 rfl) (wd hw 29 rfl) (wd hw 30 rfl) (by decide) e106 [(.ref b), (.int (0 : Int32)), (.int (3 : Int32))] [] rfl (co5_3 l Z a0 hw b c0 c1 c2 h0 n0 Z0 A_b l0 l1 l2) (lenOf pd_1 rfl) 0 (Nat.le_of_eq rfl) (by decide) (by decide) (by decide) (by decide) (by rw [hml]; rfl) (hb hby d3_36) 39 rfl (fun r107 T108 L109 X110 Q111 => ?_)
      obtain ⟨h112, e113⟩ : ∃ h, T108.heap = h := ⟨_, rfl⟩
      rw [e113] at Q111
      obtain ⟨b114, rfl, n115, K116, sz117, A118⟩ := Q111
      have N119 := Fr.app N0 n115
      have ne120 : a ≠ b114 := Nat.ne_of_lt (Nat.lt_of_lt_of_le E_a.lt sz117)
      have ne121 : b ≠ b114 := Nat.ne_of_lt (Nat.lt_of_lt_of_le A_b.lt sz117)
      have F122 := E_a.keep K116
      have F123 := F_c.keep K116 nin0
      have F124 := F_v.keep K116 nin0
      have F125 := A_b.keep K116 nin0
      have F126 := own_sta_keep S_cs K116 ns0
      have szh127 : n0 ≤ h112.size := Nat.le_trans Z0 K116.1
      have K128 := (Keep.refl h0 [a]).trans K116 all0
      show Go p_ e_ below _ T108 (mkF m_ 39 #[.val (.ref a), .val (.ref b), .val (.int (0 : Int32)), .val (.int (3 : Int32)), .val .null, .unset] [(.ref b114)])
      refine g_astore X110 hx #[.val (.ref a), .val (.ref b), .val (.int (0 : Int32)), .val (.int (3 : Int32)), .val .null, .val (.ref b114)] rfl rfl (hb hby d3_39) 41 rfl ?_
      refine g_aloadN X110 hx rfl rfl (hb hby d3_41) 42 rfl ?_
      refine g_aload X110 hx rfl rfl (hb hby d3_42) 44 rfl ?_
      refine g_iloadN X110 hx rfl (hb hby d3_44) 45 rfl ?_
      refine g_callS X110 hx hZ hown (wd hw 34 rfl) (wd hw 35 rfl) (wd hw 29 rfl) (wd hw 36 rfl) (by decide) e113 [(.ref b114), (.int (3 : Int32))] [(.ref a)]  rfl (co7_3 l Z a0 hw b114 (.int c0.toInt8.toInt32.toInt8.toInt32) (.int c1.toInt8.toInt32.toInt8.toInt32) (.int c2.toInt8.toInt32.toInt8.toInt32) h112 A118) (lenOf pd_2 rfl) 1 (Nat.le_of_eq rfl) (by decide) (by decide) (by decide) (by decide) (by rw [hml]; rfl) (hb hby d3_45) 48 rfl (pu_cont fun T130 X129 e131 => ?_)
      show Go p_ e_ below _ T130 (mkF m_ 48 #[.val (.ref a), .val (.ref b), .val (.int (0 : Int32)), .val (.int (3 : Int32)), .val .null, .val (.ref b114)] [(.int (0 : Int32)), (.ref a)])
      refine g_putfield X129 hx hZ hown (host := "") (Or.inl (wd hw 25 rfl)) Via.refl e131 F123 F122 (Or.inr ⟨(wd hw 21 rfl), rfl, hnm⟩) (wd hw 5 rfl) (ty := .byte) (by decide) rfl rfl (hb hby d3_48) 51 rfl (fun T132 h133 X134 e135 W136 => ?_)
      have F137 := F122.wr W136
      have F138 := F123.same W136
      have F139 := F124.other W136 (Or.inr (slot_ne (Or.inr (wd hw 20 rfl)) (Or.inr (wd hw 21 rfl)) (by decide) (t := (.array .byte)) (t' := .byte) (by decide) (by decide)))
      have F140 := F125.other W136 (Ne.symm nba)
      have F141 := F126.wr W136
      have F142 := A118.other W136 (Ne.symm ne120)
      have N143 := Fr.snoc X134 N119 g_a
      have szh144 : n0 ≤ h133.size := Nat.le_trans szh127 (Nat.le_of_eq W136.size.symm)
      have K145 := K128.wr W136 (Or.inl (List.mem_of_getElem? (i := 0) rfl))
      show Go p_ e_ below _ T132 (mkF m_ 51 #[.val (.ref a), .val (.ref b), .val (.int (0 : Int32)), .val (.int (3 : Int32)), .val .null, .val (.ref b114)] [])
      refine g_aloadN X134 hx rfl rfl (hb hby d3_51) 52 rfl ?_
      refine g_aload X134 hx rfl rfl (hb hby d3_52) 54 rfl ?_
      refine g_putfield X134 hx hZ hown (host := "") (Or.inl (wd hw 24 rfl)) Via.refl e135 F139 F137 (Or.inr ⟨(wd hw 20 rfl), rfl, hnm⟩) (wd hw 5 rfl) (ty := (.array .byte)) (by decide) rfl rfl (hb hby d3_54) 57 rfl (fun T146 h147 X148 e149 W150 => ?_)
      have F151 := F137.wr W150
      have F152 := F138.other W150 (Or.inr (slot_ne (Or.inr (wd hw 21 rfl)) (Or.inr (wd hw 20 rfl)) (by decide) (t := .byte) (t' := (.array .byte)) (by decide) (by decide)))
      have F153 := F139.same W150
      have F154 := F140.other W150 (Ne.symm nba)
      have F155 := F141.wr W150
      have F156 := F142.other W150 (Ne.symm ne120)
      have N157 := Fr.snoc X148 N143 g_a
      have szh158 : n0 ≤ h147.size := Nat.le_trans szh144 (Nat.le_of_eq W150.size.symm)
      have K159 := K145.wr W150 (Or.inl (List.mem_of_getElem? (i := 0) rfl))
      show Go p_ e_ below _ T146 (mkF m_ 57 #[.val (.ref a), .val (.ref b), .val (.int (0 : Int32)), .val (.int (3 : Int32)), .val .null, .val (.ref b114)] [])
      exact g_retv X148 hx hret hlk (by decide) (by decide) (hb hby d3_57) (by rw [e149]; exact ⟨rfl, N157, K159, F151, F152, b114, sz117, F153, F156⟩)
  · exact absurd q5 (by decide)
def Q2_3 (Z : State) (a : Addr) (b : Addr) (c0 : Int32) (c1 : Int32) (c2 : Int32) (cs : Int32) (h0 : Heap) (n0 : Nat) (v : Option Value) (h : Heap) (L : List Loc) : Prop := v = none ∧ Fr n0 L ∧ Keep h0 h [a] ∧ Exa Z h a "java/lang/String" ∧ Fld Z h a "java/lang/String" "coder" "B" (.int (0 : Int32)) ∧ ∃ d, h0.size ≤ d ∧ Fld Z h a "java/lang/String" "value" "[B" (.ref d) ∧ AV Z h d .byte [(.int c0.toInt8.toInt32.toInt8.toInt32), (.int c1.toInt8.toInt32.toInt8.toInt32), (.int c2.toInt8.toInt32.toInt8.toInt32)]
theorem ef2_3 (m_ : MethodId) (a : Addr) (b : Addr)  : entryFrame m_ #[(.ref a), (.ref b)] 2 = mkF m_ 0 #[.val (.ref a), .val (.ref b)] [] := by first | (simp [entryFrame, mkF, argsToLocals, Value.category]; done) | rfl
set_option maxRecDepth 65536 in
set_option maxHeartbeats 40000000 in
theorem co2_3 (l : Launch) (Z : State) (a0 : Array Value) (hw : ∀ d ∈ tables_1, d.before a0 Z = true) (a : Addr) (b : Addr) (c0 : Int32) (c1 : Int32) (c2 : Int32) (cs : Int32) (h0 : Heap) (n0 : Nat) (Z0 : n0 ≤ h0.size)  (g_a : n0 ≤ a) (E_a : Exa Z h0 a "java/lang/String") (F_c : Fld Z h0 a "java/lang/String" "coder" "B" (.int (0 : Int32))) (F_v : Fld Z h0 a "java/lang/String" "value" "[B" .null) (A_b : AV Z h0 b .char [(.int c0), (.int c1), (.int c2)]) (nba : a ≠ b) (S_cs : Sta Z h0 "java/lang/String" "COMPACT_STRINGS" "Z" (.int cs)) (hcs : ¬ cs = (0 : Int32)) (l0 : ¬ (255 : Int32) < c0) (l1 : ¬ (255 : Int32) < c1) (l2 : ¬ (255 : Int32) < c2) : Co l (⟨"java/lang/String", "<init>", "([C)V"⟩ : MethodName) jdk_42_method_3_code 2 none [] ({ frames := 3, cells := 1, slots := 3, locals := 52 } : Room) Z h0 #[(.ref a), (.ref b)] (Q2_3 Z a b c0 c1 c2 cs h0 n0) := by
  refine Co.of (plainFor_of_name pn_1) ?_
  intro p_ e_ s_ m_ below meth c_ T0 X0 hx hby hml hown hnm hret hlk hZ eq0
  have N0 := Fr.nil n0
  refine Go.cast (ef2_3 m_ a b ) ?_
  refine g_aloadN X0 hx rfl rfl (hb hby d2_0) 1 rfl ?_
  refine g_aloadN X0 hx rfl rfl (hb hby d2_1) 2 rfl ?_
  refine g_iconst X0 hx (0 : Int32) rfl (hb hby d2_2) 3 rfl ?_
  refine g_aloadN X0 hx rfl rfl (hb hby d2_3) 4 rfl ?_
  refine g_arraylength X0 hx hZ eq0 A_b (3 : Int32) rfl (hb hby d2_4) 5 rfl ?_
  refine g_aconst_null X0 hx (hb hby d2_5) 6 rfl ?_
  refine g_init X0 hx hZ hown (wd hw 11 rfl) rfl (wd hw 12 rfl) (wd hw 6 rfl) (wd hw 14 rfl) (by decide) eq0 [(.ref b), (.int (0 : Int32)), (.int (3 : Int32)), .null] [] rfl (co3_3 l Z a0 hw a b c0 c1 c2 cs h0 n0 Z0 g_a E_a F_c F_v A_b nba S_cs hcs l0 l1 l2) (lenOf pd_3 rfl) 0 (Nat.le_of_eq rfl) (by decide) (by decide) (by decide) (by decide) (by rw [hml]; rfl) (hb hby d2_6) 9 rfl (fun r101 T102 L103 X104 Q105 => ?_)
  obtain ⟨h106, e107⟩ : ∃ h, T102.heap = h := ⟨_, rfl⟩
  rw [e107] at Q105
  obtain ⟨rfl, n108, K109, E110, F111, b112, sz113, F114, A115⟩ := Q105
  have N116 := Fr.app N0 n108
  have ne117 : a ≠ b112 := Nat.ne_of_lt (Nat.lt_of_lt_of_le E_a.lt sz113)
  have ne118 : b ≠ b112 := Nat.ne_of_lt (Nat.lt_of_lt_of_le A_b.lt sz113)
  have F119 := E_a.keep K109
  have F120 := A_b.keep K109 (ninS (Ne.symm nba) nin0)
  have F121 := own_sta_keep S_cs K109 (nsS E_a.nostat ns0)
  have szh122 : n0 ≤ h106.size := Nat.le_trans Z0 K109.1
  have K123 := (Keep.refl h0 [a]).trans K109 (allS (Or.inl (List.mem_of_getElem? (i := 0) rfl)) all0)
  show Go p_ e_ below _ T102 (mkF m_ 9 #[.val (.ref a), .val (.ref b)] [])
  exact g_retv X104 hx hret hlk (by decide) (by decide) (hb hby d2_9) (by rw [e107]; exact ⟨rfl, N116, K123, E110, F111, b112, sz113, F114, A115⟩)
def Q3_0 (Z : State) (a : Addr) (b : Addr) (h0 : Heap) (n0 : Nat) (v : Option Value) (h : Heap) (L : List Loc) : Prop := v = none ∧ Fr n0 L ∧ Keep h0 h [a]
theorem ef3_0 (m_ : MethodId) (a : Addr) (b : Addr)  : entryFrame m_ #[(.ref a), (.ref b), (.int (0 : Int32)), (.int (0 : Int32)), .null] 6 = mkF m_ 0 #[.val (.ref a), .val (.ref b), .val (.int (0 : Int32)), .val (.int (0 : Int32)), .val .null, .unset] [] := by first | (simp [entryFrame, mkF, argsToLocals, Value.category]; done) | rfl
theorem d3_8 : decode jdk_42_method_149_code 8 = .ok (.aload_n 0, 1) := by decide +kernel
theorem d3_9 : decode jdk_42_method_149_code 9 = .ok (.ldc 7, 2) := by decide +kernel
theorem d3_11 : decode jdk_42_method_149_code 11 = .ok (.getfield 9, 3) := by decide +kernel
theorem d3_14 : decode jdk_42_method_149_code 14 = .ok (.putfield 9, 3) := by decide +kernel
theorem d3_17 : decode jdk_42_method_149_code 17 = .ok (.aload_n 0, 1) := by decide +kernel
theorem d3_18 : decode jdk_42_method_149_code 18 = .ok (.ldc 7, 2) := by decide +kernel
theorem d3_20 : decode jdk_42_method_149_code 20 = .ok (.getfield 15, 3) := by decide +kernel
theorem d3_23 : decode jdk_42_method_149_code 23 = .ok (.putfield 15, 3) := by decide +kernel
theorem d3_26 : decode jdk_42_method_149_code 26 = .ok (.return_, 1) := by decide +kernel
set_option maxRecDepth 65536 in
set_option maxHeartbeats 40000000 in
theorem co3_0 (l : Launch) (Z : State) (a0 : Array Value) (hw : ∀ d ∈ tables_1, d.before a0 Z = true) (hEL : EW Z a0 EL) (a : Addr) (b : Addr) (h0 : Heap) (n0 : Nat) (Z0 : n0 ≤ h0.size)  (g_a : n0 ≤ a) (E_a : Exa Z h0 a "java/lang/String") (F_c : Fld Z h0 a "java/lang/String" "coder" "B" (.int (0 : Int32))) (F_v : Fld Z h0 a "java/lang/String" "value" "[B" .null) (A_b : AV Z h0 b .char []) : CoH l (⟨"java/lang/String", "<init>", "([CIILjava/lang/Void;)V"⟩ : MethodName) jdk_42_method_149_code 6 none [] ({ frames := 1, cells := 4, slots := 8, locals := 12 } : Room) Z EL h0 #[(.ref a), (.ref b), (.int (0 : Int32)), (.int (0 : Int32)), .null] (Q3_0 Z a b h0 n0) := by
  refine CoH.of (plainFor_of_name pn_1) ?_
  intro p_ e_ s_ m_ below meth c_ T0 X0 hx hby hml hown hnm hret hlk hZ eq0 hs0 hS H
  have N0 := Fr.nil n0
  have hk0 := Nat.le_refl h0.size
  refine Go.cast (ef3_0 m_ a b ) ?_
  have sfa : Safe Z EL s_.vm s_.heap a := by rw [hs0]; exact own_safe_null hZ.alike E_a F_v
  refine g_aloadN X0 hx rfl rfl (hb hby d3_0) 1 rfl ?_
  refine g_initO X0 hx hZ hown (wd hw 15 rfl) (wd hw 16 rfl) (wd hw 17 rfl) eq0 (by rw [hml]; rfl) (hb hby d3_1) (by decide) 0 (Nat.le_of_eq rfl) (by decide) 4 rfl (fun T101 X102 e103 => ?_)
  show Go p_ e_ below _ T101 (mkF m_ 4 #[.val (.ref a), .val (.ref b), .val (.int (0 : Int32)), .val (.int (0 : Int32)), .val .null, .unset] [])
  refine g_iloadN X102 hx rfl (hb hby d3_4) 5 rfl ?_
  refine g_if_ne X102 hx (hb hby d3_5) 27 8 (by decide) rfl rfl (fun q5 => ?_) (fun q5 => ?_)
  · exact absurd rfl q5
  · refine g_aloadN X102 hx rfl rfl (hb hby d3_8) 9 rfl ?_
    refine g_ldcC X102 hx hown (wd hw 18 rfl) (own_wS hw) e103 hZ hS hk0 hEL H (by decide) (vs := []) (z := (0 : Int32)) (by decide +kernel) (by decide) rfl (by decide) (hb hby d3_9) (n := 0) (by decide) (by decide) (by decide) (by decide) 11 rfl (fun b106 b107 T104 h105 k108 X109 e110 E111 hZ hown hS hk0 H E112 F113 F114 A115 sf116 => ?_)
    have F117 := E_a.ext E111
    have F118 := F_c.ext E111
    have F119 := F_v.ext E111
    have szh120 : n0 ≤ h105.size := Nat.le_trans Z0 E111.1
    have K121 := (Keep.refl h0 [a]).ext E111
    have ne122 : a ≠ b106 := (sf116 _ (H.safe (by rw [hs0]; exact E_a.lt) sfa)).1
    have ne123 : a ≠ b107 := (sf116 _ (H.safe (by rw [hs0]; exact E_a.lt) sfa)).2
    show Go p_ e_ below _ T104 (mkF m_ 11 #[.val (.ref a), .val (.ref b), .val (.int (0 : Int32)), .val (.int (0 : Int32)), .val .null, .unset] [(.ref b106), (.ref a)])
    refine g_getfield X109 hx hZ hown (host := "") (Or.inl (wd hw 24 rfl)) Via.refl F114 e110 (hb hby d3_11) 14 rfl (fun T124 X125 e126 => ?_)
    show Go p_ e_ below _ T124 (mkF m_ 14 #[.val (.ref a), .val (.ref b), .val (.int (0 : Int32)), .val (.int (0 : Int32)), .val .null, .unset] [(.ref b107), (.ref a)])
    refine g_putfield X125 hx hZ hown (host := "") (Or.inl (wd hw 24 rfl)) Via.refl e126 F119 F117 (Or.inr ⟨(wd hw 20 rfl), rfl, hnm⟩) (wd hw 5 rfl) (ty := (.array .byte)) (by decide) rfl rfl (hb hby d3_14) 17 rfl (fun T127 h128 X129 e130 W131 => ?_)
    have H := H.trans (CHr.wr W131 (H.safe (by rw [hs0]; exact E_a.lt) sfa) H.1)
    have hk0 := Nat.le_trans hk0 (Nat.le_of_eq W131.size.symm)
    have F132 := F117.wr W131
    have F133 := F118.other W131 (Or.inr (slot_ne (Or.inr (wd hw 21 rfl)) (Or.inr (wd hw 20 rfl)) (by decide) (t := .byte) (t' := (.array .byte)) (by decide) (by decide)))
    have F134 := F119.same W131
    have F135 := E112.wr W131
    have F136 := F113.other W131 (Or.inl (Ne.symm ne122))
    have F137 := F114.other W131 (Or.inl (Ne.symm ne122))
    have F138 := A115.other W131 (Ne.symm ne123)
    have N139 := Fr.snoc X129 N0 g_a
    have szh140 : n0 ≤ h128.size := Nat.le_trans szh120 (Nat.le_of_eq W131.size.symm)
    have K141 := K121.wr W131 (Or.inl (List.mem_of_getElem? (i := 0) rfl))
    show Go p_ e_ below _ T127 (mkF m_ 17 #[.val (.ref a), .val (.ref b), .val (.int (0 : Int32)), .val (.int (0 : Int32)), .val .null, .unset] [])
    refine g_aloadN X129 hx rfl rfl (hb hby d3_17) 18 rfl ?_
    refine g_ldcC X129 hx hown (wd hw 18 rfl) (own_wS hw) e130 hZ hS hk0 hEL H (by decide) (vs := []) (z := (0 : Int32)) (by decide +kernel) (by decide) rfl (by decide) (hb hby d3_18) (n := 0) (by decide) (by decide) (by decide) (by decide) 20 rfl (fun b144 b145 T142 h143 k146 X147 e148 E149 hZ hown hS hk0 H E150 F151 F152 A153 sf154 => ?_)
    have F155 := F132.ext E149
    have F156 := F133.ext E149
    have F157 := F134.ext E149
    have F158 := F135.ext E149
    have F159 := F136.ext E149
    have F160 := F137.ext E149
    have F161 := F138.ext E149
    have szh162 : n0 ≤ h143.size := Nat.le_trans szh140 E149.1
    have K163 := K141.ext E149
    have ne164 : a ≠ b144 := (sf154 _ (H.safe (by rw [hs0]; exact E_a.lt) sfa)).1
    have ne165 : a ≠ b145 := (sf154 _ (H.safe (by rw [hs0]; exact E_a.lt) sfa)).2
    show Go p_ e_ below _ T142 (mkF m_ 20 #[.val (.ref a), .val (.ref b), .val (.int (0 : Int32)), .val (.int (0 : Int32)), .val .null, .unset] [(.ref b144), (.ref a)])
    refine g_getfield X147 hx hZ hown (host := "") (Or.inl (wd hw 25 rfl)) Via.refl F151 e148 (hb hby d3_20) 23 rfl (fun T166 X167 e168 => ?_)
    show Go p_ e_ below _ T166 (mkF m_ 23 #[.val (.ref a), .val (.ref b), .val (.int (0 : Int32)), .val (.int (0 : Int32)), .val .null, .unset] [(.int (0 : Int32)), (.ref a)])
    refine g_putfield X167 hx hZ hown (host := "") (Or.inl (wd hw 25 rfl)) Via.refl e168 F156 F155 (Or.inr ⟨(wd hw 21 rfl), rfl, hnm⟩) (wd hw 5 rfl) (ty := .byte) (by decide) rfl rfl (hb hby d3_23) 26 rfl (fun T169 h170 X171 e172 W173 => ?_)
    have H := H.trans (CHr.wr W173 (H.safe (by rw [hs0]; exact E_a.lt) sfa) H.1)
    have hk0 := Nat.le_trans hk0 (Nat.le_of_eq W173.size.symm)
    have F174 := F155.wr W173
    have F175 := F156.same W173
    have F176 := F157.other W173 (Or.inr (slot_ne (Or.inr (wd hw 20 rfl)) (Or.inr (wd hw 21 rfl)) (by decide) (t := (.array .byte)) (t' := .byte) (by decide) (by decide)))
    have F177 := F158.wr W173
    have F178 := F159.other W173 (Or.inl (Ne.symm ne122))
    have F179 := F160.other W173 (Or.inl (Ne.symm ne122))
    have F180 := F161.other W173 (Ne.symm ne123)
    have F181 := E150.wr W173
    have F182 := F151.other W173 (Or.inl (Ne.symm ne164))
    have F183 := F152.other W173 (Or.inl (Ne.symm ne164))
    have F184 := A153.other W173 (Ne.symm ne165)
    have N185 := Fr.snoc X171 N139 g_a
    have szh186 : n0 ≤ h170.size := Nat.le_trans szh162 (Nat.le_of_eq W173.size.symm)
    have K187 := K163.wr W173 (Or.inl (List.mem_of_getElem? (i := 0) rfl))
    show Go p_ e_ below _ T169 (mkF m_ 26 #[.val (.ref a), .val (.ref b), .val (.int (0 : Int32)), .val (.int (0 : Int32)), .val .null, .unset] [])
    exact g_retvH X171 hx hret hlk (by decide) (by decide) (hb hby d3_26) e172 hZ hS hk0 hEL H ⟨rfl, N185, K187⟩
def Q2_0 (Z : State) (a : Addr) (b : Addr) (h0 : Heap) (n0 : Nat) (v : Option Value) (h : Heap) (L : List Loc) : Prop := v = none ∧ Fr n0 L ∧ Keep h0 h [a]
theorem ef2_0 (m_ : MethodId) (a : Addr) (b : Addr)  : entryFrame m_ #[(.ref a), (.ref b)] 2 = mkF m_ 0 #[.val (.ref a), .val (.ref b)] [] := by first | (simp [entryFrame, mkF, argsToLocals, Value.category]; done) | rfl
set_option maxRecDepth 65536 in
set_option maxHeartbeats 40000000 in
theorem co2_0 (l : Launch) (Z : State) (a0 : Array Value) (hw : ∀ d ∈ tables_1, d.before a0 Z = true) (hEL : EW Z a0 EL) (a : Addr) (b : Addr) (h0 : Heap) (n0 : Nat) (Z0 : n0 ≤ h0.size)  (g_a : n0 ≤ a) (E_a : Exa Z h0 a "java/lang/String") (F_c : Fld Z h0 a "java/lang/String" "coder" "B" (.int (0 : Int32))) (F_v : Fld Z h0 a "java/lang/String" "value" "[B" .null) (A_b : AV Z h0 b .char []) : CoH l (⟨"java/lang/String", "<init>", "([C)V"⟩ : MethodName) jdk_42_method_3_code 2 none [] ({ frames := 2, cells := 4, slots := 8, locals := 29 } : Room) Z EL h0 #[(.ref a), (.ref b)] (Q2_0 Z a b h0 n0) := by
  refine CoH.of (plainFor_of_name pn_1) ?_
  intro p_ e_ s_ m_ below meth c_ T0 X0 hx hby hml hown hnm hret hlk hZ eq0 hs0 hS H
  have N0 := Fr.nil n0
  have hk0 := Nat.le_refl h0.size
  refine Go.cast (ef2_0 m_ a b ) ?_
  refine g_aloadN X0 hx rfl rfl (hb hby d2_0) 1 rfl ?_
  refine g_aloadN X0 hx rfl rfl (hb hby d2_1) 2 rfl ?_
  refine g_iconst X0 hx (0 : Int32) rfl (hb hby d2_2) 3 rfl ?_
  refine g_aloadN X0 hx rfl rfl (hb hby d2_3) 4 rfl ?_
  refine g_arraylength X0 hx hZ eq0 A_b (0 : Int32) rfl (hb hby d2_4) 5 rfl ?_
  refine g_aconst_null X0 hx (hb hby d2_5) 6 rfl ?_
  refine g_initH X0 hx hown (wd hw 11 rfl) rfl (wd hw 12 rfl) (wd hw 6 rfl) (wd hw 14 rfl) (by decide) eq0 [(.ref b), (.int (0 : Int32)), (.int (0 : Int32)), .null] [] hZ hS hk0 hEL H rfl (co3_0 l Z a0 hw hEL a b h0 n0 Z0 g_a E_a F_c F_v A_b) (lenOf pd_3 rfl) 0 (Nat.le_of_eq rfl) (by decide) (by decide) (by decide) (by decide) (by rw [hml]; rfl) (hb hby d2_6) 9 rfl (fun r101 T102 h103 L104 X105 e106 hZ hown hS H Q107 => ?_)
  have hk0 := Nat.le_refl h103.size
  obtain ⟨rfl, n108, K109⟩ := Q107
  have N110 := Fr.app N0 n108
  have F111 := E_a.keep K109
  have szh112 : n0 ≤ h103.size := Nat.le_trans Z0 K109.1
  have K113 := (Keep.refl h0 [a]).trans K109 (allS (Or.inl (List.mem_of_getElem? (i := 0) rfl)) all0)
  show Go p_ e_ below _ T102 (mkF m_ 9 #[.val (.ref a), .val (.ref b)] [])
  exact g_retvH X105 hx hret hlk (by decide) (by decide) (hb hby d2_9) e106 hZ hS hk0 hEL H ⟨rfl, N110, K113⟩
theorem ef19 (m_ : MethodId) (c : Int32)  : entryFrame m_ #[(.int c)] 1 = mkF m_ 0 #[.val (.int c)] [] := by first | (simp [entryFrame, mkF, argsToLocals, Value.category]; done) | rfl
theorem pn_2 : plainName "java/lang/StringLatin1" = true := by first | (simp [plainName, overriddenIn]; done) | decide +kernel
theorem d19_0 : decode jdk_43_method_3_code 0 = .ok (.iload_n 0, 1) := by decide +kernel
theorem d19_1 : decode jdk_43_method_3_code 1 = .ok (.sipush 255, 3) := by decide +kernel
theorem d19_4 : decode jdk_43_method_3_code 4 = .ok (.if_icmp .gt 7, 3) := by decide +kernel
theorem d19_7 : decode jdk_43_method_3_code 7 = .ok (.iconst 1, 1) := by decide +kernel
theorem d19_8 : decode jdk_43_method_3_code 8 = .ok (.goto 4, 3) := by decide +kernel
theorem d19_12 : decode jdk_43_method_3_code 12 = .ok (.ireturn, 1) := by decide +kernel
set_option maxRecDepth 65536 in
set_option maxHeartbeats 40000000 in
theorem co19 (l : Launch) (Z : State) (a0 : Array Value) (hw : ∀ d ∈ tables_1, d.before a0 Z = true) (c : Int32) (h0 : Heap) (l0 : ¬ (255 : Int32) < c) : Co l (⟨"java/lang/StringLatin1", "canEncode", "(C)Z"⟩ : MethodName) jdk_43_method_3_code 1 (some .boolean) [] ({ frames := 0, cells := 0, slots := 0, locals := 0 } : Room) Z h0 #[(.int c)] (Pu h0 (some (.int ((1 : Int32) )))) := by
  refine Co.of (plainFor_of_name pn_2) ?_
  intro p_ e_ s_ m_ below meth c_ T0 X0 hx hby hml hown hnm hret hlk hZ eq0
  refine Go.cast (ef19 m_ c ) ?_
  refine g_iloadN X0 hx rfl (hb hby d19_0) 1 rfl ?_
  refine g_sipush X0 hx (255 : Int32) rfl (hb hby d19_1) 4 rfl ?_
  refine g_icmp_gt X0 hx (hb hby d19_4) 11 7 (by decide) rfl rfl (fun q4 => ?_) (fun q4 => ?_)
  · exact absurd q4 l0
  · refine g_iconst X0 hx (1 : Int32) rfl (hb hby d19_7) 8 rfl ?_
    refine g_goto X0 hx (hb hby d19_8) 12 (by decide) rfl ?_
    exact g_retz X0 hx hret hlk (by decide) (by decide) (hb hby d19_12) ⟨congrArg (fun z => some (Value.int z)) (by decide), eq0, rfl⟩
def Q20 (Z : State) (c : Int32) (h0 : Heap) (n0 : Nat) (v : Option Value) (h : Heap) (L : List Loc) : Prop := ∃ r, v = some (.ref r) ∧ Fr n0 L ∧ Keep h0 h []
theorem ef20 (m_ : MethodId) (c : Int32)  : entryFrame m_ #[(.int c)] 1 = mkF m_ 0 #[.val (.int c)] [] := by first | (simp [entryFrame, mkF, argsToLocals, Value.category]; done) | rfl
theorem d20_0 : decode jdk_43_method_46_code 0 = .ok (.iconst 1, 1) := by decide +kernel
theorem d20_1 : decode jdk_43_method_46_code 1 = .ok (.newarray .byte, 2) := by decide +kernel
theorem d20_3 : decode jdk_43_method_46_code 3 = .ok (.dup, 1) := by decide +kernel
theorem d20_4 : decode jdk_43_method_46_code 4 = .ok (.iconst 0, 1) := by decide +kernel
theorem d20_5 : decode jdk_43_method_46_code 5 = .ok (.iload_n 0, 1) := by decide +kernel
theorem d20_6 : decode jdk_43_method_46_code 6 = .ok (.i2b, 1) := by decide +kernel
theorem d20_7 : decode jdk_43_method_46_code 7 = .ok (.bastore, 1) := by decide +kernel
theorem d20_8 : decode jdk_43_method_46_code 8 = .ok (.areturn, 1) := by decide +kernel
set_option maxRecDepth 65536 in
set_option maxHeartbeats 40000000 in
theorem co20 (l : Launch) (Z : State) (a0 : Array Value) (hw : ∀ d ∈ tables_1, d.before a0 Z = true) (c : Int32) (h0 : Heap) (n0 : Nat) (Z0 : n0 ≤ h0.size)    : Co l (⟨"java/lang/StringLatin1", "toBytes", "(C)[B"⟩ : MethodName) jdk_43_method_46_code 1 (some (.array .byte)) [] ({ frames := 0, cells := 1, slots := 1, locals := 0 } : Room) Z h0 #[(.int c)] (Q20 Z c h0 n0) := by
  refine Co.of (plainFor_of_name pn_2) ?_
  intro p_ e_ s_ m_ below meth c_ T0 X0 hx hby hml hown hnm hret hlk hZ eq0
  have N0 := Fr.nil n0
  refine Go.cast (ef20 m_ c ) ?_
  refine g_iconst X0 hx (1 : Int32) rfl (hb hby d20_0) 1 rfl ?_
  refine g_newarray X0 hx hZ (aty := .byte) (wd hw 19 rfl) eq0 (by decide) 1 (by decide) (by decide) (by decide) (by decide) [(.int (0 : Int32))] rfl (hb hby d20_1) 3 rfl (fun T101 h102 b103 X104 e105 g106 E107 A108 => ?_)
  have sz109 : n0 ≤ b103 := Nat.le_trans Z0 (Nat.le_of_eq g106.symm)
  have szh110 : n0 ≤ h102.size := Nat.le_trans Z0 E107.1
  have szk111 : h0.size ≤ b103 := Nat.le_trans (Keep.refl h0 []).1 (Nat.le_of_eq g106.symm)
  have K112 := (Keep.refl h0 []).ext E107
  have A113 : AV Z h102 b103 .byte [(.int (0 : Int32))] := A108
  show Go p_ e_ below _ T101 (mkF m_ 3 #[.val (.int c)] [(.ref b103)])
  refine g_dup X104 hx rfl (hb hby d20_3) 4 rfl ?_
  refine g_iconst X104 hx (0 : Int32) rfl (hb hby d20_4) 5 rfl ?_
  refine g_iloadN X104 hx rfl (hb hby d20_5) 6 rfl ?_
  refine g_i2b X104 hx (hb hby d20_6) 7 rfl ?_
  refine g_bastore X104 hx hZ e105 A113 (by decide) (Nat.le_of_ble_eq_true rfl) (hb hby d20_7) 8 rfl (fun T114 h115 X116 e117 W118 A119 => ?_)
  have A120 : AV Z h115 b103 .byte [(.int c.toInt8.toInt32.toInt8.toInt32)] := A119
  have F121 := A120
  have N122 := Fr.snoc X116 N0 sz109
  have szh123 : n0 ≤ h115.size := Nat.le_trans szh110 (Nat.le_of_eq W118.size.symm)
  have K124 := K112.wr W118 (Or.inr szk111)
  show Go p_ e_ below _ T114 (mkF m_ 8 #[.val (.int c)] [(.ref b103)])
  exact g_reta X116 hx rfl rfl hret hlk (by decide) (by decide) (hb hby d20_8) (by rw [e117]; exact ⟨b103, rfl, N122, K124⟩)
def Q21 (Z : State) (a : Addr) (b : Addr) (h0 : Heap) (n0 : Nat) (v : Option Value) (h : Heap) (L : List Loc) : Prop := v = none ∧ Fr n0 L ∧ Keep h0 h [a]
theorem ef21 (m_ : MethodId) (a : Addr) (b : Addr)  : entryFrame m_ #[(.ref a), (.ref b), (.int (0 : Int32))] 3 = mkF m_ 0 #[.val (.ref a), .val (.ref b), .val (.int (0 : Int32))] [] := by first | (simp [entryFrame, mkF, argsToLocals, Value.category]; done) | rfl
theorem d21_0 : decode jdk_42_method_151_code 0 = .ok (.aload_n 0, 1) := by decide +kernel
theorem d21_1 : decode jdk_42_method_151_code 1 = .ok (.invokespecial 1, 3) := by decide +kernel
theorem d21_4 : decode jdk_42_method_151_code 4 = .ok (.aload_n 0, 1) := by decide +kernel
theorem d21_5 : decode jdk_42_method_151_code 5 = .ok (.aload_n 1, 1) := by decide +kernel
theorem d21_6 : decode jdk_42_method_151_code 6 = .ok (.putfield 9, 3) := by decide +kernel
theorem d21_9 : decode jdk_42_method_151_code 9 = .ok (.aload_n 0, 1) := by decide +kernel
theorem d21_10 : decode jdk_42_method_151_code 10 = .ok (.iload_n 2, 1) := by decide +kernel
theorem d21_11 : decode jdk_42_method_151_code 11 = .ok (.putfield 15, 3) := by decide +kernel
theorem d21_14 : decode jdk_42_method_151_code 14 = .ok (.return_, 1) := by decide +kernel
set_option maxRecDepth 65536 in
set_option maxHeartbeats 40000000 in
theorem co21 (l : Launch) (Z : State) (a0 : Array Value) (hw : ∀ d ∈ tables_1, d.before a0 Z = true) (a : Addr) (b : Addr) (h0 : Heap) (n0 : Nat) (Z0 : n0 ≤ h0.size)  (g_a : n0 ≤ a) (E_a : Exa Z h0 a "java/lang/String") (F_c : Fld Z h0 a "java/lang/String" "coder" "B" (.int (0 : Int32))) (F_v : Fld Z h0 a "java/lang/String" "value" "[B" .null) : Co l (⟨"java/lang/String", "<init>", "([BB)V"⟩ : MethodName) jdk_42_method_151_code 3 none [] ({ frames := 1, cells := 0, slots := 0, locals := 12 } : Room) Z h0 #[(.ref a), (.ref b), (.int (0 : Int32))] (Q21 Z a b h0 n0) := by
  refine Co.of (plainFor_of_name pn_1) ?_
  intro p_ e_ s_ m_ below meth c_ T0 X0 hx hby hml hown hnm hret hlk hZ eq0
  have N0 := Fr.nil n0
  refine Go.cast (ef21 m_ a b ) ?_
  refine g_aloadN X0 hx rfl rfl (hb hby d21_0) 1 rfl ?_
  refine g_initO X0 hx hZ hown (wd hw 15 rfl) (wd hw 16 rfl) (wd hw 17 rfl) eq0 (by rw [hml]; rfl) (hb hby d21_1) (by decide) 0 (Nat.le_of_eq rfl) (by decide) 4 rfl (fun T101 X102 e103 => ?_)
  show Go p_ e_ below _ T101 (mkF m_ 4 #[.val (.ref a), .val (.ref b), .val (.int (0 : Int32))] [])
  refine g_aloadN X102 hx rfl rfl (hb hby d21_4) 5 rfl ?_
  refine g_aloadN X102 hx rfl rfl (hb hby d21_5) 6 rfl ?_
  refine g_putfield X102 hx hZ hown (host := "") (Or.inl (wd hw 24 rfl)) Via.refl e103 F_v E_a (Or.inr ⟨(wd hw 20 rfl), rfl, hnm⟩) (wd hw 5 rfl) (ty := (.array .byte)) (by decide) rfl rfl (hb hby d21_6) 9 rfl (fun T104 h105 X106 e107 W108 => ?_)
  have F109 := E_a.wr W108
  have F110 := F_c.other W108 (Or.inr (slot_ne (Or.inr (wd hw 21 rfl)) (Or.inr (wd hw 20 rfl)) (by decide) (t := .byte) (t' := (.array .byte)) (by decide) (by decide)))
  have F111 := F_v.same W108
  have N112 := Fr.snoc X106 N0 g_a
  have szh113 : n0 ≤ h105.size := Nat.le_trans Z0 (Nat.le_of_eq W108.size.symm)
  have K114 := (Keep.refl h0 [a]).wr W108 (Or.inl (List.mem_of_getElem? (i := 0) rfl))
  show Go p_ e_ below _ T104 (mkF m_ 9 #[.val (.ref a), .val (.ref b), .val (.int (0 : Int32))] [])
  refine g_aloadN X106 hx rfl rfl (hb hby d21_9) 10 rfl ?_
  refine g_iloadN X106 hx rfl (hb hby d21_10) 11 rfl ?_
  refine g_putfield X106 hx hZ hown (host := "") (Or.inl (wd hw 25 rfl)) Via.refl e107 F110 F109 (Or.inr ⟨(wd hw 21 rfl), rfl, hnm⟩) (wd hw 5 rfl) (ty := .byte) (by decide) rfl rfl (hb hby d21_11) 14 rfl (fun T115 h116 X117 e118 W119 => ?_)
  have F120 := F109.wr W119
  have F121 := F110.same W119
  have F122 := F111.other W119 (Or.inr (slot_ne (Or.inr (wd hw 20 rfl)) (Or.inr (wd hw 21 rfl)) (by decide) (t := (.array .byte)) (t' := .byte) (by decide) (by decide)))
  have N123 := Fr.snoc X117 N112 g_a
  have szh124 : n0 ≤ h116.size := Nat.le_trans szh113 (Nat.le_of_eq W119.size.symm)
  have K125 := K114.wr W119 (Or.inl (List.mem_of_getElem? (i := 0) rfl))
  show Go p_ e_ below _ T115 (mkF m_ 14 #[.val (.ref a), .val (.ref b), .val (.int (0 : Int32))] [])
  exact g_retv X117 hx hret hlk (by decide) (by decide) (hb hby d21_14) (by rw [e118]; exact ⟨rfl, N123, K125⟩)
def Q18 (Z : State) (c : Int32) (cs : Int32) (h0 : Heap) (n0 : Nat) (v : Option Value) (h : Heap) (L : List Loc) : Prop := ∃ r, v = some (.ref r) ∧ Fr n0 L ∧ Keep h0 h []
theorem ef18 (m_ : MethodId) (c : Int32)  : entryFrame m_ #[(.int c)] 1 = mkF m_ 0 #[.val (.int c)] [] := by first | (simp [entryFrame, mkF, argsToLocals, Value.category]; done) | rfl
theorem d18_0 : decode jdk_42_method_139_code 0 = .ok (.getstatic 38, 3) := by decide +kernel
theorem d18_3 : decode jdk_42_method_139_code 3 = .ok (.ifCond .eq 23, 3) := by decide +kernel
theorem d18_6 : decode jdk_42_method_139_code 6 = .ok (.iload_n 0, 1) := by decide +kernel
theorem pd_4 : parseMethodDescriptor "(C)Z" = some ⟨[.char], some .boolean⟩ := by decide +kernel
theorem d18_7 : decode jdk_42_method_139_code 7 = .ok (.invokestatic 1015, 3) := by decide +kernel
theorem d18_10 : decode jdk_42_method_139_code 10 = .ok (.ifCond .eq 16, 3) := by decide +kernel
theorem d18_13 : decode jdk_42_method_139_code 13 = .ok (.new 10, 3) := by decide +kernel
theorem d18_16 : decode jdk_42_method_139_code 16 = .ok (.dup, 1) := by decide +kernel
theorem d18_17 : decode jdk_42_method_139_code 17 = .ok (.iload_n 0, 1) := by decide +kernel
theorem pd_5 : parseMethodDescriptor "(C)[B" = some ⟨[.char], some (.array .byte)⟩ := by decide +kernel
theorem d18_18 : decode jdk_42_method_139_code 18 = .ok (.invokestatic 1018, 3) := by decide +kernel
theorem d18_21 : decode jdk_42_method_139_code 21 = .ok (.iconst 0, 1) := by decide +kernel
theorem pd_6 : parseMethodDescriptor "([BB)V" = some ⟨[(.array .byte), .byte], none⟩ := by decide +kernel
theorem d18_22 : decode jdk_42_method_139_code 22 = .ok (.invokespecial 209, 3) := by decide +kernel
theorem d18_25 : decode jdk_42_method_139_code 25 = .ok (.areturn, 1) := by decide +kernel
set_option maxRecDepth 65536 in
set_option maxHeartbeats 40000000 in
theorem co18 (l : Launch) (Z : State) (a0 : Array Value) (hw : ∀ d ∈ tables_1, d.before a0 Z = true) (c : Int32) (cs : Int32) (h0 : Heap) (n0 : Nat) (Z0 : n0 ≤ h0.size)   (S_cs : Sta Z h0 "java/lang/String" "COMPACT_STRINGS" "Z" (.int cs)) (hcs : ¬ cs = (0 : Int32)) (l0 : ¬ (255 : Int32) < c) : Co l (⟨"java/lang/String", "valueOf", "(C)Ljava/lang/String;"⟩ : MethodName) jdk_42_method_139_code 1 (some (.object "java/lang/String")) [] ({ frames := 2, cells := 2, slots := 5, locals := 27 } : Room) Z h0 #[(.int c)] (Q18 Z c cs h0 n0) := by
  refine Co.of (plainFor_of_name pn_1) ?_
  intro p_ e_ s_ m_ below meth c_ T0 X0 hx hby hml hown hnm hret hlk hZ eq0
  have N0 := Fr.nil n0
  refine Go.cast (ef18 m_ c ) ?_
  refine g_getstatic X0 hx hZ hown (host := "") (Or.inl (wd hw 26 rfl)) Via.refl S_cs eq0 (hb hby d18_0) 3 rfl (fun T101 X102 e103 => ?_)
  show Go p_ e_ below _ T101 (mkF m_ 3 #[.val (.int c)] [(.int cs)])
  refine g_if_eq X102 hx (hb hby d18_3) 26 6 (by decide) rfl rfl (fun q3 => ?_) (fun q3 => ?_)
  · exact absurd q3 hcs
  · refine g_iloadN X102 hx rfl (hb hby d18_6) 7 rfl ?_
    refine g_callS X102 hx hZ hown (wd hw 109 rfl) (wd hw 110 rfl) (wd hw 111 rfl) (wd hw 112 rfl) (by decide) e103 [(.int c)] []  rfl (co19 l Z a0 hw c  h0 l0) (lenOf pd_4 rfl) 0 (Nat.le_of_eq rfl) (by decide) (by decide) (by decide) (by decide) (by rw [hml]; rfl) (hb hby d18_7) 10 rfl (pu_cont fun T105 X104 e106 => ?_)
    show Go p_ e_ below _ T105 (mkF m_ 10 #[.val (.int c)] [(.int (1 : Int32))])
    refine g_if_eq X104 hx (hb hby d18_10) 26 13 (by decide) rfl rfl (fun q10 => ?_) (fun q10 => ?_)
    · exact absurd q10 (by decide)
    · refine g_new X104 hx hZ hown (wd hw 113 rfl) (wd hw 5 rfl) (wd hw 6 rfl) e106 (hb hby d18_13) (by decide) (by decide) 16 rfl (fun T107 h108 b109 X110 e111 g112 E113 A114 D115 => ?_)
      have F116 := S_cs.ext E113
      have sz117 : n0 ≤ b109 := Nat.le_trans Z0 (Nat.le_of_eq g112.symm)
      have szh118 : n0 ≤ h108.size := Nat.le_trans Z0 E113.1
      have szk119 : h0.size ≤ b109 := Nat.le_trans (Keep.refl h0 []).1 (Nat.le_of_eq g112.symm)
      have K120 := (Keep.refl h0 []).ext E113
      have F121 : Fld Z h108 b109 "java/lang/String" "value" "[B" .null := D115 (Or.inr (wd hw 20 rfl)) (ty := (.array .byte)) (by decide)
      have F122 : Fld Z h108 b109 "java/lang/String" "coder" "B" (.int (0 : Int32)) := D115 (Or.inr (wd hw 21 rfl)) (ty := .byte) (by decide)
      show Go p_ e_ below _ T107 (mkF m_ 16 #[.val (.int c)] [(.ref b109)])
      refine g_dup X110 hx rfl (hb hby d18_16) 17 rfl ?_
      refine g_iloadN X110 hx rfl (hb hby d18_17) 18 rfl ?_
      refine g_callS X110 hx hZ hown (wd hw 114 rfl) (wd hw 115 rfl) (wd hw 111 rfl) (wd hw 116 rfl) (by decide) e111 [(.int c)] [(.ref b109), (.ref b109)] rfl (co20 l Z a0 hw c h108 n0 szh118) (lenOf pd_5 rfl) 2 (Nat.le_of_eq rfl) (by decide) (by decide) (by decide) (by decide) (by rw [hml]; rfl) (hb hby d18_18) 21 rfl (fun r123 T124 L125 X126 Q127 => ?_)
      obtain ⟨h128, e129⟩ : ∃ h, T124.heap = h := ⟨_, rfl⟩
      rw [e129] at Q127
      obtain ⟨r130, rfl, n131, K132⟩ := Q127
      have N133 := Fr.app N0 n131
      have F134 := own_sta_keep F116 K132 ns0
      have F135 := A114.keep K132
      have F136 := F121.keep K132 nin0
      have F137 := F122.keep K132 nin0
      have szh138 : n0 ≤ h128.size := Nat.le_trans szh118 K132.1
      have K139 := K120.trans K132 all0
      show Go p_ e_ below _ T124 (mkF m_ 21 #[.val (.int c)] [(.ref r130), (.ref b109), (.ref b109)])
      refine g_iconst X126 hx (0 : Int32) rfl (hb hby d18_21) 22 rfl ?_
      refine g_init X126 hx hZ hown (wd hw 117 rfl) rfl (wd hw 118 rfl) (wd hw 6 rfl) (wd hw 119 rfl) (by decide) e129 [(.ref r130), (.int (0 : Int32))] [(.ref b109)] rfl (co21 l Z a0 hw b109 r130 h128 n0 szh138 sz117 F135 F137 F136) (lenOf pd_6 rfl) 1 (Nat.le_of_eq rfl) (by decide) (by decide) (by decide) (by decide) (by rw [hml]; rfl) (hb hby d18_22) 25 rfl (fun r140 T141 L142 X143 Q144 => ?_)
      obtain ⟨h145, e146⟩ : ∃ h, T141.heap = h := ⟨_, rfl⟩
      rw [e146] at Q144
      obtain ⟨rfl, n147, K148⟩ := Q144
      have N149 := Fr.app N133 n147
      have F150 := own_sta_keep F134 K148 (nsS F135.nostat ns0)
      have F151 := F135.keep K148
      have szh152 : n0 ≤ h145.size := Nat.le_trans szh138 K148.1
      have K153 := K139.trans K148 (allS (Or.inr szk119) all0)
      show Go p_ e_ below _ T141 (mkF m_ 25 #[.val (.int c)] [(.ref b109)])
      exact g_reta X143 hx rfl rfl hret hlk (by decide) (by decide) (hb hby d18_25) (by rw [e146]; exact ⟨b109, rfl, N149, K153⟩)
def Q1 (Z : State) (x0 : Int32) (x1 : Int32) (cs : Int32) (h0 : Heap) (n0 : Nat) (v : Option Value) (h : Heap) (L : List Loc) : Prop := ∃ r, v = some (.ref r) ∧ Fr n0 L ∧ Keep h0 h []
theorem ef1 (m_ : MethodId) (x0 : Int32) (x1 : Int32)  : entryFrame m_ #[(.int x0), (.int x1)] 6 = mkF m_ 0 #[.val (.int x0), .val (.int x1), .unset, .unset, .unset, .unset] [] := by first | (simp [entryFrame, mkF, argsToLocals, Value.category]; done) | rfl
theorem pn_3 : plainName "com/example/quadrille/quadrille/cli/OptionFlagPinLaw" = true := by first | (simp [plainName, overriddenIn]; done) | decide +kernel
theorem d1_0 : decode method_3_code 0 = .ok (.iload_n 1, 1) := by decide +kernel
theorem d1_1 : decode method_3_code 1 = .ok (.sipush 255, 3) := by decide +kernel
theorem d1_4 : decode method_3_code 4 = .ok (.iand, 1) := by decide +kernel
theorem d1_5 : decode method_3_code 5 = .ok (.i2c, 1) := by decide +kernel
theorem d1_6 : decode method_3_code 6 = .ok (.istore_n 2, 1) := by decide +kernel
theorem d1_7 : decode method_3_code 7 = .ok (.iload_n 1, 1) := by decide +kernel
theorem d1_8 : decode method_3_code 8 = .ok (.bipush 8, 2) := by decide +kernel
theorem d1_10 : decode method_3_code 10 = .ok (.iushr, 1) := by decide +kernel
theorem d1_11 : decode method_3_code 11 = .ok (.sipush 255, 3) := by decide +kernel
theorem d1_14 : decode method_3_code 14 = .ok (.iand, 1) := by decide +kernel
theorem d1_15 : decode method_3_code 15 = .ok (.i2c, 1) := by decide +kernel
theorem d1_16 : decode method_3_code 16 = .ok (.istore_n 3, 1) := by decide +kernel
theorem d1_17 : decode method_3_code 17 = .ok (.iload_n 1, 1) := by decide +kernel
theorem d1_18 : decode method_3_code 18 = .ok (.bipush 16, 2) := by decide +kernel
theorem d1_20 : decode method_3_code 20 = .ok (.iushr, 1) := by decide +kernel
theorem d1_21 : decode method_3_code 21 = .ok (.sipush 255, 3) := by decide +kernel
theorem d1_24 : decode method_3_code 24 = .ok (.iand, 1) := by decide +kernel
theorem d1_25 : decode method_3_code 25 = .ok (.i2c, 1) := by decide +kernel
theorem d1_26 : decode method_3_code 26 = .ok (.istore 4, 2) := by decide +kernel
theorem d1_28 : decode method_3_code 28 = .ok (.iload_n 0, 1) := by decide +kernel
theorem d1_29 : decode method_3_code 29 = .ok (.ifCond .ne 14, 3) := by decide +kernel
theorem d1_43 : decode method_3_code 43 = .ok (.iload_n 0, 1) := by decide +kernel
theorem d1_44 : decode method_3_code 44 = .ok (.iconst 1, 1) := by decide +kernel
theorem d1_45 : decode method_3_code 45 = .ok (.if_icmp .ne 8, 3) := by decide +kernel
theorem d1_53 : decode method_3_code 53 = .ok (.iload_n 0, 1) := by decide +kernel
theorem d1_54 : decode method_3_code 54 = .ok (.iconst 2, 1) := by decide +kernel
theorem d1_55 : decode method_3_code 55 = .ok (.if_icmp .ne 28, 3) := by decide +kernel
theorem d1_83 : decode method_3_code 83 = .ok (.iconst 3, 1) := by decide +kernel
theorem d1_84 : decode method_3_code 84 = .ok (.newarray .char, 2) := by decide +kernel
theorem d1_86 : decode method_3_code 86 = .ok (.astore 5, 2) := by decide +kernel
theorem d1_88 : decode method_3_code 88 = .ok (.aload 5, 2) := by decide +kernel
theorem d1_90 : decode method_3_code 90 = .ok (.iconst 0, 1) := by decide +kernel
theorem d1_91 : decode method_3_code 91 = .ok (.iload_n 2, 1) := by decide +kernel
theorem d1_92 : decode method_3_code 92 = .ok (.castore, 1) := by decide +kernel
theorem d1_93 : decode method_3_code 93 = .ok (.aload 5, 2) := by decide +kernel
theorem d1_95 : decode method_3_code 95 = .ok (.iconst 1, 1) := by decide +kernel
theorem d1_96 : decode method_3_code 96 = .ok (.iload_n 3, 1) := by decide +kernel
theorem d1_97 : decode method_3_code 97 = .ok (.castore, 1) := by decide +kernel
theorem d1_98 : decode method_3_code 98 = .ok (.aload 5, 2) := by decide +kernel
theorem d1_100 : decode method_3_code 100 = .ok (.iconst 2, 1) := by decide +kernel
theorem d1_101 : decode method_3_code 101 = .ok (.iload 4, 2) := by decide +kernel
theorem d1_103 : decode method_3_code 103 = .ok (.castore, 1) := by decide +kernel
theorem d1_104 : decode method_3_code 104 = .ok (.new 31, 3) := by decide +kernel
theorem d1_107 : decode method_3_code 107 = .ok (.dup, 1) := by decide +kernel
theorem d1_108 : decode method_3_code 108 = .ok (.aload 5, 2) := by decide +kernel
theorem pd_7 : parseMethodDescriptor "([C)V" = some ⟨[(.array .char)], none⟩ := by decide +kernel
theorem d1_110 : decode method_3_code 110 = .ok (.invokespecial 33, 3) := by decide +kernel
theorem d1_113 : decode method_3_code 113 = .ok (.areturn, 1) := by decide +kernel
theorem d1_58 : decode method_3_code 58 = .ok (.iconst 2, 1) := by decide +kernel
theorem d1_59 : decode method_3_code 59 = .ok (.newarray .char, 2) := by decide +kernel
theorem d1_61 : decode method_3_code 61 = .ok (.astore 5, 2) := by decide +kernel
theorem d1_63 : decode method_3_code 63 = .ok (.aload 5, 2) := by decide +kernel
theorem d1_65 : decode method_3_code 65 = .ok (.iconst 0, 1) := by decide +kernel
theorem d1_66 : decode method_3_code 66 = .ok (.iload_n 2, 1) := by decide +kernel
theorem d1_67 : decode method_3_code 67 = .ok (.castore, 1) := by decide +kernel
theorem d1_68 : decode method_3_code 68 = .ok (.aload 5, 2) := by decide +kernel
theorem d1_70 : decode method_3_code 70 = .ok (.iconst 1, 1) := by decide +kernel
theorem d1_71 : decode method_3_code 71 = .ok (.iload_n 3, 1) := by decide +kernel
theorem d1_72 : decode method_3_code 72 = .ok (.castore, 1) := by decide +kernel
theorem d1_73 : decode method_3_code 73 = .ok (.new 31, 3) := by decide +kernel
theorem d1_76 : decode method_3_code 76 = .ok (.dup, 1) := by decide +kernel
theorem d1_77 : decode method_3_code 77 = .ok (.aload 5, 2) := by decide +kernel
theorem d1_79 : decode method_3_code 79 = .ok (.invokespecial 33, 3) := by decide +kernel
theorem d1_82 : decode method_3_code 82 = .ok (.areturn, 1) := by decide +kernel
theorem d1_48 : decode method_3_code 48 = .ok (.iload_n 2, 1) := by decide +kernel
theorem pd_8 : parseMethodDescriptor "(C)Ljava/lang/String;" = some ⟨[.char], some (.object "java/lang/String")⟩ := by decide +kernel
theorem d1_49 : decode method_3_code 49 = .ok (.invokestatic 36, 3) := by decide +kernel
theorem d1_52 : decode method_3_code 52 = .ok (.areturn, 1) := by decide +kernel
theorem d1_32 : decode method_3_code 32 = .ok (.new 31, 3) := by decide +kernel
theorem d1_35 : decode method_3_code 35 = .ok (.dup, 1) := by decide +kernel
theorem d1_36 : decode method_3_code 36 = .ok (.iconst 0, 1) := by decide +kernel
theorem d1_37 : decode method_3_code 37 = .ok (.newarray .char, 2) := by decide +kernel
theorem d1_39 : decode method_3_code 39 = .ok (.invokespecial 33, 3) := by decide +kernel
theorem d1_42 : decode method_3_code 42 = .ok (.areturn, 1) := by decide +kernel
set_option maxRecDepth 65536 in
set_option maxHeartbeats 40000000 in
theorem co1 (l : Launch) (Z : State) (a0 : Array Value) (hw : ∀ d ∈ tables_1, d.before a0 Z = true) (hEL : EW Z a0 EL) (x0 : Int32) (x1 : Int32) (cs : Int32) (h0 : Heap) (n0 : Nat) (Z0 : n0 ≤ h0.size)   (S_cs : Sta Z h0 "java/lang/String" "COMPACT_STRINGS" "Z" (.int cs)) (hcs : ¬ cs = (0 : Int32)) : CoH l (⟨"com/example/quadrille/quadrille/cli/OptionFlagPinLaw", "draw", "(II)Ljava/lang/String;"⟩ : MethodName) method_3_code 6 (some (.object "java/lang/String")) [] ({ frames := 4, cells := 6, slots := 12, locals := 66 } : Room) Z EL h0 #[(.int x0), (.int x1)] (Q1 Z x0 x1 cs h0 n0) := by
  refine CoH.of (plainFor_of_name pn_3) ?_
  intro p_ e_ s_ m_ below meth c_ T0 X0 hx hby hml hown hnm hret hlk hZ eq0 hs0 hS H
  have N0 := Fr.nil n0
  have hk0 := Nat.le_refl h0.size
  refine Go.cast (ef1 m_ x0 x1 ) ?_
  refine g_iloadN X0 hx rfl (hb hby d1_0) 1 rfl ?_
  refine g_sipush X0 hx (255 : Int32) rfl (hb hby d1_1) 4 rfl ?_
  refine g_iand X0 hx (hb hby d1_4) 5 rfl ?_
  refine g_i2c X0 hx (hb hby d1_5) 6 rfl ?_
  refine g_istoreN X0 hx #[.val (.int x0), .val (.int x1), .val (.int (x1 &&& (255 : Int32)).toUInt32.toUInt16.toUInt32.toInt32), .unset, .unset, .unset] rfl (hb hby d1_6) 7 rfl ?_
  refine g_iloadN X0 hx rfl (hb hby d1_7) 8 rfl ?_
  refine g_bipush X0 hx (8 : Int32) rfl (hb hby d1_8) 10 rfl ?_
  refine g_iushr X0 hx (hb hby d1_10) 11 rfl ?_
  refine g_sipush X0 hx (255 : Int32) rfl (hb hby d1_11) 14 rfl ?_
  refine g_iand X0 hx (hb hby d1_14) 15 rfl ?_
  refine g_i2c X0 hx (hb hby d1_15) 16 rfl ?_
  refine g_istoreN X0 hx #[.val (.int x0), .val (.int x1), .val (.int (x1 &&& (255 : Int32)).toUInt32.toUInt16.toUInt32.toInt32), .val (.int ((XT.ushr x1 (8 : Int32)) &&& (255 : Int32)).toUInt32.toUInt16.toUInt32.toInt32), .unset, .unset] rfl (hb hby d1_16) 17 rfl ?_
  refine g_iloadN X0 hx rfl (hb hby d1_17) 18 rfl ?_
  refine g_bipush X0 hx (16 : Int32) rfl (hb hby d1_18) 20 rfl ?_
  refine g_iushr X0 hx (hb hby d1_20) 21 rfl ?_
  refine g_sipush X0 hx (255 : Int32) rfl (hb hby d1_21) 24 rfl ?_
  refine g_iand X0 hx (hb hby d1_24) 25 rfl ?_
  refine g_i2c X0 hx (hb hby d1_25) 26 rfl ?_
  refine g_istore X0 hx #[.val (.int x0), .val (.int x1), .val (.int (x1 &&& (255 : Int32)).toUInt32.toUInt16.toUInt32.toInt32), .val (.int ((XT.ushr x1 (8 : Int32)) &&& (255 : Int32)).toUInt32.toUInt16.toUInt32.toInt32), .val (.int ((XT.ushr x1 (16 : Int32)) &&& (255 : Int32)).toUInt32.toUInt16.toUInt32.toInt32), .unset] rfl (hb hby d1_26) 28 rfl ?_
  refine g_iloadN X0 hx rfl (hb hby d1_28) 29 rfl ?_
  refine g_if_ne X0 hx (hb hby d1_29) 43 32 (by decide) rfl rfl (fun q29 => ?_) (fun q29 => ?_)
  · refine g_iloadN X0 hx rfl (hb hby d1_43) 44 rfl ?_
    refine g_iconst X0 hx (1 : Int32) rfl (hb hby d1_44) 45 rfl ?_
    refine g_icmp_ne X0 hx (hb hby d1_45) 53 48 (by decide) rfl rfl (fun q45 => ?_) (fun q45 => ?_)
    · refine g_iloadN X0 hx rfl (hb hby d1_53) 54 rfl ?_
      refine g_iconst X0 hx (2 : Int32) rfl (hb hby d1_54) 55 rfl ?_
      refine g_icmp_ne X0 hx (hb hby d1_55) 83 58 (by decide) rfl rfl (fun q55 => ?_) (fun q55 => ?_)
      · refine g_iconst X0 hx (3 : Int32) rfl (hb hby d1_83) 84 rfl ?_
        refine g_newarray X0 hx hZ (aty := .char) (wd hw 7 rfl) eq0 (by decide) 3 (by decide) (by decide) (by decide) (by decide) [(.int (0 : Int32)), (.int (0 : Int32)), (.int (0 : Int32))] rfl (hb hby d1_84) 86 rfl (fun T101 h102 b103 X104 e105 g106 E107 A108 => ?_)
        have F109 := S_cs.ext E107
        have sz110 : n0 ≤ b103 := Nat.le_trans Z0 (Nat.le_of_eq g106.symm)
        have szh111 : n0 ≤ h102.size := Nat.le_trans Z0 E107.1
        have szk112 : h0.size ≤ b103 := Nat.le_trans (Keep.refl h0 []).1 (Nat.le_of_eq g106.symm)
        have K113 := (Keep.refl h0 []).ext E107
        have H := H.trans (CHr.ext E107 H.1)
        have hk0 := Nat.le_trans hk0 E107.1
        have A114 : AV Z h102 b103 .char [(.int (0 : Int32)), (.int (0 : Int32)), (.int (0 : Int32))] := A108
        show Go p_ e_ below _ T101 (mkF m_ 86 #[.val (.int x0), .val (.int x1), .val (.int (x1 &&& (255 : Int32)).toUInt32.toUInt16.toUInt32.toInt32), .val (.int ((XT.ushr x1 (8 : Int32)) &&& (255 : Int32)).toUInt32.toUInt16.toUInt32.toInt32), .val (.int ((XT.ushr x1 (16 : Int32)) &&& (255 : Int32)).toUInt32.toUInt16.toUInt32.toInt32), .unset] [(.ref b103)])
        refine g_astore X104 hx #[.val (.int x0), .val (.int x1), .val (.int (x1 &&& (255 : Int32)).toUInt32.toUInt16.toUInt32.toInt32), .val (.int ((XT.ushr x1 (8 : Int32)) &&& (255 : Int32)).toUInt32.toUInt16.toUInt32.toInt32), .val (.int ((XT.ushr x1 (16 : Int32)) &&& (255 : Int32)).toUInt32.toUInt16.toUInt32.toInt32), .val (.ref b103)] rfl rfl (hb hby d1_86) 88 rfl ?_
        refine g_aload X104 hx rfl rfl (hb hby d1_88) 90 rfl ?_
        refine g_iconst X104 hx (0 : Int32) rfl (hb hby d1_90) 91 rfl ?_
        refine g_iloadN X104 hx rfl (hb hby d1_91) 92 rfl ?_
        refine g_castore X104 hx hZ e105 A114 (by decide) (Nat.le_of_ble_eq_true rfl) (hb hby d1_92) 93 rfl (fun T115 h116 X117 e118 W119 A120 => ?_)
        have A121 : AV Z h116 b103 .char [(.int (x1 &&& (255 : Int32)).toUInt32.toUInt16.toUInt32.toInt32.toUInt32.toUInt16.toUInt32.toInt32), (.int (0 : Int32)), (.int (0 : Int32))] := A120
        have H := H.trans (CHr.wr W119 (AV.safe hZ.alike A114 (by decide)) H.1)
        have hk0 := Nat.le_trans hk0 (Nat.le_of_eq W119.size.symm)
        have F122 := F109.wr W119
        have F123 := A121
        have N124 := Fr.snoc X117 N0 sz110
        have szh125 : n0 ≤ h116.size := Nat.le_trans szh111 (Nat.le_of_eq W119.size.symm)
        have K126 := K113.wr W119 (Or.inr szk112)
        show Go p_ e_ below _ T115 (mkF m_ 93 #[.val (.int x0), .val (.int x1), .val (.int (x1 &&& (255 : Int32)).toUInt32.toUInt16.toUInt32.toInt32), .val (.int ((XT.ushr x1 (8 : Int32)) &&& (255 : Int32)).toUInt32.toUInt16.toUInt32.toInt32), .val (.int ((XT.ushr x1 (16 : Int32)) &&& (255 : Int32)).toUInt32.toUInt16.toUInt32.toInt32), .val (.ref b103)] [])
        refine g_aload X117 hx rfl rfl (hb hby d1_93) 95 rfl ?_
        refine g_iconst X117 hx (1 : Int32) rfl (hb hby d1_95) 96 rfl ?_
        refine g_iloadN X117 hx rfl (hb hby d1_96) 97 rfl ?_
        refine g_castore X117 hx hZ e118 A121 (by decide) (Nat.le_of_ble_eq_true rfl) (hb hby d1_97) 98 rfl (fun T127 h128 X129 e130 W131 A132 => ?_)
        have A133 : AV Z h128 b103 .char [(.int (x1 &&& (255 : Int32)).toUInt32.toUInt16.toUInt32.toInt32.toUInt32.toUInt16.toUInt32.toInt32), (.int ((XT.ushr x1 (8 : Int32)) &&& (255 : Int32)).toUInt32.toUInt16.toUInt32.toInt32.toUInt32.toUInt16.toUInt32.toInt32), (.int (0 : Int32))] := A132
        have H := H.trans (CHr.wr W131 (AV.safe hZ.alike A121 (by decide)) H.1)
        have hk0 := Nat.le_trans hk0 (Nat.le_of_eq W131.size.symm)
        have F134 := F122.wr W131
        have F135 := A133
        have N136 := Fr.snoc X129 N124 sz110
        have szh137 : n0 ≤ h128.size := Nat.le_trans szh125 (Nat.le_of_eq W131.size.symm)
        have K138 := K126.wr W131 (Or.inr szk112)
        show Go p_ e_ below _ T127 (mkF m_ 98 #[.val (.int x0), .val (.int x1), .val (.int (x1 &&& (255 : Int32)).toUInt32.toUInt16.toUInt32.toInt32), .val (.int ((XT.ushr x1 (8 : Int32)) &&& (255 : Int32)).toUInt32.toUInt16.toUInt32.toInt32), .val (.int ((XT.ushr x1 (16 : Int32)) &&& (255 : Int32)).toUInt32.toUInt16.toUInt32.toInt32), .val (.ref b103)] [])
        refine g_aload X129 hx rfl rfl (hb hby d1_98) 100 rfl ?_
        refine g_iconst X129 hx (2 : Int32) rfl (hb hby d1_100) 101 rfl ?_
        refine g_iload X129 hx rfl (hb hby d1_101) 103 rfl ?_
        refine g_castore X129 hx hZ e130 A133 (by decide) (Nat.le_of_ble_eq_true rfl) (hb hby d1_103) 104 rfl (fun T139 h140 X141 e142 W143 A144 => ?_)
        have A145 : AV Z h140 b103 .char [(.int (x1 &&& (255 : Int32)).toUInt32.toUInt16.toUInt32.toInt32.toUInt32.toUInt16.toUInt32.toInt32), (.int ((XT.ushr x1 (8 : Int32)) &&& (255 : Int32)).toUInt32.toUInt16.toUInt32.toInt32.toUInt32.toUInt16.toUInt32.toInt32), (.int ((XT.ushr x1 (16 : Int32)) &&& (255 : Int32)).toUInt32.toUInt16.toUInt32.toInt32.toUInt32.toUInt16.toUInt32.toInt32)] := A144
        have H := H.trans (CHr.wr W143 (AV.safe hZ.alike A133 (by decide)) H.1)
        have hk0 := Nat.le_trans hk0 (Nat.le_of_eq W143.size.symm)
        have F146 := F134.wr W143
        have F147 := A145
        have N148 := Fr.snoc X141 N136 sz110
        have szh149 : n0 ≤ h140.size := Nat.le_trans szh137 (Nat.le_of_eq W143.size.symm)
        have K150 := K138.wr W143 (Or.inr szk112)
        show Go p_ e_ below _ T139 (mkF m_ 104 #[.val (.int x0), .val (.int x1), .val (.int (x1 &&& (255 : Int32)).toUInt32.toUInt16.toUInt32.toInt32), .val (.int ((XT.ushr x1 (8 : Int32)) &&& (255 : Int32)).toUInt32.toUInt16.toUInt32.toInt32), .val (.int ((XT.ushr x1 (16 : Int32)) &&& (255 : Int32)).toUInt32.toUInt16.toUInt32.toInt32), .val (.ref b103)] [])
        refine g_new X141 hx hZ hown (wd hw 4 rfl) (wd hw 5 rfl) (wd hw 6 rfl) e142 (hb hby d1_104) (by decide) (by decide) 107 rfl (fun T151 h152 b153 X154 e155 g156 E157 A158 D159 => ?_)
        have ne160 : b103 ≠ b153 := Nat.ne_of_lt (Nat.lt_of_lt_of_eq A145.lt g156.symm)
        have F161 := F146.ext E157
        have F162 := A145.ext E157
        have sz163 : n0 ≤ b153 := Nat.le_trans szh149 (Nat.le_of_eq g156.symm)
        have szh164 : n0 ≤ h152.size := Nat.le_trans szh149 E157.1
        have szk165 : h0.size ≤ b153 := Nat.le_trans K150.1 (Nat.le_of_eq g156.symm)
        have K166 := K150.ext E157
        have H := H.trans (CHr.ext E157 H.1)
        have hk0 := Nat.le_trans hk0 E157.1
        have F167 : Fld Z h152 b153 "java/lang/String" "value" "[B" .null := D159 (Or.inr (wd hw 20 rfl)) (ty := (.array .byte)) (by decide)
        have F168 : Fld Z h152 b153 "java/lang/String" "coder" "B" (.int (0 : Int32)) := D159 (Or.inr (wd hw 21 rfl)) (ty := .byte) (by decide)
        show Go p_ e_ below _ T151 (mkF m_ 107 #[.val (.int x0), .val (.int x1), .val (.int (x1 &&& (255 : Int32)).toUInt32.toUInt16.toUInt32.toInt32), .val (.int ((XT.ushr x1 (8 : Int32)) &&& (255 : Int32)).toUInt32.toUInt16.toUInt32.toInt32), .val (.int ((XT.ushr x1 (16 : Int32)) &&& (255 : Int32)).toUInt32.toUInt16.toUInt32.toInt32), .val (.ref b103)] [(.ref b153)])
        refine g_dup X154 hx rfl (hb hby d1_107) 108 rfl ?_
        refine g_aload X154 hx rfl rfl (hb hby d1_108) 110 rfl ?_
        refine g_init X154 hx hZ hown (wd hw 8 rfl) rfl (wd hw 9 rfl) (wd hw 6 rfl) (wd hw 10 rfl) (by decide) e155 [(.ref b103)] [(.ref b153)] rfl (co2_3 l Z a0 hw b153 b103 (x1 &&& (255 : Int32)).toUInt32.toUInt16.toUInt32.toInt32.toUInt32.toUInt16.toUInt32.toInt32 ((XT.ushr x1 (8 : Int32)) &&& (255 : Int32)).toUInt32.toUInt16.toUInt32.toInt32.toUInt32.toUInt16.toUInt32.toInt32 ((XT.ushr x1 (16 : Int32)) &&& (255 : Int32)).toUInt32.toUInt16.toUInt32.toInt32.toUInt32.toUInt16.toUInt32.toInt32 cs h152 n0 szh164 sz163 A158 F168 F167 F162 (Ne.symm ne160) F161 hcs (own_lat _) (own_lat _) (own_lat _)) (lenOf pd_7 rfl) 1 (Nat.le_of_eq rfl) (by decide) (by decide) (by decide) (by decide) (by rw [hml]; rfl) (hb hby d1_110) 113 rfl (fun r169 T170 L171 X172 Q173 => ?_)
        obtain ⟨h174, e175⟩ : ∃ h, T170.heap = h := ⟨_, rfl⟩
        rw [e175] at Q173
        obtain ⟨rfl, n176, K177, E178, F179, b180, sz181, F182, A183⟩ := Q173
        have N184 := Fr.app N148 n176
        have ne185 : b103 ≠ b180 := Nat.ne_of_lt (Nat.lt_of_lt_of_le F162.lt sz181)
        have ne186 : b153 ≠ b180 := Nat.ne_of_lt (Nat.lt_of_lt_of_le A158.lt sz181)
        have H := H.trans (CHr.keep K177 (sfS (own_safe_null hZ.alike A158 F167) sf0) H.1)
        have hk0 := Nat.le_trans hk0 K177.1
        have F187 := own_sta_keep F161 K177 (nsS A158.nostat ns0)
        have F188 := F162.keep K177 (ninS ne160 nin0)
        have F189 := A158.keep K177
        have szh190 : n0 ≤ h174.size := Nat.le_trans szh164 K177.1
        have K191 := K166.trans K177 (allS (Or.inr szk165) all0)
        show Go p_ e_ below _ T170 (mkF m_ 113 #[.val (.int x0), .val (.int x1), .val (.int (x1 &&& (255 : Int32)).toUInt32.toUInt16.toUInt32.toInt32), .val (.int ((XT.ushr x1 (8 : Int32)) &&& (255 : Int32)).toUInt32.toUInt16.toUInt32.toInt32), .val (.int ((XT.ushr x1 (16 : Int32)) &&& (255 : Int32)).toUInt32.toUInt16.toUInt32.toInt32), .val (.ref b103)] [(.ref b153)])
        exact g_retaH X172 hx rfl rfl hret hlk (by decide) (by decide) (hb hby d1_113) e175 hZ hS hk0 hEL H ⟨b153, rfl, N184, K191⟩
      · refine g_iconst X0 hx (2 : Int32) rfl (hb hby d1_58) 59 rfl ?_
        refine g_newarray X0 hx hZ (aty := .char) (wd hw 7 rfl) eq0 (by decide) 2 (by decide) (by decide) (by decide) (by decide) [(.int (0 : Int32)), (.int (0 : Int32))] rfl (hb hby d1_59) 61 rfl (fun T192 h193 b194 X195 e196 g197 E198 A199 => ?_)
        have F200 := S_cs.ext E198
        have sz201 : n0 ≤ b194 := Nat.le_trans Z0 (Nat.le_of_eq g197.symm)
        have szh202 : n0 ≤ h193.size := Nat.le_trans Z0 E198.1
        have szk203 : h0.size ≤ b194 := Nat.le_trans (Keep.refl h0 []).1 (Nat.le_of_eq g197.symm)
        have K204 := (Keep.refl h0 []).ext E198
        have H := H.trans (CHr.ext E198 H.1)
        have hk0 := Nat.le_trans hk0 E198.1
        have A205 : AV Z h193 b194 .char [(.int (0 : Int32)), (.int (0 : Int32))] := A199
        show Go p_ e_ below _ T192 (mkF m_ 61 #[.val (.int x0), .val (.int x1), .val (.int (x1 &&& (255 : Int32)).toUInt32.toUInt16.toUInt32.toInt32), .val (.int ((XT.ushr x1 (8 : Int32)) &&& (255 : Int32)).toUInt32.toUInt16.toUInt32.toInt32), .val (.int ((XT.ushr x1 (16 : Int32)) &&& (255 : Int32)).toUInt32.toUInt16.toUInt32.toInt32), .unset] [(.ref b194)])
        refine g_astore X195 hx #[.val (.int x0), .val (.int x1), .val (.int (x1 &&& (255 : Int32)).toUInt32.toUInt16.toUInt32.toInt32), .val (.int ((XT.ushr x1 (8 : Int32)) &&& (255 : Int32)).toUInt32.toUInt16.toUInt32.toInt32), .val (.int ((XT.ushr x1 (16 : Int32)) &&& (255 : Int32)).toUInt32.toUInt16.toUInt32.toInt32), .val (.ref b194)] rfl rfl (hb hby d1_61) 63 rfl ?_
        refine g_aload X195 hx rfl rfl (hb hby d1_63) 65 rfl ?_
        refine g_iconst X195 hx (0 : Int32) rfl (hb hby d1_65) 66 rfl ?_
        refine g_iloadN X195 hx rfl (hb hby d1_66) 67 rfl ?_
        refine g_castore X195 hx hZ e196 A205 (by decide) (Nat.le_of_ble_eq_true rfl) (hb hby d1_67) 68 rfl (fun T206 h207 X208 e209 W210 A211 => ?_)
        have A212 : AV Z h207 b194 .char [(.int (x1 &&& (255 : Int32)).toUInt32.toUInt16.toUInt32.toInt32.toUInt32.toUInt16.toUInt32.toInt32), (.int (0 : Int32))] := A211
        have H := H.trans (CHr.wr W210 (AV.safe hZ.alike A205 (by decide)) H.1)
        have hk0 := Nat.le_trans hk0 (Nat.le_of_eq W210.size.symm)
        have F213 := F200.wr W210
        have F214 := A212
        have N215 := Fr.snoc X208 N0 sz201
        have szh216 : n0 ≤ h207.size := Nat.le_trans szh202 (Nat.le_of_eq W210.size.symm)
        have K217 := K204.wr W210 (Or.inr szk203)
        show Go p_ e_ below _ T206 (mkF m_ 68 #[.val (.int x0), .val (.int x1), .val (.int (x1 &&& (255 : Int32)).toUInt32.toUInt16.toUInt32.toInt32), .val (.int ((XT.ushr x1 (8 : Int32)) &&& (255 : Int32)).toUInt32.toUInt16.toUInt32.toInt32), .val (.int ((XT.ushr x1 (16 : Int32)) &&& (255 : Int32)).toUInt32.toUInt16.toUInt32.toInt32), .val (.ref b194)] [])
        refine g_aload X208 hx rfl rfl (hb hby d1_68) 70 rfl ?_
        refine g_iconst X208 hx (1 : Int32) rfl (hb hby d1_70) 71 rfl ?_
        refine g_iloadN X208 hx rfl (hb hby d1_71) 72 rfl ?_
        refine g_castore X208 hx hZ e209 A212 (by decide) (Nat.le_of_ble_eq_true rfl) (hb hby d1_72) 73 rfl (fun T218 h219 X220 e221 W222 A223 => ?_)
        have A224 : AV Z h219 b194 .char [(.int (x1 &&& (255 : Int32)).toUInt32.toUInt16.toUInt32.toInt32.toUInt32.toUInt16.toUInt32.toInt32), (.int ((XT.ushr x1 (8 : Int32)) &&& (255 : Int32)).toUInt32.toUInt16.toUInt32.toInt32.toUInt32.toUInt16.toUInt32.toInt32)] := A223
        have H := H.trans (CHr.wr W222 (AV.safe hZ.alike A212 (by decide)) H.1)
        have hk0 := Nat.le_trans hk0 (Nat.le_of_eq W222.size.symm)
        have F225 := F213.wr W222
        have F226 := A224
        have N227 := Fr.snoc X220 N215 sz201
        have szh228 : n0 ≤ h219.size := Nat.le_trans szh216 (Nat.le_of_eq W222.size.symm)
        have K229 := K217.wr W222 (Or.inr szk203)
        show Go p_ e_ below _ T218 (mkF m_ 73 #[.val (.int x0), .val (.int x1), .val (.int (x1 &&& (255 : Int32)).toUInt32.toUInt16.toUInt32.toInt32), .val (.int ((XT.ushr x1 (8 : Int32)) &&& (255 : Int32)).toUInt32.toUInt16.toUInt32.toInt32), .val (.int ((XT.ushr x1 (16 : Int32)) &&& (255 : Int32)).toUInt32.toUInt16.toUInt32.toInt32), .val (.ref b194)] [])
        refine g_new X220 hx hZ hown (wd hw 4 rfl) (wd hw 5 rfl) (wd hw 6 rfl) e221 (hb hby d1_73) (by decide) (by decide) 76 rfl (fun T230 h231 b232 X233 e234 g235 E236 A237 D238 => ?_)
        have ne239 : b194 ≠ b232 := Nat.ne_of_lt (Nat.lt_of_lt_of_eq A224.lt g235.symm)
        have F240 := F225.ext E236
        have F241 := A224.ext E236
        have sz242 : n0 ≤ b232 := Nat.le_trans szh228 (Nat.le_of_eq g235.symm)
        have szh243 : n0 ≤ h231.size := Nat.le_trans szh228 E236.1
        have szk244 : h0.size ≤ b232 := Nat.le_trans K229.1 (Nat.le_of_eq g235.symm)
        have K245 := K229.ext E236
        have H := H.trans (CHr.ext E236 H.1)
        have hk0 := Nat.le_trans hk0 E236.1
        have F246 : Fld Z h231 b232 "java/lang/String" "value" "[B" .null := D238 (Or.inr (wd hw 20 rfl)) (ty := (.array .byte)) (by decide)
        have F247 : Fld Z h231 b232 "java/lang/String" "coder" "B" (.int (0 : Int32)) := D238 (Or.inr (wd hw 21 rfl)) (ty := .byte) (by decide)
        show Go p_ e_ below _ T230 (mkF m_ 76 #[.val (.int x0), .val (.int x1), .val (.int (x1 &&& (255 : Int32)).toUInt32.toUInt16.toUInt32.toInt32), .val (.int ((XT.ushr x1 (8 : Int32)) &&& (255 : Int32)).toUInt32.toUInt16.toUInt32.toInt32), .val (.int ((XT.ushr x1 (16 : Int32)) &&& (255 : Int32)).toUInt32.toUInt16.toUInt32.toInt32), .val (.ref b194)] [(.ref b232)])
        refine g_dup X233 hx rfl (hb hby d1_76) 77 rfl ?_
        refine g_aload X233 hx rfl rfl (hb hby d1_77) 79 rfl ?_
        refine g_init X233 hx hZ hown (wd hw 8 rfl) rfl (wd hw 9 rfl) (wd hw 6 rfl) (wd hw 10 rfl) (by decide) e234 [(.ref b194)] [(.ref b232)] rfl (co2_2 l Z a0 hw b232 b194 (x1 &&& (255 : Int32)).toUInt32.toUInt16.toUInt32.toInt32.toUInt32.toUInt16.toUInt32.toInt32 ((XT.ushr x1 (8 : Int32)) &&& (255 : Int32)).toUInt32.toUInt16.toUInt32.toInt32.toUInt32.toUInt16.toUInt32.toInt32 cs h231 n0 szh243 sz242 A237 F247 F246 F241 (Ne.symm ne239) F240 hcs (own_lat _) (own_lat _)) (lenOf pd_7 rfl) 1 (Nat.le_of_eq rfl) (by decide) (by decide) (by decide) (by decide) (by rw [hml]; rfl) (hb hby d1_79) 82 rfl (fun r248 T249 L250 X251 Q252 => ?_)
        obtain ⟨h253, e254⟩ : ∃ h, T249.heap = h := ⟨_, rfl⟩
        rw [e254] at Q252
        obtain ⟨rfl, n255, K256, E257, F258, b259, sz260, F261, A262⟩ := Q252
        have N263 := Fr.app N227 n255
        have ne264 : b194 ≠ b259 := Nat.ne_of_lt (Nat.lt_of_lt_of_le F241.lt sz260)
        have ne265 : b232 ≠ b259 := Nat.ne_of_lt (Nat.lt_of_lt_of_le A237.lt sz260)
        have H := H.trans (CHr.keep K256 (sfS (own_safe_null hZ.alike A237 F246) sf0) H.1)
        have hk0 := Nat.le_trans hk0 K256.1
        have F266 := own_sta_keep F240 K256 (nsS A237.nostat ns0)
        have F267 := F241.keep K256 (ninS ne239 nin0)
        have F268 := A237.keep K256
        have szh269 : n0 ≤ h253.size := Nat.le_trans szh243 K256.1
        have K270 := K245.trans K256 (allS (Or.inr szk244) all0)
        show Go p_ e_ below _ T249 (mkF m_ 82 #[.val (.int x0), .val (.int x1), .val (.int (x1 &&& (255 : Int32)).toUInt32.toUInt16.toUInt32.toInt32), .val (.int ((XT.ushr x1 (8 : Int32)) &&& (255 : Int32)).toUInt32.toUInt16.toUInt32.toInt32), .val (.int ((XT.ushr x1 (16 : Int32)) &&& (255 : Int32)).toUInt32.toUInt16.toUInt32.toInt32), .val (.ref b194)] [(.ref b232)])
        exact g_retaH X251 hx rfl rfl hret hlk (by decide) (by decide) (hb hby d1_82) e254 hZ hS hk0 hEL H ⟨b232, rfl, N263, K270⟩
    · refine g_iloadN X0 hx rfl (hb hby d1_48) 49 rfl ?_
      refine g_callS X0 hx hZ hown (wd hw 106 rfl) (wd hw 107 rfl) (wd hw 6 rfl) (wd hw 108 rfl) (by decide) eq0 [(.int (x1 &&& (255 : Int32)).toUInt32.toUInt16.toUInt32.toInt32)] [] rfl (co18 l Z a0 hw (x1 &&& (255 : Int32)).toUInt32.toUInt16.toUInt32.toInt32 cs h0 n0 Z0 S_cs hcs (own_lat1 _)) (lenOf pd_8 rfl) 0 (Nat.le_of_eq rfl) (by decide) (by decide) (by decide) (by decide) (by rw [hml]; rfl) (hb hby d1_49) 52 rfl (fun r271 T272 L273 X274 Q275 => ?_)
      obtain ⟨h276, e277⟩ : ∃ h, T272.heap = h := ⟨_, rfl⟩
      rw [e277] at Q275
      obtain ⟨r278, rfl, n279, K280⟩ := Q275
      have N281 := Fr.app N0 n279
      have H := H.trans (CHr.keep K280 sf0 H.1)
      have hk0 := Nat.le_trans hk0 K280.1
      have F282 := own_sta_keep S_cs K280 ns0
      have szh283 : n0 ≤ h276.size := Nat.le_trans Z0 K280.1
      have K284 := (Keep.refl h0 []).trans K280 all0
      show Go p_ e_ below _ T272 (mkF m_ 52 #[.val (.int x0), .val (.int x1), .val (.int (x1 &&& (255 : Int32)).toUInt32.toUInt16.toUInt32.toInt32), .val (.int ((XT.ushr x1 (8 : Int32)) &&& (255 : Int32)).toUInt32.toUInt16.toUInt32.toInt32), .val (.int ((XT.ushr x1 (16 : Int32)) &&& (255 : Int32)).toUInt32.toUInt16.toUInt32.toInt32), .unset] [(.ref r278)])
      exact g_retaH X274 hx rfl rfl hret hlk (by decide) (by decide) (hb hby d1_52) e277 hZ hS hk0 hEL H ⟨r278, rfl, N281, K284⟩
  · refine g_new X0 hx hZ hown (wd hw 4 rfl) (wd hw 5 rfl) (wd hw 6 rfl) eq0 (hb hby d1_32) (by decide) (by decide) 35 rfl (fun T285 h286 b287 X288 e289 g290 E291 A292 D293 => ?_)
    have F294 := S_cs.ext E291
    have sz295 : n0 ≤ b287 := Nat.le_trans Z0 (Nat.le_of_eq g290.symm)
    have szh296 : n0 ≤ h286.size := Nat.le_trans Z0 E291.1
    have szk297 : h0.size ≤ b287 := Nat.le_trans (Keep.refl h0 []).1 (Nat.le_of_eq g290.symm)
    have K298 := (Keep.refl h0 []).ext E291
    have H := H.trans (CHr.ext E291 H.1)
    have hk0 := Nat.le_trans hk0 E291.1
    have F299 : Fld Z h286 b287 "java/lang/String" "value" "[B" .null := D293 (Or.inr (wd hw 20 rfl)) (ty := (.array .byte)) (by decide)
    have F300 : Fld Z h286 b287 "java/lang/String" "coder" "B" (.int (0 : Int32)) := D293 (Or.inr (wd hw 21 rfl)) (ty := .byte) (by decide)
    show Go p_ e_ below _ T285 (mkF m_ 35 #[.val (.int x0), .val (.int x1), .val (.int (x1 &&& (255 : Int32)).toUInt32.toUInt16.toUInt32.toInt32), .val (.int ((XT.ushr x1 (8 : Int32)) &&& (255 : Int32)).toUInt32.toUInt16.toUInt32.toInt32), .val (.int ((XT.ushr x1 (16 : Int32)) &&& (255 : Int32)).toUInt32.toUInt16.toUInt32.toInt32), .unset] [(.ref b287)])
    refine g_dup X288 hx rfl (hb hby d1_35) 36 rfl ?_
    refine g_iconst X288 hx (0 : Int32) rfl (hb hby d1_36) 37 rfl ?_
    refine g_newarray X288 hx hZ (aty := .char) (wd hw 7 rfl) e289 (by decide) 0 (by decide) (by decide) (by decide) (by decide) [] rfl (hb hby d1_37) 39 rfl (fun T301 h302 b303 X304 e305 g306 E307 A308 => ?_)
    have ne309 : b287 ≠ b303 := Nat.ne_of_lt (Nat.lt_of_lt_of_eq A292.lt g306.symm)
    have F310 := F294.ext E307
    have F311 := A292.ext E307
    have F312 := F299.ext E307
    have F313 := F300.ext E307
    have sz314 : n0 ≤ b303 := Nat.le_trans szh296 (Nat.le_of_eq g306.symm)
    have szh315 : n0 ≤ h302.size := Nat.le_trans szh296 E307.1
    have szk316 : h0.size ≤ b303 := Nat.le_trans K298.1 (Nat.le_of_eq g306.symm)
    have K317 := K298.ext E307
    have H := H.trans (CHr.ext E307 H.1)
    have hk0 := Nat.le_trans hk0 E307.1
    have A318 : AV Z h302 b303 .char [] := A308
    show Go p_ e_ below _ T301 (mkF m_ 39 #[.val (.int x0), .val (.int x1), .val (.int (x1 &&& (255 : Int32)).toUInt32.toUInt16.toUInt32.toInt32), .val (.int ((XT.ushr x1 (8 : Int32)) &&& (255 : Int32)).toUInt32.toUInt16.toUInt32.toInt32), .val (.int ((XT.ushr x1 (16 : Int32)) &&& (255 : Int32)).toUInt32.toUInt16.toUInt32.toInt32), .unset] [(.ref b303), (.ref b287), (.ref b287)])
    refine g_initH X304 hx hown (wd hw 8 rfl) rfl (wd hw 9 rfl) (wd hw 6 rfl) (wd hw 10 rfl) (by decide) e305 [(.ref b303)] [(.ref b287)] hZ hS hk0 hEL H rfl (co2_0 l Z a0 hw hEL b287 b303 h302 n0 szh315 sz295 F311 F313 F312 A318) (lenOf pd_7 rfl) 1 (Nat.le_of_eq rfl) (by decide) (by decide) (by decide) (by decide) (by rw [hml]; rfl) (hb hby d1_39) 42 rfl (fun r319 T320 h321 L322 X323 e324 hZ hown hS H Q325 => ?_)
    have hk0 := Nat.le_refl h321.size
    obtain ⟨rfl, n326, K327⟩ := Q325
    have N328 := Fr.app N0 n326
    have F329 := own_sta_keep F310 K327 (nsS F311.nostat ns0)
    have F330 := F311.keep K327
    have szh331 : n0 ≤ h321.size := Nat.le_trans szh315 K327.1
    have K332 := K317.trans K327 (allS (Or.inr szk297) all0)
    show Go p_ e_ below _ T320 (mkF m_ 42 #[.val (.int x0), .val (.int x1), .val (.int (x1 &&& (255 : Int32)).toUInt32.toUInt16.toUInt32.toInt32), .val (.int ((XT.ushr x1 (8 : Int32)) &&& (255 : Int32)).toUInt32.toUInt16.toUInt32.toInt32), .val (.int ((XT.ushr x1 (16 : Int32)) &&& (255 : Int32)).toUInt32.toUInt16.toUInt32.toInt32), .unset] [(.ref b287)])
    exact g_retaH X323 hx rfl rfl hret hlk (by decide) (by decide) (hb hby d1_42) e324 hZ hS hk0 hEL H ⟨b287, rfl, N328, K332⟩
theorem ef9 (m_ : MethodId)   : entryFrame m_ #[] 0 = mkF m_ 0 #[] [] := by first | (simp [entryFrame, mkF, argsToLocals, Value.category]; done) | rfl
theorem pn_4 : plainName "java/util/List" = true := by first | (simp [plainName, overriddenIn]; done) | decide +kernel
theorem d9_0 : decode jdk_40_method_36_code 0 = .ok (.getstatic 90, 3) := by decide +kernel
theorem d9_3 : decode jdk_40_method_36_code 3 = .ok (.areturn, 1) := by decide +kernel
set_option maxRecDepth 65536 in
set_option maxHeartbeats 40000000 in
theorem co9 (l : Launch) (Z : State) (a0 : Array Value) (hw : ∀ d ∈ tables_1, d.before a0 Z = true) (el : Addr) (h0 : Heap) (S_el : Sta Z h0 "java/util/ImmutableCollections" "EMPTY_LIST" "Ljava/util/ImmutableCollections$ListN;" (.ref el)) : Co l (⟨"java/util/List", "of", "()Ljava/util/List;"⟩ : MethodName) jdk_40_method_36_code 0 (some (.object "java/util/List")) [] ({ frames := 0, cells := 0, slots := 0, locals := 0 } : Room) Z h0 #[] (Pu h0 (some (.ref (el )))) := by
  refine Co.of (plainFor_of_name pn_4) ?_
  intro p_ e_ s_ m_ below meth c_ T0 X0 hx hby hml hown hnm hret hlk hZ eq0
  refine Go.cast (ef9 m_  ) ?_
  refine g_getstatic X0 hx hZ hown (host := "") (Or.inl (wd hw 47 rfl)) Via.refl S_el eq0 (hb hby d9_0) 3 rfl (fun T101 X102 e103 => ?_)
  show Go p_ e_ below _ T101 (mkF m_ 3 #[] [(.ref el)])
  exact g_reta X102 hx rfl rfl hret hlk (by decide) (by decide) (hb hby d9_3) ⟨congrArg (fun z => some (Value.ref z)) rfl, e103, rfl⟩
theorem ef14 (m_ : MethodId) (el : Addr)  : entryFrame m_ #[(.ref el)] 1 = mkF m_ 0 #[.val (.ref el)] [] := by first | (simp [entryFrame, mkF, argsToLocals, Value.category]; done) | rfl
theorem pn_5 : plainName "java/util/ImmutableCollections$ListN" = true := by first | (simp [plainName, overriddenIn]; done) | decide +kernel
theorem d14_0 : decode jdk_45_method_2_code 0 = .ok (.aload_n 0, 1) := by decide +kernel
theorem d14_1 : decode jdk_45_method_2_code 1 = .ok (.getfield 7, 3) := by decide +kernel
theorem d14_4 : decode jdk_45_method_2_code 4 = .ok (.arraylength, 1) := by decide +kernel
theorem d14_5 : decode jdk_45_method_2_code 5 = .ok (.ifCond .ne 7, 3) := by decide +kernel
theorem d14_8 : decode jdk_45_method_2_code 8 = .ok (.iconst 1, 1) := by decide +kernel
theorem d14_9 : decode jdk_45_method_2_code 9 = .ok (.goto 4, 3) := by decide +kernel
theorem d14_13 : decode jdk_45_method_2_code 13 = .ok (.ireturn, 1) := by decide +kernel
set_option maxRecDepth 65536 in
set_option maxHeartbeats 40000000 in
theorem co14 (l : Launch) (Z : State) (a0 : Array Value) (hw : ∀ d ∈ tables_1, d.before a0 Z = true) (el : Addr) (ea : Addr) (h0 : Heap) (E_el : Exa Z h0 el "java/util/ImmutableCollections$ListN") (F_el : Fld Z h0 el "java/util/ImmutableCollections$ListN" "elements" "[Ljava/lang/Object;" (.ref ea)) (A_ea : AV Z h0 ea (.object "java/lang/Object") []) (F_an : Fld Z h0 el "java/util/ImmutableCollections$ListN" "allowNulls" "Z" (.int (0 : Int32))) : Co l (⟨"java/util/ImmutableCollections$ListN", "isEmpty", "()Z"⟩ : MethodName) jdk_45_method_2_code 1 (some .boolean) [] ({ frames := 0, cells := 0, slots := 0, locals := 0 } : Room) Z h0 #[(.ref el)] (Pu h0 (some (.int ((1 : Int32) )))) := by
  refine Co.of (plainFor_of_name pn_5) ?_
  intro p_ e_ s_ m_ below meth c_ T0 X0 hx hby hml hown hnm hret hlk hZ eq0
  refine Go.cast (ef14 m_ el ) ?_
  refine g_aloadN X0 hx rfl rfl (hb hby d14_0) 1 rfl ?_
  refine g_getfield X0 hx hZ hown (host := "") (Or.inl (wd hw 82 rfl)) Via.refl F_el eq0 (hb hby d14_1) 4 rfl (fun T101 X102 e103 => ?_)
  show Go p_ e_ below _ T101 (mkF m_ 4 #[.val (.ref el)] [(.ref ea)])
  refine g_arraylength X102 hx hZ e103 A_ea (0 : Int32) rfl (hb hby d14_4) 5 rfl ?_
  refine g_if_ne X102 hx (hb hby d14_5) 12 8 (by decide) rfl rfl (fun q5 => ?_) (fun q5 => ?_)
  · exact absurd rfl q5
  · refine g_iconst X102 hx (1 : Int32) rfl (hb hby d14_8) 9 rfl ?_
    refine g_goto X102 hx (hb hby d14_9) 13 (by decide) rfl ?_
    exact g_retz X102 hx hret hlk (by decide) (by decide) (hb hby d14_13) ⟨congrArg (fun z => some (Value.int z)) (by decide), e103, rfl⟩
theorem ef17 (m_ : MethodId) (el : Addr) (o : Addr)  : entryFrame m_ #[(.ref el), (.ref o)] 4 = mkF m_ 0 #[.val (.ref el), .val (.ref o), .unset, .unset] [] := by first | (simp [entryFrame, mkF, argsToLocals, Value.category]; done) | rfl
theorem d17_0 : decode jdk_45_method_9_code 0 = .ok (.aload_n 0, 1) := by decide +kernel
theorem d17_1 : decode jdk_45_method_9_code 1 = .ok (.getfield 13, 3) := by decide +kernel
theorem d17_4 : decode jdk_45_method_9_code 4 = .ok (.ifCond .ne 15, 3) := by decide +kernel
theorem d17_7 : decode jdk_45_method_9_code 7 = .ok (.aload_n 1, 1) := by decide +kernel
theorem d17_8 : decode jdk_45_method_9_code 8 = .ok (.ifnonnull 11, 3) := by decide +kernel
theorem d17_19 : decode jdk_45_method_9_code 19 = .ok (.aload_n 0, 1) := by decide +kernel
theorem d17_20 : decode jdk_45_method_9_code 20 = .ok (.getfield 7, 3) := by decide +kernel
theorem d17_23 : decode jdk_45_method_9_code 23 = .ok (.astore_n 2, 1) := by decide +kernel
theorem d17_24 : decode jdk_45_method_9_code 24 = .ok (.iconst 0, 1) := by decide +kernel
theorem d17_25 : decode jdk_45_method_9_code 25 = .ok (.istore_n 3, 1) := by decide +kernel
theorem d17_26 : decode jdk_45_method_9_code 26 = .ok (.iload_n 3, 1) := by decide +kernel
theorem d17_27 : decode jdk_45_method_9_code 27 = .ok (.aload_n 2, 1) := by decide +kernel
theorem d17_28 : decode jdk_45_method_9_code 28 = .ok (.arraylength, 1) := by decide +kernel
theorem d17_29 : decode jdk_45_method_9_code 29 = .ok (.if_icmp .ge 21, 3) := by decide +kernel
theorem d17_50 : decode jdk_45_method_9_code 50 = .ok (.iconst (-1), 1) := by decide +kernel
theorem d17_51 : decode jdk_45_method_9_code 51 = .ok (.ireturn, 1) := by decide +kernel
set_option maxRecDepth 65536 in
set_option maxHeartbeats 40000000 in
theorem co17 (l : Launch) (Z : State) (a0 : Array Value) (hw : ∀ d ∈ tables_1, d.before a0 Z = true) (el : Addr) (o : Addr) (ea : Addr) (h0 : Heap) (E_el : Exa Z h0 el "java/util/ImmutableCollections$ListN") (F_el : Fld Z h0 el "java/util/ImmutableCollections$ListN" "elements" "[Ljava/lang/Object;" (.ref ea)) (A_ea : AV Z h0 ea (.object "java/lang/Object") []) (F_an : Fld Z h0 el "java/util/ImmutableCollections$ListN" "allowNulls" "Z" (.int (0 : Int32))) : Co l (⟨"java/util/ImmutableCollections$ListN", "indexOf", "(Ljava/lang/Object;)I"⟩ : MethodName) jdk_45_method_9_code 4 (some .int) [] ({ frames := 0, cells := 0, slots := 0, locals := 0 } : Room) Z h0 #[(.ref el), (.ref o)] (Pu h0 (some (.int ((-1 : Int32) )))) := by
  refine Co.of (plainFor_of_name pn_5) ?_
  intro p_ e_ s_ m_ below meth c_ T0 X0 hx hby hml hown hnm hret hlk hZ eq0
  refine Go.cast (ef17 m_ el o ) ?_
  refine g_aloadN X0 hx rfl rfl (hb hby d17_0) 1 rfl ?_
  refine g_getfield X0 hx hZ hown (host := "") (Or.inl (wd hw 104 rfl)) Via.refl F_an eq0 (hb hby d17_1) 4 rfl (fun T101 X102 e103 => ?_)
  show Go p_ e_ below _ T101 (mkF m_ 4 #[.val (.ref el), .val (.ref o), .unset, .unset] [(.int (0 : Int32))])
  refine g_if_ne X102 hx (hb hby d17_4) 19 7 (by decide) rfl rfl (fun q4 => ?_) (fun q4 => ?_)
  · exact absurd rfl q4
  · refine g_aloadN X102 hx rfl rfl (hb hby d17_7) 8 rfl ?_
    refine g_ifnonnull X102 hx rfl (hb hby d17_8) 19 11 (by decide) rfl rfl (fun q8 => ?_) (fun q8 => ?_)
    · refine g_aloadN X102 hx rfl rfl (hb hby d17_19) 20 rfl ?_
      refine g_getfield X102 hx hZ hown (host := "") (Or.inl (wd hw 82 rfl)) Via.refl F_el e103 (hb hby d17_20) 23 rfl (fun T104 X105 e106 => ?_)
      show Go p_ e_ below _ T104 (mkF m_ 23 #[.val (.ref el), .val (.ref o), .unset, .unset] [(.ref ea)])
      refine g_astoreN X105 hx #[.val (.ref el), .val (.ref o), .val (.ref ea), .unset] rfl rfl (hb hby d17_23) 24 rfl ?_
      refine g_iconst X105 hx (0 : Int32) rfl (hb hby d17_24) 25 rfl ?_
      refine g_istoreN X105 hx #[.val (.ref el), .val (.ref o), .val (.ref ea), .val (.int (0 : Int32))] rfl (hb hby d17_25) 26 rfl ?_
      refine g_iloadN X105 hx rfl (hb hby d17_26) 27 rfl ?_
      refine g_aloadN X105 hx rfl rfl (hb hby d17_27) 28 rfl ?_
      refine g_arraylength X105 hx hZ e106 A_ea (0 : Int32) rfl (hb hby d17_28) 29 rfl ?_
      refine g_icmp_ge X105 hx (hb hby d17_29) 50 32 (by decide) rfl rfl (fun q29 => ?_) (fun q29 => ?_)
      · refine g_iconst X105 hx (-1 : Int32) rfl (hb hby d17_50) 51 rfl ?_
        exact g_reti X105 hx hret hlk (by decide) (by decide) (hb hby d17_51) ⟨congrArg (fun z => some (Value.int z)) rfl, e106, rfl⟩
      · exact absurd q29 (by decide)
    · exact (by cases q8)
theorem ef16 (m_ : MethodId) (el : Addr) (o : Addr)  : entryFrame m_ #[(.ref el), (.ref o)] 2 = mkF m_ 0 #[.val (.ref el), .val (.ref o)] [] := by first | (simp [entryFrame, mkF, argsToLocals, Value.category]; done) | rfl
theorem pn_6 : plainName "java/util/ImmutableCollections$AbstractImmutableList" = true := by first | (simp [plainName, overriddenIn]; done) | decide +kernel
theorem d16_0 : decode jdk_46_method_15_code 0 = .ok (.aload_n 0, 1) := by decide +kernel
theorem d16_1 : decode jdk_46_method_15_code 1 = .ok (.aload_n 1, 1) := by decide +kernel
theorem pd_9 : parseMethodDescriptor "(Ljava/lang/Object;)I" = some ⟨[(.object "java/lang/Object")], some .int⟩ := by decide +kernel
theorem d16_2 : decode jdk_46_method_15_code 2 = .ok (.invokevirtual 107, 3) := by decide +kernel
theorem d16_5 : decode jdk_46_method_15_code 5 = .ok (.ifCond .lt 7, 3) := by decide +kernel
theorem d16_12 : decode jdk_46_method_15_code 12 = .ok (.iconst 0, 1) := by decide +kernel
theorem d16_13 : decode jdk_46_method_15_code 13 = .ok (.ireturn, 1) := by decide +kernel
set_option maxRecDepth 65536 in
set_option maxHeartbeats 40000000 in
theorem co16 (l : Launch) (Z : State) (a0 : Array Value) (hw : ∀ d ∈ tables_1, d.before a0 Z = true) (el : Addr) (o : Addr) (ea : Addr) (h0 : Heap) (E_el : Exa Z h0 el "java/util/ImmutableCollections$ListN") (F_el : Fld Z h0 el "java/util/ImmutableCollections$ListN" "elements" "[Ljava/lang/Object;" (.ref ea)) (A_ea : AV Z h0 ea (.object "java/lang/Object") []) (F_an : Fld Z h0 el "java/util/ImmutableCollections$ListN" "allowNulls" "Z" (.int (0 : Int32))) : Co l (⟨"java/util/ImmutableCollections$AbstractImmutableList", "contains", "(Ljava/lang/Object;)Z"⟩ : MethodName) jdk_46_method_15_code 2 (some .boolean) [] ({ frames := 1, cells := 0, slots := 0, locals := 15 } : Room) Z h0 #[(.ref el), (.ref o)] (Pu h0 (some (.int ((0 : Int32) )))) := by
  refine Co.of (plainFor_of_name pn_6) ?_
  intro p_ e_ s_ m_ below meth c_ T0 X0 hx hby hml hown hnm hret hlk hZ eq0
  refine Go.cast (ef16 m_ el o ) ?_
  refine g_aloadN X0 hx rfl rfl (hb hby d16_0) 1 rfl ?_
  refine g_aloadN X0 hx rfl rfl (hb hby d16_1) 2 rfl ?_
  refine g_callVU X0 hx hZ hown (wd hw 98 rfl) (C := "java/util/ImmutableCollections$ListN") (owner := "java/util/List") (wd hw 99 rfl) (wd hw 100 rfl) (by decide) (wd hw 101 rfl) (wd hw 102 rfl) (wd hw 80 rfl) (wd hw 103 rfl) (by decide) eq0 [(.ref o)] [] E_el rfl (co17 l Z a0 hw el o ea h0 E_el F_el A_ea F_an) (lenOf pd_9 rfl) 0 (Nat.le_of_eq rfl) (by decide) (by decide) (by decide) (by decide) (by rw [hml]; rfl) (hb hby d16_2) 5 rfl (pu_cont fun T102 X101 e103 => ?_)
  show Go p_ e_ below _ T102 (mkF m_ 5 #[.val (.ref el), .val (.ref o)] [(.int (-1 : Int32))])
  refine g_if_lt X101 hx (hb hby d16_5) 12 8 (by decide) rfl rfl (fun q5 => ?_) (fun q5 => ?_)
  · refine g_iconst X101 hx (0 : Int32) rfl (hb hby d16_12) 13 rfl ?_
    exact g_retz X101 hx hret hlk (by decide) (by decide) (hb hby d16_13) ⟨congrArg (fun z => some (Value.int z)) (by decide), e103, rfl⟩
  · exact absurd q5 (by decide)
def Q11 (Z : State) (a : Addr) (h0 : Heap) (n0 : Nat) (v : Option Value) (h : Heap) (L : List Loc) : Prop := v = none ∧ Fr n0 L ∧ Keep h0 h []
theorem ef11 (m_ : MethodId) (a : Addr)  : entryFrame m_ #[(.ref a)] 1 = mkF m_ 0 #[.val (.ref a)] [] := by first | (simp [entryFrame, mkF, argsToLocals, Value.category]; done) | rfl
theorem pn_7 : plainName "java/lang/Record" = true := by first | (simp [plainName, overriddenIn]; done) | decide +kernel
theorem d11_0 : decode jdk_30_method_1_code 0 = .ok (.aload_n 0, 1) := by decide +kernel
theorem d11_1 : decode jdk_30_method_1_code 1 = .ok (.invokespecial 1, 3) := by decide +kernel
theorem d11_4 : decode jdk_30_method_1_code 4 = .ok (.return_, 1) := by decide +kernel
set_option maxRecDepth 65536 in
set_option maxHeartbeats 40000000 in
theorem co11 (l : Launch) (Z : State) (a0 : Array Value) (hw : ∀ d ∈ tables_1, d.before a0 Z = true) (a : Addr) (h0 : Heap) (n0 : Nat) (Z0 : n0 ≤ h0.size)    : Co l (⟨"java/lang/Record", "<init>", "()V"⟩ : MethodName) jdk_30_method_1_code 1 none [] ({ frames := 1, cells := 0, slots := 0, locals := 12 } : Room) Z h0 #[(.ref a)] (Q11 Z a h0 n0) := by
  refine Co.of (plainFor_of_name pn_7) ?_
  intro p_ e_ s_ m_ below meth c_ T0 X0 hx hby hml hown hnm hret hlk hZ eq0
  have N0 := Fr.nil n0
  refine Go.cast (ef11 m_ a ) ?_
  refine g_aloadN X0 hx rfl rfl (hb hby d11_0) 1 rfl ?_
  refine g_initO X0 hx hZ hown (wd hw 57 rfl) (wd hw 16 rfl) (wd hw 17 rfl) eq0 (by rw [hml]; rfl) (hb hby d11_1) (by decide) 0 (Nat.le_of_eq rfl) (by decide) 4 rfl (fun T101 X102 e103 => ?_)
  show Go p_ e_ below _ T101 (mkF m_ 4 #[.val (.ref a)] [])
  exact g_retv X102 hx hret hlk (by decide) (by decide) (hb hby d11_4) (by rw [e103]; exact ⟨rfl, N0, (Keep.refl h0 [])⟩)
def Q10 (Z : State) (a : Addr) (n : Value) (el : Addr) (h0 : Heap) (n0 : Nat) (v : Option Value) (h : Heap) (L : List Loc) : Prop := v = none ∧ Fr n0 L ∧ Keep h0 h [a] ∧ Exa Z h a "com/example/quadrille/quadrille/cli/Arguments$Option" ∧ Fld Z h a "com/example/quadrille/quadrille/cli/Arguments$Option" "name" "Ljava/lang/String;" n ∧ Fld Z h a "com/example/quadrille/quadrille/cli/Arguments$Option" "values" "Ljava/util/List;" (.ref el)
theorem ef10 (m_ : MethodId) (a : Addr) (n : Value) (el : Addr) (h_n : n.isRef = true) : entryFrame m_ #[(.ref a), n, (.ref el)] 3 = mkF m_ 0 #[.val (.ref a), .val n, .val (.ref el)] [] := by rcases ref_cases h_n with rfl | ⟨_, rfl⟩ <;> first | (simp [entryFrame, mkF, argsToLocals, Value.category]; done) | rfl
theorem pn_8 : plainName "com/example/quadrille/quadrille/cli/Arguments$Option" = true := by first | (simp [plainName, overriddenIn]; done) | decide +kernel
theorem d10_0 : decode prog_3_method_1_code 0 = .ok (.aload_n 0, 1) := by decide +kernel
theorem pd_10 : parseMethodDescriptor "()V" = some ⟨[], none⟩ := by decide +kernel
theorem d10_1 : decode prog_3_method_1_code 1 = .ok (.invokespecial 1, 3) := by decide +kernel
theorem d10_4 : decode prog_3_method_1_code 4 = .ok (.aload_n 0, 1) := by decide +kernel
theorem d10_5 : decode prog_3_method_1_code 5 = .ok (.aload_n 1, 1) := by decide +kernel
theorem d10_6 : decode prog_3_method_1_code 6 = .ok (.putfield 7, 3) := by decide +kernel
theorem d10_9 : decode prog_3_method_1_code 9 = .ok (.aload_n 0, 1) := by decide +kernel
theorem d10_10 : decode prog_3_method_1_code 10 = .ok (.aload_n 2, 1) := by decide +kernel
theorem d10_11 : decode prog_3_method_1_code 11 = .ok (.putfield 13, 3) := by decide +kernel
theorem d10_14 : decode prog_3_method_1_code 14 = .ok (.return_, 1) := by decide +kernel
set_option maxRecDepth 65536 in
set_option maxHeartbeats 40000000 in
theorem co10 (l : Launch) (Z : State) (a0 : Array Value) (hw : ∀ d ∈ tables_1, d.before a0 Z = true) (a : Addr) (n : Value) (el : Addr) (h0 : Heap) (n0 : Nat) (Z0 : n0 ≤ h0.size) (h_n : n.isRef = true) (g_a : n0 ≤ a) (E_a : Exa Z h0 a "com/example/quadrille/quadrille/cli/Arguments$Option") (F_n : Fld Z h0 a "com/example/quadrille/quadrille/cli/Arguments$Option" "name" "Ljava/lang/String;" .null) (F_w : Fld Z h0 a "com/example/quadrille/quadrille/cli/Arguments$Option" "values" "Ljava/util/List;" .null) : Co l (⟨"com/example/quadrille/quadrille/cli/Arguments$Option", "<init>", "(Ljava/lang/String;Ljava/util/List;)V"⟩ : MethodName) prog_3_method_1_code 3 none [] ({ frames := 2, cells := 0, slots := 0, locals := 24 } : Room) Z h0 #[(.ref a), n, (.ref el)] (Q10 Z a n el h0 n0) := by
  refine Co.of (plainFor_of_name pn_8) ?_
  intro p_ e_ s_ m_ below meth c_ T0 X0 hx hby hml hown hnm hret hlk hZ eq0
  have N0 := Fr.nil n0
  refine Go.cast (ef10 m_ a n el h_n) ?_
  refine g_aloadN X0 hx rfl rfl (hb hby d10_0) 1 rfl ?_
  refine g_init X0 hx hZ hown (wd hw 52 rfl) rfl (wd hw 53 rfl) (wd hw 55 rfl) (wd hw 56 rfl) (by decide) eq0 [] [] rfl (co11 l Z a0 hw a h0 n0 Z0) (lenOf pd_10 rfl) 0 (Nat.le_of_eq rfl) (by decide) (by decide) (by decide) (by decide) (by rw [hml]; rfl) (hb hby d10_1) 4 rfl (fun r101 T102 L103 X104 Q105 => ?_)
  obtain ⟨h106, e107⟩ : ∃ h, T102.heap = h := ⟨_, rfl⟩
  rw [e107] at Q105
  obtain ⟨rfl, n108, K109⟩ := Q105
  have N110 := Fr.app N0 n108
  have F111 := E_a.keep K109
  have F112 := F_n.keep K109 nin0
  have F113 := F_w.keep K109 nin0
  have szh114 : n0 ≤ h106.size := Nat.le_trans Z0 K109.1
  have K115 := (Keep.refl h0 [a]).trans K109 all0
  show Go p_ e_ below _ T102 (mkF m_ 4 #[.val (.ref a), .val n, .val (.ref el)] [])
  refine g_aloadN X104 hx rfl rfl (hb hby d10_4) 5 rfl ?_
  refine g_aloadN X104 hx rfl h_n (hb hby d10_5) 6 rfl ?_
  refine g_putfield X104 hx hZ hown (host := "") (Or.inl (wd hw 58 rfl)) Via.refl e107 F112 F111 (Or.inr ⟨(wd hw 59 rfl), rfl, hnm⟩) (wd hw 42 rfl) (ty := (.object "java/lang/String")) (by decide) (by cases n <;> rfl) (by rcases ref_cases h_n with rfl | ⟨_, rfl⟩ <;> rfl) (hb hby d10_6) 9 rfl (fun T116 h117 X118 e119 W120 => ?_)
  have F121 := F111.wr W120
  have F122 := F112.same W120
  have F123 := F113.other W120 (Or.inr (slot_ne (Or.inr (wd hw 61 rfl)) (Or.inr (wd hw 59 rfl)) (by decide) (t := (.object "java/util/List")) (t' := (.object "java/lang/String")) (by decide) (by decide)))
  have N124 := Fr.snoc X118 N110 g_a
  have szh125 : n0 ≤ h117.size := Nat.le_trans szh114 (Nat.le_of_eq W120.size.symm)
  have K126 := K115.wr W120 (Or.inl (List.mem_of_getElem? (i := 0) rfl))
  show Go p_ e_ below _ T116 (mkF m_ 9 #[.val (.ref a), .val n, .val (.ref el)] [])
  refine g_aloadN X118 hx rfl rfl (hb hby d10_9) 10 rfl ?_
  refine g_aloadN X118 hx rfl rfl (hb hby d10_10) 11 rfl ?_
  refine g_putfield X118 hx hZ hown (host := "") (Or.inl (wd hw 60 rfl)) Via.refl e119 F123 F121 (Or.inr ⟨(wd hw 61 rfl), rfl, hnm⟩) (wd hw 42 rfl) (ty := (.object "java/util/List")) (by decide) rfl rfl (hb hby d10_11) 14 rfl (fun T127 h128 X129 e130 W131 => ?_)
  have F132 := F121.wr W131
  have F133 := F122.other W131 (Or.inr (slot_ne (Or.inr (wd hw 59 rfl)) (Or.inr (wd hw 61 rfl)) (by decide) (t := (.object "java/lang/String")) (t' := (.object "java/util/List")) (by decide) (by decide)))
  have F134 := F123.same W131
  have N135 := Fr.snoc X129 N124 g_a
  have szh136 : n0 ≤ h128.size := Nat.le_trans szh125 (Nat.le_of_eq W131.size.symm)
  have K137 := K126.wr W131 (Or.inl (List.mem_of_getElem? (i := 0) rfl))
  show Go p_ e_ below _ T127 (mkF m_ 14 #[.val (.ref a), .val n, .val (.ref el)] [])
  exact g_retv X129 hx hret hlk (by decide) (by decide) (hb hby d10_14) (by rw [e130]; exact ⟨rfl, N135, K137, F132, F133, F134⟩)
def Q8 (Z : State) (n : Value) (el : Addr) (h0 : Heap) (n0 : Nat) (v : Option Value) (h : Heap) (L : List Loc) : Prop := ∃ r, v = some (.ref r) ∧ Fr n0 L ∧ Keep h0 h [] ∧ Exa Z h r "com/example/quadrille/quadrille/cli/Arguments$Option" ∧ Fld Z h r "com/example/quadrille/quadrille/cli/Arguments$Option" "name" "Ljava/lang/String;" n ∧ Fld Z h r "com/example/quadrille/quadrille/cli/Arguments$Option" "values" "Ljava/util/List;" (.ref el)
theorem ef8 (m_ : MethodId) (n : Value) (h_n : n.isRef = true) : entryFrame m_ #[n] 1 = mkF m_ 0 #[.val n] [] := by rcases ref_cases h_n with rfl | ⟨_, rfl⟩ <;> first | (simp [entryFrame, mkF, argsToLocals, Value.category]; done) | rfl
theorem d8_0 : decode prog_3_method_2_code 0 = .ok (.new 8, 3) := by decide +kernel
theorem d8_3 : decode prog_3_method_2_code 3 = .ok (.dup, 1) := by decide +kernel
theorem d8_4 : decode prog_3_method_2_code 4 = .ok (.aload_n 0, 1) := by decide +kernel
theorem pd_11 : parseMethodDescriptor "()Ljava/util/List;" = some ⟨[], some (.object "java/util/List")⟩ := by decide +kernel
theorem d8_5 : decode prog_3_method_2_code 5 = .ok (.invokestatic 17, 3) := by decide +kernel
theorem pd_12 : parseMethodDescriptor "(Ljava/lang/String;Ljava/util/List;)V" = some ⟨[(.object "java/lang/String"), (.object "java/util/List")], none⟩ := by decide +kernel
theorem d8_8 : decode prog_3_method_2_code 8 = .ok (.invokespecial 23, 3) := by decide +kernel
theorem d8_11 : decode prog_3_method_2_code 11 = .ok (.areturn, 1) := by decide +kernel
set_option maxRecDepth 65536 in
set_option maxHeartbeats 40000000 in
theorem co8 (l : Launch) (Z : State) (a0 : Array Value) (hw : ∀ d ∈ tables_1, d.before a0 Z = true) (n : Value) (el : Addr) (h0 : Heap) (n0 : Nat) (Z0 : n0 ≤ h0.size) (h_n : n.isRef = true)  (S_el : Sta Z h0 "java/util/ImmutableCollections" "EMPTY_LIST" "Ljava/util/ImmutableCollections$ListN;" (.ref el)) : Co l (⟨"com/example/quadrille/quadrille/cli/Arguments$Option", "flag", "(Ljava/lang/String;)Lcom/example/quadrille/quadrille/cli/Arguments$Option;"⟩ : MethodName) prog_3_method_2_code 1 (some (.object "com/example/quadrille/quadrille/cli/Arguments$Option")) [] ({ frames := 3, cells := 1, slots := 2, locals := 39 } : Room) Z h0 #[n] (Q8 Z n el h0 n0) := by
  refine Co.of (plainFor_of_name pn_8) ?_
  intro p_ e_ s_ m_ below meth c_ T0 X0 hx hby hml hown hnm hret hlk hZ eq0
  have N0 := Fr.nil n0
  refine Go.cast (ef8 m_ n h_n) ?_
  refine g_new X0 hx hZ hown (wd hw 41 rfl) (wd hw 42 rfl) (wd hw 39 rfl) eq0 (hb hby d8_0) (by decide) (by decide) 3 rfl (fun T101 h102 b103 X104 e105 g106 E107 A108 D109 => ?_)
  have F110 := S_el.ext E107
  have sz111 : n0 ≤ b103 := Nat.le_trans Z0 (Nat.le_of_eq g106.symm)
  have szh112 : n0 ≤ h102.size := Nat.le_trans Z0 E107.1
  have szk113 : h0.size ≤ b103 := Nat.le_trans (Keep.refl h0 []).1 (Nat.le_of_eq g106.symm)
  have K114 := (Keep.refl h0 []).ext E107
  have F115 : Fld Z h102 b103 "com/example/quadrille/quadrille/cli/Arguments$Option" "name" "Ljava/lang/String;" .null := D109 (Or.inr (wd hw 59 rfl)) (ty := (.object "java/lang/String")) (by decide)
  have F116 : Fld Z h102 b103 "com/example/quadrille/quadrille/cli/Arguments$Option" "values" "Ljava/util/List;" .null := D109 (Or.inr (wd hw 61 rfl)) (ty := (.object "java/util/List")) (by decide)
  show Go p_ e_ below _ T101 (mkF m_ 3 #[.val n] [(.ref b103)])
  refine g_dup X104 hx rfl (hb hby d8_3) 4 rfl ?_
  refine g_aloadN X104 hx rfl h_n (hb hby d8_4) 5 rfl ?_
  refine g_callS X104 hx hZ hown (wd hw 43 rfl) (wd hw 44 rfl) (wd hw 45 rfl) (wd hw 46 rfl) (by decide) e105 [] [n, (.ref b103), (.ref b103)]  rfl (co9 l Z a0 hw  el h102 F110) (lenOf pd_11 rfl) 3 (by rcases ref_cases h_n with hv_ | ⟨_, hv_⟩ <;> rw [hv_] <;> exact Nat.le_of_eq rfl) (by decide) (by decide) (by decide) (by decide) (by rw [hml]; rfl) (hb hby d8_5) 8 rfl (pu_cont fun T118 X117 e119 => ?_)
  show Go p_ e_ below _ T118 (mkF m_ 8 #[.val n] [(.ref el), n, (.ref b103), (.ref b103)])
  refine g_init X117 hx hZ hown (wd hw 49 rfl) rfl (wd hw 50 rfl) (wd hw 39 rfl) (wd hw 51 rfl) (by decide) e119 [n, (.ref el)] [(.ref b103)] rfl (co10 l Z a0 hw b103 n el h102 n0 szh112 h_n sz111 A108 F115 F116) (lenOf pd_12 rfl) 1 (Nat.le_of_eq rfl) (by decide) (by decide) (by decide) (by decide) (by rw [hml]; rfl) (hb hby d8_8) 11 rfl (fun r120 T121 L122 X123 Q124 => ?_)
  obtain ⟨h125, e126⟩ : ∃ h, T121.heap = h := ⟨_, rfl⟩
  rw [e126] at Q124
  obtain ⟨rfl, n127, K128, E129, F130, F131⟩ := Q124
  have N132 := Fr.app N0 n127
  have F133 := own_sta_keep F110 K128 (nsS A108.nostat ns0)
  have F134 := A108.keep K128
  have szh135 : n0 ≤ h125.size := Nat.le_trans szh112 K128.1
  have K136 := K114.trans K128 (allS (Or.inr szk113) all0)
  show Go p_ e_ below _ T121 (mkF m_ 11 #[.val n] [(.ref b103)])
  exact g_reta X123 hx rfl rfl hret hlk (by decide) (by decide) (hb hby d8_11) (by rw [e126]; exact ⟨b103, rfl, N132, K136, E129, F130, F131⟩)
theorem ef12 (m_ : MethodId) (a : Addr)  : entryFrame m_ #[(.ref a)] 1 = mkF m_ 0 #[.val (.ref a)] [] := by first | (simp [entryFrame, mkF, argsToLocals, Value.category]; done) | rfl
theorem d12_0 : decode prog_3_method_9_code 0 = .ok (.aload_n 0, 1) := by decide +kernel
theorem d12_1 : decode prog_3_method_9_code 1 = .ok (.getfield 7, 3) := by decide +kernel
theorem d12_4 : decode prog_3_method_9_code 4 = .ok (.areturn, 1) := by decide +kernel
set_option maxRecDepth 65536 in
set_option maxHeartbeats 40000000 in
theorem co12 (l : Launch) (Z : State) (a0 : Array Value) (hw : ∀ d ∈ tables_1, d.before a0 Z = true) (a : Addr) (n : Value) (h0 : Heap) (h_n : n.isRef = true) (F_n : Fld Z h0 a "com/example/quadrille/quadrille/cli/Arguments$Option" "name" "Ljava/lang/String;" n) : Co l (⟨"com/example/quadrille/quadrille/cli/Arguments$Option", "name", "()Ljava/lang/String;"⟩ : MethodName) prog_3_method_9_code 1 (some (.object "java/lang/String")) [] ({ frames := 0, cells := 0, slots := 0, locals := 0 } : Room) Z h0 #[(.ref a)] (Pu h0 (some ( (n )))) := by
  refine Co.of (plainFor_of_name pn_8) ?_
  intro p_ e_ s_ m_ below meth c_ T0 X0 hx hby hml hown hnm hret hlk hZ eq0
  refine Go.cast (ef12 m_ a ) ?_
  refine g_aloadN X0 hx rfl rfl (hb hby d12_0) 1 rfl ?_
  refine g_getfield X0 hx hZ hown (host := "") (Or.inl (wd hw 58 rfl)) Via.refl F_n eq0 (hb hby d12_1) 4 rfl (fun T101 X102 e103 => ?_)
  show Go p_ e_ below _ T101 (mkF m_ 4 #[.val (.ref a)] [n])
  exact g_reta X102 hx h_n rfl hret hlk (by decide) (by decide) (hb hby d12_4) ⟨congrArg some rfl, e103, rfl⟩
theorem ef13 (m_ : MethodId) (a : Addr)  : entryFrame m_ #[(.ref a)] 1 = mkF m_ 0 #[.val (.ref a)] [] := by first | (simp [entryFrame, mkF, argsToLocals, Value.category]; done) | rfl
theorem d13_0 : decode prog_3_method_4_code 0 = .ok (.aload_n 0, 1) := by decide +kernel
theorem d13_1 : decode prog_3_method_4_code 1 = .ok (.getfield 13, 3) := by decide +kernel
theorem d13_4 : decode prog_3_method_4_code 4 = .ok (.ifnull 15, 3) := by decide +kernel
theorem d13_7 : decode prog_3_method_4_code 7 = .ok (.aload_n 0, 1) := by decide +kernel
theorem d13_8 : decode prog_3_method_4_code 8 = .ok (.getfield 13, 3) := by decide +kernel
theorem pd_13 : parseMethodDescriptor "()Z" = some ⟨[], some .boolean⟩ := by decide +kernel
theorem d13_11 : decode prog_3_method_4_code 11 = .ok (.invokeinterface 26 1, 5) := by decide +kernel
theorem d13_16 : decode prog_3_method_4_code 16 = .ok (.ifCond .ne 7, 3) := by decide +kernel
theorem d13_23 : decode prog_3_method_4_code 23 = .ok (.iconst 0, 1) := by decide +kernel
theorem d13_24 : decode prog_3_method_4_code 24 = .ok (.ireturn, 1) := by decide +kernel
set_option maxRecDepth 65536 in
set_option maxHeartbeats 40000000 in
theorem co13 (l : Launch) (Z : State) (a0 : Array Value) (hw : ∀ d ∈ tables_1, d.before a0 Z = true) (a : Addr) (el : Addr) (ea : Addr) (h0 : Heap) (F_w : Fld Z h0 a "com/example/quadrille/quadrille/cli/Arguments$Option" "values" "Ljava/util/List;" (.ref el)) (E_el : Exa Z h0 el "java/util/ImmutableCollections$ListN") (F_el : Fld Z h0 el "java/util/ImmutableCollections$ListN" "elements" "[Ljava/lang/Object;" (.ref ea)) (A_ea : AV Z h0 ea (.object "java/lang/Object") []) (F_an : Fld Z h0 el "java/util/ImmutableCollections$ListN" "allowNulls" "Z" (.int (0 : Int32))) : Co l (⟨"com/example/quadrille/quadrille/cli/Arguments$Option", "takesValue", "()Z"⟩ : MethodName) prog_3_method_4_code 1 (some .boolean) [] ({ frames := 1, cells := 0, slots := 0, locals := 12 } : Room) Z h0 #[(.ref a)] (Pu h0 (some (.int ((0 : Int32) )))) := by
  refine Co.of (plainFor_of_name pn_8) ?_
  intro p_ e_ s_ m_ below meth c_ T0 X0 hx hby hml hown hnm hret hlk hZ eq0
  refine Go.cast (ef13 m_ a ) ?_
  refine g_aloadN X0 hx rfl rfl (hb hby d13_0) 1 rfl ?_
  refine g_getfield X0 hx hZ hown (host := "") (Or.inl (wd hw 60 rfl)) Via.refl F_w eq0 (hb hby d13_1) 4 rfl (fun T101 X102 e103 => ?_)
  show Go p_ e_ below _ T101 (mkF m_ 4 #[.val (.ref a)] [(.ref el)])
  refine g_ifnull X102 hx rfl (hb hby d13_4) 19 7 (by decide) rfl rfl (fun q4 => ?_) (fun q4 => ?_)
  · exact (by cases q4)
  · refine g_aloadN X102 hx rfl rfl (hb hby d13_7) 8 rfl ?_
    refine g_getfield X102 hx hZ hown (host := "") (Or.inl (wd hw 60 rfl)) Via.refl F_w e103 (hb hby d13_8) 11 rfl (fun T104 X105 e106 => ?_)
    show Go p_ e_ below _ T104 (mkF m_ 11 #[.val (.ref a)] [(.ref el)])
    refine g_callI X105 hx hZ hown (wd hw 72 rfl) (C := "java/util/ImmutableCollections$ListN") (wd hw 73 rfl) (wd hw 74 rfl) (wd hw 75 rfl) (wd hw 76 rfl) (wd hw 77 rfl) (wd hw 78 rfl) (wd hw 79 rfl) (wd hw 80 rfl) (wd hw 81 rfl) (by decide) e106 [] [] E_el rfl (co14 l Z a0 hw el ea h0 E_el F_el A_ea F_an) (lenOf pd_13 rfl) 0 (Nat.le_of_eq rfl) (by decide) (by decide) (by decide) (by decide) (by rw [hml]; rfl) (hb hby d13_11) 16 rfl (pu_cont fun T108 X107 e109 => ?_)
    show Go p_ e_ below _ T108 (mkF m_ 16 #[.val (.ref a)] [(.int (1 : Int32))])
    refine g_if_ne X107 hx (hb hby d13_16) 23 19 (by decide) rfl rfl (fun q16 => ?_) (fun q16 => ?_)
    · refine g_iconst X107 hx (0 : Int32) rfl (hb hby d13_23) 24 rfl ?_
      exact g_retz X107 hx hret hlk (by decide) (by decide) (hb hby d13_24) ⟨congrArg (fun z => some (Value.int z)) (by decide), e109, rfl⟩
    · exact absurd q16 (by decide)
theorem ef15 (m_ : MethodId) (a : Addr) (o : Addr)  : entryFrame m_ #[(.ref a), (.ref o)] 2 = mkF m_ 0 #[.val (.ref a), .val (.ref o)] [] := by first | (simp [entryFrame, mkF, argsToLocals, Value.category]; done) | rfl
theorem d15_0 : decode prog_3_method_5_code 0 = .ok (.aload_n 0, 1) := by decide +kernel
theorem d15_1 : decode prog_3_method_5_code 1 = .ok (.getfield 13, 3) := by decide +kernel
theorem d15_4 : decode prog_3_method_5_code 4 = .ok (.ifnull 16, 3) := by decide +kernel
theorem d15_7 : decode prog_3_method_5_code 7 = .ok (.aload_n 0, 1) := by decide +kernel
theorem d15_8 : decode prog_3_method_5_code 8 = .ok (.getfield 13, 3) := by decide +kernel
theorem d15_11 : decode prog_3_method_5_code 11 = .ok (.aload_n 1, 1) := by decide +kernel
theorem pd_14 : parseMethodDescriptor "(Ljava/lang/Object;)Z" = some ⟨[(.object "java/lang/Object")], some .boolean⟩ := by decide +kernel
theorem d15_12 : decode prog_3_method_5_code 12 = .ok (.invokeinterface 30 2, 5) := by decide +kernel
theorem d15_17 : decode prog_3_method_5_code 17 = .ok (.ifCond .eq 7, 3) := by decide +kernel
theorem d15_24 : decode prog_3_method_5_code 24 = .ok (.iconst 0, 1) := by decide +kernel
theorem d15_25 : decode prog_3_method_5_code 25 = .ok (.ireturn, 1) := by decide +kernel
set_option maxRecDepth 65536 in
set_option maxHeartbeats 40000000 in
theorem co15 (l : Launch) (Z : State) (a0 : Array Value) (hw : ∀ d ∈ tables_1, d.before a0 Z = true) (a : Addr) (o : Addr) (el : Addr) (ea : Addr) (h0 : Heap) (F_w : Fld Z h0 a "com/example/quadrille/quadrille/cli/Arguments$Option" "values" "Ljava/util/List;" (.ref el)) (E_el : Exa Z h0 el "java/util/ImmutableCollections$ListN") (F_el : Fld Z h0 el "java/util/ImmutableCollections$ListN" "elements" "[Ljava/lang/Object;" (.ref ea)) (A_ea : AV Z h0 ea (.object "java/lang/Object") []) (F_an : Fld Z h0 el "java/util/ImmutableCollections$ListN" "allowNulls" "Z" (.int (0 : Int32))) : Co l (⟨"com/example/quadrille/quadrille/cli/Arguments$Option", "takes", "(Ljava/lang/String;)Z"⟩ : MethodName) prog_3_method_5_code 2 (some .boolean) [] ({ frames := 2, cells := 0, slots := 0, locals := 28 } : Room) Z h0 #[(.ref a), (.ref o)] (Pu h0 (some (.int ((0 : Int32) )))) := by
  refine Co.of (plainFor_of_name pn_8) ?_
  intro p_ e_ s_ m_ below meth c_ T0 X0 hx hby hml hown hnm hret hlk hZ eq0
  refine Go.cast (ef15 m_ a o ) ?_
  refine g_aloadN X0 hx rfl rfl (hb hby d15_0) 1 rfl ?_
  refine g_getfield X0 hx hZ hown (host := "") (Or.inl (wd hw 60 rfl)) Via.refl F_w eq0 (hb hby d15_1) 4 rfl (fun T101 X102 e103 => ?_)
  show Go p_ e_ below _ T101 (mkF m_ 4 #[.val (.ref a), .val (.ref o)] [(.ref el)])
  refine g_ifnull X102 hx rfl (hb hby d15_4) 20 7 (by decide) rfl rfl (fun q4 => ?_) (fun q4 => ?_)
  · exact (by cases q4)
  · refine g_aloadN X102 hx rfl rfl (hb hby d15_7) 8 rfl ?_
    refine g_getfield X102 hx hZ hown (host := "") (Or.inl (wd hw 60 rfl)) Via.refl F_w e103 (hb hby d15_8) 11 rfl (fun T104 X105 e106 => ?_)
    show Go p_ e_ below _ T104 (mkF m_ 11 #[.val (.ref a), .val (.ref o)] [(.ref el)])
    refine g_aloadN X105 hx rfl rfl (hb hby d15_11) 12 rfl ?_
    refine g_callI X105 hx hZ hown (wd hw 89 rfl) (C := "java/util/ImmutableCollections$ListN") (wd hw 90 rfl) (wd hw 91 rfl) (wd hw 92 rfl) (wd hw 93 rfl) (wd hw 94 rfl) (wd hw 95 rfl) (wd hw 79 rfl) (wd hw 96 rfl) (wd hw 97 rfl) (by decide) e106 [(.ref o)] [] E_el rfl (co16 l Z a0 hw el o ea h0 E_el F_el A_ea F_an) (lenOf pd_14 rfl) 0 (Nat.le_of_eq rfl) (by decide) (by decide) (by decide) (by decide) (by rw [hml]; rfl) (hb hby d15_12) 17 rfl (pu_cont fun T108 X107 e109 => ?_)
    show Go p_ e_ below _ T108 (mkF m_ 17 #[.val (.ref a), .val (.ref o)] [(.int (0 : Int32))])
    refine g_if_eq X107 hx (hb hby d15_17) 24 20 (by decide) rfl rfl (fun q17 => ?_) (fun q17 => ?_)
    · refine g_iconst X107 hx (0 : Int32) rfl (hb hby d15_24) 25 rfl ?_
      exact g_retz X107 hx hret hlk (by decide) (by decide) (hb hby d15_25) ⟨congrArg (fun z => some (Value.int z)) (by decide), e109, rfl⟩
    · exact absurd rfl q17
theorem ef0 (m_ : MethodId) (x0 : Int32) (x1 : Int32) (x2 : Int32) (x3 : Int32)  : entryFrame m_ #[(.int x0), (.int x1), (.int x2), (.int x3)] maxLocals = mkF m_ 0 #[.val (.int x0), .val (.int x1), .val (.int x2), .val (.int x3), .unset, .unset, .unset, .unset] [] := by first | (simp [entryFrame, mkF, argsToLocals, Value.category, maxLocals]; done) | rfl
theorem pd_15 : parseMethodDescriptor "(II)Ljava/lang/String;" = some ⟨[.int, .int], some (.object "java/lang/String")⟩ := by decide +kernel
theorem pd_16 : parseMethodDescriptor "(Ljava/lang/String;)Lcom/example/quadrille/quadrille/cli/Arguments$Option;" = some ⟨[(.object "java/lang/String")], some (.object "com/example/quadrille/quadrille/cli/Arguments$Option")⟩ := by decide +kernel
theorem pd_17 : parseMethodDescriptor "()Ljava/lang/String;" = some ⟨[], some (.object "java/lang/String")⟩ := by decide +kernel
theorem pd_18 : parseMethodDescriptor "(Ljava/lang/String;)Z" = some ⟨[(.object "java/lang/String")], some .boolean⟩ := by decide +kernel
set_option maxRecDepth 65536 in
set_option maxHeartbeats 40000000 in
theorem rm0 (l : Launch) (Z : State) (a0 : Array Value) (hw : ∀ d ∈ tables_1, d.before a0 Z = true) (hEL : EW Z a0 EL) (ws : List Jvm.Cond) (x0 : Int32) (x1 : Int32) (x2 : Int32) (x3 : Int32) (h0 : Heap) (cs : Int32) (S_cs : Sta Z h0 "java/lang/String" "COMPACT_STRINGS" "Z" (.int cs)) (hcs : ¬ cs = (0 : Int32)) (el ea : Addr) (S_el : Sta Z h0 "java/util/ImmutableCollections" "EMPTY_LIST" "Ljava/util/ImmutableCollections$ListN;" (.ref el)) (E_el : Exa Z h0 el "java/util/ImmutableCollections$ListN") (F_el : Fld Z h0 el "java/util/ImmutableCollections$ListN" "elements" "[Ljava/lang/Object;" (.ref ea)) (A_ea : AV Z h0 ea (.object "java/lang/Object") []) (F_an : Fld Z h0 el "java/util/ImmutableCollections$ListN" "allowNulls" "Z" (.int (0 : Int32))) : CoH l x code maxLocals ret ws room_1 Z EL h0 #[(.int x0), (.int x1), (.int x2), (.int x3)] (fun v h L => v = some (.int 1) ∧ Fr h0.size L) := by
  refine CoH.of (plainFor_of_name pn_3) ?_
  intro p_ e_ s_ m_ below meth c_ T0 X0 hx hby hml hown hnm hret hlk hZ eq0 hs0 hS H
  have N0 := Fr.nil h0.size
  have hk0 := Nat.le_refl h0.size
  refine Go.cast (ef0 m_ x0 x1 x2 x3) ?_
  refine g_iloadN X0 hx rfl (hb hby at_0) 1 rfl ?_
  refine g_bipush X0 hx (12 : Int32) rfl (hb hby at_1) 3 rfl ?_
  refine g_iand X0 hx (hb hby at_3) 4 rfl ?_
  refine g_bipush X0 hx (12 : Int32) rfl (hb hby at_4) 6 rfl ?_
  refine g_icmp_ne X0 hx (hb hby at_6) 13 9 (by decide) rfl rfl (fun q6 => ?_) (fun q6 => ?_)
  · refine g_iloadN X0 hx rfl (hb hby at_13) 14 rfl ?_
    refine g_iconst X0 hx (3 : Int32) rfl (hb hby at_14) 15 rfl ?_
    refine g_iand X0 hx (hb hby at_15) 16 rfl ?_
    refine g_iloadN X0 hx rfl (hb hby at_16) 17 rfl ?_
    refine g_callSH X0 hx hown (wd hw 0 rfl) (wd hw 1 rfl) (wd hw 2 rfl) (wd hw 3 rfl) (by decide) eq0 [(.int (x0 &&& (3 : Int32))), (.int x1)] [] hZ hS hk0 hEL H rfl (co1 l Z a0 hw hEL (x0 &&& (3 : Int32)) x1 cs h0 h0.size (Nat.le_refl h0.size) S_cs hcs) (lenOf pd_15 rfl) 0 (Nat.le_of_eq rfl) (by decide) (by decide) (by decide) (by decide) (by rw [hml]; rfl) (hb hby at_17) 20 rfl (fun r101 T102 h103 L104 X105 e106 hZ hown hS H Q107 => ?_)
    have hk0 := Nat.le_refl h103.size
    obtain ⟨r108, rfl, n109, K110⟩ := Q107
    have N111 := Fr.app N0 n109
    have F112 := own_sta_keep S_cs K110 ns0
    have F113 := own_sta_keep S_el K110 ns0
    have F114 := E_el.keep K110
    have F115 := F_el.keep K110 nin0
    have F116 := A_ea.keep K110 nin0
    have F117 := F_an.keep K110 nin0
    have szh118 : h0.size ≤ h103.size := Nat.le_trans (Nat.le_refl h0.size) K110.1
    show Go p_ e_ below _ T102 (mkF m_ 20 #[.val (.int x0), .val (.int x1), .val (.int x2), .val (.int x3), .unset, .unset, .unset, .unset] [(.ref r108)])
    refine g_astore X105 hx #[.val (.int x0), .val (.int x1), .val (.int x2), .val (.int x3), .val (.ref r108), .unset, .unset, .unset] rfl rfl (hb hby at_20) 22 rfl ?_
    refine g_iloadN X105 hx rfl (hb hby at_22) 23 rfl ?_
    refine g_iconst X105 hx (3 : Int32) rfl (hb hby at_23) 24 rfl ?_
    refine g_iand X105 hx (hb hby at_24) 25 rfl ?_
    refine g_iloadN X105 hx rfl (hb hby at_25) 26 rfl ?_
    refine g_callSH X105 hx hown (wd hw 0 rfl) (wd hw 1 rfl) (wd hw 2 rfl) (wd hw 3 rfl) (by decide) e106 [(.int (x2 &&& (3 : Int32))), (.int x3)] [] hZ hS hk0 hEL H rfl (co1 l Z a0 hw hEL (x2 &&& (3 : Int32)) x3 cs h103 h0.size szh118 F112 hcs) (lenOf pd_15 rfl) 0 (Nat.le_of_eq rfl) (by decide) (by decide) (by decide) (by decide) (by rw [hml]; rfl) (hb hby at_26) 29 rfl (fun r119 T120 h121 L122 X123 e124 hZ hown hS H Q125 => ?_)
    have hk0 := Nat.le_refl h121.size
    obtain ⟨r126, rfl, n127, K128⟩ := Q125
    have N129 := Fr.app N111 n127
    have F130 := own_sta_keep F112 K128 ns0
    have F131 := own_sta_keep F113 K128 ns0
    have F132 := F114.keep K128
    have F133 := F115.keep K128 nin0
    have F134 := F116.keep K128 nin0
    have F135 := F117.keep K128 nin0
    have szh136 : h0.size ≤ h121.size := Nat.le_trans szh118 K128.1
    show Go p_ e_ below _ T120 (mkF m_ 29 #[.val (.int x0), .val (.int x1), .val (.int x2), .val (.int x3), .val (.ref r108), .unset, .unset, .unset] [(.ref r126)])
    refine g_astore X123 hx #[.val (.int x0), .val (.int x1), .val (.int x2), .val (.int x3), .val (.ref r108), .val (.ref r126), .unset, .unset] rfl rfl (hb hby at_29) 31 rfl ?_
    refine g_aload X123 hx rfl rfl (hb hby at_31) 33 rfl ?_
    refine g_callS X123 hx hZ hown (wd hw 37 rfl) (wd hw 38 rfl) (wd hw 39 rfl) (wd hw 40 rfl) (by decide) e124 [(.ref r108)] [] rfl (co8 l Z a0 hw (.ref r108) el h121 h0.size szh136 rfl F131) (lenOf pd_16 rfl) 0 (Nat.le_of_eq rfl) (by decide) (by decide) (by decide) (by decide) (by rw [hml]; rfl) (hb hby at_33) 36 rfl (fun r137 T138 L139 X140 Q141 => ?_)
    obtain ⟨h142, e143⟩ : ∃ h, T138.heap = h := ⟨_, rfl⟩
    rw [e143] at Q141
    obtain ⟨r144, rfl, n145, K146, E147, F148, F149⟩ := Q141
    have N150 := Fr.app N129 n145
    have H := H.trans (CHr.keep K146 sf0 H.1)
    have hk0 := Nat.le_trans hk0 K146.1
    have F151 := own_sta_keep F130 K146 ns0
    have F152 := own_sta_keep F131 K146 ns0
    have F153 := F132.keep K146
    have F154 := F133.keep K146 nin0
    have F155 := F134.keep K146 nin0
    have F156 := F135.keep K146 nin0
    have szh157 : h0.size ≤ h142.size := Nat.le_trans szh136 K146.1
    show Go p_ e_ below _ T138 (mkF m_ 36 #[.val (.int x0), .val (.int x1), .val (.int x2), .val (.int x3), .val (.ref r108), .val (.ref r126), .unset, .unset] [(.ref r144)])
    refine g_astore X140 hx #[.val (.int x0), .val (.int x1), .val (.int x2), .val (.int x3), .val (.ref r108), .val (.ref r126), .val (.ref r144), .unset] rfl rfl (hb hby at_36) 38 rfl ?_
    refine g_aload X140 hx rfl rfl (hb hby at_38) 40 rfl ?_
    refine g_ifnonnull X140 hx rfl (hb hby at_40) 48 43 (by decide) rfl rfl (fun q40 => ?_) (fun q40 => ?_)
    · refine g_aload X140 hx rfl rfl (hb hby at_48) 50 rfl ?_
      refine g_astore X140 hx #[.val (.int x0), .val (.int x1), .val (.int x2), .val (.int x3), .val (.ref r108), .val (.ref r126), .val (.ref r144), .val (.ref r108)] rfl rfl (hb hby at_50) 52 rfl ?_
      refine g_aload X140 hx rfl rfl (hb hby at_52) 54 rfl ?_
      refine g_callV X140 hx hZ hown (wd hw 62 rfl) (C := "com/example/quadrille/quadrille/cli/Arguments$Option") (wd hw 63 rfl) (wd hw 65 rfl) (wd hw 64 rfl) (wd hw 39 rfl) (wd hw 66 rfl) (by decide) e143 [] [] E147 rfl (co12 l Z a0 hw r144 (.ref r108) h142 rfl F148) (lenOf pd_17 rfl) 0 (Nat.le_of_eq rfl) (by decide) (by decide) (by decide) (by decide) (by rw [hml]; rfl) (hb hby at_54) 57 rfl (pu_cont fun T159 X158 e160 => ?_)
      show Go p_ e_ below _ T159 (mkF m_ 57 #[.val (.int x0), .val (.int x1), .val (.int x2), .val (.int x3), .val (.ref r108), .val (.ref r126), .val (.ref r144), .val (.ref r108)] [(.ref r108)])
      show Go p_ e_ below _ T159 (mkF m_ 57 #[.val (.int x0), .val (.int x1), .val (.int x2), .val (.int x3), .val (.ref r108), .val (.ref r126), .val (.ref r144), .val (.ref r108)] [(.ref r108)])
      refine g_aload X158 hx rfl rfl (hb hby at_57) 59 rfl ?_
      refine g_acmp_ne X158 hx rfl rfl (hb hby at_59) 94 62 (by decide) rfl rfl (fun q59 => ?_) (fun q59 => ?_)
      · exact absurd rfl q59
      · refine g_aload X158 hx rfl rfl (hb hby at_62) 64 rfl ?_
        refine g_callV X158 hx hZ hown (wd hw 67 rfl) (C := "com/example/quadrille/quadrille/cli/Arguments$Option") (wd hw 68 rfl) (wd hw 70 rfl) (wd hw 69 rfl) (wd hw 39 rfl) (wd hw 71 rfl) (by decide) e160 [] [] E147 rfl (co13 l Z a0 hw r144 el ea h142 F149 F153 F154 F155 F156) (lenOf pd_13 rfl) 0 (Nat.le_of_eq rfl) (by decide) (by decide) (by decide) (by decide) (by rw [hml]; rfl) (hb hby at_64) 67 rfl (pu_cont fun T162 X161 e163 => ?_)
        show Go p_ e_ below _ T162 (mkF m_ 67 #[.val (.int x0), .val (.int x1), .val (.int x2), .val (.int x3), .val (.ref r108), .val (.ref r126), .val (.ref r144), .val (.ref r108)] [(.int (0 : Int32))])
        refine g_if_ne X161 hx (hb hby at_67) 94 70 (by decide) rfl rfl (fun q67 => ?_) (fun q67 => ?_)
        · exact absurd rfl q67
        · refine g_aload X161 hx rfl rfl (hb hby at_70) 72 rfl ?_
          refine g_aload X161 hx rfl rfl (hb hby at_72) 74 rfl ?_
          refine g_callV X161 hx hZ hown (wd hw 84 rfl) (C := "com/example/quadrille/quadrille/cli/Arguments$Option") (wd hw 85 rfl) (wd hw 87 rfl) (wd hw 86 rfl) (wd hw 39 rfl) (wd hw 88 rfl) (by decide) e163 [(.ref r126)] [] E147 rfl (co15 l Z a0 hw r144 r126 el ea h142 F149 F153 F154 F155 F156) (lenOf pd_18 rfl) 0 (Nat.le_of_eq rfl) (by decide) (by decide) (by decide) (by decide) (by rw [hml]; rfl) (hb hby at_74) 77 rfl (pu_cont fun T165 X164 e166 => ?_)
          show Go p_ e_ below _ T165 (mkF m_ 77 #[.val (.int x0), .val (.int x1), .val (.int x2), .val (.int x3), .val (.ref r108), .val (.ref r126), .val (.ref r144), .val (.ref r108)] [(.int (0 : Int32))])
          refine g_if_ne X164 hx (hb hby at_77) 94 80 (by decide) rfl rfl (fun q77 => ?_) (fun q77 => ?_)
          · exact absurd rfl q77
          · refine g_aload X164 hx rfl rfl (hb hby at_80) 82 rfl ?_
            refine g_aload X164 hx rfl rfl (hb hby at_82) 84 rfl ?_
            refine g_callV X164 hx hZ hown (wd hw 84 rfl) (C := "com/example/quadrille/quadrille/cli/Arguments$Option") (wd hw 85 rfl) (wd hw 87 rfl) (wd hw 86 rfl) (wd hw 39 rfl) (wd hw 88 rfl) (by decide) e166 [(.ref r108)] [] E147 rfl (co15 l Z a0 hw r144 r108 el ea h142 F149 F153 F154 F155 F156) (lenOf pd_18 rfl) 0 (Nat.le_of_eq rfl) (by decide) (by decide) (by decide) (by decide) (by rw [hml]; rfl) (hb hby at_84) 87 rfl (pu_cont fun T168 X167 e169 => ?_)
            show Go p_ e_ below _ T168 (mkF m_ 87 #[.val (.int x0), .val (.int x1), .val (.int x2), .val (.int x3), .val (.ref r108), .val (.ref r126), .val (.ref r144), .val (.ref r108)] [(.int (0 : Int32))])
            refine g_if_ne X167 hx (hb hby at_87) 94 90 (by decide) rfl rfl (fun q87 => ?_) (fun q87 => ?_)
            · exact absurd rfl q87
            · refine g_iconst X167 hx (1 : Int32) rfl (hb hby at_90) 91 rfl ?_
              refine g_goto X167 hx (hb hby at_91) 95 (by decide) rfl ?_
              exact g_retzH X167 hx hret hlk (by decide) (by decide) (hb hby at_95) e169 hZ hS hk0 hEL H ⟨rfl, N150⟩
    · exact (by cases q40)
  · refine g_aconst_null X0 hx (hb hby at_9) 10 rfl ?_
    refine g_goto X0 hx (hb hby at_10) 20 (by decide) rfl ?_
    refine g_astore X0 hx #[.val (.int x0), .val (.int x1), .val (.int x2), .val (.int x3), .val .null, .unset, .unset, .unset] rfl rfl (hb hby at_20) 22 rfl ?_
    refine g_iloadN X0 hx rfl (hb hby at_22) 23 rfl ?_
    refine g_iconst X0 hx (3 : Int32) rfl (hb hby at_23) 24 rfl ?_
    refine g_iand X0 hx (hb hby at_24) 25 rfl ?_
    refine g_iloadN X0 hx rfl (hb hby at_25) 26 rfl ?_
    refine g_callSH X0 hx hown (wd hw 0 rfl) (wd hw 1 rfl) (wd hw 2 rfl) (wd hw 3 rfl) (by decide) eq0 [(.int (x2 &&& (3 : Int32))), (.int x3)] [] hZ hS hk0 hEL H rfl (co1 l Z a0 hw hEL (x2 &&& (3 : Int32)) x3 cs h0 h0.size (Nat.le_refl h0.size) S_cs hcs) (lenOf pd_15 rfl) 0 (Nat.le_of_eq rfl) (by decide) (by decide) (by decide) (by decide) (by rw [hml]; rfl) (hb hby at_26) 29 rfl (fun r170 T171 h172 L173 X174 e175 hZ hown hS H Q176 => ?_)
    have hk0 := Nat.le_refl h172.size
    obtain ⟨r177, rfl, n178, K179⟩ := Q176
    have N180 := Fr.app N0 n178
    have F181 := own_sta_keep S_cs K179 ns0
    have F182 := own_sta_keep S_el K179 ns0
    have F183 := E_el.keep K179
    have F184 := F_el.keep K179 nin0
    have F185 := A_ea.keep K179 nin0
    have F186 := F_an.keep K179 nin0
    have szh187 : h0.size ≤ h172.size := Nat.le_trans (Nat.le_refl h0.size) K179.1
    show Go p_ e_ below _ T171 (mkF m_ 29 #[.val (.int x0), .val (.int x1), .val (.int x2), .val (.int x3), .val .null, .unset, .unset, .unset] [(.ref r177)])
    refine g_astore X174 hx #[.val (.int x0), .val (.int x1), .val (.int x2), .val (.int x3), .val .null, .val (.ref r177), .unset, .unset] rfl rfl (hb hby at_29) 31 rfl ?_
    refine g_aload X174 hx rfl rfl (hb hby at_31) 33 rfl ?_
    refine g_callS X174 hx hZ hown (wd hw 37 rfl) (wd hw 38 rfl) (wd hw 39 rfl) (wd hw 40 rfl) (by decide) e175 [.null] [] rfl (co8 l Z a0 hw .null el h172 h0.size szh187 rfl F182) (lenOf pd_16 rfl) 0 (Nat.le_of_eq rfl) (by decide) (by decide) (by decide) (by decide) (by rw [hml]; rfl) (hb hby at_33) 36 rfl (fun r188 T189 L190 X191 Q192 => ?_)
    obtain ⟨h193, e194⟩ : ∃ h, T189.heap = h := ⟨_, rfl⟩
    rw [e194] at Q192
    obtain ⟨r195, rfl, n196, K197, E198, F199, F200⟩ := Q192
    have N201 := Fr.app N180 n196
    have H := H.trans (CHr.keep K197 sf0 H.1)
    have hk0 := Nat.le_trans hk0 K197.1
    have F202 := own_sta_keep F181 K197 ns0
    have F203 := own_sta_keep F182 K197 ns0
    have F204 := F183.keep K197
    have F205 := F184.keep K197 nin0
    have F206 := F185.keep K197 nin0
    have F207 := F186.keep K197 nin0
    have szh208 : h0.size ≤ h193.size := Nat.le_trans szh187 K197.1
    show Go p_ e_ below _ T189 (mkF m_ 36 #[.val (.int x0), .val (.int x1), .val (.int x2), .val (.int x3), .val .null, .val (.ref r177), .unset, .unset] [(.ref r195)])
    refine g_astore X191 hx #[.val (.int x0), .val (.int x1), .val (.int x2), .val (.int x3), .val .null, .val (.ref r177), .val (.ref r195), .unset] rfl rfl (hb hby at_36) 38 rfl ?_
    refine g_aload X191 hx rfl rfl (hb hby at_38) 40 rfl ?_
    refine g_ifnonnull X191 hx rfl (hb hby at_40) 48 43 (by decide) rfl rfl (fun q40 => ?_) (fun q40 => ?_)
    · exact absurd rfl q40
    · refine g_aload X191 hx rfl rfl (hb hby at_43) 45 rfl ?_
      refine g_goto X191 hx (hb hby at_45) 50 (by decide) rfl ?_
      refine g_astore X191 hx #[.val (.int x0), .val (.int x1), .val (.int x2), .val (.int x3), .val .null, .val (.ref r177), .val (.ref r195), .val (.ref r177)] rfl rfl (hb hby at_50) 52 rfl ?_
      refine g_aload X191 hx rfl rfl (hb hby at_52) 54 rfl ?_
      refine g_callV X191 hx hZ hown (wd hw 62 rfl) (C := "com/example/quadrille/quadrille/cli/Arguments$Option") (wd hw 63 rfl) (wd hw 65 rfl) (wd hw 64 rfl) (wd hw 39 rfl) (wd hw 66 rfl) (by decide) e194 [] [] E198 rfl (co12 l Z a0 hw r195 .null h193 rfl F199) (lenOf pd_17 rfl) 0 (Nat.le_of_eq rfl) (by decide) (by decide) (by decide) (by decide) (by rw [hml]; rfl) (hb hby at_54) 57 rfl (pu_cont fun T210 X209 e211 => ?_)
      show Go p_ e_ below _ T210 (mkF m_ 57 #[.val (.int x0), .val (.int x1), .val (.int x2), .val (.int x3), .val .null, .val (.ref r177), .val (.ref r195), .val (.ref r177)] [.null])
      show Go p_ e_ below _ T210 (mkF m_ 57 #[.val (.int x0), .val (.int x1), .val (.int x2), .val (.int x3), .val .null, .val (.ref r177), .val (.ref r195), .val (.ref r177)] [.null])
      refine g_aload X209 hx rfl rfl (hb hby at_57) 59 rfl ?_
      refine g_acmp_ne X209 hx rfl rfl (hb hby at_59) 94 62 (by decide) rfl rfl (fun q59 => ?_) (fun q59 => ?_)
      · exact absurd rfl q59
      · refine g_aload X209 hx rfl rfl (hb hby at_62) 64 rfl ?_
        refine g_callV X209 hx hZ hown (wd hw 67 rfl) (C := "com/example/quadrille/quadrille/cli/Arguments$Option") (wd hw 68 rfl) (wd hw 70 rfl) (wd hw 69 rfl) (wd hw 39 rfl) (wd hw 71 rfl) (by decide) e211 [] [] E198 rfl (co13 l Z a0 hw r195 el ea h193 F200 F204 F205 F206 F207) (lenOf pd_13 rfl) 0 (Nat.le_of_eq rfl) (by decide) (by decide) (by decide) (by decide) (by rw [hml]; rfl) (hb hby at_64) 67 rfl (pu_cont fun T213 X212 e214 => ?_)
        show Go p_ e_ below _ T213 (mkF m_ 67 #[.val (.int x0), .val (.int x1), .val (.int x2), .val (.int x3), .val .null, .val (.ref r177), .val (.ref r195), .val (.ref r177)] [(.int (0 : Int32))])
        refine g_if_ne X212 hx (hb hby at_67) 94 70 (by decide) rfl rfl (fun q67 => ?_) (fun q67 => ?_)
        · exact absurd rfl q67
        · refine g_aload X212 hx rfl rfl (hb hby at_70) 72 rfl ?_
          refine g_aload X212 hx rfl rfl (hb hby at_72) 74 rfl ?_
          refine g_callV X212 hx hZ hown (wd hw 84 rfl) (C := "com/example/quadrille/quadrille/cli/Arguments$Option") (wd hw 85 rfl) (wd hw 87 rfl) (wd hw 86 rfl) (wd hw 39 rfl) (wd hw 88 rfl) (by decide) e214 [(.ref r177)] [] E198 rfl (co15 l Z a0 hw r195 r177 el ea h193 F200 F204 F205 F206 F207) (lenOf pd_18 rfl) 0 (Nat.le_of_eq rfl) (by decide) (by decide) (by decide) (by decide) (by rw [hml]; rfl) (hb hby at_74) 77 rfl (pu_cont fun T216 X215 e217 => ?_)
          show Go p_ e_ below _ T216 (mkF m_ 77 #[.val (.int x0), .val (.int x1), .val (.int x2), .val (.int x3), .val .null, .val (.ref r177), .val (.ref r195), .val (.ref r177)] [(.int (0 : Int32))])
          refine g_if_ne X215 hx (hb hby at_77) 94 80 (by decide) rfl rfl (fun q77 => ?_) (fun q77 => ?_)
          · exact absurd rfl q77
          · refine g_aload X215 hx rfl rfl (hb hby at_80) 82 rfl ?_
            refine g_aload X215 hx rfl rfl (hb hby at_82) 84 rfl ?_
            refine g_callV X215 hx hZ hown (wd hw 84 rfl) (C := "com/example/quadrille/quadrille/cli/Arguments$Option") (wd hw 85 rfl) (wd hw 87 rfl) (wd hw 86 rfl) (wd hw 39 rfl) (wd hw 88 rfl) (by decide) e217 [(.ref r177)] [] E198 rfl (co15 l Z a0 hw r195 r177 el ea h193 F200 F204 F205 F206 F207) (lenOf pd_18 rfl) 0 (Nat.le_of_eq rfl) (by decide) (by decide) (by decide) (by decide) (by rw [hml]; rfl) (hb hby at_84) 87 rfl (pu_cont fun T219 X218 e220 => ?_)
            show Go p_ e_ below _ T219 (mkF m_ 87 #[.val (.int x0), .val (.int x1), .val (.int x2), .val (.int x3), .val .null, .val (.ref r177), .val (.ref r195), .val (.ref r177)] [(.int (0 : Int32))])
            refine g_if_ne X218 hx (hb hby at_87) 94 90 (by decide) rfl rfl (fun q87 => ?_) (fun q87 => ?_)
            · exact absurd rfl q87
            · refine g_iconst X218 hx (1 : Int32) rfl (hb hby at_90) 91 rfl ?_
              refine g_goto X218 hx (hb hby at_91) 95 (by decide) rfl ?_
              exact g_retzH X218 hx hret hlk (by decide) (by decide) (hb hby at_95) e220 hZ hS hk0 hEL H ⟨rfl, N201⟩
set_option maxRecDepth 65536 in
set_option maxHeartbeats 40000000 in
theorem comes_1 {Post : Tables → Env → Array Value → State → Outcome → State → Prop} (hpost : ∀ tb e args s v u, (limb_1_1.after args s (.returned v) u = true ∧ limb_1_2.after args s (.returned v) u = true ∧ True) → ReturnedEndW s (.returned v) u (Jvm.fieldLocs frame_1_writes args s ++ Jvm.arrayLocs frame_1_arrays args s ++ Jvm.staticLocs frame_1_statics s) 24 1152 → Post tb e args s (.returned v) u) :
    ArmFor flags0 classFile x code maxLocals ret World_1 tables_1 room_1 Calls_1 rest_1 Pre_1 Post := by
  intro l hfl _ _ p e ha hc hk s m args below hf hA hF happ hP
  obtain ⟨hcalls, hrest, hpre⟩ := hP
  obtain ⟨-, -, -, hnamed, -, -, -, hat⟩ := (Spec.applies_iff hf).mp happ
  obtain ⟨hg, hn⟩ := and_e (Cond.before_iff.mp (show (Jvm.Cond.and given_1 narrow_1).before args s = true from hpre))
  obtain ⟨h1, g0⟩ := and_e hg
  obtain ⟨w0, w1, w2, w3, rfl⟩ : ∃ w0 w1 w2 w3 : Value, args = #[w0, w1, w2, w3] := by
    have hs : args.size = 4 := by simpa [Cond.value, given_1] using h1
    obtain ⟨L⟩ := args
    match L, hs with
    | [w0, w1, w2, w3], _ => exact ⟨w0, w1, w2, w3, rfl⟩
  have hw := fun d (hd : d ∈ tables_1) => atoms_spec (ws := Jvm.Cond.code x code maxLocals ret :: tables_1) hat d (List.mem_cons_of_mem _ hd)
  have hfit : Fit s := fun {y c} hc i hi => by
    obtain ⟨ha, rfl⟩ := Array.getElem?_eq_some_iff.mp hc
    have q := List.all_eq_true.mp ((Array.all_eq_true_iff_forall_mem.mp hF) _ (Array.getElem_mem ha)) i (List.mem_range.mpr hi)
    simpa [Array.getElem?_eq_getElem hi] using q
  obtain ⟨hk_0, hg_1⟩ := and_e g0
  obtain ⟨x0, r0⟩ := is_v hk_0
  obtain rfl : w0 = (.int x0) := Option.some.inj r0
  obtain ⟨hk_1, hg_2⟩ := and_e hg_1
  obtain ⟨x1, r1⟩ := is_v hk_1
  obtain rfl : w1 = (.int x1) := Option.some.inj r1
  obtain ⟨hk_2, hg_3⟩ := and_e hg_2
  obtain ⟨x2, r2⟩ := is_v hk_2
  obtain rfl : w2 = (.int x2) := Option.some.inj r2
  obtain ⟨x3, r3⟩ := is_v hg_3
  obtain rfl : w3 = (.int x3) := Option.some.inj r3
  have hr0 := hrest
  rw [show rest_1 = Jvm.D.preC rest_1_c from rfl] at hr0
  have hr1 : rest_1_c.before _ s = true := hr0
  rw [rest_1_c_eq] at hr1
  obtain ⟨hsets, -⟩ := atoms_of jdkStatics_1 hr1
  have k0 := hsets _ (List.mem_of_getElem? (i := 0) rfl)
  obtain ⟨cs, evc⟩ := is_v (Cond.before_iff.mp (hsets _ (List.mem_of_getElem? (i := 1) rfl)))
  have S_cs := Sta.start evc (Or.inl k0)
  have hcs : ¬ cs = (0 : Int32) := fun q => by
    have u := not_v (Cond.before_iff.mp (hsets _ (List.mem_of_getElem? (i := 2) rfl)))
    subst q
    exact absurd (u.symm.trans (eq_i evc (Term.int_eval 0) rfl)) (by decide)
  have m10 := hsets _ (List.mem_of_getElem? (i := 10) rfl)
  have m11 := hsets _ (List.mem_of_getElem? (i := 11) rfl)
  have m12 := hsets _ (List.mem_of_getElem? (i := 12) rfl)
  have m14 := hsets _ (List.mem_of_getElem? (i := 14) rfl)
  have m15 := hsets _ (List.mem_of_getElem? (i := 15) rfl)
  obtain ⟨el, ev⟩ := exa_v (Cond.before_iff.mp m11)
  have E_el := Exa.start ev (Cond.before_iff.mp m11)
  have S_el := Sta.start ev (Or.inl m10)
  obtain ⟨ea, ew⟩ := own_arr_ref (Cond.before_iff.mp m12)
  have F_el := Fld.start ((fld_at ev).symm.trans ew)
  have A_ea := own_av (vs := []) ew (Cond.before_iff.mp m12) (Cond.before_iff.mp m14) rfl (fun i hi => absurd hi (by simp))
  have F_an := own_fo ev (Cond.before_iff.mp m15)
  have hEL : EW s _ EL := (EW.cons (wd hw 18 rfl) (by decide +kernel) EW.nil)
  have hCH : CHv s EL s.vm s.heap := CHv.start hEL hcalls.1 (hsets _ (List.mem_of_getElem? (i := 2) rfl)) (wd hw 19 rfl) (wd hw 5 rfl)
  obtain ⟨n, o, h1, h2, h3, _, L, rfl, ⟨rfl, N⟩, -, hq⟩ := rm0 l s _ hw hEL tables_1 x0 x1 x2 x3 s.heap cs S_cs hcs el ea S_el E_el F_el A_ea F_an p e ha hc hk s m _ below hf ((Spec.applies_iff_loose hf).mp happ).1 ⟨rfl, State.Warmed39.refl s, rfl, hCH⟩ trivial
  refine ⟨n, _, h1, h2, h3, hpost _ _ _ _ _ _ ⟨Cond.after_iff.mpr rfl, Cond.after_iff.mpr (eq_i res_at (Term.int_eval (1)) rfl), trivial⟩ ⟨hq.1, hq.2.1, hq.2.2.1, (hq.2.2.2.sift fun y hy => Or.inr (N y hy)).mono (by decide) (by decide)⟩⟩
theorem main_1_1 : Claimed_1_1 := comes_1 fun _ _ _ _ _ _ h hF => ⟨h.1, hF⟩
theorem main_1_2 : Claimed_1_2 := comes_1 fun _ _ _ _ _ _ h hF => ⟨h.2.1, hF⟩
end Jvm.Pilot.@@N@@
namespace Jvm.Pilot.@@N@@
open Jvm Jvm.ClassFile Sem Op Lib Jvm.Free Jvm.Stand Jvm.Pilot.@@N@@.Jvm.D
/-! MADE BY PROGRAM (witnessworld.py) out of the Statement's table words and the real class files: 32 classes; the members and pool entries that the words name. The judged class is class 1, her method 1. -/
namespace start1
open Jvm.ClassFile
def u (s : String) : CpInfo := .utf8 (stringToUtf16 s)
/-- a pool by its gaps: so many unusable entries, then the entry; so many at the end -/
def gap : Nat → List CpInfo → List CpInfo
  | 0, r => r
  | n + 1, r => .unusable :: gap n r
def poolList (es : List (Nat × CpInfo)) (last : Nat) : List CpInfo := es.foldr (fun e r => gap e.1 (e.2 :: r)) (gap last [])
def pool (es : List (Nat × CpInfo)) (last : Nat) : Array CpInfo := ⟨poolList es last⟩
def fileOf (pool : Array CpInfo) (this : Nat) (attrs : Array Attribute := #[]) (ms : Array MethodInfo := #[]) (fl : Nat := 33) (sup : Nat := 0) (ifs : Array Nat := #[]) (fds : Array FieldInfo := #[]) : ClassFile where
  minorVersion := 0
  majorVersion := 65
  constantPool := pool
  accessFlags := fl
  thisClass := this
  superClass := sup
  interfaces := ifs
  fields := fds
  methods := ms
  attributes := attrs
def plain (name : String) (sup : Option ClassId) : Class where
  name := name
  kind := .ordinary
  loader := none
  accessFlags := 33
  super := sup
  interfaces := #[]
  cf := none
  fields := #[]
  methods := #[]
  instanceTypes := #[]
  staticTypes := #[]
  resolved := #[]
  callSites := []
  init := .initialized
  statics := none
  mirror := none

def pool0 : Array CpInfo := pool [(5, u "<init>"), (0, u "()V"), (1, .class_ 10), (1, u "java/lang/Object")] 113

def k0c0 : Code := { maxStack := 0, maxLocals := 1, code := object_method_1_code, exceptionTable := #[], attributes := #[] }
def k0m0 : Method := { name := "<init>", desc := "()V", sig := { parameters := [], returnType := none }, accessFlags := 1, code := some k0c0 }
/-- java/lang/Object -/
def k0 : Class := { plain "java/lang/Object" none with
  accessFlags := 33
  interfaces := #[]
  cf := some (fileOf pool0 8 #[] #[{ accessFlags := 1, nameIndex := 5, descriptorIndex := 6, attributes := #[] }] 33 0 #[] #[])
  fields := #[]
  methods := #[k0m0]
  instanceTypes := #[]
  staticTypes := #[]
  resolved := Array.replicate 124 none
  statics := none }

def pool1 : Array CpInfo := pool [(2, .class_ 4), (1, u "java/lang/Object"), (0, u "<init>"), (0, u "()V"), (0, .methodref 8 9), (0, .class_ 10), (0, .nameAndType 11 12), (0, u "com/example/quadrille/quadrille/cli/OptionFlagPinLaw"), (0, u "draw"), (0, u "(II)Ljava/lang/String;"), (0, .methodref 14 15), (0, .class_ 16), (0, .nameAndType 17 18), (0, u "com/example/quadrille/quadrille/cli/Arguments$Option"), (0, u "flag"), (0, u "(Ljava/lang/String;)Lcom/example/quadrille/quadrille/cli/Arguments$Option;"), (0, .methodref 14 20), (0, .nameAndType 21 22), (0, u "name"), (0, u "()Ljava/lang/String;"), (0, .methodref 14 24), (0, .nameAndType 25 26), (0, u "takesValue"), (0, u "()Z"), (0, .methodref 14 28), (0, .nameAndType 29 30), (0, u "takes"), (0, u "(Ljava/lang/String;)Z"), (0, .class_ 32), (0, u "java/lang/String"), (0, .methodref 31 34), (0, .nameAndType 5 35), (0, u "([C)V"), (0, .methodref 31 37), (0, .nameAndType 38 39), (0, u "valueOf"), (0, u "(C)Ljava/lang/String;"), (2, u "law"), (0, u "(IIII)Z")] 7

def k1m0 : Method := { name := "<init>", desc := "()V", sig := { parameters := [], returnType := none }, accessFlags := 1, code := none }
def k1c1 : Code := { maxStack := 2, maxLocals := 8, code := code, exceptionTable := #[], attributes := #[] }
def k1m1 : Method := { name := "law", desc := "(IIII)Z", sig := { parameters := [.int, .int, .int, .int], returnType := some .boolean }, accessFlags := 9, code := some k1c1 }
def k1c2 : Code := { maxStack := 3, maxLocals := 6, code := method_3_code, exceptionTable := #[], attributes := #[] }
def k1m2 : Method := { name := "draw", desc := "(II)Ljava/lang/String;", sig := { parameters := [.int, .int], returnType := some (.object "java/lang/String") }, accessFlags := 10, code := some k1c2 }
/-- com/example/quadrille/quadrille/cli/OptionFlagPinLaw -/
def k1 : Class := { plain "com/example/quadrille/quadrille/cli/OptionFlagPinLaw" (some 0) with
  accessFlags := 49
  interfaces := #[]
  cf := some (fileOf pool1 8 #[] #[{ accessFlags := 1, nameIndex := 5, descriptorIndex := 6, attributes := #[] }, { accessFlags := 9, nameIndex := 42, descriptorIndex := 43, attributes := #[] }, { accessFlags := 10, nameIndex := 11, descriptorIndex := 12, attributes := #[] }] 49 2 #[] #[])
  fields := #[]
  methods := #[k1m0, k1m1, k1m2]
  instanceTypes := #[]
  staticTypes := #[]
  resolved := Array.replicate 51 none
  statics := none }

def pool2 : Array CpInfo := pool [(1, .class_ 2), (0, u "java/io/Serializable"), (0, .class_ 4), (0, u "java/lang/Object")] 2

/-- java/io/Serializable -/
def k2 : Class := { plain "java/io/Serializable" (some 0) with
  accessFlags := 1537
  interfaces := #[]
  cf := some (fileOf pool2 1 #[] #[] 1537 3 #[] #[])
  fields := #[]
  methods := #[]
  instanceTypes := #[]
  staticTypes := #[]
  resolved := Array.replicate 7 none
  statics := none }

def pool3 : Array CpInfo := pool [(1, .class_ 2), (0, u "java/lang/Comparable"), (0, .class_ 4), (0, u "java/lang/Object")] 7

/-- java/lang/Comparable -/
def k3 : Class := { plain "java/lang/Comparable" (some 0) with
  accessFlags := 1537
  interfaces := #[]
  cf := some (fileOf pool3 1 #[] #[] 1537 3 #[] #[])
  fields := #[]
  methods := #[]
  instanceTypes := #[]
  staticTypes := #[]
  resolved := Array.replicate 12 none
  statics := none }

def pool4 : Array CpInfo := pool [(2, .class_ 4), (1, u "java/lang/CharSequence"), (42, .class_ 48), (0, u "java/lang/CharSequence$1CodePointIterator"), (10, .class_ 60), (0, u "java/lang/CharSequence$1CharIterator"), (5, .class_ 67), (0, u "java/lang/Object")] 63

/-- java/lang/CharSequence -/
def k4 : Class := { plain "java/lang/CharSequence" (some 0) with
  accessFlags := 1537
  interfaces := #[]
  cf := some (fileOf pool4 2 #[.nestMembers #[47, 59]] #[] 1537 66 #[] #[])
  fields := #[]
  methods := #[]
  instanceTypes := #[]
  staticTypes := #[]
  resolved := Array.replicate 131 none
  statics := none }

def pool5 : Array CpInfo := pool [(1, .class_ 2), (0, u "java/lang/constant/Constable"), (0, .class_ 4), (0, u "java/lang/Object")] 6

/-- java/lang/constant/Constable -/
def k5 : Class := { plain "java/lang/constant/Constable" (some 0) with
  accessFlags := 1537
  interfaces := #[]
  cf := some (fileOf pool5 1 #[] #[] 1537 3 #[] #[])
  fields := #[]
  methods := #[]
  instanceTypes := #[]
  staticTypes := #[]
  resolved := Array.replicate 11 none
  statics := none }

def pool6 : Array CpInfo := pool [(1, .class_ 2), (0, u "java/lang/constant/ConstantDesc"), (0, .class_ 4), (0, u "java/lang/Object")] 32

/-- java/lang/constant/ConstantDesc -/
def k6 : Class := { plain "java/lang/constant/ConstantDesc" (some 0) with
  accessFlags := 1537
  interfaces := #[]
  cf := some (fileOf pool6 1 #[] #[] 1537 3 #[] #[])
  fields := #[]
  methods := #[]
  instanceTypes := #[]
  staticTypes := #[]
  resolved := Array.replicate 37 none
  statics := none }

def pool7 : Array CpInfo := pool [(1, .methodref 2 3), (0, .class_ 4), (0, .nameAndType 5 6), (0, u "java/lang/Object"), (0, u "<init>"), (0, u "()V"), (0, .string 8), (0, u ""), (0, .fieldref 10 11), (0, .class_ 12), (0, .nameAndType 13 14), (0, u "java/lang/String"), (0, u "value"), (0, u "[B"), (0, .fieldref 10 16), (0, .nameAndType 17 18), (0, u "coder"), (0, u "B"), (2, u "hash"), (0, u "I"), (2, u "hashIsZero"), (0, u "Z"), (0, .methodref 10 28), (0, .nameAndType 5 29), (0, u "([CIILjava/lang/Void;)V"), (8, .fieldref 10 39), (0, .nameAndType 40 26), (0, u "COMPACT_STRINGS"), (1, .class_ 44), (1, u "java/lang/StringUTF16"), (0, u "compress"), (1, .methodref 42 48), (0, .nameAndType 49 50), (0, u "coderFromArrayLen"), (0, u "([BI)B"), (2, u "toBytes"), (53, .class_ 109), (1, u "java/lang/StringLatin1"), (67, .methodref 42 178), (0, .nameAndType 45 179), (0, u "([CII)[B"), (29, .methodref 10 210), (0, .nameAndType 5 211), (0, u "([BB)V"), (157, u "(C)Z"), (205, .class_ 576), (0, u "java/lang/CharSequence"), (22, u "CASE_INSENSITIVE_ORDER"), (0, u "Ljava/util/Comparator;"), (181, u "valueOf"), (0, u "(C)Ljava/lang/String;"), (226, u "([C)V"), (4, .methodref 107 1016), (0, .nameAndType 1017 369), (0, u "canEncode"), (0, .methodref 107 1019), (0, .nameAndType 53 1020), (0, u "(C)[B"), (80, u "serialPersistentFields"), (0, u "[Ljava/io/ObjectStreamField;"), (0, .class_ 1104), (0, u "java/lang/String$CaseInsensitiveComparator"), (1, .class_ 1107), (0, u "java/io/Serializable"), (0, .class_ 1109), (0, u "java/lang/Comparable"), (0, .class_ 1111), (0, u "java/lang/constant/Constable"), (0, .class_ 1113), (0, u "java/lang/constant/ConstantDesc"), (2, u "serialVersionUID"), (0, u "J"), (3, u "REPL"), (0, u "C"), (2, u "LATIN1"), (1, u "UTF16")] 323

def k7m0 : Method := { name := "<init>", desc := "()V", sig := { parameters := [], returnType := none }, accessFlags := 1, code := none }
def k7c1 : Code := { maxStack := 5, maxLocals := 2, code := jdk_42_method_3_code, exceptionTable := #[], attributes := #[] }
def k7m1 : Method := { name := "<init>", desc := "([C)V", sig := { parameters := [(.array .char)], returnType := none }, accessFlags := 1, code := some k7c1 }
def k7c2 : Code := { maxStack := 4, maxLocals := 1, code := jdk_42_method_139_code, exceptionTable := #[], attributes := #[] }
def k7m2 : Method := { name := "valueOf", desc := "(C)Ljava/lang/String;", sig := { parameters := [.char], returnType := some (.object "java/lang/String") }, accessFlags := 9, code := some k7c2 }
def k7c3 : Code := { maxStack := 4, maxLocals := 6, code := jdk_42_method_149_code, exceptionTable := #[], attributes := #[] }
def k7m3 : Method := { name := "<init>", desc := "([CIILjava/lang/Void;)V", sig := { parameters := [(.array .char), .int, .int, (.object "java/lang/Void")], returnType := none }, accessFlags := 2, code := some k7c3 }
def k7c4 : Code := { maxStack := 2, maxLocals := 3, code := jdk_42_method_151_code, exceptionTable := #[], attributes := #[] }
def k7m4 : Method := { name := "<init>", desc := "([BB)V", sig := { parameters := [(.array .byte), .byte], returnType := none }, accessFlags := 0, code := some k7c4 }
/-- java/lang/String -/
def k7 : Class := { plain "java/lang/String" (some 0) with
  accessFlags := 49
  interfaces := #[2, 3, 4, 5, 6]
  cf := some (fileOf pool7 10 #[.nestMembers #[1103]] #[{ accessFlags := 1, nameIndex := 5, descriptorIndex := 6, attributes := #[] }, { accessFlags := 1, nameIndex := 5, descriptorIndex := 1010, attributes := #[] }, { accessFlags := 9, nameIndex := 782, descriptorIndex := 783, attributes := #[] }, { accessFlags := 2, nameIndex := 5, descriptorIndex := 29, attributes := #[] }, { accessFlags := 0, nameIndex := 5, descriptorIndex := 211, attributes := #[] }] 49 2 #[1106, 1108, 575, 1110, 1112] #[{ accessFlags := 18, nameIndex := 13, descriptorIndex := 14, attributes := #[] }, { accessFlags := 18, nameIndex := 17, descriptorIndex := 18, attributes := #[] }, { accessFlags := 2, nameIndex := 21, descriptorIndex := 22, attributes := #[] }, { accessFlags := 2, nameIndex := 25, descriptorIndex := 26, attributes := #[] }, { accessFlags := 26, nameIndex := 1116, descriptorIndex := 1117, attributes := #[] }, { accessFlags := 24, nameIndex := 40, descriptorIndex := 26, attributes := #[] }, { accessFlags := 26, nameIndex := 1101, descriptorIndex := 1102, attributes := #[] }, { accessFlags := 26, nameIndex := 1121, descriptorIndex := 1122, attributes := #[] }, { accessFlags := 25, nameIndex := 599, descriptorIndex := 600, attributes := #[] }, { accessFlags := 24, nameIndex := 1125, descriptorIndex := 18, attributes := #[] }, { accessFlags := 24, nameIndex := 1127, descriptorIndex := 18, attributes := #[] }])
  fields := #[{ name := "value", type := (.array .byte), accessFlags := 18, slot := 0, constantValue := 0 }, { name := "coder", type := .byte, accessFlags := 18, slot := 1, constantValue := 0 }, { name := "hash", type := .int, accessFlags := 2, slot := 2, constantValue := 0 }, { name := "hashIsZero", type := .boolean, accessFlags := 2, slot := 3, constantValue := 0 }, { name := "serialVersionUID", type := .long, accessFlags := 26, slot := 0, constantValue := 0 }, { name := "COMPACT_STRINGS", type := .boolean, accessFlags := 24, slot := 1, constantValue := 0 }, { name := "serialPersistentFields", type := (.array (.object "java/io/ObjectStreamField")), accessFlags := 26, slot := 2, constantValue := 0 }, { name := "REPL", type := .char, accessFlags := 26, slot := 3, constantValue := 0 }, { name := "CASE_INSENSITIVE_ORDER", type := (.object "java/util/Comparator"), accessFlags := 25, slot := 4, constantValue := 0 }, { name := "LATIN1", type := .byte, accessFlags := 24, slot := 5, constantValue := 0 }, { name := "UTF16", type := .byte, accessFlags := 24, slot := 6, constantValue := 0 }]
  methods := #[k7m0, k7m1, k7m2, k7m3, k7m4]
  instanceTypes := #[(.array .byte), .byte, .int, .boolean]
  staticTypes := #[.long, .boolean, (.array (.object "java/io/ObjectStreamField")), .char, (.object "java/util/Comparator"), .byte, .byte]
  resolved := Array.replicate 1451 none
  statics := some 0 }

def pool8 : Array CpInfo := pool [(6, .class_ 8), (1, u "java/lang/Object"), (0, u "<init>"), (0, u "()V"), (1, .class_ 14), (1, u "java/lang/StringUTF16"), (31, u "$assertionsDisabled"), (0, u "Z"), (13, u "HI_BYTE_SHIFT"), (0, u "I"), (2, u "LO_BYTE_SHIFT"), (49, .methodref 12 116), (0, .nameAndType 117 118), (0, u "compress"), (0, u "([CI[BII)I"), (3, u "([CII)[B"), (138, u "coderFromArrayLen"), (0, u "([BI)B"), (106, .class_ 371), (1, u "java/lang/StringUTF16$LinesSpliterator"), (58, u "MAX_LENGTH"), (196, .class_ 628), (0, u "java/lang/StringUTF16$CodePointsSpliterator"), (0, .class_ 630), (0, u "java/lang/StringUTF16$CharsSpliterator")] 4

def k8m0 : Method := { name := "<init>", desc := "()V", sig := { parameters := [], returnType := none }, accessFlags := 0, code := none }
def k8c1 : Code := { maxStack := 2, maxLocals := 2, code := jdk_52_method_15_code, exceptionTable := #[], attributes := #[] }
def k8m1 : Method := { name := "coderFromArrayLen", desc := "([BI)B", sig := { parameters := [(.array .byte), .int], returnType := some .byte }, accessFlags := 8, code := some k8c1 }
def k8c2 : Code := { maxStack := 5, maxLocals := 6, code := jdk_52_method_16_code, exceptionTable := #[], attributes := #[] }
def k8m2 : Method := { name := "compress", desc := "([CII)[B", sig := { parameters := [(.array .char), .int, .int], returnType := some (.array .byte) }, accessFlags := 9, code := some k8c2 }
def k8c3 : Code := { maxStack := 3, maxLocals := 7, code := jdk_52_method_21_code, exceptionTable := #[], attributes := #[] }
def k8m3 : Method := { name := "compress", desc := "([CI[BII)I", sig := { parameters := [(.array .char), .int, (.array .byte), .int, .int], returnType := some .int }, accessFlags := 9, code := some k8c3 }
/-- java/lang/StringUTF16 -/
def k8 : Class := { plain "java/lang/StringUTF16" (some 0) with
  accessFlags := 48
  interfaces := #[]
  cf := some (fileOf pool8 12 #[.nestMembers #[627, 629, 369]] #[{ accessFlags := 0, nameIndex := 9, descriptorIndex := 10, attributes := #[] }, { accessFlags := 8, nameIndex := 261, descriptorIndex := 262, attributes := #[] }, { accessFlags := 9, nameIndex := 117, descriptorIndex := 122, attributes := #[] }, { accessFlags := 9, nameIndex := 117, descriptorIndex := 118, attributes := #[] }] 48 6 #[] #[{ accessFlags := 26, nameIndex := 61, descriptorIndex := 62, attributes := #[] }, { accessFlags := 26, nameIndex := 65, descriptorIndex := 62, attributes := #[] }, { accessFlags := 24, nameIndex := 430, descriptorIndex := 62, attributes := #[] }, { accessFlags := 4120, nameIndex := 46, descriptorIndex := 47, attributes := #[] }])
  fields := #[{ name := "HI_BYTE_SHIFT", type := .int, accessFlags := 26, slot := 0, constantValue := 0 }, { name := "LO_BYTE_SHIFT", type := .int, accessFlags := 26, slot := 1, constantValue := 0 }, { name := "MAX_LENGTH", type := .int, accessFlags := 24, slot := 2, constantValue := 0 }, { name := "$assertionsDisabled", type := .boolean, accessFlags := 4120, slot := 3, constantValue := 0 }]
  methods := #[k8m0, k8m1, k8m2, k8m3]
  instanceTypes := #[]
  staticTypes := #[.int, .int, .int, .boolean]
  resolved := Array.replicate 635 none
  statics := none }

def pool9 : Array CpInfo := pool [(1, .methodref 2 3), (0, .class_ 4), (0, .nameAndType 5 6), (0, u "java/lang/Object"), (0, u "<init>"), (0, u "()V"), (0, .class_ 8), (0, u "java/lang/Record")] 13

def k9c0 : Code := { maxStack := 1, maxLocals := 1, code := jdk_30_method_1_code, exceptionTable := #[], attributes := #[] }
def k9m0 : Method := { name := "<init>", desc := "()V", sig := { parameters := [], returnType := none }, accessFlags := 4, code := some k9c0 }
/-- java/lang/Record -/
def k9 : Class := { plain "java/lang/Record" (some 0) with
  accessFlags := 1057
  interfaces := #[]
  cf := some (fileOf pool9 7 #[] #[{ accessFlags := 4, nameIndex := 5, descriptorIndex := 6, attributes := #[] }] 1057 2 #[] #[])
  fields := #[]
  methods := #[k9m0]
  instanceTypes := #[]
  staticTypes := #[]
  resolved := Array.replicate 22 none
  statics := none }

def pool10 : Array CpInfo := pool [(1, .methodref 2 3), (0, .class_ 4), (0, .nameAndType 5 6), (0, u "java/lang/Record"), (0, u "<init>"), (0, u "()V"), (0, .fieldref 8 9), (0, .class_ 10), (0, .nameAndType 11 12), (0, u "com/example/quadrille/quadrille/cli/Arguments$Option"), (0, u "name"), (0, u "Ljava/lang/String;"), (0, .fieldref 8 14), (0, .nameAndType 15 16), (0, u "values"), (0, u "Ljava/util/List;"), (0, .interfaceMethodref 18 19), (0, .class_ 20), (0, .nameAndType 21 22), (0, u "java/util/List"), (0, u "of"), (0, u "()Ljava/util/List;"), (0, .methodref 8 24), (0, .nameAndType 5 25), (0, u "(Ljava/lang/String;Ljava/util/List;)V"), (0, .interfaceMethodref 18 27), (0, .nameAndType 28 29), (0, u "isEmpty"), (0, u "()Z"), (0, .interfaceMethodref 18 31), (0, .nameAndType 32 33), (0, u "contains"), (0, u "(Ljava/lang/Object;)Z"), (18, u "flag"), (0, u "(Ljava/lang/String;)Lcom/example/quadrille/quadrille/cli/Arguments$Option;"), (1, u "takesValue"), (1, u "takes"), (0, u "(Ljava/lang/String;)Z"), (0, u "()Ljava/lang/String;"), (5, .class_ 66), (0, u "com/example/quadrille/quadrille/cli/Arguments")] 20

def k10c0 : Code := { maxStack := 2, maxLocals := 3, code := prog_3_method_1_code, exceptionTable := #[], attributes := #[] }
def k10m0 : Method := { name := "<init>", desc := "(Ljava/lang/String;Ljava/util/List;)V", sig := { parameters := [(.object "java/lang/String"), (.object "java/util/List")], returnType := none }, accessFlags := 0, code := some k10c0 }
def k10c1 : Code := { maxStack := 4, maxLocals := 1, code := prog_3_method_2_code, exceptionTable := #[], attributes := #[] }
def k10m1 : Method := { name := "flag", desc := "(Ljava/lang/String;)Lcom/example/quadrille/quadrille/cli/Arguments$Option;", sig := { parameters := [(.object "java/lang/String")], returnType := some (.object "com/example/quadrille/quadrille/cli/Arguments$Option") }, accessFlags := 8, code := some k10c1 }
def k10c2 : Code := { maxStack := 1, maxLocals := 1, code := prog_3_method_4_code, exceptionTable := #[], attributes := #[] }
def k10m2 : Method := { name := "takesValue", desc := "()Z", sig := { parameters := [], returnType := some .boolean }, accessFlags := 0, code := some k10c2 }
def k10c3 : Code := { maxStack := 2, maxLocals := 2, code := prog_3_method_5_code, exceptionTable := #[], attributes := #[] }
def k10m3 : Method := { name := "takes", desc := "(Ljava/lang/String;)Z", sig := { parameters := [(.object "java/lang/String")], returnType := some .boolean }, accessFlags := 0, code := some k10c3 }
def k10c4 : Code := { maxStack := 1, maxLocals := 1, code := prog_3_method_9_code, exceptionTable := #[], attributes := #[] }
def k10m4 : Method := { name := "name", desc := "()Ljava/lang/String;", sig := { parameters := [], returnType := some (.object "java/lang/String") }, accessFlags := 1, code := some k10c4 }
/-- com/example/quadrille/quadrille/cli/Arguments$Option -/
def k10 : Class := { plain "com/example/quadrille/quadrille/cli/Arguments$Option" (some 9) with
  accessFlags := 48
  interfaces := #[]
  cf := some (fileOf pool10 8 #[.nestHost 65] #[{ accessFlags := 0, nameIndex := 5, descriptorIndex := 25, attributes := #[] }, { accessFlags := 8, nameIndex := 52, descriptorIndex := 53, attributes := #[] }, { accessFlags := 0, nameIndex := 55, descriptorIndex := 29, attributes := #[] }, { accessFlags := 0, nameIndex := 57, descriptorIndex := 58, attributes := #[] }, { accessFlags := 1, nameIndex := 11, descriptorIndex := 59, attributes := #[] }] 48 2 #[] #[{ accessFlags := 18, nameIndex := 11, descriptorIndex := 12, attributes := #[] }, { accessFlags := 18, nameIndex := 15, descriptorIndex := 16, attributes := #[] }])
  fields := #[{ name := "name", type := (.object "java/lang/String"), accessFlags := 18, slot := 0, constantValue := 0 }, { name := "values", type := (.object "java/util/List"), accessFlags := 18, slot := 1, constantValue := 0 }]
  methods := #[k10m0, k10m1, k10m2, k10m3, k10m4]
  instanceTypes := #[(.object "java/lang/String"), (.object "java/util/List")]
  staticTypes := #[]
  resolved := Array.replicate 87 none
  statics := none }

def pool11 : Array CpInfo := pool [(8, .class_ 10), (1, u "java/lang/Iterable"), (24, .class_ 36), (0, u "java/lang/Object")] 25

/-- java/lang/Iterable -/
def k11 : Class := { plain "java/lang/Iterable" (some 0) with
  accessFlags := 1537
  interfaces := #[]
  cf := some (fileOf pool11 8 #[] #[] 1537 35 #[] #[])
  fields := #[]
  methods := #[]
  instanceTypes := #[]
  staticTypes := #[]
  resolved := Array.replicate 62 none
  statics := none }

def pool12 : Array CpInfo := pool [(10, .class_ 12), (1, u "java/util/Collection"), (47, .class_ 61), (0, u "java/lang/Object"), (0, .class_ 63), (0, u "java/lang/Iterable")] 51

/-- java/util/Collection -/
def k12 : Class := { plain "java/util/Collection" (some 0) with
  accessFlags := 1537
  interfaces := #[11]
  cf := some (fileOf pool12 10 #[] #[] 1537 60 #[62] #[])
  fields := #[]
  methods := #[]
  instanceTypes := #[]
  staticTypes := #[]
  resolved := Array.replicate 115 none
  statics := none }

def pool13 : Array CpInfo := pool [(8, .class_ 10), (1, u "java/util/SequencedCollection"), (15, .class_ 27), (0, u "java/lang/Object"), (0, .class_ 29), (0, u "java/util/Collection")] 27

/-- java/util/SequencedCollection -/
def k13 : Class := { plain "java/util/SequencedCollection" (some 0) with
  accessFlags := 1537
  interfaces := #[12]
  cf := some (fileOf pool13 8 #[] #[] 1537 26 #[28] #[])
  fields := #[]
  methods := #[]
  instanceTypes := #[]
  staticTypes := #[]
  resolved := Array.replicate 57 none
  statics := none }

def pool14 : Array CpInfo := pool [(8, .class_ 10), (1, u "java/util/List"), (7, u "()Z"), (45, u "(Ljava/lang/Object;)Z"), (2, u "isEmpty"), (20, u "of"), (1, .fieldref 91 92), (0, .class_ 93), (0, .nameAndType 94 95), (0, u "java/util/ImmutableCollections"), (0, u "EMPTY_LIST"), (0, u "Ljava/util/ImmutableCollections$ListN;"), (7, .class_ 104), (0, u "java/lang/Object"), (14, u "()Ljava/util/List;"), (0, .class_ 121), (0, u "java/util/SequencedCollection"), (0, u "contains"), (53, u "indexOf"), (0, u "(Ljava/lang/Object;)I")] 73

def k14m0 : Method := { name := "isEmpty", desc := "()Z", sig := { parameters := [], returnType := some .boolean }, accessFlags := 1025, code := none }
def k14m1 : Method := { name := "contains", desc := "(Ljava/lang/Object;)Z", sig := { parameters := [(.object "java/lang/Object")], returnType := some .boolean }, accessFlags := 1025, code := none }
def k14m2 : Method := { name := "indexOf", desc := "(Ljava/lang/Object;)I", sig := { parameters := [(.object "java/lang/Object")], returnType := some .int }, accessFlags := 1025, code := none }
def k14c3 : Code := { maxStack := 1, maxLocals := 0, code := jdk_40_method_36_code, exceptionTable := #[], attributes := #[] }
def k14m3 : Method := { name := "of", desc := "()Ljava/util/List;", sig := { parameters := [], returnType := some (.object "java/util/List") }, accessFlags := 9, code := some k14c3 }
/-- java/util/List -/
def k14 : Class := { plain "java/util/List" (some 0) with
  accessFlags := 1537
  interfaces := #[13]
  cf := some (fileOf pool14 8 #[] #[{ accessFlags := 1025, nameIndex := 67, descriptorIndex := 18, attributes := #[] }, { accessFlags := 1025, nameIndex := 122, descriptorIndex := 64, attributes := #[] }, { accessFlags := 1025, nameIndex := 176, descriptorIndex := 177, attributes := #[] }, { accessFlags := 9, nameIndex := 88, descriptorIndex := 119, attributes := #[] }] 1537 103 #[120] #[])
  fields := #[]
  methods := #[k14m0, k14m1, k14m2, k14m3]
  instanceTypes := #[]
  staticTypes := #[]
  resolved := Array.replicate 251 none
  statics := none }

def pool15 : Array CpInfo := pool [(2, .class_ 4), (1, u "java/lang/Object"), (0, u "<init>"), (0, u "()V"), (3, .class_ 11), (0, u "java/util/ImmutableCollections$List12"), (0, .class_ 13), (0, u "java/util/ImmutableCollections$ListN"), (3, u "Z"), (29, .class_ 49), (1, u "java/util/ImmutableCollections"), (0, u "$assertionsDisabled"), (5, u "[Ljava/lang/Object;"), (5, u "EMPTY_LIST"), (0, u "Ljava/util/ImmutableCollections$ListN;"), (8, u "EMPTY_LIST_NULLS"), (22, u "SALT32L"), (0, u "J"), (2, u "REVERSE"), (6, u "archivedObjects"), (2, u "EMPTY"), (0, u "Ljava/lang/Object;"), (0, .class_ 112), (0, u "java/util/ImmutableCollections$SetN"), (5, u "EMPTY_SET"), (0, u "Ljava/util/ImmutableCollections$SetN;"), (0, .class_ 121), (0, u "java/util/ImmutableCollections$MapN"), (3, u "EMPTY_MAP"), (0, u "Ljava/util/ImmutableCollections$MapN;"), (4, u "EXPAND_FACTOR"), (0, u "I"), (36, .class_ 170), (0, u "java/util/ImmutableCollections$MapN$MapNIterator"), (0, .class_ 172), (0, u "java/util/ImmutableCollections$MapN$1"), (0, .class_ 174), (0, u "java/util/ImmutableCollections$Map1"), (0, .class_ 176), (0, u "java/util/ImmutableCollections$AbstractImmutableMap"), (0, .class_ 178), (0, u "java/util/ImmutableCollections$SetN$SetNIterator"), (0, .class_ 180), (0, u "java/util/ImmutableCollections$Set12"), (0, .class_ 182), (0, u "java/util/ImmutableCollections$Set12$1"), (0, .class_ 184), (0, u "java/util/ImmutableCollections$AbstractImmutableSet"), (0, .class_ 186), (0, u "java/util/ImmutableCollections$SubList"), (0, .class_ 188), (0, u "java/util/ImmutableCollections$ListItr"), (0, .class_ 190), (0, u "java/util/ImmutableCollections$AbstractImmutableList"), (0, .class_ 192), (0, u "java/util/ImmutableCollections$AbstractImmutableCollection"), (0, .class_ 194), (0, u "java/util/ImmutableCollections$Access"), (0, .class_ 196), (0, u "java/util/ImmutableCollections$Access$1")] 16

def k15m0 : Method := { name := "<init>", desc := "()V", sig := { parameters := [], returnType := none }, accessFlags := 2, code := none }
/-- java/util/ImmutableCollections -/
def k15 : Class := { plain "java/util/ImmutableCollections" (some 0) with
  accessFlags := 32
  interfaces := #[]
  cf := some (fileOf pool15 47 #[.nestMembers #[120, 169, 171, 173, 175, 111, 177, 179, 181, 183, 12, 10, 185, 187, 189, 191, 193, 195]] #[{ accessFlags := 2, nameIndex := 5, descriptorIndex := 6, attributes := #[] }] 32 2 #[] #[{ accessFlags := 26, nameIndex := 95, descriptorIndex := 96, attributes := #[] }, { accessFlags := 26, nameIndex := 99, descriptorIndex := 17, attributes := #[] }, { accessFlags := 10, nameIndex := 106, descriptorIndex := 56, attributes := #[] }, { accessFlags := 26, nameIndex := 109, descriptorIndex := 110, attributes := #[] }, { accessFlags := 24, nameIndex := 62, descriptorIndex := 63, attributes := #[] }, { accessFlags := 24, nameIndex := 72, descriptorIndex := 63, attributes := #[] }, { accessFlags := 24, nameIndex := 118, descriptorIndex := 119, attributes := #[] }, { accessFlags := 24, nameIndex := 125, descriptorIndex := 126, attributes := #[] }, { accessFlags := 24, nameIndex := 131, descriptorIndex := 132, attributes := #[] }, { accessFlags := 4120, nameIndex := 50, descriptorIndex := 17, attributes := #[] }])
  fields := #[{ name := "SALT32L", type := .long, accessFlags := 26, slot := 0, constantValue := 0 }, { name := "REVERSE", type := .boolean, accessFlags := 26, slot := 1, constantValue := 0 }, { name := "archivedObjects", type := (.array (.object "java/lang/Object")), accessFlags := 10, slot := 2, constantValue := 0 }, { name := "EMPTY", type := (.object "java/lang/Object"), accessFlags := 26, slot := 3, constantValue := 0 }, { name := "EMPTY_LIST", type := (.object "java/util/ImmutableCollections$ListN"), accessFlags := 24, slot := 4, constantValue := 0 }, { name := "EMPTY_LIST_NULLS", type := (.object "java/util/ImmutableCollections$ListN"), accessFlags := 24, slot := 5, constantValue := 0 }, { name := "EMPTY_SET", type := (.object "java/util/ImmutableCollections$SetN"), accessFlags := 24, slot := 6, constantValue := 0 }, { name := "EMPTY_MAP", type := (.object "java/util/ImmutableCollections$MapN"), accessFlags := 24, slot := 7, constantValue := 0 }, { name := "EXPAND_FACTOR", type := .int, accessFlags := 24, slot := 8, constantValue := 0 }, { name := "$assertionsDisabled", type := .boolean, accessFlags := 4120, slot := 9, constantValue := 0 }]
  methods := #[k15m0]
  instanceTypes := #[]
  staticTypes := #[.long, .boolean, (.array (.object "java/lang/Object")), (.object "java/lang/Object"), (.object "java/util/ImmutableCollections$ListN"), (.object "java/util/ImmutableCollections$ListN"), (.object "java/util/ImmutableCollections$SetN"), (.object "java/util/ImmutableCollections$MapN"), .int, .boolean]
  resolved := Array.replicate 213 none
  statics := some 1 }

def pool16 : Array CpInfo := pool [(2, .class_ 4), (1, u "java/lang/Object"), (0, u "<init>"), (0, u "()V"), (1, .class_ 10), (1, u "java/util/AbstractCollection"), (66, .class_ 78), (0, u "java/util/Collection")] 81

def k16m0 : Method := { name := "<init>", desc := "()V", sig := { parameters := [], returnType := none }, accessFlags := 4, code := none }
/-- java/util/AbstractCollection -/
def k16 : Class := { plain "java/util/AbstractCollection" (some 0) with
  accessFlags := 1057
  interfaces := #[12]
  cf := some (fileOf pool16 8 #[] #[{ accessFlags := 4, nameIndex := 5, descriptorIndex := 6, attributes := #[] }] 1057 2 #[77] #[])
  fields := #[]
  methods := #[k16m0]
  instanceTypes := #[]
  staticTypes := #[]
  resolved := Array.replicate 160 none
  statics := none }

def pool17 : Array CpInfo := pool [(2, .class_ 4), (1, u "java/util/AbstractCollection"), (0, u "<init>"), (0, u "()V"), (1, .class_ 10), (1, u "java/util/ImmutableCollections"), (2, .class_ 14), (0, u "java/util/ImmutableCollections$AbstractImmutableCollection")] 41

def k17m0 : Method := { name := "<init>", desc := "()V", sig := { parameters := [], returnType := none }, accessFlags := 0, code := none }
/-- java/util/ImmutableCollections$AbstractImmutableCollection -/
def k17 : Class := { plain "java/util/ImmutableCollections$AbstractImmutableCollection" (some 16) with
  accessFlags := 1056
  interfaces := #[]
  cf := some (fileOf pool17 13 #[.nestHost 8] #[{ accessFlags := 0, nameIndex := 5, descriptorIndex := 6, attributes := #[] }] 1056 2 #[] #[])
  fields := #[]
  methods := #[k17m0]
  instanceTypes := #[]
  staticTypes := #[]
  resolved := Array.replicate 56 none
  statics := none }

def pool18 : Array CpInfo := pool [(1, .class_ 2), (0, u "java/util/RandomAccess"), (0, .class_ 4), (0, u "java/lang/Object")] 2

/-- java/util/RandomAccess -/
def k18 : Class := { plain "java/util/RandomAccess" (some 0) with
  accessFlags := 1537
  interfaces := #[]
  cf := some (fileOf pool18 1 #[] #[] 1537 3 #[] #[])
  fields := #[]
  methods := #[]
  instanceTypes := #[]
  staticTypes := #[]
  resolved := Array.replicate 7 none
  statics := none }

def pool19 : Array CpInfo := pool [(2, .class_ 4), (1, u "java/util/ImmutableCollections$AbstractImmutableCollection"), (0, u "<init>"), (0, u "()V"), (1, .class_ 10), (1, u "java/util/ImmutableCollections"), (3, .class_ 16), (1, u "java/util/ImmutableCollections$AbstractImmutableList"), (60, .class_ 78), (0, u "java/util/List"), (27, u "(Ljava/lang/Object;)I"), (0, .methodref 14 108), (0, .nameAndType 109 106), (0, u "indexOf"), (14, .class_ 125), (0, u "java/util/RandomAccess"), (48, u "(Ljava/lang/Object;)Z"), (7, u "contains")] 13

def k19m0 : Method := { name := "<init>", desc := "()V", sig := { parameters := [], returnType := none }, accessFlags := 0, code := none }
def k19c1 : Code := { maxStack := 2, maxLocals := 2, code := jdk_46_method_15_code, exceptionTable := #[], attributes := #[] }
def k19m1 : Method := { name := "contains", desc := "(Ljava/lang/Object;)Z", sig := { parameters := [(.object "java/lang/Object")], returnType := some .boolean }, accessFlags := 1, code := some k19c1 }
/-- java/util/ImmutableCollections$AbstractImmutableList -/
def k19 : Class := { plain "java/util/ImmutableCollections$AbstractImmutableList" (some 17) with
  accessFlags := 1056
  interfaces := #[14, 18]
  cf := some (fileOf pool19 14 #[.nestHost 8] #[{ accessFlags := 0, nameIndex := 5, descriptorIndex := 6, attributes := #[] }, { accessFlags := 1, nameIndex := 182, descriptorIndex := 174, attributes := #[] }] 1056 2 #[77, 124] #[])
  fields := #[]
  methods := #[k19m0, k19m1]
  instanceTypes := #[]
  staticTypes := #[]
  resolved := Array.replicate 196 none
  statics := none }

def pool20 : Array CpInfo := pool [(2, .class_ 4), (1, u "java/util/ImmutableCollections$AbstractImmutableList"), (2, .fieldref 8 9), (0, .class_ 10), (0, .nameAndType 11 12), (0, u "java/util/ImmutableCollections$ListN"), (0, u "elements"), (0, u "[Ljava/lang/Object;"), (0, .fieldref 8 14), (0, .nameAndType 15 16), (0, u "allowNulls"), (0, u "Z"), (42, .class_ 60), (0, u "java/io/Serializable"), (13, u "isEmpty"), (0, u "()Z"), (25, u "indexOf"), (0, u "(Ljava/lang/Object;)I"), (11, .class_ 115), (0, u "java/util/ImmutableCollections")] 3

def k20c0 : Code := { maxStack := 1, maxLocals := 1, code := jdk_45_method_2_code, exceptionTable := #[], attributes := #[] }
def k20m0 : Method := { name := "isEmpty", desc := "()Z", sig := { parameters := [], returnType := some .boolean }, accessFlags := 1, code := some k20c0 }
def k20c1 : Code := { maxStack := 3, maxLocals := 4, code := jdk_45_method_9_code, exceptionTable := #[], attributes := #[] }
def k20m1 : Method := { name := "indexOf", desc := "(Ljava/lang/Object;)I", sig := { parameters := [(.object "java/lang/Object")], returnType := some .int }, accessFlags := 1, code := some k20c1 }
/-- java/util/ImmutableCollections$ListN -/
def k20 : Class := { plain "java/util/ImmutableCollections$ListN" (some 19) with
  accessFlags := 48
  interfaces := #[2]
  cf := some (fileOf pool20 8 #[.nestHost 114] #[{ accessFlags := 1, nameIndex := 74, descriptorIndex := 75, attributes := #[] }, { accessFlags := 1, nameIndex := 101, descriptorIndex := 102, attributes := #[] }] 48 2 #[59] #[{ accessFlags := 18, nameIndex := 11, descriptorIndex := 12, attributes := #[] }, { accessFlags := 18, nameIndex := 15, descriptorIndex := 16, attributes := #[] }])
  fields := #[{ name := "elements", type := (.array (.object "java/lang/Object")), accessFlags := 18, slot := 0, constantValue := 0 }, { name := "allowNulls", type := .boolean, accessFlags := 18, slot := 1, constantValue := 0 }]
  methods := #[k20m0, k20m1]
  instanceTypes := #[(.array (.object "java/lang/Object")), .boolean]
  staticTypes := #[]
  resolved := Array.replicate 119 none
  statics := none }

def pool21 : Array CpInfo := pool [(4, .class_ 6), (1, u "java/lang/Object"), (0, u "<init>"), (0, u "()V"), (5, .class_ 16), (1, u "java/lang/StringLatin1"), (73, u "canEncode"), (14, u "(C)Z"), (15, u "$assertionsDisabled"), (0, u "Z"), (98, .class_ 223), (1, u "java/lang/StringLatin1$LinesSpliterator"), (156, u "toBytes"), (1, u "(C)[B"), (7, .class_ 391), (0, u "java/lang/StringLatin1$CharsSpliterator")] 3

def k21m0 : Method := { name := "<init>", desc := "()V", sig := { parameters := [], returnType := none }, accessFlags := 0, code := none }
def k21c1 : Code := { maxStack := 2, maxLocals := 1, code := jdk_43_method_3_code, exceptionTable := #[], attributes := #[] }
def k21m1 : Method := { name := "canEncode", desc := "(C)Z", sig := { parameters := [.char], returnType := some .boolean }, accessFlags := 9, code := some k21c1 }
def k21c2 : Code := { maxStack := 4, maxLocals := 1, code := jdk_43_method_46_code, exceptionTable := #[], attributes := #[] }
def k21m2 : Method := { name := "toBytes", desc := "(C)[B", sig := { parameters := [.char], returnType := some (.array .byte) }, accessFlags := 9, code := some k21c2 }
/-- java/lang/StringLatin1 -/
def k21 : Class := { plain "java/lang/StringLatin1" (some 0) with
  accessFlags := 48
  interfaces := #[]
  cf := some (fileOf pool21 14 #[.nestMembers #[390, 221]] #[{ accessFlags := 0, nameIndex := 7, descriptorIndex := 8, attributes := #[] }, { accessFlags := 9, nameIndex := 90, descriptorIndex := 105, attributes := #[] }, { accessFlags := 9, nameIndex := 380, descriptorIndex := 382, attributes := #[] }] 48 4 #[] #[{ accessFlags := 4120, nameIndex := 121, descriptorIndex := 122, attributes := #[] }])
  fields := #[{ name := "$assertionsDisabled", type := .boolean, accessFlags := 4120, slot := 0, constantValue := 0 }]
  methods := #[k21m0, k21m1, k21m2]
  instanceTypes := #[]
  staticTypes := #[.boolean]
  resolved := Array.replicate 395 none
  statics := none }

def pool22 : Array CpInfo := pool [(2, .class_ 4), (1, u "java/lang/Object"), (0, u "<init>"), (0, u "()V"), (17, .class_ 26), (1, u "jdk/internal/util/Preconditions"), (28, .class_ 56), (0, u "jdk/internal/util/Preconditions$4"), (57, .class_ 115), (0, u "jdk/internal/util/Preconditions$1"), (7, u "SIOOBE_FORMATTER"), (0, u "Ljava/util/function/BiFunction;"), (0, .class_ 126), (0, u "jdk/internal/util/Preconditions$2"), (3, u "AIOOBE_FORMATTER"), (0, .class_ 132), (0, u "jdk/internal/util/Preconditions$3"), (3, u "IOOBE_FORMATTER")] 57

def k22m0 : Method := { name := "<init>", desc := "()V", sig := { parameters := [], returnType := none }, accessFlags := 1, code := none }
/-- jdk/internal/util/Preconditions -/
def k22 : Class := { plain "jdk/internal/util/Preconditions" (some 0) with
  accessFlags := 33
  interfaces := #[]
  cf := some (fileOf pool22 24 #[.nestMembers #[55, 131, 125, 114]] #[{ accessFlags := 1, nameIndex := 5, descriptorIndex := 6, attributes := #[] }] 33 2 #[] #[{ accessFlags := 25, nameIndex := 123, descriptorIndex := 124, attributes := #[] }, { accessFlags := 25, nameIndex := 130, descriptorIndex := 124, attributes := #[] }, { accessFlags := 25, nameIndex := 136, descriptorIndex := 124, attributes := #[] }])
  fields := #[{ name := "SIOOBE_FORMATTER", type := (.object "java/util/function/BiFunction"), accessFlags := 25, slot := 0, constantValue := 0 }, { name := "AIOOBE_FORMATTER", type := (.object "java/util/function/BiFunction"), accessFlags := 25, slot := 1, constantValue := 0 }, { name := "IOOBE_FORMATTER", type := (.object "java/util/function/BiFunction"), accessFlags := 25, slot := 2, constantValue := 0 }]
  methods := #[k22m0]
  instanceTypes := #[]
  staticTypes := #[(.object "java/util/function/BiFunction"), (.object "java/util/function/BiFunction"), (.object "java/util/function/BiFunction")]
  resolved := Array.replicate 194 none
  statics := some 2 }

def pool23 : Array CpInfo := pool [(9, u "<init>"), (6, .class_ 18), (1, u "java/lang/Object"), (0, u "()V"), (1, .class_ 23), (1, u "jdk/internal/util/ArraysSupport"), (0, u "LOG2_ARRAY_LONG_INDEX_SCALE"), (0, u "I"), (2, u "U"), (0, u "Ljdk/internal/misc/Unsafe;"), (8, u "BIG_ENDIAN"), (0, u "Z"), (8, u "LOG2_BYTE_BIT_SIZE"), (4, u "LOG2_ARRAY_INT_INDEX_SCALE"), (54, u "JLA"), (0, u "Ljdk/internal/access/JavaLangAccess;"), (11, u "LOG2_ARRAY_BOOLEAN_INDEX_SCALE"), (9, u "LOG2_ARRAY_BYTE_INDEX_SCALE"), (5, u "LOG2_ARRAY_CHAR_INDEX_SCALE"), (5, u "LOG2_ARRAY_SHORT_INDEX_SCALE"), (18, u "LOG2_ARRAY_FLOAT_INDEX_SCALE"), (24, u "LOG2_ARRAY_DOUBLE_INDEX_SCALE"), (89, u "T_BOOLEAN"), (2, u "T_CHAR"), (1, u "T_FLOAT"), (1, u "T_DOUBLE"), (1, u "T_BYTE"), (1, u "T_SHORT"), (1, u "T_INT"), (1, u "T_LONG"), (1, u "SOFT_MAX_ARRAY_LENGTH")] 83

def k23m0 : Method := { name := "<init>", desc := "()V", sig := { parameters := [], returnType := none }, accessFlags := 2, code := none }
/-- jdk/internal/util/ArraysSupport -/
def k23 : Class := { plain "jdk/internal/util/ArraysSupport" (some 0) with
  accessFlags := 33
  interfaces := #[]
  cf := some (fileOf pool23 21 #[] #[{ accessFlags := 2, nameIndex := 9, descriptorIndex := 19, attributes := #[] }] 33 16 #[] #[{ accessFlags := 24, nameIndex := 28, descriptorIndex := 29, attributes := #[] }, { accessFlags := 26, nameIndex := 38, descriptorIndex := 39, attributes := #[] }, { accessFlags := 25, nameIndex := 121, descriptorIndex := 25, attributes := #[] }, { accessFlags := 25, nameIndex := 131, descriptorIndex := 25, attributes := #[] }, { accessFlags := 25, nameIndex := 137, descriptorIndex := 25, attributes := #[] }, { accessFlags := 25, nameIndex := 143, descriptorIndex := 25, attributes := #[] }, { accessFlags := 25, nameIndex := 53, descriptorIndex := 25, attributes := #[] }, { accessFlags := 25, nameIndex := 24, descriptorIndex := 25, attributes := #[] }, { accessFlags := 25, nameIndex := 162, descriptorIndex := 25, attributes := #[] }, { accessFlags := 25, nameIndex := 187, descriptorIndex := 25, attributes := #[] }, { accessFlags := 26, nameIndex := 48, descriptorIndex := 25, attributes := #[] }, { accessFlags := 25, nameIndex := 277, descriptorIndex := 25, attributes := #[] }, { accessFlags := 25, nameIndex := 280, descriptorIndex := 25, attributes := #[] }, { accessFlags := 25, nameIndex := 282, descriptorIndex := 25, attributes := #[] }, { accessFlags := 25, nameIndex := 284, descriptorIndex := 25, attributes := #[] }, { accessFlags := 25, nameIndex := 286, descriptorIndex := 25, attributes := #[] }, { accessFlags := 25, nameIndex := 288, descriptorIndex := 25, attributes := #[] }, { accessFlags := 25, nameIndex := 290, descriptorIndex := 25, attributes := #[] }, { accessFlags := 25, nameIndex := 292, descriptorIndex := 25, attributes := #[] }, { accessFlags := 26, nameIndex := 108, descriptorIndex := 109, attributes := #[] }, { accessFlags := 25, nameIndex := 294, descriptorIndex := 25, attributes := #[] }])
  fields := #[{ name := "U", type := (.object "jdk/internal/misc/Unsafe"), accessFlags := 24, slot := 0, constantValue := 0 }, { name := "BIG_ENDIAN", type := .boolean, accessFlags := 26, slot := 1, constantValue := 0 }, { name := "LOG2_ARRAY_BOOLEAN_INDEX_SCALE", type := .int, accessFlags := 25, slot := 2, constantValue := 0 }, { name := "LOG2_ARRAY_BYTE_INDEX_SCALE", type := .int, accessFlags := 25, slot := 3, constantValue := 0 }, { name := "LOG2_ARRAY_CHAR_INDEX_SCALE", type := .int, accessFlags := 25, slot := 4, constantValue := 0 }, { name := "LOG2_ARRAY_SHORT_INDEX_SCALE", type := .int, accessFlags := 25, slot := 5, constantValue := 0 }, { name := "LOG2_ARRAY_INT_INDEX_SCALE", type := .int, accessFlags := 25, slot := 6, constantValue := 0 }, { name := "LOG2_ARRAY_LONG_INDEX_SCALE", type := .int, accessFlags := 25, slot := 7, constantValue := 0 }, { name := "LOG2_ARRAY_FLOAT_INDEX_SCALE", type := .int, accessFlags := 25, slot := 8, constantValue := 0 }, { name := "LOG2_ARRAY_DOUBLE_INDEX_SCALE", type := .int, accessFlags := 25, slot := 9, constantValue := 0 }, { name := "LOG2_BYTE_BIT_SIZE", type := .int, accessFlags := 26, slot := 10, constantValue := 0 }, { name := "T_BOOLEAN", type := .int, accessFlags := 25, slot := 11, constantValue := 0 }, { name := "T_CHAR", type := .int, accessFlags := 25, slot := 12, constantValue := 0 }, { name := "T_FLOAT", type := .int, accessFlags := 25, slot := 13, constantValue := 0 }, { name := "T_DOUBLE", type := .int, accessFlags := 25, slot := 14, constantValue := 0 }, { name := "T_BYTE", type := .int, accessFlags := 25, slot := 15, constantValue := 0 }, { name := "T_SHORT", type := .int, accessFlags := 25, slot := 16, constantValue := 0 }, { name := "T_INT", type := .int, accessFlags := 25, slot := 17, constantValue := 0 }, { name := "T_LONG", type := .int, accessFlags := 25, slot := 18, constantValue := 0 }, { name := "JLA", type := (.object "jdk/internal/access/JavaLangAccess"), accessFlags := 26, slot := 19, constantValue := 0 }, { name := "SOFT_MAX_ARRAY_LENGTH", type := .int, accessFlags := 25, slot := 20, constantValue := 0 }]
  methods := #[k23m0]
  instanceTypes := #[]
  staticTypes := #[(.object "jdk/internal/misc/Unsafe"), .boolean, .int, .int, .int, .int, .int, .int, .int, .int, .int, .int, .int, .int, .int, .int, .int, .int, .int, (.object "jdk/internal/access/JavaLangAccess"), .int]
  resolved := Array.replicate 378 none
  statics := none }

def pool24 : Array CpInfo := pool [(1, u "java/lang/Cloneable"), (0, .class_ 1), (0, u "java/lang/Object"), (0, .class_ 3)] 3

/-- java/lang/Cloneable -/
def k24 : Class := { plain "java/lang/Cloneable" (some 0) with
  accessFlags := 1537
  interfaces := #[]
  cf := some (fileOf pool24 2 #[] #[] 1537 4 #[] #[])
  fields := #[]
  methods := #[]
  instanceTypes := #[]
  staticTypes := #[]
  resolved := Array.replicate 8 none
  statics := none }

/-- the primitive byte -/
def k25 : Class := { plain "byte" none with kind := .primitive 'B', accessFlags := 0x411 }
/-- [B -/
def k26 : Class := { plain "[B" (some 0) with kind := .array 25 .byte, interfaces := #[24, 2], accessFlags := 1041 }

/-- the primitive char -/
def k27 : Class := { plain "char" none with kind := .primitive 'C', accessFlags := 0x411 }
/-- [C -/
def k28 : Class := { plain "[C" (some 0) with kind := .array 27 .char, interfaces := #[24, 2], accessFlags := 1041 }

/-- the primitive int -/
def k29 : Class := { plain "int" none with kind := .primitive 'I', accessFlags := 0x411 }
/-- [I -/
def k30 : Class := { plain "[I" (some 0) with kind := .array 29 .int, interfaces := #[24, 2], accessFlags := 1041 }

/-- [Ljava/lang/Object; -/
def k31 : Class := { plain "[Ljava/lang/Object;" (some 0) with kind := .array 0 (.object "java/lang/Object"), interfaces := #[24, 2], accessFlags := 1041 }

def heap : Heap := #[{ cls := 7, slots := #[.long 0, .int 1, .null, .int 0, .null, .int 0, .int 0], vm := .statics 7 },
  { cls := 15, slots := #[.long 0, .int 0, .null, .null, .ref 4, .null, .null, .null, .int 0, .int 0], vm := .statics 15 },
  { cls := 22, slots := #[.null, .null, .null], vm := .statics 22 },
  { cls := 31, slots := #[], vm := .none },
  { cls := 20, slots := #[.ref 3, .int 0], vm := .none }]
def classes : Array Class := #[k0, k1, k2, k3, k4, k5, k6, k7, k8, k9, k10, k11, k12, k13, k14, k15, k16, k17, k18, k19, k20, k21, k22, k23, k24, k25, k26, k27, k28, k29, k30, k31]
def interned : List (Array UInt16 × Addr) := []
def slotsUsed : Nat := 22
def theMethod : MethodId := ⟨1, 1⟩
def args0 : Array Value := #[.int 5, .int 7, .int 9, .int 3]
def aboutOver (below : List Frame) : State where
  vm := { classes := classes, interned := interned.toArray }
  heap := heap
  slotsUsed := slotsUsed
  threads := #[{ frames := .invoking theMethod args0 :: below }]
def below0 : List Frame := [.native { method := ⟨0, 0⟩, args := #[] }]
def about1 : State := aboutOver below0
def p0 : Program := .bare "" "" ""
def e0 : Env := launch0.env 0 0 0
theorem w_frames : about1.frames = Frame.invoking theMethod args0 :: below0 := rfl
set_option maxRecDepth 65536 in
theorem w_args : argsFit about1.vm theMethod args0 = true := by decide +kernel
set_option maxRecDepth 65536 in
theorem w_heap : heapFits about1 = true := by decide +kernel
set_option maxRecDepth 65536 in
theorem w_runnable : about1.curStatus? = some .runnable := by decide +kernel
set_option maxRecDepth 65536 in
theorem w_alone : about1.alone = true := by decide +kernel
set_option maxRecDepth 65536 in
theorem w_named : about1.methodNamed? x = some theMethod := by decide +kernel
set_option maxRecDepth 65536 in
theorem w_hears : about1.hears theMethod below0 = true := by decide +kernel
set_option maxRecDepth 65536 in
theorem w_ripe : about1.ripe theMethod args0 below0 = true := by decide +kernel
theorem w_running : about1.status = .running := rfl
set_option maxRecDepth 65536 in
theorem w_room : about1.hasRoom e0.platform room_1 = true :=
  launch0.hasRoom_least _ room_1 (by decide +kernel) (by decide +kernel) (by decide +kernel) (by decide +kernel) (by decide +kernel) (by decide +kernel)
theorem allAtoms_all (ts : List Jvm.Cond) (a : Array Jvm.Value) (st : Jvm.State) : (allAtoms ts).before a st = ts.all (fun c => c.before a st) := by
  induction ts with
  | nil => rfl
  | cons c t ih =>
    show (Jvm.Cond.and c (allAtoms t)).before a st = _
    rw [Jvm.Cond.before_and, ih, List.all_cons]
def words1 : List Jvm.Cond := Jvm.Cond.code x code maxLocals ret :: tables_1
/-- a 'code' word, met by the world's own term for the bytes: nothing is compared byte by byte -/
theorem code_word {y : MethodName} {bytes : ByteArray} {mx : Nat} {rt : Option FieldType} {a : Array Value} {s : State} {m : MethodId} {meth : Method} {c : Code} (h1 : s.methodNamed? y = some m) (h2 : s.vm.method? m = some meth) (h3 : meth.code = some c) (h4 : c.code = bytes)
    (h5 : (c.maxLocals == mx && c.exceptionTable.isEmpty && decide (c.maxStack ≤ mostOperands) && decide (meth.sig.returnType = rt) && !meth.locks && decide (parseMethodDescriptor y.desc = some meth.sig)) = true) : (Jvm.Cond.code y bytes mx rt).before a s = true := by
  simp only [Bool.and_eq_true, beq_iff_eq, Bool.not_eq_true', decide_eq_true_eq] at h5
  obtain ⟨⟨⟨⟨⟨g1, g2⟩, g3⟩, g4⟩, g5⟩, g6⟩ := h5
  simp [Cond.before, Cond.holds, Cond.value, h1, h2, h3, h4, g1, g2, g3, g4, g5, g6]
def isCode : Jvm.Cond → Bool
  | .code _ _ _ _ => true
  | _ => false
theorem all_split {L : List Jvm.Cond} {P : Jvm.Cond → Bool} (h1 : L.all (fun c => isCode c || P c) = true) (h2 : ∀ c ∈ L.filter isCode, P c = true) : L.all P = true := by
  refine List.all_eq_true.mpr fun c hc => ?_
  have h := List.all_eq_true.mp h1 c hc
  rcases Bool.eq_false_or_eq_true (isCode c) with hi | hi
  · exact h2 c (List.mem_filter.mpr ⟨hc, hi⟩)
  · simpa [hi] using h
set_option maxRecDepth 65536 in
theorem w_c0 : (Jvm.Cond.code x code maxLocals ret).before args0 about1 = true := code_word (m := ⟨1, 1⟩) (meth := k1m1) (c := k1c1) (by decide +kernel) rfl rfl rfl (by decide +kernel)
set_option maxRecDepth 65536 in
theorem w_c1 : (Jvm.Cond.code ({ cls := "com/example/quadrille/quadrille/cli/OptionFlagPinLaw", name := "draw", desc := "(II)Ljava/lang/String;" } : Jvm.MethodName) method_3_code (6 : Nat) (Option.some (Jvm.ClassFile.FieldType.object "java/lang/String"))).before args0 about1 = true := code_word (m := ⟨1, 2⟩) (meth := k1m2) (c := k1c2) (by decide +kernel) rfl rfl rfl (by decide +kernel)
set_option maxRecDepth 65536 in
theorem w_c2 : (Jvm.Cond.code ({ cls := "java/lang/String", name := "<init>", desc := "([C)V" } : Jvm.MethodName) jdk_42_method_3_code (2 : Nat) (Option.none : Option Jvm.ClassFile.FieldType)).before args0 about1 = true := code_word (m := ⟨7, 1⟩) (meth := k7m1) (c := k7c1) (by decide +kernel) rfl rfl rfl (by decide +kernel)
set_option maxRecDepth 65536 in
theorem w_c3 : (Jvm.Cond.code ({ cls := "java/lang/String", name := "<init>", desc := "([CIILjava/lang/Void;)V" } : Jvm.MethodName) jdk_42_method_149_code (6 : Nat) (Option.none : Option Jvm.ClassFile.FieldType)).before args0 about1 = true := code_word (m := ⟨7, 3⟩) (meth := k7m3) (c := k7c3) (by decide +kernel) rfl rfl rfl (by decide +kernel)
set_option maxRecDepth 65536 in
theorem w_c4 : (Jvm.Cond.code ({ cls := "java/lang/Object", name := "<init>", desc := "()V" } : Jvm.MethodName) object_method_1_code (1 : Nat) (Option.none : Option Jvm.ClassFile.FieldType)).before args0 about1 = true := code_word (m := ⟨0, 0⟩) (meth := k0m0) (c := k0c0) (by decide +kernel) rfl rfl rfl (by decide +kernel)
set_option maxRecDepth 65536 in
theorem w_c5 : (Jvm.Cond.code ({ cls := "java/lang/StringUTF16", name := "compress", desc := "([CII)[B" } : Jvm.MethodName) jdk_52_method_16_code (6 : Nat) (Option.some (Jvm.ClassFile.FieldType.array Jvm.ClassFile.FieldType.byte))).before args0 about1 = true := code_word (m := ⟨8, 2⟩) (meth := k8m2) (c := k8c2) (by decide +kernel) rfl rfl rfl (by decide +kernel)
set_option maxRecDepth 65536 in
theorem w_c6 : (Jvm.Cond.code ({ cls := "java/lang/StringUTF16", name := "compress", desc := "([CI[BII)I" } : Jvm.MethodName) jdk_52_method_21_code (7 : Nat) (Option.some Jvm.ClassFile.FieldType.int)).before args0 about1 = true := code_word (m := ⟨8, 3⟩) (meth := k8m3) (c := k8c3) (by decide +kernel) rfl rfl rfl (by decide +kernel)
set_option maxRecDepth 65536 in
theorem w_c7 : (Jvm.Cond.code ({ cls := "java/lang/StringUTF16", name := "coderFromArrayLen", desc := "([BI)B" } : Jvm.MethodName) jdk_52_method_15_code (2 : Nat) (Option.some Jvm.ClassFile.FieldType.byte)).before args0 about1 = true := code_word (m := ⟨8, 1⟩) (meth := k8m1) (c := k8c1) (by decide +kernel) rfl rfl rfl (by decide +kernel)
set_option maxRecDepth 65536 in
theorem w_c8 : (Jvm.Cond.code ({ cls := "com/example/quadrille/quadrille/cli/Arguments$Option", name := "flag", desc := "(Ljava/lang/String;)Lcom/example/quadrille/quadrille/cli/Arguments$Option;" } : Jvm.MethodName) prog_3_method_2_code (1 : Nat) (Option.some (Jvm.ClassFile.FieldType.object "com/example/quadrille/quadrille/cli/Arguments$Option"))).before args0 about1 = true := code_word (m := ⟨10, 1⟩) (meth := k10m1) (c := k10c1) (by decide +kernel) rfl rfl rfl (by decide +kernel)
set_option maxRecDepth 65536 in
theorem w_c9 : (Jvm.Cond.code ({ cls := "java/util/List", name := "of", desc := "()Ljava/util/List;" } : Jvm.MethodName) jdk_40_method_36_code (0 : Nat) (Option.some (Jvm.ClassFile.FieldType.object "java/util/List"))).before args0 about1 = true := code_word (m := ⟨14, 3⟩) (meth := k14m3) (c := k14c3) (by decide +kernel) rfl rfl rfl (by decide +kernel)
set_option maxRecDepth 65536 in
theorem w_c10 : (Jvm.Cond.code ({ cls := "com/example/quadrille/quadrille/cli/Arguments$Option", name := "<init>", desc := "(Ljava/lang/String;Ljava/util/List;)V" } : Jvm.MethodName) prog_3_method_1_code (3 : Nat) (Option.none : Option Jvm.ClassFile.FieldType)).before args0 about1 = true := code_word (m := ⟨10, 0⟩) (meth := k10m0) (c := k10c0) (by decide +kernel) rfl rfl rfl (by decide +kernel)
set_option maxRecDepth 65536 in
theorem w_c11 : (Jvm.Cond.code ({ cls := "java/lang/Record", name := "<init>", desc := "()V" } : Jvm.MethodName) jdk_30_method_1_code (1 : Nat) (Option.none : Option Jvm.ClassFile.FieldType)).before args0 about1 = true := code_word (m := ⟨9, 0⟩) (meth := k9m0) (c := k9c0) (by decide +kernel) rfl rfl rfl (by decide +kernel)
set_option maxRecDepth 65536 in
theorem w_c12 : (Jvm.Cond.code ({ cls := "com/example/quadrille/quadrille/cli/Arguments$Option", name := "name", desc := "()Ljava/lang/String;" } : Jvm.MethodName) prog_3_method_9_code (1 : Nat) (Option.some (Jvm.ClassFile.FieldType.object "java/lang/String"))).before args0 about1 = true := code_word (m := ⟨10, 4⟩) (meth := k10m4) (c := k10c4) (by decide +kernel) rfl rfl rfl (by decide +kernel)
set_option maxRecDepth 65536 in
theorem w_c13 : (Jvm.Cond.code ({ cls := "com/example/quadrille/quadrille/cli/Arguments$Option", name := "takesValue", desc := "()Z" } : Jvm.MethodName) prog_3_method_4_code (1 : Nat) (Option.some Jvm.ClassFile.FieldType.boolean)).before args0 about1 = true := code_word (m := ⟨10, 2⟩) (meth := k10m2) (c := k10c2) (by decide +kernel) rfl rfl rfl (by decide +kernel)
set_option maxRecDepth 65536 in
theorem w_c14 : (Jvm.Cond.code ({ cls := "java/util/ImmutableCollections$ListN", name := "isEmpty", desc := "()Z" } : Jvm.MethodName) jdk_45_method_2_code (1 : Nat) (Option.some Jvm.ClassFile.FieldType.boolean)).before args0 about1 = true := code_word (m := ⟨20, 0⟩) (meth := k20m0) (c := k20c0) (by decide +kernel) rfl rfl rfl (by decide +kernel)
set_option maxRecDepth 65536 in
theorem w_c15 : (Jvm.Cond.code ({ cls := "com/example/quadrille/quadrille/cli/Arguments$Option", name := "takes", desc := "(Ljava/lang/String;)Z" } : Jvm.MethodName) prog_3_method_5_code (2 : Nat) (Option.some Jvm.ClassFile.FieldType.boolean)).before args0 about1 = true := code_word (m := ⟨10, 3⟩) (meth := k10m3) (c := k10c3) (by decide +kernel) rfl rfl rfl (by decide +kernel)
set_option maxRecDepth 65536 in
theorem w_c16 : (Jvm.Cond.code ({ cls := "java/util/ImmutableCollections$AbstractImmutableList", name := "contains", desc := "(Ljava/lang/Object;)Z" } : Jvm.MethodName) jdk_46_method_15_code (2 : Nat) (Option.some Jvm.ClassFile.FieldType.boolean)).before args0 about1 = true := code_word (m := ⟨19, 1⟩) (meth := k19m1) (c := k19c1) (by decide +kernel) rfl rfl rfl (by decide +kernel)
set_option maxRecDepth 65536 in
theorem w_c17 : (Jvm.Cond.code ({ cls := "java/util/ImmutableCollections$ListN", name := "indexOf", desc := "(Ljava/lang/Object;)I" } : Jvm.MethodName) jdk_45_method_9_code (4 : Nat) (Option.some Jvm.ClassFile.FieldType.int)).before args0 about1 = true := code_word (m := ⟨20, 1⟩) (meth := k20m1) (c := k20c1) (by decide +kernel) rfl rfl rfl (by decide +kernel)
set_option maxRecDepth 65536 in
theorem w_c18 : (Jvm.Cond.code ({ cls := "java/lang/String", name := "valueOf", desc := "(C)Ljava/lang/String;" } : Jvm.MethodName) jdk_42_method_139_code (1 : Nat) (Option.some (Jvm.ClassFile.FieldType.object "java/lang/String"))).before args0 about1 = true := code_word (m := ⟨7, 2⟩) (meth := k7m2) (c := k7c2) (by decide +kernel) rfl rfl rfl (by decide +kernel)
set_option maxRecDepth 65536 in
theorem w_c19 : (Jvm.Cond.code ({ cls := "java/lang/StringLatin1", name := "canEncode", desc := "(C)Z" } : Jvm.MethodName) jdk_43_method_3_code (1 : Nat) (Option.some Jvm.ClassFile.FieldType.boolean)).before args0 about1 = true := code_word (m := ⟨21, 1⟩) (meth := k21m1) (c := k21c1) (by decide +kernel) rfl rfl rfl (by decide +kernel)
set_option maxRecDepth 65536 in
theorem w_c20 : (Jvm.Cond.code ({ cls := "java/lang/StringLatin1", name := "toBytes", desc := "(C)[B" } : Jvm.MethodName) jdk_43_method_46_code (1 : Nat) (Option.some (Jvm.ClassFile.FieldType.array Jvm.ClassFile.FieldType.byte))).before args0 about1 = true := code_word (m := ⟨21, 2⟩) (meth := k21m2) (c := k21c2) (by decide +kernel) rfl rfl rfl (by decide +kernel)
set_option maxRecDepth 65536 in
theorem w_c21 : (Jvm.Cond.code ({ cls := "java/lang/String", name := "<init>", desc := "([BB)V" } : Jvm.MethodName) jdk_42_method_151_code (3 : Nat) (Option.none : Option Jvm.ClassFile.FieldType)).before args0 about1 = true := code_word (m := ⟨7, 4⟩) (meth := k7m4) (c := k7c4) (by decide +kernel) rfl rfl rfl (by decide +kernel)
def codes1 : List Jvm.Cond := [Jvm.Cond.code x code maxLocals ret, Jvm.Cond.code ({ cls := "com/example/quadrille/quadrille/cli/OptionFlagPinLaw", name := "draw", desc := "(II)Ljava/lang/String;" } : Jvm.MethodName) method_3_code (6 : Nat) (Option.some (Jvm.ClassFile.FieldType.object "java/lang/String")), Jvm.Cond.code ({ cls := "java/lang/String", name := "<init>", desc := "([C)V" } : Jvm.MethodName) jdk_42_method_3_code (2 : Nat) (Option.none : Option Jvm.ClassFile.FieldType), Jvm.Cond.code ({ cls := "java/lang/String", name := "<init>", desc := "([CIILjava/lang/Void;)V" } : Jvm.MethodName) jdk_42_method_149_code (6 : Nat) (Option.none : Option Jvm.ClassFile.FieldType), Jvm.Cond.code ({ cls := "java/lang/Object", name := "<init>", desc := "()V" } : Jvm.MethodName) object_method_1_code (1 : Nat) (Option.none : Option Jvm.ClassFile.FieldType), Jvm.Cond.code ({ cls := "java/lang/StringUTF16", name := "compress", desc := "([CII)[B" } : Jvm.MethodName) jdk_52_method_16_code (6 : Nat) (Option.some (Jvm.ClassFile.FieldType.array Jvm.ClassFile.FieldType.byte)), Jvm.Cond.code ({ cls := "java/lang/StringUTF16", name := "compress", desc := "([CI[BII)I" } : Jvm.MethodName) jdk_52_method_21_code (7 : Nat) (Option.some Jvm.ClassFile.FieldType.int), Jvm.Cond.code ({ cls := "java/lang/StringUTF16", name := "coderFromArrayLen", desc := "([BI)B" } : Jvm.MethodName) jdk_52_method_15_code (2 : Nat) (Option.some Jvm.ClassFile.FieldType.byte), Jvm.Cond.code ({ cls := "com/example/quadrille/quadrille/cli/Arguments$Option", name := "flag", desc := "(Ljava/lang/String;)Lcom/example/quadrille/quadrille/cli/Arguments$Option;" } : Jvm.MethodName) prog_3_method_2_code (1 : Nat) (Option.some (Jvm.ClassFile.FieldType.object "com/example/quadrille/quadrille/cli/Arguments$Option")), Jvm.Cond.code ({ cls := "java/util/List", name := "of", desc := "()Ljava/util/List;" } : Jvm.MethodName) jdk_40_method_36_code (0 : Nat) (Option.some (Jvm.ClassFile.FieldType.object "java/util/List")), Jvm.Cond.code ({ cls := "com/example/quadrille/quadrille/cli/Arguments$Option", name := "<init>", desc := "(Ljava/lang/String;Ljava/util/List;)V" } : Jvm.MethodName) prog_3_method_1_code (3 : Nat) (Option.none : Option Jvm.ClassFile.FieldType), Jvm.Cond.code ({ cls := "java/lang/Record", name := "<init>", desc := "()V" } : Jvm.MethodName) jdk_30_method_1_code (1 : Nat) (Option.none : Option Jvm.ClassFile.FieldType), Jvm.Cond.code ({ cls := "com/example/quadrille/quadrille/cli/Arguments$Option", name := "name", desc := "()Ljava/lang/String;" } : Jvm.MethodName) prog_3_method_9_code (1 : Nat) (Option.some (Jvm.ClassFile.FieldType.object "java/lang/String")), Jvm.Cond.code ({ cls := "com/example/quadrille/quadrille/cli/Arguments$Option", name := "takesValue", desc := "()Z" } : Jvm.MethodName) prog_3_method_4_code (1 : Nat) (Option.some Jvm.ClassFile.FieldType.boolean), Jvm.Cond.code ({ cls := "java/util/ImmutableCollections$ListN", name := "isEmpty", desc := "()Z" } : Jvm.MethodName) jdk_45_method_2_code (1 : Nat) (Option.some Jvm.ClassFile.FieldType.boolean), Jvm.Cond.code ({ cls := "com/example/quadrille/quadrille/cli/Arguments$Option", name := "takes", desc := "(Ljava/lang/String;)Z" } : Jvm.MethodName) prog_3_method_5_code (2 : Nat) (Option.some Jvm.ClassFile.FieldType.boolean), Jvm.Cond.code ({ cls := "java/util/ImmutableCollections$AbstractImmutableList", name := "contains", desc := "(Ljava/lang/Object;)Z" } : Jvm.MethodName) jdk_46_method_15_code (2 : Nat) (Option.some Jvm.ClassFile.FieldType.boolean), Jvm.Cond.code ({ cls := "java/util/ImmutableCollections$ListN", name := "indexOf", desc := "(Ljava/lang/Object;)I" } : Jvm.MethodName) jdk_45_method_9_code (4 : Nat) (Option.some Jvm.ClassFile.FieldType.int), Jvm.Cond.code ({ cls := "java/lang/String", name := "valueOf", desc := "(C)Ljava/lang/String;" } : Jvm.MethodName) jdk_42_method_139_code (1 : Nat) (Option.some (Jvm.ClassFile.FieldType.object "java/lang/String")), Jvm.Cond.code ({ cls := "java/lang/StringLatin1", name := "canEncode", desc := "(C)Z" } : Jvm.MethodName) jdk_43_method_3_code (1 : Nat) (Option.some Jvm.ClassFile.FieldType.boolean), Jvm.Cond.code ({ cls := "java/lang/StringLatin1", name := "toBytes", desc := "(C)[B" } : Jvm.MethodName) jdk_43_method_46_code (1 : Nat) (Option.some (Jvm.ClassFile.FieldType.array Jvm.ClassFile.FieldType.byte)), Jvm.Cond.code ({ cls := "java/lang/String", name := "<init>", desc := "([BB)V" } : Jvm.MethodName) jdk_42_method_151_code (3 : Nat) (Option.none : Option Jvm.ClassFile.FieldType)]
set_option maxRecDepth 65536 in
theorem codes_eq : words1.filter isCode = codes1 := rfl
theorem w_codes : ∀ c ∈ words1.filter isCode, c.before args0 about1 = true := by
  rw [codes_eq]
  intro c hc
  simp only [codes1, List.mem_cons, List.not_mem_nil, or_false] at hc
  rcases hc with rfl | rfl | rfl | rfl | rfl | rfl | rfl | rfl | rfl | rfl | rfl | rfl | rfl | rfl | rfl | rfl | rfl | rfl | rfl | rfl | rfl | rfl
  · exact w_c0
  · exact w_c1
  · exact w_c2
  · exact w_c3
  · exact w_c4
  · exact w_c5
  · exact w_c6
  · exact w_c7
  · exact w_c8
  · exact w_c9
  · exact w_c10
  · exact w_c11
  · exact w_c12
  · exact w_c13
  · exact w_c14
  · exact w_c15
  · exact w_c16
  · exact w_c17
  · exact w_c18
  · exact w_c19
  · exact w_c20
  · exact w_c21
set_option maxRecDepth 65536 in
theorem w_t1 : (words1.take 24).all (fun c => isCode c || c.before args0 about1) = true := by decide +kernel
set_option maxRecDepth 65536 in
theorem w_t2 : ((words1.drop 24).take 24).all (fun c => isCode c || c.before args0 about1) = true := by decide +kernel
set_option maxRecDepth 65536 in
theorem w_t3 : (((words1.drop 24).drop 24).take 24).all (fun c => isCode c || c.before args0 about1) = true := by decide +kernel
set_option maxRecDepth 65536 in
theorem w_t4 : ((((words1.drop 24).drop 24).drop 24).take 24).all (fun c => isCode c || c.before args0 about1) = true := by decide +kernel
set_option maxRecDepth 65536 in
theorem w_t5 : (((((words1.drop 24).drop 24).drop 24).drop 24).take 24).all (fun c => isCode c || c.before args0 about1) = true := by decide +kernel
set_option maxRecDepth 65536 in
theorem w_t6 : (((((words1.drop 24).drop 24).drop 24).drop 24).drop 24).all (fun c => isCode c || c.before args0 about1) = true := by decide +kernel
theorem w_tables : (allAtoms (Jvm.Cond.code x code maxLocals ret :: tables_1)).before args0 about1 = true := by
  rw [allAtoms_all]
  show words1.all (fun c => c.before args0 about1) = true
  refine all_split ?_ w_codes
  rw [← List.take_append_drop 24 words1, List.all_append, w_t1, ← List.take_append_drop 24 (words1.drop 24), List.all_append, w_t2, ← List.take_append_drop 24 ((words1.drop 24).drop 24), List.all_append, w_t3, ← List.take_append_drop 24 (((words1.drop 24).drop 24).drop 24), List.all_append, w_t4, ← List.take_append_drop 24 ((((words1.drop 24).drop 24).drop 24).drop 24), List.all_append, w_t5, w_t6]
  rfl
set_option maxRecDepth 65536 in
theorem w_rest : rest_1_c.before args0 about1 = true := by decide +kernel
set_option maxRecDepth 65536 in
theorem w_case : (Jvm.Cond.and given_1 narrow_1).before args0 about1 = true := by decide +kernel
set_option maxRecDepth 65536 in
theorem w_consts : constsHeld consts_1 about1 := Jvm.Lit.constsHeldB_iff.mp (by decide +kernel)
theorem w_applies : (headSpec (Jvm.Cond.code x code maxLocals ret :: tables_1) room_1).applies x e0.platform about1 = true :=
  (Spec.applies_iff w_frames).mpr ⟨w_running, w_runnable, w_alone, w_named, w_hears, w_ripe, w_room, w_tables⟩
theorem atStart : AtStart classFile x code maxLocals ret World_1 tables_1 room_1 Calls_1 rest_1 Pre_1 launch0 p0 e0 about1 theMethod args0 below0 :=
  ⟨lists_1, trivial, launch0.admits_env _ _ _, launch0.least_env, fairChoices_fair.cas, fairChoices_fair.clock, w_frames, w_args, w_heap, w_applies, ⟨w_consts, trivial⟩, w_rest, w_case⟩
end start1
theorem witness_1 : WitnessClaimed_1 := ⟨start1.p0, start1.e0, start1.about1, start1.theMethod, start1.args0, start1.below0, start1.atStart⟩
end Jvm.Pilot.@@N@@
