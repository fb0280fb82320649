import JvmDerived
import JvmDerived.Pilot.@@N@@Statement
import JvmDerived.Pilot.@@N@@Code
set_option linter.unusedVariables false
set_option linter.unusedSimpArgs false
namespace Jvm.Own
open Jvm Sem ClassFile Op Lib Jvm.Stand Jvm.Free Jvm.LawKit Jvm.RoadKit
/-- the run from S ends well: it returns with P -/
def Go (p : Program) (e : Env) (below : List Frame) (P : Outcome → State → Prop) (S : State) : Prop := ∃ s₂ o, Steps p.tables e below S s₂ ∧ s₂.status = .running ∧ Ended s₂ below o ∧ P o s₂
section Steps
variable {p : Program} {l : Launch} {e : Env} {R : Room} {s : State} {m : MethodId} {args : Array Value} {below : List Frame} {meth : Method} {c : Code} {T : State} {locs : List Loc} {cells slots : Nat} {P : Outcome → State → Prop} {pc : Nat} {Ls : Array Slot} {st : List Value}
theorem Go.mv {S S' : State} (k : ∀ target, Steps p.tables e below S' target → Steps p.tables e below S target) (g : Go p e below P S') : Go p e below P S := by
  obtain ⟨s2, o, h1, h2⟩ := g
  exact ⟨s2, o, k _ h1, h2⟩
theorem Go.tr {S S' : State} (k : Steps p.tables e below S S') (g : Go p e below P S') : Go p e below P S := Go.mv (fun _ h => k.trans h) g
theorem Go.eq {S : State} {g g' : JFrame} (q : g = g') (k : Go p e below P (S.setTop g')) : Go p e below P (S.setTop g) := q ▸ k
theorem g_iload (X : Stand p l e R s m args below meth c T locs cells slots) (hx : p.tables.exec = Jvm.exec) {k : Nat} {v : Int32} (hd : decode c.code pc = .ok (.iload k, 2)) (hl : Ls[k]? = some (.val (.int v))) (pc' : Nat) (hp : pc + 2 = pc') (K : Go p e below P (T.setTop (mkF m pc' Ls (.int v :: st)))) : Go p e below P (T.setTop (mkF m pc Ls st)) := by
  subst hp; exact Go.mv (fun _ h => XS.iload X.here hx rfl hd hl h) K
theorem g_iloadN (X : Stand p l e R s m args below meth c T locs cells slots) (hx : p.tables.exec = Jvm.exec) {k : Fin 4} {v : Int32} (hd : decode c.code pc = .ok (.iload_n k, 1)) (hl : Ls[k.val]? = some (.val (.int v))) (pc' : Nat) (hp : pc + 1 = pc') (K : Go p e below P (T.setTop (mkF m pc' Ls (.int v :: st)))) : Go p e below P (T.setTop (mkF m pc Ls st)) := by
  subst hp; exact Go.mv (fun _ h => XS.iloadN X.here hx rfl hd hl h) K
theorem g_istore (X : Stand p l e R s m args below meth c T locs cells slots) (hx : p.tables.exec = Jvm.exec) {k : Nat} {v : Int32} (l' : Array Slot) (hd : decode c.code pc = .ok (.istore k, 2)) (hl : storeLocals Ls k (.int v) = some l') (pc' : Nat) (hp : pc + 2 = pc') (K : Go p e below P (T.setTop (mkF m pc' l' st))) : Go p e below P (T.setTop (mkF m pc Ls (.int v :: st))) := by
  subst hp; exact Go.mv (fun _ h => XS.istore X.here hx rfl hd rfl hl h) K
theorem g_istoreN (X : Stand p l e R s m args below meth c T locs cells slots) (hx : p.tables.exec = Jvm.exec) {k : Fin 4} {v : Int32} (l' : Array Slot) (hd : decode c.code pc = .ok (.istore_n k, 1)) (hl : storeLocals Ls k.val (.int v) = some l') (pc' : Nat) (hp : pc + 1 = pc') (K : Go p e below P (T.setTop (mkF m pc' l' st))) : Go p e below P (T.setTop (mkF m pc Ls (.int v :: st))) := by
  subst hp; exact Go.mv (fun _ h => XS.istoreN X.here hx rfl hd rfl hl h) K
theorem g_lload (X : Stand p l e R s m args below meth c T locs cells slots) (hx : p.tables.exec = Jvm.exec) {k : Nat} {v : Int64} (hd : decode c.code pc = .ok (.lload k, 2)) (hl : Ls[k]? = some (.val (.long v))) (pc' : Nat) (hp : pc + 2 = pc') (K : Go p e below P (T.setTop (mkF m pc' Ls (.long v :: st)))) : Go p e below P (T.setTop (mkF m pc Ls st)) := by
  subst hp; exact Go.mv (fun _ h => XS.lload X.here hx rfl hd hl h) K
theorem g_lloadN (X : Stand p l e R s m args below meth c T locs cells slots) (hx : p.tables.exec = Jvm.exec) {k : Fin 4} {v : Int64} (hd : decode c.code pc = .ok (.lload_n k, 1)) (hl : Ls[k.val]? = some (.val (.long v))) (pc' : Nat) (hp : pc + 1 = pc') (K : Go p e below P (T.setTop (mkF m pc' Ls (.long v :: st)))) : Go p e below P (T.setTop (mkF m pc Ls st)) := by
  subst hp; exact Go.mv (fun _ h => XS.lloadN X.here hx rfl hd hl h) K
theorem g_lstore (X : Stand p l e R s m args below meth c T locs cells slots) (hx : p.tables.exec = Jvm.exec) {k : Nat} {v : Int64} (l' : Array Slot) (hd : decode c.code pc = .ok (.lstore k, 2)) (hl : storeLocals Ls k (.long v) = some l') (pc' : Nat) (hp : pc + 2 = pc') (K : Go p e below P (T.setTop (mkF m pc' l' st))) : Go p e below P (T.setTop (mkF m pc Ls (.long v :: st))) := by
  subst hp; exact Go.mv (fun _ h => XS.lstore X.here hx rfl hd rfl hl h) K
theorem g_lstoreN (X : Stand p l e R s m args below meth c T locs cells slots) (hx : p.tables.exec = Jvm.exec) {k : Fin 4} {v : Int64} (l' : Array Slot) (hd : decode c.code pc = .ok (.lstore_n k, 1)) (hl : storeLocals Ls k.val (.long v) = some l') (pc' : Nat) (hp : pc + 1 = pc') (K : Go p e below P (T.setTop (mkF m pc' l' st))) : Go p e below P (T.setTop (mkF m pc Ls (.long v :: st))) := by
  subst hp; exact Go.mv (fun _ h => XS.lstoreN X.here hx rfl hd rfl hl h) K
theorem g_aload (X : Stand p l e R s m args below meth c T locs cells slots) (hx : p.tables.exec = Jvm.exec) {k : Nat} {v : Value} (hd : decode c.code pc = .ok (.aload k, 2)) (hl : Ls[k]? = some (.val v)) (hv : v.isRef = true) (pc' : Nat) (hp : pc + 2 = pc') (K : Go p e below P (T.setTop (mkF m pc' Ls (v :: st)))) : Go p e below P (T.setTop (mkF m pc Ls st)) := by
  subst hp; exact Go.mv (fun _ h => XS.aload X.here hx rfl hd hl hv h) K
theorem g_aloadN (X : Stand p l e R s m args below meth c T locs cells slots) (hx : p.tables.exec = Jvm.exec) {k : Fin 4} {v : Value} (hd : decode c.code pc = .ok (.aload_n k, 1)) (hl : Ls[k.val]? = some (.val v)) (hv : v.isRef = true) (pc' : Nat) (hp : pc + 1 = pc') (K : Go p e below P (T.setTop (mkF m pc' Ls (v :: st)))) : Go p e below P (T.setTop (mkF m pc Ls st)) := by
  subst hp; exact Go.mv (fun _ h => XS.aloadN X.here hx rfl hd hl hv h) K
theorem g_astore (X : Stand p l e R s m args below meth c T locs cells slots) (hx : p.tables.exec = Jvm.exec) {k : Nat} {v : Value} (l' : Array Slot) (hd : decode c.code pc = .ok (.astore k, 2)) (hv : v.isRef = true) (hl : storeLocals Ls k v = some l') (pc' : Nat) (hp : pc + 2 = pc') (K : Go p e below P (T.setTop (mkF m pc' l' st))) : Go p e below P (T.setTop (mkF m pc Ls (v :: st))) := by
  subst hp; exact Go.mv (fun _ h => XS.astore X.here hx rfl hd rfl hv hl h) K
theorem g_astoreN (X : Stand p l e R s m args below meth c T locs cells slots) (hx : p.tables.exec = Jvm.exec) {k : Fin 4} {v : Value} (l' : Array Slot) (hd : decode c.code pc = .ok (.astore_n k, 1)) (hv : v.isRef = true) (hl : storeLocals Ls k.val v = some l') (pc' : Nat) (hp : pc + 1 = pc') (K : Go p e below P (T.setTop (mkF m pc' l' st))) : Go p e below P (T.setTop (mkF m pc Ls (v :: st))) := by
  subst hp; exact Go.mv (fun _ h => XS.astoreN X.here hx rfl hd rfl hv hl h) K
theorem g_iconst (X : Stand p l e R s m args below meth c T locs cells slots) (hx : p.tables.exec = Jvm.exec) {i : Int} (v : Int32) (hd : decode c.code pc = .ok (.iconst i, 1)) (hv : Int32.ofInt i = v) (pc' : Nat) (hp : pc + 1 = pc') (K : Go p e below P (T.setTop (mkF m pc' Ls (.int v :: st)))) : Go p e below P (T.setTop (mkF m pc Ls st)) := by
  subst hp hv; exact Go.mv (fun _ h => XS.iconst X.here hx rfl hd h) K
theorem g_bipush (X : Stand p l e R s m args below meth c T locs cells slots) (hx : p.tables.exec = Jvm.exec) {i : Int} (v : Int32) (hd : decode c.code pc = .ok (.bipush i, 2)) (hv : (Int8.ofInt i).toInt32 = v) (pc' : Nat) (hp : pc + 2 = pc') (K : Go p e below P (T.setTop (mkF m pc' Ls (.int v :: st)))) : Go p e below P (T.setTop (mkF m pc Ls st)) := by
  subst hp hv; exact Go.mv (fun _ h => XS.bipush X.here hx rfl hd h) K
theorem g_sipush (X : Stand p l e R s m args below meth c T locs cells slots) (hx : p.tables.exec = Jvm.exec) {i : Int} (v : Int32) (hd : decode c.code pc = .ok (.sipush i, 3)) (hv : (Int16.ofInt i).toInt32 = v) (pc' : Nat) (hp : pc + 3 = pc') (K : Go p e below P (T.setTop (mkF m pc' Ls (.int v :: st)))) : Go p e below P (T.setTop (mkF m pc Ls st)) := by
  subst hp hv; exact Go.mv (fun _ h => XS.sipush X.here hx rfl hd h) K
theorem g_lconst (X : Stand p l e R s m args below meth c T locs cells slots) (hx : p.tables.exec = Jvm.exec) {k : Fin 2} (v : Int64) (hd : decode c.code pc = .ok (.lconst k, 1)) (hv : Int64.ofNat k = v) (pc' : Nat) (hp : pc + 1 = pc') (K : Go p e below P (T.setTop (mkF m pc' Ls (.long v :: st)))) : Go p e below P (T.setTop (mkF m pc Ls st)) := by
  subst hp hv; exact Go.mv (fun _ h => XS.lconst X.here hx rfl hd h) K
theorem g_aconstNull (X : Stand p l e R s m args below meth c T locs cells slots) (hx : p.tables.exec = Jvm.exec)  (hd : decode c.code pc = .ok (.aconst_null, 1))  (pc' : Nat) (hp : pc + 1 = pc') (K : Go p e below P (T.setTop (mkF m pc' Ls (.null :: st)))) : Go p e below P (T.setTop (mkF m pc Ls st)) := by
  subst hp; exact Go.mv (fun _ h => XS.aconstNull X.here hx rfl hd  h) K
theorem g_iadd (X : Stand p l e R s m args below meth c T locs cells slots) (hx : p.tables.exec = Jvm.exec) {x y : Int32} (hd : decode c.code pc = .ok (.iadd, 1))  (pc' : Nat) (hp : pc + 1 = pc') (K : Go p e below P (T.setTop (mkF m pc' Ls (.int (x + y) :: st)))) : Go p e below P (T.setTop (mkF m pc Ls (.int y :: .int x :: st))) := by
  subst hp; exact Go.mv (fun _ h => XS.iadd X.here hx rfl hd rfl h) K
theorem g_ladd (X : Stand p l e R s m args below meth c T locs cells slots) (hx : p.tables.exec = Jvm.exec) {x y : Int64} (hd : decode c.code pc = .ok (.ladd, 1))  (pc' : Nat) (hp : pc + 1 = pc') (K : Go p e below P (T.setTop (mkF m pc' Ls (.long (x + y) :: st)))) : Go p e below P (T.setTop (mkF m pc Ls (.long y :: .long x :: st))) := by
  subst hp; exact Go.mv (fun _ h => XS.ladd X.here hx rfl hd rfl h) K
theorem g_isub (X : Stand p l e R s m args below meth c T locs cells slots) (hx : p.tables.exec = Jvm.exec) {x y : Int32} (hd : decode c.code pc = .ok (.isub, 1))  (pc' : Nat) (hp : pc + 1 = pc') (K : Go p e below P (T.setTop (mkF m pc' Ls (.int (x - y) :: st)))) : Go p e below P (T.setTop (mkF m pc Ls (.int y :: .int x :: st))) := by
  subst hp; exact Go.mv (fun _ h => XS.isub X.here hx rfl hd rfl h) K
theorem g_lsub (X : Stand p l e R s m args below meth c T locs cells slots) (hx : p.tables.exec = Jvm.exec) {x y : Int64} (hd : decode c.code pc = .ok (.lsub, 1))  (pc' : Nat) (hp : pc + 1 = pc') (K : Go p e below P (T.setTop (mkF m pc' Ls (.long (x - y) :: st)))) : Go p e below P (T.setTop (mkF m pc Ls (.long y :: .long x :: st))) := by
  subst hp; exact Go.mv (fun _ h => XS.lsub X.here hx rfl hd rfl h) K
theorem g_imul (X : Stand p l e R s m args below meth c T locs cells slots) (hx : p.tables.exec = Jvm.exec) {x y : Int32} (hd : decode c.code pc = .ok (.imul, 1))  (pc' : Nat) (hp : pc + 1 = pc') (K : Go p e below P (T.setTop (mkF m pc' Ls (.int (x * y) :: st)))) : Go p e below P (T.setTop (mkF m pc Ls (.int y :: .int x :: st))) := by
  subst hp; exact Go.mv (fun _ h => XS.imul X.here hx rfl hd rfl h) K
theorem g_lmul (X : Stand p l e R s m args below meth c T locs cells slots) (hx : p.tables.exec = Jvm.exec) {x y : Int64} (hd : decode c.code pc = .ok (.lmul, 1))  (pc' : Nat) (hp : pc + 1 = pc') (K : Go p e below P (T.setTop (mkF m pc' Ls (.long (x * y) :: st)))) : Go p e below P (T.setTop (mkF m pc Ls (.long y :: .long x :: st))) := by
  subst hp; exact Go.mv (fun _ h => XS.lmul X.here hx rfl hd rfl h) K
theorem g_iand (X : Stand p l e R s m args below meth c T locs cells slots) (hx : p.tables.exec = Jvm.exec) {x y : Int32} (hd : decode c.code pc = .ok (.iand, 1))  (pc' : Nat) (hp : pc + 1 = pc') (K : Go p e below P (T.setTop (mkF m pc' Ls (.int (x &&& y) :: st)))) : Go p e below P (T.setTop (mkF m pc Ls (.int y :: .int x :: st))) := by
  subst hp; exact Go.mv (fun _ h => XS.iand X.here hx rfl hd rfl h) K
theorem g_land (X : Stand p l e R s m args below meth c T locs cells slots) (hx : p.tables.exec = Jvm.exec) {x y : Int64} (hd : decode c.code pc = .ok (.land, 1))  (pc' : Nat) (hp : pc + 1 = pc') (K : Go p e below P (T.setTop (mkF m pc' Ls (.long (x &&& y) :: st)))) : Go p e below P (T.setTop (mkF m pc Ls (.long y :: .long x :: st))) := by
  subst hp; exact Go.mv (fun _ h => XS.land X.here hx rfl hd rfl h) K
theorem g_ior (X : Stand p l e R s m args below meth c T locs cells slots) (hx : p.tables.exec = Jvm.exec) {x y : Int32} (hd : decode c.code pc = .ok (.ior, 1))  (pc' : Nat) (hp : pc + 1 = pc') (K : Go p e below P (T.setTop (mkF m pc' Ls (.int (x ||| y) :: st)))) : Go p e below P (T.setTop (mkF m pc Ls (.int y :: .int x :: st))) := by
  subst hp; exact Go.mv (fun _ h => XS.ior X.here hx rfl hd rfl h) K
theorem g_lor (X : Stand p l e R s m args below meth c T locs cells slots) (hx : p.tables.exec = Jvm.exec) {x y : Int64} (hd : decode c.code pc = .ok (.lor, 1))  (pc' : Nat) (hp : pc + 1 = pc') (K : Go p e below P (T.setTop (mkF m pc' Ls (.long (x ||| y) :: st)))) : Go p e below P (T.setTop (mkF m pc Ls (.long y :: .long x :: st))) := by
  subst hp; exact Go.mv (fun _ h => XS.lor X.here hx rfl hd rfl h) K
theorem g_ixor (X : Stand p l e R s m args below meth c T locs cells slots) (hx : p.tables.exec = Jvm.exec) {x y : Int32} (hd : decode c.code pc = .ok (.ixor, 1))  (pc' : Nat) (hp : pc + 1 = pc') (K : Go p e below P (T.setTop (mkF m pc' Ls (.int (x ^^^ y) :: st)))) : Go p e below P (T.setTop (mkF m pc Ls (.int y :: .int x :: st))) := by
  subst hp; exact Go.mv (fun _ h => XS.ixor X.here hx rfl hd rfl h) K
theorem g_lxor (X : Stand p l e R s m args below meth c T locs cells slots) (hx : p.tables.exec = Jvm.exec) {x y : Int64} (hd : decode c.code pc = .ok (.lxor, 1))  (pc' : Nat) (hp : pc + 1 = pc') (K : Go p e below P (T.setTop (mkF m pc' Ls (.long (x ^^^ y) :: st)))) : Go p e below P (T.setTop (mkF m pc Ls (.long y :: .long x :: st))) := by
  subst hp; exact Go.mv (fun _ h => XS.lxor X.here hx rfl hd rfl h) K
theorem g_ishl (X : Stand p l e R s m args below meth c T locs cells slots) (hx : p.tables.exec = Jvm.exec) {x y : Int32} (hd : decode c.code pc = .ok (.ishl, 1))  (pc' : Nat) (hp : pc + 1 = pc') (K : Go p e below P (T.setTop (mkF m pc' Ls (.int (x <<< (y &&& 31)) :: st)))) : Go p e below P (T.setTop (mkF m pc Ls (.int y :: .int x :: st))) := by
  subst hp; exact Go.mv (fun _ h => XS.ishl X.here hx rfl hd rfl h) K
theorem g_ishr (X : Stand p l e R s m args below meth c T locs cells slots) (hx : p.tables.exec = Jvm.exec) {x y : Int32} (hd : decode c.code pc = .ok (.ishr, 1))  (pc' : Nat) (hp : pc + 1 = pc') (K : Go p e below P (T.setTop (mkF m pc' Ls (.int (x >>> (y &&& 31)) :: st)))) : Go p e below P (T.setTop (mkF m pc Ls (.int y :: .int x :: st))) := by
  subst hp; exact Go.mv (fun _ h => XS.ishr X.here hx rfl hd rfl h) K
theorem g_iushr (X : Stand p l e R s m args below meth c T locs cells slots) (hx : p.tables.exec = Jvm.exec) {x y : Int32} (hd : decode c.code pc = .ok (.iushr, 1))  (pc' : Nat) (hp : pc + 1 = pc') (K : Go p e below P (T.setTop (mkF m pc' Ls (.int ((x.toUInt32 >>> (y &&& 31).toUInt32).toInt32) :: st)))) : Go p e below P (T.setTop (mkF m pc Ls (.int y :: .int x :: st))) := by
  subst hp; exact Go.mv (fun _ h => XS.iushr X.here hx rfl hd rfl h) K
theorem g_lshl (X : Stand p l e R s m args below meth c T locs cells slots) (hx : p.tables.exec = Jvm.exec) {x : Int64} {y : Int32} (hd : decode c.code pc = .ok (.lshl, 1))  (pc' : Nat) (hp : pc + 1 = pc') (K : Go p e below P (T.setTop (mkF m pc' Ls (.long (x <<< (y &&& 0x3f).toInt64) :: st)))) : Go p e below P (T.setTop (mkF m pc Ls (.int y :: .long x :: st))) := by
  subst hp; exact Go.mv (fun _ h => XS.lshl X.here hx rfl hd rfl h) K
theorem g_lushr (X : Stand p l e R s m args below meth c T locs cells slots) (hx : p.tables.exec = Jvm.exec) {x : Int64} {y : Int32} (hd : decode c.code pc = .ok (.lushr, 1))  (pc' : Nat) (hp : pc + 1 = pc') (K : Go p e below P (T.setTop (mkF m pc' Ls (.long ((x.toUInt64 >>> (y &&& 0x3f).toInt64.toUInt64).toInt64) :: st)))) : Go p e below P (T.setTop (mkF m pc Ls (.int y :: .long x :: st))) := by
  subst hp; exact Go.mv (fun _ h => XS.lushr X.here hx rfl hd rfl h) K
theorem g_ineg (X : Stand p l e R s m args below meth c T locs cells slots) (hx : p.tables.exec = Jvm.exec) {x : Int32} (hd : decode c.code pc = .ok (.ineg, 1))  (pc' : Nat) (hp : pc + 1 = pc') (K : Go p e below P (T.setTop (mkF m pc' Ls (.int (-x) :: st)))) : Go p e below P (T.setTop (mkF m pc Ls (.int x :: st))) := by
  subst hp; exact Go.mv (fun _ h => XS.ineg X.here hx rfl hd rfl h) K
theorem g_lneg (X : Stand p l e R s m args below meth c T locs cells slots) (hx : p.tables.exec = Jvm.exec) {x : Int64} (hd : decode c.code pc = .ok (.lneg, 1))  (pc' : Nat) (hp : pc + 1 = pc') (K : Go p e below P (T.setTop (mkF m pc' Ls (.long (-x) :: st)))) : Go p e below P (T.setTop (mkF m pc Ls (.long x :: st))) := by
  subst hp; exact Go.mv (fun _ h => XS.lneg X.here hx rfl hd rfl h) K
theorem g_i2l (X : Stand p l e R s m args below meth c T locs cells slots) (hx : p.tables.exec = Jvm.exec) {x : Int32} (hd : decode c.code pc = .ok (.i2l, 1))  (pc' : Nat) (hp : pc + 1 = pc') (K : Go p e below P (T.setTop (mkF m pc' Ls (.long (x.toInt64) :: st)))) : Go p e below P (T.setTop (mkF m pc Ls (.int x :: st))) := by
  subst hp; exact Go.mv (fun _ h => XS.i2l X.here hx rfl hd rfl h) K
theorem g_l2i (X : Stand p l e R s m args below meth c T locs cells slots) (hx : p.tables.exec = Jvm.exec) {x : Int64} (hd : decode c.code pc = .ok (.l2i, 1))  (pc' : Nat) (hp : pc + 1 = pc') (K : Go p e below P (T.setTop (mkF m pc' Ls (.int (x.toInt32) :: st)))) : Go p e below P (T.setTop (mkF m pc Ls (.long x :: st))) := by
  subst hp; exact Go.mv (fun _ h => XS.l2i X.here hx rfl hd rfl h) K
theorem g_i2b (X : Stand p l e R s m args below meth c T locs cells slots) (hx : p.tables.exec = Jvm.exec) {x : Int32} (hd : decode c.code pc = .ok (.i2b, 1))  (pc' : Nat) (hp : pc + 1 = pc') (K : Go p e below P (T.setTop (mkF m pc' Ls (.int (x.toInt8.toInt32) :: st)))) : Go p e below P (T.setTop (mkF m pc Ls (.int x :: st))) := by
  subst hp; exact Go.mv (fun _ h => XS.i2b X.here hx rfl hd rfl h) K
theorem g_i2s (X : Stand p l e R s m args below meth c T locs cells slots) (hx : p.tables.exec = Jvm.exec) {x : Int32} (hd : decode c.code pc = .ok (.i2s, 1))  (pc' : Nat) (hp : pc + 1 = pc') (K : Go p e below P (T.setTop (mkF m pc' Ls (.int (x.toInt16.toInt32) :: st)))) : Go p e below P (T.setTop (mkF m pc Ls (.int x :: st))) := by
  subst hp; exact Go.mv (fun _ h => XS.i2s X.here hx rfl hd rfl h) K
theorem g_i2c (X : Stand p l e R s m args below meth c T locs cells slots) (hx : p.tables.exec = Jvm.exec) {x : Int32} (hd : decode c.code pc = .ok (.i2c, 1))  (pc' : Nat) (hp : pc + 1 = pc') (K : Go p e below P (T.setTop (mkF m pc' Ls (.int (x.toUInt32.toUInt16.toUInt32.toInt32) :: st)))) : Go p e below P (T.setTop (mkF m pc Ls (.int x :: st))) := by
  subst hp; exact Go.mv (fun _ h => XS.i2c X.here hx rfl hd rfl h) K
theorem g_lcmp (X : Stand p l e R s m args below meth c T locs cells slots) (hx : p.tables.exec = Jvm.exec) {x y : Int64} (hd : decode c.code pc = .ok (.lcmp, 1))  (pc' : Nat) (hp : pc + 1 = pc') (K : Go p e below P (T.setTop (mkF m pc' Ls (.int (lcmpW x y) :: st)))) : Go p e below P (T.setTop (mkF m pc Ls (.long y :: .long x :: st))) := by
  subst hp; exact Go.mv (fun _ h => XS.lcmp X.here hx rfl hd rfl h) K
theorem g_idiv (X : Stand p l e R s m args below meth c T locs cells slots) (hx : p.tables.exec = Jvm.exec) {x y : Int32} (hd : decode c.code pc = .ok (.idiv, 1)) (hy : y ≠ 0) (pc' : Nat) (hp : pc + 1 = pc') (K : Go p e below P (T.setTop (mkF m pc' Ls (.int (x / y) :: st)))) : Go p e below P (T.setTop (mkF m pc Ls (.int y :: .int x :: st))) := by
  subst hp; exact Go.mv (fun _ h => XS.idiv X.here hx rfl hd rfl hy h) K
theorem g_ldiv (X : Stand p l e R s m args below meth c T locs cells slots) (hx : p.tables.exec = Jvm.exec) {x y : Int64} (hd : decode c.code pc = .ok (.ldiv, 1)) (hy : y ≠ 0) (pc' : Nat) (hp : pc + 1 = pc') (K : Go p e below P (T.setTop (mkF m pc' Ls (.long (x / y) :: st)))) : Go p e below P (T.setTop (mkF m pc Ls (.long y :: .long x :: st))) := by
  subst hp; exact Go.mv (fun _ h => XS.ldiv X.here hx rfl hd rfl hy h) K
theorem g_irem (X : Stand p l e R s m args below meth c T locs cells slots) (hx : p.tables.exec = Jvm.exec) {x y : Int32} (hd : decode c.code pc = .ok (.irem, 1)) (hy : y ≠ 0) (pc' : Nat) (hp : pc + 1 = pc') (K : Go p e below P (T.setTop (mkF m pc' Ls (.int (x % y) :: st)))) : Go p e below P (T.setTop (mkF m pc Ls (.int y :: .int x :: st))) := by
  subst hp; exact Go.mv (fun _ h => iremM X hx rfl hd rfl hy h) K
theorem lrem_eq_mod (x y : Int64) : x - (x / y) * y = x % y := by
  apply Int64.toInt_inj.mp
  have h1 := Int64.le_toInt (x % y)
  have h2 := Int64.toInt_lt (x % y)
  rw [Int64.toInt_sub, Int64.toInt_mul, Int64.toInt_div, Int.bmod_mul_bmod, Int.sub_bmod_bmod, Int.mul_comm (x.toInt.tdiv y.toInt), ← Int.tmod_def, ← Int64.toInt_mod]
  exact Int.bmod_eq_of_le_mul_two (by omega) (by omega)
theorem g_lrem (X : Stand p l e R s m args below meth c T locs cells slots) (hx : p.tables.exec = Jvm.exec) {x y : Int64} (hd : decode c.code pc = .ok (.lrem, 1)) (hy : y ≠ 0) (pc' : Nat) (hp : pc + 1 = pc') (K : Go p e below P (T.setTop (mkF m pc' Ls (.long (x % y) :: st)))) : Go p e below P (T.setTop (mkF m pc Ls (.long y :: .long x :: st))) := by
  subst hp; rw [← lrem_eq_mod] at K; exact Go.mv (fun _ h => XS.lrem X.here hx rfl hd rfl hy h) K
theorem g_dup (X : Stand p l e R s m args below meth c T locs cells slots) (hx : p.tables.exec = Jvm.exec) {x : Value} (hd : decode c.code pc = .ok (.dup, 1)) (hc : x.category = 1) (pc' : Nat) (hp : pc + 1 = pc') (K : Go p e below P (T.setTop (mkF m pc' Ls (x :: x :: st)))) : Go p e below P (T.setTop (mkF m pc Ls (x :: st))) := by
  subst hp; exact Go.mv (fun _ h => XS.dup X.here hx rfl hd rfl hc h) K
theorem g_pop (X : Stand p l e R s m args below meth c T locs cells slots) (hx : p.tables.exec = Jvm.exec) {x : Value} (hd : decode c.code pc = .ok (.pop, 1)) (hc : x.category = 1) (pc' : Nat) (hp : pc + 1 = pc') (K : Go p e below P (T.setTop (mkF m pc' Ls st))) : Go p e below P (T.setTop (mkF m pc Ls (x :: st))) := by
  subst hp; exact Go.mv (fun _ h => XS.pop X.here hx rfl hd rfl hc h) K
theorem g_dupX1 (X : Stand p l e R s m args below meth c T locs cells slots) (hx : p.tables.exec = Jvm.exec) {x y : Value} (hd : decode c.code pc = .ok (.dup_x1, 1)) (hc : x.category = 1) (hc2 : y.category = 1) (pc' : Nat) (hp : pc + 1 = pc') (K : Go p e below P (T.setTop (mkF m pc' Ls (x :: y :: x :: st)))) : Go p e below P (T.setTop (mkF m pc Ls (x :: y :: st))) := by
  subst hp; exact Go.mv (fun _ h => XS.dupX1 X.here hx rfl hd rfl hc hc2 h) K
theorem g_iinc (X : Stand p l e R s m args below meth c T locs cells slots) (hx : p.tables.exec = Jvm.exec) {k : Nat} {cst : Int} {x : Int32} (l' : Array Slot) (hd : decode c.code pc = .ok (.iinc k cst, 3)) (hl : Ls[k]? = some (.val (.int x))) (hl' : storeLocals Ls k (.int (x + Int32.ofInt cst)) = some l') (pc' : Nat) (hp : pc + 3 = pc') (K : Go p e below P (T.setTop (mkF m pc' l' st))) : Go p e below P (T.setTop (mkF m pc Ls st)) := by
  subst hp; exact Go.mv (fun _ h => XS.iinc X.here hx rfl hd hl hl' h) K
theorem g_goto (X : Stand p l e R s m args below meth c T locs cells slots) (hx : p.tables.exec = Jvm.exec) {o : Int} (hd : decode c.code pc = .ok (.goto o, 3)) (pc' : Nat) (hp : ((pc : Int) + o).toNat = pc' ∧ 0 ≤ (pc : Int) + o) (K : Go p e below P (T.setTop (mkF m pc' Ls st))) : Go p e below P (T.setTop (mkF m pc Ls st)) :=
  Go.mv (fun _ h => XS.goto X.here hx rfl (pc0 := pc) (pc' := pc') rfl hd hp.2 hp.1 h) K
theorem g_icmp_lt_t (X : Stand p l e R s m args below meth c T locs cells slots) (hx : p.tables.exec = Jvm.exec) {x y : Int32} {o : Int} (hd : decode c.code pc = .ok (.if_icmp .lt o, 3)) (h : x < y) (pc' : Nat) (hp : ((pc : Int) + o).toNat = pc' ∧ 0 ≤ (pc : Int) + o) (K : Go p e below P (T.setTop (mkF m pc' Ls st))) : Go p e below P (T.setTop (mkF m pc Ls (.int y :: .int x :: st))) :=
  Go.mv (fun _ q => XS.icmpYes X.here hx rfl (pc0 := pc) (pc' := pc') rfl hd rfl (tlt h).1 hp.2 hp.1 q) K
theorem g_icmp_lt_f (X : Stand p l e R s m args below meth c T locs cells slots) (hx : p.tables.exec = Jvm.exec) {x y : Int32} {o : Int} (hd : decode c.code pc = .ok (.if_icmp .lt o, 3)) (h : ¬ x < y) (pc' : Nat) (hp : pc + 3 = pc') (K : Go p e below P (T.setTop (mkF m pc' Ls st))) : Go p e below P (T.setTop (mkF m pc Ls (.int y :: .int x :: st))) := by
  subst hp; exact Go.mv (fun _ q => XS.icmpNo X.here hx rfl hd rfl (flt h).1 q) K
theorem g_icmp_lt (X : Stand p l e R s m args below meth c T locs cells slots) (hx : p.tables.exec = Jvm.exec) {x y : Int32} {o : Int} (hd : decode c.code pc = .ok (.if_icmp .lt o, 3)) (pcT pcF : Nat) (hT : ((pc : Int) + o).toNat = pcT ∧ 0 ≤ (pc : Int) + o) (hF : pc + 3 = pcF) (KT : (x < y) → Go p e below P (T.setTop (mkF m pcT Ls st))) (KF : (¬ x < y) → Go p e below P (T.setTop (mkF m pcF Ls st))) : Go p e below P (T.setTop (mkF m pc Ls (.int y :: .int x :: st))) := by
  by_cases h : x < y
  · exact g_icmp_lt_t X hx hd h _ hT (KT h)
  · exact g_icmp_lt_f X hx hd h _ hF (KF h)
theorem g_if_lt_t (X : Stand p l e R s m args below meth c T locs cells slots) (hx : p.tables.exec = Jvm.exec) {x : Int32} {o : Int} (hd : decode c.code pc = .ok (.ifCond .lt o, 3)) (h : x < 0) (pc' : Nat) (hp : ((pc : Int) + o).toNat = pc' ∧ 0 ≤ (pc : Int) + o) (K : Go p e below P (T.setTop (mkF m pc' Ls st))) : Go p e below P (T.setTop (mkF m pc Ls (.int x :: st))) :=
  Go.mv (fun _ q => XS.ifYes X.here hx rfl (pc0 := pc) (pc' := pc') rfl hd rfl ((if0 _ _).trans (tlt h).1) hp.2 hp.1 q) K
theorem g_if_lt_f (X : Stand p l e R s m args below meth c T locs cells slots) (hx : p.tables.exec = Jvm.exec) {x : Int32} {o : Int} (hd : decode c.code pc = .ok (.ifCond .lt o, 3)) (h : ¬ x < 0) (pc' : Nat) (hp : pc + 3 = pc') (K : Go p e below P (T.setTop (mkF m pc' Ls st))) : Go p e below P (T.setTop (mkF m pc Ls (.int x :: st))) := by
  subst hp; exact Go.mv (fun _ q => XS.ifNo X.here hx rfl hd rfl ((if0 _ _).trans (flt h).1) q) K
theorem g_if_lt (X : Stand p l e R s m args below meth c T locs cells slots) (hx : p.tables.exec = Jvm.exec) {x : Int32} {o : Int} (hd : decode c.code pc = .ok (.ifCond .lt o, 3)) (pcT pcF : Nat) (hT : ((pc : Int) + o).toNat = pcT ∧ 0 ≤ (pc : Int) + o) (hF : pc + 3 = pcF) (KT : (x < 0) → Go p e below P (T.setTop (mkF m pcT Ls st))) (KF : (¬ x < 0) → Go p e below P (T.setTop (mkF m pcF Ls st))) : Go p e below P (T.setTop (mkF m pc Ls (.int x :: st))) := by
  by_cases h : x < 0
  · exact g_if_lt_t X hx hd h _ hT (KT h)
  · exact g_if_lt_f X hx hd h _ hF (KF h)
theorem g_icmp_ge_t (X : Stand p l e R s m args below meth c T locs cells slots) (hx : p.tables.exec = Jvm.exec) {x y : Int32} {o : Int} (hd : decode c.code pc = .ok (.if_icmp .ge o, 3)) (h : ¬ x < y) (pc' : Nat) (hp : ((pc : Int) + o).toNat = pc' ∧ 0 ≤ (pc : Int) + o) (K : Go p e below P (T.setTop (mkF m pc' Ls st))) : Go p e below P (T.setTop (mkF m pc Ls (.int y :: .int x :: st))) :=
  Go.mv (fun _ q => XS.icmpYes X.here hx rfl (pc0 := pc) (pc' := pc') rfl hd rfl (flt h).2.1 hp.2 hp.1 q) K
theorem g_icmp_ge_f (X : Stand p l e R s m args below meth c T locs cells slots) (hx : p.tables.exec = Jvm.exec) {x y : Int32} {o : Int} (hd : decode c.code pc = .ok (.if_icmp .ge o, 3)) (h : x < y) (pc' : Nat) (hp : pc + 3 = pc') (K : Go p e below P (T.setTop (mkF m pc' Ls st))) : Go p e below P (T.setTop (mkF m pc Ls (.int y :: .int x :: st))) := by
  subst hp; exact Go.mv (fun _ q => XS.icmpNo X.here hx rfl hd rfl (tlt h).2.1 q) K
theorem g_icmp_ge (X : Stand p l e R s m args below meth c T locs cells slots) (hx : p.tables.exec = Jvm.exec) {x y : Int32} {o : Int} (hd : decode c.code pc = .ok (.if_icmp .ge o, 3)) (pcT pcF : Nat) (hT : ((pc : Int) + o).toNat = pcT ∧ 0 ≤ (pc : Int) + o) (hF : pc + 3 = pcF) (KT : (¬ x < y) → Go p e below P (T.setTop (mkF m pcT Ls st))) (KF : (x < y) → Go p e below P (T.setTop (mkF m pcF Ls st))) : Go p e below P (T.setTop (mkF m pc Ls (.int y :: .int x :: st))) := by
  by_cases h : x < y
  · exact g_icmp_ge_f X hx hd h _ hF (KF h)
  · exact g_icmp_ge_t X hx hd h _ hT (KT h)
theorem g_if_ge_t (X : Stand p l e R s m args below meth c T locs cells slots) (hx : p.tables.exec = Jvm.exec) {x : Int32} {o : Int} (hd : decode c.code pc = .ok (.ifCond .ge o, 3)) (h : ¬ x < 0) (pc' : Nat) (hp : ((pc : Int) + o).toNat = pc' ∧ 0 ≤ (pc : Int) + o) (K : Go p e below P (T.setTop (mkF m pc' Ls st))) : Go p e below P (T.setTop (mkF m pc Ls (.int x :: st))) :=
  Go.mv (fun _ q => XS.ifYes X.here hx rfl (pc0 := pc) (pc' := pc') rfl hd rfl ((if0 _ _).trans (flt h).2.1) hp.2 hp.1 q) K
theorem g_if_ge_f (X : Stand p l e R s m args below meth c T locs cells slots) (hx : p.tables.exec = Jvm.exec) {x : Int32} {o : Int} (hd : decode c.code pc = .ok (.ifCond .ge o, 3)) (h : x < 0) (pc' : Nat) (hp : pc + 3 = pc') (K : Go p e below P (T.setTop (mkF m pc' Ls st))) : Go p e below P (T.setTop (mkF m pc Ls (.int x :: st))) := by
  subst hp; exact Go.mv (fun _ q => XS.ifNo X.here hx rfl hd rfl ((if0 _ _).trans (tlt h).2.1) q) K
theorem g_if_ge (X : Stand p l e R s m args below meth c T locs cells slots) (hx : p.tables.exec = Jvm.exec) {x : Int32} {o : Int} (hd : decode c.code pc = .ok (.ifCond .ge o, 3)) (pcT pcF : Nat) (hT : ((pc : Int) + o).toNat = pcT ∧ 0 ≤ (pc : Int) + o) (hF : pc + 3 = pcF) (KT : (¬ x < 0) → Go p e below P (T.setTop (mkF m pcT Ls st))) (KF : (x < 0) → Go p e below P (T.setTop (mkF m pcF Ls st))) : Go p e below P (T.setTop (mkF m pc Ls (.int x :: st))) := by
  by_cases h : x < 0
  · exact g_if_ge_f X hx hd h _ hF (KF h)
  · exact g_if_ge_t X hx hd h _ hT (KT h)
theorem g_icmp_gt_t (X : Stand p l e R s m args below meth c T locs cells slots) (hx : p.tables.exec = Jvm.exec) {x y : Int32} {o : Int} (hd : decode c.code pc = .ok (.if_icmp .gt o, 3)) (h : y < x) (pc' : Nat) (hp : ((pc : Int) + o).toNat = pc' ∧ 0 ≤ (pc : Int) + o) (K : Go p e below P (T.setTop (mkF m pc' Ls st))) : Go p e below P (T.setTop (mkF m pc Ls (.int y :: .int x :: st))) :=
  Go.mv (fun _ q => XS.icmpYes X.here hx rfl (pc0 := pc) (pc' := pc') rfl hd rfl (tlt h).2.2.1 hp.2 hp.1 q) K
theorem g_icmp_gt_f (X : Stand p l e R s m args below meth c T locs cells slots) (hx : p.tables.exec = Jvm.exec) {x y : Int32} {o : Int} (hd : decode c.code pc = .ok (.if_icmp .gt o, 3)) (h : ¬ y < x) (pc' : Nat) (hp : pc + 3 = pc') (K : Go p e below P (T.setTop (mkF m pc' Ls st))) : Go p e below P (T.setTop (mkF m pc Ls (.int y :: .int x :: st))) := by
  subst hp; exact Go.mv (fun _ q => XS.icmpNo X.here hx rfl hd rfl (flt h).2.2.1 q) K
theorem g_icmp_gt (X : Stand p l e R s m args below meth c T locs cells slots) (hx : p.tables.exec = Jvm.exec) {x y : Int32} {o : Int} (hd : decode c.code pc = .ok (.if_icmp .gt o, 3)) (pcT pcF : Nat) (hT : ((pc : Int) + o).toNat = pcT ∧ 0 ≤ (pc : Int) + o) (hF : pc + 3 = pcF) (KT : (y < x) → Go p e below P (T.setTop (mkF m pcT Ls st))) (KF : (¬ y < x) → Go p e below P (T.setTop (mkF m pcF Ls st))) : Go p e below P (T.setTop (mkF m pc Ls (.int y :: .int x :: st))) := by
  by_cases h : y < x
  · exact g_icmp_gt_t X hx hd h _ hT (KT h)
  · exact g_icmp_gt_f X hx hd h _ hF (KF h)
theorem g_if_gt_t (X : Stand p l e R s m args below meth c T locs cells slots) (hx : p.tables.exec = Jvm.exec) {x : Int32} {o : Int} (hd : decode c.code pc = .ok (.ifCond .gt o, 3)) (h : 0 < x) (pc' : Nat) (hp : ((pc : Int) + o).toNat = pc' ∧ 0 ≤ (pc : Int) + o) (K : Go p e below P (T.setTop (mkF m pc' Ls st))) : Go p e below P (T.setTop (mkF m pc Ls (.int x :: st))) :=
  Go.mv (fun _ q => XS.ifYes X.here hx rfl (pc0 := pc) (pc' := pc') rfl hd rfl ((if0 _ _).trans (tlt h).2.2.1) hp.2 hp.1 q) K
theorem g_if_gt_f (X : Stand p l e R s m args below meth c T locs cells slots) (hx : p.tables.exec = Jvm.exec) {x : Int32} {o : Int} (hd : decode c.code pc = .ok (.ifCond .gt o, 3)) (h : ¬ 0 < x) (pc' : Nat) (hp : pc + 3 = pc') (K : Go p e below P (T.setTop (mkF m pc' Ls st))) : Go p e below P (T.setTop (mkF m pc Ls (.int x :: st))) := by
  subst hp; exact Go.mv (fun _ q => XS.ifNo X.here hx rfl hd rfl ((if0 _ _).trans (flt h).2.2.1) q) K
theorem g_if_gt (X : Stand p l e R s m args below meth c T locs cells slots) (hx : p.tables.exec = Jvm.exec) {x : Int32} {o : Int} (hd : decode c.code pc = .ok (.ifCond .gt o, 3)) (pcT pcF : Nat) (hT : ((pc : Int) + o).toNat = pcT ∧ 0 ≤ (pc : Int) + o) (hF : pc + 3 = pcF) (KT : (0 < x) → Go p e below P (T.setTop (mkF m pcT Ls st))) (KF : (¬ 0 < x) → Go p e below P (T.setTop (mkF m pcF Ls st))) : Go p e below P (T.setTop (mkF m pc Ls (.int x :: st))) := by
  by_cases h : 0 < x
  · exact g_if_gt_t X hx hd h _ hT (KT h)
  · exact g_if_gt_f X hx hd h _ hF (KF h)
theorem g_icmp_le_t (X : Stand p l e R s m args below meth c T locs cells slots) (hx : p.tables.exec = Jvm.exec) {x y : Int32} {o : Int} (hd : decode c.code pc = .ok (.if_icmp .le o, 3)) (h : ¬ y < x) (pc' : Nat) (hp : ((pc : Int) + o).toNat = pc' ∧ 0 ≤ (pc : Int) + o) (K : Go p e below P (T.setTop (mkF m pc' Ls st))) : Go p e below P (T.setTop (mkF m pc Ls (.int y :: .int x :: st))) :=
  Go.mv (fun _ q => XS.icmpYes X.here hx rfl (pc0 := pc) (pc' := pc') rfl hd rfl (flt h).2.2.2 hp.2 hp.1 q) K
theorem g_icmp_le_f (X : Stand p l e R s m args below meth c T locs cells slots) (hx : p.tables.exec = Jvm.exec) {x y : Int32} {o : Int} (hd : decode c.code pc = .ok (.if_icmp .le o, 3)) (h : y < x) (pc' : Nat) (hp : pc + 3 = pc') (K : Go p e below P (T.setTop (mkF m pc' Ls st))) : Go p e below P (T.setTop (mkF m pc Ls (.int y :: .int x :: st))) := by
  subst hp; exact Go.mv (fun _ q => XS.icmpNo X.here hx rfl hd rfl (tlt h).2.2.2 q) K
theorem g_icmp_le (X : Stand p l e R s m args below meth c T locs cells slots) (hx : p.tables.exec = Jvm.exec) {x y : Int32} {o : Int} (hd : decode c.code pc = .ok (.if_icmp .le o, 3)) (pcT pcF : Nat) (hT : ((pc : Int) + o).toNat = pcT ∧ 0 ≤ (pc : Int) + o) (hF : pc + 3 = pcF) (KT : (¬ y < x) → Go p e below P (T.setTop (mkF m pcT Ls st))) (KF : (y < x) → Go p e below P (T.setTop (mkF m pcF Ls st))) : Go p e below P (T.setTop (mkF m pc Ls (.int y :: .int x :: st))) := by
  by_cases h : y < x
  · exact g_icmp_le_f X hx hd h _ hF (KF h)
  · exact g_icmp_le_t X hx hd h _ hT (KT h)
theorem g_if_le_t (X : Stand p l e R s m args below meth c T locs cells slots) (hx : p.tables.exec = Jvm.exec) {x : Int32} {o : Int} (hd : decode c.code pc = .ok (.ifCond .le o, 3)) (h : ¬ 0 < x) (pc' : Nat) (hp : ((pc : Int) + o).toNat = pc' ∧ 0 ≤ (pc : Int) + o) (K : Go p e below P (T.setTop (mkF m pc' Ls st))) : Go p e below P (T.setTop (mkF m pc Ls (.int x :: st))) :=
  Go.mv (fun _ q => XS.ifYes X.here hx rfl (pc0 := pc) (pc' := pc') rfl hd rfl ((if0 _ _).trans (flt h).2.2.2) hp.2 hp.1 q) K
theorem g_if_le_f (X : Stand p l e R s m args below meth c T locs cells slots) (hx : p.tables.exec = Jvm.exec) {x : Int32} {o : Int} (hd : decode c.code pc = .ok (.ifCond .le o, 3)) (h : 0 < x) (pc' : Nat) (hp : pc + 3 = pc') (K : Go p e below P (T.setTop (mkF m pc' Ls st))) : Go p e below P (T.setTop (mkF m pc Ls (.int x :: st))) := by
  subst hp; exact Go.mv (fun _ q => XS.ifNo X.here hx rfl hd rfl ((if0 _ _).trans (tlt h).2.2.2) q) K
theorem g_if_le (X : Stand p l e R s m args below meth c T locs cells slots) (hx : p.tables.exec = Jvm.exec) {x : Int32} {o : Int} (hd : decode c.code pc = .ok (.ifCond .le o, 3)) (pcT pcF : Nat) (hT : ((pc : Int) + o).toNat = pcT ∧ 0 ≤ (pc : Int) + o) (hF : pc + 3 = pcF) (KT : (¬ 0 < x) → Go p e below P (T.setTop (mkF m pcT Ls st))) (KF : (0 < x) → Go p e below P (T.setTop (mkF m pcF Ls st))) : Go p e below P (T.setTop (mkF m pc Ls (.int x :: st))) := by
  by_cases h : 0 < x
  · exact g_if_le_f X hx hd h _ hF (KF h)
  · exact g_if_le_t X hx hd h _ hT (KT h)
theorem g_icmp_eq_t (X : Stand p l e R s m args below meth c T locs cells slots) (hx : p.tables.exec = Jvm.exec) {x y : Int32} {o : Int} (hd : decode c.code pc = .ok (.if_icmp .eq o, 3)) (h : x = y) (pc' : Nat) (hp : ((pc : Int) + o).toNat = pc' ∧ 0 ≤ (pc : Int) + o) (K : Go p e below P (T.setTop (mkF m pc' Ls st))) : Go p e below P (T.setTop (mkF m pc Ls (.int y :: .int x :: st))) :=
  Go.mv (fun _ q => XS.icmpYes X.here hx rfl (pc0 := pc) (pc' := pc') rfl hd rfl (teq h).1 hp.2 hp.1 q) K
theorem g_icmp_eq_f (X : Stand p l e R s m args below meth c T locs cells slots) (hx : p.tables.exec = Jvm.exec) {x y : Int32} {o : Int} (hd : decode c.code pc = .ok (.if_icmp .eq o, 3)) (h : ¬ x = y) (pc' : Nat) (hp : pc + 3 = pc') (K : Go p e below P (T.setTop (mkF m pc' Ls st))) : Go p e below P (T.setTop (mkF m pc Ls (.int y :: .int x :: st))) := by
  subst hp; exact Go.mv (fun _ q => XS.icmpNo X.here hx rfl hd rfl (feq h).1 q) K
theorem g_icmp_eq (X : Stand p l e R s m args below meth c T locs cells slots) (hx : p.tables.exec = Jvm.exec) {x y : Int32} {o : Int} (hd : decode c.code pc = .ok (.if_icmp .eq o, 3)) (pcT pcF : Nat) (hT : ((pc : Int) + o).toNat = pcT ∧ 0 ≤ (pc : Int) + o) (hF : pc + 3 = pcF) (KT : (x = y) → Go p e below P (T.setTop (mkF m pcT Ls st))) (KF : (¬ x = y) → Go p e below P (T.setTop (mkF m pcF Ls st))) : Go p e below P (T.setTop (mkF m pc Ls (.int y :: .int x :: st))) := by
  by_cases h : x = y
  · exact g_icmp_eq_t X hx hd h _ hT (KT h)
  · exact g_icmp_eq_f X hx hd h _ hF (KF h)
theorem g_if_eq_t (X : Stand p l e R s m args below meth c T locs cells slots) (hx : p.tables.exec = Jvm.exec) {x : Int32} {o : Int} (hd : decode c.code pc = .ok (.ifCond .eq o, 3)) (h : x = 0) (pc' : Nat) (hp : ((pc : Int) + o).toNat = pc' ∧ 0 ≤ (pc : Int) + o) (K : Go p e below P (T.setTop (mkF m pc' Ls st))) : Go p e below P (T.setTop (mkF m pc Ls (.int x :: st))) :=
  Go.mv (fun _ q => XS.ifYes X.here hx rfl (pc0 := pc) (pc' := pc') rfl hd rfl ((if0 _ _).trans (teq h).1) hp.2 hp.1 q) K
theorem g_if_eq_f (X : Stand p l e R s m args below meth c T locs cells slots) (hx : p.tables.exec = Jvm.exec) {x : Int32} {o : Int} (hd : decode c.code pc = .ok (.ifCond .eq o, 3)) (h : ¬ x = 0) (pc' : Nat) (hp : pc + 3 = pc') (K : Go p e below P (T.setTop (mkF m pc' Ls st))) : Go p e below P (T.setTop (mkF m pc Ls (.int x :: st))) := by
  subst hp; exact Go.mv (fun _ q => XS.ifNo X.here hx rfl hd rfl ((if0 _ _).trans (feq h).1) q) K
theorem g_if_eq (X : Stand p l e R s m args below meth c T locs cells slots) (hx : p.tables.exec = Jvm.exec) {x : Int32} {o : Int} (hd : decode c.code pc = .ok (.ifCond .eq o, 3)) (pcT pcF : Nat) (hT : ((pc : Int) + o).toNat = pcT ∧ 0 ≤ (pc : Int) + o) (hF : pc + 3 = pcF) (KT : (x = 0) → Go p e below P (T.setTop (mkF m pcT Ls st))) (KF : (¬ x = 0) → Go p e below P (T.setTop (mkF m pcF Ls st))) : Go p e below P (T.setTop (mkF m pc Ls (.int x :: st))) := by
  by_cases h : x = 0
  · exact g_if_eq_t X hx hd h _ hT (KT h)
  · exact g_if_eq_f X hx hd h _ hF (KF h)
theorem g_icmp_ne_t (X : Stand p l e R s m args below meth c T locs cells slots) (hx : p.tables.exec = Jvm.exec) {x y : Int32} {o : Int} (hd : decode c.code pc = .ok (.if_icmp .ne o, 3)) (h : ¬ x = y) (pc' : Nat) (hp : ((pc : Int) + o).toNat = pc' ∧ 0 ≤ (pc : Int) + o) (K : Go p e below P (T.setTop (mkF m pc' Ls st))) : Go p e below P (T.setTop (mkF m pc Ls (.int y :: .int x :: st))) :=
  Go.mv (fun _ q => XS.icmpYes X.here hx rfl (pc0 := pc) (pc' := pc') rfl hd rfl (feq h).2 hp.2 hp.1 q) K
theorem g_icmp_ne_f (X : Stand p l e R s m args below meth c T locs cells slots) (hx : p.tables.exec = Jvm.exec) {x y : Int32} {o : Int} (hd : decode c.code pc = .ok (.if_icmp .ne o, 3)) (h : x = y) (pc' : Nat) (hp : pc + 3 = pc') (K : Go p e below P (T.setTop (mkF m pc' Ls st))) : Go p e below P (T.setTop (mkF m pc Ls (.int y :: .int x :: st))) := by
  subst hp; exact Go.mv (fun _ q => XS.icmpNo X.here hx rfl hd rfl (teq h).2 q) K
theorem g_icmp_ne (X : Stand p l e R s m args below meth c T locs cells slots) (hx : p.tables.exec = Jvm.exec) {x y : Int32} {o : Int} (hd : decode c.code pc = .ok (.if_icmp .ne o, 3)) (pcT pcF : Nat) (hT : ((pc : Int) + o).toNat = pcT ∧ 0 ≤ (pc : Int) + o) (hF : pc + 3 = pcF) (KT : (¬ x = y) → Go p e below P (T.setTop (mkF m pcT Ls st))) (KF : (x = y) → Go p e below P (T.setTop (mkF m pcF Ls st))) : Go p e below P (T.setTop (mkF m pc Ls (.int y :: .int x :: st))) := by
  by_cases h : x = y
  · exact g_icmp_ne_f X hx hd h _ hF (KF h)
  · exact g_icmp_ne_t X hx hd h _ hT (KT h)
theorem g_if_ne_t (X : Stand p l e R s m args below meth c T locs cells slots) (hx : p.tables.exec = Jvm.exec) {x : Int32} {o : Int} (hd : decode c.code pc = .ok (.ifCond .ne o, 3)) (h : ¬ x = 0) (pc' : Nat) (hp : ((pc : Int) + o).toNat = pc' ∧ 0 ≤ (pc : Int) + o) (K : Go p e below P (T.setTop (mkF m pc' Ls st))) : Go p e below P (T.setTop (mkF m pc Ls (.int x :: st))) :=
  Go.mv (fun _ q => XS.ifYes X.here hx rfl (pc0 := pc) (pc' := pc') rfl hd rfl ((if0 _ _).trans (feq h).2) hp.2 hp.1 q) K
theorem g_if_ne_f (X : Stand p l e R s m args below meth c T locs cells slots) (hx : p.tables.exec = Jvm.exec) {x : Int32} {o : Int} (hd : decode c.code pc = .ok (.ifCond .ne o, 3)) (h : x = 0) (pc' : Nat) (hp : pc + 3 = pc') (K : Go p e below P (T.setTop (mkF m pc' Ls st))) : Go p e below P (T.setTop (mkF m pc Ls (.int x :: st))) := by
  subst hp; exact Go.mv (fun _ q => XS.ifNo X.here hx rfl hd rfl ((if0 _ _).trans (teq h).2) q) K
theorem g_if_ne (X : Stand p l e R s m args below meth c T locs cells slots) (hx : p.tables.exec = Jvm.exec) {x : Int32} {o : Int} (hd : decode c.code pc = .ok (.ifCond .ne o, 3)) (pcT pcF : Nat) (hT : ((pc : Int) + o).toNat = pcT ∧ 0 ≤ (pc : Int) + o) (hF : pc + 3 = pcF) (KT : (¬ x = 0) → Go p e below P (T.setTop (mkF m pcT Ls st))) (KF : (x = 0) → Go p e below P (T.setTop (mkF m pcF Ls st))) : Go p e below P (T.setTop (mkF m pc Ls (.int x :: st))) := by
  by_cases h : x = 0
  · exact g_if_ne_f X hx hd h _ hF (KF h)
  · exact g_if_ne_t X hx hd h _ hT (KT h)
theorem g_ifnull_t (X : Stand p l e R s m args below meth c T locs cells slots) (hx : p.tables.exec = Jvm.exec)  {o : Int} (hd : decode c.code pc = .ok (.ifnull o, 3)) (pc' : Nat) (hp : ((pc : Int) + o).toNat = pc' ∧ 0 ≤ (pc : Int) + o) (K : Go p e below P (T.setTop (mkF m pc' Ls st))) : Go p e below P (T.setTop (mkF m pc Ls (.null :: st))) :=
  Go.mv (fun _ q => XS.ifnullYes X.here hx rfl (pc0 := pc) (pc' := pc') rfl hd rfl hp.2 hp.1 q) K
theorem g_ifnull_f (X : Stand p l e R s m args below meth c T locs cells slots) (hx : p.tables.exec = Jvm.exec) {b : Addr} {o : Int} (hd : decode c.code pc = .ok (.ifnull o, 3)) (pc' : Nat) (hp : pc + 3 = pc') (K : Go p e below P (T.setTop (mkF m pc' Ls st))) : Go p e below P (T.setTop (mkF m pc Ls (.ref b :: st))) := by
  subst hp; exact Go.mv (fun _ q => XS.ifnullNo X.here hx rfl hd rfl q) K
theorem g_ifnonnull_t (X : Stand p l e R s m args below meth c T locs cells slots) (hx : p.tables.exec = Jvm.exec) {b : Addr} {o : Int} (hd : decode c.code pc = .ok (.ifnonnull o, 3)) (pc' : Nat) (hp : ((pc : Int) + o).toNat = pc' ∧ 0 ≤ (pc : Int) + o) (K : Go p e below P (T.setTop (mkF m pc' Ls st))) : Go p e below P (T.setTop (mkF m pc Ls (.ref b :: st))) :=
  Go.mv (fun _ q => XS.ifnonnullYes X.here hx rfl (pc0 := pc) (pc' := pc') rfl hd rfl hp.2 hp.1 q) K
theorem g_ifnonnull_f (X : Stand p l e R s m args below meth c T locs cells slots) (hx : p.tables.exec = Jvm.exec)  {o : Int} (hd : decode c.code pc = .ok (.ifnonnull o, 3)) (pc' : Nat) (hp : pc + 3 = pc') (K : Go p e below P (T.setTop (mkF m pc' Ls st))) : Go p e below P (T.setTop (mkF m pc Ls (.null :: st))) := by
  subst hp; exact Go.mv (fun _ q => XS.ifnonnullNo X.here hx rfl hd rfl q) K
theorem g_acmp (X : Stand p l e R s m args below meth c T locs cells slots) (hx : p.tables.exec = Jvm.exec) {cd : ACond} {x y : Value} (h1 : x.isRef = true) (h2 : y.isRef = true) {o : Int} (hd : decode c.code pc = .ok (.if_acmp cd o, 3)) (same : Bool) (hq : decide (x = y) = same) (pc' : Nat) (hp : (pc' = if acV cd same = true then ((pc : Int) + o).toNat else pc + 3) ∧ 0 ≤ (pc : Int) + o) (K : Go p e below P (T.setTop (mkF m pc' Ls st))) : Go p e below P (T.setTop (mkF m pc Ls (y :: x :: st))) :=
  Go.mv (fun _ q => Jvm.RoadKit.acmp (g := mkF m pc Ls (y :: x :: st)) X hx rfl h1 h2 (pc0 := pc) (pc' := pc') (same := same) rfl hd rfl hq hp.2 hp.1 q) K
end Steps
section Laws
variable {p : Program} {l : Launch} {e : Env} {R : Room} {s : State} {m : MethodId} {args : Array Value} {below : List Frame} {meth : Method} {c : Code} {T : State} {locs : List Loc} {cells slots : Nat} {P : Outcome → State → Prop} {pc : Nat} {Ls : Array Slot} {st : List Value} {Z : State} {a0 : Array Value} {h : Heap}
theorem g_getF (X : Stand p l e R s m args below meth c T locs cells slots) (hx : p.tables.exec = Jvm.exec) (hZ : Z.Warmed39 s.vm) {own R0 O n d host : String} {index : Nat} (hown : s.vm.findClass own = some m.cls) (w : (Cond.fieldLink own index R0 n d).before a0 Z = true ∨ (Cond.fieldLinkNest own index R0 n d host).before a0 Z = true) (via : Via Z R0 O n d)
    (eT : T.heap = h) {a : Addr} {v : Value} (F : Fld Z h a O n d v) (hd : decode c.code pc = .ok (.getfield index, 3)) (pc' : Nat) (hp : pc + 3 = pc')
    (K : ∀ T', Stand p l e R s m args below meth c T' locs cells slots → T'.heap = h → Go p e below P (T'.setTop (mkF m pc' Ls (v :: st)))) : Go p e below P (T.setTop (mkF m pc Ls (.ref a :: st))) := by
  subst hp
  obtain ⟨T', X', e', k⟩ := getF X hx hZ hown w via eT F (g := mkF m pc Ls (.ref a :: st)) rfl rfl hd
  exact Go.mv k (K T' X' e')
theorem g_putF (X : Stand p l e R s m args below meth c T locs cells slots) (hx : p.tables.exec = Jvm.exec) (hZ : Z.Warmed39 s.vm) {own R0 O n d host C : String} {index kk : Nat} {ty : FieldType} (hown : s.vm.findClass own = some m.cls) (w : (Cond.fieldLink own index R0 n d).before a0 Z = true ∨ (Cond.fieldLinkNest own index R0 n d host).before a0 Z = true) (via : Via Z R0 O n d)
    (eT : T.heap = h) {a : Addr} {v old : Value} (F : Fld Z h a O n d old) (E : Exa Z h a C) (L : (Cond.lays C O n d).before a0 Z = true ∨ ((Cond.laysFinal C O n d).before a0 Z = true ∧ own = O ∧ meth.name = "<init>")) (wi : (Cond.instantiable C kk).before a0 Z = true)
    (hty : parseFieldDescriptor d = some ty) (hn : narrow ty v = v) (hf : fits ty v = true) (hd : decode c.code pc = .ok (.putfield index, 3)) (pc' : Nat) (hp : pc + 3 = pc')
    (K : ∀ T' h', Stand p l e R s m args below meth c T' (locs ++ [⟨a, Jvm.RoadKit.slotOf Z O n d⟩]) cells slots → T'.heap = h' → Wr h h' a (Jvm.RoadKit.slotOf Z O n d) v → Fld Z h' a O n d v → Exa Z h' a C → Go p e below P (T'.setTop (mkF m pc' Ls st))) : Go p e below P (T.setTop (mkF m pc Ls (v :: .ref a :: st))) := by
  subst hp
  obtain ⟨T', h', X', e', W, k⟩ := putF X hx hZ hown w via eT F E L wi hty hn hf (g := mkF m pc Ls (v :: .ref a :: st)) rfl rfl hd
  exact Go.mv k (K T' h' X' e' W (F.same W) (E.wr W))
theorem g_getS (X : Stand p l e R s m args below meth c T locs cells slots) (hx : p.tables.exec = Jvm.exec) (hZ : Z.Warmed39 s.vm) {own R0 O n d host : String} {index : Nat} (hown : s.vm.findClass own = some m.cls) (w : (Cond.fieldLink own index R0 n d).before a0 Z = true ∨ (Cond.fieldLinkNest own index R0 n d host).before a0 Z = true) (via : Via Z R0 O n d)
    (eT : T.heap = h) {v : Value} (F : Sta Z h O n d v) (hd : decode c.code pc = .ok (.getstatic index, 3)) (pc' : Nat) (hp : pc + 3 = pc')
    (K : ∀ T', Stand p l e R s m args below meth c T' locs cells slots → T'.heap = h → Go p e below P (T'.setTop (mkF m pc' Ls (v :: st)))) : Go p e below P (T.setTop (mkF m pc Ls st)) := by
  subst hp
  obtain ⟨T', X', e', k⟩ := getS2 X hx hZ hown w via eT F (g := mkF m pc Ls st) rfl hd
  exact Go.mv k (K T' X' e')
theorem g_new (X : Stand p l e R s m args below meth c T locs cells slots) (hx : p.tables.exec = Jvm.exec) (hZ : Z.Warmed39 s.vm) {own C : String} {index n : Nat} (hown : s.vm.findClass own = some m.cls) (w : (Cond.classLink own index C).before a0 Z = true) (wi : (Cond.instantiable C n).before a0 Z = true) (wz : (Cond.initialized C).before a0 Z = true) (eT : T.heap = h)
    (hd : decode c.code pc = .ok (.new index, 3)) (hc : cells + 1 ≤ R.cells) (hl : slots + n ≤ R.slots) (pc' : Nat) (hp : pc + 3 = pc')
    (K : ∀ T' h' b, Stand p l e R s m args below meth c T' locs (cells + 1) (slots + n) → T'.heap = h' → Ext h h' → b = h.size → Exa Z h' b C → (∀ {O nm d : String} {ty : FieldType}, Laid Z a0 C O nm d → parseFieldDescriptor d = some ty → Fld Z h' b O nm d (defaultValue ty)) → Go p e below P (T'.setTop (mkF m pc' Ls (.ref b :: st)))) : Go p e below P (T.setTop (mkF m pc Ls st)) := by
  subst hp
  obtain ⟨T', h', X', e', E, A, D, -, k⟩ := newO X hx hZ hown w wi wz eT (g := mkF m pc Ls st) rfl hd hc hl
  exact Go.mv k (K T' h' h.size X' e' E rfl A D)
theorem g_initO (X : Stand p l e R s m args below meth c T locs cells slots) (hx : p.tables.exec = Jvm.exec) (hZ : Z.Warmed39 s.vm) {own : String} {idx : Nat} (hown : s.vm.findClass own = some m.cls) (w1 : (Cond.methodLink own idx Lib.objectInit).before a0 Z = true) (w2 : (Cond.instanceMethod Lib.objectInit).before a0 Z = true)
    (w3 : (Cond.code Lib.objectInit ⟨#[0xb1]⟩ 1 none).before a0 Z = true) (eT : T.heap = h) (hsize : Ls.size = c.maxLocals) {a : Addr} (hd : decode c.code pc = .ok (.invokespecial idx, 3)) (hf : 1 ≤ R.frames) {W : Nat} (hW : (st.map fun v => v.category).sum ≤ W) (hl : W + 12 ≤ R.locals) (pc' : Nat) (hp : pc + 3 = pc')
    (K : ∀ T', Stand p l e R s m args below meth c T' locs cells slots → T'.heap = h → Go p e below P (T'.setTop (mkF m pc' Ls st))) : Go p e below P (T.setTop (mkF m pc Ls (.ref a :: st))) := by
  subst hp
  obtain ⟨T', X', e', k⟩ := initO X hx hZ hown w1 w2 w3 eT (g := mkF m pc Ls (.ref a :: st)) rfl hsize rfl hd hf (W := W) (by show 2 * 0 + _ ≤ _; omega) hl
  exact Go.mv k (K T' X' e')
theorem g_newP (X : Stand p l e R s m args below meth c T locs cells slots) (hx : p.tables.exec = Jvm.exec) (hZ : Z.Warmed39 s.vm) {aty : ArrayType} (w : (Cond.arrayClass (newarray.typeOf aty)).before a0 Z = true) (eT : T.heap = h) (hd : decode c.code pc = .ok (.newarray aty, 2)) {n : Int32}
    (hn : ¬ n < 0) (cap : Nat) (hcap : n.toNatClampNeg ≤ cap) (hb : cap * 8 ≤ 536870912) (hc : cells + 1 ≤ R.cells) (hl : slots + cap ≤ R.slots) (pc' : Nat) (hp : pc + 2 = pc') (ty : FieldType) (hty : newarray.typeOf aty = ty) (vs : List Value) (hvs : ∀ i, vs.getD i (defaultValue ty) = defaultValue ty)
    (K : ∀ T' h' b k, Stand p l e R s m args below meth c T' locs (cells + 1) (slots + cap) → T'.heap = h' → Ext h h' → b = h.size → Arv Z h' b k ty n vs (defaultValue ty) → Go p e below P (T'.setTop (mkF m pc' Ls (.ref b :: st)))) : Go p e below P (T.setTop (mkF m pc Ls (.int n :: st))) := by
  subst hp hty
  obtain ⟨T', h', cA, X', e', E, A, k⟩ := newP X hx hZ w eT (g := mkF m pc Ls (.int n :: st)) rfl hd rfl hn hcap hb hc hl
  exact Go.mv k (K T' h' h.size cA X' e' E rfl ((Arv.new A hn).pad (fun i => by rw [hvs]; simp)))
theorem g_newR (X : Stand p l e R s m args below meth c T locs cells slots) (hx : p.tables.exec = Jvm.exec) (hZ : Z.Warmed39 s.vm) {own C : String} {index : Nat} (hown : s.vm.findClass own = some m.cls) (w1 : (Cond.classLink own index C).before a0 Z = true) (w2 : (Cond.arrayOver (.object C)).before a0 Z = true) (eT : T.heap = h) (hd : decode c.code pc = .ok (.anewarray index, 3)) {n : Int32}
    (hn : ¬ n < 0) (cap : Nat) (hcap : n.toNatClampNeg ≤ cap) (hb : cap * 8 ≤ 536870912) (hc : cells + 1 ≤ R.cells) (hl : slots + cap ≤ R.slots) (pc' : Nat) (hp : pc + 3 = pc') (vs : List Value) (hvs : ∀ i, vs.getD i Value.null = Value.null)
    (K : ∀ T' h' b k, Stand p l e R s m args below meth c T' locs (cells + 1) (slots + cap) → T'.heap = h' → Ext h h' → b = h.size → Arv Z h' b k (.object C) n vs .null → Ovr Z k C → Go p e below P (T'.setTop (mkF m pc' Ls (.ref b :: st)))) : Go p e below P (T.setTop (mkF m pc Ls (.int n :: st))) := by
  subst hp
  obtain ⟨T', h', cA, X', e', E, A, O, k⟩ := newR X hx hZ hown w1 w2 eT (g := mkF m pc Ls (.int n :: st)) rfl hd rfl hn hcap hb hc hl
  exact Go.mv k (K T' h' h.size cA X' e' E rfl ((Arv.new A hn).pad (fun i => by show _ = _; rw [show defaultValue (.object C) = Value.null from rfl, hvs]; simp)) O)
theorem set_pad {vs : List Value} {n : Nat} {dv : Value} : ∀ i, vs.getD i dv = vs.getD i dv := fun _ => rfl
theorem g_stC (X : Stand p l e R s m args below meth c T locs cells slots) (hx : p.tables.exec = Jvm.exec) (hZ : Z.Warmed39 s.vm) (eT : T.heap = h) {a : Addr} {k : ClassId} {z : Int32} {vs : List Value} {dv : Value} (V : Arv Z h a k .char z vs dv) {j : Int32} {x : Int32} (x' : Int32) (hxx : nar .char x = x') (hj : ¬ j < 0 ∧ j < z) (i : Nat) (hji : j.toNatClampNeg = i) (hi : i < vs.length) (vs' : List Value) (hvs : vs.set i (.int x') = vs') (hd : decode c.code pc = .ok (.castore, 1)) (pc' : Nat) (hp : pc + 1 = pc')
    (K : ∀ T' h', Stand p l e R s m args below meth c T' (locs ++ [⟨a, j.toNatClampNeg⟩]) cells slots → T'.heap = h' → Wr h h' a j.toNatClampNeg (.int x') → Arv Z h' a k .char z vs' dv → Go p e below P (T'.setTop (mkF m pc' Ls st))) : Go p e below P (T.setTop (mkF m pc Ls (.int x :: .int j :: .ref a :: st))) := by
  subst hp hxx hvs
  obtain ⟨cl, A, q1, S, N, H, G⟩ := V
  obtain ⟨T', h', X', e', W, kk⟩ := stC X hx hZ eT A (j := j) (inb_of S hj) (g := mkF m pc Ls (.int x :: .int j :: .ref a :: st)) rfl rfl hd
  exact Go.mv kk (K T' h' X' e' W (Arv.set A q1 S N H G (fits_nar_char _) W i hji hi))
theorem g_stB (X : Stand p l e R s m args below meth c T locs cells slots) (hx : p.tables.exec = Jvm.exec) (hZ : Z.Warmed39 s.vm) (eT : T.heap = h) {a : Addr} {k : ClassId} {z : Int32} {vs : List Value} {dv : Value} (V : Arv Z h a k .byte z vs dv) {j : Int32} {x : Int32} (x' : Int32) (hxx : nar .byte x = x') (hj : ¬ j < 0 ∧ j < z) (i : Nat) (hji : j.toNatClampNeg = i) (hi : i < vs.length) (vs' : List Value) (hvs : vs.set i (.int x') = vs') (hd : decode c.code pc = .ok (.bastore, 1)) (pc' : Nat) (hp : pc + 1 = pc')
    (K : ∀ T' h', Stand p l e R s m args below meth c T' (locs ++ [⟨a, j.toNatClampNeg⟩]) cells slots → T'.heap = h' → Wr h h' a j.toNatClampNeg (.int x') → Arv Z h' a k .byte z vs' dv → Go p e below P (T'.setTop (mkF m pc' Ls st))) : Go p e below P (T.setTop (mkF m pc Ls (.int x :: .int j :: .ref a :: st))) := by
  subst hp hxx hvs
  obtain ⟨cl, A, q1, S, N, H, G⟩ := V
  obtain ⟨T', h', X', e', W, kk⟩ := stB X hx hZ eT A (j := j) (inb_of S hj) (g := mkF m pc Ls (.int x :: .int j :: .ref a :: st)) rfl rfl hd
  exact Go.mv kk (K T' h' X' e' W (Arv.set A q1 S N H G (fits_nar_byte _) W i hji hi))
theorem g_stZ (X : Stand p l e R s m args below meth c T locs cells slots) (hx : p.tables.exec = Jvm.exec) (hZ : Z.Warmed39 s.vm) (eT : T.heap = h) {a : Addr} {k : ClassId} {z : Int32} {vs : List Value} {dv : Value} (V : Arv Z h a k .boolean z vs dv) {j : Int32} {x : Int32} (x' : Int32) (hxx : nar .boolean x = x') (hj : ¬ j < 0 ∧ j < z) (i : Nat) (hji : j.toNatClampNeg = i) (hi : i < vs.length) (vs' : List Value) (hvs : vs.set i (.int x') = vs') (hd : decode c.code pc = .ok (.bastore, 1)) (pc' : Nat) (hp : pc + 1 = pc')
    (K : ∀ T' h', Stand p l e R s m args below meth c T' (locs ++ [⟨a, j.toNatClampNeg⟩]) cells slots → T'.heap = h' → Wr h h' a j.toNatClampNeg (.int x') → Arv Z h' a k .boolean z vs' dv → Go p e below P (T'.setTop (mkF m pc' Ls st))) : Go p e below P (T.setTop (mkF m pc Ls (.int x :: .int j :: .ref a :: st))) := by
  subst hp hxx hvs
  obtain ⟨cl, A, q1, S, N, H, G⟩ := V
  obtain ⟨T', h', X', e', W, kk⟩ := stZ X hx hZ eT A (j := j) (inb_of S hj) (g := mkF m pc Ls (.int x :: .int j :: .ref a :: st)) rfl rfl hd
  exact Go.mv kk (K T' h' X' e' W (Arv.set A q1 S N H G (fits_nar_bool _) W i hji hi))
theorem g_stI (X : Stand p l e R s m args below meth c T locs cells slots) (hx : p.tables.exec = Jvm.exec) (hZ : Z.Warmed39 s.vm) (eT : T.heap = h) {a : Addr} {k : ClassId} {z : Int32} {vs : List Value} {dv : Value} (V : Arv Z h a k .int z vs dv) {j : Int32} {x : Int32} (x' : Int32) (hxx : x = x') (hj : ¬ j < 0 ∧ j < z) (i : Nat) (hji : j.toNatClampNeg = i) (hi : i < vs.length) (vs' : List Value) (hvs : vs.set i (.int x') = vs') (hd : decode c.code pc = .ok (.iastore, 1)) (pc' : Nat) (hp : pc + 1 = pc')
    (K : ∀ T' h', Stand p l e R s m args below meth c T' (locs ++ [⟨a, j.toNatClampNeg⟩]) cells slots → T'.heap = h' → Wr h h' a j.toNatClampNeg (.int x') → Arv Z h' a k .int z vs' dv → Go p e below P (T'.setTop (mkF m pc' Ls st))) : Go p e below P (T.setTop (mkF m pc Ls (.int x :: .int j :: .ref a :: st))) := by
  subst hp hxx hvs
  obtain ⟨cl, A, q1, S, N, H, G⟩ := V
  obtain ⟨T', h', X', e', W, kk⟩ := stI X hx hZ eT A (j := j) (inb_of S hj) (g := mkF m pc Ls (.int x :: .int j :: .ref a :: st)) rfl rfl hd
  exact Go.mv kk (K T' h' X' e' W (Arv.set A q1 S N H G (rfl) W i hji hi))
theorem g_stJ (X : Stand p l e R s m args below meth c T locs cells slots) (hx : p.tables.exec = Jvm.exec) (hZ : Z.Warmed39 s.vm) (eT : T.heap = h) {a : Addr} {k : ClassId} {z : Int32} {vs : List Value} {dv : Value} (V : Arv Z h a k .long z vs dv) {j : Int32} {x : Int64} (x' : Int64) (hxx : x = x') (hj : ¬ j < 0 ∧ j < z) (i : Nat) (hji : j.toNatClampNeg = i) (hi : i < vs.length) (vs' : List Value) (hvs : vs.set i (.long x') = vs') (hd : decode c.code pc = .ok (.lastore, 1)) (pc' : Nat) (hp : pc + 1 = pc')
    (K : ∀ T' h', Stand p l e R s m args below meth c T' (locs ++ [⟨a, j.toNatClampNeg⟩]) cells slots → T'.heap = h' → Wr h h' a j.toNatClampNeg (.long x') → Arv Z h' a k .long z vs' dv → Go p e below P (T'.setTop (mkF m pc' Ls st))) : Go p e below P (T.setTop (mkF m pc Ls (.long x :: .int j :: .ref a :: st))) := by
  subst hp hxx hvs
  obtain ⟨cl, A, q1, S, N, H, G⟩ := V
  obtain ⟨T', h', X', e', W, kk⟩ := stJ X hx hZ eT A (j := j) (inb_of S hj) (g := mkF m pc Ls (.long x :: .int j :: .ref a :: st)) rfl rfl hd
  exact Go.mv kk (K T' h' X' e' W (Arv.set A q1 S N H G (rfl) W i hji hi))
theorem g_stR (X : Stand p l e R s m args below meth c T locs cells slots) (hx : p.tables.exec = Jvm.exec) (hZ : Z.Warmed39 s.vm) (eT : T.heap = h) {a : Addr} {k : ClassId} {z : Int32} {C : String} {vs : List Value} {dv : Value} (V : Arv Z h a k (.object C) z vs dv) {j : Int32} {x : Value} (hr : x.isRef = true) (hs : Sto Z h a x) (hj : ¬ j < 0 ∧ j < z) (i : Nat) (hji : j.toNatClampNeg = i) (hi : i < vs.length) (vs' : List Value) (hvs : vs.set i x = vs') (hd : decode c.code pc = .ok (.aastore, 1)) (pc' : Nat) (hp : pc + 1 = pc')
    (K : ∀ T' h', Stand p l e R s m args below meth c T' (locs ++ [⟨a, j.toNatClampNeg⟩]) cells slots → T'.heap = h' → Wr h h' a j.toNatClampNeg x → Arv Z h' a k (.object C) z vs' dv → Go p e below P (T'.setTop (mkF m pc' Ls st))) : Go p e below P (T.setTop (mkF m pc Ls (x :: .int j :: .ref a :: st))) := by
  subst hp hvs
  obtain ⟨cl, A, q1, S, N, H, G⟩ := V
  obtain ⟨T', h', X', e', W, kk⟩ := stR X hx hZ eT A (j := j) (inb_of S hj) rfl hs (g := mkF m pc Ls (x :: .int j :: .ref a :: st)) rfl rfl hd
  exact Go.mv kk (K T' h' X' e' W (Arv.set A q1 S N H G (by rcases ref_cases hr with rfl | ⟨_, rfl⟩ <;> rfl) W i hji hi))
theorem g_alen (X : Stand p l e R s m args below meth c T locs cells slots) (hx : p.tables.exec = Jvm.exec) (hZ : Z.Warmed39 s.vm) (eT : T.heap = h) {a : Addr} {k : ClassId} {ty : FieldType} {z : Int32} {vs : List Value} {dv : Value} (V : Arv Z h a k ty z vs dv) (hd : decode c.code pc = .ok (.arraylength, 1)) (pc' : Nat) (hp : pc + 1 = pc')
    (K : Go p e below P (T.setTop (mkF m pc' Ls (.int z :: st)))) : Go p e below P (T.setTop (mkF m pc Ls (.ref a :: st))) := by
  subst hp
  obtain ⟨cl, A, q1, S, N, H, G⟩ := V
  refine Go.mv (X.arraylength hx (by rw [eT]; exact A.1) (State.isArrayOf_alike hZ.alike A.2.1) (g := mkF m pc Ls (.ref a :: st)) rfl rfl hd) ?_
  rw [len_of S N]; exact K
theorem g_ldC (X : Stand p l e R s m args below meth c T locs cells slots) (hx : p.tables.exec = Jvm.exec) (hZ : Z.Warmed39 s.vm) (eT : T.heap = h) {a : Addr} {k : ClassId} {z : Int32} {vs : List Value} {dv : Value} (V : Arv Z h a k .char z vs dv) {j : Int32} (hj : ¬ j < 0 ∧ j < z) (v : Int32) (hv : vs.getD j.toNatClampNeg dv = .int v) (hd : decode c.code pc = .ok (.caload, 1)) (pc' : Nat) (hp : pc + 1 = pc')
    (K : Go p e below P (T.setTop (mkF m pc' Ls (.int v :: st)))) : Go p e below P (T.setTop (mkF m pc Ls (.int j :: .ref a :: st))) := by
  subst hp
  obtain ⟨cl, A, q1, S, N, H, G⟩ := V
  exact Go.mv (X.caload hx (j := j) (v := .int v) (by rw [eT]; exact A.1) (State.isArrayOf_alike hZ.alike A.2.1)  A.2.2 (inb_of S hj) (H.at (inb_of S hj) hv) (g := mkF m pc Ls (.int j :: .ref a :: st)) rfl rfl hd) K
theorem g_ldB (X : Stand p l e R s m args below meth c T locs cells slots) (hx : p.tables.exec = Jvm.exec) (hZ : Z.Warmed39 s.vm) (eT : T.heap = h) {a : Addr} {k : ClassId} {z : Int32} {vs : List Value} {dv : Value} (V : Arv Z h a k .byte z vs dv) {j : Int32} (hj : ¬ j < 0 ∧ j < z) (v : Int32) (hv : vs.getD j.toNatClampNeg dv = .int v) (hd : decode c.code pc = .ok (.baload, 1)) (pc' : Nat) (hp : pc + 1 = pc')
    (K : Go p e below P (T.setTop (mkF m pc' Ls (.int v :: st)))) : Go p e below P (T.setTop (mkF m pc Ls (.int j :: .ref a :: st))) := by
  subst hp
  obtain ⟨cl, A, q1, S, N, H, G⟩ := V
  exact Go.mv (X.baloadBytes hx (j := j) (v := .int v) (by rw [eT]; exact A.1) (State.isArrayOf_alike hZ.alike A.2.1)  A.2.2 (inb_of S hj) (H.at (inb_of S hj) hv) (g := mkF m pc Ls (.int j :: .ref a :: st)) rfl rfl hd) K
theorem g_ldI (X : Stand p l e R s m args below meth c T locs cells slots) (hx : p.tables.exec = Jvm.exec) (hZ : Z.Warmed39 s.vm) (eT : T.heap = h) {a : Addr} {k : ClassId} {z : Int32} {vs : List Value} {dv : Value} (V : Arv Z h a k .int z vs dv) {j : Int32} (hj : ¬ j < 0 ∧ j < z) (v : Int32) (hv : vs.getD j.toNatClampNeg dv = .int v) (hd : decode c.code pc = .ok (.iaload, 1)) (pc' : Nat) (hp : pc + 1 = pc')
    (K : Go p e below P (T.setTop (mkF m pc' Ls (.int v :: st)))) : Go p e below P (T.setTop (mkF m pc Ls (.int j :: .ref a :: st))) := by
  subst hp
  obtain ⟨cl, A, q1, S, N, H, G⟩ := V
  exact Go.mv (X.iaload hx (j := j) (v := .int v) (by rw [eT]; exact A.1) (State.isArrayOf_alike hZ.alike A.2.1)  A.2.2 (inb_of S hj) (H.at (inb_of S hj) hv) (g := mkF m pc Ls (.int j :: .ref a :: st)) rfl rfl hd) K
theorem g_ldJ (X : Stand p l e R s m args below meth c T locs cells slots) (hx : p.tables.exec = Jvm.exec) (hZ : Z.Warmed39 s.vm) (eT : T.heap = h) {a : Addr} {k : ClassId} {z : Int32} {vs : List Value} {dv : Value} (V : Arv Z h a k .long z vs dv) {j : Int32} (hj : ¬ j < 0 ∧ j < z) (v : Int64) (hv : vs.getD j.toNatClampNeg dv = .long v) (hd : decode c.code pc = .ok (.laload, 1)) (pc' : Nat) (hp : pc + 1 = pc')
    (K : Go p e below P (T.setTop (mkF m pc' Ls (.long v :: st)))) : Go p e below P (T.setTop (mkF m pc Ls (.int j :: .ref a :: st))) := by
  subst hp
  obtain ⟨cl, A, q1, S, N, H, G⟩ := V
  exact Go.mv (X.laload hx (j := j) (v := .long v) (by rw [eT]; exact A.1) (State.isArrayOf_alike hZ.alike A.2.1)  A.2.2 (inb_of S hj) (H.at (inb_of S hj) hv) (g := mkF m pc Ls (.int j :: .ref a :: st)) rfl rfl hd) K
theorem g_ldR (X : Stand p l e R s m args below meth c T locs cells slots) (hx : p.tables.exec = Jvm.exec) (hZ : Z.Warmed39 s.vm) (eT : T.heap = h) {a : Addr} {k : ClassId} {z : Int32} {C : String} {vs : List Value} {dv : Value} (V : Arv Z h a k (.object C) z vs dv) {j : Int32} (hj : ¬ j < 0 ∧ j < z) (v : Value) (hv : vs.getD j.toNatClampNeg dv = v) (hd : decode c.code pc = .ok (.aaload, 1)) (pc' : Nat) (hp : pc + 1 = pc')
    (K : Go p e below P (T.setTop (mkF m pc' Ls (v :: st)))) : Go p e below P (T.setTop (mkF m pc Ls (.int j :: .ref a :: st))) := by
  subst hp
  obtain ⟨cl, A, q1, S, N, H, G⟩ := V
  exact Go.mv (X.aaload hx (j := j) (v := v) (by rw [eT]; exact A.1) (State.isArrayOf_alike hZ.alike A.2.1) rfl A.2.2 (inb_of S hj) (H.at (inb_of S hj) hv) (g := mkF m pc Ls (.int j :: .ref a :: st)) rfl rfl hd) K
theorem g_castY (X : Stand p l e R s m args below meth c T locs cells slots) (hx : p.tables.exec = Jvm.exec) (hZ : Z.Warmed39 s.vm) {own K0 : String} {index : Nat} (hown : s.vm.findClass own = some m.cls) (w : (Cond.classLink own index K0).before a0 Z = true) (eT : T.heap = h) {a : Addr} (F : Ins Z h a K0 true) (hd : decode c.code pc = .ok (.checkcast index, 3)) (pc' : Nat) (hp : pc + 3 = pc')
    (K : ∀ T', Stand p l e R s m args below meth c T' locs cells slots → T'.heap = h → Go p e below P (T'.setTop (mkF m pc' Ls (.ref a :: st)))) : Go p e below P (T.setTop (mkF m pc Ls (.ref a :: st))) := by
  subst hp
  obtain ⟨T', X', e', k⟩ := castY X hx hZ hown w eT F (g := mkF m pc Ls (.ref a :: st)) rfl rfl hd
  exact Go.mv k (K T' X' e')
theorem g_instY (X : Stand p l e R s m args below meth c T locs cells slots) (hx : p.tables.exec = Jvm.exec) (hZ : Z.Warmed39 s.vm) {own K0 : String} {index : Nat} (hown : s.vm.findClass own = some m.cls) (w : (Cond.classLink own index K0).before a0 Z = true) (eT : T.heap = h) {a : Addr} (F : Ins Z h a K0 true) (hd : decode c.code pc = .ok (.instanceof index, 3)) (pc' : Nat) (hp : pc + 3 = pc')
    (K : ∀ T', Stand p l e R s m args below meth c T' locs cells slots → T'.heap = h → Go p e below P (T'.setTop (mkF m pc' Ls (.int 1 :: st)))) : Go p e below P (T.setTop (mkF m pc Ls (.ref a :: st))) := by
  subst hp
  obtain ⟨T', X', e', k⟩ := instY X hx hZ hown w eT F (g := mkF m pc Ls (.ref a :: st)) rfl rfl hd
  exact Go.mv k (K T' X' e')
/-- a static call by a payer of the house's form -/
theorem g_callS (X : Stand p l e R s m args below meth c T locs cells slots) (hx : p.tables.exec = Jvm.exec) {own : String} {index : Nat} {y : MethodName} {bytes : ByteArray} {maxL : Nat} {ret : Option FieldType}
    (hown : s.vm.findClass own = some m.cls) (hlink : (Cond.methodLink own index y).before args s = true) (hstat : (Cond.static y).before args s = true) (hinit : (Cond.initialized y.cls).before args s = true)
    (hcode : (Cond.code y bytes maxL ret).before args s = true) (hy : y.cls ≠ "java/lang/invoke/MethodHandle" ∧ y.cls ≠ "java/lang/invoke/VarHandle")
    {W rc rs : Nat} (argsL : List Value) {Q : Option Value → Heap → List Loc → Prop} (hK : Back l R p e below s args y 3 W (fun A a => a = argsL.toArray ∧ A.U.heap = h ∧ A.cells + rc ≤ R.cells ∧ A.slots + rs ≤ R.slots) (fun A _ v B => ∃ L, Q v B.U.heap L ∧ B.locs = A.locs ++ L ∧ B.cells = A.cells + rc ∧ B.slots = A.slots + rs))
    (eT : T.heap = h) (hsize : Ls.size = c.maxLocals) (rest : List Value) (hlen : ∀ sig, parseMethodDescriptor y.desc = some sig → argsL.length = sig.parameters.length)
    (hstack : st = argsL.reverse ++ rest) (hW : (rest.map fun v => v.category).sum ≤ W) (hd : decode c.code pc = .ok (.invokestatic index, 3)) (hc : cells + rc ≤ R.cells) (hl : slots + rs ≤ R.slots) (pc' : Nat) (hp : pc + 3 = pc')
    (K : ∀ v T' L, Stand p l e R s m args below meth c T' (locs ++ L) (cells + rc) (slots + rs) → Q v T'.heap L → Go p e below P (T'.setTop (mkF m pc' Ls (v.toList ++ rest)))) : Go p e below P (T.setTop (mkF m pc Ls st)) := by
  subst hp
  obtain ⟨v, vm, ⟨T', L', k', n'⟩, -, X', ⟨Lc, hQ, l1, y1, z1⟩, k⟩ := Jvm.LawKit.callS X hx (y := y) hown hlink hstat hinit hcode hy hK (g := mkF m pc Ls st) rfl hsize (argsL := argsL) (rest := rest) hlen hstack (by show 2 * 0 + _ ≤ _; omega) hd (fun _ _ => ⟨rfl, eT, hc, hl⟩)
  dsimp only [Pt.U, Pt.locs, Pt.cells, Pt.slots] at X' l1 y1 z1 k hQ
  subst l1 y1 z1
  exact Go.mv k (K v T' Lc X' hQ)
theorem g_special (X : Stand p l e R s m args below meth c T locs cells slots) (hx : p.tables.exec = Jvm.exec) {own : String} {index : Nat} {y : MethodName} (hy1 : y.name = "<init>")
    (hown : s.vm.findClass own = some m.cls) (hlink : (Cond.methodLink own index y).before args s = true) (hinst : (Cond.instanceMethod y).before args s = true)
    {bytes : ByteArray} {maxL : Nat} (hcode : (Cond.code y bytes maxL none).before args s = true) (hy : y.cls ≠ "java/lang/invoke/MethodHandle" ∧ y.cls ≠ "java/lang/invoke/VarHandle")
    {W rc rs : Nat} {a : Addr} (argsL : List Value) {Q : Option Value → Heap → List Loc → Prop} (hK : Back l R p e below s args y 3 W (fun A b => b = (.ref a :: argsL).toArray ∧ A.U.heap = h ∧ A.cells + rc ≤ R.cells ∧ A.slots + rs ≤ R.slots) (fun A _ v B => ∃ L, Q v B.U.heap L ∧ B.locs = A.locs ++ L ∧ B.cells = A.cells + rc ∧ B.slots = A.slots + rs))
    (eT : T.heap = h) (hsize : Ls.size = c.maxLocals) (rest : List Value) (hlen : ∀ sig, parseMethodDescriptor y.desc = some sig → argsL.length = sig.parameters.length)
    (hstack : st = argsL.reverse ++ .ref a :: rest) (hW : (rest.map fun v => v.category).sum ≤ W) (hd : decode c.code pc = .ok (.invokespecial index, 3)) (hc : cells + rc ≤ R.cells) (hl : slots + rs ≤ R.slots) (pc' : Nat) (hp : pc + 3 = pc')
    (K : ∀ v T' L, Stand p l e R s m args below meth c T' (locs ++ L) (cells + rc) (slots + rs) → Q v T'.heap L → Go p e below P (T'.setTop (mkF m pc' Ls (v.toList ++ rest)))) : Go p e below P (T.setTop (mkF m pc Ls st)) := by
  subst hp
  obtain ⟨v, vm, ⟨T', L', k', n'⟩, -, X', ⟨Lc, hQ, l1, y1, z1⟩, k⟩ := X.specialBack hx (y := y) hy1 hown hlink hinst hcode hy hK (g := mkF m pc Ls st) rfl hsize (Steps.refl _) (a := a) (argsL := argsL) (rest := rest) hlen hstack (by show 2 * 0 + _ ≤ _; omega) hd (fun _ _ => ⟨rfl, eT, hc, hl⟩)
  dsimp only [Pt.U, Pt.locs, Pt.cells, Pt.slots] at X' l1 y1 z1 k hQ
  subst l1 y1 z1
  exact Go.tr k (K v T' Lc X' hQ)
theorem g_virtual (X : Stand p l e R s m args below meth c T locs cells slots) (hx : p.tables.exec = Jvm.exec) (hZ : Z.Warmed39 s.vm) {own C : String} {index : Nat} {y z : MethodName}
    (hown : s.vm.findClass own = some m.cls) (hlink : (Cond.methodLink own index y).before args s = true) (hdecl : (Cond.declares y).before args s = true) (hnf : NotFace s y)
    (hsel : (Cond.selects C y z).before args s = true) (hinst : (Cond.instanceMethod z).before args s = true) (hy : y.cls ≠ "java/lang/invoke/MethodHandle" ∧ y.cls ≠ "java/lang/invoke/VarHandle")
    {W rc rs : Nat} {a : Addr} (argsL : List Value) {Q : Option Value → Heap → List Loc → Prop} (hK : Back l R p e below s args z 3 W (fun A b => b = (.ref a :: argsL).toArray ∧ A.U.heap = h ∧ A.cells + rc ≤ R.cells ∧ A.slots + rs ≤ R.slots) (fun A _ v B => ∃ L, Q v B.U.heap L ∧ B.locs = A.locs ++ L ∧ B.cells = A.cells + rc ∧ B.slots = A.slots + rs))
    (E : Exa Z h a C) (eT : T.heap = h) (hsize : Ls.size = c.maxLocals) (rest : List Value) (hlen : ∀ sig, parseMethodDescriptor y.desc = some sig → argsL.length = sig.parameters.length)
    (hstack : st = argsL.reverse ++ .ref a :: rest) (hW : (rest.map fun v => v.category).sum ≤ W) (hd : decode c.code pc = .ok (.invokevirtual index, 3)) (hc : cells + rc ≤ R.cells) (hl : slots + rs ≤ R.slots) (pc' : Nat) (hp : pc + 3 = pc')
    (K : ∀ v T' L, Stand p l e R s m args below meth c T' (locs ++ L) (cells + rc) (slots + rs) → Q v T'.heap L → Go p e below P (T'.setTop (mkF m pc' Ls (v.toList ++ rest)))) : Go p e below P (T.setTop (mkF m pc Ls st)) := by
  subst hp
  obtain ⟨cq, kq, qa, qb, qc⟩ := isOf hZ eT E
  obtain ⟨v, vm, ⟨T', L', k', n'⟩, -, X', ⟨Lc, hQ, l1, y1, z1⟩, k⟩ := X.virtualBack hx (y := y) (z := z) hown hlink hdecl hnf hsel hinst hy hK qa qc (g := mkF m pc Ls st) rfl hsize (Steps.refl _) (argsL := argsL) (rest := rest) hlen hstack (by show 2 * 0 + _ ≤ _; omega) hd (fun _ _ => ⟨rfl, eT, hc, hl⟩)
  dsimp only [Pt.U, Pt.locs, Pt.cells, Pt.slots] at X' l1 y1 z1 k hQ
  subst l1 y1 z1
  exact Go.tr k (K v T' Lc X' hQ)
theorem g_private (X : Stand p l e R s m args below meth c T locs cells slots) (hx : p.tables.exec = Jvm.exec) (hZ : Z.Warmed39 s.vm) {own C : String} {index : Nat} {y : MethodName} {bytes : ByteArray} {maxL : Nat} {ret : Option FieldType}
    (hown : s.vm.findClass own = some m.cls) (hlink : (Cond.methodLink own index y).before args s = true) (hinst : (Cond.instanceMethod y).before args s = true) (hsel : (Cond.selects y.cls y y).before args s = true)
    (hpriv : (Cond.privateMethod y).before a0 Z = true) (hcode : (Cond.code y bytes maxL ret).before args s = true) (hy : y.cls ≠ "java/lang/invoke/MethodHandle" ∧ y.cls ≠ "java/lang/invoke/VarHandle")
    {W rc rs : Nat} {a : Addr} (argsL : List Value) {Q : Option Value → Heap → List Loc → Prop} (hK : Back l R p e below s args y 3 W (fun A b => b = (.ref a :: argsL).toArray ∧ A.U.heap = h ∧ A.cells + rc ≤ R.cells ∧ A.slots + rs ≤ R.slots) (fun A _ v B => ∃ L, Q v B.U.heap L ∧ B.locs = A.locs ++ L ∧ B.cells = A.cells + rc ∧ B.slots = A.slots + rs))
    (E : Exa Z h a C) (eT : T.heap = h) (hsize : Ls.size = c.maxLocals) (rest : List Value) (hlen : ∀ sig, parseMethodDescriptor y.desc = some sig → argsL.length = sig.parameters.length)
    (hstack : st = argsL.reverse ++ .ref a :: rest) (hW : (rest.map fun v => v.category).sum ≤ W) (hd : decode c.code pc = .ok (.invokevirtual index, 3)) (hc : cells + rc ≤ R.cells) (hl : slots + rs ≤ R.slots) (pc' : Nat) (hp : pc + 3 = pc')
    (K : ∀ v T' L, Stand p l e R s m args below meth c T' (locs ++ L) (cells + rc) (slots + rs) → Q v T'.heap L → Go p e below P (T'.setTop (mkF m pc' Ls (v.toList ++ rest)))) : Go p e below P (T.setTop (mkF m pc Ls st)) := by
  subst hp
  obtain ⟨cq, q1, q2⟩ := E.cell
  obtain ⟨v, vm, ⟨T', L', k', n'⟩, -, X', ⟨Lc, hQ, l1, y1, z1⟩, k⟩ := X.privateBack hx (y := y) hown hlink hinst hsel (Cond.privateMethod_at (mvP hZ hpriv (args := #[]))) hcode hy hK (g := mkF m pc Ls st) rfl hsize (Steps.refl _) (a := a) (by rw [eT]; exact q1) q2 (argsL := argsL) (rest := rest) hlen hstack (by show 2 * 0 + _ ≤ _; omega) hd (fun _ _ => ⟨rfl, eT, hc, hl⟩)
  dsimp only [Pt.U, Pt.locs, Pt.cells, Pt.slots] at X' l1 y1 z1 k hQ
  subst l1 y1 z1
  exact Go.tr k (K v T' Lc X' hQ)
/-- the end of a body: what it owes -/
def End (s : State) (Q : Option Value → Heap → List Loc → Prop) (C N : Nat) (o : Outcome) (t : State) : Prop := ∃ v L, o = .returned v ∧ Q v t.heap L ∧ FrameEnd s o t L C N
theorem g_ret (X : Stand p l e R s m args below meth c T locs cells slots) (hx : p.tables.exec = Jvm.exec) {t : FieldType} {v : Value} {i : Instr} (hret : meth.sig.returnType = some t) (hlocks : meth.locks = false) (hn : narrow t v = v)
    (hi : (i = .ireturn ∧ (t = .int ∨ t = .boolean ∨ t = .byte ∨ t = .char ∨ t = .short) ∧ ∃ z, v = .int z) ∨ (i = .lreturn ∧ t = .long ∧ ∃ z, v = .long z) ∨ (i = .dreturn ∧ t = .double ∧ ∃ z, v = .double z) ∨ (i = .freturn ∧ t = .float ∧ ∃ z, v = .float z) ∨ (i = .areturn ∧ t.isReference = true ∧ v.isRef = true))
    (hd : decode c.code pc = .ok (i, 1)) {Q : Option Value → Heap → List Loc → Prop} {C N : Nat} (hC : cells ≤ C) (hN : slots ≤ N) (eT : T.heap = h) (hQ : Q (some v) h locs) : Go p e below (End s Q C N) (T.setTop (mkF m pc Ls (v :: st))) := by
  obtain ⟨fs, hr, hrun, hended, hW, hsame⟩ := X.leave (v := some v) (fun h => by rw [hret] at h; cases h) hlocks
  exact ⟨_, _, retOut X hx hret hn hi hd hr, hrun, hended, _, _, rfl, by show Q _ T.heap _; rw [eT]; exact hQ, ⟨_, rfl⟩, hW, hsame.mono hC hN⟩
theorem g_retV (X : Stand p l e R s m args below meth c T locs cells slots) (hx : p.tables.exec = Jvm.exec) (hret : meth.sig.returnType = none) (hlocks : meth.locks = false)
    (hd : decode c.code pc = .ok (.return_, 1)) {Q : Option Value → Heap → List Loc → Prop} {C N : Nat} (hC : cells ≤ C) (hN : slots ≤ N) (eT : T.heap = h) (hQ : Q none h locs) : Go p e below (End s Q C N) (T.setTop (mkF m pc Ls [])) := by
  obtain ⟨fs, hr, hrun, hended, hW, hsame⟩ := X.leave (v := none) (fun _ => rfl) hlocks
  exact ⟨_, _, X.returnOut hx hret hd hr, hrun, hended, _, _, rfl, by show Q _ T.heap _; rw [eT]; exact hQ, ⟨_, rfl⟩, hW, hsame.mono hC hN⟩
end Laws
end Jvm.Own
namespace Jvm.Own
open Jvm Sem ClassFile Op Lib Jvm.Stand Jvm.Free Jvm.LawKit Jvm.RoadKit
theorem isref {v : Value} (h : v.isRef = true) : v = .null ∨ ∃ a, v = .ref a := by
  cases v <;> first | exact Or.inl rfl | exact Or.inr ⟨_, rfl⟩ | exact nomatch h
theorem mask255 (x : Int32) : (x &&& 255) = Int32.ofNat (x &&& 255).toBitVec.toNat ∧ (x &&& 255).toBitVec.toNat < 256 := by
  constructor
  · apply Int32.toBitVec_inj.mp
    show _ = BitVec.ofNat 32 _
    rw [BitVec.ofNat_toNat]; simp
  · simp only [Int32.toBitVec_and, BitVec.toNat_and]
    exact Nat.lt_succ_of_le Nat.and_le_right
theorem lat255 (x : Int32) : ¬ (x &&& 255) < 0 ∧ ¬ (255 : Int32) < (x &&& 255) := by
  have t : ∀ k : Fin 256, ¬ (Int32.ofNat k.val) < 0 ∧ ¬ (255 : Int32) < (Int32.ofNat k.val) := by decide +kernel
  obtain ⟨e, h⟩ := mask255 x
  rw [e]
  exact t ⟨_, h⟩
theorem c255 (x : Int32) : (x &&& 255).toUInt32.toUInt16.toUInt32.toInt32 = x &&& 255 := i2c_mask x
theorem nar255 (x : Int32) : nar .char (x &&& 255) = x &&& 255 := i2c_mask x
theorem narc255 (x : Int32) : nar .char ((x &&& 255).toUInt32.toUInt16.toUInt32.toInt32) = x &&& 255 := by rw [c255]; exact nar255 x
theorem mem1 {P : Int32 → Prop} {a : Int32} (ha : P a) : ∀ c ∈ ([a] : List Int32), P c := fun c hc => by cases List.mem_singleton.mp hc; exact ha
theorem mem2 {P : Int32 → Prop} {a b : Int32} (ha : P a) (hb : P b) : ∀ c ∈ ([a, b] : List Int32), P c := fun c hc => by
  simp only [List.mem_cons, List.not_mem_nil, or_false] at hc
  rcases hc with rfl | rfl
  · exact ha
  · exact hb
/-- a contract's payer -/
theorem back {p : Program} {l : Launch} {e : Env} {R : Room} {s : State} {args : Array Value} {below : List Frame} {Z : State} {a0 : Array Value} {h : Heap} {y : MethodName} {bytes : ByteArray} {maxL : Nat} {ret : Option FieldType} {rm : Room} {len W : Nat} {as' : Array Value} {Q : Option Value → Heap → List Loc → Prop}
    (hM : MetFree l y (head1 [Cond.code y bytes maxL ret] rm) (fun a U => a = as' ∧ Z.Warmed39 U.vm ∧ U.heap = h) (fun _ _ _ _ _ => True) (fun _ U o U' => End U Q rm.cells rm.slots o U'))
    (hZ : Z.Warmed39 s.vm) (wc : (Cond.code y bytes maxL ret).before a0 Z = true) (wz : (Cond.initialized y.cls).before a0 Z = true) (hf : rm.frames + 1 ≤ R.frames) (hl : W + (maxL + 11) + rm.locals ≤ R.locals) :
    Back l R p e below s args y len W (fun A a => a = as' ∧ A.U.heap = h ∧ A.cells + rm.cells ≤ R.cells ∧ A.slots + rm.slots ≤ R.slots)
      (fun A _ v B => ∃ L, Q v B.U.heap L ∧ B.locs = A.locs ++ L ∧ B.cells = A.cells + rm.cells ∧ B.slots = A.slots + rm.slots) := backOf (Q := Q) hM hZ wc wz hf hl
end Jvm.Own
namespace Jvm.Own
open Jvm Sem ClassFile Op Lib Jvm.Stand Jvm.Free Jvm.LawKit Jvm.RoadKit
/-- what equals leaves -/
def QEq (h : Heap) (cs ds : List Int32) (v : Option Value) (h' : Heap) (L : List Loc) : Prop := ((v = some (.int 1) ∧ cs = ds) ∨ (v = some (.int 0) ∧ ¬ cs = ds)) ∧ L = [] ∧ h' = h
/-- a value, the heap as it was -/
def QVal (h : Heap) (r : Value) (v : Option Value) (h' : Heap) (L : List Loc) : Prop := v = some r ∧ L = [] ∧ h' = h
section Start
variable {s : State} {args : Array Value}
theorem start_len {t : Term} {a : Addr} {cl : Cell} {n : Int32} (h : (Cond.eq (Term.length t) (Term.int n)).value args s none s [] = some true) (ht : t.eval args s none [] s = some (.ref a)) (hc : s.heap[a]? = some cl) : cl.slots.size < 2 ^ 31 ∧ cl.slots.size.toInt32 = n := by
  obtain ⟨x, y, e1, e2, -, -⟩ := cmp_v (Or.inl h)
  obtain ⟨a', c', q1, q2, rfl⟩ := Term.length_spec e1
  cases ht.symm.trans q1
  cases hc.symm.trans (State.arrayAt?_spec q2).1
  have e3 := gotT (Cond.eq_ints e1 (Term.int_eval n)) h
  refine ⟨?_, e3⟩
  simp only [Term.eval, ht, q2, Option.bind_eq_bind, Option.bind_some] at e1
  split at e1
  · assumption
  · cases e1
theorem start_elem {t u : Term} {a : Addr} {cl : Cell} {i : Int32} {v : Value} (h : (Cond.eq (Term.elem t (Term.int i)) u).value args s none s [] = some true) (ht : t.eval args s none [] s = some (.ref a)) (hc : s.heap[a]? = some cl) (hu : u.eval args s none [] s = some v) : cl.slots[i.toNatClampNeg]? = some v := by
  obtain ⟨x, y, e1, e2, -, -⟩ := cmp_v (Or.inl h)
  cases hu.symm.trans e2
  have e3 := (elem_in e1 ht (Term.int_eval i) hc).2
  have e4 : x = v := by
    simp only [Cond.value, e1, e2] at h
    cases x <;> cases v <;> simp_all
  rw [e3, e4]
theorem start_int {t : Term} {n : Int32} (h : (Cond.eq t (Term.int n)).value args s none s [] = some true) : t.eval args s none [] s = some (.int n) := by
  obtain ⟨x, y, e1, e2, -, -⟩ := cmp_v (Or.inl h)
  cases (Term.int_eval n).symm.trans e2
  simp only [Cond.value, e1, e2] at h
  cases x <;> simp_all
theorem start_arv (hf : Fit s) {t : Term} {a : Addr} {ty : FieldType} (ha : (Cond.arrayOf t ty).value args s none s [] = some true) (ht : t.eval args s none [] s = some (.ref a)) {n : Int32} (hl : (Cond.eq (Term.length t) (Term.int n)).value args s none s [] = some true) (hn : ¬ n < 0) (vs : List Value) (hvl : n.toNatClampNeg = vs.length)
    (H : ∀ cl, s.heap[a]? = some cl → HasL cl 0 vs) (dv : Value) : ∃ k, Arv s s.heap a k ty n vs dv := by
  obtain ⟨cl, A⟩ := Arr.start ht ha
  obtain ⟨q1, q2⟩ := start_len hl ht A.1
  exact ⟨_, Arv.start hf A q1 q2 hn hvl (H cl A.1)⟩
theorem start_all {t : Term} {a : Addr} {cl : Cell} {n v : Int32} (h : (Cond.all t (Cond.or (Cond.le (Term.int n) (Term.index 0)) (Cond.eq (Term.elem t (Term.index 0)) (Term.int v)))).value args s none s [] = some true) {N : Int32} (hl : (Cond.eq (Term.length t) (Term.int N)).value args s none s [] = some true) (ht : t.eval args s none [] s = some (.ref a)) (hc : s.heap[a]? = some cl) (i : Nat) (ht' : t.eval args s none [i] s = some (.ref a)) (hiN : i < N.toNatClampNeg) (hn : ¬ n ≤ i.toInt32) (hv : i.toInt32.toNatClampNeg = i) (hi0 : ¬ i.toInt32 < 0) : cl.slots[i]? = some (.int v) := by
  obtain ⟨b1, b2⟩ := start_len hl ht hc
  have hi : i < cl.slots.size := by
    rw [← b2] at hiN
    have e : (cl.slots.size.toInt32).toNatClampNeg = cl.slots.size := by show (Int32.ofNat cl.slots.size).toInt.toNat = _; rw [Int32.toInt_ofNat_of_lt b1]; rfl
    rwa [e] at hiN
  have ha : s.arrayAt? a = some cl := by
    obtain ⟨x, y, e1, e2, -, -⟩ := cmp_v (Or.inl hl)
    obtain ⟨a', c', q1, q2, -⟩ := Term.length_spec e1
    cases ht.symm.trans q1
    cases hc.symm.trans (State.arrayAt?_spec q2).1
    exact q2
  simp only [Cond.value, ht, ha] at h
  have key : ∀ (l : List Nat) (f : Nat → Option Bool) (acc : Option Bool), l.foldl (fun acc i => match acc with | some true => f i | x => x) acc = some true → acc = some true ∧ ∀ i ∈ l, f i = some true := by
    intro l f
    induction l with
    | nil => intro acc h; exact ⟨h, fun _ hi => by cases hi⟩
    | cons j r ih =>
      intro acc h
      rw [List.foldl_cons] at h
      obtain ⟨h1, h2⟩ := ih _ h
      cases acc with
      | none => cases h1
      | some b =>
        cases b
        · cases h1
        · exact ⟨rfl, fun i hi => by rcases List.mem_cons.mp hi with rfl | hi; exact h1; exact h2 i hi⟩
  have q := (key _ _ _ h).2 i (List.mem_range.mpr hi)
  simp [Term.eval, hn, ht', ha] at q
  rw [if_neg hi0, hv] at q
  cases hs : cl.slots[i]? with
  | none => rw [hs] at q; cases q
  | some x => rw [hs] at q; cases x <;> simp at q; rw [q]
end Start
section Copy
variable {p : Program} {l : Launch} {e : Env} {R : Room} {s : State} {m : MethodId} {args : Array Value} {below : List Frame} {meth : Method} {c : Code} {T : State} {locs : List Loc} {cells slots : Nat} {P : Outcome → State → Prop} {pc : Nat} {Ls : Array Slot} {st : List Value} {Z : State} {a0 : Array Value} {h : Heap}
theorem g_cpA (X : Stand p l e R s m args below meth c T locs cells slots) (hx : p.tables.exec = Jvm.exec) (hZ : Z.Warmed39 s.vm) {own : String} {index : Nat} (hown : s.vm.findClass own = some m.cls)
    (w1 : (Cond.methodLink own index Jvm.Stand.acN).before a0 Z = true) (w2 : (Cond.native Jvm.Stand.acN).before a0 Z = true) (w3 : (Cond.static Jvm.Stand.acN).before a0 Z = true) (w4 : (Cond.initialized "java/lang/System").before a0 Z = true) (eT : T.heap = h)
    {a b : Addr} {k k' : ClassId} {ty ty' : FieldType} {z z' sp dp nn : Int32} {vs vd : List Value} {dv dd : Value} (A : Arv Z h a k ty z vs dv) (B : Arv Z h b k' ty' z' vd dd) (us : List Value) (hty : (ty = ty' ∧ refKind ty = false) ∨ (refKind ty = true ∧ refKind ty' = true ∧ StoL Z h b us))
    (h1 : ¬ sp < 0) (h2 : ¬ dp < 0) (h3 : ¬ nn < 0) (h4 : sp.toNatClampNeg + nn.toNatClampNeg ≤ z.toNatClampNeg) (h5 : dp.toNatClampNeg + nn.toNatClampNeg ≤ z'.toNatClampNeg)
    (hus : us = (List.range nn.toNatClampNeg).map fun i => vs.getD (sp.toNatClampNeg + i) dv) (hl : dp.toNatClampNeg + nn.toNatClampNeg ≤ vd.length) {n0 : Nat} (N : Fr n0 locs) (ge : n0 ≤ b) (vd' : List Value) (hvd : vd.take dp.toNatClampNeg ++ us ++ vd.drop (dp.toNatClampNeg + nn.toNatClampNeg) = vd')
    (hsize : Ls.size = c.maxLocals) (hd : decode c.code pc = .ok (.invokestatic index, 3)) (hf : 1 ≤ R.frames) {W : Nat} (hW : (st.map fun v => v.category).sum ≤ W) (hlo : W + (nativeFrameWords "java/lang/System" "arraycopy" 5 + 11) ≤ R.locals) (pc' : Nat) (hp : pc + 3 = pc')
    (K : ∀ T' h' L, Stand p l e R s m args below meth c T' L cells slots → T'.heap = h' → Fr n0 L → Keep h h' [b] → Arv Z h' b k' ty' z' vd' dd → Go p e below P (T'.setTop (mkF m pc' Ls st))) : Go p e below P (T.setTop (mkF m pc Ls (.int nn :: .int dp :: .ref b :: .int sp :: .ref a :: st))) := by
  subst hp hvd
  obtain ⟨T', h', L, X', e', N', K', V', k⟩ := cpA X hx hZ hown w1 w2 w3 w4 eT A B hty h1 h2 h3 h4 h5 hus hl N ge (g := mkF m pc Ls (.int nn :: .int dp :: .ref b :: .int sp :: .ref a :: st)) rfl hsize (rest := st) rfl hd hf (W := W) (by show 2 * 0 + _ ≤ _; omega) hlo
  exact Go.mv k (K T' h' L X' e' N' K' V')
end Copy
section Clone
variable {p : Program} {l : Launch} {e : Env} {R : Room} {s : State} {m : MethodId} {args : Array Value} {below : List Frame} {meth : Method} {c : Code} {T : State} {locs : List Loc} {cells slots : Nat} {P : Outcome → State → Prop} {pc : Nat} {Ls : Array Slot} {st : List Value} {Z : State} {a0 : Array Value} {h : Heap}
theorem g_clone (X : Stand p l e R s m args below meth c T locs cells slots) (hx : p.tables.exec = Jvm.exec) (hZ : Z.Warmed39 s.vm) {own ad : String} {index : Nat} (hown : s.vm.findClass own = some m.cls)
    (w1 : (Cond.methodLink own index ⟨ad, "clone", "()Ljava/lang/Object;"⟩).before a0 Z = true) (w2 : (Cond.sameMethod ad "java/lang/Object" "clone" "()Ljava/lang/Object;").before a0 Z = true) (w3 : (Cond.native ⟨"java/lang/Object", "clone", "()Ljava/lang/Object;"⟩).before a0 Z = true)
    (w4 : (Cond.instanceMethod ⟨"java/lang/Object", "clone", "()Ljava/lang/Object;"⟩).before a0 Z = true) (w5 : (Cond.selects ad ⟨ad, "clone", "()Ljava/lang/Object;"⟩ ⟨"java/lang/Object", "clone", "()Ljava/lang/Object;"⟩).before a0 Z = true) (w6 : (Cond.castable ad "java/lang/Cloneable").before a0 Z = true)
    (eT : T.heap = h) {a : Addr} {ty : FieldType} {k : ClassId} {z : Int32} {vs : List Value} {dv : Value} (F : Arv Z h a k ty z vs dv) (E : Exa Z h a ad) (hsize : Ls.size = c.maxLocals) (hd : decode c.code pc = .ok (.invokevirtual index, 3))
    (hf : 1 ≤ R.frames) {W : Nat} (cap : Nat) (hW : (st.map fun v => v.category).sum ≤ W) (hl : W + 14 ≤ R.locals) (hcap : z.toNatClampNeg ≤ cap) (hc : cells + 1 ≤ R.cells) (hsl : slots + cap ≤ R.slots) (pc' : Nat) (hp : pc + 3 = pc')
    (K : ∀ T' h' b, Stand p l e R s m args below meth c T' locs (cells + 1) (slots + cap) → T'.heap = h' → Ext h h' → b = h.size → Arv Z h' b k ty z vs dv → Exa Z h' b ad → Go p e below P (T'.setTop (mkF m pc' Ls (.ref b :: st)))) : Go p e below P (T.setTop (mkF m pc Ls (.ref a :: st))) := by
  subst hp
  obtain ⟨T', h', X', e', E', V', A', k'⟩ := cloneH X hx hZ hown w1 w2 w3 w4 w5 w6 eT F.arh E (g := mkF m pc Ls (.ref a :: st)) rfl hsize rfl hd hf (W := W) (cap := cap) (by show 2 * 0 + _ ≤ _; omega) hl hcap hc hsl
  exact Go.mv k' (K T' h' h.size X' e' E' rfl V' A')
theorem g_ldcI (X : Stand p l e R s m args below meth c T locs cells slots) (hx : p.tables.exec = Jvm.exec) {own : String} {index : Nat} {v : Int32} (hown : s.vm.findClass own = some m.cls) (hconst : (Cond.constant own index v).before args s = true) (hd : decode c.code pc = .ok (.ldc index, 2)) (pc' : Nat) (hp : pc + 2 = pc')
    (K : Go p e below P (T.setTop (mkF m pc' Ls (.int v :: st)))) : Go p e below P (T.setTop (mkF m pc Ls st)) := by
  subst hp
  exact Go.mv (fun t q => X.ldcInt hx hown hconst (g := mkF m pc Ls st) rfl hd t q) K
theorem g_ldc2J (X : Stand p l e R s m args below meth c T locs cells slots) (hx : p.tables.exec = Jvm.exec) {own : String} {index : Nat} {v : Int64} (hown : s.vm.findClass own = some m.cls) (hconst : (Cond.constantLong own index v).before args s = true) (hd : decode c.code pc = .ok (.ldc2_w index, 3)) (pc' : Nat) (hp : pc + 3 = pc')
    (K : Go p e below P (T.setTop (mkF m pc' Ls (.long v :: st)))) : Go p e below P (T.setTop (mkF m pc Ls st)) := by
  subst hp
  exact Go.mv (fun t q => X.ldc2Long hx hown hconst (g := mkF m pc Ls st) rfl hd t q) K
theorem g_instNo (X : Stand p l e R s m args below meth c T locs cells slots) (hx : p.tables.exec = Jvm.exec) (hZ : Z.Warmed39 s.vm) {own K0 C : String} {index : Nat} (hown : s.vm.findClass own = some m.cls) (w : (Cond.classLink own index K0).before a0 Z = true) (eT : T.heap = h) {a : Addr} (E : Exa Z h a C) (F : ∃ c t, Z.vm.findClass C = some c ∧ Z.vm.findClass K0 = some t ∧ Z.vm.assignable c t = false) (hd : decode c.code pc = .ok (.instanceof index, 3)) (pc' : Nat) (hp : pc + 3 = pc')
    (K : ∀ T', Stand p l e R s m args below meth c T' locs cells slots → T'.heap = h → Go p e below P (T'.setTop (mkF m pc' Ls (.int 0 :: st)))) : Go p e below P (T.setTop (mkF m pc Ls (.ref a :: st))) := by
  subst hp
  obtain ⟨T', X', e', k⟩ := instNo X hx hZ hown w eT E F (g := mkF m pc Ls (.ref a :: st)) rfl rfl hd
  exact Go.mv k (K T' X' e')
theorem g_instNull (X : Stand p l e R s m args below meth c T locs cells slots) (hx : p.tables.exec = Jvm.exec) {index : Nat} (hd : decode c.code pc = .ok (.instanceof index, 3)) (pc' : Nat) (hp : pc + 3 = pc')
    (K : Go p e below P (T.setTop (mkF m pc' Ls (.int 0 :: st)))) : Go p e below P (T.setTop (mkF m pc Ls (.null :: st))) := by
  subst hp
  exact Go.mv (fun t q => X.instanceofNull hx (g := mkF m pc Ls (.null :: st)) rfl rfl hd t q) K
/-- an object of C (whose superclass is Object) is no K -/
theorem notSub {C O K0 : String} {n : Nat} (w : (Cond.superclass C O).before a0 Z = true) (wo : (Cond.noSuperclass O).before a0 Z = true) (wk : (Cond.instantiable K0 n).before a0 Z = true) (hn : C ≠ K0) (ho : O ≠ K0) : ∃ c t, Z.vm.findClass C = some c ∧ Z.vm.findClass K0 = some t ∧ Z.vm.assignable c t = false := by
  obtain ⟨t, k', g0, g2, g5, g7, -⟩ := Cond.instantiable_spec wk
  obtain ⟨c, h0⟩ := found_sup w
  obtain ⟨p0, k, kp, h1, h2, h3, h4, h5, -, h7⟩ := Cond.superclass_spec h0 w
  obtain ⟨cO, kO, i1, i2, i3, -, -⟩ := Cond.noSuperclass_spec wo
  cases h1.symm.trans i1
  have ne := ids_ne h0 g0 hn
  have ne2 := ids_ne h1 g0 ho
  have g8 : k'.isInterface = false := by cases hq : k'.isInterface <;> simp [hq] at g7 ⊢
  refine ⟨c, t, h0, g0, ?_⟩
  show Z.vm.assignableAux (255 + 1) c t = false
  have n3 : ∀ fuel, Z.vm.isSubclassAux fuel c t = false := fun fuel => by
    cases fuel with
    | zero => rfl
    | succ f =>
      have : Z.vm.isSubclassAux f p0 t = false := by
        cases f with
        | zero => rfl
        | succ f => simp [Vm.isSubclassAux, ne2, i2, i3]
      simp [Vm.isSubclassAux, ne, h2, h4, this]
  simp [Vm.assignableAux, ne, h2, g2, h5, g5, g8, Vm.isSubclass, n3]
end Clone
end Jvm.Own
namespace Jvm.Own
open Jvm Sem ClassFile Op Lib Jvm.Stand Jvm.Free Jvm.LawKit Jvm.RoadKit
/-- a sign of Latin-1 -/
abbrev Lat (x : Int32) : Prop := ¬ x < 0 ∧ ¬ (255 : Int32) < x
theorem Lat.nat {x : Int32} (h : Lat x) : ∃ k : Fin 256, x = Int32.ofNat k.val := by
  obtain ⟨h1, h2⟩ := h
  rw [Int32.lt_iff_toInt_lt] at h1 h2
  have e0 : (0 : Int32).toInt = 0 := rfl
  have e1 : (255 : Int32).toInt = 255 := rfl
  refine ⟨⟨x.toInt.toNat, by omega⟩, ?_⟩
  rw [← Int32.toInt_inj]
  show x.toInt = (Int32.ofNat x.toInt.toNat).toInt
  rw [Int32.toInt_ofNat_of_lt (by omega)]; omega
theorem lat_case {P : Int32 → Prop} (t : ∀ k : Fin 256, P (Int32.ofNat k.val)) {x : Int32} (h : Lat x) : P x := by
  obtain ⟨k, rfl⟩ := h.nat; exact t k
theorem lat255c (x : Int32) : Lat ((x &&& 255).toUInt32.toUInt16.toUInt32.toInt32) := by rw [c255]; exact lat255 x
theorem nar_lat {x : Int32} (h : Lat x) : nar .char x = x := lat_case (P := fun x => nar .char x = x) (by decide +kernel) h
theorem i2c_lat {x : Int32} (h : Lat x) : x.toUInt32.toUInt16.toUInt32.toInt32 = x := nar_lat h
theorem narrow_lat {x : Int32} (h : Lat x) : narrow .char (.int x) = .int x := congrArg Value.int (nar_lat h)
theorem lo_lat {x : Int32} (h : Lat x) : x.toInt8.toInt32 &&& 255 = x := lat_case (P := fun x => x.toInt8.toInt32 &&& 255 = x) (by decide +kernel) h
theorem narrow_if (P : Prop) [Decidable P] : narrow .boolean (.int (if P then 1 else 0)) = .int (if P then 1 else 0) := by split <;> rfl
theorem lat_up {cs : List Int32} (h : ∀ c ∈ cs, Lat c) : ∀ c ∈ cs, ¬ c < 0 ∧ ¬ (65535 : Int32) < c := fun c hc => ⟨(h c hc).1, fun q => (h c hc).2 (by rw [Int32.lt_iff_toInt_lt] at q ⊢; have e1 : (65535 : Int32).toInt = 65535 := rfl; have e2 : (255 : Int32).toInt = 255 := rfl; omega)⟩
theorem lat_xor1 (a b : Int32) (h : Lat a) : Lat ((a ^^^ (b &&& 1)).toUInt32.toUInt16.toUInt32.toInt32) := by
  have t : ∀ k : Fin 256, Lat ((Int32.ofNat k.val ^^^ 0).toUInt32.toUInt16.toUInt32.toInt32) ∧ Lat ((Int32.ofNat k.val ^^^ 1).toUInt32.toUInt16.toUInt32.toInt32) := by decide +kernel
  obtain ⟨k, rfl⟩ := h.nat
  rcases and_one b with e | e <;> rw [e]
  · exact (t k).1
  · exact (t k).2
theorem len12 (x : Int32) : (1 : Int32) + (x &&& 1) = 1 ∨ (1 : Int32) + (x &&& 1) = 2 := by
  rcases and_one x with e | e <;> rw [e]
  · exact Or.inl rfl
  · exact Or.inr rfl
theorem if1_ne {P : Prop} [Decidable P] (h : ¬ (if P then (1 : Int32) else 0) = 0) : P := by
  by_cases q : P
  · exact q
  · rw [if_neg q] at h; exact absurd rfl h
theorem if1_eq {P : Prop} [Decidable P] (h : (if P then (1 : Int32) else 0) = 0) : ¬ P := fun q => by rw [if_pos q] at h; exact absurd h (by decide)
end Jvm.Own
namespace Jvm.Own
open Jvm Sem ClassFile Op Lib Jvm.Stand Jvm.Free Jvm.LawKit Jvm.RoadKit
theorem nar_b (x : Int32) : nar .byte x.toInt8.toInt32 = x.toInt8.toInt32 := by show x.toInt8.toInt32.toInt8.toInt32 = _; rw [Int8.toInt8_toInt32]
end Jvm.Own
namespace Jvm.Own
open Jvm Sem ClassFile Op Lib Jvm.Stand Jvm.Free Jvm.LawKit Jvm.RoadKit
theorem mask31 (x : Int32) : ¬ (x &&& 2147483647) < 0 := fun q => absurd ((XT.and_neg32 x 2147483647).mp q).2 (by decide)
theorem mod_lt (x m : Int32) (hx : ¬ x < 0) (hm : 0 < m.toInt) : 0 ≤ (x % m).toInt ∧ (x % m).toInt < m.toInt := by
  rw [Int32.lt_iff_toInt_lt] at hx
  have e0 : (0 : Int32).toInt = 0 := rfl
  rw [Int32.toInt_mod]
  exact ⟨Int.tmod_nonneg _ (by omega), Int.tmod_lt_of_pos _ hm⟩
theorem mod3 (x : Int32) : (x &&& 2147483647) % 3 = 0 ∨ (x &&& 2147483647) % 3 = 1 ∨ (x &&& 2147483647) % 3 = 2 := by
  obtain ⟨h1, h2⟩ := mod_lt (x &&& 2147483647) 3 (mask31 x) (by decide)
  generalize (x &&& 2147483647) % 3 = y at *
  have e3 : (3 : Int32).toInt = 3 := rfl
  have : y.toInt = 0 ∨ y.toInt = 1 ∨ y.toInt = 2 := by omega
  rcases this with h | h | h
  · exact Or.inl (Int32.toInt_inj.mp (h.trans rfl))
  · exact Or.inr (Or.inl (Int32.toInt_inj.mp (h.trans rfl)))
  · exact Or.inr (Or.inr (Int32.toInt_inj.mp (h.trans rfl)))
theorem mod5 (x : Int32) : (x &&& 2147483647) % 5 = 0 ∨ (x &&& 2147483647) % 5 = 1 ∨ (x &&& 2147483647) % 5 = 2 ∨ (x &&& 2147483647) % 5 = 3 ∨ (x &&& 2147483647) % 5 = 4 := by
  obtain ⟨h1, h2⟩ := mod_lt (x &&& 2147483647) 5 (mask31 x) (by decide)
  generalize (x &&& 2147483647) % 5 = y at *
  have e3 : (5 : Int32).toInt = 5 := rfl
  have : y.toInt = 0 ∨ y.toInt = 1 ∨ y.toInt = 2 ∨ y.toInt = 3 ∨ y.toInt = 4 := by omega
  rcases this with h | h | h | h | h
  · exact Or.inl (Int32.toInt_inj.mp (h.trans rfl))
  · exact Or.inr (Or.inl (Int32.toInt_inj.mp (h.trans rfl)))
  · exact Or.inr (Or.inr (Or.inl (Int32.toInt_inj.mp (h.trans rfl))))
  · exact Or.inr (Or.inr (Or.inr (Or.inl (Int32.toInt_inj.mp (h.trans rfl)))))
  · exact Or.inr (Or.inr (Or.inr (Or.inr (Int32.toInt_inj.mp (h.trans rfl)))))
end Jvm.Own
namespace Jvm.Own
open Jvm Sem ClassFile Op Lib Jvm.Stand Jvm.Free Jvm.LawKit Jvm.RoadKit
theorem mem3 {P : Int32 → Prop} {a b c : Int32} (ha : P a) (hb : P b) (hc : P c) : ∀ x ∈ ([a, b, c] : List Int32), P x := fun x hx => by
  simp only [List.mem_cons, List.not_mem_nil, or_false] at hx
  rcases hx with rfl | rfl | rfl
  · exact ha
  · exact hb
  · exact hc
theorem mem4 {P : Int32 → Prop} {a b c d : Int32} (ha : P a) (hb : P b) (hc : P c) (hd : P d) : ∀ x ∈ ([a, b, c, d] : List Int32), P x := fun x hx => by
  simp only [List.mem_cons, List.not_mem_nil, or_false] at hx
  rcases hx with rfl | rfl | rfl | rfl
  · exact ha
  · exact hb
  · exact hc
  · exact hd
theorem and3 (x : Int32) : x &&& 3 = 0 ∨ x &&& 3 = 1 ∨ x &&& 3 = 2 ∨ x &&& 3 = 3 := by
  have h : (x &&& 3).toBitVec.toNat < 4 := by
    simp only [Int32.toBitVec_and, BitVec.toNat_and]
    exact Nat.lt_succ_of_le Nat.and_le_right
  have e : (x &&& 3) = Int32.ofNat (x &&& 3).toBitVec.toNat := by
    apply Int32.toBitVec_inj.mp
    show _ = BitVec.ofNat 32 _
    rw [BitVec.ofNat_toNat]; simp
  have t : ∀ k : Fin 4, Int32.ofNat k.val = 0 ∨ Int32.ofNat k.val = 1 ∨ Int32.ofNat k.val = 2 ∨ Int32.ofNat k.val = 3 := by decide
  rw [e]; exact t ⟨_, h⟩
end Jvm.Own
namespace Jvm.Own
open Jvm.FP.Core
/-- the least double's weight, as a number of which nothing is known but that it is 2^1074 -/
def UN : Nat := 2 ^ 1074
theorem UN_pos : 0 < UN := Nat.two_pow_pos _
theorem UN_eq : (2 : Nat) ^ (-b64.qmin).toNat = UN := by rw [qmin_b64]; rfl
theorem UN_split {k : Nat} (h : k ≤ 1074) : UN = 2 ^ (1074 - k) * 2 ^ k := by unfold UN; rw [← Nat.pow_add]; congr 1; omega
/-- a double's value in units of the least double -/
def zv (a : UInt64) : Int := zval b64 (val64 a)
theorem zv_whole {i : Int} {a : UInt64} (h : DInt i a) : zv a = i * (UN : Int) ∧ DFin a := by
  unfold DInt at h
  unfold zv
  have hf := val64_fits a
  cases hv : val64 a with
  | nan => rw [hv] at h; exact h.elim
  | inf s => rw [hv] at h; exact h.elim
  | fin s c q =>
    rw [hv] at h hf
    have := whole_units h (e := b64.qmin) hf.2.1
    rw [UN_eq, show b64.qmin.toNat = 0 by rw [qmin_b64]; rfl] at this
    refine ⟨?_, s, c, q, hv⟩
    show signed s (inUnits c q b64.qmin) = _
    simpa using this
theorem DFin.nn {a : UInt64} (h : DFin a) : val64 a ≠ .nan := by obtain ⟨s, c, q, e⟩ := h; rw [e]; exact Datum.noConfusion
theorem dcmp_zv {a b : UInt64} (ha : val64 a ≠ .nan) (hb : val64 b ≠ .nan) : dcmp a b = some (compare (zv a) (zv b)) := order_zval good_b64 (val64_fits a) (val64_fits b) ha hb
/-- what lies between two numbers of the format rounds to something between them -/
def Vd (v : Int) : Type := { d : Datum // Jvm.FP.Core.fits b64 d ∧ (∃ s c q, d = .fin s c q) ∧ zval b64 d = v }
def Vd.d {v : Int} (V : Vd v) : Datum := V.1
theorem Vd.fit {v : Int} (V : Vd v) : Jvm.FP.Core.fits b64 V.d := V.2.1
theorem Vd.fin {v : Int} (V : Vd v) : ∃ s c q, V.d = .fin s c q := V.2.2.1
theorem Vd.val {v : Int} (V : Vd v) : zval b64 V.d = v := V.2.2.2
theorem Vd.nn {v : Int} (V : Vd v) : V.d ≠ .nan := by obtain ⟨s, c, q, e⟩ := V.fin; rw [e]; exact Datum.noConfusion
theorem mkVd (c : Int) (k : Nat) (hc : c.natAbs < 2 ^ 53) (hk : k ≤ 1074) : Nonempty (Vd (c * ((2 ^ (1074 - k) : Nat) : Int))) := by
  obtain ⟨c', q', h1, h2⟩ := round_exact good_b64 (decide (c < 0)) (c := c.natAbs) (q := -(k : Int)) hc (by rw [qmin_b64]; omega) (by rw [show b64.qmax = 971 from by decide]; omega)
  refine ⟨⟨_, round_fits good_b64 (.fin (decide (c < 0)) c.natAbs (-(k : Int))), ⟨_, _, _, h1⟩, ?_⟩⟩
  rw [h1]
  show signed (decide (c < 0)) (inUnits c' q' b64.qmin) = _
  rw [h2]
  unfold inUnits
  rw [show (-(k : Int) - b64.qmin).toNat = 1074 - k by rw [qmin_b64]; omega, signed_mul]
  congr 1
  unfold signed
  by_cases h : c < 0 <;> simp [h] <;> omega
theorem wholeVd {i : Int} {a : UInt64} (h : DInt i a) : Nonempty (Vd (i * (UN : Int))) :=
  ⟨⟨val64 a, val64_fits a, (zv_whole h).2, (zv_whole h).1⟩⟩
/-- the quotient of two whole numbers -/
theorem ddiv_whole {i j : Int} {a b : UInt64} (ha : DInt i a) (hb : DInt j b) (hj : 0 < j) :
    ∃ s, (i ≠ 0 → s = decide (i < 0)) ∧ val64 (ddiv a b) = roundRatio b64 s i.natAbs j.natAbs 0 := by
  rw [val64_ddiv]
  unfold DInt at ha hb
  cases hx : val64 a with
  | nan => rw [hx] at ha; exact ha.elim
  | inf s => rw [hx] at ha; exact ha.elim
  | fin s c q =>
    cases hy : val64 b with
    | nan => rw [hy] at hb; exact hb.elim
    | inf s => rw [hy] at hb; exact hb.elim
    | fin t d r =>
      rw [hx] at ha; rw [hy] at hb
      have ht : t = false := by rw [whole_sign hb (by omega)]; simp; omega
      have hd : d ≠ 0 := fun q => by have := (whole_zero hb).mp q; omega
      refine ⟨s, fun hi => whole_sign ha hi, ?_⟩
      show (if d = 0 then _ else roundRatio b64 (s != t) c d (q - r)) = _
      rw [if_neg hd, ht, show (s != false) = s by cases s <;> rfl]
      refine roundRatio_congr (by omega) (by omega) ?_
      have h1 := whole_natAbs ha
      have h2 := whole_natAbs hb
      have p1 := Nat.two_pow_pos ((-q).toNat + r.toNat)
      refine Nat.eq_of_mul_eq_mul_right p1 ?_
      rw [show (q - r - 0).toNat = (q - r).toNat by omega, show (0 - (q - r)).toNat = (r - q).toNat by omega]
      have e1 : (2 : Nat) ^ (q - r).toNat * 2 ^ ((-q).toNat + r.toNat) = 2 ^ q.toNat * (2 ^ (-r).toNat * 2 ^ (r - q).toNat) := by
        rw [← Nat.pow_add, ← Nat.pow_add, ← Nat.pow_add]; congr 1; omega
      have e2 : (2 : Nat) ^ (r - q).toNat * 2 ^ ((-q).toNat + r.toNat) = 2 ^ (-q).toNat * (2 ^ r.toNat * 2 ^ (r - q).toNat) := by
        rw [← Nat.pow_add, ← Nat.pow_add, ← Nat.pow_add]; congr 1; omega
      rw [Nat.mul_assoc (c * j.natAbs), Nat.mul_assoc (i.natAbs * d), e1, e2]
      calc c * j.natAbs * (2 ^ q.toNat * (2 ^ (-r).toNat * 2 ^ (r - q).toNat)) = (c * 2 ^ q.toNat) * (j.natAbs * 2 ^ (-r).toNat) * 2 ^ (r - q).toNat := by ac_rfl
        _ = (i.natAbs * 2 ^ (-q).toNat) * (d * 2 ^ r.toNat) * 2 ^ (r - q).toNat := by rw [h1, h2]
        _ = i.natAbs * d * (2 ^ (-q).toNat * (2 ^ r.toNat * 2 ^ (r - q).toNat)) := by ac_rfl
theorem inU (A : Nat) : inUnits A 0 b64.qmin = A * UN := by unfold inUnits; rw [show (0 - b64.qmin).toNat = (-b64.qmin).toNat by omega, UN_eq]
theorem ddiv_nn {i j : Int} {a b : UInt64} (ha : DInt i a) (hb : DInt j b) (hj : 0 < j) : val64 (ddiv a b) ≠ .nan := by
  obtain ⟨s, -, e⟩ := ddiv_whole ha hb hj
  rw [e]; exact roundRatio_ne_nan _ _ _ _ _
theorem zq {s : Bool} {A B : Nat} {v : Int} (V : Vd v) (hB : 0 < B) : (A * UN ≤ zmag b64 V.d * B → zmag b64 (roundRatio b64 s A B 0) ≤ zmag b64 V.d) ∧ (zmag b64 V.d * B ≤ A * UN → zmag b64 V.d ≤ zmag b64 (roundRatio b64 s A B 0)) := by
  have e : (b64.qmin - b64.qmin).toNat = 0 := by omega
  constructor
  · intro h
    refine zmag_roundRatio_le good_b64 hB V.fit V.nn (e0 := b64.qmin) (Int.le_refl _) (by rw [qmin_b64]; decide) ?_
    rw [inU, e]; simpa using h
  · intro h
    refine zmag_roundRatio_ge good_b64 hB V.fit (e0 := b64.qmin) (Int.le_refl _) (by rw [qmin_b64]; decide) ?_
    rw [inU, e]; simpa using h
theorem ddiv_ge {i j v : Int} {a b : UInt64} (ha : DInt i a) (hb : DInt j b) (hj : 0 < j) (V : Vd v) (h : v * j ≤ i * (UN : Int)) : v ≤ zv (ddiv a b) := by
  obtain ⟨s, hs, e⟩ := ddiv_whole ha hb hj
  unfold zv
  rw [e]
  unfold zval
  rw [sgn_roundRatio]
  obtain ⟨q1, q2⟩ := zq (s := s) (A := i.natAbs) V (B := j.natAbs) (by omega)
  have hv := V.val
  unfold zval at hv
  obtain ⟨m, hm⟩ : ∃ m, m = zmag b64 V.d := ⟨_, rfl⟩
  obtain ⟨R, hR⟩ : ∃ R, R = zmag b64 (roundRatio b64 s i.natAbs j.natAbs 0) := ⟨_, rfl⟩
  obtain ⟨t, ht⟩ : ∃ t, t = sgn V.d := ⟨_, rfl⟩
  rw [← hm, ← hR] at q1 q2
  rw [← hm, ← ht] at hv
  rw [← hR]
  have hU := UN_pos
  obtain ⟨U, hUe⟩ : ∃ U, U = UN := ⟨_, rfl⟩
  rw [← hUe] at q1 q2 h hU
  have hjn : ((j.natAbs : Nat) : Int) = j := by omega
  have c1 : ((m * j.natAbs : Nat) : Int) = (m : Int) * j := by rw [Int.natCast_mul, hjn]
  have c2 : ((i.natAbs * U : Nat) : Int) = (i.natAbs : Int) * (U : Int) := Int.natCast_mul _ _
  subst hv
  cases s <;> cases t <;> simp only [signed, if_true, Bool.false_eq_true, if_false] at h ⊢
  · have : (i.natAbs : Int) = i ∨ i = 0 := by
      by_cases z : i = 0
      · exact Or.inr z
      · have := hs z; simp at this; left; omega
    have hi : (i.natAbs : Int) = i := by omega
    have := q2 (by rw [hi] at c2; omega)
    omega
  · omega
  · by_cases z : i = 0
    · subst z
      have : (m : Int) * j ≤ 0 := by simpa using h
      have : m = 0 := by
        rcases Nat.eq_zero_or_pos m with r | r
        · exact r
        · have := Int.mul_pos (show (0 : Int) < m by omega) hj; omega
      subst this
      have := q1 (by simp)
      omega
    · have := hs z
      simp at this
      have hn : i * (U : Int) < 0 := Int.mul_neg_of_neg_of_pos this (by omega)
      have : 0 ≤ (m : Int) * j := Int.mul_nonneg (by omega) (by omega)
      omega
  · have hi : (i.natAbs : Int) = -i := by
      by_cases z : i = 0
      · subst z; rfl
      · have := hs z; simp at this; omega
    rw [hi, Int.neg_mul] at c2
    rw [Int.neg_mul] at h
    have := q1 (by omega)
    omega
theorem Vd.neg {v : Int} (V : Vd v) : Nonempty (Vd (-v)) := by
  obtain ⟨s, c, q, e⟩ := V.fin
  exact ⟨⟨negate V.d, negate_fits V.fit, ⟨!s, c, q, by rw [e]; rfl⟩, by rw [zval_negate, V.val]⟩⟩
theorem zv_neg (a : UInt64) : zv (dneg a) = - zv a := by unfold zv; rw [val64_dneg, zval_negate]
theorem ddiv_le {i j v : Int} {a b : UInt64} (ha : DInt i a) (hb : DInt j b) (hj : 0 < j) (V : Vd v) (h : i * (UN : Int) ≤ v * j) : zv (ddiv a b) ≤ v := by
  obtain ⟨V'⟩ := V.neg
  have := ddiv_ge (dneg_int ha) hb hj V' (by rw [Int.neg_mul, Int.neg_mul]; omega)
  rw [ddiv_dneg, zv_neg] at this
  omega
theorem fin_of {a : UInt64} (hn : val64 a ≠ .nan) {v w : Int} (V : Vd v) (W : Vd w) (h1 : v ≤ zv a) (h2 : zv a ≤ w) : DFin a := by
  have top : ∀ {u : Int} (U : Vd u), u < ((b64.tails * 2 ^ (b64.exps - 2) : Nat) : Int) ∧ -((b64.tails * 2 ^ (b64.exps - 2) : Nat) : Int) < u := fun {u} U => by
    obtain ⟨s, c, q, e⟩ := U.fin
    have hf := U.fit
    rw [e] at hf
    have hz : zmag b64 (.fin s c q) < _ := zmag_lt_top good_b64 hf
    have hv := U.val
    rw [e] at hv
    unfold zval at hv
    generalize b64.tails * 2 ^ (b64.exps - 2) = K at *
    generalize zmag b64 (.fin s c q) = m at *
    subst hv
    show signed s m < _ ∧ _ < signed s m
    cases s <;> simp only [signed, if_true, Bool.false_eq_true, if_false] <;> omega
  have t1 := (top V).2
  have t2 := (top W).1
  cases hv : val64 a with
  | nan => exact absurd hv hn
  | fin s c q => exact ⟨s, c, q, hv⟩
  | inf s =>
    exfalso
    have : zv a = signed s (b64.tails * 2 ^ (b64.exps - 2)) := by unfold zv; rw [hv]; rfl
    rw [this] at h1 h2
    generalize b64.tails * 2 ^ (b64.exps - 2) = K at *
    cases s <;> simp only [signed, if_true, Bool.false_eq_true, if_false] at h1 h2 <;> omega
theorem dadd_spec {a b : UInt64} (ha : DFin a) (hb : DFin b) : val64 (dadd a b) ≠ .nan ∧ ∀ {v : Int} (V : Vd v), (v ≤ zv a + zv b → v ≤ zv (dadd a b)) ∧ (zv a + zv b ≤ v → zv (dadd a b) ≤ v) := by
  obtain ⟨s, c, q, ea⟩ := ha
  obtain ⟨t, d, r, eb⟩ := hb
  have fa := val64_fits a
  have fb := val64_fits b
  rw [ea] at fa; rw [eb] at fb
  obtain ⟨sg, n, e, h1, h2, h3⟩ := sum_units fa fb
  have hd : val64 (dadd a b) = round b64 (.fin sg n e) := by rw [val64_dadd, ea, eb, h1]
  refine ⟨by rw [hd]; exact roundRatio_ne_nan _ _ _ _ _, fun {v} V => ?_⟩
  have e0 : ((2 ^ (b64.qmin - b64.qmin).toNat : Nat) : Int) = 1 := by rw [show (b64.qmin - b64.qmin).toNat = 0 by omega]; rfl
  have z : zv a + zv b = signed sg (inUnits n e b64.qmin) := by unfold zv; rw [ea, eb, h3]
  unfold zv at z ⊢
  rw [hd, z]
  constructor
  · intro h
    rw [← V.val]
    exact zval_round_ge good_b64 V.fit V.nn (e0 := b64.qmin) (Int.le_refl _) h2 (by rw [e0, V.val]; omega)
  · intro h
    rw [← V.val]
    exact zval_round_le good_b64 V.fit V.nn (e0 := b64.qmin) (Int.le_refl _) h2 (by rw [e0, V.val]; omega)
theorem dmul_spec {a b : UInt64} (ha : DFin a) (hb : DFin b) : val64 (dmul a b) ≠ .nan ∧ ∀ {v : Int} (V : Vd v), zv a * zv b = v * (UN : Int) → zv (dmul a b) = v := by
  obtain ⟨s, c, q, ea⟩ := ha
  obtain ⟨t, d, r, eb⟩ := hb
  have fa := val64_fits a
  have fb := val64_fits b
  rw [ea] at fa; rw [eb] at fb
  obtain ⟨h1, h2, h3⟩ := product_units fa fb
  have hd : val64 (dmul a b) = round b64 (.fin (s != t) (c * d) (q + r)) := by rw [val64_dmul, ea, eb, h1]
  refine ⟨by rw [hd]; exact roundRatio_ne_nan _ _ _ _ _, fun {v} V h => ?_⟩
  have z : zv a * zv b = signed (s != t) (inUnits (c * d) (q + r) (2 * b64.qmin)) := by
    unfold zv; rw [ea, eb, h3, signed_xor]; rfl
  have e0 : ((2 ^ (b64.qmin - 2 * b64.qmin).toNat : Nat) : Int) = (UN : Int) := by rw [show b64.qmin - 2 * b64.qmin = -b64.qmin by omega, UN_eq]
  have m0 : 2 * b64.qmin ≤ b64.qmin := by rw [qmin_b64]; decide
  have l1 := zval_round_ge good_b64 V.fit V.nn (e0 := 2 * b64.qmin) m0 h2 (s := (s != t)) (c := c * d) (by rw [e0, V.val, ← z, h]; exact Int.le_refl _)
  have l2 := zval_round_le good_b64 V.fit V.nn (e0 := 2 * b64.qmin) m0 h2 (s := (s != t)) (c := c * d) (by rw [e0, V.val, ← z, h]; exact Int.le_refl _)
  unfold zv
  rw [hd]
  rw [V.val] at l1 l2
  omega
/-- the average of ah144-m2-1 -/
theorem avg_law {t q r d : Int} {a b x y : UInt64} (ha : DInt t a) (hb : DInt d b) (hx : DInt q x) (hy : DInt (q + 1) y) (h0 : 0 ≤ t) (ht : t < 2 ^ 53) (hd : 1 ≤ d) (hd2 : d < 2 ^ 31) (hq : t = q * d + r) (hr : 0 ≤ r) (hrd : r < d) (q0 : 0 ≤ q) :
    val64 (ddiv a b) ≠ .nan ∧ DFin (ddiv a b) ∧ zv x ≤ zv (ddiv a b) ∧ zv (ddiv a b) ≤ zv y ∧ (r = 0 → zv (ddiv a b) = zv x) ∧ (r ≠ 0 → q < 2 ^ 21 → zv x < zv (ddiv a b) ∧ zv (ddiv a b) < zv y) := by
  obtain ⟨Vx⟩ := wholeVd hx
  obtain ⟨Vy⟩ := wholeVd hy
  have zx := (zv_whole hx).1
  have zy := (zv_whole hy).1
  have hU : (0 : Int) < (UN : Int) := by have := UN_pos; omega
  have nn := ddiv_nn ha hb (show 0 < d by omega)
  have g1 := ddiv_ge ha hb (show 0 < d by omega) Vx (by
    rw [Int.mul_right_comm]; exact Int.mul_le_mul_of_nonneg_right (by omega) (Int.le_of_lt hU))
  have g2 := ddiv_le ha hb (show 0 < d by omega) Vy (by
    rw [Int.mul_right_comm]; exact Int.mul_le_mul_of_nonneg_right (by rw [Int.add_mul]; omega) (Int.le_of_lt hU))
  refine ⟨nn, fin_of nn Vx Vy g1 g2, by rw [zx]; exact g1, by rw [zy]; exact g2, fun z => ?_, fun z hs => ?_⟩
  · have := ddiv_le ha hb (show 0 < d by omega) Vx (by
      rw [Int.mul_right_comm]; exact Int.mul_le_mul_of_nonneg_right (by omega) (Int.le_of_lt hU))
    omega
  · have e31 : (2 : Int) ^ 31 = 2147483648 := rfl
    have e21 : (2 : Int) ^ 21 = 2097152 := rfl
    have eU : (UN : Int) = 2147483648 * ((2 ^ (1074 - 31) : Nat) : Int) := by
      rw [UN_split (k := 31) (by decide), Int.natCast_mul, Int.mul_comm]; rfl
    have hP : (0 : Int) < ((2 ^ (1074 - 31) : Nat) : Int) := by have := Nat.two_pow_pos (1074 - 31); omega
    obtain ⟨V1⟩ := mkVd (q * 2147483648 + 1) 31 (by omega) (by decide)
    obtain ⟨V2⟩ := mkVd ((q + 1) * 2147483648 - 1) 31 (by omega) (by decide)
    rw [zx, zy, eU]
    generalize hPe : ((2 ^ (1074 - 31) : Nat) : Int) = P at *
    have s1 := ddiv_ge ha hb (show 0 < d by omega) V1 (by
      rw [eU, ← Int.mul_assoc, Int.mul_right_comm]
      refine Int.mul_le_mul_of_nonneg_right ?_ (Int.le_of_lt hP)
      rw [Int.add_mul, Int.mul_right_comm, hq, Int.add_mul]
      omega)
    have s2 := ddiv_le ha hb (show 0 < d by omega) V2 (by
      rw [eU, ← Int.mul_assoc, Int.mul_right_comm ((q + 1) * 2147483648 - 1)]
      refine Int.mul_le_mul_of_nonneg_right ?_ (Int.le_of_lt hP)
      rw [Int.sub_mul, Int.mul_right_comm, hq, Int.add_mul, Int.add_mul, Int.add_mul]
      omega)
    constructor
    · refine Int.lt_of_lt_of_le ?_ s1
      rw [← Int.mul_assoc]
      exact Int.mul_lt_mul_of_pos_right (by omega) hP
    · refine Int.lt_of_le_of_lt s2 ?_
      rw [← Int.mul_assoc]
      exact Int.mul_lt_mul_of_pos_right (by omega) hP
theorem avg_pow {t d : Int} {k : Nat} {a b : UInt64} (ha : DInt t a) (hb : DInt d b) (h0 : 0 ≤ t) (ht : t < 2 ^ 53) (hk : k ≤ 30) (hd : d = ((2 ^ k : Nat) : Int)) :
    val64 (dmul (ddiv a b) b) ≠ .nan ∧ zv (dmul (ddiv a b) b) = zv a := by
  obtain ⟨V⟩ := mkVd t k (by omega) (by omega)
  obtain ⟨Va⟩ := wholeVd ha
  have eU : (UN : Int) = ((2 ^ (1074 - k) : Nat) : Int) * ((2 ^ k : Nat) : Int) := by rw [UN_split (k := k) (by omega), Int.natCast_mul]
  have hdp : 0 < d := by rw [hd]; have := Nat.two_pow_pos k; omega
  have e : t * ((2 ^ (1074 - k) : Nat) : Int) * d = t * (UN : Int) := by rw [eU, hd, Int.mul_assoc]
  have s1 := ddiv_ge ha hb hdp V (Int.le_of_eq e)
  have s2 := ddiv_le ha hb hdp V (Int.le_of_eq e.symm)
  have nn := ddiv_nn ha hb hdp
  obtain ⟨n1, n2⟩ := dmul_spec (fin_of nn V V s1 s2) (zv_whole hb).2
  refine ⟨n1, ?_⟩
  rw [n2 Va (by rw [Int.le_antisymm s2 s1, (zv_whole hb).1, ← Int.mul_assoc, e]), (zv_whole ha).1]
theorem cmp_lt {a b : UInt64} (ha : val64 a ≠ .nan) (hb : val64 b ≠ .nan) (h : zv a < zv b) : dcmp a b = some .lt := by
  rw [dcmp_zv ha hb, show compare (zv a) (zv b) = .lt from by simp only [compare, compareOfLessAndEq, h, if_true]]
theorem cmp_eq {a b : UInt64} (ha : val64 a ≠ .nan) (hb : val64 b ≠ .nan) (h : zv a = zv b) : dcmp a b = some .eq := by
  rw [dcmp_zv ha hb, show compare (zv a) (zv b) = .eq from by simp only [compare, compareOfLessAndEq, h, Int.lt_irrefl, if_false, if_true]]
theorem cmp_gt {a b : UInt64} (ha : val64 a ≠ .nan) (hb : val64 b ≠ .nan) (h : zv b < zv a) : dcmp a b = some .gt := by
  rw [dcmp_zv ha hb, show compare (zv a) (zv b) = .gt from by simp only [compare, compareOfLessAndEq, show ¬ zv a < zv b by omega, show ¬ zv a = zv b by omega, if_false]]
theorem cmp_le {a b : UInt64} (ha : val64 a ≠ .nan) (hb : val64 b ≠ .nan) (h : zv a ≤ zv b) : dcmp a b = some .lt ∨ dcmp a b = some .eq := by
  by_cases q : zv a = zv b
  · exact Or.inr (cmp_eq ha hb q)
  · exact Or.inl (cmp_lt ha hb (by omega))
theorem cmp_ge {a b : UInt64} (ha : val64 a ≠ .nan) (hb : val64 b ≠ .nan) (h : zv b ≤ zv a) : dcmp a b = some .gt ∨ dcmp a b = some .eq := by
  by_cases q : zv a = zv b
  · exact Or.inr (cmp_eq ha hb q)
  · exact Or.inl (cmp_gt ha hb (by omega))
theorem b53_nat {t : Int64} (h0 : 0 ≤ t.toInt) (ht : t.toInt < 2 ^ 53) : t.toInt.natAbs ≤ 2 ^ 53 := by omega
theorem succ64 {q : Int64} (h0 : 0 ≤ q.toInt) (h : q.toInt < 2 ^ 53) : (q + 1).toInt = q.toInt + 1 := by
  rw [Int64.toInt_add, show (1 : Int64).toInt = 1 from rfl, Int.bmod_eq_of_le (by omega) (by omega)]
theorem qr64 {t : Int64} {d : Int32} (h0 : 0 ≤ t.toInt) (ht : t.toInt < 2 ^ 53) (hd : 1 ≤ d.toInt) : (t / d.toInt64).toInt = t.toInt / d.toInt ∧ (t % d.toInt64).toInt = t.toInt % d.toInt := by
  have e : d.toInt64.toInt = d.toInt := Int32.toInt_toInt64 d
  have hb : t.toInt / d.toInt ≤ t.toInt := Int.ediv_le_self _ h0
  have hn : 0 ≤ t.toInt / d.toInt := Int.ediv_nonneg h0 (by omega)
  constructor
  · rw [Int64.toInt_div, e, Int.tdiv_eq_ediv_of_nonneg h0, Int.bmod_eq_of_le (by omega) (by omega)]
  · rw [Int64.toInt_mod, e, Int.tmod_eq_emod_of_nonneg h0]
theorem avg64 {t q r : Int64} {d : Int32} (hq : q = t / d.toInt64) (hr : r = t % d.toInt64) (h0 : 0 ≤ t.toInt) (ht : t.toInt < 2 ^ 53) (hd : 1 ≤ d.toInt) :
    val64 (ddiv (l2d t) (i2d d)) ≠ .nan ∧ (dcmp (ddiv (l2d t) (i2d d)) (l2d q) = some .gt ∨ dcmp (ddiv (l2d t) (i2d d)) (l2d q) = some .eq) ∧ (dcmp (ddiv (l2d t) (i2d d)) (l2d (q + 1)) = some .lt ∨ dcmp (ddiv (l2d t) (i2d d)) (l2d (q + 1)) = some .eq) ∧
    (r = 0 → dcmp (ddiv (l2d t) (i2d d)) (l2d q) = some .eq) ∧ (¬ r = 0 → q < 2097152 → dcmp (ddiv (l2d t) (i2d d)) (l2d q) = some .gt ∧ dcmp (ddiv (l2d t) (i2d d)) (l2d (q + 1)) = some .lt) := by
  obtain ⟨eq, er⟩ := qr64 h0 ht hd
  rw [← hq] at eq; rw [← hr] at er
  have hb : t.toInt / d.toInt ≤ t.toInt := Int.ediv_le_self _ h0
  have hn : 0 ≤ t.toInt / d.toInt := Int.ediv_nonneg h0 (by omega)
  have es := succ64 (q := q) (by omega) (by omega)
  have hx := l2d_int (a := q) (by omega)
  have hy := l2d_int (a := q + 1) (by omega)
  rw [es] at hy
  have h1 := Int.mul_ediv_add_emod t.toInt d.toInt
  have hd2 : d.toInt < 2 ^ 31 := Int32.toInt_lt d
  obtain ⟨n1, n2, n3, n4, n5, n6⟩ := avg_law (l2d_int (b53_nat h0 ht)) (i2d_int d) hx hy h0 ht hd hd2 (r := r.toInt) (by rw [eq, er, Int.mul_comm]; omega) (by rw [er]; exact Int.emod_nonneg _ (by omega)) (by rw [er]; exact Int.emod_lt_of_pos _ (by omega)) (by omega)
  have nx := DFin.nn (zv_whole hx).2
  have ny := DFin.nn (zv_whole hy).2
  refine ⟨n1, cmp_ge n1 nx n3, cmp_le n1 ny n4, fun z => cmp_eq n1 nx (n5 (by rw [z]; rfl)), fun z w => ?_⟩
  have := n6 (fun q => z (Int64.toInt_inj.mp q)) (by rw [Int64.lt_iff_toInt_lt, show (2097152 : Int64).toInt = 2097152 from rfl] at w; omega)
  exact ⟨cmp_gt n1 nx this.1, cmp_lt n1 ny this.2⟩
theorem pow64 {t : Int64} {d : Int32} {k : Nat} (h0 : 0 ≤ t.toInt) (ht : t.toInt < 2 ^ 53) (hk : k ≤ 30) (hd : d.toInt = ((2 ^ k : Nat) : Int)) :
    val64 (dmul (ddiv (l2d t) (i2d d)) (i2d d)) ≠ .nan ∧ dcmp (dmul (ddiv (l2d t) (i2d d)) (i2d d)) (l2d t) = some .eq := by
  have hx := l2d_int (b53_nat h0 ht)
  obtain ⟨n1, n2⟩ := avg_pow hx (i2d_int d) h0 ht hk hd
  exact ⟨n1, cmp_eq n1 (DFin.nn (zv_whole hx).2) n2⟩
theorem mask53 (x : Int64) : 0 ≤ (x &&& 9007199254740991).toInt ∧ (x &&& 9007199254740991).toInt < 2 ^ 53 := by
  have e : (x &&& 9007199254740991).toBitVec.toNat = x.toBitVec.toNat % 2 ^ 53 := by
    rw [Int64.toBitVec_and, BitVec.toNat_and, show (9007199254740991 : Int64).toBitVec.toNat = 2 ^ 53 - 1 from rfl, Nat.and_two_pow_sub_one_eq_mod]
  have e2 : (x &&& 9007199254740991).toInt = (x &&& 9007199254740991).toBitVec.toInt := rfl
  rw [e2, BitVec.toInt_eq_toNat_cond, e, if_pos (by omega)]
  omega
theorem mask31i (x : Int32) : 0 ≤ (x &&& 2147483647).toInt := by
  have e : (x &&& 2147483647).toBitVec.toNat = x.toBitVec.toNat % 2 ^ 31 := by
    rw [Int32.toBitVec_and, BitVec.toNat_and, show (2147483647 : Int32).toBitVec.toNat = 2 ^ 31 - 1 from rfl, Nat.and_two_pow_sub_one_eq_mod]
  have e2 : (x &&& 2147483647).toInt = (x &&& 2147483647).toBitVec.toInt := rfl
  rw [e2, BitVec.toInt_eq_toNat_cond, e, if_pos (by omega)]
  omega
theorem max1 (x : Int32) : 1 ≤ (if (1 : Int32) < x then x else 1).toInt := by
  split
  · rename_i h; rw [Int32.lt_iff_toInt_lt, show (1 : Int32).toInt = 1 from rfl] at h; omega
  · decide
theorem pow31 : ∀ k : Fin 31, ((1 : Int32) <<< (Int32.ofNat k.val &&& 31)).toInt = ((2 ^ k.val : Nat) : Int) := by decide +kernel
theorem pow_k (x : Int32) : ∃ k : Nat, k ≤ 30 ∧ ((1 : Int32) <<< (((x &&& 2147483647) % 31) &&& 31)).toInt = ((2 ^ k : Nat) : Int) := by
  have h := mask31i x
  obtain ⟨y, hy⟩ : ∃ y, y = (x &&& 2147483647) := ⟨_, rfl⟩
  rw [← hy] at h ⊢
  have e : (y % 31).toInt = y.toInt % 31 := by rw [Int32.toInt_mod, show (31 : Int32).toInt = 31 from rfl, Int.tmod_eq_emod_of_nonneg h]
  have e2 : y % 31 = Int32.ofNat (y.toInt % 31).toNat := by
    apply Int32.toInt_inj.mp
    rw [e, Int32.toInt_ofNat_of_lt (by omega)]; omega
  refine ⟨(y.toInt % 31).toNat, by omega, ?_⟩
  rw [e2]
  exact pow31 ⟨(y.toInt % 31).toNat, by omega⟩
theorem exact_div {i j : Int} {k : Nat} {a b : UInt64} (ha : DInt i a) (hb : DInt j b) (hi : i.natAbs < 2 ^ 53) (hk : k ≤ 1074) (hj : j = ((2 ^ k : Nat) : Int)) :
    DFin (ddiv a b) ∧ zv (ddiv a b) = i * ((2 ^ (1074 - k) : Nat) : Int) := by
  obtain ⟨V⟩ := mkVd i k hi hk
  have eU : (UN : Int) = ((2 ^ (1074 - k) : Nat) : Int) * ((2 ^ k : Nat) : Int) := by rw [UN_split (k := k) hk, Int.natCast_mul]
  have hjp : 0 < j := by rw [hj]; have := Nat.two_pow_pos k; omega
  have e : i * ((2 ^ (1074 - k) : Nat) : Int) * j = i * (UN : Int) := by rw [eU, hj, Int.mul_assoc]
  have s1 := ddiv_ge ha hb hjp V (Int.le_of_eq e)
  have s2 := ddiv_le ha hb hjp V (Int.le_of_eq e.symm)
  exact ⟨fin_of (ddiv_nn ha hb hjp) V V s1 s2, Int.le_antisymm s2 s1⟩
theorem dadd_exact {a b : UInt64} {v : Int} (ha : DFin a) (hb : DFin b) (V : Vd v) (h : zv a + zv b = v) : DFin (dadd a b) ∧ zv (dadd a b) = v := by
  obtain ⟨n, H⟩ := dadd_spec ha hb
  have s1 := (H V).1 (Int.le_of_eq h.symm)
  have s2 := (H V).2 (Int.le_of_eq h)
  exact ⟨fin_of n V V s1 s2, Int.le_antisymm s2 s1⟩
theorem pw {n m : Nat} : ((2 ^ (n + m) : Nat) : Int) = ((2 ^ n : Nat) : Int) * ((2 ^ m : Nat) : Int) := by rw [Nat.pow_add, Int.natCast_mul]
/-- the first road of ah075-m3-1 -/
theorem dl_pow {dm sz num : Int} {E : Nat} {a b s n c1 c2 : UInt64} (hE : E ≤ 15) (ha : DInt dm a) (hb : DInt ((2 ^ E : Nat) : Int) b) (hs : DInt sz s) (hn : DInt num n) (h1 : DInt 1024 c1) (h2 : DInt 32768 c2)
    (b1 : dm.natAbs ≤ 2 ^ 31) (b2 : sz.natAbs < 2 ^ 53) (b3 : num.natAbs < 2 ^ 53) (hnum : num = dm * 32 + sz * ((2 ^ (15 - E) : Nat) : Int)) :
    DFin (ddiv a c1) ∧ DFin (ddiv s b) ∧ DFin (dadd (ddiv a c1) (ddiv s b)) ∧ DFin (ddiv n c2) ∧ zv (dadd (ddiv a c1) (ddiv s b)) = zv (ddiv n c2) := by
  obtain ⟨f1, e1⟩ := exact_div (k := 10) ha h1 (by omega) (by decide) (by decide)
  obtain ⟨f2, e2⟩ := exact_div (k := E) hs hb b2 (by omega) rfl
  obtain ⟨f3, e3⟩ := exact_div (k := 15) hn h2 b3 (by decide) (by decide)
  obtain ⟨V⟩ := mkVd num 15 b3 (by decide)
  have : zv (ddiv a c1) + zv (ddiv s b) = num * ((2 ^ (1074 - 15) : Nat) : Int) := by
    rw [e1, e2, hnum, show 1074 - 10 = 5 + (1074 - 15) from rfl, pw, show 1074 - E = (15 - E) + (1074 - 15) by omega, pw, Int.add_mul, Int.mul_assoc, Int.mul_assoc]
    rfl
  obtain ⟨f4, e4⟩ := dadd_exact f1 f2 V this
  exact ⟨f1, f2, f4, f3, by rw [e4, e3]⟩
/-- the second road -/
theorem dl_gen {dm k B R sz lo : Int} {a b s l h c1 : UInt64} (ha : DInt dm a) (hb : DInt B b) (hs : DInt sz s) (hl : DInt lo l) (hh : DInt (lo + 1024) h) (h1 : DInt 1024 c1)
    (b1 : dm.natAbs ≤ 2 ^ 31) (b2 : k.natAbs ≤ 2 ^ 31) (hB : 1 ≤ B) (hR : 0 ≤ R) (hRB : R < B) (hsz : sz = k * B + R) (hlo : lo = dm + 1024 * k) :
    DFin (ddiv a c1) ∧ DFin (ddiv s b) ∧ DFin (dadd (ddiv a c1) (ddiv s b)) ∧ DFin (ddiv l c1) ∧ DFin (ddiv h c1) ∧ (R = 0 → zv (dadd (ddiv a c1) (ddiv s b)) = zv (ddiv l c1)) ∧ zv (ddiv l c1) ≤ zv (dadd (ddiv a c1) (ddiv s b)) ∧ zv (dadd (ddiv a c1) (ddiv s b)) ≤ zv (ddiv h c1) := by
  obtain ⟨f1, e1⟩ := exact_div (k := 10) ha h1 (by omega) (by decide) (by decide)
  obtain ⟨f3, e3⟩ := exact_div (k := 10) hl h1 (by omega) (by decide) (by decide)
  obtain ⟨f4, e4⟩ := exact_div (k := 10) hh h1 (by omega) (by decide) (by decide)
  obtain ⟨V1⟩ := mkVd k 0 (by omega) (by decide)
  obtain ⟨V2⟩ := mkVd (k + 1) 0 (by omega) (by decide)
  obtain ⟨W1⟩ := mkVd lo 10 (by omega) (by decide)
  obtain ⟨W2⟩ := mkVd (lo + 1024) 10 (by omega) (by decide)
  have eU : (UN : Int) = ((2 ^ (1074 - 0) : Nat) : Int) := rfl
  have hU : (0 : Int) < ((2 ^ (1074 - 0) : Nat) : Int) := by have := UN_pos; rw [← eU]; omega
  have eT : ((2 ^ (1074 - 0) : Nat) : Int) = 1024 * ((2 ^ (1074 - 10) : Nat) : Int) := by rw [show 1074 - 0 = 10 + (1074 - 10) from rfl, pw]; rfl
  have g1 := ddiv_ge hs hb (show 0 < B by omega) V1 (by
    rw [eU, Int.mul_right_comm]; exact Int.mul_le_mul_of_nonneg_right (by omega) (Int.le_of_lt hU))
  have g2 := ddiv_le hs hb (show 0 < B by omega) V2 (by
    rw [eU, Int.mul_right_comm]; exact Int.mul_le_mul_of_nonneg_right (by rw [Int.add_mul]; omega) (Int.le_of_lt hU))
  have g3 : R = 0 → zv (ddiv s b) ≤ k * ((2 ^ (1074 - 0) : Nat) : Int) := fun z => ddiv_le hs hb (show 0 < B by omega) V1 (by
    rw [eU, Int.mul_right_comm]; exact Int.mul_le_mul_of_nonneg_right (by omega) (Int.le_of_lt hU))
  have f2 := fin_of (ddiv_nn hs hb (show 0 < B by omega)) V1 V2 g1 g2
  obtain ⟨n, H⟩ := dadd_spec f1 f2
  rw [eT, ← Int.mul_assoc] at g1 g2
  rw [eT, ← Int.mul_assoc] at g3
  generalize hP : ((2 ^ (1074 - 10) : Nat) : Int) = P at *
  have l1 : lo * P = dm * P + k * 1024 * P := by rw [hlo, Int.add_mul, Int.mul_comm 1024 k]
  have l2 : (lo + 1024) * P = dm * P + (k + 1) * 1024 * P := by rw [hlo, ← Int.add_mul]; congr 1; omega
  have s1 := (H W1).1 (by rw [e1, l1]; omega)
  have s2 := (H W2).2 (by rw [e1, l2]; omega)
  refine ⟨f1, f2, fin_of n W1 W2 s1 s2, f3, f4, fun z => ?_, by rw [e3]; exact s1, by rw [e4]; exact s2⟩
  have := (H W1).2 (by rw [e1, l1]; have := g3 z; omega)
  rw [e3]
  omega
theorem c1024 : DInt 1024 (4652218415073722368 : UInt64) := by
  unfold DInt; rw [show val64 4652218415073722368 = .fin false 4503599627370496 (-42) from by decide +kernel]; unfold Whole; decide +kernel
theorem c32768 : DInt 32768 (4674736413210574848 : UInt64) := by
  unfold DInt; rw [show val64 4674736413210574848 = .fin false 4503599627370496 (-37) from by decide +kernel]; unfold Whole; decide +kernel
theorem i64 (x : Int32) : x.toInt64.toInt = x.toInt := Int32.toInt_toInt64 x
theorem i32b (x : Int32) : -2 ^ 31 ≤ x.toInt ∧ x.toInt < 2 ^ 31 := ⟨Int32.le_toInt x, Int32.toInt_lt x⟩
theorem add_i {x y : Int64} (h1 : -2 ^ 62 ≤ x.toInt + y.toInt) (h2 : x.toInt + y.toInt < 2 ^ 62) : (x + y).toInt = x.toInt + y.toInt := by
  rw [Int64.toInt_add, Int.bmod_eq_of_le (by omega) (by omega)]
theorem mul_i {x y : Int64} (h1 : -2 ^ 62 ≤ x.toInt * y.toInt) (h2 : x.toInt * y.toInt < 2 ^ 62) : (x * y).toInt = x.toInt * y.toInt := by
  rw [Int64.toInt_mul, Int.bmod_eq_of_le (by omega) (by omega)]
theorem sh_fin : ∀ n : Fin 16, (Int64.ofNat n.val).toBitVec.smod 64 = BitVec.ofNat 64 n.val := by decide +kernel
theorem shl_i (x : Int64) (n : Fin 16) : (x <<< Int64.ofNat n.val).toInt = (x.toInt * ((2 ^ n.val : Nat) : Int)).bmod (2 ^ 64) := by
  have e : (x <<< Int64.ofNat n.val).toBitVec = x.toBitVec <<< n.val := by
    rw [Int64.toBitVec_shiftLeft, sh_fin, BitVec.shiftLeft_eq', BitVec.toNat_ofNat, Nat.mod_eq_of_lt (by omega)]
  have e1 : (x <<< Int64.ofNat n.val).toInt = (x <<< Int64.ofNat n.val).toBitVec.toInt := rfl
  rw [e1, e, BitVec.toInt_shiftLeft, Nat.shiftLeft_eq, Int.natCast_mul]
  have : x.toInt = (x.toBitVec.toNat : Int).bmod (2 ^ 64) := BitVec.toInt_eq_toNat_bmod x.toBitVec
  rw [this, Int.bmod_mul_bmod]
theorem e_fin : ∀ n : Fin 16, (Int32.ofNat n.val &&& 0x3f).toInt64 = Int64.ofNat n.val ∧ (((15 : Int32) - Int32.ofNat n.val) &&& 0x3f).toInt64 = Int64.ofNat (15 - n.val) ∧ ((1 : Int64) <<< Int64.ofNat n.val).toInt = ((2 ^ n.val : Nat) : Int) ∧ (((1 : Int64) <<< Int64.ofNat n.val) - 1).toBitVec.toNat = 2 ^ n.val - 1 := by decide +kernel
theorem and15 (x : Int32) : ∃ n : Fin 16, x &&& 15 = Int32.ofNat n.val := by
  have e : (x &&& 15).toBitVec.toNat = x.toBitVec.toNat % 2 ^ 4 := by
    rw [Int32.toBitVec_and, BitVec.toNat_and, show (15 : Int32).toBitVec.toNat = 2 ^ 4 - 1 from rfl, Nat.and_two_pow_sub_one_eq_mod]
  refine ⟨⟨x.toBitVec.toNat % 16, by omega⟩, ?_⟩
  apply Int32.toBitVec_inj.mp
  apply BitVec.eq_of_toNat_eq
  rw [e]
  show _ = (BitVec.ofNat 32 (x.toBitVec.toNat % 16)).toNat
  rw [BitVec.toNat_ofNat]; omega
theorem and_pow (x y : Int64) (n : Fin 16) (hy : y.toBitVec.toNat = 2 ^ n.val - 1) : 0 ≤ (x &&& y).toInt ∧ (x &&& y).toInt < ((2 ^ n.val : Nat) : Int) := by
  have e : (x &&& y).toBitVec.toNat = x.toBitVec.toNat % 2 ^ n.val := by
    rw [Int64.toBitVec_and, BitVec.toNat_and, hy, Nat.and_two_pow_sub_one_eq_mod]
  have h1 : x.toBitVec.toNat % 2 ^ n.val < 2 ^ n.val := Nat.mod_lt _ (Nat.two_pow_pos _)
  have h2 : 2 ^ n.val ≤ 2 ^ 15 := Nat.pow_le_pow_right (by decide) (by omega)
  have e2 : (x &&& y).toInt = (x &&& y).toBitVec.toInt := rfl
  rw [e2, BitVec.toInt_eq_toNat_cond, e, if_pos (by omega)]
  omega
theorem mul_bd {x P : Int} (h1 : -2 ^ 31 ≤ x) (h2 : x < 2 ^ 31) (p0 : 0 ≤ P) (p1 : P ≤ 2 ^ 16) : -2 ^ 47 ≤ x * P ∧ x * P ≤ 2 ^ 47 := by
  have a1 : x * P ≤ 2 ^ 31 * P := Int.mul_le_mul_of_nonneg_right (by omega) p0
  have a2 : -2 ^ 31 * P ≤ x * P := Int.mul_le_mul_of_nonneg_right h1 p0
  omega
/-- the first road of ah075-m3-1, on longs -/
theorem dlA {dm bw k rr ee : Int32} {bb r sz nu : Int64} (hee : ee = bw &&& 15) (hbb : bb = (1 : Int64) <<< (ee &&& 0x3f).toInt64) (hr : r = rr.toInt64 &&& (bb - 1)) (hsz : sz = (k.toInt64 <<< (ee &&& 0x3f).toInt64) + r) (hnu : nu = dm.toInt64 * 32 + (sz <<< (((15 : Int32) - ee) &&& 0x3f).toInt64)) :
    DFin (ddiv (i2d dm) 4652218415073722368) ∧ DFin (ddiv (l2d sz) (l2d bb)) ∧ DFin (dadd (ddiv (i2d dm) 4652218415073722368) (ddiv (l2d sz) (l2d bb))) ∧ DFin (ddiv (l2d nu) 4674736413210574848) ∧ dcmp (dadd (ddiv (i2d dm) 4652218415073722368) (ddiv (l2d sz) (l2d bb))) (ddiv (l2d nu) 4674736413210574848) = some .eq := by
  obtain ⟨n, hn⟩ := and15 bw
  rw [hn] at hee
  subst hee
  obtain ⟨q1, q2, q3, q4⟩ := e_fin n
  rw [q1] at hbb hsz
  rw [q2] at hnu
  have r1 := and_pow rr.toInt64 (bb - 1) n (by rw [hbb]; exact q4)
  rw [← hr] at r1
  have hp : 2 ^ n.val ≤ 2 ^ 15 := Nat.pow_le_pow_right (by decide) (by omega)
  have hp' : 2 ^ (15 - n.val) ≤ 2 ^ 15 := Nat.pow_le_pow_right (by decide) (by omega)
  have pp : 2 ^ n.val * 2 ^ (15 - n.val) = 2 ^ 15 := by rw [← Nat.pow_add]; congr 1; omega
  have k1 := mul_bd (i32b k).1 (i32b k).2 (P := ((2 ^ n.val : Nat) : Int)) (by omega) (by omega)
  have e1 : sz.toInt = k.toInt * ((2 ^ n.val : Nat) : Int) + r.toInt := by
    have es : (k.toInt64 <<< Int64.ofNat n.val).toInt = k.toInt * ((2 ^ n.val : Nat) : Int) := by
      rw [shl_i, i64, Int.bmod_eq_of_le (by omega) (by omega)]
    rw [hsz, add_i (by rw [es]; omega) (by rw [es]; omega), es]
  have k2 : -2 ^ 48 ≤ sz.toInt * ((2 ^ (15 - n.val) : Nat) : Int) ∧ sz.toInt * ((2 ^ (15 - n.val) : Nat) : Int) < 2 ^ 48 := by
    have m1 := mul_bd (i32b k).1 (i32b k).2 (P := ((2 ^ 15 : Nat) : Int)) (by decide) (by decide)
    have m2 : sz.toInt * ((2 ^ (15 - n.val) : Nat) : Int) = k.toInt * ((2 ^ 15 : Nat) : Int) + r.toInt * ((2 ^ (15 - n.val) : Nat) : Int) := by
      rw [e1, Int.add_mul, Int.mul_assoc, ← Int.natCast_mul, pp]
    have m3 : 0 ≤ r.toInt * ((2 ^ (15 - n.val) : Nat) : Int) := Int.mul_nonneg r1.1 (Int.natCast_nonneg _)
    have m4 : r.toInt * ((2 ^ (15 - n.val) : Nat) : Int) ≤ ((2 ^ n.val : Nat) : Int) * ((2 ^ (15 - n.val) : Nat) : Int) := Int.mul_le_mul_of_nonneg_right (by omega) (Int.natCast_nonneg _)
    rw [← Int.natCast_mul, pp] at m4
    omega
  have e2 : nu.toInt = dm.toInt * 32 + sz.toInt * ((2 ^ (15 - n.val) : Nat) : Int) := by
    have es : (sz <<< Int64.ofNat (15 - n.val)).toInt = sz.toInt * ((2 ^ (15 - n.val) : Nat) : Int) := by
      have this : (sz <<< Int64.ofNat (15 - n.val)).toInt = (sz.toInt * ((2 ^ (15 - n.val) : Nat) : Int)).bmod (2 ^ 64) := shl_i sz ⟨15 - n.val, by omega⟩
      rw [this, Int.bmod_eq_of_le (by omega) (by omega)]
    have hd := i32b dm
    have em : (dm.toInt64 * 32).toInt = dm.toInt * 32 := by
      rw [mul_i (by rw [i64, show (32 : Int64).toInt = 32 from rfl]; omega) (by rw [i64, show (32 : Int64).toInt = 32 from rfl]; omega), i64]; rfl
    rw [hnu, add_i (by rw [es, em]; omega) (by rw [es, em]; omega), es, em]
  have eb : bb.toInt = ((2 ^ n.val : Nat) : Int) := by rw [hbb]; exact q3
  have hd := i32b dm
  have Db := l2d_int (a := bb) (by rw [eb]; omega)
  rw [eb] at Db
  obtain ⟨f1, f2, f3, f4, e⟩ := dl_pow (E := n.val) (by omega) (i2d_int dm) Db (l2d_int (a := sz) (by rw [e1]; omega)) (l2d_int (a := nu) (by rw [e2]; omega)) c1024 c32768 (by omega) (by rw [e1]; omega) (by rw [e2]; omega) e2
  exact ⟨f1, f2, f3, f4, cmp_eq (DFin.nn f3) (DFin.nn f4) e⟩
theorem and16 (x : Int32) : 0 ≤ (x &&& 65535).toInt ∧ (x &&& 65535).toInt ≤ 65535 := by
  have e : (x &&& 65535).toBitVec.toNat = x.toBitVec.toNat % 2 ^ 16 := by
    rw [Int32.toBitVec_and, BitVec.toNat_and, show (65535 : Int32).toBitVec.toNat = 2 ^ 16 - 1 from rfl, Nat.and_two_pow_sub_one_eq_mod]
  have e2 : (x &&& 65535).toInt = (x &&& 65535).toBitVec.toInt := rfl
  rw [e2, BitVec.toInt_eq_toNat_cond, e, if_pos (by omega)]
  omega
theorem bB (x : Int32) : 1 ≤ ((1 : Int64) + (x &&& 65535).toInt64).toInt ∧ ((1 : Int64) + (x &&& 65535).toInt64).toInt ≤ 65536 := by
  have := and16 x
  rw [add_i (by rw [i64, show (1 : Int64).toInt = 1 from rfl]; omega) (by rw [i64, show (1 : Int64).toInt = 1 from rfl]; omega), i64, show (1 : Int64).toInt = 1 from rfl]
  omega
theorem rB (x : Int32) {b : Int64} (hb : 1 ≤ b.toInt) : 0 ≤ ((x &&& 2147483647).toInt64 % b).toInt ∧ ((x &&& 2147483647).toInt64 % b).toInt < b.toInt := by
  have := mask31i x
  rw [Int64.toInt_mod, i64, Int.tmod_eq_emod_of_nonneg this]
  exact ⟨Int.emod_nonneg _ (by omega), Int.emod_lt_of_pos _ (by omega)⟩
theorem dlB {dm k : Int32} {b r sz lo : Int64} (b1 : 1 ≤ b.toInt) (b2 : b.toInt ≤ 65536) (r1 : 0 ≤ r.toInt) (r2 : r.toInt < b.toInt) (hsz : sz = k.toInt64 * b + r) (hlo : lo = dm.toInt64 + 1024 * k.toInt64) :
    DFin (ddiv (i2d dm) 4652218415073722368) ∧ DFin (ddiv (l2d sz) (l2d b)) ∧ DFin (dadd (ddiv (i2d dm) 4652218415073722368) (ddiv (l2d sz) (l2d b))) ∧ DFin (ddiv (l2d lo) 4652218415073722368) ∧ DFin (ddiv (l2d (lo + 1024)) 4652218415073722368) ∧
    (r = 0 → dcmp (dadd (ddiv (i2d dm) 4652218415073722368) (ddiv (l2d sz) (l2d b))) (ddiv (l2d lo) 4652218415073722368) = some .eq) ∧
    (dcmp (ddiv (l2d lo) 4652218415073722368) (dadd (ddiv (i2d dm) 4652218415073722368) (ddiv (l2d sz) (l2d b))) = some .lt ∨ dcmp (ddiv (l2d lo) 4652218415073722368) (dadd (ddiv (i2d dm) 4652218415073722368) (ddiv (l2d sz) (l2d b))) = some .eq) ∧
    (dcmp (dadd (ddiv (i2d dm) 4652218415073722368) (ddiv (l2d sz) (l2d b))) (ddiv (l2d (lo + 1024)) 4652218415073722368) = some .lt ∨ dcmp (dadd (ddiv (i2d dm) 4652218415073722368) (ddiv (l2d sz) (l2d b))) (ddiv (l2d (lo + 1024)) 4652218415073722368) = some .eq) := by
  have hd := i32b dm
  have hk := i32b k
  have k1 := mul_bd hk.1 hk.2 (P := b.toInt) (by omega) (by omega)
  have em : (k.toInt64 * b).toInt = k.toInt * b.toInt := by rw [mul_i (by rw [i64]; omega) (by rw [i64]; omega), i64]
  have e1 : sz.toInt = k.toInt * b.toInt + r.toInt := by rw [hsz, add_i (by rw [em]; omega) (by rw [em]; omega), em]
  have en : ((1024 : Int64) * k.toInt64).toInt = 1024 * k.toInt := by rw [mul_i (by rw [i64, show (1024 : Int64).toInt = 1024 from rfl]; omega) (by rw [i64, show (1024 : Int64).toInt = 1024 from rfl]; omega), i64]; rfl
  have e2 : lo.toInt = dm.toInt + 1024 * k.toInt := by rw [hlo, add_i (by rw [en, i64]; omega) (by rw [en, i64]; omega), en, i64]
  have e3 : (lo + 1024).toInt = lo.toInt + 1024 := by rw [add_i (by rw [e2, show (1024 : Int64).toInt = 1024 from rfl]; omega) (by rw [e2, show (1024 : Int64).toInt = 1024 from rfl]; omega)]; rfl
  have Dh := l2d_int (a := lo + 1024) (by rw [e3, e2]; omega)
  rw [e3] at Dh
  obtain ⟨f1, f2, f3, f4, f5, g1, g2, g3⟩ := dl_gen (i2d_int dm) (l2d_int (a := b) (by omega)) (l2d_int (a := sz) (by rw [e1]; omega)) (l2d_int (a := lo) (by rw [e2]; omega)) Dh c1024 (by omega) (by omega) b1 r1 r2 e1 e2
  exact ⟨f1, f2, f3, f4, f5, fun z => cmp_eq (DFin.nn f3) (DFin.nn f4) (g1 (by rw [z]; rfl)), cmp_le (DFin.nn f4) (DFin.nn f3) g2, cmp_le (DFin.nn f3) (DFin.nn f5) g3⟩
theorem delay_fin (dm : Int32) : DFin (ddiv (i2d dm) 4652218415073722368) := (exact_div (k := 10) (i2d_int dm) c1024 (by have := i32b dm; omega) (by decide) (by decide)).1
theorem DFin.no {a : UInt64} (h : DFin a) : Jvm.Free.Fl.NoNaN64 a := Jvm.Free.Fl.val64_no.mpr (DFin.nn h)
end Jvm.Own
namespace Jvm.Own
open Jvm Sem ClassFile Op Lib Jvm.Stand Jvm.Free Jvm.LawKit Jvm.RoadKit
theorem cv_ge {x y : UInt64} (h : FP.dcmp x y = some .gt ∨ FP.dcmp x y = some .eq) (o : CmpOp) : ¬ cmpValue (FP.dcmp x y) o < 0 := by rcases h with h | h <;> rw [h] <;> cases o <;> decide
theorem cv_le {x y : UInt64} (h : FP.dcmp x y = some .lt ∨ FP.dcmp x y = some .eq) (o : CmpOp) : ¬ 0 < cmpValue (FP.dcmp x y) o := by rcases h with h | h <;> rw [h] <;> cases o <;> decide
theorem cv_eq {x y : UInt64} (h : FP.dcmp x y = some .eq) (o : CmpOp) : cmpValue (FP.dcmp x y) o = 0 := by rw [h]; rfl
theorem cv_gt {x y : UInt64} (h : FP.dcmp x y = some .gt) (o : CmpOp) : 0 < cmpValue (FP.dcmp x y) o := by rw [h]; cases o <;> decide
theorem cv_lt {x y : UInt64} (h : FP.dcmp x y = some .lt) (o : CmpOp) : cmpValue (FP.dcmp x y) o < 0 := by rw [h]; cases o <;> decide
section Dbl
variable {p : Program} {l : Launch} {e : Env} {R : Room} {s : State} {m : MethodId} {args : Array Value} {below : List Frame} {meth : Method} {c : Code} {T : State} {locs : List Loc} {cells slots : Nat} {P : Outcome → State → Prop} {pc : Nat} {Ls : Array Slot} {st : List Value} {Z : State} {a0 : Array Value} {h : Heap}
theorem g_dload (X : Stand p l e R s m args below meth c T locs cells slots) (hx : p.tables.exec = Jvm.exec) {k : Nat} {v : UInt64} (hd : decode c.code pc = .ok (.dload k, 2)) (hl : Ls[k]? = some (.val (.double v))) (pc' : Nat) (hp : pc + 2 = pc') (K : Go p e below P (T.setTop (mkF m pc' Ls (.double v :: st)))) : Go p e below P (T.setTop (mkF m pc Ls st)) := by
  subst hp; exact Go.mv (fun _ h => XS.dload X.here hx rfl hd hl h) K
theorem g_dloadN (X : Stand p l e R s m args below meth c T locs cells slots) (hx : p.tables.exec = Jvm.exec) {k : Fin 4} {v : UInt64} (hd : decode c.code pc = .ok (.dload_n k, 1)) (hl : Ls[k.val]? = some (.val (.double v))) (pc' : Nat) (hp : pc + 1 = pc') (K : Go p e below P (T.setTop (mkF m pc' Ls (.double v :: st)))) : Go p e below P (T.setTop (mkF m pc Ls st)) := by
  subst hp; exact Go.mv (fun _ h => XS.dloadN X.here hx rfl hd hl h) K
theorem g_dstore (X : Stand p l e R s m args below meth c T locs cells slots) (hx : p.tables.exec = Jvm.exec) {k : Nat} {v : UInt64} (l' : Array Slot) (hd : decode c.code pc = .ok (.dstore k, 2)) (hl : storeLocals Ls k (.double v) = some l') (pc' : Nat) (hp : pc + 2 = pc') (K : Go p e below P (T.setTop (mkF m pc' l' st))) : Go p e below P (T.setTop (mkF m pc Ls (.double v :: st))) := by
  subst hp; exact Go.mv (fun _ h => XS.dstore X.here hx rfl hd rfl hl h) K
theorem g_dstoreN (X : Stand p l e R s m args below meth c T locs cells slots) (hx : p.tables.exec = Jvm.exec) {k : Fin 4} {v : UInt64} (l' : Array Slot) (hd : decode c.code pc = .ok (.dstore_n k, 1)) (hl : storeLocals Ls k.val (.double v) = some l') (pc' : Nat) (hp : pc + 1 = pc') (K : Go p e below P (T.setTop (mkF m pc' l' st))) : Go p e below P (T.setTop (mkF m pc Ls (.double v :: st))) := by
  subst hp; exact Go.mv (fun _ h => XS.dstoreN X.here hx rfl hd rfl hl h) K
theorem g_i2d (X : Stand p l e R s m args below meth c T locs cells slots) (hx : p.tables.exec = Jvm.exec) {x : Int32} (hd : decode c.code pc = .ok (.i2d, 1))  (pc' : Nat) (hp : pc + 1 = pc') (K : Go p e below P (T.setTop (mkF m pc' Ls (.double (FP.i2d x) :: st)))) : Go p e below P (T.setTop (mkF m pc Ls (.int x :: st))) := by
  subst hp; exact Go.mv (fun _ h => XS.i2dS X.here hx rfl hd rfl rfl h) K
theorem g_l2d (X : Stand p l e R s m args below meth c T locs cells slots) (hx : p.tables.exec = Jvm.exec) {x : Int64} (hd : decode c.code pc = .ok (.l2d, 1))  (pc' : Nat) (hp : pc + 1 = pc') (K : Go p e below P (T.setTop (mkF m pc' Ls (.double (FP.l2d x) :: st)))) : Go p e below P (T.setTop (mkF m pc Ls (.long x :: st))) := by
  subst hp; exact Go.mv (fun _ h => XS.l2dS X.here hx rfl hd rfl rfl h) K
theorem g_dadd (X : Stand p l e R s m args below meth c T locs cells slots) (hx : p.tables.exec = Jvm.exec) {x y : UInt64} (hd : decode c.code pc = .ok (.dadd, 1)) (hn : Jvm.Free.Fl.NoNaN64 (FP.dadd x y)) (pc' : Nat) (hp : pc + 1 = pc') (K : Go p e below P (T.setTop (mkF m pc' Ls (.double (FP.dadd x y) :: st)))) : Go p e below P (T.setTop (mkF m pc Ls (.double y :: .double x :: st))) := by
  subst hp; exact Go.mv (fun _ h => XS.daddS X.here hx rfl hd rfl hn rfl h) K
theorem g_dmul (X : Stand p l e R s m args below meth c T locs cells slots) (hx : p.tables.exec = Jvm.exec) {x y : UInt64} (hd : decode c.code pc = .ok (.dmul, 1)) (hn : Jvm.Free.Fl.NoNaN64 (FP.dmul x y)) (pc' : Nat) (hp : pc + 1 = pc') (K : Go p e below P (T.setTop (mkF m pc' Ls (.double (FP.dmul x y) :: st)))) : Go p e below P (T.setTop (mkF m pc Ls (.double y :: .double x :: st))) := by
  subst hp; exact Go.mv (fun _ h => XS.dmulS X.here hx rfl hd rfl hn rfl h) K
theorem g_ddiv (X : Stand p l e R s m args below meth c T locs cells slots) (hx : p.tables.exec = Jvm.exec) {x y : UInt64} (hd : decode c.code pc = .ok (.ddiv, 1)) (hn : Jvm.Free.Fl.NoNaN64 (FP.ddiv x y)) (pc' : Nat) (hp : pc + 1 = pc') (K : Go p e below P (T.setTop (mkF m pc' Ls (.double (FP.ddiv x y) :: st)))) : Go p e below P (T.setTop (mkF m pc Ls (.double y :: .double x :: st))) := by
  subst hp; exact Go.mv (fun _ h => XS.ddivS X.here hx rfl hd rfl hn rfl h) K
theorem g_dcmp (X : Stand p l e R s m args below meth c T locs cells slots) (hx : p.tables.exec = Jvm.exec) {o : CmpOp} {x y : UInt64} (hd : decode c.code pc = .ok (.dcmp o, 1))  (pc' : Nat) (hp : pc + 1 = pc') (K : Go p e below P (T.setTop (mkF m pc' Ls (.int (cmpValue (FP.dcmp x y) o) :: st)))) : Go p e below P (T.setTop (mkF m pc Ls (.double y :: .double x :: st))) := by
  subst hp; exact Go.mv (fun _ h => XS.dcmpS X.here hx rfl hd rfl rfl h) K
theorem g_ldc2D (X : Stand p l e R s m args below meth c T locs cells slots) (hx : p.tables.exec = Jvm.exec) {own : String} {index : Nat} {v : UInt64} (hown : s.vm.findClass own = some m.cls) (hconst : (Cond.constantDouble own index v).before args s = true) (hd : decode c.code pc = .ok (.ldc2_w index, 3)) (pc' : Nat) (hp : pc + 3 = pc')
    (K : Go p e below P (T.setTop (mkF m pc' Ls (.double v :: st)))) : Go p e below P (T.setTop (mkF m pc Ls st)) := by
  subst hp
  exact Go.mv (fun t q => X.ldc2DoubleC hx hown hconst (g := mkF m pc Ls st) rfl hd t q) K
end Dbl
end Jvm.Own
namespace Jvm.Pilot.@@N@@
open Jvm Jvm.ClassFile Sem Op Lib Jvm.Free Jvm.Stand Jvm.LawKit Jvm.RoadKit Bundle Jvm.Pilot.@@N@@.Jvm.D
theorem d1_0 : decode jdk_29_method_65_code 0 = .ok (.iload_n 0, 1) := by decide +kernel
theorem d1_1 : decode jdk_29_method_65_code 1 = .ok (.iload_n 1, 1) := by decide +kernel
theorem d1_2 : decode jdk_29_method_65_code 2 = .ok (.if_icmp .lt 7, 3) := by decide +kernel
theorem d1_5 : decode jdk_29_method_65_code 5 = .ok (.iload_n 0, 1) := by decide +kernel
theorem d1_6 : decode jdk_29_method_65_code 6 = .ok (.goto 4, 3) := by decide +kernel
theorem d1_9 : decode jdk_29_method_65_code 9 = .ok (.iload_n 1, 1) := by decide +kernel
theorem d1_10 : decode jdk_29_method_65_code 10 = .ok (.ireturn, 1) := by decide +kernel
theorem d2_0 : decode prog_9_method_1_code 0 = .ok (.aload_n 0, 1) := by decide +kernel
theorem d2_1 : decode prog_9_method_1_code 1 = .ok (.invokespecial 1, 3) := by decide +kernel
theorem d2_4 : decode prog_9_method_1_code 4 = .ok (.aload_n 0, 1) := by decide +kernel
theorem d2_5 : decode prog_9_method_1_code 5 = .ok (.iload_n 1, 1) := by decide +kernel
theorem d2_6 : decode prog_9_method_1_code 6 = .ok (.putfield 7, 3) := by decide +kernel
theorem d2_9 : decode prog_9_method_1_code 9 = .ok (.aload_n 0, 1) := by decide +kernel
theorem d2_10 : decode prog_9_method_1_code 10 = .ok (.lload_n 2, 1) := by decide +kernel
theorem d2_11 : decode prog_9_method_1_code 11 = .ok (.putfield 13, 3) := by decide +kernel
theorem d2_14 : decode prog_9_method_1_code 14 = .ok (.return_, 1) := by decide +kernel
theorem d4_0 : decode prog_9_method_4_code 0 = .ok (.aload_n 0, 1) := by decide +kernel
theorem d4_1 : decode prog_9_method_4_code 1 = .ok (.getfield 13, 3) := by decide +kernel
theorem d4_4 : decode prog_9_method_4_code 4 = .ok (.l2d, 1) := by decide +kernel
theorem d4_5 : decode prog_9_method_4_code 5 = .ok (.aload_n 0, 1) := by decide +kernel
theorem d4_6 : decode prog_9_method_4_code 6 = .ok (.getfield 7, 3) := by decide +kernel
theorem d4_9 : decode prog_9_method_4_code 9 = .ok (.i2d, 1) := by decide +kernel
theorem d4_10 : decode prog_9_method_4_code 10 = .ok (.ddiv, 1) := by decide +kernel
theorem d4_11 : decode prog_9_method_4_code 11 = .ok (.dreturn, 1) := by decide +kernel
theorem pn_0 : plainName "com/example/astute_search/astutesearch/engine/CollectionStatistics" = true := by first | (simp [plainName, overriddenIn]; done) | decide +kernel
theorem pn_1 : plainName "com/example/astute_search/astutesearch/engine/CollectionStatisticsGetAverageLengthPinLaw" = true := by first | (simp [plainName, overriddenIn]; done) | decide +kernel
theorem pd_0 : parseMethodDescriptor "(IJ)V" = some ⟨[.int, .long], none⟩ := by decide +kernel
theorem pd_1 : parseMethodDescriptor "()D" = some ⟨[], some .double⟩ := by decide +kernel
theorem pd_2 : parseMethodDescriptor "(II)I" = some ⟨[.int, .int], some .int⟩ := by decide +kernel
theorem ef_max (m : MethodId) (x0 : Int32) (x1 : Int32) : entryFrame m #[.int x0, .int x1] 2 = mkF m 0 #[.val (.int x0), .val (.int x1)] [] := by first | (simp [entryFrame, mkF, argsToLocals, Value.category]; done) | rfl
def Q_max (Z : State) (x1 : Int32) (x2 : Int32) (h0 : Heap) (n0 : Nat) (v : Option Value) (h : Heap) (L : List Loc) : Prop := v = some (.int (if x1 < x2 then x2 else x1)) ∧ Fr n0 L ∧ h = h0
set_option maxRecDepth 65536 in
set_option maxHeartbeats 40000000 in
theorem rm_max (l : Launch) (Z : State) (a0 : Array Value) (hw : ∀ d ∈ tables_1, d.before a0 Z = true) (ws : List Jvm.Cond) (x1 : Int32) (x2 : Int32) (h0 : Heap) (n0 : Nat) (O : Old Z n0 h0)  :
    MetFree l (⟨"java/lang/Math", "max", "(II)I"⟩ : MethodName) (head1 (Jvm.Cond.code (⟨"java/lang/Math", "max", "(II)I"⟩ : MethodName) jdk_29_method_65_code 2 (some .int) :: ws) ({ frames := 0, cells := 0, slots := 0, locals := 0 } : Room)) (fun aa U => aa = #[.int x1, .int x2] ∧ Z.Warmed39 U.vm ∧ U.heap = h0) (fun _ _ _ _ _ => True) (fun _ U o U' => Own.End U (Q_max Z x1 x2 h0 n0) 0 0 o U') := by
  refine MetFree.of_bodySF (Jvm.Free.JP.mathPlain rfl (by decide +kernel)) hisR ?_
  intro p e s m args below meth c s₁ Bd hml0 hP hK
  obtain ⟨rfl, hZ, hh⟩ := hP
  have hx := Bd.exec
  have hby := Bd.bytes
  have hml : c.maxLocals = 2 := hml0
  have hown : s.vm.findClass "java/lang/Math" = some m.cls := findClass_of_methodNamed Bd.named
  have hnm := (name_of_methodNamed Bd.named Bd.method).1
  have hret := Bd.returns
  have hlocks : meth.locks = false := Bd.notSynchronized
  have X0 : Stand p l e ({ frames := 0, cells := 0, slots := 0, locals := 0 } : Room) s m #[.int x1, .int x2] below meth c s₁ [] 0 0 := Stand.of_body Bd
  have e0 : s₁.heap = h0 := by rw [← hh, Bd.state]; rfl
  have N0 := Fr.nil n0
  show Own.Go p e below (Own.End s (Q_max Z x1 x2 h0 n0) 0 0) (s₁.setTop (entryFrame m #[.int x1, .int x2] 2))
  refine Own.Go.eq (ef_max m x1 x2) ?_
  refine Own.g_iloadN X0 hx (hb hby d1_0) rfl 1 rfl ?_
  refine Own.g_iloadN X0 hx (hb hby d1_1) rfl 2 rfl ?_
  refine Own.g_icmp_lt X0 hx (hb hby d1_2) 9 5 (by decide) rfl ?_ ?_
  · intro hq1
    refine Own.g_iloadN X0 hx (hb hby d1_9) rfl 10 rfl ?_
    refine Own.g_ret X0 hx hret hlocks rfl (Or.inl ⟨rfl, by simp, _, rfl⟩) (hb hby d1_10) (by decide) (by decide) e0 ?_
    exact ⟨by rw [if_pos hq1], N0, rfl⟩
  · intro hq1
    refine Own.g_iloadN X0 hx (hb hby d1_5) rfl 6 rfl ?_
    refine Own.g_goto X0 hx (hb hby d1_6) 10 (by decide) ?_
    refine Own.g_ret X0 hx hret hlocks rfl (Or.inl ⟨rfl, by simp, _, rfl⟩) (hb hby d1_10) (by decide) (by decide) e0 ?_
    exact ⟨by rw [if_neg hq1], N0, rfl⟩
theorem ef_csi (m : MethodId) (x0 : Addr) (x1 : Int32) (x2 : Int64) : entryFrame m #[.ref x0, .int x1, .long x2] 4 = mkF m 0 #[.val (.ref x0), .val (.int x1), .val (.long x2), .second] [] := by first | (simp [entryFrame, mkF, argsToLocals, Value.category]; done) | rfl
def Q_csi (Z : State) (x : Addr) (d : Int32) (t : Int64) (h0 : Heap) (n0 : Nat) (v : Option Value) (h : Heap) (L : List Loc) : Prop := v = none ∧ Fr n0 L ∧ Keep h0 h [x] ∧ Exa Z h x "com/example/astute_search/astutesearch/engine/CollectionStatistics" ∧ Fld Z h x "com/example/astute_search/astutesearch/engine/CollectionStatistics" "documentCount" "I" (.int d) ∧ Fld Z h x "com/example/astute_search/astutesearch/engine/CollectionStatistics" "tokenCount" "J" (.long t)
set_option maxRecDepth 65536 in
set_option maxHeartbeats 40000000 in
theorem rm_csi (l : Launch) (Z : State) (a0 : Array Value) (hw : ∀ d ∈ tables_1, d.before a0 Z = true) (ws : List Jvm.Cond) (x : Addr) (d : Int32) (t : Int64) (h0 : Heap) (n0 : Nat) (O : Old Z n0 h0) (n0_x : n0 ≤ x) (E_x : Exa Z h0 x "com/example/astute_search/astutesearch/engine/CollectionStatistics") (F_x_documentCount : Fld Z h0 x "com/example/astute_search/astutesearch/engine/CollectionStatistics" "documentCount" "I" (.int 0)) (F_x_tokenCount : Fld Z h0 x "com/example/astute_search/astutesearch/engine/CollectionStatistics" "tokenCount" "J" (.long 0)) :
    MetFree l (⟨"com/example/astute_search/astutesearch/engine/CollectionStatistics", "<init>", "(IJ)V"⟩ : MethodName) (head1 (Jvm.Cond.code (⟨"com/example/astute_search/astutesearch/engine/CollectionStatistics", "<init>", "(IJ)V"⟩ : MethodName) prog_9_method_1_code 4 none :: ws) ({ frames := 1, cells := 0, slots := 0, locals := 14 } : Room)) (fun aa U => aa = #[.ref x, .int d, .long t] ∧ Z.Warmed39 U.vm ∧ U.heap = h0) (fun _ _ _ _ _ => True) (fun _ U o U' => Own.End U (Q_csi Z x d t h0 n0) 0 0 o U') := by
  refine MetFree.of_bodySF (plainFor_of_name pn_0) hisR ?_
  intro p e s m args below meth c s₁ Bd hml0 hP hK
  obtain ⟨rfl, hZ, hh⟩ := hP
  have hx := Bd.exec
  have hby := Bd.bytes
  have hml : c.maxLocals = 4 := hml0
  have hown : s.vm.findClass "com/example/astute_search/astutesearch/engine/CollectionStatistics" = some m.cls := findClass_of_methodNamed Bd.named
  have hnm := (name_of_methodNamed Bd.named Bd.method).1
  have hret := Bd.returns
  have hlocks : meth.locks = false := Bd.notSynchronized
  have X0 : Stand p l e ({ frames := 1, cells := 0, slots := 0, locals := 14 } : Room) s m #[.ref x, .int d, .long t] below meth c s₁ [] 0 0 := Stand.of_body Bd
  have e0 : s₁.heap = h0 := by rw [← hh, Bd.state]; rfl
  have N0 := Fr.nil n0
  show Own.Go p e below (Own.End s (Q_csi Z x d t h0 n0) 0 0) (s₁.setTop (entryFrame m #[.ref x, .int d, .long t] 4))
  refine Own.Go.eq (ef_csi m x d t) ?_
  have KP : Keep h0 h0 [x] := Keep.refl _ _
  refine Own.g_aloadN X0 hx (hb hby d2_0) rfl rfl 1 rfl ?_
  refine Own.g_initO X0 hx hZ hown (hw _ (List.mem_of_getElem? (i := 12) rfl)) (hw _ (List.mem_of_getElem? (i := 13) rfl)) (hw _ (List.mem_of_getElem? (i := 14) rfl)) e0 (by rw [hml]; rfl) (hb hby d2_1) (by decide) (W := 0) (Nat.le_of_ble_eq_true rfl) (by decide) 4 rfl ?_
  intro T1 X1 e1
  refine Own.g_aloadN X1 hx (hb hby d2_4) rfl rfl 5 rfl ?_
  refine Own.g_iloadN X1 hx (hb hby d2_5) rfl 6 rfl ?_
  refine Own.g_putF X1 hx hZ hown (host := "") (Or.inl (hw _ (List.mem_of_getElem? (i := 15) rfl))) Via.refl e1 F_x_documentCount E_x (Or.inr ⟨(hw _ (List.mem_of_getElem? (i := 16) rfl)), rfl, hnm⟩) (hw _ (List.mem_of_getElem? (i := 7) rfl)) (ty := .int) (by decide) rfl rfl (hb hby d2_6) 9 rfl ?_
  clear F_x_documentCount; intro T2 h2 X2 e2 W2 F_x_documentCount Ew2
  replace E_x := E_x.wr W2
  replace F_x_tokenCount := F_x_tokenCount.other W2 (Or.inr (slot_ne (Or.inr (hw _ (List.mem_of_getElem? (i := 18) rfl))) (Or.inr (hw _ (List.mem_of_getElem? (i := 16) rfl))) (by decide) (t := .long) (t' := .int) (by decide) (by decide)))
  replace O := O.wr W2 n0_x
  replace KP := KP.wr W2 (Or.inl (List.mem_of_getElem? (i := 0) rfl))
  have N2 := Fr.snoc X2 N0 n0_x
  refine Own.g_aloadN X2 hx (hb hby d2_9) rfl rfl 10 rfl ?_
  refine Own.g_lloadN X2 hx (hb hby d2_10) rfl 11 rfl ?_
  refine Own.g_putF X2 hx hZ hown (host := "") (Or.inl (hw _ (List.mem_of_getElem? (i := 17) rfl))) Via.refl e2 F_x_tokenCount E_x (Or.inr ⟨(hw _ (List.mem_of_getElem? (i := 18) rfl)), rfl, hnm⟩) (hw _ (List.mem_of_getElem? (i := 7) rfl)) (ty := .long) (by decide) rfl rfl (hb hby d2_11) 14 rfl ?_
  clear F_x_tokenCount; intro T3 h3 X3 e3 W3 F_x_tokenCount Ew3
  replace E_x := E_x.wr W3
  replace F_x_documentCount := F_x_documentCount.other W3 (Or.inr (slot_ne (Or.inr (hw _ (List.mem_of_getElem? (i := 16) rfl))) (Or.inr (hw _ (List.mem_of_getElem? (i := 18) rfl))) (by decide) (t := .int) (t' := .long) (by decide) (by decide)))
  replace O := O.wr W3 n0_x
  replace KP := KP.wr W3 (Or.inl (List.mem_of_getElem? (i := 0) rfl))
  have N3 := Fr.snoc X3 N2 n0_x
  refine Own.g_retV X3 hx hret hlocks (hb hby d2_14) (by decide) (by decide) e3 ?_
  exact ⟨rfl, N3, KP, E_x, F_x_documentCount, F_x_tokenCount⟩
theorem ef_gal (m : MethodId) (x0 : Addr) : entryFrame m #[.ref x0] 1 = mkF m 0 #[.val (.ref x0)] [] := by first | (simp [entryFrame, mkF, argsToLocals, Value.category]; done) | rfl
def Q_gal (Z : State) (x : Addr) (d : Int32) (t : Int64) (h0 : Heap) (n0 : Nat) (v : Option Value) (h : Heap) (L : List Loc) : Prop := v = some (.double (FP.ddiv (FP.l2d t) (FP.i2d d))) ∧ Fr n0 L ∧ h = h0
set_option maxRecDepth 65536 in
set_option maxHeartbeats 40000000 in
theorem rm_gal (l : Launch) (Z : State) (a0 : Array Value) (hw : ∀ d ∈ tables_1, d.before a0 Z = true) (ws : List Jvm.Cond) (x : Addr) (d : Int32) (t : Int64) (h0 : Heap) (n0 : Nat) (O : Old Z n0 h0) (E_x : Exa Z h0 x "com/example/astute_search/astutesearch/engine/CollectionStatistics") (F_x_documentCount : Fld Z h0 x "com/example/astute_search/astutesearch/engine/CollectionStatistics" "documentCount" "I" (.int d)) (F_x_tokenCount : Fld Z h0 x "com/example/astute_search/astutesearch/engine/CollectionStatistics" "tokenCount" "J" (.long t)) (hnn : Jvm.Free.Fl.NoNaN64 (FP.ddiv (FP.l2d t) (FP.i2d d))) :
    MetFree l (⟨"com/example/astute_search/astutesearch/engine/CollectionStatistics", "getAverageLength", "()D"⟩ : MethodName) (head1 (Jvm.Cond.code (⟨"com/example/astute_search/astutesearch/engine/CollectionStatistics", "getAverageLength", "()D"⟩ : MethodName) prog_9_method_4_code 1 (some .double) :: ws) ({ frames := 0, cells := 0, slots := 0, locals := 0 } : Room)) (fun aa U => aa = #[.ref x] ∧ Z.Warmed39 U.vm ∧ U.heap = h0) (fun _ _ _ _ _ => True) (fun _ U o U' => Own.End U (Q_gal Z x d t h0 n0) 0 0 o U') := by
  refine MetFree.of_bodySF (plainFor_of_name pn_0) hisR ?_
  intro p e s m args below meth c s₁ Bd hml0 hP hK
  obtain ⟨rfl, hZ, hh⟩ := hP
  have hx := Bd.exec
  have hby := Bd.bytes
  have hml : c.maxLocals = 1 := hml0
  have hown : s.vm.findClass "com/example/astute_search/astutesearch/engine/CollectionStatistics" = some m.cls := findClass_of_methodNamed Bd.named
  have hnm := (name_of_methodNamed Bd.named Bd.method).1
  have hret := Bd.returns
  have hlocks : meth.locks = false := Bd.notSynchronized
  have X0 : Stand p l e ({ frames := 0, cells := 0, slots := 0, locals := 0 } : Room) s m #[.ref x] below meth c s₁ [] 0 0 := Stand.of_body Bd
  have e0 : s₁.heap = h0 := by rw [← hh, Bd.state]; rfl
  have N0 := Fr.nil n0
  show Own.Go p e below (Own.End s (Q_gal Z x d t h0 n0) 0 0) (s₁.setTop (entryFrame m #[.ref x] 1))
  refine Own.Go.eq (ef_gal m x) ?_
  refine Own.g_aloadN X0 hx (hb hby d4_0) rfl rfl 1 rfl ?_
  refine Own.g_getF X0 hx hZ hown (host := "") (Or.inl (hw _ (List.mem_of_getElem? (i := 17) rfl))) Via.refl e0 F_x_tokenCount (hb hby d4_1) 4 rfl ?_
  intro T1 X1 e1
  refine Own.g_l2d X1 hx (hb hby d4_4) 5 rfl ?_
  refine Own.g_aloadN X1 hx (hb hby d4_5) rfl rfl 6 rfl ?_
  refine Own.g_getF X1 hx hZ hown (host := "") (Or.inl (hw _ (List.mem_of_getElem? (i := 15) rfl))) Via.refl e1 F_x_documentCount (hb hby d4_6) 9 rfl ?_
  intro T2 X2 e2
  refine Own.g_i2d X2 hx (hb hby d4_9) 10 rfl ?_
  refine Own.g_ddiv X2 hx (hb hby d4_10) hnn 11 rfl ?_
  refine Own.g_ret X2 hx hret hlocks rfl (Or.inr (Or.inr (Or.inl ⟨rfl, rfl, _, rfl⟩))) (hb hby d4_11) (by decide) (by decide) e2 ?_
  exact ⟨rfl, N0, rfl⟩
set_option maxRecDepth 65536 in
set_option maxHeartbeats 40000000 in
theorem st_50 {p : Program} {l : Launch} {e : Env} {s : State} {m : MethodId} {args : Array Value} {below : List Frame} {meth : Method} {c : Code} {T0 : State} {locs : List Loc} {Z : State} {a0 : Array Value} {hh : Heap} {n0 : Nat} {Q : Option Value → Heap → List Loc → Prop} (hQ : ∀ h L, Fr n0 L → Q (some (.int 1)) h L)  (hx : p.tables.exec = Jvm.exec) (hZ : Z.Warmed39 s.vm) (hw : ∀ d ∈ tables_1, d.before a0 Z = true) (hby : c.code = code) (hml : c.maxLocals = 19) (hown : s.vm.findClass "com/example/astute_search/astutesearch/engine/CollectionStatisticsGetAverageLengthPinLaw" = some m.cls) (hret : meth.sig.returnType = (some .boolean)) (hlocks : meth.locks = false)
    (p1 t : Int64) (p2 p3 p4 pw d : Int32) (X0 : Stand p l e room_1 s m args below meth c T0 locs 0 0) (e0 : T0.heap = hh) (N0 : Fr n0 locs) (O : Old Z n0 hh)    (hT0 : 0 ≤ t.toInt) (hT1 : t.toInt < 2 ^ 53) (hD : 1 ≤ d.toInt) (hpw : pw = 0 ∨ (¬ pw = 0 ∧ ∃ k : Nat, k ≤ 30 ∧ d.toInt = ((2 ^ k : Nat) : Int))) :
    Own.Go p e below (Own.End s Q 16 128) (T0.setTop (mkF m 50 #[.val (.long p1), .second, .val (.int p2), .val (.int p3), .val (.int p4), .val (.long t), .second, .val (.int pw), .val (.int d), .unset, .unset, .unset, .unset, .unset, .unset, .unset, .unset, .unset, .unset] [])) := by
  refine Own.g_new X0 hx hZ hown (hw _ (List.mem_of_getElem? (i := 6) rfl)) (hw _ (List.mem_of_getElem? (i := 7) rfl)) (hw _ (List.mem_of_getElem? (i := 8) rfl)) e0 (hb hby at_50) (by decide) (by decide) 53 rfl ?_
  intro T1 h1 cs X1 e1 E1 g1 E_cs D1
  have n0_cs : n0 ≤ cs := Nat.le_trans (Nat.le_of_eq O.1.symm) (Nat.le_trans O.2.1 (Nat.le_of_eq g1.symm))
  replace O := O.ext E1
  have F_cs_documentCount : Fld Z h1 cs "com/example/astute_search/astutesearch/engine/CollectionStatistics" "documentCount" "I" (.int (0 : Int32)) := D1 (Or.inr (hw _ (List.mem_of_getElem? (i := 16) rfl))) (ty := .int) (by decide)
  have F_cs_tokenCount : Fld Z h1 cs "com/example/astute_search/astutesearch/engine/CollectionStatistics" "tokenCount" "J" (.long (0 : Int64)) := D1 (Or.inr (hw _ (List.mem_of_getElem? (i := 18) rfl))) (ty := .long) (by decide)
  refine Own.g_dup X1 hx (hb hby at_53) rfl 54 rfl ?_
  refine Own.g_iload X1 hx (hb hby at_54) rfl 56 rfl ?_
  refine Own.g_lload X1 hx (hb hby at_56) rfl 58 rfl ?_
  refine Own.g_special X1 hx (y := (⟨"com/example/astute_search/astutesearch/engine/CollectionStatistics", "<init>", "(IJ)V"⟩ : MethodName)) rfl hown (mvT hZ (hw _ (List.mem_of_getElem? (i := 9) rfl))) (mvT hZ (hw _ (List.mem_of_getElem? (i := 10) rfl))) (mvT hZ (hw _ (List.mem_of_getElem? (i := 11) rfl))) (by decide) (a := cs) [.int d, .long t] (Own.back (W := 1) (rm_csi l Z a0 hw [] cs d t h1 n0 O n0_cs E_cs F_cs_documentCount F_cs_tokenCount) hZ (hw _ (List.mem_of_getElem? (i := 11) rfl)) (hw _ (List.mem_of_getElem? (i := 8) rfl)) (by decide) (by decide)) e1 (by rw [hml]; rfl) [(.ref cs)] (lenOf pd_0 rfl) rfl (Nat.le_of_ble_eq_true rfl) (hb hby at_58) (by decide) (by decide) 61 rfl ?_
  rintro _ T2 L2 X2 ⟨rfl, N2q, K2, E_cs, F_cs_documentCount, F_cs_tokenCount⟩
  have N2 := Fr.app N0 N2q
  replace O := O.keep K2 (allS n0_cs all0)
  show Own.Go p e below _ (T2.setTop (mkF m 61 #[.val (.long p1), .second, .val (.int p2), .val (.int p3), .val (.int p4), .val (.long t), .second, .val (.int pw), .val (.int d), .unset, .unset, .unset, .unset, .unset, .unset, .unset, .unset, .unset, .unset] [(.ref cs)]))
  have nn0 : Jvm.Free.Fl.NoNaN64 (FP.ddiv (FP.l2d t) (FP.i2d d)) := Jvm.Free.Fl.val64_no.mpr (Own.avg64 rfl rfl hT0 hT1 hD).1
  refine Own.g_virtual X2 hx hZ (y := (⟨"com/example/astute_search/astutesearch/engine/CollectionStatistics", "getAverageLength", "()D"⟩ : MethodName)) (z := (⟨"com/example/astute_search/astutesearch/engine/CollectionStatistics", "getAverageLength", "()D"⟩ : MethodName)) hown (mvT hZ (hw _ (List.mem_of_getElem? (i := 19) rfl))) (mvT hZ (hw _ (List.mem_of_getElem? (i := 20) rfl))) (notFace_of_selects (args := #[]) (mvT hZ (hw _ (List.mem_of_getElem? (i := 22) rfl)))) (mvT hZ (hw _ (List.mem_of_getElem? (i := 22) rfl))) (mvT hZ (hw _ (List.mem_of_getElem? (i := 21) rfl))) (by decide) (a := cs) [] (Own.back (W := 0) (rm_gal l Z a0 hw [] cs d t T2.heap n0 O E_cs F_cs_documentCount F_cs_tokenCount nn0) hZ (hw _ (List.mem_of_getElem? (i := 23) rfl)) (hw _ (List.mem_of_getElem? (i := 8) rfl)) (by decide) (by decide)) E_cs (rfl : T2.heap = T2.heap) (by rw [hml]; rfl) [] (lenOf pd_1 rfl) rfl (Nat.le_of_ble_eq_true rfl) (hb hby at_61) (by decide) (by decide) 64 rfl ?_
  rintro _ T3 L3 X3 ⟨rfl, N3q, eH3⟩
  have N3 := Fr.app N2 N3q
  show Own.Go p e below _ (T3.setTop (mkF m 64 #[.val (.long p1), .second, .val (.int p2), .val (.int p3), .val (.int p4), .val (.long t), .second, .val (.int pw), .val (.int d), .unset, .unset, .unset, .unset, .unset, .unset, .unset, .unset, .unset, .unset] [(.double (FP.ddiv (FP.l2d t) (FP.i2d d)))]))
  refine Own.g_dstore X3 hx #[.val (.long p1), .second, .val (.int p2), .val (.int p3), .val (.int p4), .val (.long t), .second, .val (.int pw), .val (.int d), .val (.double (FP.ddiv (FP.l2d t) (FP.i2d d))), .second, .unset, .unset, .unset, .unset, .unset, .unset, .unset, .unset] (hb hby at_64) rfl 66 rfl ?_
  refine Own.g_lload X3 hx (hb hby at_66) rfl 68 rfl ?_
  refine Own.g_iload X3 hx (hb hby at_68) rfl 70 rfl ?_
  refine Own.g_i2l X3 hx (hb hby at_70) 71 rfl ?_
  have hd0 : d.toInt64 ≠ 0 := fun z => by have e1 := congrArg Int64.toInt z; rw [Own.i64] at e1; have e0 : (0 : Int64).toInt = 0 := rfl; omega
  refine Own.g_ldiv X3 hx (hb hby at_71) hd0 72 rfl ?_
  refine Own.g_lstore X3 hx #[.val (.long p1), .second, .val (.int p2), .val (.int p3), .val (.int p4), .val (.long t), .second, .val (.int pw), .val (.int d), .val (.double (FP.ddiv (FP.l2d t) (FP.i2d d))), .second, .val (.long (t / (d.toInt64))), .second, .unset, .unset, .unset, .unset, .unset, .unset] (hb hby at_72) rfl 74 rfl ?_
  obtain ⟨q, hq⟩ : ∃ z : Int64, z = (t / (d.toInt64)) := ⟨_, rfl⟩
  rw [← hq]
  refine Own.g_lload X3 hx (hb hby at_74) rfl 76 rfl ?_
  refine Own.g_iload X3 hx (hb hby at_76) rfl 78 rfl ?_
  refine Own.g_i2l X3 hx (hb hby at_78) 79 rfl ?_
  refine Own.g_lrem X3 hx (hb hby at_79) hd0 80 rfl ?_
  refine Own.g_lstore X3 hx #[.val (.long p1), .second, .val (.int p2), .val (.int p3), .val (.int p4), .val (.long t), .second, .val (.int pw), .val (.int d), .val (.double (FP.ddiv (FP.l2d t) (FP.i2d d))), .second, .val (.long q), .second, .val (.long (t % (d.toInt64))), .second, .unset, .unset, .unset, .unset] (hb hby at_80) rfl 82 rfl ?_
  obtain ⟨r, hr⟩ : ∃ z : Int64, z = (t % (d.toInt64)) := ⟨_, rfl⟩
  rw [← hr]
  obtain ⟨A1, A2, A3, A4, A5⟩ := Own.avg64 hq hr hT0 hT1 hD
  show Own.Go p e below _ (T3.setTop (mkF m 82 #[.val (.long p1), .second, .val (.int p2), .val (.int p3), .val (.int p4), .val (.long t), .second, .val (.int pw), .val (.int d), .val (.double (FP.ddiv (FP.l2d t) (FP.i2d d))), .second, .val (.long q), .second, .val (.long r), .second, .unset, .unset, .unset, .unset] []))
  refine Own.g_lload X3 hx (hb hby at_82) rfl 84 rfl ?_
  refine Own.g_l2d X3 hx (hb hby at_84) 85 rfl ?_
  refine Own.g_dstore X3 hx #[.val (.long p1), .second, .val (.int p2), .val (.int p3), .val (.int p4), .val (.long t), .second, .val (.int pw), .val (.int d), .val (.double (FP.ddiv (FP.l2d t) (FP.i2d d))), .second, .val (.long q), .second, .val (.long r), .second, .val (.double (FP.l2d q)), .second, .unset, .unset] (hb hby at_85) rfl 87 rfl ?_
  refine Own.g_lload X3 hx (hb hby at_87) rfl 89 rfl ?_
  refine Own.g_lconst X3 hx (1 : Int64) (hb hby at_89) rfl 90 rfl ?_
  refine Own.g_ladd X3 hx (hb hby at_90) 91 rfl ?_
  refine Own.g_l2d X3 hx (hb hby at_91) 92 rfl ?_
  refine Own.g_dstore X3 hx #[.val (.long p1), .second, .val (.int p2), .val (.int p3), .val (.int p4), .val (.long t), .second, .val (.int pw), .val (.int d), .val (.double (FP.ddiv (FP.l2d t) (FP.i2d d))), .second, .val (.long q), .second, .val (.long r), .second, .val (.double (FP.l2d q)), .second, .val (.double (FP.l2d (q + (1 : Int64)))), .second] (hb hby at_92) rfl 94 rfl ?_
  refine Own.g_dload X3 hx (hb hby at_94) rfl 96 rfl ?_
  refine Own.g_dload X3 hx (hb hby at_96) rfl 98 rfl ?_
  refine Own.g_dcmp X3 hx (hb hby at_98) 99 rfl ?_
  refine Own.g_if_lt_f X3 hx (hb hby at_99) (Own.cv_ge A2 .l) 102 rfl ?_
  refine Own.g_dload X3 hx (hb hby at_102) rfl 104 rfl ?_
  refine Own.g_dload X3 hx (hb hby at_104) rfl 106 rfl ?_
  refine Own.g_dcmp X3 hx (hb hby at_106) 107 rfl ?_
  refine Own.g_if_le_t X3 hx (hb hby at_107) (Own.cv_le A3 .g) 112 (by decide) ?_
  refine Own.g_lload X3 hx (hb hby at_112) rfl 114 rfl ?_
  refine Own.g_lconst X3 hx (0 : Int64) (hb hby at_114) rfl 115 rfl ?_
  refine Own.g_lcmp X3 hx (hb hby at_115) 116 rfl ?_
  have hT : ∀ (Tt : State) (lt : List Loc) (Xt : Stand p l e room_1 s m args below meth c Tt lt 1 2) (et : Tt.heap = T2.heap) (Nt : Fr n0 lt) , Own.Go p e below (Own.End s Q 16 128) (Tt.setTop (mkF m 163 #[.val (.long p1), .second, .val (.int p2), .val (.int p3), .val (.int p4), .val (.long t), .second, .val (.int pw), .val (.int d), .val (.double (FP.ddiv (FP.l2d t) (FP.i2d d))), .second, .val (.long q), .second, .val (.long r), .second, .val (.double (FP.l2d q)), .second, .val (.double (FP.l2d (q + (1 : Int64)))), .second] [])) := by
    intro Tt lt Xt et Nt 
    refine Own.g_iload Xt hx (hb hby at_163) rfl 165 rfl ?_
    refine Own.g_if_eq Xt hx (hb hby at_165) 183 168 (by decide) rfl ?_ ?_
    · intro hq3
      refine Own.g_iconst Xt hx (1 : Int32) (hb hby at_183) rfl 184 rfl ?_
      refine Own.g_ret Xt hx hret hlocks rfl (Or.inl ⟨rfl, by simp, _, rfl⟩) (hb hby at_184) (by decide) (by decide) et ?_
      exact hQ _ _ Nt
    · intro hq3
      obtain ⟨k, hk_, hdk⟩ := (hpw.resolve_left hq3).2
      obtain ⟨B1, B2⟩ := Own.pow64 hT0 hT1 hk_ hdk
      refine Own.g_dload Xt hx (hb hby at_168) rfl 170 rfl ?_
      refine Own.g_iload Xt hx (hb hby at_170) rfl 172 rfl ?_
      refine Own.g_i2d Xt hx (hb hby at_172) 173 rfl ?_
      refine Own.g_dmul Xt hx (hb hby at_173) (Jvm.Free.Fl.val64_no.mpr B1) 174 rfl ?_
      refine Own.g_lload Xt hx (hb hby at_174) rfl 176 rfl ?_
      refine Own.g_l2d Xt hx (hb hby at_176) 177 rfl ?_
      refine Own.g_dcmp Xt hx (hb hby at_177) 178 rfl ?_
      refine Own.g_if_eq_t Xt hx (hb hby at_178) (Own.cv_eq B2 .l) 183 (by decide) ?_
      refine Own.g_iconst Xt hx (1 : Int32) (hb hby at_183) rfl 184 rfl ?_
      refine Own.g_ret Xt hx hret hlocks rfl (Or.inl ⟨rfl, by simp, _, rfl⟩) (hb hby at_184) (by decide) (by decide) et ?_
      exact hQ _ _ Nt
  refine Own.g_if_ne X3 hx (hb hby at_116) 129 119 (by decide) rfl ?_ ?_
  · intro hq1
    refine Own.g_lload X3 hx (hb hby at_129) rfl 131 rfl ?_
    refine Own.g_lconst X3 hx (0 : Int64) (hb hby at_131) rfl 132 rfl ?_
    refine Own.g_lcmp X3 hx (hb hby at_132) 133 rfl ?_
    refine Own.g_if_eq_f X3 hx (hb hby at_133) hq1 136 rfl ?_
    refine Own.g_lload X3 hx (hb hby at_136) rfl 138 rfl ?_
    refine Own.g_ldc2J X3 hx hown (mvT hZ (hw _ (List.mem_of_getElem? (i := 24) rfl))) (hb hby at_138) 141 rfl ?_
    refine Own.g_lcmp X3 hx (hb hby at_141) 142 rfl ?_
    refine Own.g_if_ge X3 hx (hb hby at_142) 163 145 (by decide) rfl ?_ ?_
    · intro hq2
      exact hT _ _ X3 eH3 N3 
    · intro hq2
      have B := A5 (fun z => hq1 ((lw_eq r 0).mpr z)) ((lw_lt q 2097152).mp hq2)
      refine Own.g_dload X3 hx (hb hby at_145) rfl 147 rfl ?_
      refine Own.g_dload X3 hx (hb hby at_147) rfl 149 rfl ?_
      refine Own.g_dcmp X3 hx (hb hby at_149) 150 rfl ?_
      refine Own.g_if_le_f X3 hx (hb hby at_150) (Own.cv_gt B.1 .l) 153 rfl ?_
      refine Own.g_dload X3 hx (hb hby at_153) rfl 155 rfl ?_
      refine Own.g_dload X3 hx (hb hby at_155) rfl 157 rfl ?_
      refine Own.g_dcmp X3 hx (hb hby at_157) 158 rfl ?_
      refine Own.g_if_lt_t X3 hx (hb hby at_158) (Own.cv_lt B.2 .g) 163 (by decide) ?_
      exact hT _ _ X3 eH3 N3 
  · intro hq1
    have hr0 : r = 0 := (lw_eq r 0).mp hq1
    refine Own.g_dload X3 hx (hb hby at_119) rfl 121 rfl ?_
    refine Own.g_dload X3 hx (hb hby at_121) rfl 123 rfl ?_
    refine Own.g_dcmp X3 hx (hb hby at_123) 124 rfl ?_
    refine Own.g_if_eq_t X3 hx (hb hby at_124) (Own.cv_eq (A4 hr0) .l) 129 (by decide) ?_
    refine Own.g_lload X3 hx (hb hby at_129) rfl 131 rfl ?_
    refine Own.g_lconst X3 hx (0 : Int64) (hb hby at_131) rfl 132 rfl ?_
    refine Own.g_lcmp X3 hx (hb hby at_132) 133 rfl ?_
    refine Own.g_if_eq_t X3 hx (hb hby at_133) hq1 163 (by decide) ?_
    exact hT _ _ X3 eH3 N3 
theorem ef_law (m : MethodId) (x0 : Int64) (x1 : Int32) (x2 : Int32) (x3 : Int32) : entryFrame m #[.long x0, .int x1, .int x2, .int x3] maxLocals = mkF m 0 #[.val (.long x0), .second, .val (.int x1), .val (.int x2), .val (.int x3), .unset, .unset, .unset, .unset, .unset, .unset, .unset, .unset, .unset, .unset, .unset, .unset, .unset, .unset] [] := by first | (simp [entryFrame, mkF, argsToLocals, Value.category, maxLocals]; done) | rfl
def Q_law (Z : State) (p1 : Int64) (p2 : Int32) (p3 : Int32) (p4 : Int32) (h0 : Heap) (n0 : Nat) (v : Option Value) (h : Heap) (L : List Loc) : Prop := v = some (.int 1) ∧ Fr n0 L
set_option maxRecDepth 65536 in
set_option maxHeartbeats 40000000 in
theorem rm_law (l : Launch) (Z : State) (a0 : Array Value) (hw : ∀ d ∈ tables_1, d.before a0 Z = true) (ws : List Jvm.Cond) (p1 : Int64) (p2 : Int32) (p3 : Int32) (p4 : Int32) (h0 : Heap) (n0 : Nat) (O : Old Z n0 h0)  :
    MetFree l x (head1 (Jvm.Cond.code x code maxLocals ret :: ws) room_1) (fun aa U => aa = #[.long p1, .int p2, .int p3, .int p4] ∧ Z.Warmed39 U.vm ∧ U.heap = h0) (fun _ _ _ _ _ => True) (fun _ U o U' => Own.End U (Q_law Z p1 p2 p3 p4 h0 n0) 16 128 o U') := by
  refine MetFree.of_bodySF (plainFor_of_name pn_1) hisR ?_
  intro p e s m args below meth c s₁ Bd hml0 hP hK
  obtain ⟨rfl, hZ, hh⟩ := hP
  have hx := Bd.exec
  have hby := Bd.bytes
  have hml : c.maxLocals = 19 := hml0
  have hown : s.vm.findClass "com/example/astute_search/astutesearch/engine/CollectionStatisticsGetAverageLengthPinLaw" = some m.cls := findClass_of_methodNamed Bd.named
  have hnm := (name_of_methodNamed Bd.named Bd.method).1
  have hret := Bd.returns
  have hlocks : meth.locks = false := Bd.notSynchronized
  have X0 : Stand p l e room_1 s m #[.long p1, .int p2, .int p3, .int p4] below meth c s₁ [] 0 0 := Stand.of_body Bd
  have e0 : s₁.heap = h0 := by rw [← hh, Bd.state]; rfl
  have N0 := Fr.nil n0
  show Own.Go p e below (Own.End s (Q_law Z p1 p2 p3 p4 h0 n0) 16 128) (s₁.setTop (entryFrame m #[.long p1, .int p2, .int p3, .int p4] maxLocals))
  refine Own.Go.eq (ef_law m p1 p2 p3 p4) ?_
  have hQ : ∀ h L, Fr n0 L → Q_law Z p1 p2 p3 p4 h0 n0 (some (.int 1)) h L := fun _ _ N => ⟨rfl, N⟩
  refine Own.g_lloadN X0 hx (hb hby at_0) rfl 1 rfl ?_
  refine Own.g_ldc2J X0 hx hown (mvT hZ (hw _ (List.mem_of_getElem? (i := 0) rfl))) (hb hby at_1) 4 rfl ?_
  refine Own.g_land X0 hx (hb hby at_4) 5 rfl ?_
  refine Own.g_lstore X0 hx #[.val (.long p1), .second, .val (.int p2), .val (.int p3), .val (.int p4), .val (.long (p1 &&& (9007199254740991 : Int64))), .second, .unset, .unset, .unset, .unset, .unset, .unset, .unset, .unset, .unset, .unset, .unset, .unset] (hb hby at_5) rfl 7 rfl ?_
  obtain ⟨t, ht⟩ : ∃ z : Int64, z = (p1 &&& (9007199254740991 : Int64)) := ⟨_, rfl⟩
  rw [← ht]
  have hT0 : 0 ≤ t.toInt := by rw [ht]; exact (Own.mask53 _).1
  have hT1 : t.toInt < 2 ^ 53 := by rw [ht]; exact (Own.mask53 _).2
  refine Own.g_iload X0 hx (hb hby at_7) rfl 9 rfl ?_
  refine Own.g_iconst X0 hx (1 : Int32) (hb hby at_9) rfl 10 rfl ?_
  refine Own.g_iand X0 hx (hb hby at_10) 11 rfl ?_
  refine Own.g_if_eq X0 hx (hb hby at_11) 18 14 (by decide) rfl ?_ ?_
  · intro hf
    refine Own.g_iconst X0 hx (0 : Int32) (hb hby at_18) rfl 19 rfl ?_
    refine Own.g_istore X0 hx #[.val (.long p1), .second, .val (.int p2), .val (.int p3), .val (.int p4), .val (.long t), .second, .val (.int (0 : Int32)), .unset, .unset, .unset, .unset, .unset, .unset, .unset, .unset, .unset, .unset, .unset] (hb hby at_19) rfl 21 rfl ?_
    refine Own.g_iload X0 hx (hb hby at_21) rfl 23 rfl ?_
    refine Own.g_if_eq_t X0 hx (hb hby at_23) rfl 40 (by decide) ?_
    refine Own.g_iconst X0 hx (1 : Int32) (hb hby at_40) rfl 41 rfl ?_
    refine Own.g_iloadN X0 hx (hb hby at_41) rfl 42 rfl ?_
    refine Own.g_ldcI X0 hx hown (mvT hZ (hw _ (List.mem_of_getElem? (i := 1) rfl))) (hb hby at_42) 44 rfl ?_
    refine Own.g_iand X0 hx (hb hby at_44) 45 rfl ?_
    refine Own.g_callS X0 hx (y := (⟨"java/lang/Math", "max", "(II)I"⟩ : MethodName)) hown (mvT hZ (hw _ (List.mem_of_getElem? (i := 2) rfl))) (mvT hZ (hw _ (List.mem_of_getElem? (i := 3) rfl))) (mvT hZ (hw _ (List.mem_of_getElem? (i := 4) rfl))) (mvT hZ (hw _ (List.mem_of_getElem? (i := 5) rfl))) (by decide) [.int (1 : Int32), .int (p2 &&& (2147483647 : Int32))] (Own.back (W := 0) (rm_max l Z a0 hw [] (1 : Int32) (p2 &&& (2147483647 : Int32)) h0 n0 O ) hZ (hw _ (List.mem_of_getElem? (i := 5) rfl)) (hw _ (List.mem_of_getElem? (i := 4) rfl)) (by decide) (by decide)) e0 (by rw [hml]; rfl) [] (lenOf pd_2 rfl) rfl (Nat.le_of_ble_eq_true rfl) (hb hby at_45) (by decide) (by decide) 48 rfl ?_
    rintro _ T1 L1 X1 ⟨rfl, N1q, eH1⟩
    have N1 := Fr.app N0 N1q
    show Own.Go p e below _ (T1.setTop (mkF m 48 #[.val (.long p1), .second, .val (.int p2), .val (.int p3), .val (.int p4), .val (.long t), .second, .val (.int (0 : Int32)), .unset, .unset, .unset, .unset, .unset, .unset, .unset, .unset, .unset, .unset, .unset] [(.int (if (1 : Int32) < (p2 &&& (2147483647 : Int32)) then (p2 &&& (2147483647 : Int32)) else (1 : Int32)))]))
    refine Own.g_istore X1 hx #[.val (.long p1), .second, .val (.int p2), .val (.int p3), .val (.int p4), .val (.long t), .second, .val (.int (0 : Int32)), .val (.int (if (1 : Int32) < (p2 &&& (2147483647 : Int32)) then (p2 &&& (2147483647 : Int32)) else (1 : Int32))), .unset, .unset, .unset, .unset, .unset, .unset, .unset, .unset, .unset, .unset] (hb hby at_48) rfl 50 rfl ?_
    obtain ⟨d, hd⟩ : ∃ z : Int32, z = (if (1 : Int32) < (p2 &&& (2147483647 : Int32)) then (p2 &&& (2147483647 : Int32)) else (1 : Int32)) := ⟨_, rfl⟩
    rw [← hd]
    have hD : 1 ≤ d.toInt := by rw [hd]; exact Own.max1 _
    show Own.Go p e below _ (T1.setTop (mkF m 50 #[.val (.long p1), .second, .val (.int p2), .val (.int p3), .val (.int p4), .val (.long t), .second, .val (.int (0 : Int32)), .val (.int d), .unset, .unset, .unset, .unset, .unset, .unset, .unset, .unset, .unset, .unset] []))
    exact st_50 hQ hx hZ hw hby hml hown hret hlocks p1 t p2 p3 p4 (0 : Int32) d X1 eH1 N1 O    hT0 hT1 hD (Or.inl rfl)
  · intro hf
    refine Own.g_iconst X0 hx (1 : Int32) (hb hby at_14) rfl 15 rfl ?_
    refine Own.g_goto X0 hx (hb hby at_15) 19 (by decide) ?_
    refine Own.g_istore X0 hx #[.val (.long p1), .second, .val (.int p2), .val (.int p3), .val (.int p4), .val (.long t), .second, .val (.int (1 : Int32)), .unset, .unset, .unset, .unset, .unset, .unset, .unset, .unset, .unset, .unset, .unset] (hb hby at_19) rfl 21 rfl ?_
    refine Own.g_iload X0 hx (hb hby at_21) rfl 23 rfl ?_
    refine Own.g_if_eq_f X0 hx (hb hby at_23) (by decide) 26 rfl ?_
    refine Own.g_iconst X0 hx (1 : Int32) (hb hby at_26) rfl 27 rfl ?_
    refine Own.g_iloadN X0 hx (hb hby at_27) rfl 28 rfl ?_
    refine Own.g_ldcI X0 hx hown (mvT hZ (hw _ (List.mem_of_getElem? (i := 1) rfl))) (hb hby at_28) 30 rfl ?_
    refine Own.g_iand X0 hx (hb hby at_30) 31 rfl ?_
    refine Own.g_bipush X0 hx (31 : Int32) (hb hby at_31) rfl 33 rfl ?_
    refine Own.g_irem X0 hx (hb hby at_33) (by decide) 34 rfl ?_
    refine Own.g_ishl X0 hx (hb hby at_34) 35 rfl ?_
    refine Own.g_istore X0 hx #[.val (.long p1), .second, .val (.int p2), .val (.int p3), .val (.int p4), .val (.long t), .second, .val (.int (1 : Int32)), .val (.int ((1 : Int32) <<< (((p3 &&& (2147483647 : Int32)) % (31 : Int32)) &&& 31))), .unset, .unset, .unset, .unset, .unset, .unset, .unset, .unset, .unset, .unset] (hb hby at_35) rfl 37 rfl ?_
    refine Own.g_goto X0 hx (hb hby at_37) 50 (by decide) ?_
    obtain ⟨d, hd⟩ : ∃ z : Int32, z = ((1 : Int32) <<< (((p3 &&& (2147483647 : Int32)) % (31 : Int32)) &&& 31)) := ⟨_, rfl⟩
    rw [← hd]
    obtain ⟨k, hk_, hdk⟩ := Own.pow_k p3
    rw [← hd] at hdk
    have hD : 1 ≤ d.toInt := by rw [hdk]; have := Nat.two_pow_pos k; omega
    show Own.Go p e below _ (s₁.setTop (mkF m 50 #[.val (.long p1), .second, .val (.int p2), .val (.int p3), .val (.int p4), .val (.long t), .second, .val (.int (1 : Int32)), .val (.int d), .unset, .unset, .unset, .unset, .unset, .unset, .unset, .unset, .unset, .unset] []))
    exact st_50 hQ hx hZ hw hby hml hown hret hlocks p1 t p2 p3 p4 (1 : Int32) d X0 e0 N0 O    hT0 hT1 hD (Or.inr ⟨by decide, k, hk_, hdk⟩)
set_option maxRecDepth 65536 in
set_option maxHeartbeats 40000000 in
theorem comes_1 {Post : Tables → Env → Array Value → State → Outcome → State → Prop} (hpost : ∀ tb e args s v u, (limb_1_1.after args s (.returned v) u = true ∧ limb_1_2.after args s (.returned v) u = true ∧ True) → FrameEnd s (.returned v) u (Jvm.fieldLocs frame_1_writes args s ++ Jvm.arrayLocs frame_1_arrays args s ++ Jvm.staticLocs frame_1_statics s) 16 128 → Post tb e args s (.returned v) u) :
    ArmFor flags0 classFile x code maxLocals ret World_1 tables_1 room_1 Calls_1 rest_1 Pre_1 Post := by
  intro l hfl _ _ p e ha hc hk s m args below hf hA hF happ hP
  obtain ⟨hcalls, hrest, hpre⟩ := hP
  obtain ⟨-, -, -, hnamed, -, -, -, hat⟩ := (Spec.applies_iff hf).mp happ
  obtain ⟨hg, hn⟩ := and_e (Cond.before_iff.mp (show (Jvm.Cond.and given_1 narrow_1).before args s = true from hpre))
  obtain ⟨g0, q0⟩ := and_e hg
  obtain ⟨g1, q1⟩ := and_e q0
  obtain ⟨g2, q2⟩ := and_e q1
  obtain ⟨g3, q3⟩ := and_e q2
  obtain ⟨w0, w1, w2, w3, rfl⟩ : ∃ w0 w1 w2 w3 : Value, args = #[w0, w1, w2, w3] := by
    have hs : args.size = 4 := by simpa [Cond.value, given_1] using g0
    obtain ⟨L⟩ := args
    match L, hs with
    | [w0, w1, w2, w3], _ => exact ⟨w0, w1, w2, w3, rfl⟩
  have hw := fun d (hd : d ∈ tables_1) => atoms_spec (ws := Jvm.Cond.code x code maxLocals ret :: tables_1) hat d (List.mem_cons_of_mem _ hd)
  have hfit : Fit s := fun {y c} hc i hi => by
    obtain ⟨ha, rfl⟩ := Array.getElem?_eq_some_iff.mp hc
    have q := List.all_eq_true.mp ((Array.all_eq_true_iff_forall_mem.mp hF) _ (Array.getElem_mem ha)) i (List.mem_range.mpr hi)
    simpa [Array.getElem?_eq_getElem hi] using q
  obtain ⟨i0, ei0⟩ := isL_v g1
  obtain rfl : w0 = (.long i0) := Option.some.inj ei0
  obtain ⟨i1, ei1⟩ := is_v g2
  obtain rfl : w1 = (.int i1) := Option.some.inj ei1
  obtain ⟨i2, ei2⟩ := is_v g3
  obtain rfl : w2 = (.int i2) := Option.some.inj ei2
  obtain ⟨i3, ei3⟩ := is_v q3
  obtain rfl : w3 = (.int i3) := Option.some.inj ei3
  obtain ⟨n, o, h1, h2, h3, v, L, rfl, ⟨rfl, N⟩, hq⟩ := rm_law l s _ hw tables_1 i0 i1 i2 i3 s.heap s.heap.size (Old.start s) p e ha hc hk s m _ below hf ((Spec.applies_iff_loose hf).mp happ).1 ⟨rfl, State.Warmed39.refl s, rfl⟩ trivial
  refine ⟨n, _, h1, h2, h3, hpost _ _ _ _ _ _ ⟨Cond.after_iff.mpr rfl, Cond.after_iff.mpr (eq_i res_at (Term.int_eval (1)) rfl), trivial⟩ ⟨hq.1, hq.2.1, (hq.2.2.sift fun y hy => Or.inr (N y hy)).mono (by decide) (by decide)⟩⟩
theorem main_1_1 : Claimed_1_1 := comes_1 fun _ _ _ _ _ _ h hF => ⟨h.1, hF⟩
theorem main_1_2 : Claimed_1_2 := comes_1 fun _ _ _ _ _ _ h hF => ⟨h.2.1, hF⟩
end Jvm.Pilot.@@N@@
namespace Jvm.Pilot.@@N@@
open Jvm Jvm.ClassFile Sem Op Lib Jvm.Free Jvm.Stand Jvm.Pilot.@@N@@.Jvm.D
/-! MADE BY PROGRAM (witnessworld.py) out of the Statement's table words and the real class files: 10 classes; the members and pool entries that the words name. The judged class is class 1, her method 1. -/
namespace start1
open Jvm.ClassFile
def u (s : String) : CpInfo := .utf8 (stringToUtf16 s)
/-- a pool by its gaps: so many unusable entries, then the entry; so many at the end -/
def gap : Nat → List CpInfo → List CpInfo
  | 0, r => r
  | n + 1, r => .unusable :: gap n r
def poolList (es : List (Nat × CpInfo)) (last : Nat) : List CpInfo := es.foldr (fun e r => gap e.1 (e.2 :: r)) (gap last [])
def pool (es : List (Nat × CpInfo)) (last : Nat) : Array CpInfo := ⟨poolList es last⟩
def fileOf (pool : Array CpInfo) (this : Nat) (attrs : Array Attribute := #[]) (ms : Array MethodInfo := #[]) (fl : Nat := 33) (sup : Nat := 0) (ifs : Array Nat := #[]) (fds : Array FieldInfo := #[]) : ClassFile where
  minorVersion := 0
  majorVersion := 65
  constantPool := pool
  accessFlags := fl
  thisClass := this
  superClass := sup
  interfaces := ifs
  fields := fds
  methods := ms
  attributes := attrs
def plain (name : String) (sup : Option ClassId) : Class where
  name := name
  kind := .ordinary
  loader := none
  accessFlags := 33
  super := sup
  interfaces := #[]
  cf := none
  fields := #[]
  methods := #[]
  instanceTypes := #[]
  staticTypes := #[]
  resolved := #[]
  callSites := []
  init := .initialized
  statics := none
  mirror := none

def pool0 : Array CpInfo := pool [(5, u "<init>"), (0, u "()V"), (1, .class_ 10), (1, u "java/lang/Object")] 113

def k0c0 : Code := { maxStack := 0, maxLocals := 1, code := object_method_1_code, exceptionTable := #[], attributes := #[] }
def k0m0 : Method := { name := "<init>", desc := "()V", sig := { parameters := [], returnType := none }, accessFlags := 1, code := some k0c0 }
/-- java/lang/Object -/
def k0 : Class := { plain "java/lang/Object" none with
  accessFlags := 33
  interfaces := #[]
  cf := some (fileOf pool0 8 #[] #[{ accessFlags := 1, nameIndex := 5, descriptorIndex := 6, attributes := #[] }] 33 0 #[] #[])
  fields := #[]
  methods := #[k0m0]
  instanceTypes := #[]
  staticTypes := #[]
  resolved := Array.replicate 124 none
  statics := none }

def pool1 : Array CpInfo := pool [(2, .class_ 4), (1, u "java/lang/Object"), (0, u "<init>"), (0, u "()V"), (0, .long 9007199254740991), (1, .integer 2147483647), (0, .methodref 11 12), (0, .class_ 13), (0, .nameAndType 14 15), (0, u "java/lang/Math"), (0, u "max"), (0, u "(II)I"), (0, .class_ 17), (0, u "com/example/astute_search/astutesearch/engine/CollectionStatistics"), (0, .methodref 16 19), (0, .nameAndType 5 20), (0, u "(IJ)V"), (0, .methodref 16 22), (0, .nameAndType 23 24), (0, u "getAverageLength"), (0, u "()D"), (0, .long 2097152), (1, .class_ 28), (0, u "com/example/astute_search/astutesearch/engine/CollectionStatisticsGetAverageLengthPinLaw"), (2, u "law"), (0, u "(JIII)Z")] 3

def k1m0 : Method := { name := "<init>", desc := "()V", sig := { parameters := [], returnType := none }, accessFlags := 2, code := none }
def k1c1 : Code := { maxStack := 5, maxLocals := 19, code := code, exceptionTable := #[], attributes := #[] }
def k1m1 : Method := { name := "law", desc := "(JIII)Z", sig := { parameters := [.long, .int, .int, .int], returnType := some .boolean }, accessFlags := 9, code := some k1c1 }
/-- com/example/astute_search/astutesearch/engine/CollectionStatisticsGetAverageLengthPinLaw -/
def k1 : Class := { plain "com/example/astute_search/astutesearch/engine/CollectionStatisticsGetAverageLengthPinLaw" (some 0) with
  accessFlags := 49
  interfaces := #[]
  cf := some (fileOf pool1 27 #[] #[{ accessFlags := 2, nameIndex := 5, descriptorIndex := 6, attributes := #[] }, { accessFlags := 9, nameIndex := 31, descriptorIndex := 32, attributes := #[] }] 49 2 #[] #[])
  fields := #[]
  methods := #[k1m0, k1m1]
  instanceTypes := #[]
  staticTypes := #[]
  resolved := Array.replicate 36 none
  statics := none }

def pool2 : Array CpInfo := pool [(1, .class_ 2), (0, u "java/lang/Math"), (1, .class_ 6), (1, u "java/lang/Object"), (0, u "<init>"), (0, u "()V"), (89, .class_ 100), (1, u "java/lang/Math$RandomNumberGeneratorHolder"), (71, u "negativeZeroFloatBits"), (0, u "J"), (2, u "negativeZeroDoubleBits"), (21, u "max"), (46, u "$assertionsDisabled"), (0, u "Z"), (88, u "(II)I"), (2, u "twoToTheDoubleScaleDown"), (0, u "D"), (4, u "twoToTheDoubleScaleUp"), (9, u "E"), (3, u "PI"), (2, u "TAU"), (2, u "DEGREES_TO_RADIANS"), (0, u "RADIANS_TO_DEGREES")] 94

def k2m0 : Method := { name := "<init>", desc := "()V", sig := { parameters := [], returnType := none }, accessFlags := 2, code := none }
def k2c1 : Code := { maxStack := 2, maxLocals := 2, code := jdk_29_method_65_code, exceptionTable := #[], attributes := #[] }
def k2m1 : Method := { name := "max", desc := "(II)I", sig := { parameters := [.int, .int], returnType := some .int }, accessFlags := 9, code := some k2c1 }
/-- java/lang/Math -/
def k2 : Class := { plain "java/lang/Math" (some 0) with
  accessFlags := 49
  interfaces := #[]
  cf := some (fileOf pool2 1 #[.nestMembers #[98]] #[{ accessFlags := 2, nameIndex := 7, descriptorIndex := 8, attributes := #[] }, { accessFlags := 9, nameIndex := 198, descriptorIndex := 335, attributes := #[] }] 49 4 #[] #[{ accessFlags := 25, nameIndex := 354, descriptorIndex := 339, attributes := #[] }, { accessFlags := 25, nameIndex := 358, descriptorIndex := 339, attributes := #[] }, { accessFlags := 25, nameIndex := 361, descriptorIndex := 339, attributes := #[] }, { accessFlags := 26, nameIndex := 364, descriptorIndex := 339, attributes := #[] }, { accessFlags := 26, nameIndex := 365, descriptorIndex := 339, attributes := #[] }, { accessFlags := 26, nameIndex := 172, descriptorIndex := 173, attributes := #[] }, { accessFlags := 26, nameIndex := 176, descriptorIndex := 173, attributes := #[] }, { accessFlags := 8, nameIndex := 344, descriptorIndex := 339, attributes := #[] }, { accessFlags := 8, nameIndex := 338, descriptorIndex := 339, attributes := #[] }, { accessFlags := 4120, nameIndex := 245, descriptorIndex := 246, attributes := #[] }])
  fields := #[{ name := "E", type := .double, accessFlags := 25, slot := 0, constantValue := 0 }, { name := "PI", type := .double, accessFlags := 25, slot := 1, constantValue := 0 }, { name := "TAU", type := .double, accessFlags := 25, slot := 2, constantValue := 0 }, { name := "DEGREES_TO_RADIANS", type := .double, accessFlags := 26, slot := 3, constantValue := 0 }, { name := "RADIANS_TO_DEGREES", type := .double, accessFlags := 26, slot := 4, constantValue := 0 }, { name := "negativeZeroFloatBits", type := .long, accessFlags := 26, slot := 5, constantValue := 0 }, { name := "negativeZeroDoubleBits", type := .long, accessFlags := 26, slot := 6, constantValue := 0 }, { name := "twoToTheDoubleScaleUp", type := .double, accessFlags := 8, slot := 7, constantValue := 0 }, { name := "twoToTheDoubleScaleDown", type := .double, accessFlags := 8, slot := 8, constantValue := 0 }, { name := "$assertionsDisabled", type := .boolean, accessFlags := 4120, slot := 9, constantValue := 0 }]
  methods := #[k2m0, k2m1]
  instanceTypes := #[]
  staticTypes := #[.double, .double, .double, .double, .double, .long, .long, .double, .double, .boolean]
  resolved := Array.replicate 460 none
  statics := none }

def pool3 : Array CpInfo := pool [(1, .methodref 2 3), (0, .class_ 4), (0, .nameAndType 5 6), (0, u "java/lang/Object"), (0, u "<init>"), (0, u "()V"), (0, .fieldref 8 9), (0, .class_ 10), (0, .nameAndType 11 12), (0, u "com/example/astute_search/astutesearch/engine/CollectionStatistics"), (0, u "documentCount"), (0, u "I"), (0, .fieldref 8 14), (0, .nameAndType 15 16), (0, u "tokenCount"), (0, u "J"), (0, u "(IJ)V"), (6, u "getAverageLength"), (0, u "()D")] 2

def k3c0 : Code := { maxStack := 3, maxLocals := 4, code := prog_9_method_1_code, exceptionTable := #[], attributes := #[] }
def k3m0 : Method := { name := "<init>", desc := "(IJ)V", sig := { parameters := [.int, .long], returnType := none }, accessFlags := 1, code := some k3c0 }
def k3c1 : Code := { maxStack := 4, maxLocals := 1, code := prog_9_method_4_code, exceptionTable := #[], attributes := #[] }
def k3m1 : Method := { name := "getAverageLength", desc := "()D", sig := { parameters := [], returnType := some .double }, accessFlags := 1, code := some k3c1 }
/-- com/example/astute_search/astutesearch/engine/CollectionStatistics -/
def k3 : Class := { plain "com/example/astute_search/astutesearch/engine/CollectionStatistics" (some 0) with
  accessFlags := 49
  interfaces := #[]
  cf := some (fileOf pool3 8 #[] #[{ accessFlags := 1, nameIndex := 5, descriptorIndex := 17, attributes := #[] }, { accessFlags := 1, nameIndex := 24, descriptorIndex := 25, attributes := #[] }] 49 2 #[] #[{ accessFlags := 18, nameIndex := 11, descriptorIndex := 12, attributes := #[] }, { accessFlags := 18, nameIndex := 15, descriptorIndex := 16, attributes := #[] }])
  fields := #[{ name := "documentCount", type := .int, accessFlags := 18, slot := 0, constantValue := 0 }, { name := "tokenCount", type := .long, accessFlags := 18, slot := 1, constantValue := 0 }]
  methods := #[k3m0, k3m1]
  instanceTypes := #[.int, .long]
  staticTypes := #[]
  resolved := Array.replicate 28 none
  statics := none }

def pool4 : Array CpInfo := pool [(1, u "java/lang/Cloneable"), (0, .class_ 1), (0, u "java/lang/Object"), (0, .class_ 3)] 3

/-- java/lang/Cloneable -/
def k4 : Class := { plain "java/lang/Cloneable" (some 0) with
  accessFlags := 1537
  interfaces := #[]
  cf := some (fileOf pool4 2 #[] #[] 1537 4 #[] #[])
  fields := #[]
  methods := #[]
  instanceTypes := #[]
  staticTypes := #[]
  resolved := Array.replicate 8 none
  statics := none }

def pool5 : Array CpInfo := pool [(1, u "java/io/Serializable"), (0, .class_ 1), (0, u "java/lang/Object"), (0, .class_ 3)] 3

/-- java/io/Serializable -/
def k5 : Class := { plain "java/io/Serializable" (some 0) with
  accessFlags := 1537
  interfaces := #[]
  cf := some (fileOf pool5 2 #[] #[] 1537 4 #[] #[])
  fields := #[]
  methods := #[]
  instanceTypes := #[]
  staticTypes := #[]
  resolved := Array.replicate 8 none
  statics := none }

/-- the primitive byte -/
def k6 : Class := { plain "byte" none with kind := .primitive 'B', accessFlags := 0x411 }
/-- [B -/
def k7 : Class := { plain "[B" (some 0) with kind := .array 6 .byte, interfaces := #[4, 5], accessFlags := 1041 }

/-- the primitive int -/
def k8 : Class := { plain "int" none with kind := .primitive 'I', accessFlags := 0x411 }
/-- [I -/
def k9 : Class := { plain "[I" (some 0) with kind := .array 8 .int, interfaces := #[4, 5], accessFlags := 1041 }

def heap : Heap := #[]
def classes : Array Class := #[k0, k1, k2, k3, k4, k5, k6, k7, k8, k9]
def interned : List (Array UInt16 × Addr) := []
def slotsUsed : Nat := 0
def theMethod : MethodId := ⟨1, 1⟩
def args0 : Array Value := #[.long 1000, .int 7, .int 3, .int 1]
def aboutOver (below : List Frame) : State where
  vm := { classes := classes, interned := interned.toArray }
  heap := heap
  slotsUsed := slotsUsed
  threads := #[{ frames := .invoking theMethod args0 :: below }]
def below0 : List Frame := [.native { method := ⟨0, 0⟩, args := #[] }]
def about1 : State := aboutOver below0
def p0 : Program := .bare "" "" ""
def e0 : Env := launch0.env 0 0 0
theorem w_frames : about1.frames = Frame.invoking theMethod args0 :: below0 := rfl
set_option maxRecDepth 65536 in
theorem w_args : argsFit about1.vm theMethod args0 = true := by decide +kernel
set_option maxRecDepth 65536 in
theorem w_heap : heapFits about1 = true := by decide +kernel
set_option maxRecDepth 65536 in
theorem w_runnable : about1.curStatus? = some .runnable := by decide +kernel
set_option maxRecDepth 65536 in
theorem w_alone : about1.alone = true := by decide +kernel
set_option maxRecDepth 65536 in
theorem w_named : about1.methodNamed? x = some theMethod := by decide +kernel
set_option maxRecDepth 65536 in
theorem w_hears : about1.hears theMethod below0 = true := by decide +kernel
set_option maxRecDepth 65536 in
theorem w_ripe : about1.ripe theMethod args0 below0 = true := by decide +kernel
theorem w_running : about1.status = .running := rfl
set_option maxRecDepth 65536 in
theorem w_room : about1.hasRoom e0.platform room_1 = true :=
  launch0.hasRoom_least _ room_1 (by decide +kernel) (by decide +kernel) (by decide +kernel) (by decide +kernel) (by decide +kernel) (by decide +kernel)
theorem allAtoms_all (ts : List Jvm.Cond) (a : Array Jvm.Value) (st : Jvm.State) : (allAtoms ts).before a st = ts.all (fun c => c.before a st) := by
  induction ts with
  | nil => rfl
  | cons c t ih =>
    show (Jvm.Cond.and c (allAtoms t)).before a st = _
    rw [Jvm.Cond.before_and, ih, List.all_cons]
def words1 : List Jvm.Cond := Jvm.Cond.code x code maxLocals ret :: tables_1
/-- a 'code' word, met by the world's own term for the bytes: nothing is compared byte by byte -/
theorem code_word {y : MethodName} {bytes : ByteArray} {mx : Nat} {rt : Option FieldType} {a : Array Value} {s : State} {m : MethodId} {meth : Method} {c : Code} (h1 : s.methodNamed? y = some m) (h2 : s.vm.method? m = some meth) (h3 : meth.code = some c) (h4 : c.code = bytes)
    (h5 : (c.maxLocals == mx && c.exceptionTable.isEmpty && decide (c.maxStack ≤ mostOperands) && decide (meth.sig.returnType = rt) && !meth.locks && decide (parseMethodDescriptor y.desc = some meth.sig)) = true) : (Jvm.Cond.code y bytes mx rt).before a s = true := by
  simp only [Bool.and_eq_true, beq_iff_eq, Bool.not_eq_true', decide_eq_true_eq] at h5
  obtain ⟨⟨⟨⟨⟨g1, g2⟩, g3⟩, g4⟩, g5⟩, g6⟩ := h5
  simp [Cond.before, Cond.holds, Cond.value, h1, h2, h3, h4, g1, g2, g3, g4, g5, g6]
def isCode : Jvm.Cond → Bool
  | .code _ _ _ _ => true
  | _ => false
theorem all_split {L : List Jvm.Cond} {P : Jvm.Cond → Bool} (h1 : L.all (fun c => isCode c || P c) = true) (h2 : ∀ c ∈ L.filter isCode, P c = true) : L.all P = true := by
  refine List.all_eq_true.mpr fun c hc => ?_
  have h := List.all_eq_true.mp h1 c hc
  rcases Bool.eq_false_or_eq_true (isCode c) with hi | hi
  · exact h2 c (List.mem_filter.mpr ⟨hc, hi⟩)
  · simpa [hi] using h
set_option maxRecDepth 65536 in
theorem w_c0 : (Jvm.Cond.code x code maxLocals ret).before args0 about1 = true := code_word (m := ⟨1, 1⟩) (meth := k1m1) (c := k1c1) (by decide +kernel) rfl rfl rfl (by decide +kernel)
set_option maxRecDepth 65536 in
theorem w_c1 : (Jvm.Cond.code ({ cls := "java/lang/Math", name := "max", desc := "(II)I" } : Jvm.MethodName) jdk_29_method_65_code (2 : Nat) (Option.some Jvm.ClassFile.FieldType.int)).before args0 about1 = true := code_word (m := ⟨2, 1⟩) (meth := k2m1) (c := k2c1) (by decide +kernel) rfl rfl rfl (by decide +kernel)
set_option maxRecDepth 65536 in
theorem w_c2 : (Jvm.Cond.code ({ cls := "com/example/astute_search/astutesearch/engine/CollectionStatistics", name := "<init>", desc := "(IJ)V" } : Jvm.MethodName) prog_9_method_1_code (4 : Nat) (Option.none : Option Jvm.ClassFile.FieldType)).before args0 about1 = true := code_word (m := ⟨3, 0⟩) (meth := k3m0) (c := k3c0) (by decide +kernel) rfl rfl rfl (by decide +kernel)
set_option maxRecDepth 65536 in
theorem w_c3 : (Jvm.Cond.code ({ cls := "java/lang/Object", name := "<init>", desc := "()V" } : Jvm.MethodName) object_method_1_code (1 : Nat) (Option.none : Option Jvm.ClassFile.FieldType)).before args0 about1 = true := code_word (m := ⟨0, 0⟩) (meth := k0m0) (c := k0c0) (by decide +kernel) rfl rfl rfl (by decide +kernel)
set_option maxRecDepth 65536 in
theorem w_c4 : (Jvm.Cond.code ({ cls := "com/example/astute_search/astutesearch/engine/CollectionStatistics", name := "getAverageLength", desc := "()D" } : Jvm.MethodName) prog_9_method_4_code (1 : Nat) (Option.some Jvm.ClassFile.FieldType.double)).before args0 about1 = true := code_word (m := ⟨3, 1⟩) (meth := k3m1) (c := k3c1) (by decide +kernel) rfl rfl rfl (by decide +kernel)
def codes1 : List Jvm.Cond := [Jvm.Cond.code x code maxLocals ret, Jvm.Cond.code ({ cls := "java/lang/Math", name := "max", desc := "(II)I" } : Jvm.MethodName) jdk_29_method_65_code (2 : Nat) (Option.some Jvm.ClassFile.FieldType.int), Jvm.Cond.code ({ cls := "com/example/astute_search/astutesearch/engine/CollectionStatistics", name := "<init>", desc := "(IJ)V" } : Jvm.MethodName) prog_9_method_1_code (4 : Nat) (Option.none : Option Jvm.ClassFile.FieldType), Jvm.Cond.code ({ cls := "java/lang/Object", name := "<init>", desc := "()V" } : Jvm.MethodName) object_method_1_code (1 : Nat) (Option.none : Option Jvm.ClassFile.FieldType), Jvm.Cond.code ({ cls := "com/example/astute_search/astutesearch/engine/CollectionStatistics", name := "getAverageLength", desc := "()D" } : Jvm.MethodName) prog_9_method_4_code (1 : Nat) (Option.some Jvm.ClassFile.FieldType.double)]
set_option maxRecDepth 65536 in
theorem codes_eq : words1.filter isCode = codes1 := rfl
theorem w_codes : ∀ c ∈ words1.filter isCode, c.before args0 about1 = true := by
  rw [codes_eq]
  intro c hc
  simp only [codes1, List.mem_cons, List.not_mem_nil, or_false] at hc
  rcases hc with rfl | rfl | rfl | rfl | rfl
  · exact w_c0
  · exact w_c1
  · exact w_c2
  · exact w_c3
  · exact w_c4
set_option maxRecDepth 65536 in
theorem w_t1 : (words1.take 24).all (fun c => isCode c || c.before args0 about1) = true := by decide +kernel
set_option maxRecDepth 65536 in
theorem w_t2 : (words1.drop 24).all (fun c => isCode c || c.before args0 about1) = true := by decide +kernel
theorem w_tables : (allAtoms (Jvm.Cond.code x code maxLocals ret :: tables_1)).before args0 about1 = true := by
  rw [allAtoms_all]
  show words1.all (fun c => c.before args0 about1) = true
  refine all_split ?_ w_codes
  rw [← List.take_append_drop 24 words1, List.all_append, w_t1, w_t2]
  rfl
set_option maxRecDepth 65536 in
theorem w_case : (Jvm.Cond.and given_1 narrow_1).before args0 about1 = true := by decide +kernel
theorem w_applies : (headSpec (Jvm.Cond.code x code maxLocals ret :: tables_1) room_1).applies x e0.platform about1 = true :=
  (Spec.applies_iff w_frames).mpr ⟨w_running, w_runnable, w_alone, w_named, w_hears, w_ripe, w_room, w_tables⟩
theorem atStart : AtStart classFile x code maxLocals ret World_1 tables_1 room_1 Calls_1 rest_1 Pre_1 launch0 p0 e0 about1 theMethod args0 below0 :=
  ⟨lists_1, trivial, launch0.admits_env _ _ _, launch0.least_env, fairChoices_fair.cas, fairChoices_fair.clock, w_frames, w_args, w_heap, w_applies, trivial, trivial, w_case⟩
end start1
theorem witness_1 : WitnessClaimed_1 := ⟨start1.p0, start1.e0, start1.about1, start1.theMethod, start1.args0, start1.below0, start1.atStart⟩
end Jvm.Pilot.@@N@@
