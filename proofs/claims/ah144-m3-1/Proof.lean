import JvmDerived
import JvmDerived.Pilot.@@N@@Statement
import JvmDerived.Pilot.@@N@@Code
set_option linter.unusedVariables false
set_option linter.unusedSimpArgs false
namespace Jvm.Own
open Jvm Sem ClassFile Op Lib Jvm.Stand Jvm.Free Jvm.LawKit Jvm.RoadKit
/-- the run from S ends well: it returns with P -/
def Go (p : Program) (e : Env) (below : List Frame) (P : Outcome → State → Prop) (S : State) : Prop := ∃ s₂ o, Steps p.tables e below S s₂ ∧ s₂.status = .running ∧ Ended s₂ below o ∧ P o s₂
section Steps
variable {p : Program} {l : Launch} {e : Env} {R : Room} {s : State} {m : MethodId} {args : Array Value} {below : List Frame} {meth : Method} {c : Code} {T : State} {locs : List Loc} {cells slots : Nat} {P : Outcome → State → Prop} {pc : Nat} {Ls : Array Slot} {st : List Value}
theorem Go.mv {S S' : State} (k : ∀ target, Steps p.tables e below S' target → Steps p.tables e below S target) (g : Go p e below P S') : Go p e below P S := by
  obtain ⟨s2, o, h1, h2⟩ := g
  exact ⟨s2, o, k _ h1, h2⟩
theorem Go.tr {S S' : State} (k : Steps p.tables e below S S') (g : Go p e below P S') : Go p e below P S := Go.mv (fun _ h => k.trans h) g
theorem Go.eq {S : State} {g g' : JFrame} (q : g = g') (k : Go p e below P (S.setTop g')) : Go p e below P (S.setTop g) := q ▸ k
theorem g_iload (X : Stand p l e R s m args below meth c T locs cells slots) (hx : p.tables.exec = Jvm.exec) {k : Nat} {v : Int32} (hd : decode c.code pc = .ok (.iload k, 2)) (hl : Ls[k]? = some (.val (.int v))) (pc' : Nat) (hp : pc + 2 = pc') (K : Go p e below P (T.setTop (mkF m pc' Ls (.int v :: st)))) : Go p e below P (T.setTop (mkF m pc Ls st)) := by
  subst hp; exact Go.mv (fun _ h => XS.iload X.here hx rfl hd hl h) K
theorem g_iloadN (X : Stand p l e R s m args below meth c T locs cells slots) (hx : p.tables.exec = Jvm.exec) {k : Fin 4} {v : Int32} (hd : decode c.code pc = .ok (.iload_n k, 1)) (hl : Ls[k.val]? = some (.val (.int v))) (pc' : Nat) (hp : pc + 1 = pc') (K : Go p e below P (T.setTop (mkF m pc' Ls (.int v :: st)))) : Go p e below P (T.setTop (mkF m pc Ls st)) := by
  subst hp; exact Go.mv (fun _ h => XS.iloadN X.here hx rfl hd hl h) K
theorem g_istore (X : Stand p l e R s m args below meth c T locs cells slots) (hx : p.tables.exec = Jvm.exec) {k : Nat} {v : Int32} (l' : Array Slot) (hd : decode c.code pc = .ok (.istore k, 2)) (hl : storeLocals Ls k (.int v) = some l') (pc' : Nat) (hp : pc + 2 = pc') (K : Go p e below P (T.setTop (mkF m pc' l' st))) : Go p e below P (T.setTop (mkF m pc Ls (.int v :: st))) := by
  subst hp; exact Go.mv (fun _ h => XS.istore X.here hx rfl hd rfl hl h) K
theorem g_istoreN (X : Stand p l e R s m args below meth c T locs cells slots) (hx : p.tables.exec = Jvm.exec) {k : Fin 4} {v : Int32} (l' : Array Slot) (hd : decode c.code pc = .ok (.istore_n k, 1)) (hl : storeLocals Ls k.val (.int v) = some l') (pc' : Nat) (hp : pc + 1 = pc') (K : Go p e below P (T.setTop (mkF m pc' l' st))) : Go p e below P (T.setTop (mkF m pc Ls (.int v :: st))) := by
  subst hp; exact Go.mv (fun _ h => XS.istoreN X.here hx rfl hd rfl hl h) K
theorem g_lload (X : Stand p l e R s m args below meth c T locs cells slots) (hx : p.tables.exec = Jvm.exec) {k : Nat} {v : Int64} (hd : decode c.code pc = .ok (.lload k, 2)) (hl : Ls[k]? = some (.val (.long v))) (pc' : Nat) (hp : pc + 2 = pc') (K : Go p e below P (T.setTop (mkF m pc' Ls (.long v :: st)))) : Go p e below P (T.setTop (mkF m pc Ls st)) := by
  subst hp; exact Go.mv (fun _ h => XS.lload X.here hx rfl hd hl h) K
theorem g_lloadN (X : Stand p l e R s m args below meth c T locs cells slots) (hx : p.tables.exec = Jvm.exec) {k : Fin 4} {v : Int64} (hd : decode c.code pc = .ok (.lload_n k, 1)) (hl : Ls[k.val]? = some (.val (.long v))) (pc' : Nat) (hp : pc + 1 = pc') (K : Go p e below P (T.setTop (mkF m pc' Ls (.long v :: st)))) : Go p e below P (T.setTop (mkF m pc Ls st)) := by
  subst hp; exact Go.mv (fun _ h => XS.lloadN X.here hx rfl hd hl h) K
theorem g_lstore (X : Stand p l e R s m args below meth c T locs cells slots) (hx : p.tables.exec = Jvm.exec) {k : Nat} {v : Int64} (l' : Array Slot) (hd : decode c.code pc = .ok (.lstore k, 2)) (hl : storeLocals Ls k (.long v) = some l') (pc' : Nat) (hp : pc + 2 = pc') (K : Go p e below P (T.setTop (mkF m pc' l' st))) : Go p e below P (T.setTop (mkF m pc Ls (.long v :: st))) := by
  subst hp; exact Go.mv (fun _ h => XS.lstore X.here hx rfl hd rfl hl h) K
theorem g_lstoreN (X : Stand p l e R s m args below meth c T locs cells slots) (hx : p.tables.exec = Jvm.exec) {k : Fin 4} {v : Int64} (l' : Array Slot) (hd : decode c.code pc = .ok (.lstore_n k, 1)) (hl : storeLocals Ls k.val (.long v) = some l') (pc' : Nat) (hp : pc + 1 = pc') (K : Go p e below P (T.setTop (mkF m pc' l' st))) : Go p e below P (T.setTop (mkF m pc Ls (.long v :: st))) := by
  subst hp; exact Go.mv (fun _ h => XS.lstoreN X.here hx rfl hd rfl hl h) K
theorem g_aload (X : Stand p l e R s m args below meth c T locs cells slots) (hx : p.tables.exec = Jvm.exec) {k : Nat} {v : Value} (hd : decode c.code pc = .ok (.aload k, 2)) (hl : Ls[k]? = some (.val v)) (hv : v.isRef = true) (pc' : Nat) (hp : pc + 2 = pc') (K : Go p e below P (T.setTop (mkF m pc' Ls (v :: st)))) : Go p e below P (T.setTop (mkF m pc Ls st)) := by
  subst hp; exact Go.mv (fun _ h => XS.aload X.here hx rfl hd hl hv h) K
theorem g_aloadN (X : Stand p l e R s m args below meth c T locs cells slots) (hx : p.tables.exec = Jvm.exec) {k : Fin 4} {v : Value} (hd : decode c.code pc = .ok (.aload_n k, 1)) (hl : Ls[k.val]? = some (.val v)) (hv : v.isRef = true) (pc' : Nat) (hp : pc + 1 = pc') (K : Go p e below P (T.setTop (mkF m pc' Ls (v :: st)))) : Go p e below P (T.setTop (mkF m pc Ls st)) := by
  subst hp; exact Go.mv (fun _ h => XS.aloadN X.here hx rfl hd hl hv h) K
theorem g_astore (X : Stand p l e R s m args below meth c T locs cells slots) (hx : p.tables.exec = Jvm.exec) {k : Nat} {v : Value} (l' : Array Slot) (hd : decode c.code pc = .ok (.astore k, 2)) (hv : v.isRef = true) (hl : storeLocals Ls k v = some l') (pc' : Nat) (hp : pc + 2 = pc') (K : Go p e below P (T.setTop (mkF m pc' l' st))) : Go p e below P (T.setTop (mkF m pc Ls (v :: st))) := by
  subst hp; exact Go.mv (fun _ h => XS.astore X.here hx rfl hd rfl hv hl h) K
theorem g_astoreN (X : Stand p l e R s m args below meth c T locs cells slots) (hx : p.tables.exec = Jvm.exec) {k : Fin 4} {v : Value} (l' : Array Slot) (hd : decode c.code pc = .ok (.astore_n k, 1)) (hv : v.isRef = true) (hl : storeLocals Ls k.val v = some l') (pc' : Nat) (hp : pc + 1 = pc') (K : Go p e below P (T.setTop (mkF m pc' l' st))) : Go p e below P (T.setTop (mkF m pc Ls (v :: st))) := by
  subst hp; exact Go.mv (fun _ h => XS.astoreN X.here hx rfl hd rfl hv hl h) K
theorem g_iconst (X : Stand p l e R s m args below meth c T locs cells slots) (hx : p.tables.exec = Jvm.exec) {i : Int} (v : Int32) (hd : decode c.code pc = .ok (.iconst i, 1)) (hv : Int32.ofInt i = v) (pc' : Nat) (hp : pc + 1 = pc') (K : Go p e below P (T.setTop (mkF m pc' Ls (.int v :: st)))) : Go p e below P (T.setTop (mkF m pc Ls st)) := by
  subst hp hv; exact Go.mv (fun _ h => XS.iconst X.here hx rfl hd h) K
theorem g_bipush (X : Stand p l e R s m args below meth c T locs cells slots) (hx : p.tables.exec = Jvm.exec) {i : Int} (v : Int32) (hd : decode c.code pc = .ok (.bipush i, 2)) (hv : (Int8.ofInt i).toInt32 = v) (pc' : Nat) (hp : pc + 2 = pc') (K : Go p e below P (T.setTop (mkF m pc' Ls (.int v :: st)))) : Go p e below P (T.setTop (mkF m pc Ls st)) := by
  subst hp hv; exact Go.mv (fun _ h => XS.bipush X.here hx rfl hd h) K
theorem g_sipush (X : Stand p l e R s m args below meth c T locs cells slots) (hx : p.tables.exec = Jvm.exec) {i : Int} (v : Int32) (hd : decode c.code pc = .ok (.sipush i, 3)) (hv : (Int16.ofInt i).toInt32 = v) (pc' : Nat) (hp : pc + 3 = pc') (K : Go p e below P (T.setTop (mkF m pc' Ls (.int v :: st)))) : Go p e below P (T.setTop (mkF m pc Ls st)) := by
  subst hp hv; exact Go.mv (fun _ h => XS.sipush X.here hx rfl hd h) K
theorem g_lconst (X : Stand p l e R s m args below meth c T locs cells slots) (hx : p.tables.exec = Jvm.exec) {k : Fin 2} (v : Int64) (hd : decode c.code pc = .ok (.lconst k, 1)) (hv : Int64.ofNat k = v) (pc' : Nat) (hp : pc + 1 = pc') (K : Go p e below P (T.setTop (mkF m pc' Ls (.long v :: st)))) : Go p e below P (T.setTop (mkF m pc Ls st)) := by
  subst hp hv; exact Go.mv (fun _ h => XS.lconst X.here hx rfl hd h) K
theorem g_aconstNull (X : Stand p l e R s m args below meth c T locs cells slots) (hx : p.tables.exec = Jvm.exec)  (hd : decode c.code pc = .ok (.aconst_null, 1))  (pc' : Nat) (hp : pc + 1 = pc') (K : Go p e below P (T.setTop (mkF m pc' Ls (.null :: st)))) : Go p e below P (T.setTop (mkF m pc Ls st)) := by
  subst hp; exact Go.mv (fun _ h => XS.aconstNull X.here hx rfl hd  h) K
theorem g_iadd (X : Stand p l e R s m args below meth c T locs cells slots) (hx : p.tables.exec = Jvm.exec) {x y : Int32} (hd : decode c.code pc = .ok (.iadd, 1))  (pc' : Nat) (hp : pc + 1 = pc') (K : Go p e below P (T.setTop (mkF m pc' Ls (.int (x + y) :: st)))) : Go p e below P (T.setTop (mkF m pc Ls (.int y :: .int x :: st))) := by
  subst hp; exact Go.mv (fun _ h => XS.iadd X.here hx rfl hd rfl h) K
theorem g_ladd (X : Stand p l e R s m args below meth c T locs cells slots) (hx : p.tables.exec = Jvm.exec) {x y : Int64} (hd : decode c.code pc = .ok (.ladd, 1))  (pc' : Nat) (hp : pc + 1 = pc') (K : Go p e below P (T.setTop (mkF m pc' Ls (.long (x + y) :: st)))) : Go p e below P (T.setTop (mkF m pc Ls (.long y :: .long x :: st))) := by
  subst hp; exact Go.mv (fun _ h => XS.ladd X.here hx rfl hd rfl h) K
theorem g_isub (X : Stand p l e R s m args below meth c T locs cells slots) (hx : p.tables.exec = Jvm.exec) {x y : Int32} (hd : decode c.code pc = .ok (.isub, 1))  (pc' : Nat) (hp : pc + 1 = pc') (K : Go p e below P (T.setTop (mkF m pc' Ls (.int (x - y) :: st)))) : Go p e below P (T.setTop (mkF m pc Ls (.int y :: .int x :: st))) := by
  subst hp; exact Go.mv (fun _ h => XS.isub X.here hx rfl hd rfl h) K
theorem g_lsub (X : Stand p l e R s m args below meth c T locs cells slots) (hx : p.tables.exec = Jvm.exec) {x y : Int64} (hd : decode c.code pc = .ok (.lsub, 1))  (pc' : Nat) (hp : pc + 1 = pc') (K : Go p e below P (T.setTop (mkF m pc' Ls (.long (x - y) :: st)))) : Go p e below P (T.setTop (mkF m pc Ls (.long y :: .long x :: st))) := by
  subst hp; exact Go.mv (fun _ h => XS.lsub X.here hx rfl hd rfl h) K
theorem g_imul (X : Stand p l e R s m args below meth c T locs cells slots) (hx : p.tables.exec = Jvm.exec) {x y : Int32} (hd : decode c.code pc = .ok (.imul, 1))  (pc' : Nat) (hp : pc + 1 = pc') (K : Go p e below P (T.setTop (mkF m pc' Ls (.int (x * y) :: st)))) : Go p e below P (T.setTop (mkF m pc Ls (.int y :: .int x :: st))) := by
  subst hp; exact Go.mv (fun _ h => XS.imul X.here hx rfl hd rfl h) K
theorem g_lmul (X : Stand p l e R s m args below meth c T locs cells slots) (hx : p.tables.exec = Jvm.exec) {x y : Int64} (hd : decode c.code pc = .ok (.lmul, 1))  (pc' : Nat) (hp : pc + 1 = pc') (K : Go p e below P (T.setTop (mkF m pc' Ls (.long (x * y) :: st)))) : Go p e below P (T.setTop (mkF m pc Ls (.long y :: .long x :: st))) := by
  subst hp; exact Go.mv (fun _ h => XS.lmul X.here hx rfl hd rfl h) K
theorem g_iand (X : Stand p l e R s m args below meth c T locs cells slots) (hx : p.tables.exec = Jvm.exec) {x y : Int32} (hd : decode c.code pc = .ok (.iand, 1))  (pc' : Nat) (hp : pc + 1 = pc') (K : Go p e below P (T.setTop (mkF m pc' Ls (.int (x &&& y) :: st)))) : Go p e below P (T.setTop (mkF m pc Ls (.int y :: .int x :: st))) := by
  subst hp; exact Go.mv (fun _ h => XS.iand X.here hx rfl hd rfl h) K
theorem g_land (X : Stand p l e R s m args below meth c T locs cells slots) (hx : p.tables.exec = Jvm.exec) {x y : Int64} (hd : decode c.code pc = .ok (.land, 1))  (pc' : Nat) (hp : pc + 1 = pc') (K : Go p e below P (T.setTop (mkF m pc' Ls (.long (x &&& y) :: st)))) : Go p e below P (T.setTop (mkF m pc Ls (.long y :: .long x :: st))) := by
  subst hp; exact Go.mv (fun _ h => XS.land X.here hx rfl hd rfl h) K
theorem g_ior (X : Stand p l e R s m args below meth c T locs cells slots) (hx : p.tables.exec = Jvm.exec) {x y : Int32} (hd : decode c.code pc = .ok (.ior, 1))  (pc' : Nat) (hp : pc + 1 = pc') (K : Go p e below P (T.setTop (mkF m pc' Ls (.int (x ||| y) :: st)))) : Go p e below P (T.setTop (mkF m pc Ls (.int y :: .int x :: st))) := by
  subst hp; exact Go.mv (fun _ h => XS.ior X.here hx rfl hd rfl h) K
theorem g_lor (X : Stand p l e R s m args below meth c T locs cells slots) (hx : p.tables.exec = Jvm.exec) {x y : Int64} (hd : decode c.code pc = .ok (.lor, 1))  (pc' : Nat) (hp : pc + 1 = pc') (K : Go p e below P (T.setTop (mkF m pc' Ls (.long (x ||| y) :: st)))) : Go p e below P (T.setTop (mkF m pc Ls (.long y :: .long x :: st))) := by
  subst hp; exact Go.mv (fun _ h => XS.lor X.here hx rfl hd rfl h) K
theorem g_ixor (X : Stand p l e R s m args below meth c T locs cells slots) (hx : p.tables.exec = Jvm.exec) {x y : Int32} (hd : decode c.code pc = .ok (.ixor, 1))  (pc' : Nat) (hp : pc + 1 = pc') (K : Go p e below P (T.setTop (mkF m pc' Ls (.int (x ^^^ y) :: st)))) : Go p e below P (T.setTop (mkF m pc Ls (.int y :: .int x :: st))) := by
  subst hp; exact Go.mv (fun _ h => XS.ixor X.here hx rfl hd rfl h) K
theorem g_lxor (X : Stand p l e R s m args below meth c T locs cells slots) (hx : p.tables.exec = Jvm.exec) {x y : Int64} (hd : decode c.code pc = .ok (.lxor, 1))  (pc' : Nat) (hp : pc + 1 = pc') (K : Go p e below P (T.setTop (mkF m pc' Ls (.long (x ^^^ y) :: st)))) : Go p e below P (T.setTop (mkF m pc Ls (.long y :: .long x :: st))) := by
  subst hp; exact Go.mv (fun _ h => XS.lxor X.here hx rfl hd rfl h) K
theorem g_ishl (X : Stand p l e R s m args below meth c T locs cells slots) (hx : p.tables.exec = Jvm.exec) {x y : Int32} (hd : decode c.code pc = .ok (.ishl, 1))  (pc' : Nat) (hp : pc + 1 = pc') (K : Go p e below P (T.setTop (mkF m pc' Ls (.int (x <<< (y &&& 31)) :: st)))) : Go p e below P (T.setTop (mkF m pc Ls (.int y :: .int x :: st))) := by
  subst hp; exact Go.mv (fun _ h => XS.ishl X.here hx rfl hd rfl h) K
theorem g_ishr (X : Stand p l e R s m args below meth c T locs cells slots) (hx : p.tables.exec = Jvm.exec) {x y : Int32} (hd : decode c.code pc = .ok (.ishr, 1))  (pc' : Nat) (hp : pc + 1 = pc') (K : Go p e below P (T.setTop (mkF m pc' Ls (.int (x >>> (y &&& 31)) :: st)))) : Go p e below P (T.setTop (mkF m pc Ls (.int y :: .int x :: st))) := by
  subst hp; exact Go.mv (fun _ h => XS.ishr X.here hx rfl hd rfl h) K
theorem g_iushr (X : Stand p l e R s m args below meth c T locs cells slots) (hx : p.tables.exec = Jvm.exec) {x y : Int32} (hd : decode c.code pc = .ok (.iushr, 1))  (pc' : Nat) (hp : pc + 1 = pc') (K : Go p e below P (T.setTop (mkF m pc' Ls (.int ((x.toUInt32 >>> (y &&& 31).toUInt32).toInt32) :: st)))) : Go p e below P (T.setTop (mkF m pc Ls (.int y :: .int x :: st))) := by
  subst hp; exact Go.mv (fun _ h => XS.iushr X.here hx rfl hd rfl h) K
theorem g_lshl (X : Stand p l e R s m args below meth c T locs cells slots) (hx : p.tables.exec = Jvm.exec) {x : Int64} {y : Int32} (hd : decode c.code pc = .ok (.lshl, 1))  (pc' : Nat) (hp : pc + 1 = pc') (K : Go p e below P (T.setTop (mkF m pc' Ls (.long (x <<< (y &&& 0x3f).toInt64) :: st)))) : Go p e below P (T.setTop (mkF m pc Ls (.int y :: .long x :: st))) := by
  subst hp; exact Go.mv (fun _ h => XS.lshl X.here hx rfl hd rfl h) K
theorem g_lushr (X : Stand p l e R s m args below meth c T locs cells slots) (hx : p.tables.exec = Jvm.exec) {x : Int64} {y : Int32} (hd : decode c.code pc = .ok (.lushr, 1))  (pc' : Nat) (hp : pc + 1 = pc') (K : Go p e below P (T.setTop (mkF m pc' Ls (.long ((x.toUInt64 >>> (y &&& 0x3f).toInt64.toUInt64).toInt64) :: st)))) : Go p e below P (T.setTop (mkF m pc Ls (.int y :: .long x :: st))) := by
  subst hp; exact Go.mv (fun _ h => XS.lushr X.here hx rfl hd rfl h) K
theorem g_ineg (X : Stand p l e R s m args below meth c T locs cells slots) (hx : p.tables.exec = Jvm.exec) {x : Int32} (hd : decode c.code pc = .ok (.ineg, 1))  (pc' : Nat) (hp : pc + 1 = pc') (K : Go p e below P (T.setTop (mkF m pc' Ls (.int (-x) :: st)))) : Go p e below P (T.setTop (mkF m pc Ls (.int x :: st))) := by
  subst hp; exact Go.mv (fun _ h => XS.ineg X.here hx rfl hd rfl h) K
theorem g_lneg (X : Stand p l e R s m args below meth c T locs cells slots) (hx : p.tables.exec = Jvm.exec) {x : Int64} (hd : decode c.code pc = .ok (.lneg, 1))  (pc' : Nat) (hp : pc + 1 = pc') (K : Go p e below P (T.setTop (mkF m pc' Ls (.long (-x) :: st)))) : Go p e below P (T.setTop (mkF m pc Ls (.long x :: st))) := by
  subst hp; exact Go.mv (fun _ h => XS.lneg X.here hx rfl hd rfl h) K
theorem g_i2l (X : Stand p l e R s m args below meth c T locs cells slots) (hx : p.tables.exec = Jvm.exec) {x : Int32} (hd : decode c.code pc = .ok (.i2l, 1))  (pc' : Nat) (hp : pc + 1 = pc') (K : Go p e below P (T.setTop (mkF m pc' Ls (.long (x.toInt64) :: st)))) : Go p e below P (T.setTop (mkF m pc Ls (.int x :: st))) := by
  subst hp; exact Go.mv (fun _ h => XS.i2l X.here hx rfl hd rfl h) K
theorem g_l2i (X : Stand p l e R s m args below meth c T locs cells slots) (hx : p.tables.exec = Jvm.exec) {x : Int64} (hd : decode c.code pc = .ok (.l2i, 1))  (pc' : Nat) (hp : pc + 1 = pc') (K : Go p e below P (T.setTop (mkF m pc' Ls (.int (x.toInt32) :: st)))) : Go p e below P (T.setTop (mkF m pc Ls (.long x :: st))) := by
  subst hp; exact Go.mv (fun _ h => XS.l2i X.here hx rfl hd rfl h) K
theorem g_i2b (X : Stand p l e R s m args below meth c T locs cells slots) (hx : p.tables.exec = Jvm.exec) {x : Int32} (hd : decode c.code pc = .ok (.i2b, 1))  (pc' : Nat) (hp : pc + 1 = pc') (K : Go p e below P (T.setTop (mkF m pc' Ls (.int (x.toInt8.toInt32) :: st)))) : Go p e below P (T.setTop (mkF m pc Ls (.int x :: st))) := by
  subst hp; exact Go.mv (fun _ h => XS.i2b X.here hx rfl hd rfl h) K
theorem g_i2s (X : Stand p l e R s m args below meth c T locs cells slots) (hx : p.tables.exec = Jvm.exec) {x : Int32} (hd : decode c.code pc = .ok (.i2s, 1))  (pc' : Nat) (hp : pc + 1 = pc') (K : Go p e below P (T.setTop (mkF m pc' Ls (.int (x.toInt16.toInt32) :: st)))) : Go p e below P (T.setTop (mkF m pc Ls (.int x :: st))) := by
  subst hp; exact Go.mv (fun _ h => XS.i2s X.here hx rfl hd rfl h) K
theorem g_i2c (X : Stand p l e R s m args below meth c T locs cells slots) (hx : p.tables.exec = Jvm.exec) {x : Int32} (hd : decode c.code pc = .ok (.i2c, 1))  (pc' : Nat) (hp : pc + 1 = pc') (K : Go p e below P (T.setTop (mkF m pc' Ls (.int (x.toUInt32.toUInt16.toUInt32.toInt32) :: st)))) : Go p e below P (T.setTop (mkF m pc Ls (.int x :: st))) := by
  subst hp; exact Go.mv (fun _ h => XS.i2c X.here hx rfl hd rfl h) K
theorem g_lcmp (X : Stand p l e R s m args below meth c T locs cells slots) (hx : p.tables.exec = Jvm.exec) {x y : Int64} (hd : decode c.code pc = .ok (.lcmp, 1))  (pc' : Nat) (hp : pc + 1 = pc') (K : Go p e below P (T.setTop (mkF m pc' Ls (.int (lcmpW x y) :: st)))) : Go p e below P (T.setTop (mkF m pc Ls (.long y :: .long x :: st))) := by
  subst hp; exact Go.mv (fun _ h => XS.lcmp X.here hx rfl hd rfl h) K
theorem g_idiv (X : Stand p l e R s m args below meth c T locs cells slots) (hx : p.tables.exec = Jvm.exec) {x y : Int32} (hd : decode c.code pc = .ok (.idiv, 1)) (hy : y ≠ 0) (pc' : Nat) (hp : pc + 1 = pc') (K : Go p e below P (T.setTop (mkF m pc' Ls (.int (x / y) :: st)))) : Go p e below P (T.setTop (mkF m pc Ls (.int y :: .int x :: st))) := by
  subst hp; exact Go.mv (fun _ h => XS.idiv X.here hx rfl hd rfl hy h) K
theorem g_ldiv (X : Stand p l e R s m args below meth c T locs cells slots) (hx : p.tables.exec = Jvm.exec) {x y : Int64} (hd : decode c.code pc = .ok (.ldiv, 1)) (hy : y ≠ 0) (pc' : Nat) (hp : pc + 1 = pc') (K : Go p e below P (T.setTop (mkF m pc' Ls (.long (x / y) :: st)))) : Go p e below P (T.setTop (mkF m pc Ls (.long y :: .long x :: st))) := by
  subst hp; exact Go.mv (fun _ h => XS.ldiv X.here hx rfl hd rfl hy h) K
theorem g_irem (X : Stand p l e R s m args below meth c T locs cells slots) (hx : p.tables.exec = Jvm.exec) {x y : Int32} (hd : decode c.code pc = .ok (.irem, 1)) (hy : y ≠ 0) (pc' : Nat) (hp : pc + 1 = pc') (K : Go p e below P (T.setTop (mkF m pc' Ls (.int (x % y) :: st)))) : Go p e below P (T.setTop (mkF m pc Ls (.int y :: .int x :: st))) := by
  subst hp; exact Go.mv (fun _ h => iremM X hx rfl hd rfl hy h) K
theorem lrem_eq_mod (x y : Int64) : x - (x / y) * y = x % y := by
  apply Int64.toInt_inj.mp
  have h1 := Int64.le_toInt (x % y)
  have h2 := Int64.toInt_lt (x % y)
  rw [Int64.toInt_sub, Int64.toInt_mul, Int64.toInt_div, Int.bmod_mul_bmod, Int.sub_bmod_bmod, Int.mul_comm (x.toInt.tdiv y.toInt), ← Int.tmod_def, ← Int64.toInt_mod]
  exact Int.bmod_eq_of_le_mul_two (by omega) (by omega)
theorem g_lrem (X : Stand p l e R s m args below meth c T locs cells slots) (hx : p.tables.exec = Jvm.exec) {x y : Int64} (hd : decode c.code pc = .ok (.lrem, 1)) (hy : y ≠ 0) (pc' : Nat) (hp : pc + 1 = pc') (K : Go p e below P (T.setTop (mkF m pc' Ls (.long (x % y) :: st)))) : Go p e below P (T.setTop (mkF m pc Ls (.long y :: .long x :: st))) := by
  subst hp; rw [← lrem_eq_mod] at K; exact Go.mv (fun _ h => XS.lrem X.here hx rfl hd rfl hy h) K
theorem g_dup (X : Stand p l e R s m args below meth c T locs cells slots) (hx : p.tables.exec = Jvm.exec) {x : Value} (hd : decode c.code pc = .ok (.dup, 1)) (hc : x.category = 1) (pc' : Nat) (hp : pc + 1 = pc') (K : Go p e below P (T.setTop (mkF m pc' Ls (x :: x :: st)))) : Go p e below P (T.setTop (mkF m pc Ls (x :: st))) := by
  subst hp; exact Go.mv (fun _ h => XS.dup X.here hx rfl hd rfl hc h) K
theorem g_pop (X : Stand p l e R s m args below meth c T locs cells slots) (hx : p.tables.exec = Jvm.exec) {x : Value} (hd : decode c.code pc = .ok (.pop, 1)) (hc : x.category = 1) (pc' : Nat) (hp : pc + 1 = pc') (K : Go p e below P (T.setTop (mkF m pc' Ls st))) : Go p e below P (T.setTop (mkF m pc Ls (x :: st))) := by
  subst hp; exact Go.mv (fun _ h => XS.pop X.here hx rfl hd rfl hc h) K
theorem g_dupX1 (X : Stand p l e R s m args below meth c T locs cells slots) (hx : p.tables.exec = Jvm.exec) {x y : Value} (hd : decode c.code pc = .ok (.dup_x1, 1)) (hc : x.category = 1) (hc2 : y.category = 1) (pc' : Nat) (hp : pc + 1 = pc') (K : Go p e below P (T.setTop (mkF m pc' Ls (x :: y :: x :: st)))) : Go p e below P (T.setTop (mkF m pc Ls (x :: y :: st))) := by
  subst hp; exact Go.mv (fun _ h => XS.dupX1 X.here hx rfl hd rfl hc hc2 h) K
theorem g_iinc (X : Stand p l e R s m args below meth c T locs cells slots) (hx : p.tables.exec = Jvm.exec) {k : Nat} {cst : Int} {x : Int32} (l' : Array Slot) (hd : decode c.code pc = .ok (.iinc k cst, 3)) (hl : Ls[k]? = some (.val (.int x))) (hl' : storeLocals Ls k (.int (x + Int32.ofInt cst)) = some l') (pc' : Nat) (hp : pc + 3 = pc') (K : Go p e below P (T.setTop (mkF m pc' l' st))) : Go p e below P (T.setTop (mkF m pc Ls st)) := by
  subst hp; exact Go.mv (fun _ h => XS.iinc X.here hx rfl hd hl hl' h) K
theorem g_goto (X : Stand p l e R s m args below meth c T locs cells slots) (hx : p.tables.exec = Jvm.exec) {o : Int} (hd : decode c.code pc = .ok (.goto o, 3)) (pc' : Nat) (hp : ((pc : Int) + o).toNat = pc' ∧ 0 ≤ (pc : Int) + o) (K : Go p e below P (T.setTop (mkF m pc' Ls st))) : Go p e below P (T.setTop (mkF m pc Ls st)) :=
  Go.mv (fun _ h => XS.goto X.here hx rfl (pc0 := pc) (pc' := pc') rfl hd hp.2 hp.1 h) K
theorem g_icmp_lt_t (X : Stand p l e R s m args below meth c T locs cells slots) (hx : p.tables.exec = Jvm.exec) {x y : Int32} {o : Int} (hd : decode c.code pc = .ok (.if_icmp .lt o, 3)) (h : x < y) (pc' : Nat) (hp : ((pc : Int) + o).toNat = pc' ∧ 0 ≤ (pc : Int) + o) (K : Go p e below P (T.setTop (mkF m pc' Ls st))) : Go p e below P (T.setTop (mkF m pc Ls (.int y :: .int x :: st))) :=
  Go.mv (fun _ q => XS.icmpYes X.here hx rfl (pc0 := pc) (pc' := pc') rfl hd rfl (tlt h).1 hp.2 hp.1 q) K
theorem g_icmp_lt_f (X : Stand p l e R s m args below meth c T locs cells slots) (hx : p.tables.exec = Jvm.exec) {x y : Int32} {o : Int} (hd : decode c.code pc = .ok (.if_icmp .lt o, 3)) (h : ¬ x < y) (pc' : Nat) (hp : pc + 3 = pc') (K : Go p e below P (T.setTop (mkF m pc' Ls st))) : Go p e below P (T.setTop (mkF m pc Ls (.int y :: .int x :: st))) := by
  subst hp; exact Go.mv (fun _ q => XS.icmpNo X.here hx rfl hd rfl (flt h).1 q) K
theorem g_icmp_lt (X : Stand p l e R s m args below meth c T locs cells slots) (hx : p.tables.exec = Jvm.exec) {x y : Int32} {o : Int} (hd : decode c.code pc = .ok (.if_icmp .lt o, 3)) (pcT pcF : Nat) (hT : ((pc : Int) + o).toNat = pcT ∧ 0 ≤ (pc : Int) + o) (hF : pc + 3 = pcF) (KT : (x < y) → Go p e below P (T.setTop (mkF m pcT Ls st))) (KF : (¬ x < y) → Go p e below P (T.setTop (mkF m pcF Ls st))) : Go p e below P (T.setTop (mkF m pc Ls (.int y :: .int x :: st))) := by
  by_cases h : x < y
  · exact g_icmp_lt_t X hx hd h _ hT (KT h)
  · exact g_icmp_lt_f X hx hd h _ hF (KF h)
theorem g_if_lt_t (X : Stand p l e R s m args below meth c T locs cells slots) (hx : p.tables.exec = Jvm.exec) {x : Int32} {o : Int} (hd : decode c.code pc = .ok (.ifCond .lt o, 3)) (h : x < 0) (pc' : Nat) (hp : ((pc : Int) + o).toNat = pc' ∧ 0 ≤ (pc : Int) + o) (K : Go p e below P (T.setTop (mkF m pc' Ls st))) : Go p e below P (T.setTop (mkF m pc Ls (.int x :: st))) :=
  Go.mv (fun _ q => XS.ifYes X.here hx rfl (pc0 := pc) (pc' := pc') rfl hd rfl ((if0 _ _).trans (tlt h).1) hp.2 hp.1 q) K
theorem g_if_lt_f (X : Stand p l e R s m args below meth c T locs cells slots) (hx : p.tables.exec = Jvm.exec) {x : Int32} {o : Int} (hd : decode c.code pc = .ok (.ifCond .lt o, 3)) (h : ¬ x < 0) (pc' : Nat) (hp : pc + 3 = pc') (K : Go p e below P (T.setTop (mkF m pc' Ls st))) : Go p e below P (T.setTop (mkF m pc Ls (.int x :: st))) := by
  subst hp; exact Go.mv (fun _ q => XS.ifNo X.here hx rfl hd rfl ((if0 _ _).trans (flt h).1) q) K
theorem g_if_lt (X : Stand p l e R s m args below meth c T locs cells slots) (hx : p.tables.exec = Jvm.exec) {x : Int32} {o : Int} (hd : decode c.code pc = .ok (.ifCond .lt o, 3)) (pcT pcF : Nat) (hT : ((pc : Int) + o).toNat = pcT ∧ 0 ≤ (pc : Int) + o) (hF : pc + 3 = pcF) (KT : (x < 0) → Go p e below P (T.setTop (mkF m pcT Ls st))) (KF : (¬ x < 0) → Go p e below P (T.setTop (mkF m pcF Ls st))) : Go p e below P (T.setTop (mkF m pc Ls (.int x :: st))) := by
  by_cases h : x < 0
  · exact g_if_lt_t X hx hd h _ hT (KT h)
  · exact g_if_lt_f X hx hd h _ hF (KF h)
theorem g_icmp_ge_t (X : Stand p l e R s m args below meth c T locs cells slots) (hx : p.tables.exec = Jvm.exec) {x y : Int32} {o : Int} (hd : decode c.code pc = .ok (.if_icmp .ge o, 3)) (h : ¬ x < y) (pc' : Nat) (hp : ((pc : Int) + o).toNat = pc' ∧ 0 ≤ (pc : Int) + o) (K : Go p e below P (T.setTop (mkF m pc' Ls st))) : Go p e below P (T.setTop (mkF m pc Ls (.int y :: .int x :: st))) :=
  Go.mv (fun _ q => XS.icmpYes X.here hx rfl (pc0 := pc) (pc' := pc') rfl hd rfl (flt h).2.1 hp.2 hp.1 q) K
theorem g_icmp_ge_f (X : Stand p l e R s m args below meth c T locs cells slots) (hx : p.tables.exec = Jvm.exec) {x y : Int32} {o : Int} (hd : decode c.code pc = .ok (.if_icmp .ge o, 3)) (h : x < y) (pc' : Nat) (hp : pc + 3 = pc') (K : Go p e below P (T.setTop (mkF m pc' Ls st))) : Go p e below P (T.setTop (mkF m pc Ls (.int y :: .int x :: st))) := by
  subst hp; exact Go.mv (fun _ q => XS.icmpNo X.here hx rfl hd rfl (tlt h).2.1 q) K
theorem g_icmp_ge (X : Stand p l e R s m args below meth c T locs cells slots) (hx : p.tables.exec = Jvm.exec) {x y : Int32} {o : Int} (hd : decode c.code pc = .ok (.if_icmp .ge o, 3)) (pcT pcF : Nat) (hT : ((pc : Int) + o).toNat = pcT ∧ 0 ≤ (pc : Int) + o) (hF : pc + 3 = pcF) (KT : (¬ x < y) → Go p e below P (T.setTop (mkF m pcT Ls st))) (KF : (x < y) → Go p e below P (T.setTop (mkF m pcF Ls st))) : Go p e below P (T.setTop (mkF m pc Ls (.int y :: .int x :: st))) := by
  by_cases h : x < y
  · exact g_icmp_ge_f X hx hd h _ hF (KF h)
  · exact g_icmp_ge_t X hx hd h _ hT (KT h)
theorem g_if_ge_t (X : Stand p l e R s m args below meth c T locs cells slots) (hx : p.tables.exec = Jvm.exec) {x : Int32} {o : Int} (hd : decode c.code pc = .ok (.ifCond .ge o, 3)) (h : ¬ x < 0) (pc' : Nat) (hp : ((pc : Int) + o).toNat = pc' ∧ 0 ≤ (pc : Int) + o) (K : Go p e below P (T.setTop (mkF m pc' Ls st))) : Go p e below P (T.setTop (mkF m pc Ls (.int x :: st))) :=
  Go.mv (fun _ q => XS.ifYes X.here hx rfl (pc0 := pc) (pc' := pc') rfl hd rfl ((if0 _ _).trans (flt h).2.1) hp.2 hp.1 q) K
theorem g_if_ge_f (X : Stand p l e R s m args below meth c T locs cells slots) (hx : p.tables.exec = Jvm.exec) {x : Int32} {o : Int} (hd : decode c.code pc = .ok (.ifCond .ge o, 3)) (h : x < 0) (pc' : Nat) (hp : pc + 3 = pc') (K : Go p e below P (T.setTop (mkF m pc' Ls st))) : Go p e below P (T.setTop (mkF m pc Ls (.int x :: st))) := by
  subst hp; exact Go.mv (fun _ q => XS.ifNo X.here hx rfl hd rfl ((if0 _ _).trans (tlt h).2.1) q) K
theorem g_if_ge (X : Stand p l e R s m args below meth c T locs cells slots) (hx : p.tables.exec = Jvm.exec) {x : Int32} {o : Int} (hd : decode c.code pc = .ok (.ifCond .ge o, 3)) (pcT pcF : Nat) (hT : ((pc : Int) + o).toNat = pcT ∧ 0 ≤ (pc : Int) + o) (hF : pc + 3 = pcF) (KT : (¬ x < 0) → Go p e below P (T.setTop (mkF m pcT Ls st))) (KF : (x < 0) → Go p e below P (T.setTop (mkF m pcF Ls st))) : Go p e below P (T.setTop (mkF m pc Ls (.int x :: st))) := by
  by_cases h : x < 0
  · exact g_if_ge_f X hx hd h _ hF (KF h)
  · exact g_if_ge_t X hx hd h _ hT (KT h)
theorem g_icmp_gt_t (X : Stand p l e R s m args below meth c T locs cells slots) (hx : p.tables.exec = Jvm.exec) {x y : Int32} {o : Int} (hd : decode c.code pc = .ok (.if_icmp .gt o, 3)) (h : y < x) (pc' : Nat) (hp : ((pc : Int) + o).toNat = pc' ∧ 0 ≤ (pc : Int) + o) (K : Go p e below P (T.setTop (mkF m pc' Ls st))) : Go p e below P (T.setTop (mkF m pc Ls (.int y :: .int x :: st))) :=
  Go.mv (fun _ q => XS.icmpYes X.here hx rfl (pc0 := pc) (pc' := pc') rfl hd rfl (tlt h).2.2.1 hp.2 hp.1 q) K
theorem g_icmp_gt_f (X : Stand p l e R s m args below meth c T locs cells slots) (hx : p.tables.exec = Jvm.exec) {x y : Int32} {o : Int} (hd : decode c.code pc = .ok (.if_icmp .gt o, 3)) (h : ¬ y < x) (pc' : Nat) (hp : pc + 3 = pc') (K : Go p e below P (T.setTop (mkF m pc' Ls st))) : Go p e below P (T.setTop (mkF m pc Ls (.int y :: .int x :: st))) := by
  subst hp; exact Go.mv (fun _ q => XS.icmpNo X.here hx rfl hd rfl (flt h).2.2.1 q) K
theorem g_icmp_gt (X : Stand p l e R s m args below meth c T locs cells slots) (hx : p.tables.exec = Jvm.exec) {x y : Int32} {o : Int} (hd : decode c.code pc = .ok (.if_icmp .gt o, 3)) (pcT pcF : Nat) (hT : ((pc : Int) + o).toNat = pcT ∧ 0 ≤ (pc : Int) + o) (hF : pc + 3 = pcF) (KT : (y < x) → Go p e below P (T.setTop (mkF m pcT Ls st))) (KF : (¬ y < x) → Go p e below P (T.setTop (mkF m pcF Ls st))) : Go p e below P (T.setTop (mkF m pc Ls (.int y :: .int x :: st))) := by
  by_cases h : y < x
  · exact g_icmp_gt_t X hx hd h _ hT (KT h)
  · exact g_icmp_gt_f X hx hd h _ hF (KF h)
theorem g_if_gt_t (X : Stand p l e R s m args below meth c T locs cells slots) (hx : p.tables.exec = Jvm.exec) {x : Int32} {o : Int} (hd : decode c.code pc = .ok (.ifCond .gt o, 3)) (h : 0 < x) (pc' : Nat) (hp : ((pc : Int) + o).toNat = pc' ∧ 0 ≤ (pc : Int) + o) (K : Go p e below P (T.setTop (mkF m pc' Ls st))) : Go p e below P (T.setTop (mkF m pc Ls (.int x :: st))) :=
  Go.mv (fun _ q => XS.ifYes X.here hx rfl (pc0 := pc) (pc' := pc') rfl hd rfl ((if0 _ _).trans (tlt h).2.2.1) hp.2 hp.1 q) K
theorem g_if_gt_f (X : Stand p l e R s m args below meth c T locs cells slots) (hx : p.tables.exec = Jvm.exec) {x : Int32} {o : Int} (hd : decode c.code pc = .ok (.ifCond .gt o, 3)) (h : ¬ 0 < x) (pc' : Nat) (hp : pc + 3 = pc') (K : Go p e below P (T.setTop (mkF m pc' Ls st))) : Go p e below P (T.setTop (mkF m pc Ls (.int x :: st))) := by
  subst hp; exact Go.mv (fun _ q => XS.ifNo X.here hx rfl hd rfl ((if0 _ _).trans (flt h).2.2.1) q) K
theorem g_if_gt (X : Stand p l e R s m args below meth c T locs cells slots) (hx : p.tables.exec = Jvm.exec) {x : Int32} {o : Int} (hd : decode c.code pc = .ok (.ifCond .gt o, 3)) (pcT pcF : Nat) (hT : ((pc : Int) + o).toNat = pcT ∧ 0 ≤ (pc : Int) + o) (hF : pc + 3 = pcF) (KT : (0 < x) → Go p e below P (T.setTop (mkF m pcT Ls st))) (KF : (¬ 0 < x) → Go p e below P (T.setTop (mkF m pcF Ls st))) : Go p e below P (T.setTop (mkF m pc Ls (.int x :: st))) := by
  by_cases h : 0 < x
  · exact g_if_gt_t X hx hd h _ hT (KT h)
  · exact g_if_gt_f X hx hd h _ hF (KF h)
theorem g_icmp_le_t (X : Stand p l e R s m args below meth c T locs cells slots) (hx : p.tables.exec = Jvm.exec) {x y : Int32} {o : Int} (hd : decode c.code pc = .ok (.if_icmp .le o, 3)) (h : ¬ y < x) (pc' : Nat) (hp : ((pc : Int) + o).toNat = pc' ∧ 0 ≤ (pc : Int) + o) (K : Go p e below P (T.setTop (mkF m pc' Ls st))) : Go p e below P (T.setTop (mkF m pc Ls (.int y :: .int x :: st))) :=
  Go.mv (fun _ q => XS.icmpYes X.here hx rfl (pc0 := pc) (pc' := pc') rfl hd rfl (flt h).2.2.2 hp.2 hp.1 q) K
theorem g_icmp_le_f (X : Stand p l e R s m args below meth c T locs cells slots) (hx : p.tables.exec = Jvm.exec) {x y : Int32} {o : Int} (hd : decode c.code pc = .ok (.if_icmp .le o, 3)) (h : y < x) (pc' : Nat) (hp : pc + 3 = pc') (K : Go p e below P (T.setTop (mkF m pc' Ls st))) : Go p e below P (T.setTop (mkF m pc Ls (.int y :: .int x :: st))) := by
  subst hp; exact Go.mv (fun _ q => XS.icmpNo X.here hx rfl hd rfl (tlt h).2.2.2 q) K
theorem g_icmp_le (X : Stand p l e R s m args below meth c T locs cells slots) (hx : p.tables.exec = Jvm.exec) {x y : Int32} {o : Int} (hd : decode c.code pc = .ok (.if_icmp .le o, 3)) (pcT pcF : Nat) (hT : ((pc : Int) + o).toNat = pcT ∧ 0 ≤ (pc : Int) + o) (hF : pc + 3 = pcF) (KT : (¬ y < x) → Go p e below P (T.setTop (mkF m pcT Ls st))) (KF : (y < x) → Go p e below P (T.setTop (mkF m pcF Ls st))) : Go p e below P (T.setTop (mkF m pc Ls (.int y :: .int x :: st))) := by
  by_cases h : y < x
  · exact g_icmp_le_f X hx hd h _ hF (KF h)
  · exact g_icmp_le_t X hx hd h _ hT (KT h)
theorem g_if_le_t (X : Stand p l e R s m args below meth c T locs cells slots) (hx : p.tables.exec = Jvm.exec) {x : Int32} {o : Int} (hd : decode c.code pc = .ok (.ifCond .le o, 3)) (h : ¬ 0 < x) (pc' : Nat) (hp : ((pc : Int) + o).toNat = pc' ∧ 0 ≤ (pc : Int) + o) (K : Go p e below P (T.setTop (mkF m pc' Ls st))) : Go p e below P (T.setTop (mkF m pc Ls (.int x :: st))) :=
  Go.mv (fun _ q => XS.ifYes X.here hx rfl (pc0 := pc) (pc' := pc') rfl hd rfl ((if0 _ _).trans (flt h).2.2.2) hp.2 hp.1 q) K
theorem g_if_le_f (X : Stand p l e R s m args below meth c T locs cells slots) (hx : p.tables.exec = Jvm.exec) {x : Int32} {o : Int} (hd : decode c.code pc = .ok (.ifCond .le o, 3)) (h : 0 < x) (pc' : Nat) (hp : pc + 3 = pc') (K : Go p e below P (T.setTop (mkF m pc' Ls st))) : Go p e below P (T.setTop (mkF m pc Ls (.int x :: st))) := by
  subst hp; exact Go.mv (fun _ q => XS.ifNo X.here hx rfl hd rfl ((if0 _ _).trans (tlt h).2.2.2) q) K
theorem g_if_le (X : Stand p l e R s m args below meth c T locs cells slots) (hx : p.tables.exec = Jvm.exec) {x : Int32} {o : Int} (hd : decode c.code pc = .ok (.ifCond .le o, 3)) (pcT pcF : Nat) (hT : ((pc : Int) + o).toNat = pcT ∧ 0 ≤ (pc : Int) + o) (hF : pc + 3 = pcF) (KT : (¬ 0 < x) → Go p e below P (T.setTop (mkF m pcT Ls st))) (KF : (0 < x) → Go p e below P (T.setTop (mkF m pcF Ls st))) : Go p e below P (T.setTop (mkF m pc Ls (.int x :: st))) := by
  by_cases h : 0 < x
  · exact g_if_le_f X hx hd h _ hF (KF h)
  · exact g_if_le_t X hx hd h _ hT (KT h)
theorem g_icmp_eq_t (X : Stand p l e R s m args below meth c T locs cells slots) (hx : p.tables.exec = Jvm.exec) {x y : Int32} {o : Int} (hd : decode c.code pc = .ok (.if_icmp .eq o, 3)) (h : x = y) (pc' : Nat) (hp : ((pc : Int) + o).toNat = pc' ∧ 0 ≤ (pc : Int) + o) (K : Go p e below P (T.setTop (mkF m pc' Ls st))) : Go p e below P (T.setTop (mkF m pc Ls (.int y :: .int x :: st))) :=
  Go.mv (fun _ q => XS.icmpYes X.here hx rfl (pc0 := pc) (pc' := pc') rfl hd rfl (teq h).1 hp.2 hp.1 q) K
theorem g_icmp_eq_f (X : Stand p l e R s m args below meth c T locs cells slots) (hx : p.tables.exec = Jvm.exec) {x y : Int32} {o : Int} (hd : decode c.code pc = .ok (.if_icmp .eq o, 3)) (h : ¬ x = y) (pc' : Nat) (hp : pc + 3 = pc') (K : Go p e below P (T.setTop (mkF m pc' Ls st))) : Go p e below P (T.setTop (mkF m pc Ls (.int y :: .int x :: st))) := by
  subst hp; exact Go.mv (fun _ q => XS.icmpNo X.here hx rfl hd rfl (feq h).1 q) K
theorem g_icmp_eq (X : Stand p l e R s m args below meth c T locs cells slots) (hx : p.tables.exec = Jvm.exec) {x y : Int32} {o : Int} (hd : decode c.code pc = .ok (.if_icmp .eq o, 3)) (pcT pcF : Nat) (hT : ((pc : Int) + o).toNat = pcT ∧ 0 ≤ (pc : Int) + o) (hF : pc + 3 = pcF) (KT : (x = y) → Go p e below P (T.setTop (mkF m pcT Ls st))) (KF : (¬ x = y) → Go p e below P (T.setTop (mkF m pcF Ls st))) : Go p e below P (T.setTop (mkF m pc Ls (.int y :: .int x :: st))) := by
  by_cases h : x = y
  · exact g_icmp_eq_t X hx hd h _ hT (KT h)
  · exact g_icmp_eq_f X hx hd h _ hF (KF h)
theorem g_if_eq_t (X : Stand p l e R s m args below meth c T locs cells slots) (hx : p.tables.exec = Jvm.exec) {x : Int32} {o : Int} (hd : decode c.code pc = .ok (.ifCond .eq o, 3)) (h : x = 0) (pc' : Nat) (hp : ((pc : Int) + o).toNat = pc' ∧ 0 ≤ (pc : Int) + o) (K : Go p e below P (T.setTop (mkF m pc' Ls st))) : Go p e below P (T.setTop (mkF m pc Ls (.int x :: st))) :=
  Go.mv (fun _ q => XS.ifYes X.here hx rfl (pc0 := pc) (pc' := pc') rfl hd rfl ((if0 _ _).trans (teq h).1) hp.2 hp.1 q) K
theorem g_if_eq_f (X : Stand p l e R s m args below meth c T locs cells slots) (hx : p.tables.exec = Jvm.exec) {x : Int32} {o : Int} (hd : decode c.code pc = .ok (.ifCond .eq o, 3)) (h : ¬ x = 0) (pc' : Nat) (hp : pc + 3 = pc') (K : Go p e below P (T.setTop (mkF m pc' Ls st))) : Go p e below P (T.setTop (mkF m pc Ls (.int x :: st))) := by
  subst hp; exact Go.mv (fun _ q => XS.ifNo X.here hx rfl hd rfl ((if0 _ _).trans (feq h).1) q) K
theorem g_if_eq (X : Stand p l e R s m args below meth c T locs cells slots) (hx : p.tables.exec = Jvm.exec) {x : Int32} {o : Int} (hd : decode c.code pc = .ok (.ifCond .eq o, 3)) (pcT pcF : Nat) (hT : ((pc : Int) + o).toNat = pcT ∧ 0 ≤ (pc : Int) + o) (hF : pc + 3 = pcF) (KT : (x = 0) → Go p e below P (T.setTop (mkF m pcT Ls st))) (KF : (¬ x = 0) → Go p e below P (T.setTop (mkF m pcF Ls st))) : Go p e below P (T.setTop (mkF m pc Ls (.int x :: st))) := by
  by_cases h : x = 0
  · exact g_if_eq_t X hx hd h _ hT (KT h)
  · exact g_if_eq_f X hx hd h _ hF (KF h)
theorem g_icmp_ne_t (X : Stand p l e R s m args below meth c T locs cells slots) (hx : p.tables.exec = Jvm.exec) {x y : Int32} {o : Int} (hd : decode c.code pc = .ok (.if_icmp .ne o, 3)) (h : ¬ x = y) (pc' : Nat) (hp : ((pc : Int) + o).toNat = pc' ∧ 0 ≤ (pc : Int) + o) (K : Go p e below P (T.setTop (mkF m pc' Ls st))) : Go p e below P (T.setTop (mkF m pc Ls (.int y :: .int x :: st))) :=
  Go.mv (fun _ q => XS.icmpYes X.here hx rfl (pc0 := pc) (pc' := pc') rfl hd rfl (feq h).2 hp.2 hp.1 q) K
theorem g_icmp_ne_f (X : Stand p l e R s m args below meth c T locs cells slots) (hx : p.tables.exec = Jvm.exec) {x y : Int32} {o : Int} (hd : decode c.code pc = .ok (.if_icmp .ne o, 3)) (h : x = y) (pc' : Nat) (hp : pc + 3 = pc') (K : Go p e below P (T.setTop (mkF m pc' Ls st))) : Go p e below P (T.setTop (mkF m pc Ls (.int y :: .int x :: st))) := by
  subst hp; exact Go.mv (fun _ q => XS.icmpNo X.here hx rfl hd rfl (teq h).2 q) K
theorem g_icmp_ne (X : Stand p l e R s m args below meth c T locs cells slots) (hx : p.tables.exec = Jvm.exec) {x y : Int32} {o : Int} (hd : decode c.code pc = .ok (.if_icmp .ne o, 3)) (pcT pcF : Nat) (hT : ((pc : Int) + o).toNat = pcT ∧ 0 ≤ (pc : Int) + o) (hF : pc + 3 = pcF) (KT : (¬ x = y) → Go p e below P (T.setTop (mkF m pcT Ls st))) (KF : (x = y) → Go p e below P (T.setTop (mkF m pcF Ls st))) : Go p e below P (T.setTop (mkF m pc Ls (.int y :: .int x :: st))) := by
  by_cases h : x = y
  · exact g_icmp_ne_f X hx hd h _ hF (KF h)
  · exact g_icmp_ne_t X hx hd h _ hT (KT h)
theorem g_if_ne_t (X : Stand p l e R s m args below meth c T locs cells slots) (hx : p.tables.exec = Jvm.exec) {x : Int32} {o : Int} (hd : decode c.code pc = .ok (.ifCond .ne o, 3)) (h : ¬ x = 0) (pc' : Nat) (hp : ((pc : Int) + o).toNat = pc' ∧ 0 ≤ (pc : Int) + o) (K : Go p e below P (T.setTop (mkF m pc' Ls st))) : Go p e below P (T.setTop (mkF m pc Ls (.int x :: st))) :=
  Go.mv (fun _ q => XS.ifYes X.here hx rfl (pc0 := pc) (pc' := pc') rfl hd rfl ((if0 _ _).trans (feq h).2) hp.2 hp.1 q) K
theorem g_if_ne_f (X : Stand p l e R s m args below meth c T locs cells slots) (hx : p.tables.exec = Jvm.exec) {x : Int32} {o : Int} (hd : decode c.code pc = .ok (.ifCond .ne o, 3)) (h : x = 0) (pc' : Nat) (hp : pc + 3 = pc') (K : Go p e below P (T.setTop (mkF m pc' Ls st))) : Go p e below P (T.setTop (mkF m pc Ls (.int x :: st))) := by
  subst hp; exact Go.mv (fun _ q => XS.ifNo X.here hx rfl hd rfl ((if0 _ _).trans (teq h).2) q) K
theorem g_if_ne (X : Stand p l e R s m args below meth c T locs cells slots) (hx : p.tables.exec = Jvm.exec) {x : Int32} {o : Int} (hd : decode c.code pc = .ok (.ifCond .ne o, 3)) (pcT pcF : Nat) (hT : ((pc : Int) + o).toNat = pcT ∧ 0 ≤ (pc : Int) + o) (hF : pc + 3 = pcF) (KT : (¬ x = 0) → Go p e below P (T.setTop (mkF m pcT Ls st))) (KF : (x = 0) → Go p e below P (T.setTop (mkF m pcF Ls st))) : Go p e below P (T.setTop (mkF m pc Ls (.int x :: st))) := by
  by_cases h : x = 0
  · exact g_if_ne_f X hx hd h _ hF (KF h)
  · exact g_if_ne_t X hx hd h _ hT (KT h)
theorem g_ifnull_t (X : Stand p l e R s m args below meth c T locs cells slots) (hx : p.tables.exec = Jvm.exec)  {o : Int} (hd : decode c.code pc = .ok (.ifnull o, 3)) (pc' : Nat) (hp : ((pc : Int) + o).toNat = pc' ∧ 0 ≤ (pc : Int) + o) (K : Go p e below P (T.setTop (mkF m pc' Ls st))) : Go p e below P (T.setTop (mkF m pc Ls (.null :: st))) :=
  Go.mv (fun _ q => XS.ifnullYes X.here hx rfl (pc0 := pc) (pc' := pc') rfl hd rfl hp.2 hp.1 q) K
theorem g_ifnull_f (X : Stand p l e R s m args below meth c T locs cells slots) (hx : p.tables.exec = Jvm.exec) {b : Addr} {o : Int} (hd : decode c.code pc = .ok (.ifnull o, 3)) (pc' : Nat) (hp : pc + 3 = pc') (K : Go p e below P (T.setTop (mkF m pc' Ls st))) : Go p e below P (T.setTop (mkF m pc Ls (.ref b :: st))) := by
  subst hp; exact Go.mv (fun _ q => XS.ifnullNo X.here hx rfl hd rfl q) K
theorem g_ifnonnull_t (X : Stand p l e R s m args below meth c T locs cells slots) (hx : p.tables.exec = Jvm.exec) {b : Addr} {o : Int} (hd : decode c.code pc = .ok (.ifnonnull o, 3)) (pc' : Nat) (hp : ((pc : Int) + o).toNat = pc' ∧ 0 ≤ (pc : Int) + o) (K : Go p e below P (T.setTop (mkF m pc' Ls st))) : Go p e below P (T.setTop (mkF m pc Ls (.ref b :: st))) :=
  Go.mv (fun _ q => XS.ifnonnullYes X.here hx rfl (pc0 := pc) (pc' := pc') rfl hd rfl hp.2 hp.1 q) K
theorem g_ifnonnull_f (X : Stand p l e R s m args below meth c T locs cells slots) (hx : p.tables.exec = Jvm.exec)  {o : Int} (hd : decode c.code pc = .ok (.ifnonnull o, 3)) (pc' : Nat) (hp : pc + 3 = pc') (K : Go p e below P (T.setTop (mkF m pc' Ls st))) : Go p e below P (T.setTop (mkF m pc Ls (.null :: st))) := by
  subst hp; exact Go.mv (fun _ q => XS.ifnonnullNo X.here hx rfl hd rfl q) K
theorem g_acmp (X : Stand p l e R s m args below meth c T locs cells slots) (hx : p.tables.exec = Jvm.exec) {cd : ACond} {x y : Value} (h1 : x.isRef = true) (h2 : y.isRef = true) {o : Int} (hd : decode c.code pc = .ok (.if_acmp cd o, 3)) (same : Bool) (hq : decide (x = y) = same) (pc' : Nat) (hp : (pc' = if acV cd same = true then ((pc : Int) + o).toNat else pc + 3) ∧ 0 ≤ (pc : Int) + o) (K : Go p e below P (T.setTop (mkF m pc' Ls st))) : Go p e below P (T.setTop (mkF m pc Ls (y :: x :: st))) :=
  Go.mv (fun _ q => Jvm.RoadKit.acmp (g := mkF m pc Ls (y :: x :: st)) X hx rfl h1 h2 (pc0 := pc) (pc' := pc') (same := same) rfl hd rfl hq hp.2 hp.1 q) K
end Steps
section Laws
variable {p : Program} {l : Launch} {e : Env} {R : Room} {s : State} {m : MethodId} {args : Array Value} {below : List Frame} {meth : Method} {c : Code} {T : State} {locs : List Loc} {cells slots : Nat} {P : Outcome → State → Prop} {pc : Nat} {Ls : Array Slot} {st : List Value} {Z : State} {a0 : Array Value} {h : Heap}
theorem g_getF (X : Stand p l e R s m args below meth c T locs cells slots) (hx : p.tables.exec = Jvm.exec) (hZ : Z.Warmed39 s.vm) {own R0 O n d host : String} {index : Nat} (hown : s.vm.findClass own = some m.cls) (w : (Cond.fieldLink own index R0 n d).before a0 Z = true ∨ (Cond.fieldLinkNest own index R0 n d host).before a0 Z = true) (via : Via Z R0 O n d)
    (eT : T.heap = h) {a : Addr} {v : Value} (F : Fld Z h a O n d v) (hd : decode c.code pc = .ok (.getfield index, 3)) (pc' : Nat) (hp : pc + 3 = pc')
    (K : ∀ T', Stand p l e R s m args below meth c T' locs cells slots → T'.heap = h → Go p e below P (T'.setTop (mkF m pc' Ls (v :: st)))) : Go p e below P (T.setTop (mkF m pc Ls (.ref a :: st))) := by
  subst hp
  obtain ⟨T', X', e', k⟩ := getF X hx hZ hown w via eT F (g := mkF m pc Ls (.ref a :: st)) rfl rfl hd
  exact Go.mv k (K T' X' e')
theorem g_putF (X : Stand p l e R s m args below meth c T locs cells slots) (hx : p.tables.exec = Jvm.exec) (hZ : Z.Warmed39 s.vm) {own R0 O n d host C : String} {index kk : Nat} {ty : FieldType} (hown : s.vm.findClass own = some m.cls) (w : (Cond.fieldLink own index R0 n d).before a0 Z = true ∨ (Cond.fieldLinkNest own index R0 n d host).before a0 Z = true) (via : Via Z R0 O n d)
    (eT : T.heap = h) {a : Addr} {v old : Value} (F : Fld Z h a O n d old) (E : Exa Z h a C) (L : (Cond.lays C O n d).before a0 Z = true ∨ ((Cond.laysFinal C O n d).before a0 Z = true ∧ own = O ∧ meth.name = "<init>")) (wi : (Cond.instantiable C kk).before a0 Z = true)
    (hty : parseFieldDescriptor d = some ty) (hn : narrow ty v = v) (hf : fits ty v = true) (hd : decode c.code pc = .ok (.putfield index, 3)) (pc' : Nat) (hp : pc + 3 = pc')
    (K : ∀ T' h', Stand p l e R s m args below meth c T' (locs ++ [⟨a, Jvm.RoadKit.slotOf Z O n d⟩]) cells slots → T'.heap = h' → Wr h h' a (Jvm.RoadKit.slotOf Z O n d) v → Fld Z h' a O n d v → Exa Z h' a C → Go p e below P (T'.setTop (mkF m pc' Ls st))) : Go p e below P (T.setTop (mkF m pc Ls (v :: .ref a :: st))) := by
  subst hp
  obtain ⟨T', h', X', e', W, k⟩ := putF X hx hZ hown w via eT F E L wi hty hn hf (g := mkF m pc Ls (v :: .ref a :: st)) rfl rfl hd
  exact Go.mv k (K T' h' X' e' W (F.same W) (E.wr W))
theorem g_getS (X : Stand p l e R s m args below meth c T locs cells slots) (hx : p.tables.exec = Jvm.exec) (hZ : Z.Warmed39 s.vm) {own R0 O n d host : String} {index : Nat} (hown : s.vm.findClass own = some m.cls) (w : (Cond.fieldLink own index R0 n d).before a0 Z = true ∨ (Cond.fieldLinkNest own index R0 n d host).before a0 Z = true) (via : Via Z R0 O n d)
    (eT : T.heap = h) {v : Value} (F : Sta Z h O n d v) (hd : decode c.code pc = .ok (.getstatic index, 3)) (pc' : Nat) (hp : pc + 3 = pc')
    (K : ∀ T', Stand p l e R s m args below meth c T' locs cells slots → T'.heap = h → Go p e below P (T'.setTop (mkF m pc' Ls (v :: st)))) : Go p e below P (T.setTop (mkF m pc Ls st)) := by
  subst hp
  obtain ⟨T', X', e', k⟩ := getS2 X hx hZ hown w via eT F (g := mkF m pc Ls st) rfl hd
  exact Go.mv k (K T' X' e')
theorem g_new (X : Stand p l e R s m args below meth c T locs cells slots) (hx : p.tables.exec = Jvm.exec) (hZ : Z.Warmed39 s.vm) {own C : String} {index n : Nat} (hown : s.vm.findClass own = some m.cls) (w : (Cond.classLink own index C).before a0 Z = true) (wi : (Cond.instantiable C n).before a0 Z = true) (wz : (Cond.initialized C).before a0 Z = true) (eT : T.heap = h)
    (hd : decode c.code pc = .ok (.new index, 3)) (hc : cells + 1 ≤ R.cells) (hl : slots + n ≤ R.slots) (pc' : Nat) (hp : pc + 3 = pc')
    (K : ∀ T' h' b, Stand p l e R s m args below meth c T' locs (cells + 1) (slots + n) → T'.heap = h' → Ext h h' → b = h.size → Exa Z h' b C → (∀ {O nm d : String} {ty : FieldType}, Laid Z a0 C O nm d → parseFieldDescriptor d = some ty → Fld Z h' b O nm d (defaultValue ty)) → Go p e below P (T'.setTop (mkF m pc' Ls (.ref b :: st)))) : Go p e below P (T.setTop (mkF m pc Ls st)) := by
  subst hp
  obtain ⟨T', h', X', e', E, A, D, -, k⟩ := newO X hx hZ hown w wi wz eT (g := mkF m pc Ls st) rfl hd hc hl
  exact Go.mv k (K T' h' h.size X' e' E rfl A D)
theorem g_initO (X : Stand p l e R s m args below meth c T locs cells slots) (hx : p.tables.exec = Jvm.exec) (hZ : Z.Warmed39 s.vm) {own : String} {idx : Nat} (hown : s.vm.findClass own = some m.cls) (w1 : (Cond.methodLink own idx Lib.objectInit).before a0 Z = true) (w2 : (Cond.instanceMethod Lib.objectInit).before a0 Z = true)
    (w3 : (Cond.code Lib.objectInit ⟨#[0xb1]⟩ 1 none).before a0 Z = true) (eT : T.heap = h) (hsize : Ls.size = c.maxLocals) {a : Addr} (hd : decode c.code pc = .ok (.invokespecial idx, 3)) (hf : 1 ≤ R.frames) {W : Nat} (hW : (st.map fun v => v.category).sum ≤ W) (hl : W + 12 ≤ R.locals) (pc' : Nat) (hp : pc + 3 = pc')
    (K : ∀ T', Stand p l e R s m args below meth c T' locs cells slots → T'.heap = h → Go p e below P (T'.setTop (mkF m pc' Ls st))) : Go p e below P (T.setTop (mkF m pc Ls (.ref a :: st))) := by
  subst hp
  obtain ⟨T', X', e', k⟩ := initO X hx hZ hown w1 w2 w3 eT (g := mkF m pc Ls (.ref a :: st)) rfl hsize rfl hd hf (W := W) (by show 2 * 0 + _ ≤ _; omega) hl
  exact Go.mv k (K T' X' e')
theorem g_newP (X : Stand p l e R s m args below meth c T locs cells slots) (hx : p.tables.exec = Jvm.exec) (hZ : Z.Warmed39 s.vm) {aty : ArrayType} (w : (Cond.arrayClass (newarray.typeOf aty)).before a0 Z = true) (eT : T.heap = h) (hd : decode c.code pc = .ok (.newarray aty, 2)) {n : Int32}
    (hn : ¬ n < 0) (cap : Nat) (hcap : n.toNatClampNeg ≤ cap) (hb : cap * 8 ≤ 536870912) (hc : cells + 1 ≤ R.cells) (hl : slots + cap ≤ R.slots) (pc' : Nat) (hp : pc + 2 = pc') (ty : FieldType) (hty : newarray.typeOf aty = ty) (vs : List Value) (hvs : ∀ i, vs.getD i (defaultValue ty) = defaultValue ty)
    (K : ∀ T' h' b k, Stand p l e R s m args below meth c T' locs (cells + 1) (slots + cap) → T'.heap = h' → Ext h h' → b = h.size → Arv Z h' b k ty n vs (defaultValue ty) → Go p e below P (T'.setTop (mkF m pc' Ls (.ref b :: st)))) : Go p e below P (T.setTop (mkF m pc Ls (.int n :: st))) := by
  subst hp hty
  obtain ⟨T', h', cA, X', e', E, A, k⟩ := newP X hx hZ w eT (g := mkF m pc Ls (.int n :: st)) rfl hd rfl hn hcap hb hc hl
  exact Go.mv k (K T' h' h.size cA X' e' E rfl ((Arv.new A hn).pad (fun i => by rw [hvs]; simp)))
theorem g_newR (X : Stand p l e R s m args below meth c T locs cells slots) (hx : p.tables.exec = Jvm.exec) (hZ : Z.Warmed39 s.vm) {own C : String} {index : Nat} (hown : s.vm.findClass own = some m.cls) (w1 : (Cond.classLink own index C).before a0 Z = true) (w2 : (Cond.arrayOver (.object C)).before a0 Z = true) (eT : T.heap = h) (hd : decode c.code pc = .ok (.anewarray index, 3)) {n : Int32}
    (hn : ¬ n < 0) (cap : Nat) (hcap : n.toNatClampNeg ≤ cap) (hb : cap * 8 ≤ 536870912) (hc : cells + 1 ≤ R.cells) (hl : slots + cap ≤ R.slots) (pc' : Nat) (hp : pc + 3 = pc') (vs : List Value) (hvs : ∀ i, vs.getD i Value.null = Value.null)
    (K : ∀ T' h' b k, Stand p l e R s m args below meth c T' locs (cells + 1) (slots + cap) → T'.heap = h' → Ext h h' → b = h.size → Arv Z h' b k (.object C) n vs .null → Ovr Z k C → Go p e below P (T'.setTop (mkF m pc' Ls (.ref b :: st)))) : Go p e below P (T.setTop (mkF m pc Ls (.int n :: st))) := by
  subst hp
  obtain ⟨T', h', cA, X', e', E, A, O, k⟩ := newR X hx hZ hown w1 w2 eT (g := mkF m pc Ls (.int n :: st)) rfl hd rfl hn hcap hb hc hl
  exact Go.mv k (K T' h' h.size cA X' e' E rfl ((Arv.new A hn).pad (fun i => by show _ = _; rw [show defaultValue (.object C) = Value.null from rfl, hvs]; simp)) O)
theorem set_pad {vs : List Value} {n : Nat} {dv : Value} : ∀ i, vs.getD i dv = vs.getD i dv := fun _ => rfl
theorem g_stC (X : Stand p l e R s m args below meth c T locs cells slots) (hx : p.tables.exec = Jvm.exec) (hZ : Z.Warmed39 s.vm) (eT : T.heap = h) {a : Addr} {k : ClassId} {z : Int32} {vs : List Value} {dv : Value} (V : Arv Z h a k .char z vs dv) {j : Int32} {x : Int32} (x' : Int32) (hxx : nar .char x = x') (hj : ¬ j < 0 ∧ j < z) (i : Nat) (hji : j.toNatClampNeg = i) (hi : i < vs.length) (vs' : List Value) (hvs : vs.set i (.int x') = vs') (hd : decode c.code pc = .ok (.castore, 1)) (pc' : Nat) (hp : pc + 1 = pc')
    (K : ∀ T' h', Stand p l e R s m args below meth c T' (locs ++ [⟨a, j.toNatClampNeg⟩]) cells slots → T'.heap = h' → Wr h h' a j.toNatClampNeg (.int x') → Arv Z h' a k .char z vs' dv → Go p e below P (T'.setTop (mkF m pc' Ls st))) : Go p e below P (T.setTop (mkF m pc Ls (.int x :: .int j :: .ref a :: st))) := by
  subst hp hxx hvs
  obtain ⟨cl, A, q1, S, N, H, G⟩ := V
  obtain ⟨T', h', X', e', W, kk⟩ := stC X hx hZ eT A (j := j) (inb_of S hj) (g := mkF m pc Ls (.int x :: .int j :: .ref a :: st)) rfl rfl hd
  exact Go.mv kk (K T' h' X' e' W (Arv.set A q1 S N H G (fits_nar_char _) W i hji hi))
theorem g_stB (X : Stand p l e R s m args below meth c T locs cells slots) (hx : p.tables.exec = Jvm.exec) (hZ : Z.Warmed39 s.vm) (eT : T.heap = h) {a : Addr} {k : ClassId} {z : Int32} {vs : List Value} {dv : Value} (V : Arv Z h a k .byte z vs dv) {j : Int32} {x : Int32} (x' : Int32) (hxx : nar .byte x = x') (hj : ¬ j < 0 ∧ j < z) (i : Nat) (hji : j.toNatClampNeg = i) (hi : i < vs.length) (vs' : List Value) (hvs : vs.set i (.int x') = vs') (hd : decode c.code pc = .ok (.bastore, 1)) (pc' : Nat) (hp : pc + 1 = pc')
    (K : ∀ T' h', Stand p l e R s m args below meth c T' (locs ++ [⟨a, j.toNatClampNeg⟩]) cells slots → T'.heap = h' → Wr h h' a j.toNatClampNeg (.int x') → Arv Z h' a k .byte z vs' dv → Go p e below P (T'.setTop (mkF m pc' Ls st))) : Go p e below P (T.setTop (mkF m pc Ls (.int x :: .int j :: .ref a :: st))) := by
  subst hp hxx hvs
  obtain ⟨cl, A, q1, S, N, H, G⟩ := V
  obtain ⟨T', h', X', e', W, kk⟩ := stB X hx hZ eT A (j := j) (inb_of S hj) (g := mkF m pc Ls (.int x :: .int j :: .ref a :: st)) rfl rfl hd
  exact Go.mv kk (K T' h' X' e' W (Arv.set A q1 S N H G (fits_nar_byte _) W i hji hi))
theorem g_stZ (X : Stand p l e R s m args below meth c T locs cells slots) (hx : p.tables.exec = Jvm.exec) (hZ : Z.Warmed39 s.vm) (eT : T.heap = h) {a : Addr} {k : ClassId} {z : Int32} {vs : List Value} {dv : Value} (V : Arv Z h a k .boolean z vs dv) {j : Int32} {x : Int32} (x' : Int32) (hxx : nar .boolean x = x') (hj : ¬ j < 0 ∧ j < z) (i : Nat) (hji : j.toNatClampNeg = i) (hi : i < vs.length) (vs' : List Value) (hvs : vs.set i (.int x') = vs') (hd : decode c.code pc = .ok (.bastore, 1)) (pc' : Nat) (hp : pc + 1 = pc')
    (K : ∀ T' h', Stand p l e R s m args below meth c T' (locs ++ [⟨a, j.toNatClampNeg⟩]) cells slots → T'.heap = h' → Wr h h' a j.toNatClampNeg (.int x') → Arv Z h' a k .boolean z vs' dv → Go p e below P (T'.setTop (mkF m pc' Ls st))) : Go p e below P (T.setTop (mkF m pc Ls (.int x :: .int j :: .ref a :: st))) := by
  subst hp hxx hvs
  obtain ⟨cl, A, q1, S, N, H, G⟩ := V
  obtain ⟨T', h', X', e', W, kk⟩ := stZ X hx hZ eT A (j := j) (inb_of S hj) (g := mkF m pc Ls (.int x :: .int j :: .ref a :: st)) rfl rfl hd
  exact Go.mv kk (K T' h' X' e' W (Arv.set A q1 S N H G (fits_nar_bool _) W i hji hi))
theorem g_stI (X : Stand p l e R s m args below meth c T locs cells slots) (hx : p.tables.exec = Jvm.exec) (hZ : Z.Warmed39 s.vm) (eT : T.heap = h) {a : Addr} {k : ClassId} {z : Int32} {vs : List Value} {dv : Value} (V : Arv Z h a k .int z vs dv) {j : Int32} {x : Int32} (x' : Int32) (hxx : x = x') (hj : ¬ j < 0 ∧ j < z) (i : Nat) (hji : j.toNatClampNeg = i) (hi : i < vs.length) (vs' : List Value) (hvs : vs.set i (.int x') = vs') (hd : decode c.code pc = .ok (.iastore, 1)) (pc' : Nat) (hp : pc + 1 = pc')
    (K : ∀ T' h', Stand p l e R s m args below meth c T' (locs ++ [⟨a, j.toNatClampNeg⟩]) cells slots → T'.heap = h' → Wr h h' a j.toNatClampNeg (.int x') → Arv Z h' a k .int z vs' dv → Go p e below P (T'.setTop (mkF m pc' Ls st))) : Go p e below P (T.setTop (mkF m pc Ls (.int x :: .int j :: .ref a :: st))) := by
  subst hp hxx hvs
  obtain ⟨cl, A, q1, S, N, H, G⟩ := V
  obtain ⟨T', h', X', e', W, kk⟩ := stI X hx hZ eT A (j := j) (inb_of S hj) (g := mkF m pc Ls (.int x :: .int j :: .ref a :: st)) rfl rfl hd
  exact Go.mv kk (K T' h' X' e' W (Arv.set A q1 S N H G (rfl) W i hji hi))
theorem g_stJ (X : Stand p l e R s m args below meth c T locs cells slots) (hx : p.tables.exec = Jvm.exec) (hZ : Z.Warmed39 s.vm) (eT : T.heap = h) {a : Addr} {k : ClassId} {z : Int32} {vs : List Value} {dv : Value} (V : Arv Z h a k .long z vs dv) {j : Int32} {x : Int64} (x' : Int64) (hxx : x = x') (hj : ¬ j < 0 ∧ j < z) (i : Nat) (hji : j.toNatClampNeg = i) (hi : i < vs.length) (vs' : List Value) (hvs : vs.set i (.long x') = vs') (hd : decode c.code pc = .ok (.lastore, 1)) (pc' : Nat) (hp : pc + 1 = pc')
    (K : ∀ T' h', Stand p l e R s m args below meth c T' (locs ++ [⟨a, j.toNatClampNeg⟩]) cells slots → T'.heap = h' → Wr h h' a j.toNatClampNeg (.long x') → Arv Z h' a k .long z vs' dv → Go p e below P (T'.setTop (mkF m pc' Ls st))) : Go p e below P (T.setTop (mkF m pc Ls (.long x :: .int j :: .ref a :: st))) := by
  subst hp hxx hvs
  obtain ⟨cl, A, q1, S, N, H, G⟩ := V
  obtain ⟨T', h', X', e', W, kk⟩ := stJ X hx hZ eT A (j := j) (inb_of S hj) (g := mkF m pc Ls (.long x :: .int j :: .ref a :: st)) rfl rfl hd
  exact Go.mv kk (K T' h' X' e' W (Arv.set A q1 S N H G (rfl) W i hji hi))
theorem g_stR (X : Stand p l e R s m args below meth c T locs cells slots) (hx : p.tables.exec = Jvm.exec) (hZ : Z.Warmed39 s.vm) (eT : T.heap = h) {a : Addr} {k : ClassId} {z : Int32} {C : String} {vs : List Value} {dv : Value} (V : Arv Z h a k (.object C) z vs dv) {j : Int32} {x : Value} (hr : x.isRef = true) (hs : Sto Z h a x) (hj : ¬ j < 0 ∧ j < z) (i : Nat) (hji : j.toNatClampNeg = i) (hi : i < vs.length) (vs' : List Value) (hvs : vs.set i x = vs') (hd : decode c.code pc = .ok (.aastore, 1)) (pc' : Nat) (hp : pc + 1 = pc')
    (K : ∀ T' h', Stand p l e R s m args below meth c T' (locs ++ [⟨a, j.toNatClampNeg⟩]) cells slots → T'.heap = h' → Wr h h' a j.toNatClampNeg x → Arv Z h' a k (.object C) z vs' dv → Go p e below P (T'.setTop (mkF m pc' Ls st))) : Go p e below P (T.setTop (mkF m pc Ls (x :: .int j :: .ref a :: st))) := by
  subst hp hvs
  obtain ⟨cl, A, q1, S, N, H, G⟩ := V
  obtain ⟨T', h', X', e', W, kk⟩ := stR X hx hZ eT A (j := j) (inb_of S hj) rfl hs (g := mkF m pc Ls (x :: .int j :: .ref a :: st)) rfl rfl hd
  exact Go.mv kk (K T' h' X' e' W (Arv.set A q1 S N H G (by rcases ref_cases hr with rfl | ⟨_, rfl⟩ <;> rfl) W i hji hi))
theorem g_alen (X : Stand p l e R s m args below meth c T locs cells slots) (hx : p.tables.exec = Jvm.exec) (hZ : Z.Warmed39 s.vm) (eT : T.heap = h) {a : Addr} {k : ClassId} {ty : FieldType} {z : Int32} {vs : List Value} {dv : Value} (V : Arv Z h a k ty z vs dv) (hd : decode c.code pc = .ok (.arraylength, 1)) (pc' : Nat) (hp : pc + 1 = pc')
    (K : Go p e below P (T.setTop (mkF m pc' Ls (.int z :: st)))) : Go p e below P (T.setTop (mkF m pc Ls (.ref a :: st))) := by
  subst hp
  obtain ⟨cl, A, q1, S, N, H, G⟩ := V
  refine Go.mv (X.arraylength hx (by rw [eT]; exact A.1) (State.isArrayOf_alike hZ.alike A.2.1) (g := mkF m pc Ls (.ref a :: st)) rfl rfl hd) ?_
  rw [len_of S N]; exact K
theorem g_ldC (X : Stand p l e R s m args below meth c T locs cells slots) (hx : p.tables.exec = Jvm.exec) (hZ : Z.Warmed39 s.vm) (eT : T.heap = h) {a : Addr} {k : ClassId} {z : Int32} {vs : List Value} {dv : Value} (V : Arv Z h a k .char z vs dv) {j : Int32} (hj : ¬ j < 0 ∧ j < z) (v : Int32) (hv : vs.getD j.toNatClampNeg dv = .int v) (hd : decode c.code pc = .ok (.caload, 1)) (pc' : Nat) (hp : pc + 1 = pc')
    (K : Go p e below P (T.setTop (mkF m pc' Ls (.int v :: st)))) : Go p e below P (T.setTop (mkF m pc Ls (.int j :: .ref a :: st))) := by
  subst hp
  obtain ⟨cl, A, q1, S, N, H, G⟩ := V
  exact Go.mv (X.caload hx (j := j) (v := .int v) (by rw [eT]; exact A.1) (State.isArrayOf_alike hZ.alike A.2.1)  A.2.2 (inb_of S hj) (H.at (inb_of S hj) hv) (g := mkF m pc Ls (.int j :: .ref a :: st)) rfl rfl hd) K
theorem g_ldB (X : Stand p l e R s m args below meth c T locs cells slots) (hx : p.tables.exec = Jvm.exec) (hZ : Z.Warmed39 s.vm) (eT : T.heap = h) {a : Addr} {k : ClassId} {z : Int32} {vs : List Value} {dv : Value} (V : Arv Z h a k .byte z vs dv) {j : Int32} (hj : ¬ j < 0 ∧ j < z) (v : Int32) (hv : vs.getD j.toNatClampNeg dv = .int v) (hd : decode c.code pc = .ok (.baload, 1)) (pc' : Nat) (hp : pc + 1 = pc')
    (K : Go p e below P (T.setTop (mkF m pc' Ls (.int v :: st)))) : Go p e below P (T.setTop (mkF m pc Ls (.int j :: .ref a :: st))) := by
  subst hp
  obtain ⟨cl, A, q1, S, N, H, G⟩ := V
  exact Go.mv (X.baloadBytes hx (j := j) (v := .int v) (by rw [eT]; exact A.1) (State.isArrayOf_alike hZ.alike A.2.1)  A.2.2 (inb_of S hj) (H.at (inb_of S hj) hv) (g := mkF m pc Ls (.int j :: .ref a :: st)) rfl rfl hd) K
theorem g_ldI (X : Stand p l e R s m args below meth c T locs cells slots) (hx : p.tables.exec = Jvm.exec) (hZ : Z.Warmed39 s.vm) (eT : T.heap = h) {a : Addr} {k : ClassId} {z : Int32} {vs : List Value} {dv : Value} (V : Arv Z h a k .int z vs dv) {j : Int32} (hj : ¬ j < 0 ∧ j < z) (v : Int32) (hv : vs.getD j.toNatClampNeg dv = .int v) (hd : decode c.code pc = .ok (.iaload, 1)) (pc' : Nat) (hp : pc + 1 = pc')
    (K : Go p e below P (T.setTop (mkF m pc' Ls (.int v :: st)))) : Go p e below P (T.setTop (mkF m pc Ls (.int j :: .ref a :: st))) := by
  subst hp
  obtain ⟨cl, A, q1, S, N, H, G⟩ := V
  exact Go.mv (X.iaload hx (j := j) (v := .int v) (by rw [eT]; exact A.1) (State.isArrayOf_alike hZ.alike A.2.1)  A.2.2 (inb_of S hj) (H.at (inb_of S hj) hv) (g := mkF m pc Ls (.int j :: .ref a :: st)) rfl rfl hd) K
theorem g_ldJ (X : Stand p l e R s m args below meth c T locs cells slots) (hx : p.tables.exec = Jvm.exec) (hZ : Z.Warmed39 s.vm) (eT : T.heap = h) {a : Addr} {k : ClassId} {z : Int32} {vs : List Value} {dv : Value} (V : Arv Z h a k .long z vs dv) {j : Int32} (hj : ¬ j < 0 ∧ j < z) (v : Int64) (hv : vs.getD j.toNatClampNeg dv = .long v) (hd : decode c.code pc = .ok (.laload, 1)) (pc' : Nat) (hp : pc + 1 = pc')
    (K : Go p e below P (T.setTop (mkF m pc' Ls (.long v :: st)))) : Go p e below P (T.setTop (mkF m pc Ls (.int j :: .ref a :: st))) := by
  subst hp
  obtain ⟨cl, A, q1, S, N, H, G⟩ := V
  exact Go.mv (X.laload hx (j := j) (v := .long v) (by rw [eT]; exact A.1) (State.isArrayOf_alike hZ.alike A.2.1)  A.2.2 (inb_of S hj) (H.at (inb_of S hj) hv) (g := mkF m pc Ls (.int j :: .ref a :: st)) rfl rfl hd) K
theorem g_ldR (X : Stand p l e R s m args below meth c T locs cells slots) (hx : p.tables.exec = Jvm.exec) (hZ : Z.Warmed39 s.vm) (eT : T.heap = h) {a : Addr} {k : ClassId} {z : Int32} {C : String} {vs : List Value} {dv : Value} (V : Arv Z h a k (.object C) z vs dv) {j : Int32} (hj : ¬ j < 0 ∧ j < z) (v : Value) (hv : vs.getD j.toNatClampNeg dv = v) (hd : decode c.code pc = .ok (.aaload, 1)) (pc' : Nat) (hp : pc + 1 = pc')
    (K : Go p e below P (T.setTop (mkF m pc' Ls (v :: st)))) : Go p e below P (T.setTop (mkF m pc Ls (.int j :: .ref a :: st))) := by
  subst hp
  obtain ⟨cl, A, q1, S, N, H, G⟩ := V
  exact Go.mv (X.aaload hx (j := j) (v := v) (by rw [eT]; exact A.1) (State.isArrayOf_alike hZ.alike A.2.1) rfl A.2.2 (inb_of S hj) (H.at (inb_of S hj) hv) (g := mkF m pc Ls (.int j :: .ref a :: st)) rfl rfl hd) K
theorem g_castY (X : Stand p l e R s m args below meth c T locs cells slots) (hx : p.tables.exec = Jvm.exec) (hZ : Z.Warmed39 s.vm) {own K0 : String} {index : Nat} (hown : s.vm.findClass own = some m.cls) (w : (Cond.classLink own index K0).before a0 Z = true) (eT : T.heap = h) {a : Addr} (F : Ins Z h a K0 true) (hd : decode c.code pc = .ok (.checkcast index, 3)) (pc' : Nat) (hp : pc + 3 = pc')
    (K : ∀ T', Stand p l e R s m args below meth c T' locs cells slots → T'.heap = h → Go p e below P (T'.setTop (mkF m pc' Ls (.ref a :: st)))) : Go p e below P (T.setTop (mkF m pc Ls (.ref a :: st))) := by
  subst hp
  obtain ⟨T', X', e', k⟩ := castY X hx hZ hown w eT F (g := mkF m pc Ls (.ref a :: st)) rfl rfl hd
  exact Go.mv k (K T' X' e')
theorem g_instY (X : Stand p l e R s m args below meth c T locs cells slots) (hx : p.tables.exec = Jvm.exec) (hZ : Z.Warmed39 s.vm) {own K0 : String} {index : Nat} (hown : s.vm.findClass own = some m.cls) (w : (Cond.classLink own index K0).before a0 Z = true) (eT : T.heap = h) {a : Addr} (F : Ins Z h a K0 true) (hd : decode c.code pc = .ok (.instanceof index, 3)) (pc' : Nat) (hp : pc + 3 = pc')
    (K : ∀ T', Stand p l e R s m args below meth c T' locs cells slots → T'.heap = h → Go p e below P (T'.setTop (mkF m pc' Ls (.int 1 :: st)))) : Go p e below P (T.setTop (mkF m pc Ls (.ref a :: st))) := by
  subst hp
  obtain ⟨T', X', e', k⟩ := instY X hx hZ hown w eT F (g := mkF m pc Ls (.ref a :: st)) rfl rfl hd
  exact Go.mv k (K T' X' e')
/-- a static call by a payer of the house's form -/
theorem g_callS (X : Stand p l e R s m args below meth c T locs cells slots) (hx : p.tables.exec = Jvm.exec) {own : String} {index : Nat} {y : MethodName} {bytes : ByteArray} {maxL : Nat} {ret : Option FieldType}
    (hown : s.vm.findClass own = some m.cls) (hlink : (Cond.methodLink own index y).before args s = true) (hstat : (Cond.static y).before args s = true) (hinit : (Cond.initialized y.cls).before args s = true)
    (hcode : (Cond.code y bytes maxL ret).before args s = true) (hy : y.cls ≠ "java/lang/invoke/MethodHandle" ∧ y.cls ≠ "java/lang/invoke/VarHandle")
    {W rc rs : Nat} (argsL : List Value) {Q : Option Value → Heap → List Loc → Prop} (hK : Back l R p e below s args y 3 W (fun A a => a = argsL.toArray ∧ A.U.heap = h ∧ A.cells + rc ≤ R.cells ∧ A.slots + rs ≤ R.slots) (fun A _ v B => ∃ L, Q v B.U.heap L ∧ B.locs = A.locs ++ L ∧ B.cells = A.cells + rc ∧ B.slots = A.slots + rs))
    (eT : T.heap = h) (hsize : Ls.size = c.maxLocals) (rest : List Value) (hlen : ∀ sig, parseMethodDescriptor y.desc = some sig → argsL.length = sig.parameters.length)
    (hstack : st = argsL.reverse ++ rest) (hW : (rest.map fun v => v.category).sum ≤ W) (hd : decode c.code pc = .ok (.invokestatic index, 3)) (hc : cells + rc ≤ R.cells) (hl : slots + rs ≤ R.slots) (pc' : Nat) (hp : pc + 3 = pc')
    (K : ∀ v T' L, Stand p l e R s m args below meth c T' (locs ++ L) (cells + rc) (slots + rs) → Q v T'.heap L → Go p e below P (T'.setTop (mkF m pc' Ls (v.toList ++ rest)))) : Go p e below P (T.setTop (mkF m pc Ls st)) := by
  subst hp
  obtain ⟨v, vm, ⟨T', L', k', n'⟩, -, X', ⟨Lc, hQ, l1, y1, z1⟩, k⟩ := Jvm.LawKit.callS X hx (y := y) hown hlink hstat hinit hcode hy hK (g := mkF m pc Ls st) rfl hsize (argsL := argsL) (rest := rest) hlen hstack (by show 2 * 0 + _ ≤ _; omega) hd (fun _ _ => ⟨rfl, eT, hc, hl⟩)
  dsimp only [Pt.U, Pt.locs, Pt.cells, Pt.slots] at X' l1 y1 z1 k hQ
  subst l1 y1 z1
  exact Go.mv k (K v T' Lc X' hQ)
theorem g_special (X : Stand p l e R s m args below meth c T locs cells slots) (hx : p.tables.exec = Jvm.exec) {own : String} {index : Nat} {y : MethodName} (hy1 : y.name = "<init>")
    (hown : s.vm.findClass own = some m.cls) (hlink : (Cond.methodLink own index y).before args s = true) (hinst : (Cond.instanceMethod y).before args s = true)
    {bytes : ByteArray} {maxL : Nat} (hcode : (Cond.code y bytes maxL none).before args s = true) (hy : y.cls ≠ "java/lang/invoke/MethodHandle" ∧ y.cls ≠ "java/lang/invoke/VarHandle")
    {W rc rs : Nat} {a : Addr} (argsL : List Value) {Q : Option Value → Heap → List Loc → Prop} (hK : Back l R p e below s args y 3 W (fun A b => b = (.ref a :: argsL).toArray ∧ A.U.heap = h ∧ A.cells + rc ≤ R.cells ∧ A.slots + rs ≤ R.slots) (fun A _ v B => ∃ L, Q v B.U.heap L ∧ B.locs = A.locs ++ L ∧ B.cells = A.cells + rc ∧ B.slots = A.slots + rs))
    (eT : T.heap = h) (hsize : Ls.size = c.maxLocals) (rest : List Value) (hlen : ∀ sig, parseMethodDescriptor y.desc = some sig → argsL.length = sig.parameters.length)
    (hstack : st = argsL.reverse ++ .ref a :: rest) (hW : (rest.map fun v => v.category).sum ≤ W) (hd : decode c.code pc = .ok (.invokespecial index, 3)) (hc : cells + rc ≤ R.cells) (hl : slots + rs ≤ R.slots) (pc' : Nat) (hp : pc + 3 = pc')
    (K : ∀ v T' L, Stand p l e R s m args below meth c T' (locs ++ L) (cells + rc) (slots + rs) → Q v T'.heap L → Go p e below P (T'.setTop (mkF m pc' Ls (v.toList ++ rest)))) : Go p e below P (T.setTop (mkF m pc Ls st)) := by
  subst hp
  obtain ⟨v, vm, ⟨T', L', k', n'⟩, -, X', ⟨Lc, hQ, l1, y1, z1⟩, k⟩ := X.specialBack hx (y := y) hy1 hown hlink hinst hcode hy hK (g := mkF m pc Ls st) rfl hsize (Steps.refl _) (a := a) (argsL := argsL) (rest := rest) hlen hstack (by show 2 * 0 + _ ≤ _; omega) hd (fun _ _ => ⟨rfl, eT, hc, hl⟩)
  dsimp only [Pt.U, Pt.locs, Pt.cells, Pt.slots] at X' l1 y1 z1 k hQ
  subst l1 y1 z1
  exact Go.tr k (K v T' Lc X' hQ)
theorem g_virtual (X : Stand p l e R s m args below meth c T locs cells slots) (hx : p.tables.exec = Jvm.exec) (hZ : Z.Warmed39 s.vm) {own C : String} {index : Nat} {y z : MethodName}
    (hown : s.vm.findClass own = some m.cls) (hlink : (Cond.methodLink own index y).before args s = true) (hdecl : (Cond.declares y).before args s = true) (hnf : NotFace s y)
    (hsel : (Cond.selects C y z).before args s = true) (hinst : (Cond.instanceMethod z).before args s = true) (hy : y.cls ≠ "java/lang/invoke/MethodHandle" ∧ y.cls ≠ "java/lang/invoke/VarHandle")
    {W rc rs : Nat} {a : Addr} (argsL : List Value) {Q : Option Value → Heap → List Loc → Prop} (hK : Back l R p e below s args z 3 W (fun A b => b = (.ref a :: argsL).toArray ∧ A.U.heap = h ∧ A.cells + rc ≤ R.cells ∧ A.slots + rs ≤ R.slots) (fun A _ v B => ∃ L, Q v B.U.heap L ∧ B.locs = A.locs ++ L ∧ B.cells = A.cells + rc ∧ B.slots = A.slots + rs))
    (E : Exa Z h a C) (eT : T.heap = h) (hsize : Ls.size = c.maxLocals) (rest : List Value) (hlen : ∀ sig, parseMethodDescriptor y.desc = some sig → argsL.length = sig.parameters.length)
    (hstack : st = argsL.reverse ++ .ref a :: rest) (hW : (rest.map fun v => v.category).sum ≤ W) (hd : decode c.code pc = .ok (.invokevirtual index, 3)) (hc : cells + rc ≤ R.cells) (hl : slots + rs ≤ R.slots) (pc' : Nat) (hp : pc + 3 = pc')
    (K : ∀ v T' L, Stand p l e R s m args below meth c T' (locs ++ L) (cells + rc) (slots + rs) → Q v T'.heap L → Go p e below P (T'.setTop (mkF m pc' Ls (v.toList ++ rest)))) : Go p e below P (T.setTop (mkF m pc Ls st)) := by
  subst hp
  obtain ⟨cq, kq, qa, qb, qc⟩ := isOf hZ eT E
  obtain ⟨v, vm, ⟨T', L', k', n'⟩, -, X', ⟨Lc, hQ, l1, y1, z1⟩, k⟩ := X.virtualBack hx (y := y) (z := z) hown hlink hdecl hnf hsel hinst hy hK qa qc (g := mkF m pc Ls st) rfl hsize (Steps.refl _) (argsL := argsL) (rest := rest) hlen hstack (by show 2 * 0 + _ ≤ _; omega) hd (fun _ _ => ⟨rfl, eT, hc, hl⟩)
  dsimp only [Pt.U, Pt.locs, Pt.cells, Pt.slots] at X' l1 y1 z1 k hQ
  subst l1 y1 z1
  exact Go.tr k (K v T' Lc X' hQ)
theorem g_private (X : Stand p l e R s m args below meth c T locs cells slots) (hx : p.tables.exec = Jvm.exec) (hZ : Z.Warmed39 s.vm) {own C : String} {index : Nat} {y : MethodName} {bytes : ByteArray} {maxL : Nat} {ret : Option FieldType}
    (hown : s.vm.findClass own = some m.cls) (hlink : (Cond.methodLink own index y).before args s = true) (hinst : (Cond.instanceMethod y).before args s = true) (hsel : (Cond.selects y.cls y y).before args s = true)
    (hpriv : (Cond.privateMethod y).before a0 Z = true) (hcode : (Cond.code y bytes maxL ret).before args s = true) (hy : y.cls ≠ "java/lang/invoke/MethodHandle" ∧ y.cls ≠ "java/lang/invoke/VarHandle")
    {W rc rs : Nat} {a : Addr} (argsL : List Value) {Q : Option Value → Heap → List Loc → Prop} (hK : Back l R p e below s args y 3 W (fun A b => b = (.ref a :: argsL).toArray ∧ A.U.heap = h ∧ A.cells + rc ≤ R.cells ∧ A.slots + rs ≤ R.slots) (fun A _ v B => ∃ L, Q v B.U.heap L ∧ B.locs = A.locs ++ L ∧ B.cells = A.cells + rc ∧ B.slots = A.slots + rs))
    (E : Exa Z h a C) (eT : T.heap = h) (hsize : Ls.size = c.maxLocals) (rest : List Value) (hlen : ∀ sig, parseMethodDescriptor y.desc = some sig → argsL.length = sig.parameters.length)
    (hstack : st = argsL.reverse ++ .ref a :: rest) (hW : (rest.map fun v => v.category).sum ≤ W) (hd : decode c.code pc = .ok (.invokevirtual index, 3)) (hc : cells + rc ≤ R.cells) (hl : slots + rs ≤ R.slots) (pc' : Nat) (hp : pc + 3 = pc')
    (K : ∀ v T' L, Stand p l e R s m args below meth c T' (locs ++ L) (cells + rc) (slots + rs) → Q v T'.heap L → Go p e below P (T'.setTop (mkF m pc' Ls (v.toList ++ rest)))) : Go p e below P (T.setTop (mkF m pc Ls st)) := by
  subst hp
  obtain ⟨cq, q1, q2⟩ := E.cell
  obtain ⟨v, vm, ⟨T', L', k', n'⟩, -, X', ⟨Lc, hQ, l1, y1, z1⟩, k⟩ := X.privateBack hx (y := y) hown hlink hinst hsel (Cond.privateMethod_at (mvP hZ hpriv (args := #[]))) hcode hy hK (g := mkF m pc Ls st) rfl hsize (Steps.refl _) (a := a) (by rw [eT]; exact q1) q2 (argsL := argsL) (rest := rest) hlen hstack (by show 2 * 0 + _ ≤ _; omega) hd (fun _ _ => ⟨rfl, eT, hc, hl⟩)
  dsimp only [Pt.U, Pt.locs, Pt.cells, Pt.slots] at X' l1 y1 z1 k hQ
  subst l1 y1 z1
  exact Go.tr k (K v T' Lc X' hQ)
/-- the end of a body: what it owes -/
def End (s : State) (Q : Option Value → Heap → List Loc → Prop) (C N : Nat) (o : Outcome) (t : State) : Prop := ∃ v L, o = .returned v ∧ Q v t.heap L ∧ FrameEnd s o t L C N
theorem g_ret (X : Stand p l e R s m args below meth c T locs cells slots) (hx : p.tables.exec = Jvm.exec) {t : FieldType} {v : Value} {i : Instr} (hret : meth.sig.returnType = some t) (hlocks : meth.locks = false) (hn : narrow t v = v)
    (hi : (i = .ireturn ∧ (t = .int ∨ t = .boolean ∨ t = .byte ∨ t = .char ∨ t = .short) ∧ ∃ z, v = .int z) ∨ (i = .lreturn ∧ t = .long ∧ ∃ z, v = .long z) ∨ (i = .dreturn ∧ t = .double ∧ ∃ z, v = .double z) ∨ (i = .freturn ∧ t = .float ∧ ∃ z, v = .float z) ∨ (i = .areturn ∧ t.isReference = true ∧ v.isRef = true))
    (hd : decode c.code pc = .ok (i, 1)) {Q : Option Value → Heap → List Loc → Prop} {C N : Nat} (hC : cells ≤ C) (hN : slots ≤ N) (eT : T.heap = h) (hQ : Q (some v) h locs) : Go p e below (End s Q C N) (T.setTop (mkF m pc Ls (v :: st))) := by
  obtain ⟨fs, hr, hrun, hended, hW, hsame⟩ := X.leave (v := some v) (fun h => by rw [hret] at h; cases h) hlocks
  exact ⟨_, _, retOut X hx hret hn hi hd hr, hrun, hended, _, _, rfl, by show Q _ T.heap _; rw [eT]; exact hQ, ⟨_, rfl⟩, hW, hsame.mono hC hN⟩
theorem g_retV (X : Stand p l e R s m args below meth c T locs cells slots) (hx : p.tables.exec = Jvm.exec) (hret : meth.sig.returnType = none) (hlocks : meth.locks = false)
    (hd : decode c.code pc = .ok (.return_, 1)) {Q : Option Value → Heap → List Loc → Prop} {C N : Nat} (hC : cells ≤ C) (hN : slots ≤ N) (eT : T.heap = h) (hQ : Q none h locs) : Go p e below (End s Q C N) (T.setTop (mkF m pc Ls [])) := by
  obtain ⟨fs, hr, hrun, hended, hW, hsame⟩ := X.leave (v := none) (fun _ => rfl) hlocks
  exact ⟨_, _, X.returnOut hx hret hd hr, hrun, hended, _, _, rfl, by show Q _ T.heap _; rw [eT]; exact hQ, ⟨_, rfl⟩, hW, hsame.mono hC hN⟩
end Laws
end Jvm.Own
namespace Jvm.Own
open Jvm Sem ClassFile Op Lib Jvm.Stand Jvm.Free Jvm.LawKit Jvm.RoadKit
theorem mask255 (x : Int32) : (x &&& 255) = Int32.ofNat (x &&& 255).toBitVec.toNat ∧ (x &&& 255).toBitVec.toNat < 256 := by
  constructor
  · apply Int32.toBitVec_inj.mp
    show _ = BitVec.ofNat 32 _
    rw [BitVec.ofNat_toNat]; simp
  · simp only [Int32.toBitVec_and, BitVec.toNat_and]
    exact Nat.lt_succ_of_le Nat.and_le_right
theorem lat255 (x : Int32) : ¬ (x &&& 255) < 0 ∧ ¬ (255 : Int32) < (x &&& 255) := by
  have t : ∀ k : Fin 256, ¬ (Int32.ofNat k.val) < 0 ∧ ¬ (255 : Int32) < (Int32.ofNat k.val) := by decide +kernel
  obtain ⟨e, h⟩ := mask255 x
  rw [e]
  exact t ⟨_, h⟩
theorem c255 (x : Int32) : (x &&& 255).toUInt32.toUInt16.toUInt32.toInt32 = x &&& 255 := i2c_mask x
theorem nar255 (x : Int32) : nar .char (x &&& 255) = x &&& 255 := i2c_mask x
theorem narc255 (x : Int32) : nar .char ((x &&& 255).toUInt32.toUInt16.toUInt32.toInt32) = x &&& 255 := by rw [c255]; exact nar255 x
theorem mem1 {P : Int32 → Prop} {a : Int32} (ha : P a) : ∀ c ∈ ([a] : List Int32), P c := fun c hc => by cases List.mem_singleton.mp hc; exact ha
theorem mem2 {P : Int32 → Prop} {a b : Int32} (ha : P a) (hb : P b) : ∀ c ∈ ([a, b] : List Int32), P c := fun c hc => by
  simp only [List.mem_cons, List.not_mem_nil, or_false] at hc
  rcases hc with rfl | rfl
  · exact ha
  · exact hb
/-- a contract's payer -/
theorem back {p : Program} {l : Launch} {e : Env} {R : Room} {s : State} {args : Array Value} {below : List Frame} {Z : State} {a0 : Array Value} {h : Heap} {y : MethodName} {bytes : ByteArray} {maxL : Nat} {ret : Option FieldType} {rm : Room} {len W : Nat} {as' : Array Value} {Q : Option Value → Heap → List Loc → Prop}
    (hM : MetFree l y (head1 [Cond.code y bytes maxL ret] rm) (fun a U => a = as' ∧ Z.Warmed39 U.vm ∧ U.heap = h) (fun _ _ _ _ _ => True) (fun _ U o U' => End U Q rm.cells rm.slots o U'))
    (hZ : Z.Warmed39 s.vm) (wc : (Cond.code y bytes maxL ret).before a0 Z = true) (wz : (Cond.initialized y.cls).before a0 Z = true) (hf : rm.frames + 1 ≤ R.frames) (hl : W + (maxL + 11) + rm.locals ≤ R.locals) :
    Back l R p e below s args y len W (fun A a => a = as' ∧ A.U.heap = h ∧ A.cells + rm.cells ≤ R.cells ∧ A.slots + rm.slots ≤ R.slots)
      (fun A _ v B => ∃ L, Q v B.U.heap L ∧ B.locs = A.locs ++ L ∧ B.cells = A.cells + rm.cells ∧ B.slots = A.slots + rm.slots) := backOf (Q := Q) hM hZ wc wz hf hl
end Jvm.Own
namespace Jvm.Own
open Jvm Sem ClassFile Op Lib Jvm.Stand Jvm.Free Jvm.LawKit Jvm.RoadKit
/-- what equals leaves -/
def QEq (h : Heap) (cs ds : List Int32) (v : Option Value) (h' : Heap) (L : List Loc) : Prop := ((v = some (.int 1) ∧ cs = ds) ∨ (v = some (.int 0) ∧ ¬ cs = ds)) ∧ L = [] ∧ h' = h
/-- a value, the heap as it was -/
def QVal (h : Heap) (r : Value) (v : Option Value) (h' : Heap) (L : List Loc) : Prop := v = some r ∧ L = [] ∧ h' = h
section Start
variable {s : State} {args : Array Value}
theorem start_len {t : Term} {a : Addr} {cl : Cell} {n : Int32} (h : (Cond.eq (Term.length t) (Term.int n)).value args s none s [] = some true) (ht : t.eval args s none [] s = some (.ref a)) (hc : s.heap[a]? = some cl) : cl.slots.size < 2 ^ 31 ∧ cl.slots.size.toInt32 = n := by
  obtain ⟨x, y, e1, e2, -, -⟩ := cmp_v (Or.inl h)
  obtain ⟨a', c', q1, q2, rfl⟩ := Term.length_spec e1
  cases ht.symm.trans q1
  cases hc.symm.trans (State.arrayAt?_spec q2).1
  have e3 := gotT (Cond.eq_ints e1 (Term.int_eval n)) h
  refine ⟨?_, e3⟩
  simp only [Term.eval, ht, q2, Option.bind_eq_bind, Option.bind_some] at e1
  split at e1
  · assumption
  · cases e1
theorem start_elem {t u : Term} {a : Addr} {cl : Cell} {i : Int32} {v : Value} (h : (Cond.eq (Term.elem t (Term.int i)) u).value args s none s [] = some true) (ht : t.eval args s none [] s = some (.ref a)) (hc : s.heap[a]? = some cl) (hu : u.eval args s none [] s = some v) : cl.slots[i.toNatClampNeg]? = some v := by
  obtain ⟨x, y, e1, e2, -, -⟩ := cmp_v (Or.inl h)
  cases hu.symm.trans e2
  have e3 := (elem_in e1 ht (Term.int_eval i) hc).2
  have e4 : x = v := by
    simp only [Cond.value, e1, e2] at h
    cases x <;> cases v <;> simp_all
  rw [e3, e4]
theorem start_int {t : Term} {n : Int32} (h : (Cond.eq t (Term.int n)).value args s none s [] = some true) : t.eval args s none [] s = some (.int n) := by
  obtain ⟨x, y, e1, e2, -, -⟩ := cmp_v (Or.inl h)
  cases (Term.int_eval n).symm.trans e2
  simp only [Cond.value, e1, e2] at h
  cases x <;> simp_all
theorem start_arv (hf : Fit s) {t : Term} {a : Addr} {ty : FieldType} (ha : (Cond.arrayOf t ty).value args s none s [] = some true) (ht : t.eval args s none [] s = some (.ref a)) {n : Int32} (hl : (Cond.eq (Term.length t) (Term.int n)).value args s none s [] = some true) (hn : ¬ n < 0) (vs : List Value) (hvl : n.toNatClampNeg = vs.length)
    (H : ∀ cl, s.heap[a]? = some cl → HasL cl 0 vs) (dv : Value) : ∃ k, Arv s s.heap a k ty n vs dv := by
  obtain ⟨cl, A⟩ := Arr.start ht ha
  obtain ⟨q1, q2⟩ := start_len hl ht A.1
  exact ⟨_, Arv.start hf A q1 q2 hn hvl (H cl A.1)⟩
end Start
section Clone
variable {p : Program} {l : Launch} {e : Env} {R : Room} {s : State} {m : MethodId} {args : Array Value} {below : List Frame} {meth : Method} {c : Code} {T : State} {locs : List Loc} {cells slots : Nat} {P : Outcome → State → Prop} {pc : Nat} {Ls : Array Slot} {st : List Value} {Z : State} {a0 : Array Value} {h : Heap}
theorem g_clone (X : Stand p l e R s m args below meth c T locs cells slots) (hx : p.tables.exec = Jvm.exec) (hZ : Z.Warmed39 s.vm) {own ad : String} {index : Nat} (hown : s.vm.findClass own = some m.cls)
    (w1 : (Cond.methodLink own index ⟨ad, "clone", "()Ljava/lang/Object;"⟩).before a0 Z = true) (w2 : (Cond.sameMethod ad "java/lang/Object" "clone" "()Ljava/lang/Object;").before a0 Z = true) (w3 : (Cond.native ⟨"java/lang/Object", "clone", "()Ljava/lang/Object;"⟩).before a0 Z = true)
    (w4 : (Cond.instanceMethod ⟨"java/lang/Object", "clone", "()Ljava/lang/Object;"⟩).before a0 Z = true) (w5 : (Cond.selects ad ⟨ad, "clone", "()Ljava/lang/Object;"⟩ ⟨"java/lang/Object", "clone", "()Ljava/lang/Object;"⟩).before a0 Z = true) (w6 : (Cond.castable ad "java/lang/Cloneable").before a0 Z = true)
    (eT : T.heap = h) {a : Addr} {ty : FieldType} {k : ClassId} {z : Int32} {vs : List Value} {dv : Value} (F : Arv Z h a k ty z vs dv) (E : Exa Z h a ad) (hsize : Ls.size = c.maxLocals) (hd : decode c.code pc = .ok (.invokevirtual index, 3))
    (hf : 1 ≤ R.frames) {W : Nat} (cap : Nat) (hW : (st.map fun v => v.category).sum ≤ W) (hl : W + 14 ≤ R.locals) (hcap : z.toNatClampNeg ≤ cap) (hc : cells + 1 ≤ R.cells) (hsl : slots + cap ≤ R.slots) (pc' : Nat) (hp : pc + 3 = pc')
    (K : ∀ T' h' b, Stand p l e R s m args below meth c T' locs (cells + 1) (slots + cap) → T'.heap = h' → Ext h h' → b = h.size → Arv Z h' b k ty z vs dv → Exa Z h' b ad → Go p e below P (T'.setTop (mkF m pc' Ls (.ref b :: st)))) : Go p e below P (T.setTop (mkF m pc Ls (.ref a :: st))) := by
  subst hp
  obtain ⟨T', h', X', e', E', V', A', k'⟩ := cloneH X hx hZ hown w1 w2 w3 w4 w5 w6 eT F.arh E (g := mkF m pc Ls (.ref a :: st)) rfl hsize rfl hd hf (W := W) (cap := cap) (by show 2 * 0 + _ ≤ _; omega) hl hcap hc hsl
  exact Go.mv k' (K T' h' h.size X' e' E' rfl V' A')
theorem g_ldcI (X : Stand p l e R s m args below meth c T locs cells slots) (hx : p.tables.exec = Jvm.exec) {own : String} {index : Nat} {v : Int32} (hown : s.vm.findClass own = some m.cls) (hconst : (Cond.constant own index v).before args s = true) (hd : decode c.code pc = .ok (.ldc index, 2)) (pc' : Nat) (hp : pc + 2 = pc')
    (K : Go p e below P (T.setTop (mkF m pc' Ls (.int v :: st)))) : Go p e below P (T.setTop (mkF m pc Ls st)) := by
  subst hp
  exact Go.mv (fun t q => X.ldcInt hx hown hconst (g := mkF m pc Ls st) rfl hd t q) K
theorem g_ldc2J (X : Stand p l e R s m args below meth c T locs cells slots) (hx : p.tables.exec = Jvm.exec) {own : String} {index : Nat} {v : Int64} (hown : s.vm.findClass own = some m.cls) (hconst : (Cond.constantLong own index v).before args s = true) (hd : decode c.code pc = .ok (.ldc2_w index, 3)) (pc' : Nat) (hp : pc + 3 = pc')
    (K : Go p e below P (T.setTop (mkF m pc' Ls (.long v :: st)))) : Go p e below P (T.setTop (mkF m pc Ls st)) := by
  subst hp
  exact Go.mv (fun t q => X.ldc2Long hx hown hconst (g := mkF m pc Ls st) rfl hd t q) K
theorem g_instNo (X : Stand p l e R s m args below meth c T locs cells slots) (hx : p.tables.exec = Jvm.exec) (hZ : Z.Warmed39 s.vm) {own K0 C : String} {index : Nat} (hown : s.vm.findClass own = some m.cls) (w : (Cond.classLink own index K0).before a0 Z = true) (eT : T.heap = h) {a : Addr} (E : Exa Z h a C) (F : ∃ c t, Z.vm.findClass C = some c ∧ Z.vm.findClass K0 = some t ∧ Z.vm.assignable c t = false) (hd : decode c.code pc = .ok (.instanceof index, 3)) (pc' : Nat) (hp : pc + 3 = pc')
    (K : ∀ T', Stand p l e R s m args below meth c T' locs cells slots → T'.heap = h → Go p e below P (T'.setTop (mkF m pc' Ls (.int 0 :: st)))) : Go p e below P (T.setTop (mkF m pc Ls (.ref a :: st))) := by
  subst hp
  obtain ⟨T', X', e', k⟩ := instNo X hx hZ hown w eT E F (g := mkF m pc Ls (.ref a :: st)) rfl rfl hd
  exact Go.mv k (K T' X' e')
theorem g_instNull (X : Stand p l e R s m args below meth c T locs cells slots) (hx : p.tables.exec = Jvm.exec) {index : Nat} (hd : decode c.code pc = .ok (.instanceof index, 3)) (pc' : Nat) (hp : pc + 3 = pc')
    (K : Go p e below P (T.setTop (mkF m pc' Ls (.int 0 :: st)))) : Go p e below P (T.setTop (mkF m pc Ls (.null :: st))) := by
  subst hp
  exact Go.mv (fun t q => X.instanceofNull hx (g := mkF m pc Ls (.null :: st)) rfl rfl hd t q) K
/-- an object of C (whose superclass is Object) is no K -/
theorem notSub {C O K0 : String} {n : Nat} (w : (Cond.superclass C O).before a0 Z = true) (wo : (Cond.noSuperclass O).before a0 Z = true) (wk : (Cond.instantiable K0 n).before a0 Z = true) (hn : C ≠ K0) (ho : O ≠ K0) : ∃ c t, Z.vm.findClass C = some c ∧ Z.vm.findClass K0 = some t ∧ Z.vm.assignable c t = false := by
  obtain ⟨t, k', g0, g2, g5, g7, -⟩ := Cond.instantiable_spec wk
  obtain ⟨c, h0⟩ := found_sup w
  obtain ⟨p0, k, kp, h1, h2, h3, h4, h5, -, h7⟩ := Cond.superclass_spec h0 w
  obtain ⟨cO, kO, i1, i2, i3, -, -⟩ := Cond.noSuperclass_spec wo
  cases h1.symm.trans i1
  have ne := ids_ne h0 g0 hn
  have ne2 := ids_ne h1 g0 ho
  have g8 : k'.isInterface = false := by cases hq : k'.isInterface <;> simp [hq] at g7 ⊢
  refine ⟨c, t, h0, g0, ?_⟩
  show Z.vm.assignableAux (255 + 1) c t = false
  have n3 : ∀ fuel, Z.vm.isSubclassAux fuel c t = false := fun fuel => by
    cases fuel with
    | zero => rfl
    | succ f =>
      have : Z.vm.isSubclassAux f p0 t = false := by
        cases f with
        | zero => rfl
        | succ f => simp [Vm.isSubclassAux, ne2, i2, i3]
      simp [Vm.isSubclassAux, ne, h2, h4, this]
  simp [Vm.assignableAux, ne, h2, g2, h5, g5, g8, Vm.isSubclass, n3]
end Clone
end Jvm.Own
namespace Jvm.Own
open Jvm Sem ClassFile Op Lib Jvm.Stand Jvm.Free Jvm.LawKit Jvm.RoadKit
/-- a sign of Latin-1 -/
abbrev Lat (x : Int32) : Prop := ¬ x < 0 ∧ ¬ (255 : Int32) < x
theorem Lat.nat {x : Int32} (h : Lat x) : ∃ k : Fin 256, x = Int32.ofNat k.val := by
  obtain ⟨h1, h2⟩ := h
  rw [Int32.lt_iff_toInt_lt] at h1 h2
  have e0 : (0 : Int32).toInt = 0 := rfl
  have e1 : (255 : Int32).toInt = 255 := rfl
  refine ⟨⟨x.toInt.toNat, by omega⟩, ?_⟩
  rw [← Int32.toInt_inj]
  show x.toInt = (Int32.ofNat x.toInt.toNat).toInt
  rw [Int32.toInt_ofNat_of_lt (by omega)]; omega
theorem lat_case {P : Int32 → Prop} (t : ∀ k : Fin 256, P (Int32.ofNat k.val)) {x : Int32} (h : Lat x) : P x := by
  obtain ⟨k, rfl⟩ := h.nat; exact t k
theorem lat255c (x : Int32) : Lat ((x &&& 255).toUInt32.toUInt16.toUInt32.toInt32) := by rw [c255]; exact lat255 x
theorem nar_lat {x : Int32} (h : Lat x) : nar .char x = x := lat_case (P := fun x => nar .char x = x) (by decide +kernel) h
theorem i2c_lat {x : Int32} (h : Lat x) : x.toUInt32.toUInt16.toUInt32.toInt32 = x := nar_lat h
theorem narrow_lat {x : Int32} (h : Lat x) : narrow .char (.int x) = .int x := congrArg Value.int (nar_lat h)
theorem lo_lat {x : Int32} (h : Lat x) : x.toInt8.toInt32 &&& 255 = x := lat_case (P := fun x => x.toInt8.toInt32 &&& 255 = x) (by decide +kernel) h
theorem narrow_if (P : Prop) [Decidable P] : narrow .boolean (.int (if P then 1 else 0)) = .int (if P then 1 else 0) := by split <;> rfl
theorem lat_up {cs : List Int32} (h : ∀ c ∈ cs, Lat c) : ∀ c ∈ cs, ¬ c < 0 ∧ ¬ (65535 : Int32) < c := fun c hc => ⟨(h c hc).1, fun q => (h c hc).2 (by rw [Int32.lt_iff_toInt_lt] at q ⊢; have e1 : (65535 : Int32).toInt = 65535 := rfl; have e2 : (255 : Int32).toInt = 255 := rfl; omega)⟩
theorem lat_xor1 (a b : Int32) (h : Lat a) : Lat ((a ^^^ (b &&& 1)).toUInt32.toUInt16.toUInt32.toInt32) := by
  have t : ∀ k : Fin 256, Lat ((Int32.ofNat k.val ^^^ 0).toUInt32.toUInt16.toUInt32.toInt32) ∧ Lat ((Int32.ofNat k.val ^^^ 1).toUInt32.toUInt16.toUInt32.toInt32) := by decide +kernel
  obtain ⟨k, rfl⟩ := h.nat
  rcases and_one b with e | e <;> rw [e]
  · exact (t k).1
  · exact (t k).2
theorem len12 (x : Int32) : (1 : Int32) + (x &&& 1) = 1 ∨ (1 : Int32) + (x &&& 1) = 2 := by
  rcases and_one x with e | e <;> rw [e]
  · exact Or.inl rfl
  · exact Or.inr rfl
theorem if1_ne {P : Prop} [Decidable P] (h : ¬ (if P then (1 : Int32) else 0) = 0) : P := by
  by_cases q : P
  · exact q
  · rw [if_neg q] at h; exact absurd rfl h
theorem if1_eq {P : Prop} [Decidable P] (h : (if P then (1 : Int32) else 0) = 0) : ¬ P := fun q => by rw [if_pos q] at h; exact absurd h (by decide)
end Jvm.Own
namespace Jvm.Own
open Jvm Sem ClassFile Op Lib Jvm.Stand Jvm.Free Jvm.LawKit Jvm.RoadKit
theorem nar_b (x : Int32) : nar .byte x.toInt8.toInt32 = x.toInt8.toInt32 := by show x.toInt8.toInt32.toInt8.toInt32 = _; rw [Int8.toInt8_toInt32]
end Jvm.Own
namespace Jvm.Own
open Jvm Sem ClassFile Op Lib Jvm.Stand Jvm.Free Jvm.LawKit Jvm.RoadKit
theorem mask31 (x : Int32) : ¬ (x &&& 2147483647) < 0 := fun q => absurd ((XT.and_neg32 x 2147483647).mp q).2 (by decide)
theorem mod_lt (x m : Int32) (hx : ¬ x < 0) (hm : 0 < m.toInt) : 0 ≤ (x % m).toInt ∧ (x % m).toInt < m.toInt := by
  rw [Int32.lt_iff_toInt_lt] at hx
  have e0 : (0 : Int32).toInt = 0 := rfl
  rw [Int32.toInt_mod]
  exact ⟨Int.tmod_nonneg _ (by omega), Int.tmod_lt_of_pos _ hm⟩
theorem mod3 (x : Int32) : (x &&& 2147483647) % 3 = 0 ∨ (x &&& 2147483647) % 3 = 1 ∨ (x &&& 2147483647) % 3 = 2 := by
  obtain ⟨h1, h2⟩ := mod_lt (x &&& 2147483647) 3 (mask31 x) (by decide)
  generalize (x &&& 2147483647) % 3 = y at *
  have e3 : (3 : Int32).toInt = 3 := rfl
  have : y.toInt = 0 ∨ y.toInt = 1 ∨ y.toInt = 2 := by omega
  rcases this with h | h | h
  · exact Or.inl (Int32.toInt_inj.mp (h.trans rfl))
  · exact Or.inr (Or.inl (Int32.toInt_inj.mp (h.trans rfl)))
  · exact Or.inr (Or.inr (Int32.toInt_inj.mp (h.trans rfl)))
theorem mod5 (x : Int32) : (x &&& 2147483647) % 5 = 0 ∨ (x &&& 2147483647) % 5 = 1 ∨ (x &&& 2147483647) % 5 = 2 ∨ (x &&& 2147483647) % 5 = 3 ∨ (x &&& 2147483647) % 5 = 4 := by
  obtain ⟨h1, h2⟩ := mod_lt (x &&& 2147483647) 5 (mask31 x) (by decide)
  generalize (x &&& 2147483647) % 5 = y at *
  have e3 : (5 : Int32).toInt = 5 := rfl
  have : y.toInt = 0 ∨ y.toInt = 1 ∨ y.toInt = 2 ∨ y.toInt = 3 ∨ y.toInt = 4 := by omega
  rcases this with h | h | h | h | h
  · exact Or.inl (Int32.toInt_inj.mp (h.trans rfl))
  · exact Or.inr (Or.inl (Int32.toInt_inj.mp (h.trans rfl)))
  · exact Or.inr (Or.inr (Or.inl (Int32.toInt_inj.mp (h.trans rfl))))
  · exact Or.inr (Or.inr (Or.inr (Or.inl (Int32.toInt_inj.mp (h.trans rfl)))))
  · exact Or.inr (Or.inr (Or.inr (Or.inr (Int32.toInt_inj.mp (h.trans rfl)))))
end Jvm.Own
namespace Jvm.Own
open Jvm Sem ClassFile Op Lib Jvm.Stand Jvm.Free Jvm.LawKit Jvm.RoadKit
theorem mem3 {P : Int32 → Prop} {a b c : Int32} (ha : P a) (hb : P b) (hc : P c) : ∀ x ∈ ([a, b, c] : List Int32), P x := fun x hx => by
  simp only [List.mem_cons, List.not_mem_nil, or_false] at hx
  rcases hx with rfl | rfl | rfl
  · exact ha
  · exact hb
  · exact hc
theorem mem4 {P : Int32 → Prop} {a b c d : Int32} (ha : P a) (hb : P b) (hc : P c) (hd : P d) : ∀ x ∈ ([a, b, c, d] : List Int32), P x := fun x hx => by
  simp only [List.mem_cons, List.not_mem_nil, or_false] at hx
  rcases hx with rfl | rfl | rfl | rfl
  · exact ha
  · exact hb
  · exact hc
  · exact hd
theorem and3 (x : Int32) : x &&& 3 = 0 ∨ x &&& 3 = 1 ∨ x &&& 3 = 2 ∨ x &&& 3 = 3 := by
  have h : (x &&& 3).toBitVec.toNat < 4 := by
    simp only [Int32.toBitVec_and, BitVec.toNat_and]
    exact Nat.lt_succ_of_le Nat.and_le_right
  have e : (x &&& 3) = Int32.ofNat (x &&& 3).toBitVec.toNat := by
    apply Int32.toBitVec_inj.mp
    show _ = BitVec.ofNat 32 _
    rw [BitVec.ofNat_toNat]; simp
  have t : ∀ k : Fin 4, Int32.ofNat k.val = 0 ∨ Int32.ofNat k.val = 1 ∨ Int32.ofNat k.val = 2 ∨ Int32.ofNat k.val = 3 := by decide
  rw [e]; exact t ⟨_, h⟩
end Jvm.Own
/- laws to paste: Road.backV, Road.lenW, Road.eqW, Road.codOf (cut by pick.py; bodies as the Statement names them) -/
namespace Jvm.Pilot.@@N@@
namespace StrChars
open Jvm Sem ClassFile Op Lib Jvm.Stand Jvm.Free.XT Jvm.Free.ALB Jvm.Free.JM Jvm.Free
open Jvm.Lib.Cold (StaticIs)
/-- a char array whose places are chars -/
def Ch (a : Addr) (A : Cell) (U : State) : Prop := Arr .char a A U ∧ Typed .char A
theorem Ch.mv {a : Addr} {A : Cell} {U U' : State} (h : Ch a A U) (hal : U.vm.Alike U'.vm) (hh : U'.heap = U.heap) : Ch a A U' := ⟨h.1.mv hal hh, h.2⟩
theorem Ch.keep {a : Addr} {A : Cell} {U U' : State} (h : Ch a A U) (hal : U.vm.Alike U'.vm) (hk : U'.heap[a]? = some A) : Ch a A U' := ⟨h.1.keep hal hk, h.2⟩
/-- what place i of a char[]'s cell holds -/
def cv (A : Cell) (i : Nat) : Int32 := match A.slots[i]? with | some (.int x) => x | _ => 0
theorem Ch.get {a : Addr} {A : Cell} {U : State} (h : Ch a A U) {i : Nat} (hi : i < A.slots.size) : A.slots[i]? = some (.int (cv A i)) := by
  have e := Array.getElem?_eq_getElem hi
  have f := h.2 i _ e
  unfold cv; rw [e]
  generalize A.slots[i] = v at f
  cases v <;> simp [fits] at f ⊢
/-- the byte that i2b leaves of a char -/
def lo8 (x : Int32) : Int32 := x.toInt8.toInt32
theorem fits_lo8 (y : Int32) : fits .byte (.int (lo8 y)) = true := by
  have h1 := y.toInt8.le_toInt
  have h2 := y.toInt8.toInt_lt
  simp only [lo8, fits, Bool.and_eq_true, decide_eq_true_eq, Int32.le_iff_toInt_le, Int8.toInt_toInt32, show (-128 : Int32).toInt = -128 from by decide, show (127 : Int32).toInt = 127 from by decide]
  omega
/-- A' is A but that each place j of lo .. hi - 1 holds f j -/
def Laid (A A' : Cell) (lo hi : Nat) (f : Nat → Value) : Prop := A'.cls = A.cls ∧ A'.vm = A.vm ∧ A'.slots.size = A.slots.size ∧ ∀ i, A'.slots[i]? = if lo ≤ i ∧ i < hi then some (f i) else A.slots[i]?
theorem Laid.zero (A : Cell) (lo : Nat) (f : Nat → Value) : Laid A A lo (lo + 0) f := ⟨rfl, rfl, rfl, fun i => by rw [if_neg (by omega)]⟩
theorem Laid.step {A Ak : Cell} {lo k : Nat} {f : Nat → Value} {v : Value} (h : Laid A Ak lo k f) (hlo : lo ≤ k) (hk : k < Ak.slots.size) (hv : v = f k) : Laid A (Ak.setSlot k v) lo (k + 1) f := by
  refine ⟨h.1, h.2.1, by simpa [Cell.setSlot] using h.2.2.1, fun i => ?_⟩
  by_cases e : k = i
  · subst e; rw [Cell.slots_setSlot_self v hk, if_pos (by omega), hv]
  · rw [Cell.slots_setSlot_ne v e, h.2.2.2 i]
    by_cases q : lo ≤ i ∧ i < k
    · rw [if_pos q, if_pos (by omega)]
    · rw [if_neg q, if_neg (by omega)]
def U16 : String := "java/lang/StringUTF16"
namespace Cmp5
def yN : MethodName := ⟨"java/lang/StringUTF16", "compress", "([CI[BII)I"⟩
abbrev yB : ByteArray := jdk_52_method_21_code
theorem d0 : decode yB 0 = .ok (.iconst 0, 1) := by decide +kernel
theorem d1 : decode yB 1 = .ok (.istore 5, 2) := by decide +kernel
theorem d3 : decode yB 3 = .ok (.iload 5, 2) := by decide +kernel
theorem d5 : decode yB 5 = .ok (.iload 4, 2) := by decide +kernel
theorem d7 : decode yB 7 = .ok (.if_icmp (.ge) 37, 3) := by decide +kernel
theorem d10 : decode yB 10 = .ok (.aload_n 0, 1) := by decide +kernel
theorem d11 : decode yB 11 = .ok (.iload_n 1, 1) := by decide +kernel
theorem d12 : decode yB 12 = .ok (.caload, 1) := by decide +kernel
theorem d13 : decode yB 13 = .ok (.istore 6, 2) := by decide +kernel
theorem d15 : decode yB 15 = .ok (.iload 6, 2) := by decide +kernel
theorem d17 : decode yB 17 = .ok (.sipush 255, 3) := by decide +kernel
theorem d20 : decode yB 20 = .ok (.if_icmp (.le) 6, 3) := by decide +kernel
theorem d26 : decode yB 26 = .ok (.aload_n 2, 1) := by decide +kernel
theorem d27 : decode yB 27 = .ok (.iload_n 3, 1) := by decide +kernel
theorem d28 : decode yB 28 = .ok (.iload 6, 2) := by decide +kernel
theorem d30 : decode yB 30 = .ok (.i2b, 1) := by decide +kernel
theorem d31 : decode yB 31 = .ok (.bastore, 1) := by decide +kernel
theorem d32 : decode yB 32 = .ok (.iinc 1 1, 3) := by decide +kernel
theorem d35 : decode yB 35 = .ok (.iinc 3 1, 3) := by decide +kernel
theorem d38 : decode yB 38 = .ok (.iinc 5 1, 3) := by decide +kernel
theorem d41 : decode yB 41 = .ok (.goto (-38), 3) := by decide +kernel
theorem d44 : decode yB 44 = .ok (.iload 4, 2) := by decide +kernel
theorem d46 : decode yB 46 = .ok (.ireturn, 1) := by decide +kernel
def site : List Cond := []
def tab : Cond := tabOf yN yB 7 (some .int) site
def P (b : Addr) (A : Cell) (d : Addr) (B : Cell) (o q len : Nat) (args : Array Value) (s : State) : Prop := args = #[.ref b, .int (Int32.ofNat o), .ref d, .int (Int32.ofNat q), .int (Int32.ofNat len)] ∧ Ch b A s ∧ Arr .byte d B s ∧ b ≠ d ∧ o + len ≤ A.slots.size ∧ q + len ≤ B.slots.size ∧ ∀ i, i < len → ¬ 255 < cv A (o + i)
def E (b : Addr) (A : Cell) (d : Addr) (B : Cell) (o q len : Nat) (r : Option Value) (s u : State) : Prop := r = some (.int (Int32.ofNat len)) ∧ ∃ B', Put d B' s u ∧ Laid B B' q (q + len) (fun j => Value.int (lo8 (cv A (o + (j - q)))))
/-- no char of the range above 255: len; the places written hold each char's low byte -/
theorem law (l : Launch) (b : Addr) (A : Cell) (d : Addr) (B : Cell) (o q len : Nat) : Law l yN 5 5 0 0 yB 7 (some .int) site (P b A d B o q len) (E b A d B o q len) (copyLocs d q len) 0 0 := by
  refine Law.of_walk (plainFor_of_name (by decide +kernel)) (by decide +kernel) (by decide +kernel) (by decide) (fun _ _ h => by rw [h.1]; rfl) (fun _ U U' hal hh h => ⟨h.1, h.2.1.mv hal hh, h.2.2.1.mv hal hh, h.2.2.2⟩) (fun r U U' V V' h1 hal h2 h => ⟨h.1, h.2.elim fun B' q => ⟨B', q.1.mv h1 h2, q.2⟩⟩) ?_
  intro p e s m args below meth c s₁ X0 hexec hbytes hml hret hlk hnm hown hh0 W hP
  obtain ⟨rfl, hA, hB, hne, l1, l2, hp⟩ := hP
  have c1 : Steps p.tables e below (s₁.setTop (entryFrame m #[.ref b, .int (Int32.ofNat o), .ref d, .int (Int32.ofNat q), .int (Int32.ofNat len)] 7)) (s₁.setTop (mkF m 0 #[.val (.ref b), .val (.int (Int32.ofNat o)), .val (.ref d), .val (.int (Int32.ofNat q)), .val (.int (Int32.ofNat len)), .unset, .unset] [])) := entry rfl
  have hA0 := hA.1.mv X0.warmed.alike hh0
  have hB0 := hB.mv X0.warmed.alike hh0
  have a31 := hA.1.2.2.2
  have c2 : Steps p.tables e below (s₁.setTop (entryFrame m #[.ref b, .int (Int32.ofNat o), .ref d, .int (Int32.ofNat q), .int (Int32.ofNat len)] 7)) (s₁.setTop (mkF m 3 #[.val (.ref b), .val (.int (Int32.ofNat o)), .val (.ref d), .val (.int (Int32.ofNat q)), .val (.int (Int32.ofNat len)), .val (.int 0), .unset] [])) := c1.trans (by
    refine iconstV X0.here hexec rfl 0 (hb hbytes d0) (by decide) ?_
    refine XS.istore X0.here hexec rfl (hb hbytes d1) rfl rfl ?_
    exact Steps.refl _)
  have loop : ∀ (r i : Nat), i + r = len → ∀ (z : Slot), (z = .unset ∨ ∃ w, z = .val w ∧ w.category = 1) → ∀ (Tl : State) (Bk : Cell), Stand p l e { frames := 0, locals := 0, cells := 0, slots := 0 } s m #[.ref b, .int (Int32.ofNat o), .ref d, .int (Int32.ofNat q), .int (Int32.ofNat len)] below meth c Tl ([] ++ copyLocs d q i) 0 0 → Put d Bk s₁ Tl → Laid B Bk q (q + i) (fun j => Value.int (lo8 (cv A (o + (j - q))))) →
      Steps p.tables e below (s₁.setTop (entryFrame m #[.ref b, .int (Int32.ofNat o), .ref d, .int (Int32.ofNat q), .int (Int32.ofNat len)] 7)) (Tl.setTop (mkF m 3 #[.val (.ref b), .val (.int (Int32.ofNat (o + i))), .val (.ref d), .val (.int (Int32.ofNat (q + i))), .val (.int (Int32.ofNat len)), .val (.int (Int32.ofNat i)), z] [])) → ∃ (T' : State) (B' : Cell) (z' : Slot), Stand p l e { frames := 0, locals := 0, cells := 0, slots := 0 } s m #[.ref b, .int (Int32.ofNat o), .ref d, .int (Int32.ofNat q), .int (Int32.ofNat len)] below meth c T' ([] ++ copyLocs d q len) 0 0 ∧ Put d B' s₁ T' ∧ Laid B B' q (q + len) (fun j => Value.int (lo8 (cv A (o + (j - q))))) ∧
      Steps p.tables e below (s₁.setTop (entryFrame m #[.ref b, .int (Int32.ofNat o), .ref d, .int (Int32.ofNat q), .int (Int32.ofNat len)] 7)) (T'.setTop (mkF m 3 #[.val (.ref b), .val (.int (Int32.ofNat (o + len))), .val (.ref d), .val (.int (Int32.ofNat (q + len))), .val (.int (Int32.ofNat len)), .val (.int (Int32.ofNat len)), z'] [])) := by
    intro r
    induction r with
    | zero =>
      intro i hi z hz Tl Bk Xl pl fl cl
      have hil : i = len := by omega
      rw [hil] at Xl fl cl
      exact ⟨Tl, Bk, z, Xl, pl, fl, cl⟩
    | succ r ih =>
      intro i hi z hz Tl Bk Xl pl fl cl
      have all := X0.warmed.alike.symm.trans Xl.warmed.alike
      have hAl := hA0.keep all (pl.other hne hA0.1)
      have hBk := hB0.like all pl.1 fl.1 fl.2.1 fl.2.2.1
      have hlt : q + i < Bk.slots.size := by rw [fl.2.2.1]; omega
      have c3 : Steps p.tables e below (s₁.setTop (entryFrame m #[.ref b, .int (Int32.ofNat o), .ref d, .int (Int32.ofNat q), .int (Int32.ofNat len)] 7)) (Tl.setTop (mkF m 12 #[.val (.ref b), .val (.int (Int32.ofNat (o + i))), .val (.ref d), .val (.int (Int32.ofNat (q + i))), .val (.int (Int32.ofNat len)), .val (.int (Int32.ofNat i)), z] [.int (Int32.ofNat (o + i)), .ref b])) := cl.trans (by
        refine XS.iload Xl.here hexec rfl (hb hbytes d3) rfl ?_
        refine XS.iload Xl.here hexec rfl (hb hbytes d5) rfl ?_
        refine XS.icmpNo Xl.here hexec rfl (hb hbytes d7) rfl (ii_ge_f (lt32 (by omega) (by omega))) ?_
        refine XS.aloadN Xl.here hexec rfl (hb hbytes d10) rfl rfl ?_
        refine XS.iloadN Xl.here hexec rfl (hb hbytes d11) rfl ?_
        exact Steps.refl _)
      have c4 : Steps p.tables e below (s₁.setTop (entryFrame m #[.ref b, .int (Int32.ofNat o), .ref d, .int (Int32.ofNat q), .int (Int32.ofNat len)] 7)) (Tl.setTop (mkF m 13 #[.val (.ref b), .val (.int (Int32.ofNat (o + i))), .val (.ref d), .val (.int (Int32.ofNat (q + i))), .val (.int (Int32.ofNat len)), .val (.int (Int32.ofNat i)), z] [.int (cv A (o + i))])) := c3.trans (by
        refine Xl.aget hexec hAl rfl (hA.get (i := o + i) (by omega)) rfl rfl (hb hbytes d12) ?_
        exact Steps.refl _)
      have c5 : Steps p.tables e below (s₁.setTop (entryFrame m #[.ref b, .int (Int32.ofNat o), .ref d, .int (Int32.ofNat q), .int (Int32.ofNat len)] 7)) (Tl.setTop (mkF m 15 #[.val (.ref b), .val (.int (Int32.ofNat (o + i))), .val (.ref d), .val (.int (Int32.ofNat (q + i))), .val (.int (Int32.ofNat len)), .val (.int (Int32.ofNat i)), .val (.int (cv A (o + i)))] [])) := c4.trans (by
        refine XS.istoreS Xl.here hexec rfl (hb hbytes d13) rfl rfl hz ?_
        exact Steps.refl _)
      have c6 : Steps p.tables e below (s₁.setTop (entryFrame m #[.ref b, .int (Int32.ofNat o), .ref d, .int (Int32.ofNat q), .int (Int32.ofNat len)] 7)) (Tl.setTop (mkF m 31 #[.val (.ref b), .val (.int (Int32.ofNat (o + i))), .val (.ref d), .val (.int (Int32.ofNat (q + i))), .val (.int (Int32.ofNat len)), .val (.int (Int32.ofNat i)), .val (.int (cv A (o + i)))] [.int (lo8 (cv A (o + i))), .int (Int32.ofNat (q + i)), .ref d])) := c5.trans (by
        refine XS.iload Xl.here hexec rfl (hb hbytes d15) rfl ?_
        refine sipushV Xl.here hexec rfl 255 (hb hbytes d17) (by decide) ?_
        refine XS.icmpYes Xl.here hexec rfl (pc0 := 20) rfl (hb hbytes d20) rfl (ii_le_t (hp i (by omega))) (by decide) rfl ?_
        refine XS.aloadN Xl.here hexec rfl (hb hbytes d26) rfl rfl ?_
        refine XS.iloadN Xl.here hexec rfl (hb hbytes d27) rfl ?_
        refine XS.iload Xl.here hexec rfl (hb hbytes d28) rfl ?_
        refine i2b Xl.here hexec rfl (hb hbytes d30) rfl ?_
        exact Steps.refl _)
      obtain ⟨T7, X7, p7, st7⟩ := Xl.aput hexec hBk rfl hlt rfl (fits_lo8 (cv A (o + i))) (g := (mkF m 31 #[.val (.ref b), .val (.int (Int32.ofNat (o + i))), .val (.ref d), .val (.int (Int32.ofNat (q + i))), .val (.int (Int32.ofNat len)), .val (.int (Int32.ofNat i)), .val (.int (cv A (o + i)))] [.int (lo8 (cv A (o + i))), .int (Int32.ofNat (q + i)), .ref d])) rfl (rest := []) rfl (hb hbytes d31)
      have c8 : Steps p.tables e below (s₁.setTop (entryFrame m #[.ref b, .int (Int32.ofNat o), .ref d, .int (Int32.ofNat q), .int (Int32.ofNat len)] 7)) (T7.setTop (mkF m 32 #[.val (.ref b), .val (.int (Int32.ofNat (o + i))), .val (.ref d), .val (.int (Int32.ofNat (q + i))), .val (.int (Int32.ofNat len)), .val (.int (Int32.ofNat i)), .val (.int (cv A (o + i)))] [])) := c6.trans (st7 _ (Steps.refl _))
      have c9 : Steps p.tables e below (s₁.setTop (entryFrame m #[.ref b, .int (Int32.ofNat o), .ref d, .int (Int32.ofNat q), .int (Int32.ofNat len)] 7)) (T7.setTop (mkF m 3 #[.val (.ref b), .val (.int (Int32.ofNat (o + i) + 1)), .val (.ref d), .val (.int (Int32.ofNat (q + i) + 1)), .val (.int (Int32.ofNat len)), .val (.int (Int32.ofNat i + 1)), .val (.int (cv A (o + i)))] [])) := c8.trans (by
        refine iincV X7.here hexec rfl 1 (hb hbytes d32) (by decide) rfl rfl ?_
        refine iincV X7.here hexec rfl 1 (hb hbytes d35) (by decide) rfl rfl ?_
        refine iincV X7.here hexec rfl 1 (hb hbytes d38) (by decide) rfl rfl ?_
        refine XS.goto X7.here hexec rfl (pc0 := 41) rfl (hb hbytes d41) (by decide) rfl ?_
        exact Steps.refl _)
      have c10 : Steps p.tables e below (s₁.setTop (entryFrame m #[.ref b, .int (Int32.ofNat o), .ref d, .int (Int32.ofNat q), .int (Int32.ofNat len)] 7)) (T7.setTop (mkF m 3 #[.val (.ref b), .val (.int (Int32.ofNat (o + (i + 1)))), .val (.ref d), .val (.int (Int32.ofNat (q + (i + 1)))), .val (.int (Int32.ofNat len)), .val (.int (Int32.ofNat (i + 1))), .val (.int (cv A (o + i)))] [])) := by
        have := c9
        rw [succ32, succ32, succ32] at this
        exact this
      exact ih (i + 1) (by omega) _ (Or.inr ⟨_, rfl, rfl⟩) T7 _ (by rw [copyLocs_step, ← List.append_assoc]; exact X7) (pl.trans p7) (fl.step (by omega) hlt (by simp)) c10
  obtain ⟨T9, B9, z9, X9, p9, f9, g9⟩ := loop len 0 (by omega) .unset (Or.inl rfl) s₁ B (by simpa [copyLocs] using X0) ⟨hB0.1, fun _ _ => rfl, rfl⟩ (Laid.zero _ _ _) c2
  have c11 : Steps p.tables e below (s₁.setTop (entryFrame m #[.ref b, .int (Int32.ofNat o), .ref d, .int (Int32.ofNat q), .int (Int32.ofNat len)] 7)) (T9.setTop (mkF m 46 #[.val (.ref b), .val (.int (Int32.ofNat (o + len))), .val (.ref d), .val (.int (Int32.ofNat (q + len))), .val (.int (Int32.ofNat len)), .val (.int (Int32.ofNat len)), z9] [.int (Int32.ofNat len)])) := g9.trans (by
    refine XS.iload X9.here hexec rfl (hb hbytes d3) rfl ?_
    refine XS.iload X9.here hexec rfl (hb hbytes d5) rfl ?_
    refine XS.icmpYes X9.here hexec rfl (pc0 := 7) rfl (hb hbytes d7) rfl (ii_ge_t (nlt32 (by omega) (Nat.le_refl _))) (by decide) rfl ?_
    refine XS.iload X9.here hexec rfl (hb hbytes d44) rfl ?_
    exact Steps.refl _)
  exact ⟨T9, some (.int (Int32.ofNat len)), _, _, _, X9, by simp, rfl, rfl, (fun h => by cases h), ⟨rfl, B9, p9.from hh0, f9⟩, fun fs hl => c11.trans (X9.ireturnOut hexec hret rfl (Or.inl rfl) (hb hbytes d46) hl)⟩
end Cmp5
namespace Cmp3
def yN : MethodName := ⟨"java/lang/StringUTF16", "compress", "([CII)[B"⟩
abbrev yB : ByteArray := jdk_52_method_16_code
theorem d0 : decode yB 0 = .ok (.iload_n 2, 1) := by decide +kernel
theorem d1 : decode yB 1 = .ok (.newarray .byte, 2) := by decide +kernel
theorem d3 : decode yB 3 = .ok (.astore_n 3, 1) := by decide +kernel
theorem d4 : decode yB 4 = .ok (.aload_n 0, 1) := by decide +kernel
theorem d5 : decode yB 5 = .ok (.iload_n 1, 1) := by decide +kernel
theorem d6 : decode yB 6 = .ok (.aload_n 3, 1) := by decide +kernel
theorem d7 : decode yB 7 = .ok (.iconst 0, 1) := by decide +kernel
theorem d8 : decode yB 8 = .ok (.iload_n 2, 1) := by decide +kernel
theorem d9 : decode yB 9 = .ok (.invokestatic 115, 3) := by decide +kernel
theorem d12 : decode yB 12 = .ok (.istore 4, 2) := by decide +kernel
theorem d14 : decode yB 14 = .ok (.iload 4, 2) := by decide +kernel
theorem d16 : decode yB 16 = .ok (.iload_n 2, 1) := by decide +kernel
theorem d17 : decode yB 17 = .ok (.if_icmp (.eq) 40, 3) := by decide +kernel
theorem d57 : decode yB 57 = .ok (.aload_n 3, 1) := by decide +kernel
theorem d58 : decode yB 58 = .ok (.areturn, 1) := by decide +kernel
def site : List Cond := [.arrayClass .byte, Cmp5.tab] ++ staticW U16 115 Cmp5.yN
def tab : Cond := tabOf yN yB 6 (some (.array .byte)) site
def P (b : Addr) (A : Cell) (o len : Nat) (args : Array Value) (s : State) : Prop := args = #[.ref b, .int (Int32.ofNat o), .int (Int32.ofNat len)] ∧ Ch b A s ∧ o + len ≤ A.slots.size ∧ len ≤ 536870912 ∧ ∀ i, i < len → ¬ 255 < cv A (o + i)
def E (b : Addr) (A : Cell) (o len : Nat) (r : Option Value) (s u : State) : Prop := NewArr .byte "[B" len (fun j => .int (lo8 (cv A (o + j)))) r s u ∧ u.heap.size = s.heap.size + 1
/-- no char of the range above 255: a new byte[] of their low bytes -/
theorem law (l : Launch) (b : Addr) (A : Cell) (o len : Nat) : Law l yN 3 3 1 18 yB 6 (some (.array .byte)) site (P b A o len) (E b A o len) [] 1 len := by
  refine Law.of_walk (plainFor_of_name (by decide +kernel)) (by decide +kernel) (by decide +kernel) (by decide) (fun _ _ h => by rw [h.1]; rfl) (fun _ U U' hal hh h => ⟨h.1, h.2.1.mv hal hh, h.2.2⟩) (fun r U U' V V' h1 hal h2 h => ⟨NewArr.mv r U U' V V' h1 hal h2 h.1, by rw [h1, h2]; exact h.2⟩) ?_
  intro p e s m args below meth c s₁ X0 hexec hbytes hml hret hlk hnm hown hh0 W hP
  obtain ⟨rfl, hA, l1, l2, hp⟩ := hP
  have a31 := hA.1.2.2.2
  have c1 : Steps p.tables e below (s₁.setTop (entryFrame m #[.ref b, .int (Int32.ofNat o), .int (Int32.ofNat len)] 6)) (s₁.setTop (mkF m 0 #[.val (.ref b), .val (.int (Int32.ofNat o)), .val (.int (Int32.ofNat len)), .unset, .unset, .unset] [])) := entry rfl
  have c2 : Steps p.tables e below (s₁.setTop (entryFrame m #[.ref b, .int (Int32.ofNat o), .int (Int32.ofNat len)] 6)) (s₁.setTop (mkF m 1 #[.val (.ref b), .val (.int (Int32.ofNat o)), .val (.int (Int32.ofNat len)), .unset, .unset, .unset] [.int (Int32.ofNat len)])) := c1.trans (by
    refine XS.iloadN X0.here hexec rfl (hb hbytes d0) rfl ?_
    exact Steps.refl _)
  obtain ⟨T3, B3, X3, ba3, bs3, bv3, bh3, bf3, st3⟩ := X0.anew hexec (atype := .byte) (wk W (.arrayClass .byte)) rfl (by show len * 1 ≤ _; omega) (by omega) (g := (mkF m 1 #[.val (.ref b), .val (.int (Int32.ofNat o)), .val (.int (Int32.ofNat len)), .unset, .unset, .unset] [.int (Int32.ofNat len)])) rfl (hb hbytes d1) (rest := []) rfl (Nat.le_refl _) (by show 0 + len ≤ len; omega)
  rw [hh0] at ba3 st3
  have kp3 : XT.Kept s T3 := (XT.Kept.of_eq hh0).push bh3
  have hA3 := hA.keep X3.warmed.alike (kp3 _ _ hA.1.1)
  have hne : b ≠ s.heap.size := hA.1.ne
  have c4 : Steps p.tables e below (s₁.setTop (entryFrame m #[.ref b, .int (Int32.ofNat o), .int (Int32.ofNat len)] 6)) (T3.setTop (mkF m 3 #[.val (.ref b), .val (.int (Int32.ofNat o)), .val (.int (Int32.ofNat len)), .unset, .unset, .unset] [.ref s.heap.size])) := c2.trans (st3 _ (Steps.refl _))
  have c5 : Steps p.tables e below (s₁.setTop (entryFrame m #[.ref b, .int (Int32.ofNat o), .int (Int32.ofNat len)] 6)) (T3.setTop (mkF m 9 #[.val (.ref b), .val (.int (Int32.ofNat o)), .val (.int (Int32.ofNat len)), .val (.ref s.heap.size), .unset, .unset] [.int (Int32.ofNat len), .int 0, .ref s.heap.size, .int (Int32.ofNat o), .ref b])) := c4.trans (by
    refine XS.astoreN X3.here hexec rfl (hb hbytes d3) rfl rfl rfl ?_
    refine XS.aloadN X3.here hexec rfl (hb hbytes d4) rfl rfl ?_
    refine XS.iloadN X3.here hexec rfl (hb hbytes d5) rfl ?_
    refine XS.aloadN X3.here hexec rfl (hb hbytes d6) rfl rfl ?_
    refine iconstV X3.here hexec rfl 0 (hb hbytes d7) (by decide) ?_
    refine XS.iloadN X3.here hexec rfl (hb hbytes d8) rfl ?_
    exact Steps.refl _)
  obtain ⟨v6, T6, X6, E6, g6⟩ := X3.callS hexec (Cmp5.law l b A s.heap.size B3 o 0 len) hown (wks W (staticW U16 115 Cmp5.yN)) (wk W Cmp5.tab) (W := 0) (Nat.le_of_ble_eq_true rfl) (Nat.le_of_ble_eq_true rfl) (Nat.le_refl _) (by show 0 + len + 0 ≤ len; omega) (g := (mkF m 9 #[.val (.ref b), .val (.int (Int32.ofNat o)), .val (.int (Int32.ofNat len)), .val (.ref s.heap.size), .unset, .unset] [.int (Int32.ofNat len), .int (Int32.ofNat 0), .ref s.heap.size, .int (Int32.ofNat o), .ref b])) rfl (by rw [hml]; rfl) c5 (argsL := [.ref b, .int (Int32.ofNat o), .ref s.heap.size, .int (Int32.ofNat 0), .int (Int32.ofNat len)]) (rest := []) rfl rfl (by show 2 * 0 + 0 ≤ _; decide) (hb hbytes d9) (⟨rfl, hA3, ba3, hne, l1, by rw [bs3]; simp, hp⟩)
  obtain ⟨rfl, B6, p6, f6⟩ := E6
  have c7 : Steps p.tables e below (s₁.setTop (entryFrame m #[.ref b, .int (Int32.ofNat o), .int (Int32.ofNat len)] 6)) (T6.setTop (mkF m 12 #[.val (.ref b), .val (.int (Int32.ofNat o)), .val (.int (Int32.ofNat len)), .val (.ref s.heap.size), .unset, .unset] [.int (Int32.ofNat len)])) := g6
  have c8 : Steps p.tables e below (s₁.setTop (entryFrame m #[.ref b, .int (Int32.ofNat o), .int (Int32.ofNat len)] 6)) (T6.setTop (mkF m 58 #[.val (.ref b), .val (.int (Int32.ofNat o)), .val (.int (Int32.ofNat len)), .val (.ref s.heap.size), .val (.int (Int32.ofNat len)), .unset] [.ref s.heap.size])) := c7.trans (by
    refine XS.istore X6.here hexec rfl (hb hbytes d12) rfl rfl ?_
    refine XS.iload X6.here hexec rfl (hb hbytes d14) rfl ?_
    refine XS.iloadN X6.here hexec rfl (hb hbytes d16) rfl ?_
    refine XS.icmpYes X6.here hexec rfl (pc0 := 17) rfl (hb hbytes d17) rfl (ii_eq_t rfl) (by decide) rfl ?_
    refine XS.aloadN X6.here hexec rfl (hb hbytes d57) rfl rfl ?_
    exact Steps.refl _)
  have X8 := X6.wide (L' := []) (cells' := 1) (slots' := len) (fun x hx hlt => by
    simp only [List.nil_append, copyLocs, List.mem_map, List.mem_range] at hx
    obtain ⟨i, -, rfl⟩ := hx
    exact absurd hlt (Nat.lt_irrefl _)) (Nat.le_refl _) (by omega)
  exact ⟨T6, some (.ref s.heap.size), _, _, _, X8, rfl, rfl, rfl, (fun h => by cases h), ⟨⟨rfl, B6, ba3.like (X3.warmed.alike.symm.trans X6.warmed.alike) p6.1 f6.1 f6.2.1 f6.2.2.1, f6.2.1.trans bv3, by rw [X6.warmed.alike.findClass, f6.1]; exact bf3, by rw [f6.2.2.1, bs3]; simp, fun j hj => by rw [f6.2.2.2 j, if_pos (by omega)]; rfl, kp3.put p6 (Nat.le_refl _)⟩, by rw [p6.2.2, bh3, hh0]; simp⟩, fun fs hl => c8.trans (X8.areturnOut hexec rfl hret rfl (hb hbytes d58) hl)⟩
end Cmp3
namespace CodL
def yN : MethodName := ⟨"java/lang/StringUTF16", "coderFromArrayLen", "([BI)B"⟩
abbrev yB : ByteArray := jdk_52_method_15_code
theorem d0 : decode yB 0 = .ok (.iload_n 1, 1) := by decide +kernel
theorem d1 : decode yB 1 = .ok (.aload_n 0, 1) := by decide +kernel
theorem d2 : decode yB 2 = .ok (.arraylength, 1) := by decide +kernel
theorem d3 : decode yB 3 = .ok (.isub, 1) := by decide +kernel
theorem d4 : decode yB 4 = .ok (.bipush 31, 2) := by decide +kernel
theorem d6 : decode yB 6 = .ok (.iushr, 1) := by decide +kernel
theorem d7 : decode yB 7 = .ok (.i2b, 1) := by decide +kernel
theorem d8 : decode yB 8 = .ok (.ireturn, 1) := by decide +kernel
def site : List Cond := []
def tab : Cond := tabOf yN yB 2 (some .byte) site
def P (d : Addr) (B : Cell) (args : Array Value) (s : State) : Prop := args = #[.ref d, .int (Int32.ofNat B.slots.size)] ∧ Arr .byte d B s
def E (r : Option Value) (s u : State) : Prop := XT.PureE (some (.int 0)) r s u
/-- an array as long as the number of chars: LATIN1 -/
theorem law (l : Launch) (d : Addr) (B : Cell) : Law l yN 2 2 0 0 yB 2 (some .byte) site (P d B) E [] 0 0 := by
  refine Law.of_walk (plainFor_of_name (by decide +kernel)) (by decide +kernel) (by decide +kernel) (by decide) (fun _ _ h => by rw [h.1]; rfl) (fun _ U U' hal hh h => ⟨h.1, h.2.mv hal hh⟩) (fun r U U' V V' h1 hal h2 h => XT.PureE.mv r U U' V V' h1 hal h2 h) ?_
  intro p e s m args below meth c s₁ X0 hexec hbytes hml hret hlk hnm hown hh0 W hP
  obtain ⟨rfl, hB⟩ := hP
  have hB0 := hB.mv X0.warmed.alike hh0
  have c1 : Steps p.tables e below (s₁.setTop (entryFrame m #[.ref d, .int (Int32.ofNat B.slots.size)] 2)) (s₁.setTop (mkF m 0 #[.val (.ref d), .val (.int (Int32.ofNat B.slots.size))] [])) := entry rfl
  have c2 : Steps p.tables e below (s₁.setTop (entryFrame m #[.ref d, .int (Int32.ofNat B.slots.size)] 2)) (s₁.setTop (mkF m 2 #[.val (.ref d), .val (.int (Int32.ofNat B.slots.size))] [.ref d, .int (Int32.ofNat B.slots.size)])) := c1.trans (by
    refine XS.iloadN X0.here hexec rfl (hb hbytes d0) rfl ?_
    refine XS.aloadN X0.here hexec rfl (hb hbytes d1) rfl rfl ?_
    exact Steps.refl _)
  have c3 : Steps p.tables e below (s₁.setTop (entryFrame m #[.ref d, .int (Int32.ofNat B.slots.size)] 2)) (s₁.setTop (mkF m 8 #[.val (.ref d), .val (.int (Int32.ofNat B.slots.size))] [.int (lo8 (ushr (Int32.ofNat B.slots.size - Int32.ofNat B.slots.size) 31))])) := c2.trans (by
    refine X0.alen hexec hB0 rfl rfl (hb hbytes d2) ?_
    refine XS.isub X0.here hexec rfl (hb hbytes d3) rfl ?_
    refine bipushV X0.here hexec rfl 31 (hb hbytes d4) (by decide) ?_
    refine iushr X0.here hexec rfl (hb hbytes d6) rfl ?_
    refine i2b X0.here hexec rfl (hb hbytes d7) rfl ?_
    exact Steps.refl _)
  have e0 : lo8 (ushr (Int32.ofNat B.slots.size - Int32.ofNat B.slots.size) 31) = 0 := by rw [Int32.sub_self]; decide
  rw [e0] at c3
  exact ⟨s₁, some (.int 0), _, _, _, X0, rfl, rfl, rfl, (fun h => by cases h), ⟨rfl, hh0⟩, fun fs hl => c3.trans (X0.ireturnOut hexec hret rfl (Or.inr (Or.inr (Or.inl rfl))) (hb hbytes d8) hl)⟩
end CodL
/-- the String at a is Latin-1 over a new byte[] (the heap's one new cell): the low bytes of the len chars of A from o on; every cell but a is kept -/
def Got (a : Addr) (D : Cell) (fV fC : Field) (A : Cell) (o len : Nat) (r : Option Value) (s u : State) : Prop := r = none ∧ ∃ D' V : Cell, Blank "java/lang/String" a D' u ∧ Same D D' [fV.slot, fC.slot] ∧ D'.slots[fV.slot]? = some (.ref s.heap.size) ∧ D'.slots[fC.slot]? = some (.int 0) ∧ Arr .byte s.heap.size V u ∧ V.vm = .none ∧ u.vm.findClass "[B" = some V.cls ∧ V.slots.size = len ∧ (∀ j, j < len → V.slots[j]? = some (.int (lo8 (cv A (o + j))))) ∧ (∀ (y : Addr) (c : Cell), y ≠ a → s.heap[y]? = some c → u.heap[y]? = some c) ∧ u.heap.size = s.heap.size + 1
theorem Got.mv {a : Addr} {D A : Cell} {fV fC : Field} {o len : Nat} : ∀ r (U U' V V' : State), U'.heap = U.heap → V.vm.Alike V'.vm → V'.heap = V.heap → Got a D fV fC A o len r U V → Got a D fV fC A o len r U' V' :=
  fun r U U' V V' h1 hal h2 ⟨e0, D', X, a1, a2, a3, a4, a5, a6, a7, a8, a9, a10, a11⟩ => ⟨e0, D', X, a1.mv hal h2, a2, by rw [h1]; exact a3, a4, by rw [h1]; exact a5.mv hal h2, a6, by rw [hal.findClass]; exact a7, a8, a9, by rw [h1, h2]; exact a10, by rw [h1, h2]; exact a11⟩
namespace New4
def yN : MethodName := ⟨"java/lang/String", "<init>", "([CIILjava/lang/Void;)V"⟩
abbrev yB : ByteArray := jdk_42_method_149_code
theorem d0 : decode yB 0 = .ok (.aload_n 0, 1) := by decide +kernel
theorem d1 : decode yB 1 = .ok (.invokespecial 1, 3) := by decide +kernel
theorem d4 : decode yB 4 = .ok (.iload_n 3, 1) := by decide +kernel
theorem d5 : decode yB 5 = .ok (.ifCond (.ne) 22, 3) := by decide +kernel
theorem d27 : decode yB 27 = .ok (.getstatic 38, 3) := by decide +kernel
theorem d30 : decode yB 30 = .ok (.ifCond (.eq) 28, 3) := by decide +kernel
theorem d33 : decode yB 33 = .ok (.aload_n 1, 1) := by decide +kernel
theorem d34 : decode yB 34 = .ok (.iload_n 2, 1) := by decide +kernel
theorem d35 : decode yB 35 = .ok (.iload_n 3, 1) := by decide +kernel
theorem d36 : decode yB 36 = .ok (.invokestatic 177, 3) := by decide +kernel
theorem d39 : decode yB 39 = .ok (.astore 5, 2) := by decide +kernel
theorem d41 : decode yB 41 = .ok (.aload_n 0, 1) := by decide +kernel
theorem d42 : decode yB 42 = .ok (.aload 5, 2) := by decide +kernel
theorem d44 : decode yB 44 = .ok (.iload_n 3, 1) := by decide +kernel
theorem d45 : decode yB 45 = .ok (.invokestatic 47, 3) := by decide +kernel
theorem d48 : decode yB 48 = .ok (.putfield 15, 3) := by decide +kernel
theorem d51 : decode yB 51 = .ok (.aload_n 0, 1) := by decide +kernel
theorem d52 : decode yB 52 = .ok (.aload 5, 2) := by decide +kernel
theorem d54 : decode yB 54 = .ok (.putfield 9, 3) := by decide +kernel
theorem d57 : decode yB 57 = .ok (.return_, 1) := by decide +kernel
def site : List Cond := [.fieldLink "java/lang/String" 38 "java/lang/String" "COMPACT_STRINGS" "Z", Cmp3.tab, CodL.tab, .laysFinal "java/lang/String" "java/lang/String" "value" "[B", .fieldLink "java/lang/String" 9 "java/lang/String" "value" "[B", .laysFinal "java/lang/String" "java/lang/String" "coder" "B", .fieldLink "java/lang/String" 15 "java/lang/String" "coder" "B"] ++ objW "java/lang/String" 1 ++ staticW "java/lang/String" 177 Cmp3.yN ++ staticW "java/lang/String" 47 CodL.yN
def tab : Cond := tabOf yN yB 6 none site
def P (a : Addr) (D : Cell) (fV fC : Field) (b : Addr) (A : Cell) (z : Int32) (o len : Nat) (args : Array Value) (s : State) : Prop := args = #[.ref a, .ref b, .int (Int32.ofNat o), .int (Int32.ofNat len), .null] ∧ Blank "java/lang/String" a D s ∧ Found "java/lang/String" "value" "[B" fV s ∧ Found "java/lang/String" "coder" "B" fC s ∧ Ch b A s ∧ StaticIs s "java/lang/String" "COMPACT_STRINGS" "Z" (.int z) ∧ ¬ z = 0 ∧ 0 < len ∧ o + len ≤ A.slots.size ∧ len ≤ 536870912 ∧ ∀ i, i < len → ¬ 255 < cv A (o + i)
def E (a : Addr) (D : Cell) (fV fC : Field) (A : Cell) (o len : Nat) (r : Option Value) (s u : State) : Prop := Got a D fV fC A o len r s u
/-- len > 0, no char of the range above 255: a Latin-1 String of their low bytes -/
theorem law (l : Launch) (a : Addr) (D : Cell) (fV fC : Field) (b : Addr) (A : Cell) (z : Int32) (o len : Nat) : Law l yN 5 4 2 35 yB 6 none site (P a D fV fC b A z o len) (E a D fV fC A o len) [⟨a, fC.slot⟩, ⟨a, fV.slot⟩] 1 len := by
  refine Law.of_walk (plainFor_of_name (by decide +kernel)) (by decide +kernel) (by decide +kernel) (by decide) (fun _ _ h => by rw [h.1]; rfl) (fun _ U U' hal hh h => ⟨h.1, h.2.1.mv hal hh, h.2.2.1.al hal, h.2.2.2.1.al hal, h.2.2.2.2.1.mv hal hh, h.2.2.2.2.2.1.there hal hh, h.2.2.2.2.2.2⟩) (fun r U U' V V' h1 hal h2 h => Got.mv r U U' V V' h1 hal h2 h) ?_
  intro p e s m args below meth c s₁ X0 hexec hbytes hml hret hlk hnm hown hh0 W hP
  obtain ⟨rfl, hB, f1, f2, hA, s1, hz, l0, l1, l2, hp⟩ := hP
  have a31 := hA.1.2.2.2
  have c1 : Steps p.tables e below (s₁.setTop (entryFrame m #[.ref a, .ref b, .int (Int32.ofNat o), .int (Int32.ofNat len), .null] 6)) (s₁.setTop (mkF m 0 #[.val (.ref a), .val (.ref b), .val (.int (Int32.ofNat o)), .val (.int (Int32.ofNat len)), .val .null, .unset] [])) := entry rfl
  have c2 : Steps p.tables e below (s₁.setTop (entryFrame m #[.ref a, .ref b, .int (Int32.ofNat o), .int (Int32.ofNat len), .null] 6)) (s₁.setTop (mkF m 1 #[.val (.ref a), .val (.ref b), .val (.int (Int32.ofNat o)), .val (.int (Int32.ofNat len)), .val .null, .unset] [.ref a])) := c1.trans (by
    refine XS.aloadN X0.here hexec rfl (hb hbytes d0) rfl rfl ?_
    exact Steps.refl _)
  obtain ⟨T3, X3, q3, st3⟩ := X0.oinit hexec hown (wks W (objW "java/lang/String" 1)) (g := (mkF m 1 #[.val (.ref a), .val (.ref b), .val (.int (Int32.ofNat o)), .val (.int (Int32.ofNat len)), .val .null, .unset] [.ref a])) rfl (by rw [hml]; rfl) (rest := []) rfl (hb hbytes d1) (W := 0) (by show 2 * 0 + 0 ≤ _; decide) (Nat.le_of_ble_eq_true rfl) (Nat.le_of_ble_eq_true rfl)
  have hh3 := q3.trans hh0
  have c4 : Steps p.tables e below (s₁.setTop (entryFrame m #[.ref a, .ref b, .int (Int32.ofNat o), .int (Int32.ofNat len), .null] 6)) (T3.setTop (mkF m 27 #[.val (.ref a), .val (.ref b), .val (.int (Int32.ofNat o)), .val (.int (Int32.ofNat len)), .val .null, .unset] [])) := (c2.trans (st3 _ (Steps.refl _))).trans (by
    refine XS.iloadN X3.here hexec rfl (hb hbytes d4) rfl ?_
    refine XS.ifYes X3.here hexec rfl (pc0 := 5) rfl (hb hbytes d5) rfl (i0_ne_t (nz32 (by omega) l0)) (by decide) rfl ?_
    exact Steps.refl _)
  obtain ⟨T5, X5, q5, st5⟩ := X3.sget hexec hown (wk W (.fieldLink "java/lang/String" 38 "java/lang/String" "COMPACT_STRINGS" "Z")) s1 (fun _ _ h => by rw [hh3]; exact h) (g := (mkF m 27 #[.val (.ref a), .val (.ref b), .val (.int (Int32.ofNat o)), .val (.int (Int32.ofNat len)), .val .null, .unset] [])) rfl (hb hbytes d27)
  have hh5 := q5.trans hh3
  have c6 : Steps p.tables e below (s₁.setTop (entryFrame m #[.ref a, .ref b, .int (Int32.ofNat o), .int (Int32.ofNat len), .null] 6)) (T5.setTop (mkF m 30 #[.val (.ref a), .val (.ref b), .val (.int (Int32.ofNat o)), .val (.int (Int32.ofNat len)), .val .null, .unset] [.int z])) := c4.trans (st5 _ (Steps.refl _))
  have c7 : Steps p.tables e below (s₁.setTop (entryFrame m #[.ref a, .ref b, .int (Int32.ofNat o), .int (Int32.ofNat len), .null] 6)) (T5.setTop (mkF m 36 #[.val (.ref a), .val (.ref b), .val (.int (Int32.ofNat o)), .val (.int (Int32.ofNat len)), .val .null, .unset] [.int (Int32.ofNat len), .int (Int32.ofNat o), .ref b])) := c6.trans (by
    refine XS.ifNo X5.here hexec rfl (hb hbytes d30) rfl (i0_eq_f hz) ?_
    refine XS.aloadN X5.here hexec rfl (hb hbytes d33) rfl rfl ?_
    refine XS.iloadN X5.here hexec rfl (hb hbytes d34) rfl ?_
    refine XS.iloadN X5.here hexec rfl (hb hbytes d35) rfl ?_
    exact Steps.refl _)
  obtain ⟨v8, T8, X8, E8, g8⟩ := X5.callS hexec (Cmp3.law l b A o len) hown (wks W (staticW "java/lang/String" 177 Cmp3.yN)) (wk W Cmp3.tab) (W := 0) (Nat.le_of_ble_eq_true rfl) (Nat.le_of_ble_eq_true rfl) (Nat.le_refl _) (by show 0 + len ≤ len; omega) (g := (mkF m 36 #[.val (.ref a), .val (.ref b), .val (.int (Int32.ofNat o)), .val (.int (Int32.ofNat len)), .val .null, .unset] [.int (Int32.ofNat len), .int (Int32.ofNat o), .ref b])) rfl (by rw [hml]; rfl) c7 (argsL := [.ref b, .int (Int32.ofNat o), .int (Int32.ofNat len)]) (rest := []) rfl rfl (by show 2 * 0 + 0 ≤ _; decide) (hb hbytes d36) (⟨rfl, hA.mv X5.warmed.alike hh5, l1, l2, hp⟩)
  obtain ⟨e8, z8⟩ := E8
  obtain ⟨rfl, N, n1, n2, n3, n4, n5, n6⟩ := NewArr.mv _ T5 s _ _ hh5.symm (Vm.Alike.refl _) rfl e8
  rw [hh5] at z8
  have hB1 := hB.keep X8.warmed.alike (n6 _ _ hB.1)
  have hne : s.heap.size ≠ a := (Nat.ne_of_lt (Array.getElem?_eq_some_iff.mp hB.1).1).symm
  have c9 : Steps p.tables e below (s₁.setTop (entryFrame m #[.ref a, .ref b, .int (Int32.ofNat o), .int (Int32.ofNat len), .null] 6)) (T8.setTop (mkF m 39 #[.val (.ref a), .val (.ref b), .val (.int (Int32.ofNat o)), .val (.int (Int32.ofNat len)), .val .null, .unset] [.ref s.heap.size])) := g8
  have c10 : Steps p.tables e below (s₁.setTop (entryFrame m #[.ref a, .ref b, .int (Int32.ofNat o), .int (Int32.ofNat len), .null] 6)) (T8.setTop (mkF m 45 #[.val (.ref a), .val (.ref b), .val (.int (Int32.ofNat o)), .val (.int (Int32.ofNat len)), .val .null, .val (.ref s.heap.size)] [.int (Int32.ofNat N.slots.size), .ref s.heap.size, .ref a])) := by
    have hc : Steps p.tables e below (s₁.setTop (entryFrame m #[.ref a, .ref b, .int (Int32.ofNat o), .int (Int32.ofNat len), .null] 6)) (T8.setTop (mkF m 45 #[.val (.ref a), .val (.ref b), .val (.int (Int32.ofNat o)), .val (.int (Int32.ofNat len)), .val .null, .val (.ref s.heap.size)] [.int (Int32.ofNat len), .ref s.heap.size, .ref a])) := c9.trans (by
      refine XS.astore X8.here hexec rfl (hb hbytes d39) rfl rfl rfl ?_
      refine XS.aloadN X8.here hexec rfl (hb hbytes d41) rfl rfl ?_
      refine XS.aload X8.here hexec rfl (hb hbytes d42) rfl rfl ?_
      refine XS.iloadN X8.here hexec rfl (hb hbytes d44) rfl ?_
      exact Steps.refl _)
    rw [n4]; exact hc
  obtain ⟨v11, T11, X11, E11, g11⟩ := X8.callS hexec (CodL.law l s.heap.size N) hown (wks W (staticW "java/lang/String" 47 CodL.yN)) (wk W CodL.tab) (W := 1) (Nat.le_of_ble_eq_true rfl) (Nat.le_of_ble_eq_true rfl) (Nat.le_refl _) (by show 0 + len + 0 ≤ len; omega) (g := (mkF m 45 #[.val (.ref a), .val (.ref b), .val (.int (Int32.ofNat o)), .val (.int (Int32.ofNat len)), .val .null, .val (.ref s.heap.size)] [.int (Int32.ofNat N.slots.size), .ref s.heap.size, .ref a])) rfl (by rw [hml]; rfl) c10 (argsL := [.ref s.heap.size, .int (Int32.ofNat N.slots.size)]) (rest := [.ref a]) rfl rfl (by show 2 * 0 + (1 + 0) ≤ _; decide) (hb hbytes d45) (⟨rfl, n1⟩)
  obtain ⟨rfl, q11⟩ := E11
  have hB11 := hB1.mv (X8.warmed.alike.symm.trans X11.warmed.alike) q11
  have c12 : Steps p.tables e below (s₁.setTop (entryFrame m #[.ref a, .ref b, .int (Int32.ofNat o), .int (Int32.ofNat len), .null] 6)) (T11.setTop (mkF m 48 #[.val (.ref a), .val (.ref b), .val (.int (Int32.ofNat o)), .val (.int (Int32.ofNat len)), .val .null, .val (.ref s.heap.size)] [.int 0, .ref a])) := g11
  obtain ⟨T13, X13, p13, bl13, sl13, st13⟩ := X11.finit hexec hown (wk W (.fieldLink "java/lang/String" 15 "java/lang/String" "coder" "B")) (Or.inr ⟨_, (wk W (.laysFinal "java/lang/String" "java/lang/String" "coder" "B"))⟩) (Or.inl ⟨rfl, hnm⟩) f2 (Or.inl rfl) hB11 (t := .byte) (by decide +kernel) rfl (g := (mkF m 48 #[.val (.ref a), .val (.ref b), .val (.int (Int32.ofNat o)), .val (.int (Int32.ofNat len)), .val .null, .val (.ref s.heap.size)] [.int 0, .ref a])) rfl (rest := []) rfl (hb hbytes d48)
  have c14 : Steps p.tables e below (s₁.setTop (entryFrame m #[.ref a, .ref b, .int (Int32.ofNat o), .int (Int32.ofNat len), .null] 6)) (T13.setTop (mkF m 54 #[.val (.ref a), .val (.ref b), .val (.int (Int32.ofNat o)), .val (.int (Int32.ofNat len)), .val .null, .val (.ref s.heap.size)] [.ref s.heap.size, .ref a])) := (c12.trans (st13 _ (Steps.refl _))).trans (by
    refine XS.aloadN X13.here hexec rfl (hb hbytes d51) rfl rfl ?_
    refine XS.aload X13.here hexec rfl (hb hbytes d52) rfl rfl ?_
    exact Steps.refl _)
  obtain ⟨T15, X15, p15, bl15, sl15, st15⟩ := X13.finit hexec hown (wk W (.fieldLink "java/lang/String" 9 "java/lang/String" "value" "[B")) (Or.inr ⟨_, (wk W (.laysFinal "java/lang/String" "java/lang/String" "value" "[B"))⟩) (Or.inl ⟨rfl, hnm⟩) f1 (Or.inl rfl) bl13 (t := (.array .byte)) (by decide +kernel) rfl (g := (mkF m 54 #[.val (.ref a), .val (.ref b), .val (.int (Int32.ofNat o)), .val (.int (Int32.ofNat len)), .val .null, .val (.ref s.heap.size)] [.ref s.heap.size, .ref a])) rfl (rest := []) rfl (hb hbytes d54)
  have c16 : Steps p.tables e below (s₁.setTop (entryFrame m #[.ref a, .ref b, .int (Int32.ofNat o), .int (Int32.ofNat len), .null] 6)) (T15.setTop (mkF m 57 #[.val (.ref a), .val (.ref b), .val (.int (Int32.ofNat o)), .val (.int (Int32.ofNat len)), .val .null, .val (.ref s.heap.size)] [])) := c14.trans (st15 _ (Steps.refl _))
  have ap := apart (Or.inr ⟨_, (wk W (.laysFinal "java/lang/String" "java/lang/String" "value" "[B"))⟩) (Or.inr ⟨_, (wk W (.laysFinal "java/lang/String" "java/lang/String" "coder" "B"))⟩) f1 f2 (t₁ := .array .byte) (t₂ := .byte) (by decide +kernel) (by decide +kernel) (by decide)
  have al := X8.warmed.alike.symm.trans X15.warmed.alike
  have n7 : T11.heap[s.heap.size]? = some N := by rw [q11]; exact n1.1
  exact ⟨T15, none, _, _, _, X15, by simp, rfl, by omega, (fun _ => rfl), ⟨rfl, _, N, bl15, ((Same.refl D _).set _ (by simp)).set _ (by simp), sl15, (Cell.slots_setSlot_ne _ ap).trans sl13, n1.keep al (p15.other hne (p13.other hne n7)), n2, by rw [al.findClass]; exact n3, n4, n5, fun y c h1 h2 => p15.other h1 (p13.other h1 (by rw [q11]; exact n6 y c h2)), by rw [p15.2.2, p13.2.2, q11]; exact z8⟩, fun fs hl => c16.trans (X15.returnOut hexec hret (hb hbytes d57) hl)⟩
end New4
namespace New1
def yN : MethodName := ⟨"java/lang/String", "<init>", "([C)V"⟩
abbrev yB : ByteArray := jdk_42_method_3_code
theorem d0 : decode yB 0 = .ok (.aload_n 0, 1) := by decide +kernel
theorem d1 : decode yB 1 = .ok (.aload_n 1, 1) := by decide +kernel
theorem d2 : decode yB 2 = .ok (.iconst 0, 1) := by decide +kernel
theorem d3 : decode yB 3 = .ok (.aload_n 1, 1) := by decide +kernel
theorem d4 : decode yB 4 = .ok (.arraylength, 1) := by decide +kernel
theorem d5 : decode yB 5 = .ok (.aconst_null, 1) := by decide +kernel
theorem d6 : decode yB 6 = .ok (.invokespecial 27, 3) := by decide +kernel
theorem d9 : decode yB 9 = .ok (.return_, 1) := by decide +kernel
def site : List Cond := [New4.tab] ++ initW "java/lang/String" 27 New4.yN
def tab : Cond := tabOf yN yB 2 none site
def P (a : Addr) (D : Cell) (fV fC : Field) (b : Addr) (A : Cell) (z : Int32) (args : Array Value) (s : State) : Prop := args = #[.ref a, .ref b] ∧ Blank "java/lang/String" a D s ∧ Found "java/lang/String" "value" "[B" fV s ∧ Found "java/lang/String" "coder" "B" fC s ∧ Ch b A s ∧ StaticIs s "java/lang/String" "COMPACT_STRINGS" "Z" (.int z) ∧ ¬ z = 0 ∧ 0 < A.slots.size ∧ A.slots.size ≤ 536870912 ∧ ∀ i, i < A.slots.size → ¬ 255 < cv A i
def E (a : Addr) (D : Cell) (fV fC : Field) (A : Cell) (r : Option Value) (s u : State) : Prop := Got a D fV fC A 0 A.slots.size r s u
/-- new String(chars), not empty, no char above 255: a Latin-1 String of their low bytes -/
theorem law (l : Launch) (a : Addr) (D : Cell) (fV fC : Field) (b : Addr) (A : Cell) (z : Int32) : Law l yN 2 1 3 52 yB 2 none site (P a D fV fC b A z) (E a D fV fC A) [⟨a, fC.slot⟩, ⟨a, fV.slot⟩] 1 A.slots.size := by
  refine Law.of_walk (plainFor_of_name (by decide +kernel)) (by decide +kernel) (by decide +kernel) (by decide) (fun _ _ h => by rw [h.1]; rfl) (fun _ U U' hal hh h => ⟨h.1, h.2.1.mv hal hh, h.2.2.1.al hal, h.2.2.2.1.al hal, h.2.2.2.2.1.mv hal hh, h.2.2.2.2.2.1.there hal hh, h.2.2.2.2.2.2⟩) (fun r U U' V V' h1 hal h2 h => Got.mv r U U' V V' h1 hal h2 h) ?_
  intro p e s m args below meth c s₁ X0 hexec hbytes hml hret hlk hnm hown hh0 W hP
  obtain ⟨rfl, hB, f1, f2, hA, s1, hz, l0, l2, hp⟩ := hP
  have c1 : Steps p.tables e below (s₁.setTop (entryFrame m #[.ref a, .ref b] 2)) (s₁.setTop (mkF m 0 #[.val (.ref a), .val (.ref b)] [])) := entry rfl
  have c2 : Steps p.tables e below (s₁.setTop (entryFrame m #[.ref a, .ref b] 2)) (s₁.setTop (mkF m 6 #[.val (.ref a), .val (.ref b)] [.null, .int (Int32.ofNat A.slots.size), .int 0, .ref b, .ref a])) := c1.trans (by
    refine XS.aloadN X0.here hexec rfl (hb hbytes d0) rfl rfl ?_
    refine XS.aloadN X0.here hexec rfl (hb hbytes d1) rfl rfl ?_
    refine iconstV X0.here hexec rfl 0 (hb hbytes d2) (by decide) ?_
    refine XS.aloadN X0.here hexec rfl (hb hbytes d3) rfl rfl ?_
    refine X0.alen hexec (hA.1.mv X0.warmed.alike hh0) rfl rfl (hb hbytes d4) ?_
    refine XS.aconstNull X0.here hexec rfl (hb hbytes d5) ?_
    exact Steps.refl _)
  obtain ⟨v3, T3, X3, E3, g3⟩ := X0.callN hexec (New4.law l a D fV fC b A z 0 A.slots.size) rfl hown (wks W (initW "java/lang/String" 27 New4.yN)) (W New4.tab (by simp only [site, List.mem_cons, List.mem_append, true_or, or_true])) (W := 0) (Nat.le_of_ble_eq_true rfl) (Nat.le_of_ble_eq_true rfl) (Nat.le_refl _) (by show 0 + A.slots.size ≤ A.slots.size; omega) (g := (mkF m 6 #[.val (.ref a), .val (.ref b)] [.null, .int (Int32.ofNat A.slots.size), .int (Int32.ofNat 0), .ref b, .ref a])) rfl (by rw [hml]; rfl) c2 (argsL := [.ref b, .int (Int32.ofNat 0), .int (Int32.ofNat A.slots.size), .null]) (rest := []) rfl rfl (by show 2 * 0 + 0 ≤ _; decide) (hb hbytes d6) (⟨rfl, hB.mv X0.warmed.alike hh0, f1.al X0.warmed.alike, f2.al X0.warmed.alike, hA.mv X0.warmed.alike hh0, s1.there X0.warmed.alike hh0, hz, l0, by omega, l2, fun i hi => by rw [Nat.zero_add]; exact hp i hi⟩)
  have e0 := Got.mv _ s₁ s _ _ hh0.symm (Vm.Alike.refl _) rfl E3
  obtain rfl := e0.1
  have c4 : Steps p.tables e below (s₁.setTop (entryFrame m #[.ref a, .ref b] 2)) (T3.setTop (mkF m 9 #[.val (.ref a), .val (.ref b)] [])) := g3
  exact ⟨T3, none, _, _, _, X3, by simp, rfl, by omega, (fun _ => rfl), e0, fun fs hl => c4.trans (X3.returnOut hexec hret (hb hbytes d9) hl)⟩
theorem pays {l : Launch} {R : Room} {p : Program} {e : Env} {below : List Frame} {s : State} {sargs : Array Value} {len W : Nat} (a : Addr) (D : Cell) (fV fC : Field) (b : Addr) (A : Cell) (z : Int32) (htab : tab.before sargs s = true) (hfr : 4 ≤ R.frames) (hlo : W + 65 ≤ R.locals) :
    Back l R p e below s sargs yN len W (fun A₁ a₁ => A₁.cells + 1 ≤ R.cells ∧ A₁.slots + A.slots.size ≤ R.slots ∧ P a D fV fC b A z a₁ A₁.U) (fun A₁ _ v₁ B₁ => E a D fV fC A v₁ A₁.U B₁.U ∧ B₁.locs = A₁.locs ++ [⟨a, fC.slot⟩, ⟨a, fV.slot⟩] ∧ B₁.cells = A₁.cells + 1 ∧ B₁.slots = A₁.slots + A.slots.size) :=
  (law l a D fV fC b A z).pays htab hfr (by omega)
end New1
/-- the byte, read back as charAt reads it, is the char -/
theorem lo8_mask {x : Int32} (h0 : ¬ x < 0) (h1 : ¬ 255 < x) : lo8 x &&& 255 = x := by
  have t : ∀ k : Fin 256, lo8 (Int32.ofNat k.val) &&& 255 = Int32.ofNat k.val := by decide +kernel
  rw [Int32.lt_iff_toInt_lt] at h0 h1
  have e0 : (0 : Int32).toInt = 0 := rfl
  have e1 : (255 : Int32).toInt = 255 := rfl
  obtain ⟨k, hk⟩ : ∃ k : Nat, x.toInt = k := ⟨x.toInt.toNat, by omega⟩
  have hx : x = Int32.ofNat k := Int32.toInt_inj.mp (by rw [hk, Int32.toInt_ofNat_small (by omega)])
  rw [hx]
  exact t ⟨k, by omega⟩
end StrChars
namespace StrChars.Road
open Jvm Sem ClassFile Op Lib Jvm.Stand Jvm.Free Jvm.Free.XT
open Jvm.Lib.Cold (StaticIs)
abbrev ST : String := "java/lang/String"
/-- every table word that New1's law asks, flat -/
abbrev words : List Jvm.Cond := [.code New1.yN New1.yB 2 none, .initialized ST, .methodLink ST 27 New4.yN, .instanceMethod New4.yN,
  .code New4.yN New4.yB 6 none, .fieldLink ST 38 ST "COMPACT_STRINGS" "Z", .laysFinal ST ST "value" "[B", .fieldLink ST 9 ST "value" "[B", .laysFinal ST ST "coder" "B", .fieldLink ST 15 ST "coder" "B",
  .methodLink ST 1 Lib.objectInit, .instanceMethod Lib.objectInit, .code Lib.objectInit ⟨#[0xb1]⟩ 1 none, .methodLink ST 177 Cmp3.yN, .static Cmp3.yN, .methodLink ST 47 CodL.yN, .static CodL.yN,
  .code Cmp3.yN Cmp3.yB 6 (some (.array .byte)), .initialized U16, .arrayClass .byte, .methodLink U16 115 Cmp5.yN, .static Cmp5.yN, .code Cmp5.yN Cmp5.yB 7 (some .int), .code CodL.yN CodL.yB 2 (some .byte)]
theorem tab_of {a : Array Value} {s : State} (h : ∀ w ∈ words, w.before a s = true) : New1.tab.before a s = true := by
  have h5 : Cmp5.tab.before a s = true := unparts (wk h (.code Cmp5.yN Cmp5.yB 7 (some .int))) (wks h (.initialized Cmp5.yN.cls :: Cmp5.site))
  have hc : CodL.tab.before a s = true := unparts (wk h (.code CodL.yN CodL.yB 2 (some .byte))) (wks h (.initialized CodL.yN.cls :: CodL.site))
  have q5 : ∀ w ∈ Cmp5.tab :: words, w.before a s = true := fun w hw => (List.mem_cons.mp hw).elim (fun e => e ▸ h5) (h w)
  have h3 : Cmp3.tab.before a s = true := unparts (wk q5 (.code Cmp3.yN Cmp3.yB 6 (some (.array .byte)))) (wks q5 (.initialized Cmp3.yN.cls :: Cmp3.site))
  have q3 : ∀ w ∈ Cmp3.tab :: CodL.tab :: words, w.before a s = true := fun w hw => (List.mem_cons.mp hw).elim (fun e => e ▸ h3) fun hw => (List.mem_cons.mp hw).elim (fun e => e ▸ hc) (h w)
  have h4 : New4.tab.before a s = true := unparts (wk q3 (.code New4.yN New4.yB 6 none)) (wks q3 (.initialized New4.yN.cls :: New4.site))
  have q4 : ∀ w ∈ New4.tab :: words, w.before a s = true := fun w hw => (List.mem_cons.mp hw).elim (fun e => e ▸ h4) (h w)
  exact unparts (wk q4 (.code New1.yN New1.yB 2 none)) (wks q4 (.initialized New1.yN.cls :: New1.site))
/-- the words ride from the start Z to the walk's own state -/
theorem moved {Z s : State} {a0 args : Array Value} (hZ : Z.Warmed39 s.vm) (hw : ∀ d ∈ words, d.before a0 Z = true) : ∀ d ∈ words, d.before args s = true := fun d hd => by
  have q := hw d hd
  have t : ∀ d ∈ words, d = .arrayClass .byte ∨ (d.onTables && d.keepsFace) = true := by decide +kernel
  rcases t d hd with rfl | t
  · exact RoadKit.mvA hZ q
  · exact RoadKit.mv hZ q t
/-- WHAT COMES BACK, over the tables of the start Z: h the heap at the call, h' behind it -/
def Q (Z : State) (x : Addr) (A : Cell) (h : Heap) (v : Option Value) (h' : Heap) (L : List Loc) : Prop := v = none ∧ (∀ y ∈ L, y.base = x) ∧ RoadKit.Keep h h' [x] ∧ h'.size = h.size + 1 ∧ RoadKit.Exa Z h' x ST ∧ RoadKit.Fld Z h' x ST "value" "[B" (.ref h.size) ∧ RoadKit.Fld Z h' x ST "coder" "B" (.int 0) ∧
  (∃ V : Cell, RoadKit.Arr Z h' h.size V .byte ∧ V.vm = .none ∧ Z.vm.findClass "[B" = some V.cls ∧ V.slots.size = A.slots.size ∧ ∀ j, j < A.slots.size → V.slots[j]? = some (.int (lo8 (cv A j)))) ∧
  ∀ (O n d : String) (w : Value), RoadKit.Fld Z h x O n d w → RoadKit.slotOf Z O n d ≠ RoadKit.slotOf Z ST "value" "[B" → RoadKit.slotOf Z O n d ≠ RoadKit.slotOf Z ST "coder" "B" → RoadKit.Fld Z h' x O n d w
/-- **new String(chars) AT A CALL, IN THE ROAD'S FORM**: for specialBack behind newO: x the fresh String, b the char[] with the cell A -/
theorem back {p : Program} {l : Launch} {e : Env} {R : Room} {s : State} {args : Array Value} {below : List Frame} {len W : Nat} {Z : State} {a0 : Array Value} {h : Heap} (hZ : Z.Warmed39 s.vm) (hw : ∀ d ∈ words, d.before a0 Z = true) {kI : Nat} (wi : (Jvm.Cond.instantiable ST kI).before a0 Z = true)
    {x b : Addr} {A : Cell} {z : Int32} {v0 c0 : Value} (E : RoadKit.Exa Z h x ST) (V : RoadKit.Fld Z h x ST "value" "[B" v0) (C : RoadKit.Fld Z h x ST "coder" "B" c0) (K : RoadKit.Arr Z h b A .char) (hty : Typed .char A) (S : RoadKit.Sta Z h ST "COMPACT_STRINGS" "Z" (.int z)) (hz : ¬ z = 0)
    (l0 : 0 < A.slots.size) (l2 : A.slots.size ≤ 536870912) (hp : ∀ i, i < A.slots.size → ¬ 255 < cv A i) (hfr : 4 ≤ R.frames) (hlo : W + 65 ≤ R.locals) :
    Back l R p e below s args New1.yN len W (fun P a => a = #[.ref x, .ref b] ∧ P.U.heap = h ∧ P.cells + 1 ≤ R.cells ∧ P.slots + A.slots.size ≤ R.slots)
      (fun P _ v B => ∃ L, Q Z x A h v B.U.heap L ∧ B.locs = P.locs ++ L ∧ B.cells = P.cells + 1 ∧ B.slots = P.slots + A.slots.size) := by
  intro m meth c P g ig mk a X hg hsize hdg hW hn hp'
  obtain ⟨rfl, rfl, r1, r2⟩ := hp'
  have al : Z.vm.Alike P.U.vm := hZ.alike.trans X.warmed.alike
  obtain ⟨D, cfV, kV, iV, fV, hD, gV, stV, knV, obV, asV, slV⟩ := id V
  obtain ⟨D', cfC, kC, iC, fC, hD', gC, stC, -, -, asC, slC⟩ := id C
  cases hD.symm.trans hD'
  obtain ⟨D2, kD, e1, e2, e3, e4, e5⟩ := id E
  cases hD.symm.trans e1
  obtain ⟨c2, k2, i1, i2, i3, -⟩ := Cond.instantiable_spec wi
  cases e2.symm.trans i1
  cases e3.symm.trans i2
  obtain ⟨kU, u1, u2⟩ := al.2.2 _ _ e3
  have hB : Blank ST x D P.U := ⟨hD, ⟨knV, fun q hq => by rw [hq] at obV; cases obV⟩, by rw [al.findClass]; exact e2, kU, u1, by rw [u2]; exact i3, by rw [u2]; exact e5 i3⟩
  have F1 : Found ST "value" "[B" fV P.U := ⟨SBG.found_only al ⟨cfV, kV, iV, gV⟩, stV⟩
  have F2 : Found ST "coder" "B" fC P.U := ⟨SBG.found_only al ⟨cfC, kC, iC, gC⟩, stC⟩
  have hA : Ch b A P.U := ⟨⟨K.1, State.isArrayOf_alike al K.2.1, K.2.2, by omega⟩, hty⟩
  have hS : StaticIs P.U ST "COMPACT_STRINGS" "Z" (.int z) := by
    obtain ⟨cfS, iS, kS, fS, st, cS, t1, t2, t3, t4, t5, t6, t7⟩ := S
    exact StaticIs.there (s := { Z with heap := P.U.heap }) ⟨cfS, iS, kS, fS, st, cS, t1, t2, t3, t4, t5, (fun q => by rw [q] at t6; cases t6), t7⟩ al rfl
  obtain ⟨v, B, X', ⟨⟨hv, E', V', q1, q2, q3, q4, q5, q6, q7, q8, q9, q10, q11⟩, hl, hc, hs⟩, st⟩ := New1.pays x D fV fC b A z (tab_of (moved hZ hw)) hfr hlo m meth c P g ig mk _ X hg hsize hdg hW hn ⟨r1, r2, rfl, hB, F1, F2, hA, hS, hz, l0, l2, hp⟩
  have al' : Z.vm.Alike B.U.vm := hZ.alike.trans X'.warmed.alike
  have hsz : E'.slots.size = D.slots.size := by
    obtain ⟨-, -, -, kB, w1, w2, w3⟩ := q1
    obtain ⟨kB', y1, y2⟩ := al'.2.2 _ _ e3
    rw [q2.2.1] at w1
    cases w1.symm.trans y1
    rw [w3, e5 i3, y2]
  refine ⟨v, B, X', ⟨_, ⟨hv, ?_, ⟨by omega, fun y cy hy hn' => q10 y cy (by simpa using hn') hy, fun y cy hy => ?_⟩, q11, ⟨E', _, q1.1, by rw [q2.2.1]; exact e2, by rw [q2.2.1]; exact e3, by rw [q2.1]; exact obV, fun _ => by rw [hsz]; exact e5 i3⟩,
    ⟨E', cfV, kV, iV, fV, q1.1, gV, stV, by rw [q2.1]; exact knV, by rw [q2.1]; exact obV, by rw [q2.2.1]; exact asV, q3⟩, ⟨E', cfC, kC, iC, fC, q1.1, gC, stC, by rw [q2.1]; exact knV, by rw [q2.1]; exact obV, by rw [q2.2.1]; exact asC, q4⟩,
    ⟨V', ⟨q5.1, State.isArrayOf_alike al'.symm q5.2.1, q5.2.2.1⟩, q6, by rw [← al'.findClass]; exact q7, q8, fun j hj => by have := q9 j hj; rwa [Nat.zero_add] at this⟩, fun O n d w F n1 n2 => ?_⟩, hl, hc, hs⟩, st⟩
  · intro y hy
    simp only [List.mem_cons, List.not_mem_nil, or_false] at hy
    rcases hy with rfl | rfl <;> rfl
  · by_cases q : y = x
    · subst q
      cases hD.symm.trans hy
      exact ⟨E', q1.1, q2.2.1, q2.1, hsz⟩
    · exact ⟨cy, q10 y cy q hy, rfl, rfl, rfl⟩
  · obtain ⟨D3, cf, k, i, f, g1, g2, g3, g4, g5, g6, g7⟩ := F
    cases hD.symm.trans g1
    simp only [RoadKit.slotOf, g2, gV, gC, Option.map_some, Option.getD_some] at n1 n2
    exact ⟨E', cf, k, i, f, q1.1, g2, g3, by rw [q2.1]; exact g4, by rw [q2.1]; exact g5, by rw [q2.2.1]; exact g6, by rw [q2.2.2 f.slot (by simp [n1, n2])]; exact g7⟩
end StrChars.Road
namespace StrChars.Road
open Jvm Sem ClassFile Op Lib Jvm.Stand Jvm.Free Jvm.Free.XT
/-- WHAT COMES BACK, the byte[] as a list of values -/
def QA (Z : State) (x : Addr) (zn : Int32) (cs : List Int32) (h : Heap) (v : Option Value) (h' : Heap) (L : List Loc) : Prop := v = none ∧ (∀ y ∈ L, y.base = x) ∧ RoadKit.Keep h h' [x] ∧ h'.size = h.size + 1 ∧ RoadKit.Exa Z h' x ST ∧ RoadKit.Fld Z h' x ST "value" "[B" (.ref h.size) ∧ RoadKit.Fld Z h' x ST "coder" "B" (.int 0) ∧
  (∃ kb, Z.vm.findClass "[B" = some kb ∧ RoadKit.Arv Z h' h.size kb .byte zn (cs.map fun c => .int (lo8 c)) (.int 0)) ∧
  ∀ (O n d : String) (w : Value), RoadKit.Fld Z h x O n d w → RoadKit.slotOf Z O n d ≠ RoadKit.slotOf Z ST "value" "[B" → RoadKit.slotOf Z O n d ≠ RoadKit.slotOf Z ST "coder" "B" → RoadKit.Fld Z h' x O n d w
/-- **new String(chars) AT A CALL, THE ARRAYS AS LISTS**: the char[] at b holds cs, not empty, no char above 255 -/
theorem backArv {p : Program} {l : Launch} {e : Env} {R : Room} {s : State} {args : Array Value} {below : List Frame} {len W : Nat} {Z : State} {a0 : Array Value} {h : Heap} (hZ : Z.Warmed39 s.vm) (hw : ∀ d ∈ words, d.before a0 Z = true) {kI : Nat} (wi : (Jvm.Cond.instantiable ST kI).before a0 Z = true)
    {x b : Addr} {k : ClassId} {zn z : Int32} {cs : List Int32} {dv v0 c0 : Value} (E : RoadKit.Exa Z h x ST) (V : RoadKit.Fld Z h x ST "value" "[B" v0) (C : RoadKit.Fld Z h x ST "coder" "B" c0) (K : RoadKit.Arv Z h b k .char zn (cs.map Value.int) dv) (S : RoadKit.Sta Z h ST "COMPACT_STRINGS" "Z" (.int z)) (hz : ¬ z = 0)
    (hlen : zn.toNatClampNeg = cs.length) (h0 : 0 < cs.length) (hbig : cs.length ≤ 536870912) (hall : ∀ c ∈ cs, ¬ 255 < c) (hfr : 4 ≤ R.frames) (hlo : W + 65 ≤ R.locals) :
    Back l R p e below s args New1.yN len W (fun P a => a = #[.ref x, .ref b] ∧ P.U.heap = h ∧ P.cells + 1 ≤ R.cells ∧ P.slots + cs.length ≤ R.slots)
      (fun P _ v B => ∃ L, QA Z x zn cs h v B.U.heap L ∧ B.locs = P.locs ++ L ∧ B.cells = P.cells + 1 ∧ B.slots = P.slots + cs.length) := by
  obtain ⟨A, K1, K2, K3, K4, K5, K6⟩ := K
  have e : A.slots.size = cs.length := K3.trans hlen
  have hat : ∀ (i : Nat) (hi : i < cs.length), A.slots[i]? = some (.int cs[i]) := fun i hi => by rw [K5 i (by omega)]; simp [List.getD_eq_getElem?_getD, hi]
  have hcv : ∀ (i : Nat) (hi : i < cs.length), cv A i = cs[i] := fun i hi => by unfold cv; rw [hat i hi]
  have hty : Typed .char A := fun i v hv => by
    have hi : i < A.slots.size := (Array.getElem?_eq_some_iff.mp hv).1
    have q := K5 i hi
    rw [hv] at q
    rw [Option.some.inj q]
    exact K6 i hi
  refine Back.mono (back hZ hw wi E V C K1 hty S hz (by omega) (by omega) (fun i hi => by rw [hcv i (by omega)]; exact hall _ (List.getElem_mem _)) hfr hlo) (fun P a hp => ⟨hp.1, hp.2.1, hp.2.2.1, by rw [e]; exact hp.2.2.2⟩) (fun P a v B hp hq => ?_)
  obtain ⟨L, ⟨q1, q2, q3, q4, q5, q6, q7, ⟨V', v1, v2, v3, v4, v5⟩, q9⟩, hl, hc, hs⟩ := hq
  refine ⟨L, ⟨q1, q2, q3, q4, q5, q6, q7, ⟨V'.cls, v3, V', v1, rfl, by rw [v4, e, hlen], K4, fun i hi => ?_, fun i hi => ?_⟩, q9⟩, hl, hc, by rw [hs, e]⟩
  · have hi' : i < cs.length := by omega
    rw [v5 i (by omega), hcv i hi']; simp [List.getD_eq_getElem?_getD, hi']
  · have hi' : i < cs.length := by omega
    simp only [List.getD_eq_getElem?_getD, List.getElem?_map, List.getElem?_eq_getElem hi', Option.map_some, Option.getD_some]
    exact fits_lo8 _
end StrChars.Road
namespace StrChars.Road
open Jvm Sem ClassFile Op Lib Jvm.Stand Jvm.Free Jvm.Free.XT
/-- WHAT COMES BACK, in the writer's own shape -/
def QV (Z : State) (x : Addr) (N : Int32) (bs : List Int32) (h : Heap) (n0 : Nat) (v : Option Value) (h' : Heap) (L : List Loc) : Prop := v = none ∧ RoadKit.Fr n0 L ∧ RoadKit.Keep h h' [x] ∧ RoadKit.Exa Z h' x ST ∧ RoadKit.Fld Z h' x ST "coder" "B" (.int 0) ∧
  ∃ (t : Addr) (kb : ClassId), n0 ≤ t ∧ h.size ≤ t ∧ ¬ t = x ∧ RoadKit.Fld Z h' x ST "value" "[B" (.ref t) ∧ RoadKit.Arv Z h' t kb .byte N (bs.map Value.int) (.int 0)
/-- **new String(chars) AT A CALL, FOR THE WRITER**: a char[] of n known ints, each 0 to 255 -/
theorem backV {p : Program} {l : Launch} {e : Env} {R : Room} {s : State} {args : Array Value} {below : List Frame} {len W : Nat} {Z : State} {a0 : Array Value} {h : Heap} (hZ : Z.Warmed39 s.vm) (hw : ∀ d ∈ words, d.before a0 Z = true) {kI : Nat} (wi : (Jvm.Cond.instantiable ST kI).before a0 Z = true)
    {x b : Addr} {kC : ClassId} {cs bs : List Int32} {d v0 c0 : Value} {z N : Int32} {n n0 : Nat} (hx0 : n0 ≤ x) (hh0 : n0 ≤ h.size) (E : RoadKit.Exa Z h x ST) (V : RoadKit.Fld Z h x ST "value" "[B" v0) (C : RoadKit.Fld Z h x ST "coder" "B" c0) (K : RoadKit.Arv Z h b kC .char N (cs.map Value.int) d) (S : RoadKit.Sta Z h ST "COMPACT_STRINGS" "Z" (.int z)) (hz : ¬ z = 0)
    (hn : cs.length = n) (hN : N = Int32.ofNat n) (l0 : 0 < n) (l2 : n ≤ 4000) (hp : ∀ c ∈ cs, ¬ c < 0 ∧ ¬ (255 : Int32) < c) (hb : bs = cs.map (fun c => c.toInt8.toInt32)) (hfr : 4 ≤ R.frames) (hlo : W + 65 ≤ R.locals) :
    Back l R p e below s args (⟨"java/lang/String", "<init>", "([C)V"⟩ : MethodName) len W (fun P a => a = #[.ref x, .ref b] ∧ P.U.heap = h ∧ P.cells + 1 ≤ R.cells ∧ P.slots + n ≤ R.slots)
      (fun P _ v B => ∃ L, QV Z x N bs h n0 v B.U.heap L ∧ B.locs = P.locs ++ L ∧ B.cells = P.cells + 1 ∧ B.slots = P.slots + n) := by
  subst hn hN hb
  refine Back.mono (backArv hZ hw wi E V C K S hz (n32 (by omega)) l0 (by omega) (fun c hc => (hp c hc).2) hfr hlo) (fun P a hp => hp) (fun P a v B hp hq => ?_)
  obtain ⟨L, ⟨q1, q2, q3, q4, q5, q6, q7, ⟨kb, v1, v2⟩, q9⟩, hl, hc, hs⟩ := hq
  exact ⟨L, ⟨q1, fun y hy => by rw [q2 y hy]; exact hx0, q3, q5, q7, h.size, kb, hh0, Nat.le_refl _, Nat.ne_of_gt E.lt, q6, by rw [List.map_map]; exact v2⟩, hl, hc, hs⟩
end StrChars.Road
namespace StrChars
open Jvm Sem ClassFile Op Lib Jvm.Stand Jvm.Free.XT Jvm.Free.ALB Jvm.Free.JM Jvm.Free
open Jvm.Lib.Cold (StaticIs)
def hi8 (x : Int32) : Int32 := lo8 (x >>> ((8 : Int32) &&& 31))
/-- what StringUTF16.getChar makes of two bytes -/
def pairCh (u v : Int32) : Int32 := (((u &&& 255) <<< ((0 : Int32) &&& 31)) ||| ((v &&& 255) <<< ((8 : Int32) &&& 31))).toUInt32.toUInt16.toUInt32.toInt32
theorem shr0 (c : Int32) : c >>> ((0 : Int32) &&& 31) = c := by
  have e : ((0 : Int32) &&& 31) = 0 := by decide
  rw [e]
  apply Int32.toBitVec_inj.mp
  rw [Int32.toBitVec_shiftRight]
  have e1 : ((0 : Int32).toBitVec.smod 32) = 0#32 := by decide
  rw [e1, BitVec.sshiftRight_eq']
  exact BitVec.sshiftRight_zero
theorem lo8_and (x : Int32) : (lo8 x &&& 255).toBitVec.toNat = x.toBitVec.toNat % 256 := by
  have h : (lo8 x).toBitVec = (x.toBitVec.signExtend 8).signExtend 32 := by rw [lo8, Int8.toBitVec_toInt32, Int32.toBitVec_toInt8]
  rw [Int32.toBitVec_and, BitVec.toNat_and, h]
  have e : ((x.toBitVec.signExtend 8).signExtend 32).toNat % 256 = x.toBitVec.toNat % 256 := by
    rw [BitVec.toNat_signExtend]
    have hlt := x.toBitVec.isLt
    simp only [BitVec.toNat_setWidth, BitVec.toNat_signExtend]
    split <;> split <;> omega
  rw [← e]
  exact Nat.and_two_pow_sub_one_eq_mod _ 8
theorem pair_says {c : Int32} (h0 : ¬ c < 0) (h1 : ¬ 65535 < c) : pairCh (lo8 c) (hi8 c) = c := by
  rw [Int32.lt_iff_toInt_lt] at h0 h1
  have e0 : (0 : Int32).toInt = 0 := rfl
  have e1 : (65535 : Int32).toInt = 65535 := rfl
  have hc : c.toInt = c.toBitVec.toNat := by
    have := c.toBitVec.isLt
    have e : c.toInt = c.toBitVec.toInt := rfl
    rw [e] at h0 h1
    rw [e]
    rw [BitVec.toInt_eq_toNat_cond] at h0 h1 ⊢
    split at h0 <;> split <;> omega
  have hn : c.toBitVec.toNat < 65536 := by omega
  have a1 := lo8_and c
  have a2 : (hi8 c &&& 255).toBitVec.toNat = c.toBitVec.toNat / 256 := by
    rw [hi8, lo8_and]
    have e : ((8 : Int32) &&& 31) = 8 := by decide
    rw [e, Int32.toBitVec_shiftRight]
    have e2 : ((8 : Int32).toBitVec.smod 32) = 8#32 := by decide
    rw [e2, BitVec.sshiftRight_eq', BitVec.toNat_sshiftRight_of_msb_false (by rw [BitVec.msb_eq_false_iff_two_mul_lt]; omega)]
    show c.toBitVec.toNat >>> 8 % 256 = _
    rw [Nat.shiftRight_eq_div_pow]
    omega
  unfold pairCh
  apply Int32.toBitVec_inj.mp
  apply BitVec.eq_of_toNat_eq
  have f0 : ((0 : Int32) &&& 31) = 0 := by decide
  have f8 : ((8 : Int32) &&& 31) = 8 := by decide
  rw [f0, f8]
  have g : (((lo8 c &&& 255) <<< (0 : Int32)) ||| ((hi8 c &&& 255) <<< (8 : Int32))).toBitVec.toNat = c.toBitVec.toNat := by
    rw [Int32.toBitVec_or, Int32.toBitVec_shiftLeft, Int32.toBitVec_shiftLeft]
    have s0 : ((0 : Int32).toBitVec.smod 32) = 0#32 := by decide
    have s8 : ((8 : Int32).toBitVec.smod 32) = 8#32 := by decide
    rw [s0, s8, BitVec.toNat_or]
    simp only [BitVec.shiftLeft_eq', BitVec.toNat_shiftLeft, a1, a2]
    show (c.toBitVec.toNat % 256) <<< 0 % 2 ^ 32 ||| (c.toBitVec.toNat / 256) <<< 8 % 2 ^ 32 = _
    rw [Nat.shiftLeft_zero, Nat.mod_eq_of_lt (show c.toBitVec.toNat % 256 < 2 ^ 32 by omega), Nat.mod_eq_of_lt (show (c.toBitVec.toNat / 256) <<< 8 < 2 ^ 32 by rw [Nat.shiftLeft_eq]; omega), Nat.or_comm, ← Nat.shiftLeft_add_eq_or_of_lt (by omega), Nat.shiftLeft_eq]
    omega
  show BitVec.toNat (((((lo8 c &&& 255) <<< (0 : Int32)) ||| ((hi8 c &&& 255) <<< (8 : Int32))).toBitVec.setWidth 16).setWidth 32) = _
  rw [BitVec.toNat_setWidth, BitVec.toNat_setWidth, g]
  omega
end StrChars
namespace StrChars
open Jvm Sem ClassFile Op Lib Jvm.Stand Jvm.Free.XT Jvm.Free.ALB Jvm.Free.JM Jvm.Free
open Jvm.Lib.Cold (StaticIs)
theorem shr1 {n : Nat} (h : 2 * n < 2 ^ 31) : Int32.ofNat (2 * n) >>> ((1 : Int32) &&& 31) = Int32.ofNat n := by
  have e : ((1 : Int32) &&& 31) = 1 := by decide
  rw [e]
  apply Int32.toBitVec_inj.mp
  rw [Int32.toBitVec_shiftRight]
  have e1 : ((1 : Int32).toBitVec.smod 32) = 1#32 := by decide
  have hm : (BitVec.ofNat 32 (2 * n)).toNat = 2 * n := by rw [BitVec.toNat_ofNat, Nat.mod_eq_of_lt (by omega)]
  rw [e1, BitVec.sshiftRight_eq']
  apply BitVec.eq_of_toNat_eq
  show ((BitVec.ofNat 32 (2 * n)).sshiftRight 1).toNat = (BitVec.ofNat 32 n).toNat
  rw [BitVec.toNat_sshiftRight_of_msb_false (by rw [BitVec.msb_eq_false_iff_two_mul_lt, hm]; omega), hm, BitVec.toNat_ofNat, Nat.shiftRight_eq_div_pow]
  omega
/-- the array's cell V codes the n chars f 0 .. f (n - 1) by the coder cd, as the JDK does: coder 1 just where some char is above 255 -/
def Cod (cd : Int32) (n : Nat) (f : Nat → Int32) (V : Cell) : Prop := (cd = 0 ∧ V.slots.size = n ∧ ∀ j, j < n → V.slots[j]? = some (.int (lo8 (f j))) ∧ ¬ 255 < f j) ∨ (cd = 1 ∧ V.slots.size = 2 * n ∧ (∀ j, j < n → V.slots[2 * j]? = some (.int (lo8 (f j))) ∧ V.slots[2 * j + 1]? = some (.int (hi8 (f j)))) ∧ ∃ j, j < n ∧ 255 < f j)
theorem Cod.cd {cd : Int32} {n : Nat} {f : Nat → Int32} {V : Cell} (h : Cod cd n f V) : cd = 0 ∨ cd = 1 := h.imp (fun q => q.1) fun q => q.1
theorem Cod.len {cd : Int32} {n : Nat} {f : Nat → Int32} {V : Cell} (h : Cod cd n f V) (hs : V.slots.size < 2 ^ 31) : Int32.ofNat V.slots.size >>> (cd &&& 31) = Int32.ofNat n := by
  rcases h with ⟨rfl, h, -⟩ | ⟨rfl, h, -⟩
  · rw [shr0, h]
  · rw [h, shr1 (by omega)]
/-- **x is a String of the n chars f 0 .. f (n - 1)**, Latin-1 or UTF-16; its array at t has the cell V -/
def Txt (x t : Addr) (V : Cell) (cd : Int32) (n : Nat) (f : Nat → Int32) (U : State) : Prop := Exact "java/lang/String" x U ∧ Has x "java/lang/String" "value" "[B" (.ref t) U ∧ Has x "java/lang/String" "coder" "B" (.int cd) U ∧ XT.Arr .byte t V U ∧ Cod cd n f V ∧ ∀ j, j < n → ¬ f j < 0 ∧ ¬ 65535 < f j
theorem Txt.mv {x t : Addr} {V : Cell} {cd : Int32} {n : Nat} {f : Nat → Int32} {U U' : State} (h : Txt x t V cd n f U) (hal : U.vm.Alike U'.vm) (hh : U'.heap = U.heap) : Txt x t V cd n f U' := ⟨h.1.mv hal hh, h.2.1.mv hal hh, h.2.2.1.mv hal hh, h.2.2.2.1.mv hal hh, h.2.2.2.2⟩
namespace Cdr
def yN : MethodName := ⟨"java/lang/String", "coder", "()B"⟩
abbrev yB : ByteArray := jdk_42_method_152_code
theorem d0 : decode yB 0 = .ok (.getstatic 38, 3) := by decide +kernel
theorem d3 : decode yB 3 = .ok (.ifCond (.eq) 10, 3) := by decide +kernel
theorem d6 : decode yB 6 = .ok (.aload_n 0, 1) := by decide +kernel
theorem d7 : decode yB 7 = .ok (.getfield 15, 3) := by decide +kernel
theorem d10 : decode yB 10 = .ok (.goto 4, 3) := by decide +kernel
theorem d14 : decode yB 14 = .ok (.ireturn, 1) := by decide +kernel
def site : List Cond := [.fieldLink "java/lang/String" 38 "java/lang/String" "COMPACT_STRINGS" "Z", .fieldLink "java/lang/String" 15 "java/lang/String" "coder" "B"]
def tab : Cond := tabOf yN yB 1 (some .byte) site
def P (x : Addr) (cd z : Int32) (args : Array Value) (s : State) : Prop := args = #[.ref x] ∧ Has x "java/lang/String" "coder" "B" (.int cd) s ∧ (cd = 0 ∨ cd = 1) ∧ StaticIs s "java/lang/String" "COMPACT_STRINGS" "Z" (.int z) ∧ ¬ z = 0
def E (cd : Int32) (r : Option Value) (s u : State) : Prop := XT.PureE (some (.int cd)) r s u
theorem law (l : Launch) (x : Addr) (cd z : Int32) : Law l yN 1 0 0 0 yB 1 (some .byte) site (P x cd z) (E cd) [] 0 0 := by
  refine Law.of_walk (plainFor_of_name (by decide +kernel)) (by decide +kernel) (by decide +kernel) (by decide) (fun _ _ h => by rw [h.1]; rfl) (fun _ U U' hal hh h => ⟨h.1, h.2.1.mv hal hh, h.2.2.1, h.2.2.2.1.there hal hh, h.2.2.2.2⟩) (fun r U U' V V' h1 hal h2 h => XT.PureE.mv r U U' V V' h1 hal h2 h) ?_
  intro p e s m args below meth c s₁ X0 hexec hbytes hml hret hlk hnm hown hh0 W hP
  obtain ⟨rfl, hx, hc, s1, hz⟩ := hP
  have c1 : Steps p.tables e below (s₁.setTop (entryFrame m #[.ref x] 1)) (s₁.setTop (mkF m 0 #[.val (.ref x)] [])) := entry rfl
  obtain ⟨T2, X2, q2, st2⟩ := X0.sget hexec hown (wk W (.fieldLink "java/lang/String" 38 "java/lang/String" "COMPACT_STRINGS" "Z")) s1 (fun _ _ h => by rw [hh0]; exact h) (g := (mkF m 0 #[.val (.ref x)] [])) rfl (hb hbytes d0)
  have hh2 := q2.trans hh0
  have c3 : Steps p.tables e below (s₁.setTop (entryFrame m #[.ref x] 1)) (T2.setTop (mkF m 7 #[.val (.ref x)] [.ref x])) := (c1.trans (st2 _ (Steps.refl _))).trans (by
    refine XS.ifNo X2.here hexec rfl (hb hbytes d3) rfl (i0_eq_f hz) ?_
    refine XS.aloadN X2.here hexec rfl (hb hbytes d6) rfl rfl ?_
    exact Steps.refl _)
  obtain ⟨T4, X4, q4, st4⟩ := X2.hget hexec hown (wk W (.fieldLink "java/lang/String" 15 "java/lang/String" "coder" "B")) (hx.mv X2.warmed.alike hh2) (g := (mkF m 7 #[.val (.ref x)] [.ref x])) rfl (rest := []) rfl (hb hbytes d7)
  have c5 : Steps p.tables e below (s₁.setTop (entryFrame m #[.ref x] 1)) (T4.setTop (mkF m 14 #[.val (.ref x)] [.int cd])) := (c3.trans (st4 _ (Steps.refl _))).trans (by
    refine XS.goto X4.here hexec rfl (pc0 := 10) rfl (hb hbytes d10) (by decide) rfl ?_
    exact Steps.refl _)
  exact ⟨T4, some (.int cd), _, _, _, X4, rfl, rfl, rfl, (fun h => by cases h), ⟨rfl, q4.trans hh2⟩, fun fs hl => c5.trans (X4.ireturnOut hexec hret (by rcases hc with rfl | rfl <;> rfl) (Or.inr (Or.inr (Or.inl rfl))) (hb hbytes d14) hl)⟩
end Cdr
namespace Len
def yN : MethodName := ⟨"java/lang/String", "length", "()I"⟩
abbrev yB : ByteArray := jdk_42_method_54_code
theorem d0 : decode yB 0 = .ok (.aload_n 0, 1) := by decide +kernel
theorem d1 : decode yB 1 = .ok (.getfield 9, 3) := by decide +kernel
theorem d4 : decode yB 4 = .ok (.arraylength, 1) := by decide +kernel
theorem d5 : decode yB 5 = .ok (.aload_n 0, 1) := by decide +kernel
theorem d6 : decode yB 6 = .ok (.invokevirtual 335, 3) := by decide +kernel
theorem d9 : decode yB 9 = .ok (.ishr, 1) := by decide +kernel
theorem d10 : decode yB 10 = .ok (.ireturn, 1) := by decide +kernel
def site : List Cond := [.fieldLink "java/lang/String" 9 "java/lang/String" "value" "[B", Cdr.tab] ++ virtW "java/lang/String" 335 "java/lang/String" Cdr.yN Cdr.yN
def tab : Cond := tabOf yN yB 1 (some .int) site
def P (x t : Addr) (V : Cell) (cd : Int32) (n : Nat) (f : Nat → Int32) (z : Int32) (args : Array Value) (s : State) : Prop := args = #[.ref x] ∧ Txt x t V cd n f s ∧ StaticIs s "java/lang/String" "COMPACT_STRINGS" "Z" (.int z) ∧ ¬ z = 0
def E (n : Nat) (r : Option Value) (s u : State) : Prop := XT.PureE (some (.int (Int32.ofNat n))) r s u
/-- length() of a String of n chars, in either coding -/
theorem law (l : Launch) (x t : Addr) (V : Cell) (cd : Int32) (n : Nat) (f : Nat → Int32) (z : Int32) : Law l yN 1 0 1 13 yB 1 (some .int) site (P x t V cd n f z) (E n) [] 0 0 := by
  refine Law.of_walk (plainFor_of_name (by decide +kernel)) (by decide +kernel) (by decide +kernel) (by decide) (fun _ _ h => by rw [h.1]; rfl) (fun _ U U' hal hh h => ⟨h.1, h.2.1.mv hal hh, h.2.2.1.there hal hh, h.2.2.2⟩) (fun r U U' V V' h1 hal h2 h => XT.PureE.mv r U U' V V' h1 hal h2 h) ?_
  intro p e s m args below meth c s₁ X0 hexec hbytes hml hret hlk hnm hown hh0 W hP
  obtain ⟨rfl, hx, s1, hz⟩ := hP
  have v31 := hx.2.2.2.1.2.2.2
  have c1 : Steps p.tables e below (s₁.setTop (entryFrame m #[.ref x] 1)) (s₁.setTop (mkF m 1 #[.val (.ref x)] [.ref x])) := Steps.trans (entry rfl) (by
    show Steps p.tables e below (s₁.setTop (mkF m 0 #[.val (.ref x)] [])) _
    refine XS.aloadN X0.here hexec rfl (hb hbytes d0) rfl rfl ?_
    exact Steps.refl _)
  obtain ⟨T2, X2, q2, st2⟩ := X0.hget hexec hown (wk W (.fieldLink "java/lang/String" 9 "java/lang/String" "value" "[B")) (hx.mv X0.warmed.alike hh0).2.1 (g := (mkF m 1 #[.val (.ref x)] [.ref x])) rfl (rest := []) rfl (hb hbytes d1)
  have hh2 := q2.trans hh0
  have hx2 := hx.mv X2.warmed.alike hh2
  have c3 : Steps p.tables e below (s₁.setTop (entryFrame m #[.ref x] 1)) (T2.setTop (mkF m 6 #[.val (.ref x)] [.ref x, .int (Int32.ofNat V.slots.size)])) := (c1.trans (st2 _ (Steps.refl _))).trans (by
    refine X2.alen hexec hx2.2.2.2.1 rfl rfl (hb hbytes d4) ?_
    refine XS.aloadN X2.here hexec rfl (hb hbytes d5) rfl rfl ?_
    exact Steps.refl _)
  obtain ⟨v4, T4, X4, E4, g4⟩ := X2.callV hexec (Cdr.law l x cd z) hown (wks W (virtW "java/lang/String" 335 "java/lang/String" Cdr.yN Cdr.yN)) rfl (by decide) (wk W Cdr.tab) (W := 1) (Nat.le_of_ble_eq_true rfl) (Nat.le_of_ble_eq_true rfl) (Nat.le_refl _) (Nat.le_refl _) (hx2.1.fc X2.warmed.alike) hx2.1.is (g := (mkF m 6 #[.val (.ref x)] [.ref x, .int (Int32.ofNat V.slots.size)])) rfl (by rw [hml]; rfl) c3 (argsL := []) (rest := [.int (Int32.ofNat V.slots.size)]) rfl rfl (by show 2 * 0 + (1 + 0) ≤ _; decide) (hb hbytes d6) (⟨rfl, hx2.2.2.1, hx.2.2.2.2.1.cd, s1.there X2.warmed.alike hh2, hz⟩)
  obtain ⟨rfl, q4⟩ := E4
  have c5 : Steps p.tables e below (s₁.setTop (entryFrame m #[.ref x] 1)) (T4.setTop (mkF m 10 #[.val (.ref x)] [.int (Int32.ofNat V.slots.size >>> (cd &&& 31))])) := Steps.trans g4 (by
    refine ishr X4.here hexec rfl (hb hbytes d9) rfl ?_
    exact Steps.refl _)
  rw [hx.2.2.2.2.1.len v31] at c5
  exact ⟨T4, some (.int (Int32.ofNat n)), _, _, _, X4, rfl, rfl, rfl, (fun h => by cases h), ⟨rfl, q4.trans hh2⟩, fun fs hl => c5.trans (X4.ireturnOut hexec hret rfl (Or.inl rfl) (hb hbytes d10) hl)⟩
theorem pays {l : Launch} {R : Room} {p : Program} {e : Env} {below : List Frame} {s : State} {sargs : Array Value} {len W : Nat} (x t : Addr) (V : Cell) (cd : Int32) (n : Nat) (f : Nat → Int32) (z : Int32) (htab : tab.before sargs s = true) (hfr : 2 ≤ R.frames) (hlo : W + 25 ≤ R.locals) :
    Back l R p e below s sargs yN len W (fun A₁ a₁ => A₁.cells + 0 ≤ R.cells ∧ A₁.slots + 0 ≤ R.slots ∧ P x t V cd n f z a₁ A₁.U) (fun A₁ _ v₁ B₁ => E n v₁ A₁.U B₁.U ∧ B₁.locs = A₁.locs ++ [] ∧ B₁.cells = A₁.cells + 0 ∧ B₁.slots = A₁.slots + 0) :=
  (law l x t V cd n f z).pays htab hfr (by omega)
end Len
end StrChars
namespace StrChars.Road
open Jvm Sem ClassFile Op Lib Jvm.Stand Jvm.Free Jvm.Free.XT
open Jvm.Lib.Cold (StaticIs)
theorem consq {a : Array Value} {s : State} {c : Jvm.Cond} {L : List Jvm.Cond} (h0 : c.before a s = true) (h : ∀ w ∈ L, w.before a s = true) : ∀ w ∈ c :: L, w.before a s = true := fun w hw => (List.mem_cons.mp hw).elim (fun e => e ▸ h0) (h w)
/-- the words of String.length(), either coding -/
abbrev wordsLen : List Jvm.Cond := [.code Len.yN Len.yB 1 (some .int), .initialized ST, .fieldLink ST 9 ST "value" "[B", .fieldLink ST 38 ST "COMPACT_STRINGS" "Z", .fieldLink ST 15 ST "coder" "B", .code Cdr.yN Cdr.yB 1 (some .byte), .methodLink ST 335 Cdr.yN, .declares Cdr.yN, .selects ST Cdr.yN Cdr.yN, .instanceMethod Cdr.yN]
theorem tabLen_of {a : Array Value} {s : State} (h : ∀ w ∈ wordsLen, w.before a s = true) : Len.tab.before a s = true := by
  have hc : Cdr.tab.before a s = true := unparts (wk h (.code Cdr.yN Cdr.yB 1 (some .byte))) (wks h (.initialized Cdr.yN.cls :: Cdr.site))
  have q := consq hc h
  exact unparts (wk q (.code Len.yN Len.yB 1 (some .int))) (wks q (.initialized Len.yN.cls :: Len.site))
theorem movedLen {Z s : State} {a0 args : Array Value} (hZ : Z.Warmed39 s.vm) (hw : ∀ d ∈ wordsLen, d.before a0 Z = true) : ∀ d ∈ wordsLen, d.before args s = true := fun d hd => by
  have q := hw d hd
  have t : ∀ d ∈ wordsLen, d = .arrayClass .byte ∨ (d.onTables && d.keepsFace) = true := by decide +kernel
  rcases t d hd with rfl | t
  · exact RoadKit.mvA hZ q
  · exact RoadKit.mv hZ q t
/-- the bytes of the chars cs, low before high -/
def wideBytes : List Int32 → List Value
  | [] => []
  | c :: cs => .int (lo8 c) :: .int (hi8 c) :: wideBytes cs
theorem wide_lo (d : Value) : ∀ (cs : List Int32) (j : Nat), j < cs.length → (wideBytes cs).getD (2 * j) d = .int (lo8 (cs.getD j 0))
  | [], j, h => absurd h (Nat.not_lt_zero j)
  | c :: cs, 0, _ => rfl
  | c :: cs, j + 1, h => by
    have q := wide_lo d cs j (by simpa using h)
    rw [show 2 * (j + 1) = 2 * j + 1 + 1 from by omega]
    simpa [wideBytes] using q
theorem wide_hi (d : Value) : ∀ (cs : List Int32) (j : Nat), j < cs.length → (wideBytes cs).getD (2 * j + 1) d = .int (hi8 (cs.getD j 0))
  | [], j, h => absurd h (Nat.not_lt_zero j)
  | c :: cs, 0, _ => rfl
  | c :: cs, j + 1, h => by
    have q := wide_hi d cs j (by simpa using h)
    rw [show 2 * (j + 1) + 1 = 2 * j + 1 + 1 + 1 from by omega]
    simpa [wideBytes] using q
theorem low_at (d : Value) (cs : List Int32) (j : Nat) (h : j < cs.length) : (cs.map fun c => Value.int (lo8 c)).getD j d = .int (lo8 (cs.getD j 0)) := by
  simp [List.getD_eq_getElem?_getD, h]
/-- an array of N2 bytes vs codes the chars cs by the coder cd -/
def CodA (cs : List Int32) (cd N2 : Int32) (vs : List Value) : Prop := (cd = 0 ∧ N2 = Int32.ofNat cs.length ∧ vs = (cs.map fun c => Value.int (lo8 c)) ∧ ∀ c ∈ cs, ¬ 255 < c) ∨ (cd = 1 ∧ N2 = Int32.ofNat (2 * cs.length) ∧ vs = wideBytes cs ∧ ∃ c ∈ cs, 255 < c)
theorem CodA.cod {cs : List Int32} {cd N2 : Int32} {vs : List Value} {V : Cell} (h : CodA cs cd N2 vs) (hn : 2 * cs.length < 2 ^ 31) (hs : V.slots.size = N2.toNatClampNeg) (hv : RoadKit.Has V vs (.int 0)) : Cod cd cs.length (fun j => cs.getD j 0) V := by
  rcases h with ⟨rfl, rfl, rfl, h⟩ | ⟨rfl, rfl, rfl, c, hc, hw⟩
  · rw [n32 (by omega)] at hs
    exact Or.inl ⟨rfl, hs, fun j hj => ⟨by rw [hv j (by omega), low_at _ _ _ hj], by
      have e : cs.getD j 0 = cs[j] := by simp [List.getD_eq_getElem?_getD, hj]
      show ¬ 255 < cs.getD j 0
      rw [e]; exact h _ (List.getElem_mem _)⟩⟩
  · rw [n32 (by omega)] at hs
    obtain ⟨j, hj, rfl⟩ := List.getElem_of_mem hc
    exact Or.inr ⟨rfl, hs, fun j hj => ⟨by rw [hv _ (by omega), wide_lo _ _ _ hj], by rw [hv _ (by omega), wide_hi _ _ _ hj]⟩, j, hj, by
      have e : cs.getD j 0 = cs[j] := by simp [List.getD_eq_getElem?_getD, hj]
      show 255 < cs.getD j 0
      rw [e]; exact hw⟩
/-- an object of exactly java/lang/String, its two fields found: as the laws ask it -/
theorem strObj {Z U : State} {a0 : Array Value} {kI : Nat} (wi : (Jvm.Cond.instantiable ST kI).before a0 Z = true) (al : Z.vm.Alike U.vm) {x : Addr} {v0 c0 : Value} (E : RoadKit.Exa Z U.heap x ST) (V : RoadKit.Fld Z U.heap x ST "value" "[B" v0) (C : RoadKit.Fld Z U.heap x ST "coder" "B" c0) :
    ∃ (D : Cell) (fV fC : Field), Blank ST x D U ∧ Found ST "value" "[B" fV U ∧ Found ST "coder" "B" fC U ∧ D.slots[fV.slot]? = some v0 ∧ D.slots[fC.slot]? = some c0 ∧ RoadKit.slotOf Z ST "value" "[B" = fV.slot ∧ RoadKit.slotOf Z ST "coder" "B" = fC.slot := by
  obtain ⟨D, cfV, kV, iV, fV, hD, gV, stV, knV, obV, asV, slV⟩ := V
  obtain ⟨D', cfC, kC, iC, fC, hD', gC, stC, -, -, asC, slC⟩ := C
  cases hD.symm.trans hD'
  obtain ⟨D2, kD, e1, e2, e3, e4, e5⟩ := E
  cases hD.symm.trans e1
  obtain ⟨c2, k2, i1, i2, i3, -⟩ := Cond.instantiable_spec wi
  cases e2.symm.trans i1
  cases e3.symm.trans i2
  obtain ⟨kU, u1, u2⟩ := al.2.2 _ _ e3
  exact ⟨D, fV, fC, ⟨hD, ⟨knV, fun q hq => by rw [hq] at obV; cases obV⟩, by rw [al.findClass]; exact e2, kU, u1, by rw [u2]; exact i3, by rw [u2]; exact e5 i3⟩, ⟨SBG.found_only al ⟨cfV, kV, iV, gV⟩, stV⟩, ⟨SBG.found_only al ⟨cfC, kC, iC, gC⟩, stC⟩, slV, slC, by simp [RoadKit.slotOf, gV], by simp [RoadKit.slotOf, gC]⟩
theorem sta_is {Z U : State} (al : Z.vm.Alike U.vm) {C n d : String} {v : Value} (S : RoadKit.Sta Z U.heap C n d v) : StaticIs U C n d v := by
  obtain ⟨cfS, iS, kS, fS, st, cS, t1, t2, t3, t4, t5, t6, t7⟩ := S
  exact StaticIs.there (s := { Z with heap := U.heap }) ⟨cfS, iS, kS, fS, st, cS, t1, t2, t3, t4, t5, (fun q => by rw [q] at t6; cases t6), t7⟩ al rfl
/-- **length() OF SUCH A STRING** -/
theorem lenW {p : Program} {l : Launch} {e : Env} {R : Room} {s : State} {args : Array Value} {below : List Frame} {len W : Nat} {Z : State} {a0 : Array Value} {h : Heap} (hZ : Z.Warmed39 s.vm) (hw : ∀ d ∈ wordsLen, d.before a0 Z = true) {kI : Nat} (wi : (Jvm.Cond.instantiable ST kI).before a0 Z = true)
    {x t : Addr} {kb : ClassId} {cs : List Int32} {cd N2 z : Int32} {vs : List Value} (E : RoadKit.Exa Z h x ST) (V : RoadKit.Fld Z h x ST "value" "[B" (.ref t)) (C : RoadKit.Fld Z h x ST "coder" "B" (.int cd)) (K : RoadKit.Arv Z h t kb .byte N2 vs (.int 0)) (hc : CodA cs cd N2 vs) (hb : ∀ c ∈ cs, ¬ c < 0 ∧ ¬ (65535 : Int32) < c)
    (S : RoadKit.Sta Z h ST "COMPACT_STRINGS" "Z" (.int z)) (hz : ¬ z = 0) (l2 : cs.length ≤ 4000) (hfr : 2 ≤ R.frames) (hlo : W + 25 ≤ R.locals) :
    Back l R p e below s args (⟨"java/lang/String", "length", "()I"⟩ : MethodName) len W (fun P a => a = #[.ref x] ∧ P.U.heap = h ∧ P.cells + 0 ≤ R.cells ∧ P.slots + 0 ≤ R.slots)
      (fun P _ v B => ∃ L, (v = some (.int (Int32.ofNat cs.length)) ∧ L = [] ∧ B.U.heap = h) ∧ B.locs = P.locs ++ L ∧ B.cells = P.cells + 0 ∧ B.slots = P.slots + 0) := by
  obtain ⟨A, K1, K2, K3, K4, K5, K6⟩ := K
  have hcod := hc.cod (by omega) K3 K5
  intro m meth c P g ig mk a X hg hsize hdg hW hn hp'
  obtain ⟨rfl, rfl, r1, r2⟩ := hp'
  have al : Z.vm.Alike P.U.vm := hZ.alike.trans X.warmed.alike
  obtain ⟨D, fV, fC, hB, F1, F2, g1, g2, -, -⟩ := strObj wi al E V C
  have hx : Txt x t A cd cs.length (fun j => cs.getD j 0) P.U := ⟨⟨_, hB.2.2.1, D, hB.1, rfl, by cases q : D.vm <;> first | rfl | exact absurd q (hB.2.1.2 _)⟩, Has.of hB F1 g1, Has.of hB F2 g2, ⟨K1.1, State.isArrayOf_alike al K1.2.1, K1.2.2, by rcases hcod with ⟨-, q, -⟩ | ⟨-, q, -⟩ <;> omega⟩, hcod, fun j hj => by
    have e : cs.getD j 0 = cs[j] := by simp [List.getD_eq_getElem?_getD, hj]
    show ¬ cs.getD j 0 < 0 ∧ ¬ 65535 < cs.getD j 0
    rw [e]; exact hb _ (List.getElem_mem _)⟩
  obtain ⟨v, B, X', ⟨⟨hv, hh⟩, hl, hk, hs⟩, st⟩ := Len.pays x t A cd cs.length (fun j => cs.getD j 0) z (tabLen_of (movedLen hZ hw)) hfr hlo m meth c P g ig mk _ X hg hsize hdg hW hn ⟨r1, r2, rfl, hx, sta_is al S, hz⟩
  exact ⟨v, B, X', ⟨[], ⟨hv, rfl, hh⟩, hl, hk, hs⟩, st⟩
end StrChars.Road
namespace StrChars
open Jvm Sem ClassFile Op Lib Jvm.Stand Jvm.Free.XT Jvm.Free.ALB Jvm.Free.JM Jvm.Free
open Jvm.Lib.Cold (StaticIs)
/-- what place i of a byte[]'s cell holds -/
def yv (A : Cell) (i : Nat) : Int32 := match A.slots[i]? with | some (.int x) => x | _ => 0
theorem yv_get {a : Addr} {A : Cell} {U : State} (h : XT.Arr .byte a A U) (ht : Typed .byte A) {i : Nat} (hi : i < A.slots.size) : A.slots[i]? = some (.int (yv A i)) := by
  have e := Array.getElem?_eq_getElem hi
  have f := ht i _ e
  unfold yv; rw [e]
  generalize A.slots[i] = v at f
  cases v <;> simp [fits] at f ⊢
/-- the two arrays are equal, place for place -/
def EqC (A B : Cell) : Prop := A.slots.size = B.slots.size ∧ ∀ i, i < A.slots.size → yv A i = yv B i
/-- a boolean that says whether p -/
def Says01 (q : Prop) (r : Option Value) (s u : State) : Prop := ∃ v : Int32, r = some (.int v) ∧ u.heap = s.heap ∧ ((v = 1 ∧ q) ∨ (v = 0 ∧ ¬ q))
theorem Says01.mv {q : Prop} : ∀ r (U U' V V' : State), U'.heap = U.heap → V.vm.Alike V'.vm → V'.heap = V.heap → Says01 q r U V → Says01 q r U' V' :=
  fun r U U' V V' h1 _ h2 ⟨v, a, b, c⟩ => ⟨v, a, by rw [h1, h2]; exact b, c⟩
namespace LEq
def yN : MethodName := ⟨"java/lang/StringLatin1", "equals", "([B[B)Z"⟩
abbrev yB : ByteArray := jdk_43_method_13_code
theorem d0 : decode yB 0 = .ok (.aload_n 0, 1) := by decide +kernel
theorem d1 : decode yB 1 = .ok (.arraylength, 1) := by decide +kernel
theorem d2 : decode yB 2 = .ok (.aload_n 1, 1) := by decide +kernel
theorem d3 : decode yB 3 = .ok (.arraylength, 1) := by decide +kernel
theorem d4 : decode yB 4 = .ok (.if_icmp (.ne) 30, 3) := by decide +kernel
theorem d7 : decode yB 7 = .ok (.iconst 0, 1) := by decide +kernel
theorem d8 : decode yB 8 = .ok (.istore_n 2, 1) := by decide +kernel
theorem d9 : decode yB 9 = .ok (.iload_n 2, 1) := by decide +kernel
theorem d10 : decode yB 10 = .ok (.aload_n 0, 1) := by decide +kernel
theorem d11 : decode yB 11 = .ok (.arraylength, 1) := by decide +kernel
theorem d12 : decode yB 12 = .ok (.if_icmp (.ge) 20, 3) := by decide +kernel
theorem d15 : decode yB 15 = .ok (.aload_n 0, 1) := by decide +kernel
theorem d16 : decode yB 16 = .ok (.iload_n 2, 1) := by decide +kernel
theorem d17 : decode yB 17 = .ok (.baload, 1) := by decide +kernel
theorem d18 : decode yB 18 = .ok (.aload_n 1, 1) := by decide +kernel
theorem d19 : decode yB 19 = .ok (.iload_n 2, 1) := by decide +kernel
theorem d20 : decode yB 20 = .ok (.baload, 1) := by decide +kernel
theorem d21 : decode yB 21 = .ok (.if_icmp (.eq) 5, 3) := by decide +kernel
theorem d24 : decode yB 24 = .ok (.iconst 0, 1) := by decide +kernel
theorem d25 : decode yB 25 = .ok (.ireturn, 1) := by decide +kernel
theorem d26 : decode yB 26 = .ok (.iinc 2 1, 3) := by decide +kernel
theorem d29 : decode yB 29 = .ok (.goto (-20), 3) := by decide +kernel
theorem d32 : decode yB 32 = .ok (.iconst 1, 1) := by decide +kernel
theorem d33 : decode yB 33 = .ok (.ireturn, 1) := by decide +kernel
theorem d34 : decode yB 34 = .ok (.iconst 0, 1) := by decide +kernel
theorem d35 : decode yB 35 = .ok (.ireturn, 1) := by decide +kernel
def site : List Cond := []
def tab : Cond := tabOf yN yB 3 (some .boolean) site
def P (a : Addr) (A : Cell) (b : Addr) (B : Cell) (args : Array Value) (s : State) : Prop := args = #[.ref a, .ref b] ∧ XT.Arr .byte a A s ∧ Typed .byte A ∧ XT.Arr .byte b B s ∧ Typed .byte B
/-- whether two byte[] are equal, place for place -/
theorem law (l : Launch) (a : Addr) (A : Cell) (b : Addr) (B : Cell) : Law l yN 2 2 0 0 yB 3 (some .boolean) site (P a A b B) (Says01 (EqC A B)) [] 0 0 := by
  refine Law.of_walk (plainFor_of_name (by decide +kernel)) (by decide +kernel) (by decide +kernel) (by decide) (fun _ _ h => by rw [h.1]; rfl) (fun _ U U' hal hh h => ⟨h.1, h.2.1.mv hal hh, h.2.2.1, h.2.2.2.1.mv hal hh, h.2.2.2.2⟩) (fun r U U' V V' h1 hal h2 h => Says01.mv r U U' V V' h1 hal h2 h) ?_
  intro p e s m args below meth c s₁ X0 hexec hbytes hml hret hlk hnm hown hh0 W hP
  obtain ⟨rfl, hA, tA, hB, tB⟩ := hP
  have a31 := hA.2.2.2
  have b31 := hB.2.2.2
  have hA0 := hA.mv X0.warmed.alike hh0
  have hB0 := hB.mv X0.warmed.alike hh0
  have c1 : Steps p.tables e below (s₁.setTop (entryFrame m #[.ref a, .ref b] 3)) (s₁.setTop (mkF m 0 #[.val (.ref a), .val (.ref b), .unset] [])) := entry rfl
  have c2 : Steps p.tables e below (s₁.setTop (entryFrame m #[.ref a, .ref b] 3)) (s₁.setTop (mkF m 4 #[.val (.ref a), .val (.ref b), .unset] [.int (Int32.ofNat B.slots.size), .int (Int32.ofNat A.slots.size)])) := c1.trans (by
    refine XS.aloadN X0.here hexec rfl (hb hbytes d0) rfl rfl ?_
    refine X0.alen hexec hA0 rfl rfl (hb hbytes d1) ?_
    refine XS.aloadN X0.here hexec rfl (hb hbytes d2) rfl rfl ?_
    refine X0.alen hexec hB0 rfl rfl (hb hbytes d3) ?_
    exact Steps.refl _)
  by_cases hs : A.slots.size = B.slots.size
  · have c3 : Steps p.tables e below (s₁.setTop (entryFrame m #[.ref a, .ref b] 3)) (s₁.setTop (mkF m 9 #[.val (.ref a), .val (.ref b), .val (.int 0)] [])) := c2.trans (by
      refine XS.icmpNo X0.here hexec rfl (hb hbytes d4) rfl (ii_ne_f (by rw [hs])) ?_
      refine iconstV X0.here hexec rfl 0 (hb hbytes d7) (by decide) ?_
      refine XS.istoreN X0.here hexec rfl (hb hbytes d8) rfl rfl ?_
      exact Steps.refl _)
    have loop : ∀ (r i : Nat), i + r = A.slots.size → (∀ j, j < i → yv A j = yv B j) → Steps p.tables e below (s₁.setTop (entryFrame m #[.ref a, .ref b] 3)) (s₁.setTop (mkF m 9 #[.val (.ref a), .val (.ref b), .val (.int (Int32.ofNat i))] [])) → ∃ (pc : Nat) (Ls : Array Slot) (v : Int32), (pc = 25 ∨ pc = 33) ∧ ((v = 1 ∧ EqC A B) ∨ (v = 0 ∧ ¬ EqC A B)) ∧ Steps p.tables e below (s₁.setTop (entryFrame m #[.ref a, .ref b] 3)) (s₁.setTop (mkF m pc Ls [.int v])) := by
      intro r
      induction r with
      | zero =>
        intro i hi he cl
        exact ⟨33, _, 1, Or.inr rfl, Or.inl ⟨rfl, hs, fun j hj => he j (by omega)⟩, cl.trans (by
          refine XS.iloadN X0.here hexec rfl (hb hbytes d9) rfl ?_
          refine XS.aloadN X0.here hexec rfl (hb hbytes d10) rfl rfl ?_
          refine X0.alen hexec hA0 rfl rfl (hb hbytes d11) ?_
          refine XS.icmpYes X0.here hexec rfl (pc0 := 12) rfl (hb hbytes d12) rfl (ii_ge_t (nlt32 (by omega) (by omega))) (by decide) rfl ?_
          refine iconstV X0.here hexec rfl 1 (hb hbytes d32) (by decide) ?_
          exact Steps.refl _)⟩
      | succ r ih =>
        intro i hi he cl
        have c4 : Steps p.tables e below (s₁.setTop (entryFrame m #[.ref a, .ref b] 3)) (s₁.setTop (mkF m 21 #[.val (.ref a), .val (.ref b), .val (.int (Int32.ofNat i))] [.int (yv B i), .int (yv A i)])) := cl.trans (by
          refine XS.iloadN X0.here hexec rfl (hb hbytes d9) rfl ?_
          refine XS.aloadN X0.here hexec rfl (hb hbytes d10) rfl rfl ?_
          refine X0.alen hexec hA0 rfl rfl (hb hbytes d11) ?_
          refine XS.icmpNo X0.here hexec rfl (hb hbytes d12) rfl (ii_ge_f (lt32 (by omega) (by omega))) ?_
          refine XS.aloadN X0.here hexec rfl (hb hbytes d15) rfl rfl ?_
          refine XS.iloadN X0.here hexec rfl (hb hbytes d16) rfl ?_
          refine X0.aget hexec hA0 rfl (yv_get hA tA (i := i) (by omega)) rfl rfl (hb hbytes d17) ?_
          refine XS.aloadN X0.here hexec rfl (hb hbytes d18) rfl rfl ?_
          refine XS.iloadN X0.here hexec rfl (hb hbytes d19) rfl ?_
          refine X0.aget hexec hB0 rfl (yv_get hB tB (i := i) (by omega)) rfl rfl (hb hbytes d20) ?_
          exact Steps.refl _)
        by_cases hv : yv A i = yv B i
        · have c5 : Steps p.tables e below (s₁.setTop (entryFrame m #[.ref a, .ref b] 3)) (s₁.setTop (mkF m 9 #[.val (.ref a), .val (.ref b), .val (.int (Int32.ofNat i + 1))] [])) := c4.trans (by
            refine XS.icmpYes X0.here hexec rfl (pc0 := 21) rfl (hb hbytes d21) rfl (ii_eq_t hv) (by decide) rfl ?_
            refine iincV X0.here hexec rfl 1 (hb hbytes d26) (by decide) rfl rfl ?_
            refine XS.goto X0.here hexec rfl (pc0 := 29) rfl (hb hbytes d29) (by decide) rfl ?_
            exact Steps.refl _)
          rw [succ32] at c5
          exact ih (i + 1) (by omega) (fun j hj => by
            by_cases e : j = i
            · rw [e]; exact hv
            · exact he j (by omega)) c5
        · exact ⟨25, _, 0, Or.inl rfl, Or.inr ⟨rfl, fun q => hv (q.2 i (by omega))⟩, c4.trans (by
            refine XS.icmpNo X0.here hexec rfl (hb hbytes d21) rfl (ii_eq_f hv) ?_
            refine iconstV X0.here hexec rfl 0 (hb hbytes d24) (by decide) ?_
            exact Steps.refl _)⟩
    obtain ⟨pc, Ls, v, hpc, hv, cz⟩ := loop A.slots.size 0 (by omega) (fun j hj => absurd hj (Nat.not_lt_zero j)) c3
    have nv : narrow .boolean (.int v) = .int v := by rcases hv with ⟨rfl, -⟩ | ⟨rfl, -⟩ <;> rfl
    rcases hpc with rfl | rfl
    · exact ⟨s₁, some (.int v), _, _, _, X0, rfl, rfl, rfl, (fun h => by cases h), ⟨v, rfl, hh0, hv⟩, fun fs hl => cz.trans (X0.ireturnOut hexec hret nv (Or.inr (Or.inl rfl)) (hb hbytes d25) hl)⟩
    · exact ⟨s₁, some (.int v), _, _, _, X0, rfl, rfl, rfl, (fun h => by cases h), ⟨v, rfl, hh0, hv⟩, fun fs hl => cz.trans (X0.ireturnOut hexec hret nv (Or.inr (Or.inl rfl)) (hb hbytes d33) hl)⟩
  · have c3 : Steps p.tables e below (s₁.setTop (entryFrame m #[.ref a, .ref b] 3)) (s₁.setTop (mkF m 35 #[.val (.ref a), .val (.ref b), .unset] [.int 0])) := c2.trans (by
      refine XS.icmpYes X0.here hexec rfl (pc0 := 4) rfl (hb hbytes d4) rfl (ii_ne_t (ne32 a31 b31 hs)) (by decide) rfl ?_
      refine iconstV X0.here hexec rfl 0 (hb hbytes d34) (by decide) ?_
      exact Steps.refl _)
    exact ⟨s₁, some (.int 0), _, _, _, X0, rfl, rfl, rfl, (fun h => by cases h), ⟨0, rfl, hh0, Or.inr ⟨rfl, fun q => hs q.1⟩⟩, fun fs hl => c3.trans (X0.ireturnOut hexec hret rfl (Or.inr (Or.inl rfl)) (hb hbytes d35) hl)⟩
end LEq
theorem Cod.ty {cd : Int32} {n : Nat} {f : Nat → Int32} {V : Cell} (h : Cod cd n f V) : Typed .byte V := fun i v hv => by
  have hi : i < V.slots.size := (Array.getElem?_eq_some_iff.mp hv).1
  rcases h with ⟨-, k1, k2⟩ | ⟨-, k1, k2, -⟩
  · rw [(k2 i (by omega)).1] at hv; cases hv; exact fits_lo8 _
  · rcases Nat.mod_two_eq_zero_or_one i with e | e
    · obtain ⟨j, rfl⟩ : ∃ j, i = 2 * j := ⟨i / 2, by omega⟩
      rw [(k2 j (by omega)).1] at hv; cases hv; exact fits_lo8 _
    · obtain ⟨j, rfl⟩ : ∃ j, i = 2 * j + 1 := ⟨i / 2, by omega⟩
      rw [(k2 j (by omega)).2] at hv; cases hv; exact fits_lo8 _
/-- the same text -/
def SameT (n : Nat) (f : Nat → Int32) (k : Nat) (g : Nat → Int32) : Prop := n = k ∧ ∀ j, j < n → f j = g j
theorem lo8_inj {x y : Int32} (h0 : ¬ x < 0) (h1 : ¬ 255 < x) (k0 : ¬ y < 0) (k1 : ¬ 255 < y) (h : lo8 x = lo8 y) : x = y := by
  rw [← lo8_mask h0 h1, ← lo8_mask k0 k1, h]
/-- arrays coded by one coder are equal just where the texts are -/
theorem Cod.eqv {cd : Int32} {n k : Nat} {f g : Nat → Int32} {V V' : Cell} (h : Cod cd n f V) (h' : Cod cd k g V') (hf : ∀ j, j < n → ¬ f j < 0 ∧ ¬ 65535 < f j) (hg : ∀ j, j < k → ¬ g j < 0 ∧ ¬ 65535 < g j) : EqC V V' ↔ SameT n f k g := by
  have yvv : ∀ {W : Cell} {i : Nat} {x : Int32}, W.slots[i]? = some (.int x) → yv W i = x := fun q => by unfold yv; rw [q]
  rcases h with ⟨rfl, k1, k2⟩ | ⟨rfl, k1, k2, -⟩
  · rcases h' with ⟨-, m1, m2⟩ | ⟨e, -⟩
    · constructor
      · rintro ⟨e1, e2⟩
        refine ⟨by omega, fun j hj => ?_⟩
        have q := e2 j (by omega)
        rw [yvv (k2 j hj).1, yvv (m2 j (by omega)).1] at q
        exact lo8_inj (hf j hj).1 (k2 j hj).2 (hg j (by omega)).1 (m2 j (by omega)).2 q
      · rintro ⟨rfl, e2⟩
        refine ⟨by omega, fun j hj => ?_⟩
        rw [yvv (k2 j (by omega)).1, yvv (m2 j (by omega)).1, e2 j (by omega)]
    · exact absurd e (by decide)
  · rcases h' with ⟨e, -⟩ | ⟨-, m1, m2, -⟩
    · exact absurd e (by decide)
    · constructor
      · rintro ⟨e1, e2⟩
        refine ⟨by omega, fun j hj => ?_⟩
        have q1 := e2 (2 * j) (by omega)
        have q2 := e2 (2 * j + 1) (by omega)
        rw [yvv (k2 j hj).1, yvv (m2 j (by omega)).1] at q1
        rw [yvv (k2 j hj).2, yvv (m2 j (by omega)).2] at q2
        rw [← pair_says (hf j hj).1 (hf j hj).2, ← pair_says (hg j (by omega)).1 (hg j (by omega)).2, q1, q2]
      · rintro ⟨rfl, e2⟩
        refine ⟨by omega, fun i hi => ?_⟩
        rcases Nat.mod_two_eq_zero_or_one i with e | e
        · obtain ⟨j, rfl⟩ : ∃ j, i = 2 * j := ⟨i / 2, by omega⟩
          rw [yvv (k2 j (by omega)).1, yvv (m2 j (by omega)).1, e2 j (by omega)]
        · obtain ⟨j, rfl⟩ : ∃ j, i = 2 * j + 1 := ⟨i / 2, by omega⟩
          rw [yvv (k2 j (by omega)).2, yvv (m2 j (by omega)).2, e2 j (by omega)]
/-- two codings differ: so do the texts -/
theorem Cod.dif {cd cd' : Int32} {n k : Nat} {f g : Nat → Int32} {V V' : Cell} (h : Cod cd n f V) (h' : Cod cd' k g V') (hne : ¬ cd = cd') : ¬ SameT n f k g := by
  rintro ⟨rfl, e⟩
  rcases h with ⟨rfl, -, k2⟩ | ⟨rfl, -, -, j, hj, hw⟩
  · rcases h' with ⟨rfl, -⟩ | ⟨-, -, -, j, hj, hw⟩
    · exact hne rfl
    · exact (k2 j hj).2 (by rw [e j hj]; exact hw)
  · rcases h' with ⟨-, -, m2⟩ | ⟨rfl, -⟩
    · exact (m2 j hj).2 (by rw [← e j hj]; exact hw)
    · exact hne rfl
/-- an object of exactly C is an instance of C -/
theorem cinst {p : Program} {l : Launch} {e : Env} {R : Room} {s : State} {m : MethodId} {args : Array Value} {below : List Frame} {meth : Method} {c : Code} {T : State} {locs : List Loc} {cells slots : Nat} (X : Stand p l e R s m args below meth c T locs cells slots) (hexec : p.tables.exec = Jvm.exec) {own C : String} {index : Nat} (hown : s.vm.findClass own = some m.cls) (hlink : (Cond.classLink own index C).before args s = true) {a : Addr} (hE : Exact C a T)
    {g : JFrame} (hg : g.method = m) {rest : List Value} (hstack : g.stack = .ref a :: rest) (hdg : decode c.code g.pc = .ok (.instanceof index, 3)) :
    ∃ T', Stand p l e R s m args below meth c T' locs cells slots ∧ T'.heap = T.heap ∧ ∀ target, Steps p.tables e below (T'.setTop { g with pc := g.pc + 3, stack := .int 1 :: rest }) target → Steps p.tables e below (T.setTop g) target := by
  obtain ⟨cB, h1, D, h2, h3, h4⟩ := hE
  have h1' : s.vm.findClass C = some cB := by rw [← X.warmed.alike.findClass]; exact h1
  obtain ⟨vm', X', st⟩ := X.instanceofYes hexec hown hlink h2 h4 h1' (by rw [h3]; exact Jvm.Free.SB.assignable_self _ _) hg hstack hdg
  exact ⟨_, X', rfl, st⟩
theorem cself {p : Program} {l : Launch} {e : Env} {R : Room} {s : State} {m : MethodId} {args : Array Value} {below : List Frame} {meth : Method} {c : Code} {T : State} {locs : List Loc} {cells slots : Nat} (X : Stand p l e R s m args below meth c T locs cells slots) (hexec : p.tables.exec = Jvm.exec) {own C : String} {index : Nat} (hown : s.vm.findClass own = some m.cls) (hlink : (Cond.classLink own index C).before args s = true) {a : Addr} (hE : Exact C a T)
    {g : JFrame} (hg : g.method = m) {rest : List Value} (hstack : g.stack = .ref a :: rest) (hdg : decode c.code g.pc = .ok (.checkcast index, 3)) :
    ∃ T', Stand p l e R s m args below meth c T' locs cells slots ∧ T'.heap = T.heap ∧ ∀ target, Steps p.tables e below (T'.setTop { g with pc := g.pc + 3, stack := .ref a :: rest }) target → Steps p.tables e below (T.setTop g) target := by
  obtain ⟨cB, h1, D, h2, h3, h4⟩ := hE
  have h1' : s.vm.findClass C = some cB := by rw [← X.warmed.alike.findClass]; exact h1
  obtain ⟨vm', X', st⟩ := X.checkcastYes hexec hown hlink h2 h4 h1' (by rw [h3]; exact Jvm.Free.SB.assignable_self _ _) hg hstack hdg
  exact ⟨_, X', rfl, fun t h => st t (by rw [← hstack] at h; exact h)⟩
namespace SEq
def yN : MethodName := ⟨"java/lang/String", "equals", "(Ljava/lang/Object;)Z"⟩
abbrev yB : ByteArray := jdk_42_method_66_code
theorem d0 : decode yB 0 = .ok (.aload_n 0, 1) := by decide +kernel
theorem d1 : decode yB 1 = .ok (.aload_n 1, 1) := by decide +kernel
theorem d2 : decode yB 2 = .ok (.if_acmp (.ne) 5, 3) := by decide +kernel
theorem d5 : decode yB 5 = .ok (.iconst 1, 1) := by decide +kernel
theorem d6 : decode yB 6 = .ok (.ireturn, 1) := by decide +kernel
theorem d7 : decode yB 7 = .ok (.aload_n 1, 1) := by decide +kernel
theorem d8 : decode yB 8 = .ok (.instanceof 10, 3) := by decide +kernel
theorem d11 : decode yB 11 = .ok (.ifCond (.eq) 43, 3) := by decide +kernel
theorem d14 : decode yB 14 = .ok (.aload_n 1, 1) := by decide +kernel
theorem d15 : decode yB 15 = .ok (.checkcast 10, 3) := by decide +kernel
theorem d18 : decode yB 18 = .ok (.astore_n 2, 1) := by decide +kernel
theorem d19 : decode yB 19 = .ok (.getstatic 38, 3) := by decide +kernel
theorem d22 : decode yB 22 = .ok (.ifCond (.eq) 14, 3) := by decide +kernel
theorem d25 : decode yB 25 = .ok (.aload_n 0, 1) := by decide +kernel
theorem d26 : decode yB 26 = .ok (.getfield 15, 3) := by decide +kernel
theorem d29 : decode yB 29 = .ok (.aload_n 2, 1) := by decide +kernel
theorem d30 : decode yB 30 = .ok (.getfield 15, 3) := by decide +kernel
theorem d33 : decode yB 33 = .ok (.if_icmp (.ne) 21, 3) := by decide +kernel
theorem d36 : decode yB 36 = .ok (.aload_n 0, 1) := by decide +kernel
theorem d37 : decode yB 37 = .ok (.getfield 9, 3) := by decide +kernel
theorem d40 : decode yB 40 = .ok (.aload_n 2, 1) := by decide +kernel
theorem d41 : decode yB 41 = .ok (.getfield 9, 3) := by decide +kernel
theorem d44 : decode yB 44 = .ok (.invokestatic 541, 3) := by decide +kernel
theorem d47 : decode yB 47 = .ok (.ifCond (.eq) 7, 3) := by decide +kernel
theorem d50 : decode yB 50 = .ok (.iconst 1, 1) := by decide +kernel
theorem d51 : decode yB 51 = .ok (.goto 4, 3) := by decide +kernel
theorem d54 : decode yB 54 = .ok (.iconst 0, 1) := by decide +kernel
theorem d55 : decode yB 55 = .ok (.ireturn, 1) := by decide +kernel
def site : List Cond := [.classLink "java/lang/String" 10 "java/lang/String", .fieldLink "java/lang/String" 38 "java/lang/String" "COMPACT_STRINGS" "Z", .fieldLink "java/lang/String" 15 "java/lang/String" "coder" "B", .fieldLink "java/lang/String" 9 "java/lang/String" "value" "[B", LEq.tab] ++ staticW "java/lang/String" 541 LEq.yN
def tab : Cond := tabOf yN yB 3 (some .boolean) site
def P (x t : Addr) (V : Cell) (cd : Int32) (n : Nat) (f : Nat → Int32) (y t' : Addr) (V' : Cell) (cd' : Int32) (k : Nat) (g : Nat → Int32) (z : Int32) (args : Array Value) (s : State) : Prop := args = #[.ref x, .ref y] ∧ Txt x t V cd n f s ∧ Txt y t' V' cd' k g s ∧ StaticIs s "java/lang/String" "COMPACT_STRINGS" "Z" (.int z) ∧ ¬ z = 0
/-- equals(Object) of two Strings: whether the texts are the same -/
theorem law (l : Launch) (x t : Addr) (V : Cell) (cd : Int32) (n : Nat) (f : Nat → Int32) (y t' : Addr) (V' : Cell) (cd' : Int32) (k : Nat) (g : Nat → Int32) (z : Int32) : Law l yN 2 1 1 14 yB 3 (some .boolean) site (P x t V cd n f y t' V' cd' k g z) (Says01 (SameT n f k g)) [] 0 0 := by
  refine Law.of_walk (plainFor_of_name (by decide +kernel)) (by decide +kernel) (by decide +kernel) (by decide) (fun _ _ h => by rw [h.1]; rfl) (fun _ U U' hal hh h => ⟨h.1, h.2.1.mv hal hh, h.2.2.1.mv hal hh, h.2.2.2.1.there hal hh, h.2.2.2.2⟩) (fun r U U' V V' h1 hal h2 h => Says01.mv r U U' V V' h1 hal h2 h) ?_
  intro p e s m args below meth c s₁ X0 hexec hbytes hml hret hlk hnm hown hh0 W hP
  obtain ⟨rfl, hx, hy, s1, hz⟩ := hP
  have c1 : Steps p.tables e below (s₁.setTop (entryFrame m #[.ref x, .ref y] 3)) (s₁.setTop (mkF m 2 #[.val (.ref x), .val (.ref y), .unset] [.ref y, .ref x])) := Steps.trans (entry rfl) (by
    show Steps p.tables e below (s₁.setTop (mkF m 0 #[.val (.ref x), .val (.ref y), .unset] [])) _
    refine XS.aloadN X0.here hexec rfl (hb hbytes d0) rfl rfl ?_
    refine XS.aloadN X0.here hexec rfl (hb hbytes d1) rfl rfl ?_
    exact Steps.refl _)
  by_cases hxy : x = y
  · have c2 : Steps p.tables e below (s₁.setTop (entryFrame m #[.ref x, .ref y] 3)) (s₁.setTop (mkF m 6 #[.val (.ref x), .val (.ref y), .unset] [.int 1])) := c1.trans (by
      refine acmpNo X0.here hexec rfl (hb hbytes d2) rfl rfl rfl (by simp [acmp, hxy]) ?_
      refine iconstV X0.here hexec rfl 1 (hb hbytes d5) (by decide) ?_
      exact Steps.refl _)
    subst hxy
    have ec : cd = cd' := by
      obtain ⟨D, fd, a1, a2, a3⟩ := hx.2.2.1
      obtain ⟨D', fd', b1, b2, b3⟩ := hy.2.2.1
      cases a1.symm.trans b1
      obtain ⟨q1, q2, q3, q4⟩ := a2.1
      obtain ⟨r1, r2, r3, r4⟩ := b2.1
      cases q4.symm.trans r4
      cases a3.symm.trans b3; rfl
    have et : t = t' := by
      obtain ⟨D, fd, a1, a2, a3⟩ := hx.2.1
      obtain ⟨D', fd', b1, b2, b3⟩ := hy.2.1
      cases a1.symm.trans b1
      obtain ⟨q1, q2, q3, q4⟩ := a2.1
      obtain ⟨r1, r2, r3, r4⟩ := b2.1
      cases q4.symm.trans r4
      cases a3.symm.trans b3; rfl
    subst ec et
    have ev : V = V' := by cases hx.2.2.2.1.1.symm.trans hy.2.2.2.1.1; rfl
    subst ev
    have hs : SameT n f k g := (Cod.eqv hx.2.2.2.2.1 hy.2.2.2.2.1 hx.2.2.2.2.2 hy.2.2.2.2.2).mp ⟨rfl, fun _ _ => rfl⟩
    exact ⟨s₁, some (.int 1), _, _, _, X0, rfl, rfl, rfl, (fun h => by cases h), ⟨1, rfl, hh0, Or.inl ⟨rfl, hs⟩⟩, fun fs hl => c2.trans (X0.ireturnOut hexec hret rfl (Or.inr (Or.inl rfl)) (hb hbytes d6) hl)⟩
  · have c2 : Steps p.tables e below (s₁.setTop (entryFrame m #[.ref x, .ref y] 3)) (s₁.setTop (mkF m 8 #[.val (.ref x), .val (.ref y), .unset] [.ref y])) := c1.trans (by
      refine acmpYes X0.here hexec rfl (pc0 := 2) rfl (hb hbytes d2) rfl rfl rfl (by simp [acmp, hxy]) (by decide) rfl ?_
      refine XS.aloadN X0.here hexec rfl (hb hbytes d7) rfl rfl ?_
      exact Steps.refl _)
    obtain ⟨T3, X3, q3, st3⟩ := cinst X0 hexec hown (wk W (.classLink "java/lang/String" 10 "java/lang/String")) (hy.mv X0.warmed.alike hh0).1 (g := (mkF m 8 #[.val (.ref x), .val (.ref y), .unset] [.ref y])) rfl (rest := []) rfl (hb hbytes d8)
    have hh3 := q3.trans hh0
    have c4 : Steps p.tables e below (s₁.setTop (entryFrame m #[.ref x, .ref y] 3)) (T3.setTop (mkF m 15 #[.val (.ref x), .val (.ref y), .unset] [.ref y])) := (c2.trans (st3 _ (Steps.refl _))).trans (by
      refine XS.ifNo X3.here hexec rfl (hb hbytes d11) rfl (i0_eq_f (by decide)) ?_
      refine XS.aloadN X3.here hexec rfl (hb hbytes d14) rfl rfl ?_
      exact Steps.refl _)
    obtain ⟨T5, X5, q5, st5⟩ := cself X3 hexec hown (wk W (.classLink "java/lang/String" 10 "java/lang/String")) (hy.mv X3.warmed.alike hh3).1 (g := (mkF m 15 #[.val (.ref x), .val (.ref y), .unset] [.ref y])) rfl (rest := []) rfl (hb hbytes d15)
    have hh5 := q5.trans hh3
    have c6 : Steps p.tables e below (s₁.setTop (entryFrame m #[.ref x, .ref y] 3)) (T5.setTop (mkF m 19 #[.val (.ref x), .val (.ref y), .val (.ref y)] [])) := (c4.trans (st5 _ (Steps.refl _))).trans (by
      refine XS.astoreN X5.here hexec rfl (hb hbytes d18) rfl rfl rfl ?_
      exact Steps.refl _)
    obtain ⟨T7, X7, q7, st7⟩ := X5.sget hexec hown (wk W (.fieldLink "java/lang/String" 38 "java/lang/String" "COMPACT_STRINGS" "Z")) s1 (fun _ _ h => by rw [hh5]; exact h) (g := (mkF m 19 #[.val (.ref x), .val (.ref y), .val (.ref y)] [])) rfl (hb hbytes d19)
    have hh7 := q7.trans hh5
    have c8 : Steps p.tables e below (s₁.setTop (entryFrame m #[.ref x, .ref y] 3)) (T7.setTop (mkF m 26 #[.val (.ref x), .val (.ref y), .val (.ref y)] [.ref x])) := (c6.trans (st7 _ (Steps.refl _))).trans (by
      refine XS.ifNo X7.here hexec rfl (hb hbytes d22) rfl (i0_eq_f hz) ?_
      refine XS.aloadN X7.here hexec rfl (hb hbytes d25) rfl rfl ?_
      exact Steps.refl _)
    obtain ⟨T9, X9, q9, st9⟩ := X7.hget hexec hown (wk W (.fieldLink "java/lang/String" 15 "java/lang/String" "coder" "B")) (hx.mv X7.warmed.alike hh7).2.2.1 (g := (mkF m 26 #[.val (.ref x), .val (.ref y), .val (.ref y)] [.ref x])) rfl (rest := []) rfl (hb hbytes d26)
    have hh9 := q9.trans hh7
    have c10 : Steps p.tables e below (s₁.setTop (entryFrame m #[.ref x, .ref y] 3)) (T9.setTop (mkF m 30 #[.val (.ref x), .val (.ref y), .val (.ref y)] [.ref y, .int cd])) := (c8.trans (st9 _ (Steps.refl _))).trans (by
      refine XS.aloadN X9.here hexec rfl (hb hbytes d29) rfl rfl ?_
      exact Steps.refl _)
    obtain ⟨T11, X11, q11, st11⟩ := X9.hget hexec hown (wk W (.fieldLink "java/lang/String" 15 "java/lang/String" "coder" "B")) (hy.mv X9.warmed.alike hh9).2.2.1 (g := (mkF m 30 #[.val (.ref x), .val (.ref y), .val (.ref y)] [.ref y, .int cd])) rfl (rest := [.int cd]) rfl (hb hbytes d30)
    have hh11 := q11.trans hh9
    have c12 : Steps p.tables e below (s₁.setTop (entryFrame m #[.ref x, .ref y] 3)) (T11.setTop (mkF m 33 #[.val (.ref x), .val (.ref y), .val (.ref y)] [.int cd', .int cd])) := c10.trans (st11 _ (Steps.refl _))
    by_cases hcd : cd = cd'
    · subst hcd
      have c13 : Steps p.tables e below (s₁.setTop (entryFrame m #[.ref x, .ref y] 3)) (T11.setTop (mkF m 37 #[.val (.ref x), .val (.ref y), .val (.ref y)] [.ref x])) := c12.trans (by
        refine XS.icmpNo X11.here hexec rfl (hb hbytes d33) rfl (ii_ne_f rfl) ?_
        refine XS.aloadN X11.here hexec rfl (hb hbytes d36) rfl rfl ?_
        exact Steps.refl _)
      obtain ⟨T14, X14, q14, st14⟩ := X11.hget hexec hown (wk W (.fieldLink "java/lang/String" 9 "java/lang/String" "value" "[B")) (hx.mv X11.warmed.alike hh11).2.1 (g := (mkF m 37 #[.val (.ref x), .val (.ref y), .val (.ref y)] [.ref x])) rfl (rest := []) rfl (hb hbytes d37)
      have hh14 := q14.trans hh11
      have c15 : Steps p.tables e below (s₁.setTop (entryFrame m #[.ref x, .ref y] 3)) (T14.setTop (mkF m 41 #[.val (.ref x), .val (.ref y), .val (.ref y)] [.ref y, .ref t])) := (c13.trans (st14 _ (Steps.refl _))).trans (by
        refine XS.aloadN X14.here hexec rfl (hb hbytes d40) rfl rfl ?_
        exact Steps.refl _)
      obtain ⟨T16, X16, q16, st16⟩ := X14.hget hexec hown (wk W (.fieldLink "java/lang/String" 9 "java/lang/String" "value" "[B")) (hy.mv X14.warmed.alike hh14).2.1 (g := (mkF m 41 #[.val (.ref x), .val (.ref y), .val (.ref y)] [.ref y, .ref t])) rfl (rest := [.ref t]) rfl (hb hbytes d41)
      have hh16 := q16.trans hh14
      have c17 : Steps p.tables e below (s₁.setTop (entryFrame m #[.ref x, .ref y] 3)) (T16.setTop (mkF m 44 #[.val (.ref x), .val (.ref y), .val (.ref y)] [.ref t', .ref t])) := c15.trans (st16 _ (Steps.refl _))
      obtain ⟨v18, T18, X18, E18, g18⟩ := X16.callS hexec (LEq.law l t V t' V') hown (wks W (staticW "java/lang/String" 541 LEq.yN)) (wk W LEq.tab) (W := 0) (Nat.le_of_ble_eq_true rfl) (Nat.le_of_ble_eq_true rfl) (Nat.le_refl _) (Nat.le_refl _) (g := (mkF m 44 #[.val (.ref x), .val (.ref y), .val (.ref y)] [.ref t', .ref t])) rfl (by rw [hml]; rfl) c17 (argsL := [.ref t, .ref t']) (rest := []) rfl rfl (by show 2 * 0 + 0 ≤ _; decide) (hb hbytes d44) (⟨rfl, hx.2.2.2.1.mv X16.warmed.alike hh16, hx.2.2.2.2.1.ty, hy.2.2.2.1.mv X16.warmed.alike hh16, hy.2.2.2.2.1.ty⟩)
      obtain ⟨v, rfl, q18, hv⟩ := E18
      have iff := Cod.eqv hx.2.2.2.2.1 hy.2.2.2.2.1 hx.2.2.2.2.2 hy.2.2.2.2.2
      rcases hv with ⟨rfl, he⟩ | ⟨rfl, he⟩
      · have c19 : Steps p.tables e below (s₁.setTop (entryFrame m #[.ref x, .ref y] 3)) (T18.setTop (mkF m 55 #[.val (.ref x), .val (.ref y), .val (.ref y)] [.int 1])) := Steps.trans g18 (by
          refine XS.ifNo X18.here hexec rfl (hb hbytes d47) rfl (i0_eq_f (by decide)) ?_
          refine iconstV X18.here hexec rfl 1 (hb hbytes d50) (by decide) ?_
          refine XS.goto X18.here hexec rfl (pc0 := 51) rfl (hb hbytes d51) (by decide) rfl ?_
          exact Steps.refl _)
        exact ⟨T18, some (.int 1), _, _, _, X18, rfl, rfl, rfl, (fun h => by cases h), ⟨1, rfl, q18.trans hh16, Or.inl ⟨rfl, iff.mp he⟩⟩, fun fs hl => c19.trans (X18.ireturnOut hexec hret rfl (Or.inr (Or.inl rfl)) (hb hbytes d55) hl)⟩
      · have c19 : Steps p.tables e below (s₁.setTop (entryFrame m #[.ref x, .ref y] 3)) (T18.setTop (mkF m 55 #[.val (.ref x), .val (.ref y), .val (.ref y)] [.int 0])) := Steps.trans g18 (by
          refine XS.ifYes X18.here hexec rfl (pc0 := 47) rfl (hb hbytes d47) rfl (i0_eq_t rfl) (by decide) rfl ?_
          refine iconstV X18.here hexec rfl 0 (hb hbytes d54) (by decide) ?_
          exact Steps.refl _)
        exact ⟨T18, some (.int 0), _, _, _, X18, rfl, rfl, rfl, (fun h => by cases h), ⟨0, rfl, q18.trans hh16, Or.inr ⟨rfl, fun q => he (iff.mpr q)⟩⟩, fun fs hl => c19.trans (X18.ireturnOut hexec hret rfl (Or.inr (Or.inl rfl)) (hb hbytes d55) hl)⟩
    · have c13 : Steps p.tables e below (s₁.setTop (entryFrame m #[.ref x, .ref y] 3)) (T11.setTop (mkF m 55 #[.val (.ref x), .val (.ref y), .val (.ref y)] [.int 0])) := c12.trans (by
        refine XS.icmpYes X11.here hexec rfl (pc0 := 33) rfl (hb hbytes d33) rfl (ii_ne_t hcd) (by decide) rfl ?_
        refine iconstV X11.here hexec rfl 0 (hb hbytes d54) (by decide) ?_
        exact Steps.refl _)
      exact ⟨T11, some (.int 0), _, _, _, X11, rfl, rfl, rfl, (fun h => by cases h), ⟨0, rfl, hh11, Or.inr ⟨rfl, Cod.dif hx.2.2.2.2.1 hy.2.2.2.2.1 hcd⟩⟩, fun fs hl => c13.trans (X11.ireturnOut hexec hret rfl (Or.inr (Or.inl rfl)) (hb hbytes d55) hl)⟩
theorem pays {l : Launch} {R : Room} {p : Program} {e : Env} {below : List Frame} {s : State} {sargs : Array Value} {len W : Nat} (x t : Addr) (V : Cell) (cd : Int32) (n : Nat) (f : Nat → Int32) (y t' : Addr) (V' : Cell) (cd' : Int32) (k : Nat) (g : Nat → Int32) (z : Int32) (htab : tab.before sargs s = true) (hfr : 2 ≤ R.frames) (hlo : W + 28 ≤ R.locals) :
    Back l R p e below s sargs yN len W (fun A₁ a₁ => A₁.cells + 0 ≤ R.cells ∧ A₁.slots + 0 ≤ R.slots ∧ P x t V cd n f y t' V' cd' k g z a₁ A₁.U) (fun A₁ _ v₁ B₁ => Says01 (SameT n f k g) v₁ A₁.U B₁.U ∧ B₁.locs = A₁.locs ++ [] ∧ B₁.cells = A₁.cells + 0 ∧ B₁.slots = A₁.slots + 0) :=
  (law l x t V cd n f y t' V' cd' k g z).pays htab hfr (by omega)
end SEq
end StrChars
namespace StrChars.Road
open Jvm Sem ClassFile Op Lib Jvm.Stand Jvm.Free Jvm.Free.XT
open Jvm.Lib.Cold (StaticIs)
/-- the words of String.equals(Object) -/
abbrev wordsEq : List Jvm.Cond := [.code SEq.yN SEq.yB 3 (some .boolean), .initialized ST, .classLink ST 10 ST, .fieldLink ST 38 ST "COMPACT_STRINGS" "Z", .fieldLink ST 15 ST "coder" "B", .fieldLink ST 9 ST "value" "[B", .methodLink ST 541 LEq.yN, .static LEq.yN, .code LEq.yN LEq.yB 3 (some .boolean), .initialized "java/lang/StringLatin1"]
theorem tabEq_of {a : Array Value} {s : State} (h : ∀ w ∈ wordsEq, w.before a s = true) : SEq.tab.before a s = true := by
  have hl : LEq.tab.before a s = true := unparts (wk h (.code LEq.yN LEq.yB 3 (some .boolean))) (wks h (.initialized LEq.yN.cls :: LEq.site))
  have q := consq hl h
  exact unparts (wk q (.code SEq.yN SEq.yB 3 (some .boolean))) (wks q (.initialized SEq.yN.cls :: SEq.site))
theorem movedEq {Z s : State} {a0 args : Array Value} (hZ : Z.Warmed39 s.vm) (hw : ∀ d ∈ wordsEq, d.before a0 Z = true) : ∀ d ∈ wordsEq, d.before args s = true := fun d hd => by
  have t : ∀ d ∈ wordsEq, (d.onTables && d.keepsFace) = true := by decide +kernel
  exact RoadKit.mv hZ (hw d hd) (t d hd)
/-- the road's facts of a String, as the laws ask it -/
theorem txt_of {Z U : State} {a0 : Array Value} {kI : Nat} (wi : (Jvm.Cond.instantiable ST kI).before a0 Z = true) (al : Z.vm.Alike U.vm) {x t : Addr} {kb : ClassId} {cs : List Int32} {cd N2 : Int32} {vs : List Value} (E : RoadKit.Exa Z U.heap x ST) (V : RoadKit.Fld Z U.heap x ST "value" "[B" (.ref t)) (C : RoadKit.Fld Z U.heap x ST "coder" "B" (.int cd)) (K : RoadKit.Arv Z U.heap t kb .byte N2 vs (.int 0)) (hc : CodA cs cd N2 vs) (hb : ∀ c ∈ cs, ¬ c < 0 ∧ ¬ (65535 : Int32) < c) (l2 : cs.length ≤ 4000) :
    ∃ A, Txt x t A cd cs.length (fun j => cs.getD j 0) U := by
  obtain ⟨A, K1, K2, K3, K4, K5, K6⟩ := K
  have hcod := hc.cod (by omega) K3 K5
  obtain ⟨D, fV, fC, hB, F1, F2, g1, g2, -, -⟩ := strObj wi al E V C
  exact ⟨A, ⟨_, hB.2.2.1, D, hB.1, rfl, by cases q : D.vm <;> first | rfl | exact absurd q (hB.2.1.2 _)⟩, Has.of hB F1 g1, Has.of hB F2 g2, ⟨K1.1, State.isArrayOf_alike al K1.2.1, K1.2.2, by rcases hcod with ⟨-, q, -⟩ | ⟨-, q, -⟩ <;> omega⟩, hcod, fun j hj => by
    have e : cs.getD j 0 = cs[j] := by simp [List.getD_eq_getElem?_getD, hj]
    show ¬ cs.getD j 0 < 0 ∧ ¬ 65535 < cs.getD j 0
    rw [e]; exact hb _ (List.getElem_mem _)⟩
theorem same_list (cs ds : List Int32) : SameT cs.length (fun j => cs.getD j 0) ds.length (fun j => ds.getD j 0) ↔ cs = ds := by
  constructor
  · rintro ⟨e, q⟩
    refine List.ext_getElem e fun j h1 h2 => ?_
    have := q j h1
    simpa [List.getD_eq_getElem?_getD, h1, h2] using this
  · rintro rfl
    exact ⟨rfl, fun _ _ => rfl⟩
/-- **equals(Object) OF TWO SUCH STRINGS**: 1 just where the chars are the same -/
theorem eqW {p : Program} {l : Launch} {e : Env} {R : Room} {s : State} {args : Array Value} {below : List Frame} {len W : Nat} {Z : State} {a0 : Array Value} {h : Heap} (hZ : Z.Warmed39 s.vm) (hw : ∀ d ∈ wordsEq, d.before a0 Z = true) {kI : Nat} (wi : (Jvm.Cond.instantiable ST kI).before a0 Z = true)
    {x t : Addr} {kb : ClassId} {cs : List Int32} {cd N2 : Int32} {vs : List Value} (E : RoadKit.Exa Z h x ST) (V : RoadKit.Fld Z h x ST "value" "[B" (.ref t)) (C : RoadKit.Fld Z h x ST "coder" "B" (.int cd)) (K : RoadKit.Arv Z h t kb .byte N2 vs (.int 0)) (hc : CodA cs cd N2 vs) (hb : ∀ c ∈ cs, ¬ c < 0 ∧ ¬ (65535 : Int32) < c) (l2 : cs.length ≤ 4000)
    {y t' : Addr} {kb' : ClassId} {ds : List Int32} {cd' N2' : Int32} {vs' : List Value} (E' : RoadKit.Exa Z h y ST) (V' : RoadKit.Fld Z h y ST "value" "[B" (.ref t')) (C' : RoadKit.Fld Z h y ST "coder" "B" (.int cd')) (K' : RoadKit.Arv Z h t' kb' .byte N2' vs' (.int 0)) (hc' : CodA ds cd' N2' vs') (hb' : ∀ c ∈ ds, ¬ c < 0 ∧ ¬ (65535 : Int32) < c) (l2' : ds.length ≤ 4000)
    {z : Int32} (S : RoadKit.Sta Z h ST "COMPACT_STRINGS" "Z" (.int z)) (hz : ¬ z = 0) (hfr : 2 ≤ R.frames) (hlo : W + 28 ≤ R.locals) :
    Back l R p e below s args (⟨"java/lang/String", "equals", "(Ljava/lang/Object;)Z"⟩ : MethodName) len W (fun P a => a = #[.ref x, .ref y] ∧ P.U.heap = h ∧ P.cells + 0 ≤ R.cells ∧ P.slots + 0 ≤ R.slots)
      (fun P _ v B => ∃ L, (((v = some (.int 1) ∧ cs = ds) ∨ (v = some (.int 0) ∧ ¬ cs = ds)) ∧ L = [] ∧ B.U.heap = h) ∧ B.locs = P.locs ++ L ∧ B.cells = P.cells + 0 ∧ B.slots = P.slots + 0) := by
  intro m meth c P g ig mk a X hg hsize hdg hW hn hp'
  obtain ⟨rfl, rfl, r1, r2⟩ := hp'
  have al : Z.vm.Alike P.U.vm := hZ.alike.trans X.warmed.alike
  obtain ⟨A, hx⟩ := txt_of wi al E V C K hc hb l2
  obtain ⟨A', hy⟩ := txt_of wi al E' V' C' K' hc' hb' l2'
  obtain ⟨v, B, X', ⟨⟨w, hv, hh, hq⟩, hl, hk, hs⟩, st⟩ := SEq.pays x t A cd cs.length (fun j => cs.getD j 0) y t' A' cd' ds.length (fun j => ds.getD j 0) z (tabEq_of (movedEq hZ hw)) hfr hlo m meth c P g ig mk _ X hg hsize hdg hW hn ⟨r1, r2, rfl, hx, hy, sta_is al S, hz⟩
  refine ⟨v, B, X', ⟨[], ⟨?_, rfl, hh⟩, hl, hk, hs⟩, st⟩
  rcases hq with ⟨rfl, q⟩ | ⟨rfl, q⟩
  · exact Or.inl ⟨hv, (same_list cs ds).mp q⟩
  · exact Or.inr ⟨hv, fun e => q ((same_list cs ds).mpr e)⟩
end StrChars.Road
namespace StrChars.Road
open Jvm Sem ClassFile Op Lib Jvm.Stand Jvm.Free Jvm.Free.XT
open Jvm.Lib.Cold (StaticIs)
/-- what backV says of its String, as the contracts of this text ask it: cs's low bytes, coder 0 -/
theorem codOf {cs : List Int32} {n : Nat} (hn : cs.length = n) (hb : ∀ c ∈ cs, ¬ 255 < c) : CodA cs 0 (Int32.ofNat n) ((cs.map lo8).map Value.int) := Or.inl ⟨rfl, by rw [hn], by simp [List.map_map, Function.comp_def], hb⟩
end StrChars.Road
end Jvm.Pilot.@@N@@
namespace Jvm.Pilot.@@N@@
open Jvm Jvm.ClassFile Sem Op Lib Jvm.Free Jvm.Stand Jvm.LawKit Jvm.RoadKit Bundle Jvm.Pilot.@@N@@.Jvm.D
theorem d1_0 : decode method_3_code 0 = .ok (.iload_n 2, 1) := by decide +kernel
theorem d1_1 : decode method_3_code 1 = .ok (.iconst 1, 1) := by decide +kernel
theorem d1_2 : decode method_3_code 2 = .ok (.if_icmp .ne 8, 3) := by decide +kernel
theorem d1_5 : decode method_3_code 5 = .ok (.iload_n 0, 1) := by decide +kernel
theorem d1_6 : decode method_3_code 6 = .ok (.invokestatic 7, 3) := by decide +kernel
theorem d1_9 : decode method_3_code 9 = .ok (.ireturn, 1) := by decide +kernel
theorem d1_10 : decode method_3_code 10 = .ok (.iload_n 0, 1) := by decide +kernel
theorem d1_11 : decode method_3_code 11 = .ok (.invokestatic 7, 3) := by decide +kernel
theorem d1_14 : decode method_3_code 14 = .ok (.ifCond .eq 14, 3) := by decide +kernel
theorem d1_17 : decode method_3_code 17 = .ok (.iload_n 1, 1) := by decide +kernel
theorem d1_18 : decode method_3_code 18 = .ok (.invokestatic 7, 3) := by decide +kernel
theorem d1_21 : decode method_3_code 21 = .ok (.ifCond .eq 7, 3) := by decide +kernel
theorem d1_24 : decode method_3_code 24 = .ok (.iconst 1, 1) := by decide +kernel
theorem d1_25 : decode method_3_code 25 = .ok (.goto 4, 3) := by decide +kernel
theorem d1_28 : decode method_3_code 28 = .ok (.iconst 0, 1) := by decide +kernel
theorem d1_29 : decode method_3_code 29 = .ok (.ireturn, 1) := by decide +kernel
theorem d2_0 : decode method_2_code 0 = .ok (.iload_n 0, 1) := by decide +kernel
theorem d2_1 : decode method_2_code 1 = .ok (.bipush 9, 2) := by decide +kernel
theorem d2_3 : decode method_2_code 3 = .ok (.if_icmp .lt 9, 3) := by decide +kernel
theorem d2_6 : decode method_2_code 6 = .ok (.iload_n 0, 1) := by decide +kernel
theorem d2_7 : decode method_2_code 7 = .ok (.bipush 13, 2) := by decide +kernel
theorem d2_9 : decode method_2_code 9 = .ok (.if_icmp .le 15, 3) := by decide +kernel
theorem d2_12 : decode method_2_code 12 = .ok (.iload_n 0, 1) := by decide +kernel
theorem d2_13 : decode method_2_code 13 = .ok (.bipush 28, 2) := by decide +kernel
theorem d2_15 : decode method_2_code 15 = .ok (.if_icmp .lt 13, 3) := by decide +kernel
theorem d2_18 : decode method_2_code 18 = .ok (.iload_n 0, 1) := by decide +kernel
theorem d2_19 : decode method_2_code 19 = .ok (.bipush 32, 2) := by decide +kernel
theorem d2_21 : decode method_2_code 21 = .ok (.if_icmp .gt 7, 3) := by decide +kernel
theorem d2_24 : decode method_2_code 24 = .ok (.iconst 1, 1) := by decide +kernel
theorem d2_25 : decode method_2_code 25 = .ok (.goto 4, 3) := by decide +kernel
theorem d2_28 : decode method_2_code 28 = .ok (.iconst 0, 1) := by decide +kernel
theorem d2_29 : decode method_2_code 29 = .ok (.ireturn, 1) := by decide +kernel
theorem d3_0 : decode method_4_code 0 = .ok (.iload_n 2, 1) := by decide +kernel
theorem d3_1 : decode method_4_code 1 = .ok (.iconst 1, 1) := by decide +kernel
theorem d3_2 : decode method_4_code 2 = .ok (.if_icmp .ne 18, 3) := by decide +kernel
theorem d3_5 : decode method_4_code 5 = .ok (.new 13, 3) := by decide +kernel
theorem d3_8 : decode method_4_code 8 = .ok (.dup, 1) := by decide +kernel
theorem d3_9 : decode method_4_code 9 = .ok (.iconst 1, 1) := by decide +kernel
theorem d3_10 : decode method_4_code 10 = .ok (.newarray .char, 2) := by decide +kernel
theorem d3_12 : decode method_4_code 12 = .ok (.dup, 1) := by decide +kernel
theorem d3_13 : decode method_4_code 13 = .ok (.iconst 0, 1) := by decide +kernel
theorem d3_14 : decode method_4_code 14 = .ok (.iload_n 0, 1) := by decide +kernel
theorem d3_15 : decode method_4_code 15 = .ok (.castore, 1) := by decide +kernel
theorem d3_16 : decode method_4_code 16 = .ok (.invokespecial 15, 3) := by decide +kernel
theorem d3_19 : decode method_4_code 19 = .ok (.areturn, 1) := by decide +kernel
theorem d3_20 : decode method_4_code 20 = .ok (.new 13, 3) := by decide +kernel
theorem d3_23 : decode method_4_code 23 = .ok (.dup, 1) := by decide +kernel
theorem d3_24 : decode method_4_code 24 = .ok (.iconst 2, 1) := by decide +kernel
theorem d3_25 : decode method_4_code 25 = .ok (.newarray .char, 2) := by decide +kernel
theorem d3_27 : decode method_4_code 27 = .ok (.dup, 1) := by decide +kernel
theorem d3_28 : decode method_4_code 28 = .ok (.iconst 0, 1) := by decide +kernel
theorem d3_29 : decode method_4_code 29 = .ok (.iload_n 0, 1) := by decide +kernel
theorem d3_30 : decode method_4_code 30 = .ok (.castore, 1) := by decide +kernel
theorem d3_31 : decode method_4_code 31 = .ok (.dup, 1) := by decide +kernel
theorem d3_32 : decode method_4_code 32 = .ok (.iconst 1, 1) := by decide +kernel
theorem d3_33 : decode method_4_code 33 = .ok (.iload_n 1, 1) := by decide +kernel
theorem d3_34 : decode method_4_code 34 = .ok (.castore, 1) := by decide +kernel
theorem d3_35 : decode method_4_code 35 = .ok (.invokespecial 15, 3) := by decide +kernel
theorem d3_38 : decode method_4_code 38 = .ok (.areturn, 1) := by decide +kernel
theorem d10_0 : decode prog_31_method_1_code 0 = .ok (.aload_n 0, 1) := by decide +kernel
theorem d10_1 : decode prog_31_method_1_code 1 = .ok (.invokespecial 1, 3) := by decide +kernel
theorem d10_4 : decode prog_31_method_1_code 4 = .ok (.aload_n 1, 1) := by decide +kernel
theorem d10_5 : decode prog_31_method_1_code 5 = .ok (.invokevirtual 7, 3) := by decide +kernel
theorem d10_8 : decode prog_31_method_1_code 8 = .ok (.ifCond .ne 10, 3) := by decide +kernel
theorem d10_11 : decode prog_31_method_1_code 11 = .ok (.aload_n 2, 1) := by decide +kernel
theorem d10_12 : decode prog_31_method_1_code 12 = .ok (.invokevirtual 7, 3) := by decide +kernel
theorem d10_15 : decode prog_31_method_1_code 15 = .ok (.ifCond .eq 18, 3) := by decide +kernel
theorem d10_33 : decode prog_31_method_1_code 33 = .ok (.aload_n 0, 1) := by decide +kernel
theorem d10_34 : decode prog_31_method_1_code 34 = .ok (.aload_n 1, 1) := by decide +kernel
theorem d10_35 : decode prog_31_method_1_code 35 = .ok (.putfield 22, 3) := by decide +kernel
theorem d10_38 : decode prog_31_method_1_code 38 = .ok (.aload_n 0, 1) := by decide +kernel
theorem d10_39 : decode prog_31_method_1_code 39 = .ok (.aload_n 2, 1) := by decide +kernel
theorem d10_40 : decode prog_31_method_1_code 40 = .ok (.putfield 28, 3) := by decide +kernel
theorem d10_43 : decode prog_31_method_1_code 43 = .ok (.return_, 1) := by decide +kernel
theorem d11_0 : decode jdk_42_method_117_code 0 = .ok (.aload_n 0, 1) := by decide +kernel
theorem d11_1 : decode jdk_42_method_117_code 1 = .ok (.invokevirtual 876, 3) := by decide +kernel
theorem d11_4 : decode jdk_42_method_117_code 4 = .ok (.aload_n 0, 1) := by decide +kernel
theorem d11_5 : decode jdk_42_method_117_code 5 = .ok (.invokevirtual 505, 3) := by decide +kernel
theorem d11_8 : decode jdk_42_method_117_code 8 = .ok (.if_icmp .ne 7, 3) := by decide +kernel
theorem d11_15 : decode jdk_42_method_117_code 15 = .ok (.iconst 0, 1) := by decide +kernel
theorem d11_16 : decode jdk_42_method_117_code 16 = .ok (.ireturn, 1) := by decide +kernel
theorem d12_0 : decode jdk_42_method_120_code 0 = .ok (.aload_n 0, 1) := by decide +kernel
theorem d12_1 : decode jdk_42_method_120_code 1 = .ok (.invokevirtual 492, 3) := by decide +kernel
theorem d12_4 : decode jdk_42_method_120_code 4 = .ok (.ifCond .eq 13, 3) := by decide +kernel
theorem d12_7 : decode jdk_42_method_120_code 7 = .ok (.aload_n 0, 1) := by decide +kernel
theorem d12_8 : decode jdk_42_method_120_code 8 = .ok (.getfield 9, 3) := by decide +kernel
theorem d12_11 : decode jdk_42_method_120_code 11 = .ok (.invokestatic 924, 3) := by decide +kernel
theorem d12_14 : decode jdk_42_method_120_code 14 = .ok (.goto 10, 3) := by decide +kernel
theorem d12_24 : decode jdk_42_method_120_code 24 = .ok (.ireturn, 1) := by decide +kernel
theorem d13_0 : decode jdk_42_method_154_code 0 = .ok (.getstatic 38, 3) := by decide +kernel
theorem d13_3 : decode jdk_42_method_154_code 3 = .ok (.ifCond .eq 14, 3) := by decide +kernel
theorem d13_6 : decode jdk_42_method_154_code 6 = .ok (.aload_n 0, 1) := by decide +kernel
theorem d13_7 : decode jdk_42_method_154_code 7 = .ok (.getfield 15, 3) := by decide +kernel
theorem d13_10 : decode jdk_42_method_154_code 10 = .ok (.ifCond .ne 7, 3) := by decide +kernel
theorem d13_13 : decode jdk_42_method_154_code 13 = .ok (.iconst 1, 1) := by decide +kernel
theorem d13_14 : decode jdk_42_method_154_code 14 = .ok (.goto 4, 3) := by decide +kernel
theorem d13_18 : decode jdk_42_method_154_code 18 = .ok (.ireturn, 1) := by decide +kernel
theorem d14_0 : decode jdk_43_method_37_code 0 = .ok (.aload_n 0, 1) := by decide +kernel
theorem d14_1 : decode jdk_43_method_37_code 1 = .ok (.arraylength, 1) := by decide +kernel
theorem d14_2 : decode jdk_43_method_37_code 2 = .ok (.istore_n 1, 1) := by decide +kernel
theorem d14_3 : decode jdk_43_method_37_code 3 = .ok (.iconst 0, 1) := by decide +kernel
theorem d14_4 : decode jdk_43_method_37_code 4 = .ok (.istore_n 2, 1) := by decide +kernel
theorem d14_5 : decode jdk_43_method_37_code 5 = .ok (.iload_n 2, 1) := by decide +kernel
theorem d14_6 : decode jdk_43_method_37_code 6 = .ok (.iload_n 1, 1) := by decide +kernel
theorem d14_7 : decode jdk_43_method_37_code 7 = .ok (.if_icmp .ge 40, 3) := by decide +kernel
theorem d14_10 : decode jdk_43_method_37_code 10 = .ok (.aload_n 0, 1) := by decide +kernel
theorem d14_11 : decode jdk_43_method_37_code 11 = .ok (.iload_n 2, 1) := by decide +kernel
theorem d14_12 : decode jdk_43_method_37_code 12 = .ok (.invokestatic 50, 3) := by decide +kernel
theorem d14_15 : decode jdk_43_method_37_code 15 = .ok (.istore_n 3, 1) := by decide +kernel
theorem d14_16 : decode jdk_43_method_37_code 16 = .ok (.iload_n 3, 1) := by decide +kernel
theorem d14_17 : decode jdk_43_method_37_code 17 = .ok (.bipush 32, 2) := by decide +kernel
theorem d14_19 : decode jdk_43_method_37_code 19 = .ok (.if_icmp .eq 22, 3) := by decide +kernel
theorem d14_22 : decode jdk_43_method_37_code 22 = .ok (.iload_n 3, 1) := by decide +kernel
theorem d14_23 : decode jdk_43_method_37_code 23 = .ok (.bipush 9, 2) := by decide +kernel
theorem d14_25 : decode jdk_43_method_37_code 25 = .ok (.if_icmp .eq 16, 3) := by decide +kernel
theorem d14_28 : decode jdk_43_method_37_code 28 = .ok (.getstatic 66, 3) := by decide +kernel
theorem d14_31 : decode jdk_43_method_37_code 31 = .ok (.iload_n 3, 1) := by decide +kernel
theorem d14_32 : decode jdk_43_method_37_code 32 = .ok (.invokevirtual 211, 3) := by decide +kernel
theorem d14_35 : decode jdk_43_method_37_code 35 = .ok (.ifCond .ne 6, 3) := by decide +kernel
theorem d14_38 : decode jdk_43_method_37_code 38 = .ok (.goto 9, 3) := by decide +kernel
theorem d14_41 : decode jdk_43_method_37_code 41 = .ok (.iinc 2 1, 3) := by decide +kernel
theorem d14_44 : decode jdk_43_method_37_code 44 = .ok (.goto (-39), 3) := by decide +kernel
theorem d14_47 : decode jdk_43_method_37_code 47 = .ok (.iload_n 2, 1) := by decide +kernel
theorem d14_48 : decode jdk_43_method_37_code 48 = .ok (.ireturn, 1) := by decide +kernel
theorem d15_0 : decode jdk_43_method_44_code 0 = .ok (.aload_n 0, 1) := by decide +kernel
theorem d15_1 : decode jdk_43_method_44_code 1 = .ok (.iload_n 1, 1) := by decide +kernel
theorem d15_2 : decode jdk_43_method_44_code 2 = .ok (.baload, 1) := by decide +kernel
theorem d15_3 : decode jdk_43_method_44_code 3 = .ok (.sipush 255, 3) := by decide +kernel
theorem d15_6 : decode jdk_43_method_44_code 6 = .ok (.iand, 1) := by decide +kernel
theorem d15_7 : decode jdk_43_method_44_code 7 = .ok (.i2c, 1) := by decide +kernel
theorem d15_8 : decode jdk_43_method_44_code 8 = .ok (.ireturn, 1) := by decide +kernel
theorem d16_0 : decode jdk_116_method_26_code 0 = .ok (.aload_n 0, 1) := by decide +kernel
theorem d16_1 : decode jdk_116_method_26_code 1 = .ok (.iload_n 1, 1) := by decide +kernel
theorem d16_2 : decode jdk_116_method_26_code 2 = .ok (.invokevirtual 15, 3) := by decide +kernel
theorem d16_5 : decode jdk_116_method_26_code 5 = .ok (.istore_n 2, 1) := by decide +kernel
theorem d16_6 : decode jdk_116_method_26_code 6 = .ok (.iload_n 2, 1) := by decide +kernel
theorem d16_7 : decode jdk_116_method_26_code 7 = .ok (.sipush 28672, 3) := by decide +kernel
theorem d16_10 : decode jdk_116_method_26_code 10 = .ok (.iand, 1) := by decide +kernel
theorem d16_11 : decode jdk_116_method_26_code 11 = .ok (.sipush 16384, 3) := by decide +kernel
theorem d16_14 : decode jdk_116_method_26_code 14 = .ok (.if_icmp .ne 7, 3) := by decide +kernel
theorem d16_17 : decode jdk_116_method_26_code 17 = .ok (.iconst 1, 1) := by decide +kernel
theorem d16_18 : decode jdk_116_method_26_code 18 = .ok (.goto 4, 3) := by decide +kernel
theorem d16_21 : decode jdk_116_method_26_code 21 = .ok (.iconst 0, 1) := by decide +kernel
theorem d16_22 : decode jdk_116_method_26_code 22 = .ok (.ireturn, 1) := by decide +kernel
theorem d17_0 : decode jdk_116_method_1_code 0 = .ok (.iload_n 1, 1) := by decide +kernel
theorem d17_1 : decode jdk_116_method_1_code 1 = .ok (.i2c, 1) := by decide +kernel
theorem d17_2 : decode jdk_116_method_1_code 2 = .ok (.istore_n 2, 1) := by decide +kernel
theorem d17_3 : decode jdk_116_method_1_code 3 = .ok (.getstatic 1, 3) := by decide +kernel
theorem d17_6 : decode jdk_116_method_1_code 6 = .ok (.iload_n 2, 1) := by decide +kernel
theorem d17_7 : decode jdk_116_method_1_code 7 = .ok (.iaload, 1) := by decide +kernel
theorem d17_8 : decode jdk_116_method_1_code 8 = .ok (.istore_n 3, 1) := by decide +kernel
theorem d17_9 : decode jdk_116_method_1_code 9 = .ok (.iload_n 3, 1) := by decide +kernel
theorem d17_10 : decode jdk_116_method_1_code 10 = .ok (.ireturn, 1) := by decide +kernel
theorem d20_0 : decode method_5_code 0 = .ok (.iload_n 2, 1) := by decide +kernel
theorem d20_1 : decode method_5_code 1 = .ok (.iload 5, 2) := by decide +kernel
theorem d20_3 : decode method_5_code 3 = .ok (.if_icmp .eq 5, 3) := by decide +kernel
theorem d20_6 : decode method_5_code 6 = .ok (.iconst 0, 1) := by decide +kernel
theorem d20_7 : decode method_5_code 7 = .ok (.ireturn, 1) := by decide +kernel
theorem d20_8 : decode method_5_code 8 = .ok (.iload_n 0, 1) := by decide +kernel
theorem d20_9 : decode method_5_code 9 = .ok (.iload_n 3, 1) := by decide +kernel
theorem d20_10 : decode method_5_code 10 = .ok (.if_icmp .eq 5, 3) := by decide +kernel
theorem d20_13 : decode method_5_code 13 = .ok (.iconst 0, 1) := by decide +kernel
theorem d20_14 : decode method_5_code 14 = .ok (.ireturn, 1) := by decide +kernel
theorem d20_15 : decode method_5_code 15 = .ok (.iload_n 2, 1) := by decide +kernel
theorem d20_16 : decode method_5_code 16 = .ok (.iconst 1, 1) := by decide +kernel
theorem d20_17 : decode method_5_code 17 = .ok (.if_icmp .ne 5, 3) := by decide +kernel
theorem d20_20 : decode method_5_code 20 = .ok (.iconst 1, 1) := by decide +kernel
theorem d20_21 : decode method_5_code 21 = .ok (.ireturn, 1) := by decide +kernel
theorem d20_22 : decode method_5_code 22 = .ok (.iload_n 1, 1) := by decide +kernel
theorem d20_23 : decode method_5_code 23 = .ok (.iload 4, 2) := by decide +kernel
theorem d20_25 : decode method_5_code 25 = .ok (.if_icmp .ne 7, 3) := by decide +kernel
theorem d20_28 : decode method_5_code 28 = .ok (.iconst 1, 1) := by decide +kernel
theorem d20_29 : decode method_5_code 29 = .ok (.goto 4, 3) := by decide +kernel
theorem d20_32 : decode method_5_code 32 = .ok (.iconst 0, 1) := by decide +kernel
theorem d20_33 : decode method_5_code 33 = .ok (.ireturn, 1) := by decide +kernel
theorem d21_0 : decode prog_31_method_4_code 0 = .ok (.aload_n 1, 1) := by decide +kernel
theorem d21_1 : decode prog_31_method_4_code 1 = .ok (.instanceof 23, 3) := by decide +kernel
theorem d21_4 : decode prog_31_method_4_code 4 = .ok (.ifCond .eq 11, 3) := by decide +kernel
theorem d21_7 : decode prog_31_method_4_code 7 = .ok (.aload_n 1, 1) := by decide +kernel
theorem d21_8 : decode prog_31_method_4_code 8 = .ok (.checkcast 23, 3) := by decide +kernel
theorem d21_11 : decode prog_31_method_4_code 11 = .ok (.astore_n 2, 1) := by decide +kernel
theorem d21_12 : decode prog_31_method_4_code 12 = .ok (.goto 5, 3) := by decide +kernel
theorem d21_15 : decode prog_31_method_4_code 15 = .ok (.iconst 0, 1) := by decide +kernel
theorem d21_16 : decode prog_31_method_4_code 16 = .ok (.ireturn, 1) := by decide +kernel
theorem d21_17 : decode prog_31_method_4_code 17 = .ok (.aload_n 0, 1) := by decide +kernel
theorem d21_18 : decode prog_31_method_4_code 18 = .ok (.getfield 22, 3) := by decide +kernel
theorem d21_21 : decode prog_31_method_4_code 21 = .ok (.aload_n 2, 1) := by decide +kernel
theorem d21_22 : decode prog_31_method_4_code 22 = .ok (.getfield 22, 3) := by decide +kernel
theorem d21_25 : decode prog_31_method_4_code 25 = .ok (.invokevirtual 31, 3) := by decide +kernel
theorem d21_28 : decode prog_31_method_4_code 28 = .ok (.ifCond .eq 21, 3) := by decide +kernel
theorem d21_31 : decode prog_31_method_4_code 31 = .ok (.aload_n 0, 1) := by decide +kernel
theorem d21_32 : decode prog_31_method_4_code 32 = .ok (.getfield 28, 3) := by decide +kernel
theorem d21_35 : decode prog_31_method_4_code 35 = .ok (.aload_n 2, 1) := by decide +kernel
theorem d21_36 : decode prog_31_method_4_code 36 = .ok (.getfield 28, 3) := by decide +kernel
theorem d21_39 : decode prog_31_method_4_code 39 = .ok (.invokevirtual 31, 3) := by decide +kernel
theorem d21_42 : decode prog_31_method_4_code 42 = .ok (.ifCond .eq 7, 3) := by decide +kernel
theorem d21_45 : decode prog_31_method_4_code 45 = .ok (.iconst 1, 1) := by decide +kernel
theorem d21_46 : decode prog_31_method_4_code 46 = .ok (.goto 4, 3) := by decide +kernel
theorem d21_49 : decode prog_31_method_4_code 49 = .ok (.iconst 0, 1) := by decide +kernel
theorem d21_50 : decode prog_31_method_4_code 50 = .ok (.ireturn, 1) := by decide +kernel
theorem pn_0 : plainName "com/example/astute_search/astutesearch/engine/TopicEqualsPinLaw" = true := by first | (simp [plainName, overriddenIn]; done) | decide +kernel
theorem pn_1 : plainName "java/lang/StringLatin1" = true := by first | (simp [plainName, overriddenIn]; done) | decide +kernel
theorem pn_2 : plainName "java/lang/CharacterDataLatin1" = true := by first | (simp [plainName, overriddenIn]; done) | decide +kernel
theorem pn_3 : plainName "java/lang/String" = true := by first | (simp [plainName, overriddenIn]; done) | decide +kernel
theorem pn_4 : plainName "com/example/astute_search/astutesearch/engine/Topic" = true := by first | (simp [plainName, overriddenIn]; done) | decide +kernel
theorem pd_0 : parseMethodDescriptor "(C)Z" = some ⟨[.char], some .boolean⟩ := by decide +kernel
theorem pd_1 : parseMethodDescriptor "([C)V" = some ⟨[(.array .char)], none⟩ := by decide +kernel
theorem pd_2 : parseMethodDescriptor "(I)I" = some ⟨[.int], some .int⟩ := by decide +kernel
theorem pd_3 : parseMethodDescriptor "([BI)C" = some ⟨[(.array .byte), .int], some .char⟩ := by decide +kernel
theorem pd_4 : parseMethodDescriptor "(I)Z" = some ⟨[.int], some .boolean⟩ := by decide +kernel
theorem pd_5 : parseMethodDescriptor "()Z" = some ⟨[], some .boolean⟩ := by decide +kernel
theorem pd_6 : parseMethodDescriptor "([B)I" = some ⟨[(.array .byte)], some .int⟩ := by decide +kernel
theorem pd_7 : parseMethodDescriptor "()I" = some ⟨[], some .int⟩ := by decide +kernel
theorem pd_8 : parseMethodDescriptor "(Ljava/lang/Object;)Z" = some ⟨[(.object "java/lang/Object")], some .boolean⟩ := by decide +kernel
theorem pd_9 : parseMethodDescriptor "(CCI)Ljava/lang/String;" = some ⟨[.char, .char, .int], some (.object "java/lang/String")⟩ := by decide +kernel
theorem pd_10 : parseMethodDescriptor "(Ljava/lang/String;Ljava/lang/String;)V" = some ⟨[(.object "java/lang/String"), (.object "java/lang/String")], none⟩ := by decide +kernel
theorem pd_11 : parseMethodDescriptor "(CCICCI)Z" = some ⟨[.char, .char, .int, .char, .char, .int], some .boolean⟩ := by decide +kernel
theorem pd_12 : parseMethodDescriptor "(CCI)Z" = some ⟨[.char, .char, .int], some .boolean⟩ := by decide +kernel
def wsP (x : Int32) : Prop := (¬ x < 9 ∧ ¬ 13 < x) ∨ (¬ x < 28 ∧ ¬ 32 < x)
instance (x : Int32) : Decidable (wsP x) := by unfold wsP; infer_instance
def blP (x0 x1 n : Int32) : Prop := (n = 1 ∧ wsP x0) ∨ (¬ n = 1 ∧ wsP x0 ∧ wsP x1)
instance (x0 x1 n : Int32) : Decidable (blP x0 x1 n) := by unfold blP; infer_instance
def strL (x0 x1 n : Int32) : List Int32 := if n = 1 then [x0] else [x0, x1]
theorem strL1 {x0 x1 n : Int32} (h : n = 1) : strL x0 x1 n = [x0] := if_pos h
theorem strL2 {x0 x1 n : Int32} (h : ¬ n = 1) : strL x0 x1 n = [x0, x1] := if_neg h
theorem strL_lat {x0 x1 n : Int32} (h0 : Own.Lat x0) (hz1 : Own.Lat x1) : ∀ c ∈ strL x0 x1 n, Own.Lat c := by
  by_cases h : n = 1
  · rw [strL1 h]; exact Own.mem1 h0
  · rw [strL2 h]; exact Own.mem2 h0 hz1
theorem strL_len {x0 x1 n : Int32} : (strL x0 x1 n).length ≤ 4000 := by
  by_cases h : n = 1
  · rw [strL1 h]; show 1 ≤ 4000; omega
  · rw [strL2 h]; show 2 ≤ 4000; omega
/-- a text of one or two signs that isn't blank -/
def NB (cs : List Int32) : Prop := (∃ x, cs = [x] ∧ ¬ wsP x) ∨ (∃ x y, cs = [x, y] ∧ ¬ (wsP x ∧ wsP y))
theorem nb_of {x0 x1 n : Int32} (h : ¬ blP x0 x1 n) : NB (strL x0 x1 n) := by
  by_cases q : n = 1
  · rw [strL1 q]; exact Or.inl ⟨x0, rfl, fun z => h (Or.inl ⟨q, z⟩)⟩
  · rw [strL2 q]; exact Or.inr ⟨x0, x1, rfl, fun z => h (Or.inr ⟨q, z.1, z.2⟩)⟩
def TABL : List Int32 := [1207963663, 1207963663, 1207963663, 1207963663, 1207963663, 1207963663, 1207963663, 1207963663, 1207963663, 1476411407, 1342193679, 1476411407, 1610629135, 1342193679, 1207963663, 1207963663, 1207963663, 1207963663, 1207963663, 1207963663, 1207963663, 1207963663, 1207963663, 1207963663, 1207963663, 1207963663, 1207963663, 1207963663, 1342193679, 1342193679, 1342193679, 1476411407, 1610629132, 1744830488, 1744830488, 671088664, 671113242, 671088664, 1744830488, 1744830488, -402653163, -402653162, 1744830488, 536870937, 939524120, 536870932, 939524120, 939524120, 402667017, 402667017, 402667017, 402667017, 402667017, 402667017, 402667017, 402667017, 402667017, 402667017, 939524120, 1744830488, -402653159, 1744830489, -402653159, 1744830488, 1744830488, 8552417, 8552417, 8552417, 8552417, 8552417, 8552417, 8552417, 8552417, 8552417, 8552417, 8552417, 8552417, 8552417, 8552417, 8552417, 8552417, 8552417, 8552417, 8552417, 8552417, 8552417, 8552417, 8552417, 8552417, 8552417, 8552417, -402653163, 1744830488, -402653162, 1744830491, 1744850967, 1744830491, 8486882, 8486882, 8486882, 8486882, 8486882, 8486882, 8486882, 8486882, 8486882, 8486882, 8486882, 8486882, 8486882, 8486882, 8486882, 8486882, 8486882, 8486882, 8486882, 8486882, 8486882, 8486882, 8486882, 8486882, 8486882, 8486882, -402653163, 1744830489, -402653162, 1744830489, 1207963663, 1207963663, 1207963663, 1207963663, 1207963663, 1207963663, 1342181391, 1207963663, 1207963663, 1207963663, 1207963663, 1207963663, 1207963663, 1207963663, 1207963663, 1207963663, 1207963663, 1207963663, 1207963663, 1207963663, 1207963663, 1207963663, 1207963663, 1207963663, 1207963663, 1207963663, 1207963663, 1207963663, 1207963663, 1207963663, 1207963663, 1207963663, 1207963663, 939524108, 1744830488, 671113242, 671113242, 671113242, 671113242, 1744830492, 1744830488, 1744830491, 1744830492, 28677, -402653155, 1744830489, 1207963664, 1744830492, 1744830491, 671088668, 671088665, 402654731, 402654731, 1744830491, 134049794, 1744830488, 1744830488, 1744830491, 402654475, 28677, -402653154, 1744832523, 1744832523, 1744832523, 1744830488, 8548353, 8548353, 8548353, 8548353, 8548353, 8548353, 8548353, 8548353, 8548353, 8548353, 8548353, 8548353, 8548353, 8548353, 8548353, 8548353, 8548353, 8548353, 8548353, 8548353, 8548353, 8548353, 8548353, 1744830489, 8548353, 8548353, 8548353, 8548353, 8548353, 8548353, 8548353, 134049794, 8482818, 8482818, 8482818, 8482818, 8482818, 8482818, 8482818, 8482818, 8482818, 8482818, 8482818, 8482818, 8482818, 8482818, 8482818, 8482818, 8482818, 8482818, 8482818, 8482818, 8482818, 8482818, 8482818, 1744830489, 8482818, 8482818, 8482818, 8482818, 8482818, 8482818, 8482818, 102592514]
def tabv (x : Int32) : Int32 := TABL.getD x.toNatClampNeg 0
theorem tab_get {x : Int32} (h : Own.Lat x) : (TABL.map Value.int).getD x.toNatClampNeg (.int 0) = .int (tabv x) := by
  simp only [tabv, List.getD_eq_getElem?_getD, List.getElem?_map]
  cases TABL[x.toNatClampNeg]? <;> rfl
theorem tab_ws {x : Int32} (h : Own.Lat x) : (tabv x &&& 28672 = 16384) ↔ wsP x := Own.lat_case (P := fun x => (tabv x &&& 28672 = 16384) ↔ wsP x) (by decide +kernel) h
theorem lat_in {x : Int32} (h : Own.Lat x) : ¬ x < 0 ∧ x < 256 := Own.lat_case (P := fun x => ¬ x < 0 ∧ x < 256) (by decide +kernel) h
theorem sL_ne1 {x0 x1 y0 y1 l k : Int32} (hl : l = 1 ∨ l = 2) (hk : k = 1 ∨ k = 2) (h : ¬ l = k) : ¬ strL x0 x1 l = strL y0 y1 k := by
  rcases hl with rfl | rfl <;> rcases hk with rfl | rfl
  · exact absurd rfl h
  · intro q; simp [strL] at q
  · intro q; simp [strL] at q
  · exact absurd rfl h
theorem sL_ne2 {x0 x1 y0 y1 l k : Int32} (h : ¬ x0 = y0) : ¬ strL x0 x1 l = strL y0 y1 k := by
  unfold strL; split <;> split <;> simp [h]
theorem sL_ne3 {x0 x1 y0 y1 l : Int32} (hl : ¬ l = 1) (h : ¬ x1 = y1) : ¬ strL x0 x1 l = strL y0 y1 l := by
  rw [strL2 hl, strL2 hl]; simp [h]
theorem ef_ws (m : MethodId) (x0 : Int32) : entryFrame m #[.int x0] 1 = mkF m 0 #[.val (.int x0)] [] := by first | (simp [entryFrame, mkF, argsToLocals, Value.category]; done) | rfl
def Q_ws (Z : State) (x1 : Int32) (h0 : Heap) (n0 : Nat) (v : Option Value) (h : Heap) (L : List Loc) : Prop := v = some (.int (if wsP x1 then 1 else 0)) ∧ Fr n0 L ∧ h = h0
set_option maxRecDepth 65536 in
set_option maxHeartbeats 40000000 in
theorem rm_ws (l : Launch) (Z : State) (a0 : Array Value) (hw : ∀ d ∈ tables_1, d.before a0 Z = true) (ws : List Jvm.Cond) (x1 : Int32) (h0 : Heap) (n0 : Nat) (O : Old Z n0 h0)  :
    MetFree l (⟨"com/example/astute_search/astutesearch/engine/TopicEqualsPinLaw", "ws", "(C)Z"⟩ : MethodName) (head1 (Jvm.Cond.code (⟨"com/example/astute_search/astutesearch/engine/TopicEqualsPinLaw", "ws", "(C)Z"⟩ : MethodName) method_2_code 1 (some .boolean) :: ws) ({ frames := 0, cells := 0, slots := 0, locals := 0 } : Room)) (fun aa U => aa = #[.int x1] ∧ Z.Warmed39 U.vm ∧ U.heap = h0) (fun _ _ _ _ _ => True) (fun _ U o U' => Own.End U (Q_ws Z x1 h0 n0) 0 0 o U') := by
  refine MetFree.of_bodySF (plainFor_of_name pn_0) hisR ?_
  intro p e s m args below meth c s₁ Bd hml0 hP hK
  obtain ⟨rfl, hZ, hh⟩ := hP
  have hx := Bd.exec
  have hby := Bd.bytes
  have hml : c.maxLocals = 1 := hml0
  have hown : s.vm.findClass "com/example/astute_search/astutesearch/engine/TopicEqualsPinLaw" = some m.cls := findClass_of_methodNamed Bd.named
  have hnm := (name_of_methodNamed Bd.named Bd.method).1
  have hret := Bd.returns
  have hlocks : meth.locks = false := Bd.notSynchronized
  have X0 : Stand p l e ({ frames := 0, cells := 0, slots := 0, locals := 0 } : Room) s m #[.int x1] below meth c s₁ [] 0 0 := Stand.of_body Bd
  have e0 : s₁.heap = h0 := by rw [← hh, Bd.state]; rfl
  have N0 := Fr.nil n0
  show Own.Go p e below (Own.End s (Q_ws Z x1 h0 n0) 0 0) (s₁.setTop (entryFrame m #[.int x1] 1))
  refine Own.Go.eq (ef_ws m x1) ?_
  refine Own.g_iloadN X0 hx (hb hby d2_0) rfl 1 rfl ?_
  refine Own.g_bipush X0 hx (9 : Int32) (hb hby d2_1) rfl 3 rfl ?_
  refine Own.g_icmp_lt X0 hx (hb hby d2_3) 12 6 (by decide) rfl ?_ ?_
  · intro hz1
    refine Own.g_iloadN X0 hx (hb hby d2_12) rfl 13 rfl ?_
    refine Own.g_bipush X0 hx (28 : Int32) (hb hby d2_13) rfl 15 rfl ?_
    refine Own.g_icmp_lt X0 hx (hb hby d2_15) 28 18 (by decide) rfl ?_ ?_
    · intro hz3
      refine Own.g_iconst X0 hx (0 : Int32) (hb hby d2_28) rfl 29 rfl ?_
      refine Own.g_ret X0 hx hret hlocks rfl (Or.inl ⟨rfl, by simp, _, rfl⟩) (hb hby d2_29) (by decide) (by decide) e0 ?_
      exact ⟨by rw [if_neg ((fun q => q.elim (fun z => z.1 hz1) (fun z => z.1 hz3) : ¬ wsP x1))], N0, rfl⟩
    · intro hz3
      refine Own.g_iloadN X0 hx (hb hby d2_18) rfl 19 rfl ?_
      refine Own.g_bipush X0 hx (32 : Int32) (hb hby d2_19) rfl 21 rfl ?_
      refine Own.g_icmp_gt X0 hx (hb hby d2_21) 28 24 (by decide) rfl ?_ ?_
      · intro hz4
        refine Own.g_iconst X0 hx (0 : Int32) (hb hby d2_28) rfl 29 rfl ?_
        refine Own.g_ret X0 hx hret hlocks rfl (Or.inl ⟨rfl, by simp, _, rfl⟩) (hb hby d2_29) (by decide) (by decide) e0 ?_
        exact ⟨by rw [if_neg ((fun q => q.elim (fun z => z.1 hz1) (fun z => z.2 hz4) : ¬ wsP x1))], N0, rfl⟩
      · intro hz4
        refine Own.g_iconst X0 hx (1 : Int32) (hb hby d2_24) rfl 25 rfl ?_
        refine Own.g_goto X0 hx (hb hby d2_25) 29 (by decide) ?_
        refine Own.g_ret X0 hx hret hlocks rfl (Or.inl ⟨rfl, by simp, _, rfl⟩) (hb hby d2_29) (by decide) (by decide) e0 ?_
        exact ⟨by rw [if_pos (show wsP x1 from Or.inr ⟨hz3, hz4⟩)], N0, rfl⟩
  · intro hz1
    refine Own.g_iloadN X0 hx (hb hby d2_6) rfl 7 rfl ?_
    refine Own.g_bipush X0 hx (13 : Int32) (hb hby d2_7) rfl 9 rfl ?_
    refine Own.g_icmp_le X0 hx (hb hby d2_9) 24 12 (by decide) rfl ?_ ?_
    · intro hz2
      refine Own.g_iconst X0 hx (1 : Int32) (hb hby d2_24) rfl 25 rfl ?_
      refine Own.g_goto X0 hx (hb hby d2_25) 29 (by decide) ?_
      refine Own.g_ret X0 hx hret hlocks rfl (Or.inl ⟨rfl, by simp, _, rfl⟩) (hb hby d2_29) (by decide) (by decide) e0 ?_
      exact ⟨by rw [if_pos (show wsP x1 from Or.inl ⟨hz1, hz2⟩)], N0, rfl⟩
    · intro hz2
      refine Own.g_iloadN X0 hx (hb hby d2_12) rfl 13 rfl ?_
      refine Own.g_bipush X0 hx (28 : Int32) (hb hby d2_13) rfl 15 rfl ?_
      refine Own.g_icmp_lt X0 hx (hb hby d2_15) 28 18 (by decide) rfl ?_ ?_
      · intro hz3
        refine Own.g_iconst X0 hx (0 : Int32) (hb hby d2_28) rfl 29 rfl ?_
        refine Own.g_ret X0 hx hret hlocks rfl (Or.inl ⟨rfl, by simp, _, rfl⟩) (hb hby d2_29) (by decide) (by decide) e0 ?_
        exact ⟨by rw [if_neg ((fun q => q.elim (fun z => z.2 hz2) (fun z => z.1 hz3) : ¬ wsP x1))], N0, rfl⟩
      · intro hz3
        refine Own.g_iloadN X0 hx (hb hby d2_18) rfl 19 rfl ?_
        refine Own.g_bipush X0 hx (32 : Int32) (hb hby d2_19) rfl 21 rfl ?_
        refine Own.g_icmp_gt X0 hx (hb hby d2_21) 28 24 (by decide) rfl ?_ ?_
        · intro hz4
          refine Own.g_iconst X0 hx (0 : Int32) (hb hby d2_28) rfl 29 rfl ?_
          refine Own.g_ret X0 hx hret hlocks rfl (Or.inl ⟨rfl, by simp, _, rfl⟩) (hb hby d2_29) (by decide) (by decide) e0 ?_
          exact ⟨by rw [if_neg ((fun q => q.elim (fun z => z.2 hz2) (fun z => z.2 hz4) : ¬ wsP x1))], N0, rfl⟩
        · intro hz4
          refine Own.g_iconst X0 hx (1 : Int32) (hb hby d2_24) rfl 25 rfl ?_
          refine Own.g_goto X0 hx (hb hby d2_25) 29 (by decide) ?_
          refine Own.g_ret X0 hx hret hlocks rfl (Or.inl ⟨rfl, by simp, _, rfl⟩) (hb hby d2_29) (by decide) (by decide) e0 ?_
          exact ⟨by rw [if_pos (show wsP x1 from Or.inr ⟨hz3, hz4⟩)], N0, rfl⟩
theorem ef_bl (m : MethodId) (x0 : Int32) (x1 : Int32) (x2 : Int32) : entryFrame m #[.int x0, .int x1, .int x2] 3 = mkF m 0 #[.val (.int x0), .val (.int x1), .val (.int x2)] [] := by first | (simp [entryFrame, mkF, argsToLocals, Value.category]; done) | rfl
def Q_bl (Z : State) (x1 : Int32) (x2 : Int32) (x3 : Int32) (h0 : Heap) (n0 : Nat) (v : Option Value) (h : Heap) (L : List Loc) : Prop := v = some (.int (if blP x1 x2 x3 then 1 else 0)) ∧ Fr n0 L ∧ h = h0
set_option maxRecDepth 65536 in
set_option maxHeartbeats 40000000 in
theorem rm_bl (l : Launch) (Z : State) (a0 : Array Value) (hw : ∀ d ∈ tables_1, d.before a0 Z = true) (ws : List Jvm.Cond) (x1 : Int32) (x2 : Int32) (x3 : Int32) (h0 : Heap) (n0 : Nat) (O : Old Z n0 h0)  :
    MetFree l (⟨"com/example/astute_search/astutesearch/engine/TopicEqualsPinLaw", "blank", "(CCI)Z"⟩ : MethodName) (head1 (Jvm.Cond.code (⟨"com/example/astute_search/astutesearch/engine/TopicEqualsPinLaw", "blank", "(CCI)Z"⟩ : MethodName) method_3_code 3 (some .boolean) :: ws) ({ frames := 1, cells := 0, slots := 0, locals := 12 } : Room)) (fun aa U => aa = #[.int x1, .int x2, .int x3] ∧ Z.Warmed39 U.vm ∧ U.heap = h0) (fun _ _ _ _ _ => True) (fun _ U o U' => Own.End U (Q_bl Z x1 x2 x3 h0 n0) 0 0 o U') := by
  refine MetFree.of_bodySF (plainFor_of_name pn_0) hisR ?_
  intro p e s m args below meth c s₁ Bd hml0 hP hK
  obtain ⟨rfl, hZ, hh⟩ := hP
  have hx := Bd.exec
  have hby := Bd.bytes
  have hml : c.maxLocals = 3 := hml0
  have hown : s.vm.findClass "com/example/astute_search/astutesearch/engine/TopicEqualsPinLaw" = some m.cls := findClass_of_methodNamed Bd.named
  have hnm := (name_of_methodNamed Bd.named Bd.method).1
  have hret := Bd.returns
  have hlocks : meth.locks = false := Bd.notSynchronized
  have X0 : Stand p l e ({ frames := 1, cells := 0, slots := 0, locals := 12 } : Room) s m #[.int x1, .int x2, .int x3] below meth c s₁ [] 0 0 := Stand.of_body Bd
  have e0 : s₁.heap = h0 := by rw [← hh, Bd.state]; rfl
  have N0 := Fr.nil n0
  show Own.Go p e below (Own.End s (Q_bl Z x1 x2 x3 h0 n0) 0 0) (s₁.setTop (entryFrame m #[.int x1, .int x2, .int x3] 3))
  refine Own.Go.eq (ef_bl m x1 x2 x3) ?_
  refine Own.g_iloadN X0 hx (hb hby d1_0) rfl 1 rfl ?_
  refine Own.g_iconst X0 hx (1 : Int32) (hb hby d1_1) rfl 2 rfl ?_
  refine Own.g_icmp_ne X0 hx (hb hby d1_2) 10 5 (by decide) rfl ?_ ?_
  · intro hn
    refine Own.g_iloadN X0 hx (hb hby d1_10) rfl 11 rfl ?_
    refine Own.g_callS X0 hx (y := (⟨"com/example/astute_search/astutesearch/engine/TopicEqualsPinLaw", "ws", "(C)Z"⟩ : MethodName)) hown (mvT hZ (hw _ (List.mem_of_getElem? (i := 4) rfl))) (mvT hZ (hw _ (List.mem_of_getElem? (i := 5) rfl))) (mvT hZ (hw _ (List.mem_of_getElem? (i := 2) rfl))) (mvT hZ (hw _ (List.mem_of_getElem? (i := 6) rfl))) (by decide) [.int x1] (Own.back (W := 0) (rm_ws l Z a0 hw [] x1 h0 n0 O ) hZ (hw _ (List.mem_of_getElem? (i := 6) rfl)) (hw _ (List.mem_of_getElem? (i := 2) rfl)) (by decide) (by decide)) e0 (by rw [hml]; rfl) [] (lenOf pd_0 rfl) rfl (Nat.le_of_ble_eq_true rfl) (hb hby d1_11) (by decide) (by decide) 14 rfl ?_
    rintro _ T2 L2 X2 ⟨rfl, N2q, eH2⟩
    have N2 := Fr.app N0 N2q
    show Own.Go p e below _ (T2.setTop (mkF m 14 #[.val (.int x1), .val (.int x2), .val (.int x3)] [(.int (if wsP x1 then 1 else 0))]))
    refine Own.g_if_eq X2 hx (hb hby d1_14) 28 17 (by decide) rfl ?_ ?_
    · intro hz1
      refine Own.g_iconst X2 hx (0 : Int32) (hb hby d1_28) rfl 29 rfl ?_
      refine Own.g_ret X2 hx hret hlocks rfl (Or.inl ⟨rfl, by simp, _, rfl⟩) (hb hby d1_29) (by decide) (by decide) eH2 ?_
      exact ⟨by rw [if_neg (fun z => z.elim (fun y => hn y.1) (fun y => Own.if1_eq hz1 y.2.1) : ¬ blP x1 x2 x3)], N2, rfl⟩
    · intro hz1
      refine Own.g_iloadN X2 hx (hb hby d1_17) rfl 18 rfl ?_
      refine Own.g_callS X2 hx (y := (⟨"com/example/astute_search/astutesearch/engine/TopicEqualsPinLaw", "ws", "(C)Z"⟩ : MethodName)) hown (mvT hZ (hw _ (List.mem_of_getElem? (i := 4) rfl))) (mvT hZ (hw _ (List.mem_of_getElem? (i := 5) rfl))) (mvT hZ (hw _ (List.mem_of_getElem? (i := 2) rfl))) (mvT hZ (hw _ (List.mem_of_getElem? (i := 6) rfl))) (by decide) [.int x2] (Own.back (W := 0) (rm_ws l Z a0 hw [] x2 h0 n0 O ) hZ (hw _ (List.mem_of_getElem? (i := 6) rfl)) (hw _ (List.mem_of_getElem? (i := 2) rfl)) (by decide) (by decide)) eH2 (by rw [hml]; rfl) [] (lenOf pd_0 rfl) rfl (Nat.le_of_ble_eq_true rfl) (hb hby d1_18) (by decide) (by decide) 21 rfl ?_
      rintro _ T3 L3 X3 ⟨rfl, N3q, eH3⟩
      have N3 := Fr.app N2 N3q
      show Own.Go p e below _ (T3.setTop (mkF m 21 #[.val (.int x1), .val (.int x2), .val (.int x3)] [(.int (if wsP x2 then 1 else 0))]))
      refine Own.g_if_eq X3 hx (hb hby d1_21) 28 24 (by decide) rfl ?_ ?_
      · intro hz2
        refine Own.g_iconst X3 hx (0 : Int32) (hb hby d1_28) rfl 29 rfl ?_
        refine Own.g_ret X3 hx hret hlocks rfl (Or.inl ⟨rfl, by simp, _, rfl⟩) (hb hby d1_29) (by decide) (by decide) eH3 ?_
        exact ⟨by rw [if_neg (fun z => z.elim (fun y => hn y.1) (fun y => Own.if1_eq hz2 y.2.2) : ¬ blP x1 x2 x3)], N3, rfl⟩
      · intro hz2
        refine Own.g_iconst X3 hx (1 : Int32) (hb hby d1_24) rfl 25 rfl ?_
        refine Own.g_goto X3 hx (hb hby d1_25) 29 (by decide) ?_
        refine Own.g_ret X3 hx hret hlocks rfl (Or.inl ⟨rfl, by simp, _, rfl⟩) (hb hby d1_29) (by decide) (by decide) eH3 ?_
        exact ⟨by rw [if_pos (show blP x1 x2 x3 from Or.inr ⟨hn, Own.if1_ne hz1, Own.if1_ne hz2⟩)], N3, rfl⟩
  · intro hn
    refine Own.g_iloadN X0 hx (hb hby d1_5) rfl 6 rfl ?_
    refine Own.g_callS X0 hx (y := (⟨"com/example/astute_search/astutesearch/engine/TopicEqualsPinLaw", "ws", "(C)Z"⟩ : MethodName)) hown (mvT hZ (hw _ (List.mem_of_getElem? (i := 4) rfl))) (mvT hZ (hw _ (List.mem_of_getElem? (i := 5) rfl))) (mvT hZ (hw _ (List.mem_of_getElem? (i := 2) rfl))) (mvT hZ (hw _ (List.mem_of_getElem? (i := 6) rfl))) (by decide) [.int x1] (Own.back (W := 0) (rm_ws l Z a0 hw [] x1 h0 n0 O ) hZ (hw _ (List.mem_of_getElem? (i := 6) rfl)) (hw _ (List.mem_of_getElem? (i := 2) rfl)) (by decide) (by decide)) e0 (by rw [hml]; rfl) [] (lenOf pd_0 rfl) rfl (Nat.le_of_ble_eq_true rfl) (hb hby d1_6) (by decide) (by decide) 9 rfl ?_
    rintro _ T1 L1 X1 ⟨rfl, N1q, eH1⟩
    have N1 := Fr.app N0 N1q
    show Own.Go p e below _ (T1.setTop (mkF m 9 #[.val (.int x1), .val (.int x2), .val (.int x3)] [(.int (if wsP x1 then 1 else 0))]))
    refine Own.g_ret X1 hx hret hlocks (Own.narrow_if _) (Or.inl ⟨rfl, by simp, _, rfl⟩) (hb hby d1_9) (by decide) (by decide) eH1 ?_
    refine ⟨?_, N1, rfl⟩
    by_cases q : wsP x1
    · rw [if_pos q, if_pos (show blP x1 x2 x3 from Or.inl ⟨hn, q⟩)]
    · rw [if_neg q, if_neg (fun z => z.elim (fun y => q y.2) (fun y => y.1 hn) : ¬ blP x1 x2 x3)]
theorem ef_str (m : MethodId) (x0 : Int32) (x1 : Int32) (x2 : Int32) : entryFrame m #[.int x0, .int x1, .int x2] 3 = mkF m 0 #[.val (.int x0), .val (.int x1), .val (.int x2)] [] := by first | (simp [entryFrame, mkF, argsToLocals, Value.category]; done) | rfl
def Q_str (Z : State) (x1 : Int32) (x2 : Int32) (x3 : Int32) (G1 : Int32) (h0 : Heap) (n0 : Nat) (v : Option Value) (h : Heap) (L : List Loc) : Prop := ∃ (b : Addr) (t : Addr) (k : ClassId), v = some (.ref b) ∧ Fr n0 L ∧ Keep h0 h [] ∧ h0.size ≤ b ∧ h0.size ≤ t ∧ Exa Z h b "java/lang/String" ∧ Fld Z h b "java/lang/String" "value" "[B" (.ref t) ∧ Fld Z h b "java/lang/String" "coder" "B" (.int 0) ∧ Arv Z h t k .byte (Int32.ofNat (strL x1 x2 x3).length) (((strL x1 x2 x3).map fun c => c.toInt8.toInt32).map Value.int) (.int 0)
set_option maxRecDepth 65536 in
set_option maxHeartbeats 40000000 in
theorem rm_str (l : Launch) (Z : State) (a0 : Array Value) (hw : ∀ d ∈ tables_1, d.before a0 Z = true) (ws : List Jvm.Cond) (x1 : Int32) (x2 : Int32) (x3 : Int32) (G1 : Int32) (h0 : Heap) (n0 : Nat) (O : Old Z n0 h0) (hx1 : Own.Lat x1) (hx2 : Own.Lat x2) (O2 : Sta Z Z.heap "java/lang/String" "COMPACT_STRINGS" "Z" (.int G1)) (P5 : ¬ (G1 = (0 : Int32))) :
    MetFree l (⟨"com/example/astute_search/astutesearch/engine/TopicEqualsPinLaw", "str", "(CCI)Ljava/lang/String;"⟩ : MethodName) (head1 (Jvm.Cond.code (⟨"com/example/astute_search/astutesearch/engine/TopicEqualsPinLaw", "str", "(CCI)Ljava/lang/String;"⟩ : MethodName) method_4_code 3 (some (.object "java/lang/String")) :: ws) ({ frames := 4, cells := 3, slots := 8, locals := 66 } : Room)) (fun aa U => aa = #[.int x1, .int x2, .int x3] ∧ Z.Warmed39 U.vm ∧ U.heap = h0) (fun _ _ _ _ _ => True) (fun _ U o U' => Own.End U (Q_str Z x1 x2 x3 G1 h0 n0) 3 8 o U') := by
  refine MetFree.of_bodySF (plainFor_of_name pn_0) hisR ?_
  intro p e s m args below meth c s₁ Bd hml0 hP hK
  obtain ⟨rfl, hZ, hh⟩ := hP
  have hx := Bd.exec
  have hby := Bd.bytes
  have hml : c.maxLocals = 3 := hml0
  have hown : s.vm.findClass "com/example/astute_search/astutesearch/engine/TopicEqualsPinLaw" = some m.cls := findClass_of_methodNamed Bd.named
  have hnm := (name_of_methodNamed Bd.named Bd.method).1
  have hret := Bd.returns
  have hlocks : meth.locks = false := Bd.notSynchronized
  have X0 : Stand p l e ({ frames := 4, cells := 3, slots := 8, locals := 66 } : Room) s m #[.int x1, .int x2, .int x3] below meth c s₁ [] 0 0 := Stand.of_body Bd
  have e0 : s₁.heap = h0 := by rw [← hh, Bd.state]; rfl
  have N0 := Fr.nil n0
  show Own.Go p e below (Own.End s (Q_str Z x1 x2 x3 G1 h0 n0) 3 8) (s₁.setTop (entryFrame m #[.int x1, .int x2, .int x3] 3))
  refine Own.Go.eq (ef_str m x1 x2 x3) ?_
  have hws : ∀ d ∈ StrChars.Road.words, d.before a0 Z = true := fun d hd => hw d ((by decide +kernel : ∀ d ∈ StrChars.Road.words, d ∈ tables_1) d hd)
  have KP : Keep h0 h0 [] := Keep.refl _ _
  refine Own.g_iloadN X0 hx (hb hby d3_0) rfl 1 rfl ?_
  refine Own.g_iconst X0 hx (1 : Int32) (hb hby d3_1) rfl 2 rfl ?_
  refine Own.g_icmp_ne X0 hx (hb hby d3_2) 20 5 (by decide) rfl ?_ ?_
  · intro hn
    refine Own.g_new X0 hx hZ hown (hw _ (List.mem_of_getElem? (i := 10) rfl)) (hw _ (List.mem_of_getElem? (i := 11) rfl)) (hw _ (List.mem_of_getElem? (i := 12) rfl)) e0 (hb hby d3_20) (by decide) (by decide) 23 rfl ?_
    intro T5 h5 b X5 e5 E5 g5 E_b D5
    have n0_b : n0 ≤ b := Nat.le_trans (Nat.le_of_eq O.1.symm) (Nat.le_trans O.2.1 (Nat.le_of_eq g5.symm))
    have sz0_b : h0.size ≤ b := Nat.le_trans KP.1 (Nat.le_of_eq g5.symm)
    replace O := O.ext E5
    replace KP := KP.ext E5
    have F_b_coder : Fld Z h5 b "java/lang/String" "coder" "B" (.int (0 : Int32)) := D5 (Or.inr (hw _ (List.mem_of_getElem? (i := 37) rfl))) (ty := .byte) (by decide)
    have F_b_value : Fld Z h5 b "java/lang/String" "value" "[B" .null := D5 (Or.inr (hw _ (List.mem_of_getElem? (i := 39) rfl))) (ty := (.array .byte)) (by decide)
    refine Own.g_dup X5 hx (hb hby d3_23) rfl 24 rfl ?_
    refine Own.g_iconst X5 hx (2 : Int32) (hb hby d3_24) rfl 25 rfl ?_
    refine Own.g_newP X5 hx hZ (hw _ (List.mem_of_getElem? (i := 13) rfl)) e5 (hb hby d3_25) (by decide) 2 (by decide) (by decide) (by decide) (by decide) 27 rfl .char rfl [(.int (0 : Int32)), (.int (0 : Int32))] (by intro i; first | rfl | (rcases i with _ | _ | _ | _ | _ | _ | _ | _ | _ | _ | _ | _ | _ | _ | _ | _ | _ | _ | _ | _ | _ | _ | _ | _ | i <;> rfl)) ?_
    intro T6 h6 d k_d X6 e6 E6 g6 V_d
    have ne_b_d : b ≠ d := Nat.ne_of_lt (Nat.lt_of_lt_of_le (E_b.lt) (Nat.le_of_eq g6.symm))
    have n0_d : n0 ≤ d := Nat.le_trans (Nat.le_of_eq O.1.symm) (Nat.le_trans O.2.1 (Nat.le_of_eq g6.symm))
    have sz0_d : h0.size ≤ d := Nat.le_trans KP.1 (Nat.le_of_eq g6.symm)
    replace E_b := E_b.ext E6
    replace F_b_coder := F_b_coder.ext E6
    replace F_b_value := F_b_value.ext E6
    replace O := O.ext E6
    replace KP := KP.ext E6
    change Arv Z h6 d k_d .char (2 : Int32) [(.int (0 : Int32)), (.int (0 : Int32))] (.int (0 : Int32)) at V_d
    refine Own.g_dup X6 hx (hb hby d3_27) rfl 28 rfl ?_
    refine Own.g_iconst X6 hx (0 : Int32) (hb hby d3_28) rfl 29 rfl ?_
    refine Own.g_iloadN X6 hx (hb hby d3_29) rfl 30 rfl ?_
    refine Own.g_stC X6 hx hZ e6 V_d x1 (Own.nar_lat hx1) (by decide) 0 rfl (Nat.le_of_ble_eq_true rfl) [(.int x1), (.int (0 : Int32))] rfl (hb hby d3_30) 31 rfl ?_
    clear V_d; intro T7 h7 X7 e7 W7 V_d
    replace E_b := E_b.wr W7
    replace F_b_coder := F_b_coder.other W7 (Or.inl ne_b_d)
    replace F_b_value := F_b_value.other W7 (Or.inl ne_b_d)
    replace O := O.wr W7 n0_d
    replace KP := KP.wr W7 (Or.inr sz0_d)
    have N7 := Fr.snoc X7 N0 n0_d
    refine Own.g_dup X7 hx (hb hby d3_31) rfl 32 rfl ?_
    refine Own.g_iconst X7 hx (1 : Int32) (hb hby d3_32) rfl 33 rfl ?_
    refine Own.g_iloadN X7 hx (hb hby d3_33) rfl 34 rfl ?_
    refine Own.g_stC X7 hx hZ e7 V_d x2 (Own.nar_lat hx2) (by decide) 1 rfl (Nat.le_of_ble_eq_true rfl) [(.int x1), (.int x2)] rfl (hb hby d3_34) 35 rfl ?_
    clear V_d; intro T8 h8 X8 e8 W8 V_d
    replace E_b := E_b.wr W8
    replace F_b_coder := F_b_coder.other W8 (Or.inl ne_b_d)
    replace F_b_value := F_b_value.other W8 (Or.inl ne_b_d)
    replace O := O.wr W8 n0_d
    replace KP := KP.wr W8 (Or.inr sz0_d)
    have N8 := Fr.snoc X8 N7 n0_d
    refine Own.g_special X8 hx (y := (⟨"java/lang/String", "<init>", "([C)V"⟩ : MethodName)) rfl hown (mvT hZ (hw _ (List.mem_of_getElem? (i := 14) rfl))) (mvT hZ (hw _ (List.mem_of_getElem? (i := 15) rfl))) (mvT hZ (hw _ (List.mem_of_getElem? (i := 16) rfl))) (by decide) (a := b) [.ref d] (StrChars.Road.backV (W := 1) hZ hws (kI := 4) (hw _ (List.mem_of_getElem? (i := 11) rfl)) (cs := ([x1, x2] : List Int32)) (bs := ([x1, x2] : List Int32).map (fun c => c.toInt8.toInt32)) (n := 2) n0_b (Nat.le_trans (Nat.le_of_eq O.1.symm) O.2.1) E_b F_b_value F_b_coder V_d (O2.ext O.2) P5 rfl rfl (by decide) (by decide) (Own.mem2 hx1 hx2) rfl (by decide) (by decide)) e8 (by rw [hml]; rfl) [(.ref b)] (lenOf pd_1 rfl) rfl (Nat.le_of_ble_eq_true rfl) (hb hby d3_35) (by decide) (by decide) 38 rfl ?_
    rintro _ T9 L9 X9 ⟨rfl, N9q, K9, -, Fc9, bt, k_bt, -, sz9, -, Fv9, Va9⟩
    have ne_b_bt : b ≠ bt := Nat.ne_of_lt (Nat.lt_of_lt_of_le (E_b.lt) sz9)
    have ne_d_bt : d ≠ bt := Nat.ne_of_lt (Nat.lt_of_lt_of_le (V_d.lt) sz9)
    have n0_bt : n0 ≤ bt := Nat.le_trans (Nat.le_of_eq O.1.symm) (Nat.le_trans O.2.1 sz9)
    have sz0_bt : h0.size ≤ bt := Nat.le_trans KP.1 sz9
    replace E_b := E_b.keep K9
    replace V_d := V_d.keep K9 (ninS (Ne.symm ne_b_d) nin0)
    replace O := O.keep K9 (allS n0_b all0)
    replace KP := KP.trans K9 (allS (Or.inr sz0_b) all0)
    have N9 := Fr.app N8 N9q
    have F_b_value := Fv9
    have F_b_coder := Fc9
    have V_bt := Va9
    show Own.Go p e below _ (T9.setTop (mkF m 38 #[.val (.int x1), .val (.int x2), .val (.int x3)] [(.ref b)]))
    refine Own.g_ret X9 hx hret hlocks rfl (Or.inr (Or.inr (Or.inr (Or.inr ⟨rfl, rfl, rfl⟩)))) (hb hby d3_38) (by decide) (by decide) (rfl : T9.heap = T9.heap) ?_
    refine ⟨b, bt, k_bt, rfl, N9, KP, sz0_b, sz0_bt, E_b, F_b_value, F_b_coder, ?_⟩
    rw [strL2 hn]; exact V_bt
  · intro hn
    refine Own.g_new X0 hx hZ hown (hw _ (List.mem_of_getElem? (i := 10) rfl)) (hw _ (List.mem_of_getElem? (i := 11) rfl)) (hw _ (List.mem_of_getElem? (i := 12) rfl)) e0 (hb hby d3_5) (by decide) (by decide) 8 rfl ?_
    intro T1 h1 b X1 e1 E1 g1 E_b D1
    have n0_b : n0 ≤ b := Nat.le_trans (Nat.le_of_eq O.1.symm) (Nat.le_trans O.2.1 (Nat.le_of_eq g1.symm))
    have sz0_b : h0.size ≤ b := Nat.le_trans KP.1 (Nat.le_of_eq g1.symm)
    replace O := O.ext E1
    replace KP := KP.ext E1
    have F_b_coder : Fld Z h1 b "java/lang/String" "coder" "B" (.int (0 : Int32)) := D1 (Or.inr (hw _ (List.mem_of_getElem? (i := 37) rfl))) (ty := .byte) (by decide)
    have F_b_value : Fld Z h1 b "java/lang/String" "value" "[B" .null := D1 (Or.inr (hw _ (List.mem_of_getElem? (i := 39) rfl))) (ty := (.array .byte)) (by decide)
    refine Own.g_dup X1 hx (hb hby d3_8) rfl 9 rfl ?_
    refine Own.g_iconst X1 hx (1 : Int32) (hb hby d3_9) rfl 10 rfl ?_
    refine Own.g_newP X1 hx hZ (hw _ (List.mem_of_getElem? (i := 13) rfl)) e1 (hb hby d3_10) (by decide) 1 (by decide) (by decide) (by decide) (by decide) 12 rfl .char rfl [(.int (0 : Int32))] (by intro i; first | rfl | (rcases i with _ | _ | _ | _ | _ | _ | _ | _ | _ | _ | _ | _ | _ | _ | _ | _ | _ | _ | _ | _ | _ | _ | _ | _ | i <;> rfl)) ?_
    intro T2 h2 d k_d X2 e2 E2 g2 V_d
    have ne_b_d : b ≠ d := Nat.ne_of_lt (Nat.lt_of_lt_of_le (E_b.lt) (Nat.le_of_eq g2.symm))
    have n0_d : n0 ≤ d := Nat.le_trans (Nat.le_of_eq O.1.symm) (Nat.le_trans O.2.1 (Nat.le_of_eq g2.symm))
    have sz0_d : h0.size ≤ d := Nat.le_trans KP.1 (Nat.le_of_eq g2.symm)
    replace E_b := E_b.ext E2
    replace F_b_coder := F_b_coder.ext E2
    replace F_b_value := F_b_value.ext E2
    replace O := O.ext E2
    replace KP := KP.ext E2
    change Arv Z h2 d k_d .char (1 : Int32) [(.int (0 : Int32))] (.int (0 : Int32)) at V_d
    refine Own.g_dup X2 hx (hb hby d3_12) rfl 13 rfl ?_
    refine Own.g_iconst X2 hx (0 : Int32) (hb hby d3_13) rfl 14 rfl ?_
    refine Own.g_iloadN X2 hx (hb hby d3_14) rfl 15 rfl ?_
    refine Own.g_stC X2 hx hZ e2 V_d x1 (Own.nar_lat hx1) (by decide) 0 rfl (Nat.le_of_ble_eq_true rfl) [(.int x1)] rfl (hb hby d3_15) 16 rfl ?_
    clear V_d; intro T3 h3 X3 e3 W3 V_d
    replace E_b := E_b.wr W3
    replace F_b_coder := F_b_coder.other W3 (Or.inl ne_b_d)
    replace F_b_value := F_b_value.other W3 (Or.inl ne_b_d)
    replace O := O.wr W3 n0_d
    replace KP := KP.wr W3 (Or.inr sz0_d)
    have N3 := Fr.snoc X3 N0 n0_d
    refine Own.g_special X3 hx (y := (⟨"java/lang/String", "<init>", "([C)V"⟩ : MethodName)) rfl hown (mvT hZ (hw _ (List.mem_of_getElem? (i := 14) rfl))) (mvT hZ (hw _ (List.mem_of_getElem? (i := 15) rfl))) (mvT hZ (hw _ (List.mem_of_getElem? (i := 16) rfl))) (by decide) (a := b) [.ref d] (StrChars.Road.backV (W := 1) hZ hws (kI := 4) (hw _ (List.mem_of_getElem? (i := 11) rfl)) (cs := ([x1] : List Int32)) (bs := ([x1] : List Int32).map (fun c => c.toInt8.toInt32)) (n := 1) n0_b (Nat.le_trans (Nat.le_of_eq O.1.symm) O.2.1) E_b F_b_value F_b_coder V_d (O2.ext O.2) P5 rfl rfl (by decide) (by decide) (Own.mem1 hx1) rfl (by decide) (by decide)) e3 (by rw [hml]; rfl) [(.ref b)] (lenOf pd_1 rfl) rfl (Nat.le_of_ble_eq_true rfl) (hb hby d3_16) (by decide) (by decide) 19 rfl ?_
    rintro _ T4 L4 X4 ⟨rfl, N4q, K4, -, Fc4, bt, k_bt, -, sz4, -, Fv4, Va4⟩
    have ne_b_bt : b ≠ bt := Nat.ne_of_lt (Nat.lt_of_lt_of_le (E_b.lt) sz4)
    have ne_d_bt : d ≠ bt := Nat.ne_of_lt (Nat.lt_of_lt_of_le (V_d.lt) sz4)
    have n0_bt : n0 ≤ bt := Nat.le_trans (Nat.le_of_eq O.1.symm) (Nat.le_trans O.2.1 sz4)
    have sz0_bt : h0.size ≤ bt := Nat.le_trans KP.1 sz4
    replace E_b := E_b.keep K4
    replace V_d := V_d.keep K4 (ninS (Ne.symm ne_b_d) nin0)
    replace O := O.keep K4 (allS n0_b all0)
    replace KP := KP.trans K4 (allS (Or.inr sz0_b) all0)
    have N4 := Fr.app N3 N4q
    have F_b_value := Fv4
    have F_b_coder := Fc4
    have V_bt := Va4
    show Own.Go p e below _ (T4.setTop (mkF m 19 #[.val (.int x1), .val (.int x2), .val (.int x3)] [(.ref b)]))
    refine Own.g_ret X4 hx hret hlocks rfl (Or.inr (Or.inr (Or.inr (Or.inr ⟨rfl, rfl, rfl⟩)))) (hb hby d3_19) (by decide) (by decide) (rfl : T4.heap = T4.heap) ?_
    refine ⟨b, bt, k_bt, rfl, N4, KP, sz0_b, sz0_bt, E_b, F_b_value, F_b_coder, ?_⟩
    rw [strL1 hn]; exact V_bt
theorem ef_same (m : MethodId) (x0 : Int32) (x1 : Int32) (x2 : Int32) (x3 : Int32) (x4 : Int32) (x5 : Int32) : entryFrame m #[.int x0, .int x1, .int x2, .int x3, .int x4, .int x5] 6 = mkF m 0 #[.val (.int x0), .val (.int x1), .val (.int x2), .val (.int x3), .val (.int x4), .val (.int x5)] [] := by first | (simp [entryFrame, mkF, argsToLocals, Value.category]; done) | rfl
def Q_same (Z : State) (x1 : Int32) (x2 : Int32) (x3 : Int32) (x4 : Int32) (x5 : Int32) (x6 : Int32) (h0 : Heap) (n0 : Nat) (v : Option Value) (h : Heap) (L : List Loc) : Prop := v = some (.int (if strL x1 x2 x3 = strL x4 x5 x6 then 1 else 0)) ∧ Fr n0 L ∧ h = h0
set_option maxRecDepth 65536 in
set_option maxHeartbeats 40000000 in
theorem rm_same (l : Launch) (Z : State) (a0 : Array Value) (hw : ∀ d ∈ tables_1, d.before a0 Z = true) (ws : List Jvm.Cond) (x1 : Int32) (x2 : Int32) (x3 : Int32) (x4 : Int32) (x5 : Int32) (x6 : Int32) (h0 : Heap) (n0 : Nat) (O : Old Z n0 h0) (hl : x3 = 1 ∨ x3 = 2) (hk : x6 = 1 ∨ x6 = 2) :
    MetFree l (⟨"com/example/astute_search/astutesearch/engine/TopicEqualsPinLaw", "same", "(CCICCI)Z"⟩ : MethodName) (head1 (Jvm.Cond.code (⟨"com/example/astute_search/astutesearch/engine/TopicEqualsPinLaw", "same", "(CCICCI)Z"⟩ : MethodName) method_5_code 6 (some .boolean) :: ws) ({ frames := 0, cells := 0, slots := 0, locals := 0 } : Room)) (fun aa U => aa = #[.int x1, .int x2, .int x3, .int x4, .int x5, .int x6] ∧ Z.Warmed39 U.vm ∧ U.heap = h0) (fun _ _ _ _ _ => True) (fun _ U o U' => Own.End U (Q_same Z x1 x2 x3 x4 x5 x6 h0 n0) 0 0 o U') := by
  refine MetFree.of_bodySF (plainFor_of_name pn_0) hisR ?_
  intro p e s m args below meth c s₁ Bd hml0 hP hK
  obtain ⟨rfl, hZ, hh⟩ := hP
  have hx := Bd.exec
  have hby := Bd.bytes
  have hml : c.maxLocals = 6 := hml0
  have hown : s.vm.findClass "com/example/astute_search/astutesearch/engine/TopicEqualsPinLaw" = some m.cls := findClass_of_methodNamed Bd.named
  have hnm := (name_of_methodNamed Bd.named Bd.method).1
  have hret := Bd.returns
  have hlocks : meth.locks = false := Bd.notSynchronized
  have X0 : Stand p l e ({ frames := 0, cells := 0, slots := 0, locals := 0 } : Room) s m #[.int x1, .int x2, .int x3, .int x4, .int x5, .int x6] below meth c s₁ [] 0 0 := Stand.of_body Bd
  have e0 : s₁.heap = h0 := by rw [← hh, Bd.state]; rfl
  have N0 := Fr.nil n0
  show Own.Go p e below (Own.End s (Q_same Z x1 x2 x3 x4 x5 x6 h0 n0) 0 0) (s₁.setTop (entryFrame m #[.int x1, .int x2, .int x3, .int x4, .int x5, .int x6] 6))
  refine Own.Go.eq (ef_same m x1 x2 x3 x4 x5 x6) ?_
  refine Own.g_iloadN X0 hx (hb hby d20_0) rfl 1 rfl ?_
  refine Own.g_iload X0 hx (hb hby d20_1) rfl 3 rfl ?_
  refine Own.g_icmp_eq X0 hx (hb hby d20_3) 8 6 (by decide) rfl ?_ ?_
  · intro hz1
    refine Own.g_iloadN X0 hx (hb hby d20_8) rfl 9 rfl ?_
    refine Own.g_iloadN X0 hx (hb hby d20_9) rfl 10 rfl ?_
    refine Own.g_icmp_eq X0 hx (hb hby d20_10) 15 13 (by decide) rfl ?_ ?_
    · intro hz2
      refine Own.g_iloadN X0 hx (hb hby d20_15) rfl 16 rfl ?_
      refine Own.g_iconst X0 hx (1 : Int32) (hb hby d20_16) rfl 17 rfl ?_
      refine Own.g_icmp_ne X0 hx (hb hby d20_17) 22 20 (by decide) rfl ?_ ?_
      · intro hz3
        refine Own.g_iloadN X0 hx (hb hby d20_22) rfl 23 rfl ?_
        refine Own.g_iload X0 hx (hb hby d20_23) rfl 25 rfl ?_
        refine Own.g_icmp_ne X0 hx (hb hby d20_25) 32 28 (by decide) rfl ?_ ?_
        · intro hz4
          refine Own.g_iconst X0 hx (0 : Int32) (hb hby d20_32) rfl 33 rfl ?_
          refine Own.g_ret X0 hx hret hlocks rfl (Or.inl ⟨rfl, by simp, _, rfl⟩) (hb hby d20_33) (by decide) (by decide) e0 ?_
          exact ⟨by rw [if_neg (by rw [← hz1]; exact sL_ne3 hz3 hz4)], N0, rfl⟩
        · intro hz4
          refine Own.g_iconst X0 hx (1 : Int32) (hb hby d20_28) rfl 29 rfl ?_
          refine Own.g_goto X0 hx (hb hby d20_29) 33 (by decide) ?_
          refine Own.g_ret X0 hx hret hlocks rfl (Or.inl ⟨rfl, by simp, _, rfl⟩) (hb hby d20_33) (by decide) (by decide) e0 ?_
          exact ⟨by rw [if_pos (by rw [← hz1, hz2, hz4])], N0, rfl⟩
      · intro hz3
        refine Own.g_iconst X0 hx (1 : Int32) (hb hby d20_20) rfl 21 rfl ?_
        refine Own.g_ret X0 hx hret hlocks rfl (Or.inl ⟨rfl, by simp, _, rfl⟩) (hb hby d20_21) (by decide) (by decide) e0 ?_
        exact ⟨by rw [if_pos (by rw [strL1 hz3, strL1 (hz1 ▸ hz3), hz2])], N0, rfl⟩
    · intro hz2
      refine Own.g_iconst X0 hx (0 : Int32) (hb hby d20_13) rfl 14 rfl ?_
      refine Own.g_ret X0 hx hret hlocks rfl (Or.inl ⟨rfl, by simp, _, rfl⟩) (hb hby d20_14) (by decide) (by decide) e0 ?_
      exact ⟨by rw [if_neg (sL_ne2 hz2)], N0, rfl⟩
  · intro hz1
    refine Own.g_iconst X0 hx (0 : Int32) (hb hby d20_6) rfl 7 rfl ?_
    refine Own.g_ret X0 hx hret hlocks rfl (Or.inl ⟨rfl, by simp, _, rfl⟩) (hb hby d20_7) (by decide) (by decide) e0 ?_
    exact ⟨by rw [if_neg (sL_ne1 hl hk hz1)], N0, rfl⟩
theorem ef_gc (m : MethodId) (x0 : Addr) (x1 : Int32) : entryFrame m #[.ref x0, .int x1] 2 = mkF m 0 #[.val (.ref x0), .val (.int x1)] [] := by first | (simp [entryFrame, mkF, argsToLocals, Value.category]; done) | rfl
def Q_gc (Z : State) (t : Addr) (k : ClassId) (NN : Int32) (vs : List Value) (i : Int32) (b : Int32) (x : Int32) (h0 : Heap) (n0 : Nat) (v : Option Value) (h : Heap) (L : List Loc) : Prop := v = some (.int x) ∧ Fr n0 L ∧ h = h0
set_option maxRecDepth 65536 in
set_option maxHeartbeats 40000000 in
theorem rm_gc (l : Launch) (Z : State) (a0 : Array Value) (hw : ∀ d ∈ tables_1, d.before a0 Z = true) (ws : List Jvm.Cond) (t : Addr) (k : ClassId) (NN : Int32) (vs : List Value) (i : Int32) (b : Int32) (x : Int32) (h0 : Heap) (n0 : Nat) (O : Old Z n0 h0) (V_t : Arv Z h0 t k .byte NN vs (.int 0)) (hi : ¬ i < 0 ∧ i < NN) (hbv : vs.getD i.toNatClampNeg (.int 0) = .int b) (hbx : b &&& 255 = x) (hx0 : Own.Lat x) :
    MetFree l (⟨"java/lang/StringLatin1", "getChar", "([BI)C"⟩ : MethodName) (head1 (Jvm.Cond.code (⟨"java/lang/StringLatin1", "getChar", "([BI)C"⟩ : MethodName) jdk_43_method_44_code 2 (some .char) :: ws) ({ frames := 0, cells := 0, slots := 0, locals := 0 } : Room)) (fun aa U => aa = #[.ref t, .int i] ∧ Z.Warmed39 U.vm ∧ U.heap = h0) (fun _ _ _ _ _ => True) (fun _ U o U' => Own.End U (Q_gc Z t k NN vs i b x h0 n0) 0 0 o U') := by
  refine MetFree.of_bodySF (plainFor_of_name pn_1) hisR ?_
  intro p e s m args below meth c s₁ Bd hml0 hP hK
  obtain ⟨rfl, hZ, hh⟩ := hP
  have hx := Bd.exec
  have hby := Bd.bytes
  have hml : c.maxLocals = 2 := hml0
  have hown : s.vm.findClass "java/lang/StringLatin1" = some m.cls := findClass_of_methodNamed Bd.named
  have hnm := (name_of_methodNamed Bd.named Bd.method).1
  have hret := Bd.returns
  have hlocks : meth.locks = false := Bd.notSynchronized
  have X0 : Stand p l e ({ frames := 0, cells := 0, slots := 0, locals := 0 } : Room) s m #[.ref t, .int i] below meth c s₁ [] 0 0 := Stand.of_body Bd
  have e0 : s₁.heap = h0 := by rw [← hh, Bd.state]; rfl
  have N0 := Fr.nil n0
  show Own.Go p e below (Own.End s (Q_gc Z t k NN vs i b x h0 n0) 0 0) (s₁.setTop (entryFrame m #[.ref t, .int i] 2))
  refine Own.Go.eq (ef_gc m t i) ?_
  refine Own.g_aloadN X0 hx (hb hby d15_0) rfl rfl 1 rfl ?_
  refine Own.g_iloadN X0 hx (hb hby d15_1) rfl 2 rfl ?_
  refine Own.g_ldB X0 hx hZ e0 V_t hi b hbv (hb hby d15_2) 3 rfl ?_
  refine Own.g_sipush X0 hx (255 : Int32) (hb hby d15_3) rfl 6 rfl ?_
  refine Own.g_iand X0 hx (hb hby d15_6) 7 rfl ?_
  refine Own.g_i2c X0 hx (hb hby d15_7) 8 rfl ?_
  rw [Own.c255, hbx]
  show Own.Go p e below _ (s₁.setTop (mkF m 8 #[.val (.ref t), .val (.int i)] [(.int x)]))
  refine Own.g_ret X0 hx hret hlocks (Own.narrow_lat hx0) (Or.inl ⟨rfl, by simp, _, rfl⟩) (hb hby d15_8) (by decide) (by decide) e0 ?_
  exact ⟨rfl, N0, rfl⟩
theorem ef_gp (m : MethodId) (x0 : Addr) (x1 : Int32) : entryFrame m #[.ref x0, .int x1] 4 = mkF m 0 #[.val (.ref x0), .val (.int x1), .unset, .unset] [] := by first | (simp [entryFrame, mkF, argsToLocals, Value.category]; done) | rfl
def Q_gp (Z : State) (x : Int32) (ta : Addr) (ka : ClassId) (inst : Addr) (h0 : Heap) (n0 : Nat) (v : Option Value) (h : Heap) (L : List Loc) : Prop := v = some (.int (tabv x)) ∧ Fr n0 L ∧ h = h0
set_option maxRecDepth 65536 in
set_option maxHeartbeats 40000000 in
theorem rm_gp (l : Launch) (Z : State) (a0 : Array Value) (hw : ∀ d ∈ tables_1, d.before a0 Z = true) (ws : List Jvm.Cond) (x : Int32) (ta : Addr) (ka : ClassId) (inst : Addr) (h0 : Heap) (n0 : Nat) (O : Old Z n0 h0) (hx0 : Own.Lat x) (SA : Sta Z Z.heap "java/lang/CharacterDataLatin1" "A" "[I" (.ref ta)) (AA : Arv Z Z.heap ta ka .int 256 (TABL.map Value.int) (.int 0)) (SI : Sta Z Z.heap "java/lang/CharacterDataLatin1" "instance" "Ljava/lang/CharacterDataLatin1;" (.ref inst)) (EI : Exa Z Z.heap inst "java/lang/CharacterDataLatin1") :
    MetFree l (⟨"java/lang/CharacterDataLatin1", "getProperties", "(I)I"⟩ : MethodName) (head1 (Jvm.Cond.code (⟨"java/lang/CharacterDataLatin1", "getProperties", "(I)I"⟩ : MethodName) jdk_116_method_1_code 4 (some .int) :: ws) ({ frames := 0, cells := 0, slots := 0, locals := 0 } : Room)) (fun aa U => aa = #[.ref inst, .int x] ∧ Z.Warmed39 U.vm ∧ U.heap = h0) (fun _ _ _ _ _ => True) (fun _ U o U' => Own.End U (Q_gp Z x ta ka inst h0 n0) 0 0 o U') := by
  refine MetFree.of_bodySF (plainFor_of_name pn_2) hisR ?_
  intro p e s m args below meth c s₁ Bd hml0 hP hK
  obtain ⟨rfl, hZ, hh⟩ := hP
  have hx := Bd.exec
  have hby := Bd.bytes
  have hml : c.maxLocals = 4 := hml0
  have hown : s.vm.findClass "java/lang/CharacterDataLatin1" = some m.cls := findClass_of_methodNamed Bd.named
  have hnm := (name_of_methodNamed Bd.named Bd.method).1
  have hret := Bd.returns
  have hlocks : meth.locks = false := Bd.notSynchronized
  have X0 : Stand p l e ({ frames := 0, cells := 0, slots := 0, locals := 0 } : Room) s m #[.ref inst, .int x] below meth c s₁ [] 0 0 := Stand.of_body Bd
  have e0 : s₁.heap = h0 := by rw [← hh, Bd.state]; rfl
  have N0 := Fr.nil n0
  show Own.Go p e below (Own.End s (Q_gp Z x ta ka inst h0 n0) 0 0) (s₁.setTop (entryFrame m #[.ref inst, .int x] 4))
  refine Own.Go.eq (ef_gp m inst x) ?_
  refine Own.g_iloadN X0 hx (hb hby d17_0) rfl 1 rfl ?_
  refine Own.g_i2c X0 hx (hb hby d17_1) 2 rfl ?_
  rw [Own.i2c_lat hx0]
  show Own.Go p e below _ (s₁.setTop (mkF m 2 #[.val (.ref inst), .val (.int x), .unset, .unset] [(.int x)]))
  refine Own.g_istoreN X0 hx #[.val (.ref inst), .val (.int x), .val (.int x), .unset] (hb hby d17_2) rfl 3 rfl ?_
  refine Own.g_getS X0 hx hZ hown (host := "") (Or.inl (hw _ (List.mem_of_getElem? (i := 81) rfl))) Via.refl e0 (SA.ext O.2) (hb hby d17_3) 6 rfl ?_
  intro T1 X1 e1
  refine Own.g_iloadN X1 hx (hb hby d17_6) rfl 7 rfl ?_
  refine Own.g_ldI X1 hx hZ e1 (AA.ext O.2) (lat_in hx0) (tabv x) (tab_get hx0) (hb hby d17_7) 8 rfl ?_
  refine Own.g_istoreN X1 hx #[.val (.ref inst), .val (.int x), .val (.int x), .val (.int (tabv x))] (hb hby d17_8) rfl 9 rfl ?_
  refine Own.g_iloadN X1 hx (hb hby d17_9) rfl 10 rfl ?_
  refine Own.g_ret X1 hx hret hlocks rfl (Or.inl ⟨rfl, by simp, _, rfl⟩) (hb hby d17_10) (by decide) (by decide) e1 ?_
  exact ⟨rfl, N0, rfl⟩
theorem ef_iw (m : MethodId) (x0 : Addr) (x1 : Int32) : entryFrame m #[.ref x0, .int x1] 3 = mkF m 0 #[.val (.ref x0), .val (.int x1), .unset] [] := by first | (simp [entryFrame, mkF, argsToLocals, Value.category]; done) | rfl
def Q_iw (Z : State) (x : Int32) (ta : Addr) (ka : ClassId) (inst : Addr) (h0 : Heap) (n0 : Nat) (v : Option Value) (h : Heap) (L : List Loc) : Prop := v = some (.int (if wsP x then 1 else 0)) ∧ Fr n0 L ∧ h = h0
set_option maxRecDepth 65536 in
set_option maxHeartbeats 40000000 in
theorem rm_iw (l : Launch) (Z : State) (a0 : Array Value) (hw : ∀ d ∈ tables_1, d.before a0 Z = true) (ws : List Jvm.Cond) (x : Int32) (ta : Addr) (ka : ClassId) (inst : Addr) (h0 : Heap) (n0 : Nat) (O : Old Z n0 h0) (hx0 : Own.Lat x) (SA : Sta Z Z.heap "java/lang/CharacterDataLatin1" "A" "[I" (.ref ta)) (AA : Arv Z Z.heap ta ka .int 256 (TABL.map Value.int) (.int 0)) (SI : Sta Z Z.heap "java/lang/CharacterDataLatin1" "instance" "Ljava/lang/CharacterDataLatin1;" (.ref inst)) (EI : Exa Z Z.heap inst "java/lang/CharacterDataLatin1") :
    MetFree l (⟨"java/lang/CharacterDataLatin1", "isWhitespace", "(I)Z"⟩ : MethodName) (head1 (Jvm.Cond.code (⟨"java/lang/CharacterDataLatin1", "isWhitespace", "(I)Z"⟩ : MethodName) jdk_116_method_26_code 3 (some .boolean) :: ws) ({ frames := 1, cells := 0, slots := 0, locals := 15 } : Room)) (fun aa U => aa = #[.ref inst, .int x] ∧ Z.Warmed39 U.vm ∧ U.heap = h0) (fun _ _ _ _ _ => True) (fun _ U o U' => Own.End U (Q_iw Z x ta ka inst h0 n0) 0 0 o U') := by
  refine MetFree.of_bodySF (plainFor_of_name pn_2) hisR ?_
  intro p e s m args below meth c s₁ Bd hml0 hP hK
  obtain ⟨rfl, hZ, hh⟩ := hP
  have hx := Bd.exec
  have hby := Bd.bytes
  have hml : c.maxLocals = 3 := hml0
  have hown : s.vm.findClass "java/lang/CharacterDataLatin1" = some m.cls := findClass_of_methodNamed Bd.named
  have hnm := (name_of_methodNamed Bd.named Bd.method).1
  have hret := Bd.returns
  have hlocks : meth.locks = false := Bd.notSynchronized
  have X0 : Stand p l e ({ frames := 1, cells := 0, slots := 0, locals := 15 } : Room) s m #[.ref inst, .int x] below meth c s₁ [] 0 0 := Stand.of_body Bd
  have e0 : s₁.heap = h0 := by rw [← hh, Bd.state]; rfl
  have N0 := Fr.nil n0
  show Own.Go p e below (Own.End s (Q_iw Z x ta ka inst h0 n0) 0 0) (s₁.setTop (entryFrame m #[.ref inst, .int x] 3))
  refine Own.Go.eq (ef_iw m inst x) ?_
  refine Own.g_aloadN X0 hx (hb hby d16_0) rfl rfl 1 rfl ?_
  refine Own.g_iloadN X0 hx (hb hby d16_1) rfl 2 rfl ?_
  refine Own.g_virtual X0 hx hZ (y := (⟨"java/lang/CharacterDataLatin1", "getProperties", "(I)I"⟩ : MethodName)) (z := (⟨"java/lang/CharacterDataLatin1", "getProperties", "(I)I"⟩ : MethodName)) hown (mvT hZ (hw _ (List.mem_of_getElem? (i := 76) rfl))) (mvT hZ (hw _ (List.mem_of_getElem? (i := 77) rfl))) (notFace_of_selects (args := #[]) (mvT hZ (hw _ (List.mem_of_getElem? (i := 79) rfl)))) (mvT hZ (hw _ (List.mem_of_getElem? (i := 79) rfl))) (mvT hZ (hw _ (List.mem_of_getElem? (i := 78) rfl))) (by decide) (a := inst) [.int x] (Own.back (W := 0) (rm_gp l Z a0 hw [] x ta ka inst h0 n0 O hx0 SA AA SI EI) hZ (hw _ (List.mem_of_getElem? (i := 80) rfl)) (hw _ (List.mem_of_getElem? (i := 70) rfl)) (by decide) (by decide)) (EI.ext O.2) e0 (by rw [hml]; rfl) [] (lenOf pd_2 rfl) rfl (Nat.le_of_ble_eq_true rfl) (hb hby d16_2) (by decide) (by decide) 5 rfl ?_
  rintro _ T1 L1 X1 ⟨rfl, N1q, eH1⟩
  have N1 := Fr.app N0 N1q
  show Own.Go p e below _ (T1.setTop (mkF m 5 #[.val (.ref inst), .val (.int x), .unset] [(.int (tabv x))]))
  refine Own.g_istoreN X1 hx #[.val (.ref inst), .val (.int x), .val (.int (tabv x))] (hb hby d16_5) rfl 6 rfl ?_
  refine Own.g_iloadN X1 hx (hb hby d16_6) rfl 7 rfl ?_
  refine Own.g_sipush X1 hx (28672 : Int32) (hb hby d16_7) rfl 10 rfl ?_
  refine Own.g_iand X1 hx (hb hby d16_10) 11 rfl ?_
  refine Own.g_sipush X1 hx (16384 : Int32) (hb hby d16_11) rfl 14 rfl ?_
  refine Own.g_icmp_ne X1 hx (hb hby d16_14) 21 17 (by decide) rfl ?_ ?_
  · intro hq
    refine Own.g_iconst X1 hx (0 : Int32) (hb hby d16_21) rfl 22 rfl ?_
    refine Own.g_ret X1 hx hret hlocks rfl (Or.inl ⟨rfl, by simp, _, rfl⟩) (hb hby d16_22) (by decide) (by decide) eH1 ?_
    exact ⟨by rw [if_neg (fun z => hq ((tab_ws hx0).mpr z))], N1, rfl⟩
  · intro hq
    refine Own.g_iconst X1 hx (1 : Int32) (hb hby d16_17) rfl 18 rfl ?_
    refine Own.g_goto X1 hx (hb hby d16_18) 22 (by decide) ?_
    refine Own.g_ret X1 hx hret hlocks rfl (Or.inl ⟨rfl, by simp, _, rfl⟩) (hb hby d16_22) (by decide) (by decide) eH1 ?_
    exact ⟨by rw [if_pos ((tab_ws hx0).mp hq)], N1, rfl⟩
theorem ws32 {x : Int32} (h : x = 32) : wsP x := by subst h; decide
theorem ws9 {x : Int32} (h : x = 9) : wsP x := by subst h; decide
theorem ef_l1 (m : MethodId) (x0 : Addr) : entryFrame m #[.ref x0] 4 = mkF m 0 #[.val (.ref x0), .unset, .unset, .unset] [] := by first | (simp [entryFrame, mkF, argsToLocals, Value.category]; done) | rfl
def Q_l1 (Z : State) (t : Addr) (k : ClassId) (cs : List Int32) (ta : Addr) (ka : ClassId) (inst : Addr) (h0 : Heap) (n0 : Nat) (v : Option Value) (h : Heap) (L : List Loc) : Prop := ∃ r : Int32, v = some (.int r) ∧ ¬ r = Int32.ofNat cs.length ∧ Fr n0 L ∧ h = h0
set_option maxRecDepth 65536 in
set_option maxHeartbeats 40000000 in
theorem rm_l1 (l : Launch) (Z : State) (a0 : Array Value) (hw : ∀ d ∈ tables_1, d.before a0 Z = true) (ws : List Jvm.Cond) (t : Addr) (k : ClassId) (cs : List Int32) (ta : Addr) (ka : ClassId) (inst : Addr) (h0 : Heap) (n0 : Nat) (O : Old Z n0 h0) (V_t : Arv Z h0 t k .byte (Int32.ofNat cs.length) ((cs.map fun c => c.toInt8.toInt32).map Value.int) (.int 0)) (nb : NB cs) (lat : ∀ c ∈ cs, Own.Lat c) (SA : Sta Z Z.heap "java/lang/CharacterDataLatin1" "A" "[I" (.ref ta)) (AA : Arv Z Z.heap ta ka .int 256 (TABL.map Value.int) (.int 0)) (SI : Sta Z Z.heap "java/lang/CharacterDataLatin1" "instance" "Ljava/lang/CharacterDataLatin1;" (.ref inst)) (EI : Exa Z Z.heap inst "java/lang/CharacterDataLatin1") :
    MetFree l (⟨"java/lang/StringLatin1", "indexOfNonWhitespace", "([B)I"⟩ : MethodName) (head1 (Jvm.Cond.code (⟨"java/lang/StringLatin1", "indexOfNonWhitespace", "([B)I"⟩ : MethodName) jdk_43_method_37_code 4 (some .int) :: ws) ({ frames := 2, cells := 0, slots := 0, locals := 30 } : Room)) (fun aa U => aa = #[.ref t] ∧ Z.Warmed39 U.vm ∧ U.heap = h0) (fun _ _ _ _ _ => True) (fun _ U o U' => Own.End U (Q_l1 Z t k cs ta ka inst h0 n0) 0 0 o U') := by
  refine MetFree.of_bodySF (plainFor_of_name pn_1) hisR ?_
  intro p e s m args below meth c s₁ Bd hml0 hP hK
  obtain ⟨rfl, hZ, hh⟩ := hP
  have hx := Bd.exec
  have hby := Bd.bytes
  have hml : c.maxLocals = 4 := hml0
  have hown : s.vm.findClass "java/lang/StringLatin1" = some m.cls := findClass_of_methodNamed Bd.named
  have hnm := (name_of_methodNamed Bd.named Bd.method).1
  have hret := Bd.returns
  have hlocks : meth.locks = false := Bd.notSynchronized
  have X0 : Stand p l e ({ frames := 2, cells := 0, slots := 0, locals := 30 } : Room) s m #[.ref t] below meth c s₁ [] 0 0 := Stand.of_body Bd
  have e0 : s₁.heap = h0 := by rw [← hh, Bd.state]; rfl
  have N0 := Fr.nil n0
  show Own.Go p e below (Own.End s (Q_l1 Z t k cs ta ka inst h0 n0) 0 0) (s₁.setTop (entryFrame m #[.ref t] 4))
  refine Own.Go.eq (ef_l1 m t) ?_
  rcases nb with ⟨x, rfl, hn⟩ | ⟨x, y, rfl, hn⟩
  · have L_x : Own.Lat x := lat x (by simp)
    refine Own.g_aloadN X0 hx (hb hby d14_0) rfl rfl 1 rfl ?_
    refine Own.g_alen X0 hx hZ e0 V_t (hb hby d14_1) 2 rfl ?_
    refine Own.g_istoreN X0 hx #[.val (.ref t), .val (.int (1 : Int32)), .unset, .unset] (hb hby d14_2) rfl 3 rfl ?_
    refine Own.g_iconst X0 hx (0 : Int32) (hb hby d14_3) rfl 4 rfl ?_
    refine Own.g_istoreN X0 hx #[.val (.ref t), .val (.int (1 : Int32)), .val (.int (0 : Int32)), .unset] (hb hby d14_4) rfl 5 rfl ?_
    refine Own.g_iloadN X0 hx (hb hby d14_5) rfl 6 rfl ?_
    refine Own.g_iloadN X0 hx (hb hby d14_6) rfl 7 rfl ?_
    refine Own.g_icmp_ge_f X0 hx (hb hby d14_7) (by decide) 10 rfl ?_
    refine Own.g_aloadN X0 hx (hb hby d14_10) rfl rfl 11 rfl ?_
    refine Own.g_iloadN X0 hx (hb hby d14_11) rfl 12 rfl ?_
    refine Own.g_callS X0 hx (y := (⟨"java/lang/StringLatin1", "getChar", "([BI)C"⟩ : MethodName)) hown (mvT hZ (hw _ (List.mem_of_getElem? (i := 66) rfl))) (mvT hZ (hw _ (List.mem_of_getElem? (i := 67) rfl))) (mvT hZ (hw _ (List.mem_of_getElem? (i := 64) rfl))) (mvT hZ (hw _ (List.mem_of_getElem? (i := 68) rfl))) (by decide) [.ref t, .int (0 : Int32)] (Own.back (W := 0) (rm_gc l Z a0 hw [] t k (1 : Int32) _ (0 : Int32) (x.toInt8.toInt32) x h0 n0 O V_t (by decide) rfl (Own.lo_lat L_x) L_x) hZ (hw _ (List.mem_of_getElem? (i := 68) rfl)) (hw _ (List.mem_of_getElem? (i := 64) rfl)) (by decide) (by decide)) e0 (by rw [hml]; rfl) [] (lenOf pd_3 rfl) rfl (Nat.le_of_ble_eq_true rfl) (hb hby d14_12) (by decide) (by decide) 15 rfl ?_
    rintro _ T1 L1 X1 ⟨rfl, N1q, eH1⟩
    have N1 := Fr.app N0 N1q
    show Own.Go p e below _ (T1.setTop (mkF m 15 #[.val (.ref t), .val (.int (1 : Int32)), .val (.int (0 : Int32)), .unset] [(.int x)]))
    refine Own.g_istoreN X1 hx #[.val (.ref t), .val (.int (1 : Int32)), .val (.int (0 : Int32)), .val (.int x)] (hb hby d14_15) rfl 16 rfl ?_
    refine Own.g_iloadN X1 hx (hb hby d14_16) rfl 17 rfl ?_
    refine Own.g_bipush X1 hx (32 : Int32) (hb hby d14_17) rfl 19 rfl ?_
    refine Own.g_icmp_eq X1 hx (hb hby d14_19) 41 22 (by decide) rfl ?_ ?_
    · intro q32
      have w_x : wsP x := ws32 q32
      refine Own.g_iinc X1 hx #[.val (.ref t), .val (.int (1 : Int32)), .val (.int (1 : Int32)), .val (.int x)] (hb hby d14_41) rfl rfl 44 rfl ?_
      refine Own.g_goto X1 hx (hb hby d14_44) 5 (by decide) ?_
      refine Own.g_iloadN X1 hx (hb hby d14_5) rfl 6 rfl ?_
      refine Own.g_iloadN X1 hx (hb hby d14_6) rfl 7 rfl ?_
      exact absurd w_x hn
    · intro q32
      refine Own.g_iloadN X1 hx (hb hby d14_22) rfl 23 rfl ?_
      refine Own.g_bipush X1 hx (9 : Int32) (hb hby d14_23) rfl 25 rfl ?_
      refine Own.g_icmp_eq X1 hx (hb hby d14_25) 41 28 (by decide) rfl ?_ ?_
      · intro q9
        have w_x : wsP x := ws9 q9
        refine Own.g_iinc X1 hx #[.val (.ref t), .val (.int (1 : Int32)), .val (.int (1 : Int32)), .val (.int x)] (hb hby d14_41) rfl rfl 44 rfl ?_
        refine Own.g_goto X1 hx (hb hby d14_44) 5 (by decide) ?_
        refine Own.g_iloadN X1 hx (hb hby d14_5) rfl 6 rfl ?_
        refine Own.g_iloadN X1 hx (hb hby d14_6) rfl 7 rfl ?_
        exact absurd w_x hn
      · intro q9
        refine Own.g_getS X1 hx hZ hown (host := "") (Or.inl (hw _ (List.mem_of_getElem? (i := 69) rfl))) Via.refl eH1 (SI.ext O.2) (hb hby d14_28) 31 rfl ?_
        intro T2 X2 e2
        refine Own.g_iloadN X2 hx (hb hby d14_31) rfl 32 rfl ?_
        refine Own.g_virtual X2 hx hZ (y := (⟨"java/lang/CharacterDataLatin1", "isWhitespace", "(I)Z"⟩ : MethodName)) (z := (⟨"java/lang/CharacterDataLatin1", "isWhitespace", "(I)Z"⟩ : MethodName)) hown (mvT hZ (hw _ (List.mem_of_getElem? (i := 71) rfl))) (mvT hZ (hw _ (List.mem_of_getElem? (i := 72) rfl))) (notFace_of_selects (args := #[]) (mvT hZ (hw _ (List.mem_of_getElem? (i := 74) rfl)))) (mvT hZ (hw _ (List.mem_of_getElem? (i := 74) rfl))) (mvT hZ (hw _ (List.mem_of_getElem? (i := 73) rfl))) (by decide) (a := inst) [.int x] (Own.back (W := 0) (rm_iw l Z a0 hw [] x ta ka inst h0 n0 O L_x SA AA SI EI) hZ (hw _ (List.mem_of_getElem? (i := 75) rfl)) (hw _ (List.mem_of_getElem? (i := 70) rfl)) (by decide) (by decide)) (EI.ext O.2) e2 (by rw [hml]; rfl) [] (lenOf pd_4 rfl) rfl (Nat.le_of_ble_eq_true rfl) (hb hby d14_32) (by decide) (by decide) 35 rfl ?_
        rintro _ T3 L3 X3 ⟨rfl, N3q, eH3⟩
        have N3 := Fr.app N1 N3q
        show Own.Go p e below _ (T3.setTop (mkF m 35 #[.val (.ref t), .val (.int (1 : Int32)), .val (.int (0 : Int32)), .val (.int x)] [(.int (if wsP x then 1 else 0))]))
        refine Own.g_if_ne X3 hx (hb hby d14_35) 41 38 (by decide) rfl ?_ ?_
        · intro qw
          have w_x : wsP x := Own.if1_ne qw
          refine Own.g_iinc X3 hx #[.val (.ref t), .val (.int (1 : Int32)), .val (.int (1 : Int32)), .val (.int x)] (hb hby d14_41) rfl rfl 44 rfl ?_
          refine Own.g_goto X3 hx (hb hby d14_44) 5 (by decide) ?_
          refine Own.g_iloadN X3 hx (hb hby d14_5) rfl 6 rfl ?_
          refine Own.g_iloadN X3 hx (hb hby d14_6) rfl 7 rfl ?_
          exact absurd w_x hn
        · intro qw
          refine Own.g_goto X3 hx (hb hby d14_38) 47 (by decide) ?_
          refine Own.g_iloadN X3 hx (hb hby d14_47) rfl 48 rfl ?_
          refine Own.g_ret X3 hx hret hlocks rfl (Or.inl ⟨rfl, by simp, _, rfl⟩) (hb hby d14_48) (by decide) (by decide) eH3 ?_
          exact ⟨_, rfl, (show ¬ (0 : Int32) = (1 : Int32) by decide), N3, rfl⟩
  · have L_x : Own.Lat x := lat x (by simp)
    have L_y : Own.Lat y := lat y (by simp)
    refine Own.g_aloadN X0 hx (hb hby d14_0) rfl rfl 1 rfl ?_
    refine Own.g_alen X0 hx hZ e0 V_t (hb hby d14_1) 2 rfl ?_
    refine Own.g_istoreN X0 hx #[.val (.ref t), .val (.int (2 : Int32)), .unset, .unset] (hb hby d14_2) rfl 3 rfl ?_
    refine Own.g_iconst X0 hx (0 : Int32) (hb hby d14_3) rfl 4 rfl ?_
    refine Own.g_istoreN X0 hx #[.val (.ref t), .val (.int (2 : Int32)), .val (.int (0 : Int32)), .unset] (hb hby d14_4) rfl 5 rfl ?_
    refine Own.g_iloadN X0 hx (hb hby d14_5) rfl 6 rfl ?_
    refine Own.g_iloadN X0 hx (hb hby d14_6) rfl 7 rfl ?_
    refine Own.g_icmp_ge_f X0 hx (hb hby d14_7) (by decide) 10 rfl ?_
    refine Own.g_aloadN X0 hx (hb hby d14_10) rfl rfl 11 rfl ?_
    refine Own.g_iloadN X0 hx (hb hby d14_11) rfl 12 rfl ?_
    refine Own.g_callS X0 hx (y := (⟨"java/lang/StringLatin1", "getChar", "([BI)C"⟩ : MethodName)) hown (mvT hZ (hw _ (List.mem_of_getElem? (i := 66) rfl))) (mvT hZ (hw _ (List.mem_of_getElem? (i := 67) rfl))) (mvT hZ (hw _ (List.mem_of_getElem? (i := 64) rfl))) (mvT hZ (hw _ (List.mem_of_getElem? (i := 68) rfl))) (by decide) [.ref t, .int (0 : Int32)] (Own.back (W := 0) (rm_gc l Z a0 hw [] t k (2 : Int32) _ (0 : Int32) (x.toInt8.toInt32) x h0 n0 O V_t (by decide) rfl (Own.lo_lat L_x) L_x) hZ (hw _ (List.mem_of_getElem? (i := 68) rfl)) (hw _ (List.mem_of_getElem? (i := 64) rfl)) (by decide) (by decide)) e0 (by rw [hml]; rfl) [] (lenOf pd_3 rfl) rfl (Nat.le_of_ble_eq_true rfl) (hb hby d14_12) (by decide) (by decide) 15 rfl ?_
    rintro _ T4 L4 X4 ⟨rfl, N4q, eH4⟩
    have N4 := Fr.app N0 N4q
    show Own.Go p e below _ (T4.setTop (mkF m 15 #[.val (.ref t), .val (.int (2 : Int32)), .val (.int (0 : Int32)), .unset] [(.int x)]))
    refine Own.g_istoreN X4 hx #[.val (.ref t), .val (.int (2 : Int32)), .val (.int (0 : Int32)), .val (.int x)] (hb hby d14_15) rfl 16 rfl ?_
    refine Own.g_iloadN X4 hx (hb hby d14_16) rfl 17 rfl ?_
    refine Own.g_bipush X4 hx (32 : Int32) (hb hby d14_17) rfl 19 rfl ?_
    refine Own.g_icmp_eq X4 hx (hb hby d14_19) 41 22 (by decide) rfl ?_ ?_
    · intro q32
      have w_x : wsP x := ws32 q32
      refine Own.g_iinc X4 hx #[.val (.ref t), .val (.int (2 : Int32)), .val (.int (1 : Int32)), .val (.int x)] (hb hby d14_41) rfl rfl 44 rfl ?_
      refine Own.g_goto X4 hx (hb hby d14_44) 5 (by decide) ?_
      refine Own.g_iloadN X4 hx (hb hby d14_5) rfl 6 rfl ?_
      refine Own.g_iloadN X4 hx (hb hby d14_6) rfl 7 rfl ?_
      refine Own.g_icmp_ge_f X4 hx (hb hby d14_7) (by decide) 10 rfl ?_
      refine Own.g_aloadN X4 hx (hb hby d14_10) rfl rfl 11 rfl ?_
      refine Own.g_iloadN X4 hx (hb hby d14_11) rfl 12 rfl ?_
      refine Own.g_callS X4 hx (y := (⟨"java/lang/StringLatin1", "getChar", "([BI)C"⟩ : MethodName)) hown (mvT hZ (hw _ (List.mem_of_getElem? (i := 66) rfl))) (mvT hZ (hw _ (List.mem_of_getElem? (i := 67) rfl))) (mvT hZ (hw _ (List.mem_of_getElem? (i := 64) rfl))) (mvT hZ (hw _ (List.mem_of_getElem? (i := 68) rfl))) (by decide) [.ref t, .int (1 : Int32)] (Own.back (W := 0) (rm_gc l Z a0 hw [] t k (2 : Int32) _ (1 : Int32) (y.toInt8.toInt32) y h0 n0 O V_t (by decide) rfl (Own.lo_lat L_y) L_y) hZ (hw _ (List.mem_of_getElem? (i := 68) rfl)) (hw _ (List.mem_of_getElem? (i := 64) rfl)) (by decide) (by decide)) eH4 (by rw [hml]; rfl) [] (lenOf pd_3 rfl) rfl (Nat.le_of_ble_eq_true rfl) (hb hby d14_12) (by decide) (by decide) 15 rfl ?_
      rintro _ T5 L5 X5 ⟨rfl, N5q, eH5⟩
      have N5 := Fr.app N4 N5q
      show Own.Go p e below _ (T5.setTop (mkF m 15 #[.val (.ref t), .val (.int (2 : Int32)), .val (.int (1 : Int32)), .val (.int x)] [(.int y)]))
      refine Own.g_istoreN X5 hx #[.val (.ref t), .val (.int (2 : Int32)), .val (.int (1 : Int32)), .val (.int y)] (hb hby d14_15) rfl 16 rfl ?_
      refine Own.g_iloadN X5 hx (hb hby d14_16) rfl 17 rfl ?_
      refine Own.g_bipush X5 hx (32 : Int32) (hb hby d14_17) rfl 19 rfl ?_
      refine Own.g_icmp_eq X5 hx (hb hby d14_19) 41 22 (by decide) rfl ?_ ?_
      · intro q32
        have w_y : wsP y := ws32 q32
        refine Own.g_iinc X5 hx #[.val (.ref t), .val (.int (2 : Int32)), .val (.int (2 : Int32)), .val (.int y)] (hb hby d14_41) rfl rfl 44 rfl ?_
        refine Own.g_goto X5 hx (hb hby d14_44) 5 (by decide) ?_
        refine Own.g_iloadN X5 hx (hb hby d14_5) rfl 6 rfl ?_
        refine Own.g_iloadN X5 hx (hb hby d14_6) rfl 7 rfl ?_
        exact absurd ⟨w_x, w_y⟩ hn
      · intro q32
        refine Own.g_iloadN X5 hx (hb hby d14_22) rfl 23 rfl ?_
        refine Own.g_bipush X5 hx (9 : Int32) (hb hby d14_23) rfl 25 rfl ?_
        refine Own.g_icmp_eq X5 hx (hb hby d14_25) 41 28 (by decide) rfl ?_ ?_
        · intro q9
          have w_y : wsP y := ws9 q9
          refine Own.g_iinc X5 hx #[.val (.ref t), .val (.int (2 : Int32)), .val (.int (2 : Int32)), .val (.int y)] (hb hby d14_41) rfl rfl 44 rfl ?_
          refine Own.g_goto X5 hx (hb hby d14_44) 5 (by decide) ?_
          refine Own.g_iloadN X5 hx (hb hby d14_5) rfl 6 rfl ?_
          refine Own.g_iloadN X5 hx (hb hby d14_6) rfl 7 rfl ?_
          exact absurd ⟨w_x, w_y⟩ hn
        · intro q9
          refine Own.g_getS X5 hx hZ hown (host := "") (Or.inl (hw _ (List.mem_of_getElem? (i := 69) rfl))) Via.refl eH5 (SI.ext O.2) (hb hby d14_28) 31 rfl ?_
          intro T6 X6 e6
          refine Own.g_iloadN X6 hx (hb hby d14_31) rfl 32 rfl ?_
          refine Own.g_virtual X6 hx hZ (y := (⟨"java/lang/CharacterDataLatin1", "isWhitespace", "(I)Z"⟩ : MethodName)) (z := (⟨"java/lang/CharacterDataLatin1", "isWhitespace", "(I)Z"⟩ : MethodName)) hown (mvT hZ (hw _ (List.mem_of_getElem? (i := 71) rfl))) (mvT hZ (hw _ (List.mem_of_getElem? (i := 72) rfl))) (notFace_of_selects (args := #[]) (mvT hZ (hw _ (List.mem_of_getElem? (i := 74) rfl)))) (mvT hZ (hw _ (List.mem_of_getElem? (i := 74) rfl))) (mvT hZ (hw _ (List.mem_of_getElem? (i := 73) rfl))) (by decide) (a := inst) [.int y] (Own.back (W := 0) (rm_iw l Z a0 hw [] y ta ka inst h0 n0 O L_y SA AA SI EI) hZ (hw _ (List.mem_of_getElem? (i := 75) rfl)) (hw _ (List.mem_of_getElem? (i := 70) rfl)) (by decide) (by decide)) (EI.ext O.2) e6 (by rw [hml]; rfl) [] (lenOf pd_4 rfl) rfl (Nat.le_of_ble_eq_true rfl) (hb hby d14_32) (by decide) (by decide) 35 rfl ?_
          rintro _ T7 L7 X7 ⟨rfl, N7q, eH7⟩
          have N7 := Fr.app N5 N7q
          show Own.Go p e below _ (T7.setTop (mkF m 35 #[.val (.ref t), .val (.int (2 : Int32)), .val (.int (1 : Int32)), .val (.int y)] [(.int (if wsP y then 1 else 0))]))
          refine Own.g_if_ne X7 hx (hb hby d14_35) 41 38 (by decide) rfl ?_ ?_
          · intro qw
            have w_y : wsP y := Own.if1_ne qw
            refine Own.g_iinc X7 hx #[.val (.ref t), .val (.int (2 : Int32)), .val (.int (2 : Int32)), .val (.int y)] (hb hby d14_41) rfl rfl 44 rfl ?_
            refine Own.g_goto X7 hx (hb hby d14_44) 5 (by decide) ?_
            refine Own.g_iloadN X7 hx (hb hby d14_5) rfl 6 rfl ?_
            refine Own.g_iloadN X7 hx (hb hby d14_6) rfl 7 rfl ?_
            exact absurd ⟨w_x, w_y⟩ hn
          · intro qw
            refine Own.g_goto X7 hx (hb hby d14_38) 47 (by decide) ?_
            refine Own.g_iloadN X7 hx (hb hby d14_47) rfl 48 rfl ?_
            refine Own.g_ret X7 hx hret hlocks rfl (Or.inl ⟨rfl, by simp, _, rfl⟩) (hb hby d14_48) (by decide) (by decide) eH7 ?_
            exact ⟨_, rfl, (show ¬ (1 : Int32) = (2 : Int32) by decide), N7, rfl⟩
    · intro q32
      refine Own.g_iloadN X4 hx (hb hby d14_22) rfl 23 rfl ?_
      refine Own.g_bipush X4 hx (9 : Int32) (hb hby d14_23) rfl 25 rfl ?_
      refine Own.g_icmp_eq X4 hx (hb hby d14_25) 41 28 (by decide) rfl ?_ ?_
      · intro q9
        have w_x : wsP x := ws9 q9
        refine Own.g_iinc X4 hx #[.val (.ref t), .val (.int (2 : Int32)), .val (.int (1 : Int32)), .val (.int x)] (hb hby d14_41) rfl rfl 44 rfl ?_
        refine Own.g_goto X4 hx (hb hby d14_44) 5 (by decide) ?_
        refine Own.g_iloadN X4 hx (hb hby d14_5) rfl 6 rfl ?_
        refine Own.g_iloadN X4 hx (hb hby d14_6) rfl 7 rfl ?_
        refine Own.g_icmp_ge_f X4 hx (hb hby d14_7) (by decide) 10 rfl ?_
        refine Own.g_aloadN X4 hx (hb hby d14_10) rfl rfl 11 rfl ?_
        refine Own.g_iloadN X4 hx (hb hby d14_11) rfl 12 rfl ?_
        refine Own.g_callS X4 hx (y := (⟨"java/lang/StringLatin1", "getChar", "([BI)C"⟩ : MethodName)) hown (mvT hZ (hw _ (List.mem_of_getElem? (i := 66) rfl))) (mvT hZ (hw _ (List.mem_of_getElem? (i := 67) rfl))) (mvT hZ (hw _ (List.mem_of_getElem? (i := 64) rfl))) (mvT hZ (hw _ (List.mem_of_getElem? (i := 68) rfl))) (by decide) [.ref t, .int (1 : Int32)] (Own.back (W := 0) (rm_gc l Z a0 hw [] t k (2 : Int32) _ (1 : Int32) (y.toInt8.toInt32) y h0 n0 O V_t (by decide) rfl (Own.lo_lat L_y) L_y) hZ (hw _ (List.mem_of_getElem? (i := 68) rfl)) (hw _ (List.mem_of_getElem? (i := 64) rfl)) (by decide) (by decide)) eH4 (by rw [hml]; rfl) [] (lenOf pd_3 rfl) rfl (Nat.le_of_ble_eq_true rfl) (hb hby d14_12) (by decide) (by decide) 15 rfl ?_
        rintro _ T8 L8 X8 ⟨rfl, N8q, eH8⟩
        have N8 := Fr.app N4 N8q
        show Own.Go p e below _ (T8.setTop (mkF m 15 #[.val (.ref t), .val (.int (2 : Int32)), .val (.int (1 : Int32)), .val (.int x)] [(.int y)]))
        refine Own.g_istoreN X8 hx #[.val (.ref t), .val (.int (2 : Int32)), .val (.int (1 : Int32)), .val (.int y)] (hb hby d14_15) rfl 16 rfl ?_
        refine Own.g_iloadN X8 hx (hb hby d14_16) rfl 17 rfl ?_
        refine Own.g_bipush X8 hx (32 : Int32) (hb hby d14_17) rfl 19 rfl ?_
        refine Own.g_icmp_eq X8 hx (hb hby d14_19) 41 22 (by decide) rfl ?_ ?_
        · intro q32
          have w_y : wsP y := ws32 q32
          refine Own.g_iinc X8 hx #[.val (.ref t), .val (.int (2 : Int32)), .val (.int (2 : Int32)), .val (.int y)] (hb hby d14_41) rfl rfl 44 rfl ?_
          refine Own.g_goto X8 hx (hb hby d14_44) 5 (by decide) ?_
          refine Own.g_iloadN X8 hx (hb hby d14_5) rfl 6 rfl ?_
          refine Own.g_iloadN X8 hx (hb hby d14_6) rfl 7 rfl ?_
          exact absurd ⟨w_x, w_y⟩ hn
        · intro q32
          refine Own.g_iloadN X8 hx (hb hby d14_22) rfl 23 rfl ?_
          refine Own.g_bipush X8 hx (9 : Int32) (hb hby d14_23) rfl 25 rfl ?_
          refine Own.g_icmp_eq X8 hx (hb hby d14_25) 41 28 (by decide) rfl ?_ ?_
          · intro q9
            have w_y : wsP y := ws9 q9
            refine Own.g_iinc X8 hx #[.val (.ref t), .val (.int (2 : Int32)), .val (.int (2 : Int32)), .val (.int y)] (hb hby d14_41) rfl rfl 44 rfl ?_
            refine Own.g_goto X8 hx (hb hby d14_44) 5 (by decide) ?_
            refine Own.g_iloadN X8 hx (hb hby d14_5) rfl 6 rfl ?_
            refine Own.g_iloadN X8 hx (hb hby d14_6) rfl 7 rfl ?_
            exact absurd ⟨w_x, w_y⟩ hn
          · intro q9
            refine Own.g_getS X8 hx hZ hown (host := "") (Or.inl (hw _ (List.mem_of_getElem? (i := 69) rfl))) Via.refl eH8 (SI.ext O.2) (hb hby d14_28) 31 rfl ?_
            intro T9 X9 e9
            refine Own.g_iloadN X9 hx (hb hby d14_31) rfl 32 rfl ?_
            refine Own.g_virtual X9 hx hZ (y := (⟨"java/lang/CharacterDataLatin1", "isWhitespace", "(I)Z"⟩ : MethodName)) (z := (⟨"java/lang/CharacterDataLatin1", "isWhitespace", "(I)Z"⟩ : MethodName)) hown (mvT hZ (hw _ (List.mem_of_getElem? (i := 71) rfl))) (mvT hZ (hw _ (List.mem_of_getElem? (i := 72) rfl))) (notFace_of_selects (args := #[]) (mvT hZ (hw _ (List.mem_of_getElem? (i := 74) rfl)))) (mvT hZ (hw _ (List.mem_of_getElem? (i := 74) rfl))) (mvT hZ (hw _ (List.mem_of_getElem? (i := 73) rfl))) (by decide) (a := inst) [.int y] (Own.back (W := 0) (rm_iw l Z a0 hw [] y ta ka inst h0 n0 O L_y SA AA SI EI) hZ (hw _ (List.mem_of_getElem? (i := 75) rfl)) (hw _ (List.mem_of_getElem? (i := 70) rfl)) (by decide) (by decide)) (EI.ext O.2) e9 (by rw [hml]; rfl) [] (lenOf pd_4 rfl) rfl (Nat.le_of_ble_eq_true rfl) (hb hby d14_32) (by decide) (by decide) 35 rfl ?_
            rintro _ T10 L10 X10 ⟨rfl, N10q, eH10⟩
            have N10 := Fr.app N8 N10q
            show Own.Go p e below _ (T10.setTop (mkF m 35 #[.val (.ref t), .val (.int (2 : Int32)), .val (.int (1 : Int32)), .val (.int y)] [(.int (if wsP y then 1 else 0))]))
            refine Own.g_if_ne X10 hx (hb hby d14_35) 41 38 (by decide) rfl ?_ ?_
            · intro qw
              have w_y : wsP y := Own.if1_ne qw
              refine Own.g_iinc X10 hx #[.val (.ref t), .val (.int (2 : Int32)), .val (.int (2 : Int32)), .val (.int y)] (hb hby d14_41) rfl rfl 44 rfl ?_
              refine Own.g_goto X10 hx (hb hby d14_44) 5 (by decide) ?_
              refine Own.g_iloadN X10 hx (hb hby d14_5) rfl 6 rfl ?_
              refine Own.g_iloadN X10 hx (hb hby d14_6) rfl 7 rfl ?_
              exact absurd ⟨w_x, w_y⟩ hn
            · intro qw
              refine Own.g_goto X10 hx (hb hby d14_38) 47 (by decide) ?_
              refine Own.g_iloadN X10 hx (hb hby d14_47) rfl 48 rfl ?_
              refine Own.g_ret X10 hx hret hlocks rfl (Or.inl ⟨rfl, by simp, _, rfl⟩) (hb hby d14_48) (by decide) (by decide) eH10 ?_
              exact ⟨_, rfl, (show ¬ (1 : Int32) = (2 : Int32) by decide), N10, rfl⟩
      · intro q9
        refine Own.g_getS X4 hx hZ hown (host := "") (Or.inl (hw _ (List.mem_of_getElem? (i := 69) rfl))) Via.refl eH4 (SI.ext O.2) (hb hby d14_28) 31 rfl ?_
        intro T11 X11 e11
        refine Own.g_iloadN X11 hx (hb hby d14_31) rfl 32 rfl ?_
        refine Own.g_virtual X11 hx hZ (y := (⟨"java/lang/CharacterDataLatin1", "isWhitespace", "(I)Z"⟩ : MethodName)) (z := (⟨"java/lang/CharacterDataLatin1", "isWhitespace", "(I)Z"⟩ : MethodName)) hown (mvT hZ (hw _ (List.mem_of_getElem? (i := 71) rfl))) (mvT hZ (hw _ (List.mem_of_getElem? (i := 72) rfl))) (notFace_of_selects (args := #[]) (mvT hZ (hw _ (List.mem_of_getElem? (i := 74) rfl)))) (mvT hZ (hw _ (List.mem_of_getElem? (i := 74) rfl))) (mvT hZ (hw _ (List.mem_of_getElem? (i := 73) rfl))) (by decide) (a := inst) [.int x] (Own.back (W := 0) (rm_iw l Z a0 hw [] x ta ka inst h0 n0 O L_x SA AA SI EI) hZ (hw _ (List.mem_of_getElem? (i := 75) rfl)) (hw _ (List.mem_of_getElem? (i := 70) rfl)) (by decide) (by decide)) (EI.ext O.2) e11 (by rw [hml]; rfl) [] (lenOf pd_4 rfl) rfl (Nat.le_of_ble_eq_true rfl) (hb hby d14_32) (by decide) (by decide) 35 rfl ?_
        rintro _ T12 L12 X12 ⟨rfl, N12q, eH12⟩
        have N12 := Fr.app N4 N12q
        show Own.Go p e below _ (T12.setTop (mkF m 35 #[.val (.ref t), .val (.int (2 : Int32)), .val (.int (0 : Int32)), .val (.int x)] [(.int (if wsP x then 1 else 0))]))
        refine Own.g_if_ne X12 hx (hb hby d14_35) 41 38 (by decide) rfl ?_ ?_
        · intro qw
          have w_x : wsP x := Own.if1_ne qw
          refine Own.g_iinc X12 hx #[.val (.ref t), .val (.int (2 : Int32)), .val (.int (1 : Int32)), .val (.int x)] (hb hby d14_41) rfl rfl 44 rfl ?_
          refine Own.g_goto X12 hx (hb hby d14_44) 5 (by decide) ?_
          refine Own.g_iloadN X12 hx (hb hby d14_5) rfl 6 rfl ?_
          refine Own.g_iloadN X12 hx (hb hby d14_6) rfl 7 rfl ?_
          refine Own.g_icmp_ge_f X12 hx (hb hby d14_7) (by decide) 10 rfl ?_
          refine Own.g_aloadN X12 hx (hb hby d14_10) rfl rfl 11 rfl ?_
          refine Own.g_iloadN X12 hx (hb hby d14_11) rfl 12 rfl ?_
          refine Own.g_callS X12 hx (y := (⟨"java/lang/StringLatin1", "getChar", "([BI)C"⟩ : MethodName)) hown (mvT hZ (hw _ (List.mem_of_getElem? (i := 66) rfl))) (mvT hZ (hw _ (List.mem_of_getElem? (i := 67) rfl))) (mvT hZ (hw _ (List.mem_of_getElem? (i := 64) rfl))) (mvT hZ (hw _ (List.mem_of_getElem? (i := 68) rfl))) (by decide) [.ref t, .int (1 : Int32)] (Own.back (W := 0) (rm_gc l Z a0 hw [] t k (2 : Int32) _ (1 : Int32) (y.toInt8.toInt32) y h0 n0 O V_t (by decide) rfl (Own.lo_lat L_y) L_y) hZ (hw _ (List.mem_of_getElem? (i := 68) rfl)) (hw _ (List.mem_of_getElem? (i := 64) rfl)) (by decide) (by decide)) eH12 (by rw [hml]; rfl) [] (lenOf pd_3 rfl) rfl (Nat.le_of_ble_eq_true rfl) (hb hby d14_12) (by decide) (by decide) 15 rfl ?_
          rintro _ T13 L13 X13 ⟨rfl, N13q, eH13⟩
          have N13 := Fr.app N12 N13q
          show Own.Go p e below _ (T13.setTop (mkF m 15 #[.val (.ref t), .val (.int (2 : Int32)), .val (.int (1 : Int32)), .val (.int x)] [(.int y)]))
          refine Own.g_istoreN X13 hx #[.val (.ref t), .val (.int (2 : Int32)), .val (.int (1 : Int32)), .val (.int y)] (hb hby d14_15) rfl 16 rfl ?_
          refine Own.g_iloadN X13 hx (hb hby d14_16) rfl 17 rfl ?_
          refine Own.g_bipush X13 hx (32 : Int32) (hb hby d14_17) rfl 19 rfl ?_
          refine Own.g_icmp_eq X13 hx (hb hby d14_19) 41 22 (by decide) rfl ?_ ?_
          · intro q32
            have w_y : wsP y := ws32 q32
            refine Own.g_iinc X13 hx #[.val (.ref t), .val (.int (2 : Int32)), .val (.int (2 : Int32)), .val (.int y)] (hb hby d14_41) rfl rfl 44 rfl ?_
            refine Own.g_goto X13 hx (hb hby d14_44) 5 (by decide) ?_
            refine Own.g_iloadN X13 hx (hb hby d14_5) rfl 6 rfl ?_
            refine Own.g_iloadN X13 hx (hb hby d14_6) rfl 7 rfl ?_
            exact absurd ⟨w_x, w_y⟩ hn
          · intro q32
            refine Own.g_iloadN X13 hx (hb hby d14_22) rfl 23 rfl ?_
            refine Own.g_bipush X13 hx (9 : Int32) (hb hby d14_23) rfl 25 rfl ?_
            refine Own.g_icmp_eq X13 hx (hb hby d14_25) 41 28 (by decide) rfl ?_ ?_
            · intro q9
              have w_y : wsP y := ws9 q9
              refine Own.g_iinc X13 hx #[.val (.ref t), .val (.int (2 : Int32)), .val (.int (2 : Int32)), .val (.int y)] (hb hby d14_41) rfl rfl 44 rfl ?_
              refine Own.g_goto X13 hx (hb hby d14_44) 5 (by decide) ?_
              refine Own.g_iloadN X13 hx (hb hby d14_5) rfl 6 rfl ?_
              refine Own.g_iloadN X13 hx (hb hby d14_6) rfl 7 rfl ?_
              exact absurd ⟨w_x, w_y⟩ hn
            · intro q9
              refine Own.g_getS X13 hx hZ hown (host := "") (Or.inl (hw _ (List.mem_of_getElem? (i := 69) rfl))) Via.refl eH13 (SI.ext O.2) (hb hby d14_28) 31 rfl ?_
              intro T14 X14 e14
              refine Own.g_iloadN X14 hx (hb hby d14_31) rfl 32 rfl ?_
              refine Own.g_virtual X14 hx hZ (y := (⟨"java/lang/CharacterDataLatin1", "isWhitespace", "(I)Z"⟩ : MethodName)) (z := (⟨"java/lang/CharacterDataLatin1", "isWhitespace", "(I)Z"⟩ : MethodName)) hown (mvT hZ (hw _ (List.mem_of_getElem? (i := 71) rfl))) (mvT hZ (hw _ (List.mem_of_getElem? (i := 72) rfl))) (notFace_of_selects (args := #[]) (mvT hZ (hw _ (List.mem_of_getElem? (i := 74) rfl)))) (mvT hZ (hw _ (List.mem_of_getElem? (i := 74) rfl))) (mvT hZ (hw _ (List.mem_of_getElem? (i := 73) rfl))) (by decide) (a := inst) [.int y] (Own.back (W := 0) (rm_iw l Z a0 hw [] y ta ka inst h0 n0 O L_y SA AA SI EI) hZ (hw _ (List.mem_of_getElem? (i := 75) rfl)) (hw _ (List.mem_of_getElem? (i := 70) rfl)) (by decide) (by decide)) (EI.ext O.2) e14 (by rw [hml]; rfl) [] (lenOf pd_4 rfl) rfl (Nat.le_of_ble_eq_true rfl) (hb hby d14_32) (by decide) (by decide) 35 rfl ?_
              rintro _ T15 L15 X15 ⟨rfl, N15q, eH15⟩
              have N15 := Fr.app N13 N15q
              show Own.Go p e below _ (T15.setTop (mkF m 35 #[.val (.ref t), .val (.int (2 : Int32)), .val (.int (1 : Int32)), .val (.int y)] [(.int (if wsP y then 1 else 0))]))
              refine Own.g_if_ne X15 hx (hb hby d14_35) 41 38 (by decide) rfl ?_ ?_
              · intro qw
                have w_y : wsP y := Own.if1_ne qw
                refine Own.g_iinc X15 hx #[.val (.ref t), .val (.int (2 : Int32)), .val (.int (2 : Int32)), .val (.int y)] (hb hby d14_41) rfl rfl 44 rfl ?_
                refine Own.g_goto X15 hx (hb hby d14_44) 5 (by decide) ?_
                refine Own.g_iloadN X15 hx (hb hby d14_5) rfl 6 rfl ?_
                refine Own.g_iloadN X15 hx (hb hby d14_6) rfl 7 rfl ?_
                exact absurd ⟨w_x, w_y⟩ hn
              · intro qw
                refine Own.g_goto X15 hx (hb hby d14_38) 47 (by decide) ?_
                refine Own.g_iloadN X15 hx (hb hby d14_47) rfl 48 rfl ?_
                refine Own.g_ret X15 hx hret hlocks rfl (Or.inl ⟨rfl, by simp, _, rfl⟩) (hb hby d14_48) (by decide) (by decide) eH15 ?_
                exact ⟨_, rfl, (show ¬ (1 : Int32) = (2 : Int32) by decide), N15, rfl⟩
        · intro qw
          refine Own.g_goto X12 hx (hb hby d14_38) 47 (by decide) ?_
          refine Own.g_iloadN X12 hx (hb hby d14_47) rfl 48 rfl ?_
          refine Own.g_ret X12 hx hret hlocks rfl (Or.inl ⟨rfl, by simp, _, rfl⟩) (hb hby d14_48) (by decide) (by decide) eH12 ?_
          exact ⟨_, rfl, (show ¬ (0 : Int32) = (2 : Int32) by decide), N12, rfl⟩
theorem ef_isl (m : MethodId) (x0 : Addr) : entryFrame m #[.ref x0] 1 = mkF m 0 #[.val (.ref x0)] [] := by first | (simp [entryFrame, mkF, argsToLocals, Value.category]; done) | rfl
def Q_isl (Z : State) (b : Addr) (G1 : Int32) (h0 : Heap) (n0 : Nat) (v : Option Value) (h : Heap) (L : List Loc) : Prop := v = some (.int 1) ∧ Fr n0 L ∧ h = h0
set_option maxRecDepth 65536 in
set_option maxHeartbeats 40000000 in
theorem rm_isl (l : Launch) (Z : State) (a0 : Array Value) (hw : ∀ d ∈ tables_1, d.before a0 Z = true) (ws : List Jvm.Cond) (b : Addr) (G1 : Int32) (h0 : Heap) (n0 : Nat) (O : Old Z n0 h0) (O2 : Sta Z Z.heap "java/lang/String" "COMPACT_STRINGS" "Z" (.int G1)) (P5 : ¬ (G1 = (0 : Int32))) (F_b_coder : Fld Z h0 b "java/lang/String" "coder" "B" (.int 0)) :
    MetFree l (⟨"java/lang/String", "isLatin1", "()Z"⟩ : MethodName) (head1 (Jvm.Cond.code (⟨"java/lang/String", "isLatin1", "()Z"⟩ : MethodName) jdk_42_method_154_code 1 (some .boolean) :: ws) ({ frames := 0, cells := 0, slots := 0, locals := 0 } : Room)) (fun aa U => aa = #[.ref b] ∧ Z.Warmed39 U.vm ∧ U.heap = h0) (fun _ _ _ _ _ => True) (fun _ U o U' => Own.End U (Q_isl Z b G1 h0 n0) 0 0 o U') := by
  refine MetFree.of_bodySF (plainFor_of_name pn_3) hisR ?_
  intro p e s m args below meth c s₁ Bd hml0 hP hK
  obtain ⟨rfl, hZ, hh⟩ := hP
  have hx := Bd.exec
  have hby := Bd.bytes
  have hml : c.maxLocals = 1 := hml0
  have hown : s.vm.findClass "java/lang/String" = some m.cls := findClass_of_methodNamed Bd.named
  have hnm := (name_of_methodNamed Bd.named Bd.method).1
  have hret := Bd.returns
  have hlocks : meth.locks = false := Bd.notSynchronized
  have X0 : Stand p l e ({ frames := 0, cells := 0, slots := 0, locals := 0 } : Room) s m #[.ref b] below meth c s₁ [] 0 0 := Stand.of_body Bd
  have e0 : s₁.heap = h0 := by rw [← hh, Bd.state]; rfl
  have N0 := Fr.nil n0
  show Own.Go p e below (Own.End s (Q_isl Z b G1 h0 n0) 0 0) (s₁.setTop (entryFrame m #[.ref b] 1))
  refine Own.Go.eq (ef_isl m b) ?_
  refine Own.g_getS X0 hx hZ hown (host := "") (Or.inl (hw _ (List.mem_of_getElem? (i := 24) rfl))) Via.refl e0 (O2.ext O.2) (hb hby d13_0) 3 rfl ?_
  intro T1 X1 e1
  refine Own.g_if_eq_f X1 hx (hb hby d13_3) P5 6 rfl ?_
  refine Own.g_aloadN X1 hx (hb hby d13_6) rfl rfl 7 rfl ?_
  refine Own.g_getF X1 hx hZ hown (host := "") (Or.inl (hw _ (List.mem_of_getElem? (i := 36) rfl))) Via.refl e1 F_b_coder (hb hby d13_7) 10 rfl ?_
  intro T2 X2 e2
  refine Own.g_if_ne_f X2 hx (hb hby d13_10) rfl 13 rfl ?_
  refine Own.g_iconst X2 hx (1 : Int32) (hb hby d13_13) rfl 14 rfl ?_
  refine Own.g_goto X2 hx (hb hby d13_14) 18 (by decide) ?_
  refine Own.g_ret X2 hx hret hlocks rfl (Or.inl ⟨rfl, by simp, _, rfl⟩) (hb hby d13_18) (by decide) (by decide) e2 ?_
  exact ⟨rfl, N0, rfl⟩
theorem ef_inw (m : MethodId) (x0 : Addr) : entryFrame m #[.ref x0] 1 = mkF m 0 #[.val (.ref x0)] [] := by first | (simp [entryFrame, mkF, argsToLocals, Value.category]; done) | rfl
def Q_inw (Z : State) (b : Addr) (t : Addr) (k : ClassId) (cs : List Int32) (G1 : Int32) (ta : Addr) (ka : ClassId) (inst : Addr) (h0 : Heap) (n0 : Nat) (v : Option Value) (h : Heap) (L : List Loc) : Prop := ∃ r : Int32, v = some (.int r) ∧ ¬ r = Int32.ofNat cs.length ∧ Fr n0 L ∧ h = h0
set_option maxRecDepth 65536 in
set_option maxHeartbeats 40000000 in
theorem rm_inw (l : Launch) (Z : State) (a0 : Array Value) (hw : ∀ d ∈ tables_1, d.before a0 Z = true) (ws : List Jvm.Cond) (b : Addr) (t : Addr) (k : ClassId) (cs : List Int32) (G1 : Int32) (ta : Addr) (ka : ClassId) (inst : Addr) (h0 : Heap) (n0 : Nat) (O : Old Z n0 h0) (O2 : Sta Z Z.heap "java/lang/String" "COMPACT_STRINGS" "Z" (.int G1)) (P5 : ¬ (G1 = (0 : Int32))) (nb : NB cs) (lat : ∀ c ∈ cs, Own.Lat c) (l4 : cs.length ≤ 4000) (SA : Sta Z Z.heap "java/lang/CharacterDataLatin1" "A" "[I" (.ref ta)) (AA : Arv Z Z.heap ta ka .int 256 (TABL.map Value.int) (.int 0)) (SI : Sta Z Z.heap "java/lang/CharacterDataLatin1" "instance" "Ljava/lang/CharacterDataLatin1;" (.ref inst)) (EI : Exa Z Z.heap inst "java/lang/CharacterDataLatin1") (E_b : Exa Z h0 b "java/lang/String") (F_b_value : Fld Z h0 b "java/lang/String" "value" "[B" (.ref t)) (F_b_coder : Fld Z h0 b "java/lang/String" "coder" "B" (.int 0)) (V_t : Arv Z h0 t k .byte (Int32.ofNat (cs).length) (((cs).map fun c => c.toInt8.toInt32).map Value.int) (.int 0)) :
    MetFree l (⟨"java/lang/String", "indexOfNonWhitespace", "()I"⟩ : MethodName) (head1 (Jvm.Cond.code (⟨"java/lang/String", "indexOfNonWhitespace", "()I"⟩ : MethodName) jdk_42_method_120_code 1 (some .int) :: ws) ({ frames := 3, cells := 0, slots := 0, locals := 45 } : Room)) (fun aa U => aa = #[.ref b] ∧ Z.Warmed39 U.vm ∧ U.heap = h0) (fun _ _ _ _ _ => True) (fun _ U o U' => Own.End U (Q_inw Z b t k cs G1 ta ka inst h0 n0) 0 0 o U') := by
  refine MetFree.of_bodySF (plainFor_of_name pn_3) hisR ?_
  intro p e s m args below meth c s₁ Bd hml0 hP hK
  obtain ⟨rfl, hZ, hh⟩ := hP
  have hx := Bd.exec
  have hby := Bd.bytes
  have hml : c.maxLocals = 1 := hml0
  have hown : s.vm.findClass "java/lang/String" = some m.cls := findClass_of_methodNamed Bd.named
  have hnm := (name_of_methodNamed Bd.named Bd.method).1
  have hret := Bd.returns
  have hlocks : meth.locks = false := Bd.notSynchronized
  have X0 : Stand p l e ({ frames := 3, cells := 0, slots := 0, locals := 45 } : Room) s m #[.ref b] below meth c s₁ [] 0 0 := Stand.of_body Bd
  have e0 : s₁.heap = h0 := by rw [← hh, Bd.state]; rfl
  have N0 := Fr.nil n0
  show Own.Go p e below (Own.End s (Q_inw Z b t k cs G1 ta ka inst h0 n0) 0 0) (s₁.setTop (entryFrame m #[.ref b] 1))
  refine Own.Go.eq (ef_inw m b) ?_
  refine Own.g_aloadN X0 hx (hb hby d12_0) rfl rfl 1 rfl ?_
  refine Own.g_virtual X0 hx hZ (y := (⟨"java/lang/String", "isLatin1", "()Z"⟩ : MethodName)) (z := (⟨"java/lang/String", "isLatin1", "()Z"⟩ : MethodName)) hown (mvT hZ (hw _ (List.mem_of_getElem? (i := 57) rfl))) (mvT hZ (hw _ (List.mem_of_getElem? (i := 58) rfl))) (notFace_of_selects (args := #[]) (mvT hZ (hw _ (List.mem_of_getElem? (i := 60) rfl)))) (mvT hZ (hw _ (List.mem_of_getElem? (i := 60) rfl))) (mvT hZ (hw _ (List.mem_of_getElem? (i := 59) rfl))) (by decide) (a := b) [] (Own.back (W := 0) (rm_isl l Z a0 hw [] b G1 h0 n0 O O2 P5 F_b_coder) hZ (hw _ (List.mem_of_getElem? (i := 61) rfl)) (hw _ (List.mem_of_getElem? (i := 12) rfl)) (by decide) (by decide)) E_b e0 (by rw [hml]; rfl) [] (lenOf pd_5 rfl) rfl (Nat.le_of_ble_eq_true rfl) (hb hby d12_1) (by decide) (by decide) 4 rfl ?_
  rintro _ T1 L1 X1 ⟨rfl, N1q, eH1⟩
  have N1 := Fr.app N0 N1q
  show Own.Go p e below _ (T1.setTop (mkF m 4 #[.val (.ref b)] [(.int (1 : Int32))]))
  refine Own.g_if_eq_f X1 hx (hb hby d12_4) (by decide) 7 rfl ?_
  refine Own.g_aloadN X1 hx (hb hby d12_7) rfl rfl 8 rfl ?_
  refine Own.g_getF X1 hx hZ hown (host := "") (Or.inl (hw _ (List.mem_of_getElem? (i := 38) rfl))) Via.refl eH1 F_b_value (hb hby d12_8) 11 rfl ?_
  intro T2 X2 e2
  refine Own.g_callS X2 hx (y := (⟨"java/lang/StringLatin1", "indexOfNonWhitespace", "([B)I"⟩ : MethodName)) hown (mvT hZ (hw _ (List.mem_of_getElem? (i := 62) rfl))) (mvT hZ (hw _ (List.mem_of_getElem? (i := 63) rfl))) (mvT hZ (hw _ (List.mem_of_getElem? (i := 64) rfl))) (mvT hZ (hw _ (List.mem_of_getElem? (i := 65) rfl))) (by decide) [.ref t] (Own.back (W := 0) (rm_l1 l Z a0 hw [] t k cs ta ka inst h0 n0 O V_t nb lat SA AA SI EI) hZ (hw _ (List.mem_of_getElem? (i := 65) rfl)) (hw _ (List.mem_of_getElem? (i := 64) rfl)) (by decide) (by decide)) e2 (by rw [hml]; rfl) [] (lenOf pd_6 rfl) rfl (Nat.le_of_ble_eq_true rfl) (hb hby d12_11) (by decide) (by decide) 14 rfl ?_
  rintro _ T3 L3 X3 ⟨r3, rfl, hr3, N3q, eH3⟩
  have N3 := Fr.app N1 N3q
  show Own.Go p e below _ (T3.setTop (mkF m 14 #[.val (.ref b)] [(.int r3)]))
  refine Own.g_goto X3 hx (hb hby d12_14) 24 (by decide) ?_
  refine Own.g_ret X3 hx hret hlocks rfl (Or.inl ⟨rfl, by simp, _, rfl⟩) (hb hby d12_24) (by decide) (by decide) eH3 ?_
  exact ⟨_, rfl, hr3, N3, rfl⟩
theorem ef_isb (m : MethodId) (x0 : Addr) : entryFrame m #[.ref x0] 1 = mkF m 0 #[.val (.ref x0)] [] := by first | (simp [entryFrame, mkF, argsToLocals, Value.category]; done) | rfl
def Q_isb (Z : State) (b : Addr) (t : Addr) (k : ClassId) (cs : List Int32) (G1 : Int32) (ta : Addr) (ka : ClassId) (inst : Addr) (h0 : Heap) (n0 : Nat) (v : Option Value) (h : Heap) (L : List Loc) : Prop := v = some (.int 0) ∧ Fr n0 L ∧ h = h0
set_option maxRecDepth 65536 in
set_option maxHeartbeats 40000000 in
theorem rm_isb (l : Launch) (Z : State) (a0 : Array Value) (hw : ∀ d ∈ tables_1, d.before a0 Z = true) (ws : List Jvm.Cond) (b : Addr) (t : Addr) (k : ClassId) (cs : List Int32) (G1 : Int32) (ta : Addr) (ka : ClassId) (inst : Addr) (h0 : Heap) (n0 : Nat) (O : Old Z n0 h0) (O2 : Sta Z Z.heap "java/lang/String" "COMPACT_STRINGS" "Z" (.int G1)) (P5 : ¬ (G1 = (0 : Int32))) (nb : NB cs) (lat : ∀ c ∈ cs, Own.Lat c) (l4 : cs.length ≤ 4000) (SA : Sta Z Z.heap "java/lang/CharacterDataLatin1" "A" "[I" (.ref ta)) (AA : Arv Z Z.heap ta ka .int 256 (TABL.map Value.int) (.int 0)) (SI : Sta Z Z.heap "java/lang/CharacterDataLatin1" "instance" "Ljava/lang/CharacterDataLatin1;" (.ref inst)) (EI : Exa Z Z.heap inst "java/lang/CharacterDataLatin1") (E_b : Exa Z h0 b "java/lang/String") (F_b_value : Fld Z h0 b "java/lang/String" "value" "[B" (.ref t)) (F_b_coder : Fld Z h0 b "java/lang/String" "coder" "B" (.int 0)) (V_t : Arv Z h0 t k .byte (Int32.ofNat (cs).length) (((cs).map fun c => c.toInt8.toInt32).map Value.int) (.int 0)) :
    MetFree l (⟨"java/lang/String", "isBlank", "()Z"⟩ : MethodName) (head1 (Jvm.Cond.code (⟨"java/lang/String", "isBlank", "()Z"⟩ : MethodName) jdk_42_method_117_code 1 (some .boolean) :: ws) ({ frames := 4, cells := 0, slots := 0, locals := 58 } : Room)) (fun aa U => aa = #[.ref b] ∧ Z.Warmed39 U.vm ∧ U.heap = h0) (fun _ _ _ _ _ => True) (fun _ U o U' => Own.End U (Q_isb Z b t k cs G1 ta ka inst h0 n0) 0 0 o U') := by
  refine MetFree.of_bodySF (plainFor_of_name pn_3) hisR ?_
  intro p e s m args below meth c s₁ Bd hml0 hP hK
  obtain ⟨rfl, hZ, hh⟩ := hP
  have hx := Bd.exec
  have hby := Bd.bytes
  have hml : c.maxLocals = 1 := hml0
  have hown : s.vm.findClass "java/lang/String" = some m.cls := findClass_of_methodNamed Bd.named
  have hnm := (name_of_methodNamed Bd.named Bd.method).1
  have hret := Bd.returns
  have hlocks : meth.locks = false := Bd.notSynchronized
  have X0 : Stand p l e ({ frames := 4, cells := 0, slots := 0, locals := 58 } : Room) s m #[.ref b] below meth c s₁ [] 0 0 := Stand.of_body Bd
  have e0 : s₁.heap = h0 := by rw [← hh, Bd.state]; rfl
  have N0 := Fr.nil n0
  show Own.Go p e below (Own.End s (Q_isb Z b t k cs G1 ta ka inst h0 n0) 0 0) (s₁.setTop (entryFrame m #[.ref b] 1))
  refine Own.Go.eq (ef_isb m b) ?_
  have hln : ∀ d ∈ StrChars.Road.wordsLen, d.before a0 Z = true := fun d hd => hw d ((by decide +kernel : ∀ d ∈ StrChars.Road.wordsLen, d ∈ tables_1) d hd)
  refine Own.g_aloadN X0 hx (hb hby d11_0) rfl rfl 1 rfl ?_
  refine Own.g_private X0 hx hZ (y := (⟨"java/lang/String", "indexOfNonWhitespace", "()I"⟩ : MethodName)) hown (mvT hZ (hw _ (List.mem_of_getElem? (i := 52) rfl))) (mvT hZ (hw _ (List.mem_of_getElem? (i := 53) rfl))) (mvT hZ (hw _ (List.mem_of_getElem? (i := 55) rfl))) (hw _ (List.mem_of_getElem? (i := 54) rfl)) (mvT hZ (hw _ (List.mem_of_getElem? (i := 56) rfl))) (by decide) (a := b) [] (Own.back (W := 0) (rm_inw l Z a0 hw [] b t k cs G1 ta ka inst h0 n0 O O2 P5 nb lat l4 SA AA SI EI E_b F_b_value F_b_coder V_t) hZ (hw _ (List.mem_of_getElem? (i := 56) rfl)) (hw _ (List.mem_of_getElem? (i := 12) rfl)) (by decide) (by decide)) E_b e0 (by rw [hml]; rfl) [] (lenOf pd_7 rfl) rfl (Nat.le_of_ble_eq_true rfl) (hb hby d11_1) (by decide) (by decide) 4 rfl ?_
  rintro _ T1 L1 X1 ⟨r1, rfl, hr1, N1q, eH1⟩
  have N1 := Fr.app N0 N1q
  show Own.Go p e below _ (T1.setTop (mkF m 4 #[.val (.ref b)] [(.int r1)]))
  refine Own.g_aloadN X1 hx (hb hby d11_4) rfl rfl 5 rfl ?_
  refine Own.g_virtual X1 hx hZ (y := (⟨"java/lang/String", "length", "()I"⟩ : MethodName)) (z := (⟨"java/lang/String", "length", "()I"⟩ : MethodName)) hown (mvT hZ (hw _ (List.mem_of_getElem? (i := 82) rfl))) (mvT hZ (hw _ (List.mem_of_getElem? (i := 83) rfl))) (notFace_of_selects (args := #[]) (mvT hZ (hw _ (List.mem_of_getElem? (i := 85) rfl)))) (mvT hZ (hw _ (List.mem_of_getElem? (i := 85) rfl))) (mvT hZ (hw _ (List.mem_of_getElem? (i := 84) rfl))) (by decide) (a := b) [] (Q := (Own.QVal h0 (.int (Int32.ofNat cs.length)))) (StrChars.Road.lenW (W := 1) hZ hln (kI := 4) (hw _ (List.mem_of_getElem? (i := 11) rfl)) E_b F_b_value F_b_coder V_t (StrChars.Road.codOf rfl (fun c hc => (lat c hc).2)) (Own.lat_up lat) (O2.ext O.2) P5 l4 (by decide) (by decide)) E_b eH1 (by rw [hml]; rfl) [(.int r1)] (lenOf pd_7 rfl) rfl (Nat.le_of_ble_eq_true rfl) (hb hby d11_5) (by decide) (by decide) 8 rfl ?_
  rintro _ T2 L2 X2 ⟨rfl, rfl, eH2⟩
  have N2 := Fr.app N1 (Fr.nil n0)
  show Own.Go p e below _ (T2.setTop (mkF m 8 #[.val (.ref b)] [(.int (Int32.ofNat cs.length)), (.int r1)]))
  refine Own.g_icmp_ne_t X2 hx (hb hby d11_8) hr1 15 (by decide) ?_
  refine Own.g_iconst X2 hx (0 : Int32) (hb hby d11_15) rfl 16 rfl ?_
  refine Own.g_ret X2 hx hret hlocks rfl (Or.inl ⟨rfl, by simp, _, rfl⟩) (hb hby d11_16) (by decide) (by decide) eH2 ?_
  exact ⟨rfl, N2, rfl⟩
theorem ef_ti (m : MethodId) (x0 : Addr) (x1 : Addr) (x2 : Addr) : entryFrame m #[.ref x0, .ref x1, .ref x2] 3 = mkF m 0 #[.val (.ref x0), .val (.ref x1), .val (.ref x2)] [] := by first | (simp [entryFrame, mkF, argsToLocals, Value.category]; done) | rfl
def Q_ti (Z : State) (a1 : Addr) (b : Addr) (t : Addr) (k : ClassId) (cs : List Int32) (b2 : Addr) (t2 : Addr) (k2 : ClassId) (ds : List Int32) (G1 : Int32) (ta : Addr) (ka : ClassId) (inst : Addr) (h0 : Heap) (n0 : Nat) (v : Option Value) (h : Heap) (L : List Loc) : Prop := v = none ∧ Fr n0 L ∧ Keep h0 h [a1] ∧ Exa Z h a1 "com/example/astute_search/astutesearch/engine/Topic" ∧ Fld Z h a1 "com/example/astute_search/astutesearch/engine/Topic" "id" "Ljava/lang/String;" (.ref b) ∧ Fld Z h a1 "com/example/astute_search/astutesearch/engine/Topic" "text" "Ljava/lang/String;" (.ref b2)
set_option maxRecDepth 65536 in
set_option maxHeartbeats 40000000 in
theorem rm_ti (l : Launch) (Z : State) (a0 : Array Value) (hw : ∀ d ∈ tables_1, d.before a0 Z = true) (ws : List Jvm.Cond) (a1 : Addr) (b : Addr) (t : Addr) (k : ClassId) (cs : List Int32) (b2 : Addr) (t2 : Addr) (k2 : ClassId) (ds : List Int32) (G1 : Int32) (ta : Addr) (ka : ClassId) (inst : Addr) (h0 : Heap) (n0 : Nat) (O : Old Z n0 h0) (n0_a1 : n0 ≤ a1) (E_a1 : Exa Z h0 a1 "com/example/astute_search/astutesearch/engine/Topic") (F_a1_id : Fld Z h0 a1 "com/example/astute_search/astutesearch/engine/Topic" "id" "Ljava/lang/String;" .null) (F_a1_text : Fld Z h0 a1 "com/example/astute_search/astutesearch/engine/Topic" "text" "Ljava/lang/String;" .null) (O2 : Sta Z Z.heap "java/lang/String" "COMPACT_STRINGS" "Z" (.int G1)) (P5 : ¬ (G1 = (0 : Int32))) (nb : NB cs) (lat : ∀ c ∈ cs, Own.Lat c) (l4 : cs.length ≤ 4000) (nb2 : NB ds) (lat2 : ∀ c ∈ ds, Own.Lat c) (l42 : ds.length ≤ 4000) (SA : Sta Z Z.heap "java/lang/CharacterDataLatin1" "A" "[I" (.ref ta)) (AA : Arv Z Z.heap ta ka .int 256 (TABL.map Value.int) (.int 0)) (SI : Sta Z Z.heap "java/lang/CharacterDataLatin1" "instance" "Ljava/lang/CharacterDataLatin1;" (.ref inst)) (EI : Exa Z Z.heap inst "java/lang/CharacterDataLatin1") (E_b : Exa Z h0 b "java/lang/String") (F_b_value : Fld Z h0 b "java/lang/String" "value" "[B" (.ref t)) (F_b_coder : Fld Z h0 b "java/lang/String" "coder" "B" (.int 0)) (V_t : Arv Z h0 t k .byte (Int32.ofNat (cs).length) (((cs).map fun c => c.toInt8.toInt32).map Value.int) (.int 0)) (E_b2 : Exa Z h0 b2 "java/lang/String") (F_b2_value : Fld Z h0 b2 "java/lang/String" "value" "[B" (.ref t2)) (F_b2_coder : Fld Z h0 b2 "java/lang/String" "coder" "B" (.int 0)) (V_t2 : Arv Z h0 t2 k2 .byte (Int32.ofNat (ds).length) (((ds).map fun c => c.toInt8.toInt32).map Value.int) (.int 0)) :
    MetFree l (⟨"com/example/astute_search/astutesearch/engine/Topic", "<init>", "(Ljava/lang/String;Ljava/lang/String;)V"⟩ : MethodName) (head1 (Jvm.Cond.code (⟨"com/example/astute_search/astutesearch/engine/Topic", "<init>", "(Ljava/lang/String;Ljava/lang/String;)V"⟩ : MethodName) prog_31_method_1_code 3 none :: ws) ({ frames := 5, cells := 0, slots := 0, locals := 71 } : Room)) (fun aa U => aa = #[.ref a1, .ref b, .ref b2] ∧ Z.Warmed39 U.vm ∧ U.heap = h0) (fun _ _ _ _ _ => True) (fun _ U o U' => Own.End U (Q_ti Z a1 b t k cs b2 t2 k2 ds G1 ta ka inst h0 n0) 0 0 o U') := by
  refine MetFree.of_bodySF (plainFor_of_name pn_4) hisR ?_
  intro p e s m args below meth c s₁ Bd hml0 hP hK
  obtain ⟨rfl, hZ, hh⟩ := hP
  have hx := Bd.exec
  have hby := Bd.bytes
  have hml : c.maxLocals = 3 := hml0
  have hown : s.vm.findClass "com/example/astute_search/astutesearch/engine/Topic" = some m.cls := findClass_of_methodNamed Bd.named
  have hnm := (name_of_methodNamed Bd.named Bd.method).1
  have hret := Bd.returns
  have hlocks : meth.locks = false := Bd.notSynchronized
  have X0 : Stand p l e ({ frames := 5, cells := 0, slots := 0, locals := 71 } : Room) s m #[.ref a1, .ref b, .ref b2] below meth c s₁ [] 0 0 := Stand.of_body Bd
  have e0 : s₁.heap = h0 := by rw [← hh, Bd.state]; rfl
  have N0 := Fr.nil n0
  show Own.Go p e below (Own.End s (Q_ti Z a1 b t k cs b2 t2 k2 ds G1 ta ka inst h0 n0) 0 0) (s₁.setTop (entryFrame m #[.ref a1, .ref b, .ref b2] 3))
  refine Own.Go.eq (ef_ti m a1 b b2) ?_
  have KP : Keep h0 h0 [a1] := Keep.refl _ _
  refine Own.g_aloadN X0 hx (hb hby d10_0) rfl rfl 1 rfl ?_
  refine Own.g_initO X0 hx hZ hown (hw _ (List.mem_of_getElem? (i := 46) rfl)) (hw _ (List.mem_of_getElem? (i := 22) rfl)) (hw _ (List.mem_of_getElem? (i := 23) rfl)) e0 (by rw [hml]; rfl) (hb hby d10_1) (by decide) (W := 0) (Nat.le_of_ble_eq_true rfl) (by decide) 4 rfl ?_
  intro T1 X1 e1
  refine Own.g_aloadN X1 hx (hb hby d10_4) rfl rfl 5 rfl ?_
  refine Own.g_virtual X1 hx hZ (y := (⟨"java/lang/String", "isBlank", "()Z"⟩ : MethodName)) (z := (⟨"java/lang/String", "isBlank", "()Z"⟩ : MethodName)) hown (mvT hZ (hw _ (List.mem_of_getElem? (i := 47) rfl))) (mvT hZ (hw _ (List.mem_of_getElem? (i := 48) rfl))) (notFace_of_selects (args := #[]) (mvT hZ (hw _ (List.mem_of_getElem? (i := 50) rfl)))) (mvT hZ (hw _ (List.mem_of_getElem? (i := 50) rfl))) (mvT hZ (hw _ (List.mem_of_getElem? (i := 49) rfl))) (by decide) (a := b) [] (Own.back (W := 0) (rm_isb l Z a0 hw [] b t k cs G1 ta ka inst h0 n0 O O2 P5 nb lat l4 SA AA SI EI E_b F_b_value F_b_coder V_t) hZ (hw _ (List.mem_of_getElem? (i := 51) rfl)) (hw _ (List.mem_of_getElem? (i := 12) rfl)) (by decide) (by decide)) E_b e1 (by rw [hml]; rfl) [] (lenOf pd_5 rfl) rfl (Nat.le_of_ble_eq_true rfl) (hb hby d10_5) (by decide) (by decide) 8 rfl ?_
  rintro _ T2 L2 X2 ⟨rfl, N2q, eH2⟩
  have N2 := Fr.app N0 N2q
  show Own.Go p e below _ (T2.setTop (mkF m 8 #[.val (.ref a1), .val (.ref b), .val (.ref b2)] [(.int (0 : Int32))]))
  refine Own.g_if_ne_f X2 hx (hb hby d10_8) rfl 11 rfl ?_
  refine Own.g_aloadN X2 hx (hb hby d10_11) rfl rfl 12 rfl ?_
  refine Own.g_virtual X2 hx hZ (y := (⟨"java/lang/String", "isBlank", "()Z"⟩ : MethodName)) (z := (⟨"java/lang/String", "isBlank", "()Z"⟩ : MethodName)) hown (mvT hZ (hw _ (List.mem_of_getElem? (i := 47) rfl))) (mvT hZ (hw _ (List.mem_of_getElem? (i := 48) rfl))) (notFace_of_selects (args := #[]) (mvT hZ (hw _ (List.mem_of_getElem? (i := 50) rfl)))) (mvT hZ (hw _ (List.mem_of_getElem? (i := 50) rfl))) (mvT hZ (hw _ (List.mem_of_getElem? (i := 49) rfl))) (by decide) (a := b2) [] (Own.back (W := 0) (rm_isb l Z a0 hw [] b2 t2 k2 ds G1 ta ka inst h0 n0 O O2 P5 nb2 lat2 l42 SA AA SI EI E_b2 F_b2_value F_b2_coder V_t2) hZ (hw _ (List.mem_of_getElem? (i := 51) rfl)) (hw _ (List.mem_of_getElem? (i := 12) rfl)) (by decide) (by decide)) E_b2 eH2 (by rw [hml]; rfl) [] (lenOf pd_5 rfl) rfl (Nat.le_of_ble_eq_true rfl) (hb hby d10_12) (by decide) (by decide) 15 rfl ?_
  rintro _ T3 L3 X3 ⟨rfl, N3q, eH3⟩
  have N3 := Fr.app N2 N3q
  show Own.Go p e below _ (T3.setTop (mkF m 15 #[.val (.ref a1), .val (.ref b), .val (.ref b2)] [(.int (0 : Int32))]))
  refine Own.g_if_eq_t X3 hx (hb hby d10_15) rfl 33 (by decide) ?_
  refine Own.g_aloadN X3 hx (hb hby d10_33) rfl rfl 34 rfl ?_
  refine Own.g_aloadN X3 hx (hb hby d10_34) rfl rfl 35 rfl ?_
  refine Own.g_putF X3 hx hZ hown (host := "") (Or.inl (hw _ (List.mem_of_getElem? (i := 92) rfl))) Via.refl eH3 F_a1_id E_a1 (Or.inr ⟨(hw _ (List.mem_of_getElem? (i := 93) rfl)), rfl, hnm⟩) (hw _ (List.mem_of_getElem? (i := 41) rfl)) (ty := (.object "java/lang/String")) (by decide) rfl rfl (hb hby d10_35) 38 rfl ?_
  clear F_a1_id; intro T4 h4 X4 e4 W4 F_a1_id Ew4
  replace E_a1 := E_a1.wr W4
  replace F_a1_text := F_a1_text.other W4 (Or.inr (slot_ne (Or.inr (hw _ (List.mem_of_getElem? (i := 95) rfl))) (Or.inr (hw _ (List.mem_of_getElem? (i := 93) rfl))) (by decide) (t := (.object "java/lang/String")) (t' := (.object "java/lang/String")) (by decide) (by decide)))
  replace O := O.wr W4 n0_a1
  replace KP := KP.wr W4 (Or.inl (List.mem_of_getElem? (i := 0) rfl))
  have N4 := Fr.snoc X4 N3 n0_a1
  refine Own.g_aloadN X4 hx (hb hby d10_38) rfl rfl 39 rfl ?_
  refine Own.g_aloadN X4 hx (hb hby d10_39) rfl rfl 40 rfl ?_
  refine Own.g_putF X4 hx hZ hown (host := "") (Or.inl (hw _ (List.mem_of_getElem? (i := 94) rfl))) Via.refl e4 F_a1_text E_a1 (Or.inr ⟨(hw _ (List.mem_of_getElem? (i := 95) rfl)), rfl, hnm⟩) (hw _ (List.mem_of_getElem? (i := 41) rfl)) (ty := (.object "java/lang/String")) (by decide) rfl rfl (hb hby d10_40) 43 rfl ?_
  clear F_a1_text; intro T5 h5 X5 e5 W5 F_a1_text Ew5
  replace E_a1 := E_a1.wr W5
  replace F_a1_id := F_a1_id.other W5 (Or.inr (slot_ne (Or.inr (hw _ (List.mem_of_getElem? (i := 93) rfl))) (Or.inr (hw _ (List.mem_of_getElem? (i := 95) rfl))) (by decide) (t := (.object "java/lang/String")) (t' := (.object "java/lang/String")) (by decide) (by decide)))
  replace O := O.wr W5 n0_a1
  replace KP := KP.wr W5 (Or.inl (List.mem_of_getElem? (i := 0) rfl))
  have N5 := Fr.snoc X5 N4 n0_a1
  refine Own.g_retV X5 hx hret hlocks (hb hby d10_43) (by decide) (by decide) e5 ?_
  exact ⟨rfl, N5, KP, E_a1, F_a1_id, F_a1_text⟩
theorem ef_te (m : MethodId) (x0 : Addr) (x1 : Addr) : entryFrame m #[.ref x0, .ref x1] 3 = mkF m 0 #[.val (.ref x0), .val (.ref x1), .unset] [] := by first | (simp [entryFrame, mkF, argsToLocals, Value.category]; done) | rfl
def Q_te (Z : State) (a1 : Addr) (a2 : Addr) (b : Addr) (t : Addr) (k : ClassId) (cs : List Int32) (b2 : Addr) (t2 : Addr) (k2 : ClassId) (ds : List Int32) (ue : Addr) (uet : Addr) (uke : ClassId) (ues : List Int32) (ug : Addr) (ugt : Addr) (ukg : ClassId) (ugs : List Int32) (G1 : Int32) (h0 : Heap) (n0 : Nat) (v : Option Value) (h : Heap) (L : List Loc) : Prop := v = some (.int (if cs = ues ∧ ds = ugs then 1 else 0)) ∧ Fr n0 L ∧ h = h0
set_option maxRecDepth 65536 in
set_option maxHeartbeats 40000000 in
theorem rm_te (l : Launch) (Z : State) (a0 : Array Value) (hw : ∀ d ∈ tables_1, d.before a0 Z = true) (ws : List Jvm.Cond) (a1 : Addr) (a2 : Addr) (b : Addr) (t : Addr) (k : ClassId) (cs : List Int32) (b2 : Addr) (t2 : Addr) (k2 : ClassId) (ds : List Int32) (ue : Addr) (uet : Addr) (uke : ClassId) (ues : List Int32) (ug : Addr) (ugt : Addr) (ukg : ClassId) (ugs : List Int32) (G1 : Int32) (h0 : Heap) (n0 : Nat) (O : Old Z n0 h0) (E_a1 : Exa Z h0 a1 "com/example/astute_search/astutesearch/engine/Topic") (E_a2 : Exa Z h0 a2 "com/example/astute_search/astutesearch/engine/Topic") (F_a1_id : Fld Z h0 a1 "com/example/astute_search/astutesearch/engine/Topic" "id" "Ljava/lang/String;" (.ref b)) (F_a1_text : Fld Z h0 a1 "com/example/astute_search/astutesearch/engine/Topic" "text" "Ljava/lang/String;" (.ref b2)) (F_a2_id : Fld Z h0 a2 "com/example/astute_search/astutesearch/engine/Topic" "id" "Ljava/lang/String;" (.ref ue)) (F_a2_text : Fld Z h0 a2 "com/example/astute_search/astutesearch/engine/Topic" "text" "Ljava/lang/String;" (.ref ug)) (O2 : Sta Z Z.heap "java/lang/String" "COMPACT_STRINGS" "Z" (.int G1)) (P5 : ¬ (G1 = (0 : Int32))) (lat : ∀ c ∈ cs, Own.Lat c) (l4 : cs.length ≤ 4000) (lat2 : ∀ c ∈ ds, Own.Lat c) (l42 : ds.length ≤ 4000) (lat3 : ∀ c ∈ ues, Own.Lat c) (l43 : ues.length ≤ 4000) (lat4 : ∀ c ∈ ugs, Own.Lat c) (l44 : ugs.length ≤ 4000) (E_b : Exa Z h0 b "java/lang/String") (F_b_value : Fld Z h0 b "java/lang/String" "value" "[B" (.ref t)) (F_b_coder : Fld Z h0 b "java/lang/String" "coder" "B" (.int 0)) (V_t : Arv Z h0 t k .byte (Int32.ofNat (cs).length) (((cs).map fun c => c.toInt8.toInt32).map Value.int) (.int 0)) (E_b2 : Exa Z h0 b2 "java/lang/String") (F_b2_value : Fld Z h0 b2 "java/lang/String" "value" "[B" (.ref t2)) (F_b2_coder : Fld Z h0 b2 "java/lang/String" "coder" "B" (.int 0)) (V_t2 : Arv Z h0 t2 k2 .byte (Int32.ofNat (ds).length) (((ds).map fun c => c.toInt8.toInt32).map Value.int) (.int 0)) (E_ue : Exa Z h0 ue "java/lang/String") (F_ue_value : Fld Z h0 ue "java/lang/String" "value" "[B" (.ref uet)) (F_ue_coder : Fld Z h0 ue "java/lang/String" "coder" "B" (.int 0)) (V_uet : Arv Z h0 uet uke .byte (Int32.ofNat (ues).length) (((ues).map fun c => c.toInt8.toInt32).map Value.int) (.int 0)) (E_ug : Exa Z h0 ug "java/lang/String") (F_ug_value : Fld Z h0 ug "java/lang/String" "value" "[B" (.ref ugt)) (F_ug_coder : Fld Z h0 ug "java/lang/String" "coder" "B" (.int 0)) (V_ugt : Arv Z h0 ugt ukg .byte (Int32.ofNat (ugs).length) (((ugs).map fun c => c.toInt8.toInt32).map Value.int) (.int 0)) :
    MetFree l (⟨"com/example/astute_search/astutesearch/engine/Topic", "equals", "(Ljava/lang/Object;)Z"⟩ : MethodName) (head1 (Jvm.Cond.code (⟨"com/example/astute_search/astutesearch/engine/Topic", "equals", "(Ljava/lang/Object;)Z"⟩ : MethodName) prog_31_method_4_code 3 (some .boolean) :: ws) ({ frames := 2, cells := 0, slots := 0, locals := 28 } : Room)) (fun aa U => aa = #[.ref a1, .ref a2] ∧ Z.Warmed39 U.vm ∧ U.heap = h0) (fun _ _ _ _ _ => True) (fun _ U o U' => Own.End U (Q_te Z a1 a2 b t k cs b2 t2 k2 ds ue uet uke ues ug ugt ukg ugs G1 h0 n0) 0 0 o U') := by
  refine MetFree.of_bodySF (plainFor_of_name pn_4) hisR ?_
  intro p e s m args below meth c s₁ Bd hml0 hP hK
  obtain ⟨rfl, hZ, hh⟩ := hP
  have hx := Bd.exec
  have hby := Bd.bytes
  have hml : c.maxLocals = 3 := hml0
  have hown : s.vm.findClass "com/example/astute_search/astutesearch/engine/Topic" = some m.cls := findClass_of_methodNamed Bd.named
  have hnm := (name_of_methodNamed Bd.named Bd.method).1
  have hret := Bd.returns
  have hlocks : meth.locks = false := Bd.notSynchronized
  have X0 : Stand p l e ({ frames := 2, cells := 0, slots := 0, locals := 28 } : Room) s m #[.ref a1, .ref a2] below meth c s₁ [] 0 0 := Stand.of_body Bd
  have e0 : s₁.heap = h0 := by rw [← hh, Bd.state]; rfl
  have N0 := Fr.nil n0
  show Own.Go p e below (Own.End s (Q_te Z a1 a2 b t k cs b2 t2 k2 ds ue uet uke ues ug ugt ukg ugs G1 h0 n0) 0 0) (s₁.setTop (entryFrame m #[.ref a1, .ref a2] 3))
  refine Own.Go.eq (ef_te m a1 a2) ?_
  have heq : ∀ d ∈ StrChars.Road.wordsEq, d.before a0 Z = true := fun d hd => hw d ((by decide +kernel : ∀ d ∈ StrChars.Road.wordsEq, d ∈ tables_1) d hd)
  refine Own.g_aloadN X0 hx (hb hby d21_0) rfl rfl 1 rfl ?_
  refine Own.g_instY X0 hx hZ hown (hw _ (List.mem_of_getElem? (i := 104) rfl)) e0 (Ins.self E_a2) (hb hby d21_1) 4 rfl ?_
  intro T1 X1 e1
  refine Own.g_if_eq_f X1 hx (hb hby d21_4) (by decide) 7 rfl ?_
  refine Own.g_aloadN X1 hx (hb hby d21_7) rfl rfl 8 rfl ?_
  refine Own.g_castY X1 hx hZ hown (hw _ (List.mem_of_getElem? (i := 104) rfl)) e1 (Ins.self E_a2) (hb hby d21_8) 11 rfl ?_
  intro T2 X2 e2
  refine Own.g_astoreN X2 hx #[.val (.ref a1), .val (.ref a2), .val (.ref a2)] (hb hby d21_11) rfl rfl 12 rfl ?_
  refine Own.g_goto X2 hx (hb hby d21_12) 17 (by decide) ?_
  refine Own.g_aloadN X2 hx (hb hby d21_17) rfl rfl 18 rfl ?_
  refine Own.g_getF X2 hx hZ hown (host := "") (Or.inl (hw _ (List.mem_of_getElem? (i := 92) rfl))) Via.refl e2 F_a1_id (hb hby d21_18) 21 rfl ?_
  intro T3 X3 e3
  refine Own.g_aloadN X3 hx (hb hby d21_21) rfl rfl 22 rfl ?_
  refine Own.g_getF X3 hx hZ hown (host := "") (Or.inl (hw _ (List.mem_of_getElem? (i := 92) rfl))) Via.refl e3 F_a2_id (hb hby d21_22) 25 rfl ?_
  intro T4 X4 e4
  refine Own.g_virtual X4 hx hZ (y := (⟨"java/lang/String", "equals", "(Ljava/lang/Object;)Z"⟩ : MethodName)) (z := (⟨"java/lang/String", "equals", "(Ljava/lang/Object;)Z"⟩ : MethodName)) hown (mvT hZ (hw _ (List.mem_of_getElem? (i := 106) rfl))) (mvT hZ (hw _ (List.mem_of_getElem? (i := 107) rfl))) (notFace_of_selects (args := #[]) (mvT hZ (hw _ (List.mem_of_getElem? (i := 109) rfl)))) (mvT hZ (hw _ (List.mem_of_getElem? (i := 109) rfl))) (mvT hZ (hw _ (List.mem_of_getElem? (i := 108) rfl))) (by decide) (a := b) [.ref ue] (Q := (Own.QEq h0 cs ues)) (StrChars.Road.eqW (W := 0) hZ heq (kI := 4) (hw _ (List.mem_of_getElem? (i := 11) rfl)) E_b F_b_value F_b_coder V_t (StrChars.Road.codOf rfl (fun c hc => (lat c hc).2)) (Own.lat_up lat) l4 E_ue F_ue_value F_ue_coder V_uet (StrChars.Road.codOf rfl (fun c hc => (lat3 c hc).2)) (Own.lat_up lat3) l43 (O2.ext O.2) P5 (by decide) (by decide)) E_b e4 (by rw [hml]; rfl) [] (lenOf pd_8 rfl) rfl (Nat.le_of_ble_eq_true rfl) (hb hby d21_25) (by decide) (by decide) 28 rfl ?_
  rintro v1 T5 L5 X5 ⟨hv, rfl, eH5⟩
  have N5 := Fr.app N0 (Fr.nil n0)
  rcases hv with ⟨rfl, q1⟩ | ⟨rfl, q1⟩
  · show Own.Go p e below _ (T5.setTop (mkF m 28 #[.val (.ref a1), .val (.ref a2), .val (.ref a2)] [(.int (1 : Int32))]))
    refine Own.g_if_eq_f X5 hx (hb hby d21_28) (by decide) 31 rfl ?_
    refine Own.g_aloadN X5 hx (hb hby d21_31) rfl rfl 32 rfl ?_
    refine Own.g_getF X5 hx hZ hown (host := "") (Or.inl (hw _ (List.mem_of_getElem? (i := 94) rfl))) Via.refl eH5 F_a1_text (hb hby d21_32) 35 rfl ?_
    intro T6 X6 e6
    refine Own.g_aloadN X6 hx (hb hby d21_35) rfl rfl 36 rfl ?_
    refine Own.g_getF X6 hx hZ hown (host := "") (Or.inl (hw _ (List.mem_of_getElem? (i := 94) rfl))) Via.refl e6 F_a2_text (hb hby d21_36) 39 rfl ?_
    intro T7 X7 e7
    refine Own.g_virtual X7 hx hZ (y := (⟨"java/lang/String", "equals", "(Ljava/lang/Object;)Z"⟩ : MethodName)) (z := (⟨"java/lang/String", "equals", "(Ljava/lang/Object;)Z"⟩ : MethodName)) hown (mvT hZ (hw _ (List.mem_of_getElem? (i := 106) rfl))) (mvT hZ (hw _ (List.mem_of_getElem? (i := 107) rfl))) (notFace_of_selects (args := #[]) (mvT hZ (hw _ (List.mem_of_getElem? (i := 109) rfl)))) (mvT hZ (hw _ (List.mem_of_getElem? (i := 109) rfl))) (mvT hZ (hw _ (List.mem_of_getElem? (i := 108) rfl))) (by decide) (a := b2) [.ref ug] (Q := (Own.QEq h0 ds ugs)) (StrChars.Road.eqW (W := 0) hZ heq (kI := 4) (hw _ (List.mem_of_getElem? (i := 11) rfl)) E_b2 F_b2_value F_b2_coder V_t2 (StrChars.Road.codOf rfl (fun c hc => (lat2 c hc).2)) (Own.lat_up lat2) l42 E_ug F_ug_value F_ug_coder V_ugt (StrChars.Road.codOf rfl (fun c hc => (lat4 c hc).2)) (Own.lat_up lat4) l44 (O2.ext O.2) P5 (by decide) (by decide)) E_b2 e7 (by rw [hml]; rfl) [] (lenOf pd_8 rfl) rfl (Nat.le_of_ble_eq_true rfl) (hb hby d21_39) (by decide) (by decide) 42 rfl ?_
    rintro v2 T8 L8 X8 ⟨hv, rfl, eH8⟩
    have N8 := Fr.app N5 (Fr.nil n0)
    rcases hv with ⟨rfl, q2⟩ | ⟨rfl, q2⟩
    · show Own.Go p e below _ (T8.setTop (mkF m 42 #[.val (.ref a1), .val (.ref a2), .val (.ref a2)] [(.int (1 : Int32))]))
      refine Own.g_if_eq_f X8 hx (hb hby d21_42) (by decide) 45 rfl ?_
      refine Own.g_iconst X8 hx (1 : Int32) (hb hby d21_45) rfl 46 rfl ?_
      refine Own.g_goto X8 hx (hb hby d21_46) 50 (by decide) ?_
      refine Own.g_ret X8 hx hret hlocks rfl (Or.inl ⟨rfl, by simp, _, rfl⟩) (hb hby d21_50) (by decide) (by decide) eH8 ?_
      exact ⟨by rw [if_pos ⟨q1, q2⟩], N8, rfl⟩
    · show Own.Go p e below _ (T8.setTop (mkF m 42 #[.val (.ref a1), .val (.ref a2), .val (.ref a2)] [(.int (0 : Int32))]))
      refine Own.g_if_eq_t X8 hx (hb hby d21_42) rfl 49 (by decide) ?_
      refine Own.g_iconst X8 hx (0 : Int32) (hb hby d21_49) rfl 50 rfl ?_
      refine Own.g_ret X8 hx hret hlocks rfl (Or.inl ⟨rfl, by simp, _, rfl⟩) (hb hby d21_50) (by decide) (by decide) eH8 ?_
      exact ⟨by rw [if_neg (fun z => q2 z.2)], N8, rfl⟩
  · show Own.Go p e below _ (T5.setTop (mkF m 28 #[.val (.ref a1), .val (.ref a2), .val (.ref a2)] [(.int (0 : Int32))]))
    refine Own.g_if_eq_t X5 hx (hb hby d21_28) rfl 49 (by decide) ?_
    refine Own.g_iconst X5 hx (0 : Int32) (hb hby d21_49) rfl 50 rfl ?_
    refine Own.g_ret X5 hx hret hlocks rfl (Or.inl ⟨rfl, by simp, _, rfl⟩) (hb hby d21_50) (by decide) (by decide) eH5 ?_
    exact ⟨by rw [if_neg (fun z => q1 z.1)], N5, rfl⟩
theorem ef_ten (m : MethodId) (x0 : Addr) : entryFrame m #[.ref x0, .null] 3 = mkF m 0 #[.val (.ref x0), .val .null, .unset] [] := by first | (simp [entryFrame, mkF, argsToLocals, Value.category]; done) | rfl
def Q_ten (Z : State) (a1 : Addr) (h0 : Heap) (n0 : Nat) (v : Option Value) (h : Heap) (L : List Loc) : Prop := v = some (.int 0) ∧ Fr n0 L ∧ h = h0
set_option maxRecDepth 65536 in
set_option maxHeartbeats 40000000 in
theorem rm_ten (l : Launch) (Z : State) (a0 : Array Value) (hw : ∀ d ∈ tables_1, d.before a0 Z = true) (ws : List Jvm.Cond) (a1 : Addr) (h0 : Heap) (n0 : Nat) (O : Old Z n0 h0)  :
    MetFree l (⟨"com/example/astute_search/astutesearch/engine/Topic", "equals", "(Ljava/lang/Object;)Z"⟩ : MethodName) (head1 (Jvm.Cond.code (⟨"com/example/astute_search/astutesearch/engine/Topic", "equals", "(Ljava/lang/Object;)Z"⟩ : MethodName) prog_31_method_4_code 3 (some .boolean) :: ws) ({ frames := 0, cells := 0, slots := 0, locals := 0 } : Room)) (fun aa U => aa = #[.ref a1, .null] ∧ Z.Warmed39 U.vm ∧ U.heap = h0) (fun _ _ _ _ _ => True) (fun _ U o U' => Own.End U (Q_ten Z a1 h0 n0) 0 0 o U') := by
  refine MetFree.of_bodySF (plainFor_of_name pn_4) hisR ?_
  intro p e s m args below meth c s₁ Bd hml0 hP hK
  obtain ⟨rfl, hZ, hh⟩ := hP
  have hx := Bd.exec
  have hby := Bd.bytes
  have hml : c.maxLocals = 3 := hml0
  have hown : s.vm.findClass "com/example/astute_search/astutesearch/engine/Topic" = some m.cls := findClass_of_methodNamed Bd.named
  have hnm := (name_of_methodNamed Bd.named Bd.method).1
  have hret := Bd.returns
  have hlocks : meth.locks = false := Bd.notSynchronized
  have X0 : Stand p l e ({ frames := 0, cells := 0, slots := 0, locals := 0 } : Room) s m #[.ref a1, .null] below meth c s₁ [] 0 0 := Stand.of_body Bd
  have e0 : s₁.heap = h0 := by rw [← hh, Bd.state]; rfl
  have N0 := Fr.nil n0
  show Own.Go p e below (Own.End s (Q_ten Z a1 h0 n0) 0 0) (s₁.setTop (entryFrame m #[.ref a1, .null] 3))
  refine Own.Go.eq (ef_ten m a1) ?_
  refine Own.g_aloadN X0 hx (hb hby d21_0) rfl rfl 1 rfl ?_
  refine Own.g_instNull X0 hx (hb hby d21_1) 4 rfl ?_
  refine Own.g_if_eq_t X0 hx (hb hby d21_4) rfl 15 (by decide) ?_
  refine Own.g_iconst X0 hx (0 : Int32) (hb hby d21_15) rfl 16 rfl ?_
  refine Own.g_ret X0 hx hret hlocks rfl (Or.inl ⟨rfl, by simp, _, rfl⟩) (hb hby d21_16) (by decide) (by decide) e0 ?_
  exact ⟨rfl, N0, rfl⟩
theorem ef_tes (m : MethodId) (x0 : Addr) (x1 : Addr) : entryFrame m #[.ref x0, .ref x1] 3 = mkF m 0 #[.val (.ref x0), .val (.ref x1), .unset] [] := by first | (simp [entryFrame, mkF, argsToLocals, Value.category]; done) | rfl
def Q_tes (Z : State) (a1 : Addr) (b : Addr) (h0 : Heap) (n0 : Nat) (v : Option Value) (h : Heap) (L : List Loc) : Prop := v = some (.int 0) ∧ Fr n0 L ∧ h = h0
set_option maxRecDepth 65536 in
set_option maxHeartbeats 40000000 in
theorem rm_tes (l : Launch) (Z : State) (a0 : Array Value) (hw : ∀ d ∈ tables_1, d.before a0 Z = true) (ws : List Jvm.Cond) (a1 : Addr) (b : Addr) (h0 : Heap) (n0 : Nat) (O : Old Z n0 h0) (E_b : Exa Z h0 b "java/lang/String") :
    MetFree l (⟨"com/example/astute_search/astutesearch/engine/Topic", "equals", "(Ljava/lang/Object;)Z"⟩ : MethodName) (head1 (Jvm.Cond.code (⟨"com/example/astute_search/astutesearch/engine/Topic", "equals", "(Ljava/lang/Object;)Z"⟩ : MethodName) prog_31_method_4_code 3 (some .boolean) :: ws) ({ frames := 0, cells := 0, slots := 0, locals := 0 } : Room)) (fun aa U => aa = #[.ref a1, .ref b] ∧ Z.Warmed39 U.vm ∧ U.heap = h0) (fun _ _ _ _ _ => True) (fun _ U o U' => Own.End U (Q_tes Z a1 b h0 n0) 0 0 o U') := by
  refine MetFree.of_bodySF (plainFor_of_name pn_4) hisR ?_
  intro p e s m args below meth c s₁ Bd hml0 hP hK
  obtain ⟨rfl, hZ, hh⟩ := hP
  have hx := Bd.exec
  have hby := Bd.bytes
  have hml : c.maxLocals = 3 := hml0
  have hown : s.vm.findClass "com/example/astute_search/astutesearch/engine/Topic" = some m.cls := findClass_of_methodNamed Bd.named
  have hnm := (name_of_methodNamed Bd.named Bd.method).1
  have hret := Bd.returns
  have hlocks : meth.locks = false := Bd.notSynchronized
  have X0 : Stand p l e ({ frames := 0, cells := 0, slots := 0, locals := 0 } : Room) s m #[.ref a1, .ref b] below meth c s₁ [] 0 0 := Stand.of_body Bd
  have e0 : s₁.heap = h0 := by rw [← hh, Bd.state]; rfl
  have N0 := Fr.nil n0
  show Own.Go p e below (Own.End s (Q_tes Z a1 b h0 n0) 0 0) (s₁.setTop (entryFrame m #[.ref a1, .ref b] 3))
  refine Own.Go.eq (ef_tes m a1 b) ?_
  refine Own.g_aloadN X0 hx (hb hby d21_0) rfl rfl 1 rfl ?_
  refine Own.g_instNo X0 hx hZ hown (hw _ (List.mem_of_getElem? (i := 104) rfl)) e0 E_b (Own.notSub (hw _ (List.mem_of_getElem? (i := 115) rfl)) (hw _ (List.mem_of_getElem? (i := 116) rfl)) (hw _ (List.mem_of_getElem? (i := 41) rfl)) (by decide) (by decide)) (hb hby d21_1) 4 rfl ?_
  intro T1 X1 e1
  refine Own.g_if_eq_t X1 hx (hb hby d21_4) rfl 15 (by decide) ?_
  refine Own.g_iconst X1 hx (0 : Int32) (hb hby d21_15) rfl 16 rfl ?_
  refine Own.g_ret X1 hx hret hlocks rfl (Or.inl ⟨rfl, by simp, _, rfl⟩) (hb hby d21_16) (by decide) (by decide) e1 ?_
  exact ⟨rfl, N0, rfl⟩
theorem own_sym (a b c d : List Int32) : (if c = a ∧ d = b then (1 : Int32) else 0) = (if a = c ∧ b = d then (1 : Int32) else 0) := by
  by_cases h : a = c ∧ b = d
  · rw [if_pos h, if_pos ⟨h.1.symm, h.2.symm⟩]
  · rw [if_neg h, if_neg (fun z => h ⟨z.1.symm, z.2.symm⟩)]
set_option maxRecDepth 65536 in
set_option maxHeartbeats 40000000 in
theorem st_228 {p : Program} {l : Launch} {e : Env} {s : State} {m : MethodId} {args : Array Value} {below : List Frame} {meth : Method} {c : Code} {T0 : State} {locs : List Loc} {Z : State} {a0 : Array Value} {hh : Heap} {n0 : Nat} {Q : Option Value → Heap → List Loc → Prop} (hQ : ∀ h L, Fr n0 L → Q (some (.int 1)) h L)  (hx : p.tables.exec = Jvm.exec) (hZ : Z.Warmed39 s.vm) (hw : ∀ d ∈ tables_1, d.before a0 Z = true) (hby : c.code = code) (hml : c.maxLocals = 26) (hown : s.vm.findClass "com/example/astute_search/astutesearch/engine/TopicEqualsPinLaw" = some m.cls) (hret : meth.sig.returnType = (some .boolean)) (hlocks : meth.locks = false)
    (p1 p2 p3 p4 p5 ca0 ca1 cb0 cb1 la lb lc ld c0 c1 d0 d1 G1 : Int32) (ta : Addr) (ka : ClassId) (inst : Addr) (X0 : Stand p l e room_1 s m args below meth c T0 locs 0 0) (e0 : T0.heap = hh) (N0 : Fr n0 locs) (O : Old Z n0 hh)    (O2 : Sta Z Z.heap "java/lang/String" "COMPACT_STRINGS" "Z" (.int G1)) (P5 : ¬ (G1 = (0 : Int32))) (SA : Sta Z Z.heap "java/lang/CharacterDataLatin1" "A" "[I" (.ref ta)) (AA : Arv Z Z.heap ta ka .int 256 (TABL.map Value.int) (.int 0)) (SI : Sta Z Z.heap "java/lang/CharacterDataLatin1" "instance" "Ljava/lang/CharacterDataLatin1;" (.ref inst)) (EI : Exa Z Z.heap inst "java/lang/CharacterDataLatin1") (L_ca0 : Own.Lat ca0) (L_ca1 : Own.Lat ca1) (L_cb0 : Own.Lat cb0) (L_cb1 : Own.Lat cb1) (L_c0 : Own.Lat c0) (L_c1 : Own.Lat c1) (L_d0 : Own.Lat d0) (L_d1 : Own.Lat d1) (K_la : la = 1 ∨ la = 2) (K_lb : lb = 1 ∨ lb = 2) (K_lc : lc = 1 ∨ lc = 2) (K_ld : ld = 1 ∨ ld = 2) (B_a : ¬ blP ca0 ca1 la) (B_b : ¬ blP cb0 cb1 lb) (B_c : ¬ blP c0 c1 lc) (B_d : ¬ blP d0 d1 ld) :
    Own.Go p e below (Own.End s Q 40 192) (T0.setTop (mkF m 228 #[.val (.int p1), .val (.int p2), .val (.int p3), .val (.int p4), .val (.int p5), .val (.int ca0), .val (.int ca1), .val (.int cb0), .val (.int cb1), .val (.int la), .val (.int lb), .val (.int lc), .val (.int ld), .val (.int c0), .val (.int c1), .val (.int d0), .val (.int d1), .unset, .unset, .unset, .unset, .unset, .unset, .unset, .unset, .unset] [])) := by
  have heq : ∀ d ∈ StrChars.Road.wordsEq, d.before a0 Z = true := fun d hd => hw d ((by decide +kernel : ∀ d ∈ StrChars.Road.wordsEq, d ∈ tables_1) d hd)
  refine Own.g_iload X0 hx (hb hby at_228) rfl 230 rfl ?_
  refine Own.g_iload X0 hx (hb hby at_230) rfl 232 rfl ?_
  refine Own.g_iload X0 hx (hb hby at_232) rfl 234 rfl ?_
  refine Own.g_callS X0 hx (y := (⟨"com/example/astute_search/astutesearch/engine/TopicEqualsPinLaw", "str", "(CCI)Ljava/lang/String;"⟩ : MethodName)) hown (mvT hZ (hw _ (List.mem_of_getElem? (i := 7) rfl))) (mvT hZ (hw _ (List.mem_of_getElem? (i := 8) rfl))) (mvT hZ (hw _ (List.mem_of_getElem? (i := 2) rfl))) (mvT hZ (hw _ (List.mem_of_getElem? (i := 9) rfl))) (by decide) [.int ca0, .int ca1, .int la] (Own.back (W := 0) (rm_str l Z a0 hw [] ca0 ca1 la G1 hh n0 O L_ca0 L_ca1 O2 P5) hZ (hw _ (List.mem_of_getElem? (i := 9) rfl)) (hw _ (List.mem_of_getElem? (i := 2) rfl)) (by decide) (by decide)) e0 (by rw [hml]; rfl) [] (lenOf pd_9 rfl) rfl (Nat.le_of_ble_eq_true rfl) (hb hby at_234) (by decide) (by decide) 237 rfl ?_
  rintro _ T1 L1 X1 ⟨i1, i1t, k_i1t, rfl, N1q, K1, sz1, szt1, E_i1, F_i1_value, F_i1_coder, V_i1t⟩
  have N1 := Fr.app N0 N1q
  replace O := O.keep K1 all0
  show Own.Go p e below _ (T1.setTop (mkF m 237 #[.val (.int p1), .val (.int p2), .val (.int p3), .val (.int p4), .val (.int p5), .val (.int ca0), .val (.int ca1), .val (.int cb0), .val (.int cb1), .val (.int la), .val (.int lb), .val (.int lc), .val (.int ld), .val (.int c0), .val (.int c1), .val (.int d0), .val (.int d1), .unset, .unset, .unset, .unset, .unset, .unset, .unset, .unset, .unset] [(.ref i1)]))
  refine Own.g_astore X1 hx #[.val (.int p1), .val (.int p2), .val (.int p3), .val (.int p4), .val (.int p5), .val (.int ca0), .val (.int ca1), .val (.int cb0), .val (.int cb1), .val (.int la), .val (.int lb), .val (.int lc), .val (.int ld), .val (.int c0), .val (.int c1), .val (.int d0), .val (.int d1), .val (.ref i1), .unset, .unset, .unset, .unset, .unset, .unset, .unset, .unset] (hb hby at_237) rfl rfl 239 rfl ?_
  refine Own.g_iload X1 hx (hb hby at_239) rfl 241 rfl ?_
  refine Own.g_iload X1 hx (hb hby at_241) rfl 243 rfl ?_
  refine Own.g_iload X1 hx (hb hby at_243) rfl 245 rfl ?_
  refine Own.g_callS X1 hx (y := (⟨"com/example/astute_search/astutesearch/engine/TopicEqualsPinLaw", "str", "(CCI)Ljava/lang/String;"⟩ : MethodName)) hown (mvT hZ (hw _ (List.mem_of_getElem? (i := 7) rfl))) (mvT hZ (hw _ (List.mem_of_getElem? (i := 8) rfl))) (mvT hZ (hw _ (List.mem_of_getElem? (i := 2) rfl))) (mvT hZ (hw _ (List.mem_of_getElem? (i := 9) rfl))) (by decide) [.int cb0, .int cb1, .int lb] (Own.back (W := 0) (rm_str l Z a0 hw [] cb0 cb1 lb G1 T1.heap n0 O L_cb0 L_cb1 O2 P5) hZ (hw _ (List.mem_of_getElem? (i := 9) rfl)) (hw _ (List.mem_of_getElem? (i := 2) rfl)) (by decide) (by decide)) (rfl : T1.heap = T1.heap) (by rw [hml]; rfl) [] (lenOf pd_9 rfl) rfl (Nat.le_of_ble_eq_true rfl) (hb hby at_245) (by decide) (by decide) 248 rfl ?_
  rintro _ T2 L2 X2 ⟨x1, x1t, k_x1t, rfl, N2q, K2, sz2, szt2, E_x1, F_x1_value, F_x1_coder, V_x1t⟩
  have N2 := Fr.app N1 N2q
  have ne_i1_x1 : i1 ≠ x1 := Nat.ne_of_lt (Nat.lt_of_lt_of_le (E_i1.lt) sz2)
  have ne_i1_x1t : i1 ≠ x1t := Nat.ne_of_lt (Nat.lt_of_lt_of_le (E_i1.lt) szt2)
  have ne_i1t_x1 : i1t ≠ x1 := Nat.ne_of_lt (Nat.lt_of_lt_of_le (V_i1t.lt) sz2)
  have ne_i1t_x1t : i1t ≠ x1t := Nat.ne_of_lt (Nat.lt_of_lt_of_le (V_i1t.lt) szt2)
  replace E_i1 := E_i1.keep K2
  replace F_i1_value := F_i1_value.keep K2 nin0
  replace F_i1_coder := F_i1_coder.keep K2 nin0
  replace V_i1t := V_i1t.keep K2 nin0
  replace O := O.keep K2 all0
  show Own.Go p e below _ (T2.setTop (mkF m 248 #[.val (.int p1), .val (.int p2), .val (.int p3), .val (.int p4), .val (.int p5), .val (.int ca0), .val (.int ca1), .val (.int cb0), .val (.int cb1), .val (.int la), .val (.int lb), .val (.int lc), .val (.int ld), .val (.int c0), .val (.int c1), .val (.int d0), .val (.int d1), .val (.ref i1), .unset, .unset, .unset, .unset, .unset, .unset, .unset, .unset] [(.ref x1)]))
  refine Own.g_astore X2 hx #[.val (.int p1), .val (.int p2), .val (.int p3), .val (.int p4), .val (.int p5), .val (.int ca0), .val (.int ca1), .val (.int cb0), .val (.int cb1), .val (.int la), .val (.int lb), .val (.int lc), .val (.int ld), .val (.int c0), .val (.int c1), .val (.int d0), .val (.int d1), .val (.ref i1), .val (.ref x1), .unset, .unset, .unset, .unset, .unset, .unset, .unset] (hb hby at_248) rfl rfl 250 rfl ?_
  refine Own.g_iload X2 hx (hb hby at_250) rfl 252 rfl ?_
  refine Own.g_iload X2 hx (hb hby at_252) rfl 254 rfl ?_
  refine Own.g_iload X2 hx (hb hby at_254) rfl 256 rfl ?_
  refine Own.g_callS X2 hx (y := (⟨"com/example/astute_search/astutesearch/engine/TopicEqualsPinLaw", "str", "(CCI)Ljava/lang/String;"⟩ : MethodName)) hown (mvT hZ (hw _ (List.mem_of_getElem? (i := 7) rfl))) (mvT hZ (hw _ (List.mem_of_getElem? (i := 8) rfl))) (mvT hZ (hw _ (List.mem_of_getElem? (i := 2) rfl))) (mvT hZ (hw _ (List.mem_of_getElem? (i := 9) rfl))) (by decide) [.int c0, .int c1, .int lc] (Own.back (W := 0) (rm_str l Z a0 hw [] c0 c1 lc G1 T2.heap n0 O L_c0 L_c1 O2 P5) hZ (hw _ (List.mem_of_getElem? (i := 9) rfl)) (hw _ (List.mem_of_getElem? (i := 2) rfl)) (by decide) (by decide)) (rfl : T2.heap = T2.heap) (by rw [hml]; rfl) [] (lenOf pd_9 rfl) rfl (Nat.le_of_ble_eq_true rfl) (hb hby at_256) (by decide) (by decide) 259 rfl ?_
  rintro _ T3 L3 X3 ⟨i2, i2t, k_i2t, rfl, N3q, K3, sz3, szt3, E_i2, F_i2_value, F_i2_coder, V_i2t⟩
  have N3 := Fr.app N2 N3q
  have ne_i1_i2 : i1 ≠ i2 := Nat.ne_of_lt (Nat.lt_of_lt_of_le (E_i1.lt) sz3)
  have ne_i1_i2t : i1 ≠ i2t := Nat.ne_of_lt (Nat.lt_of_lt_of_le (E_i1.lt) szt3)
  have ne_i1t_i2 : i1t ≠ i2 := Nat.ne_of_lt (Nat.lt_of_lt_of_le (V_i1t.lt) sz3)
  have ne_i1t_i2t : i1t ≠ i2t := Nat.ne_of_lt (Nat.lt_of_lt_of_le (V_i1t.lt) szt3)
  have ne_x1_i2 : x1 ≠ i2 := Nat.ne_of_lt (Nat.lt_of_lt_of_le (E_x1.lt) sz3)
  have ne_x1_i2t : x1 ≠ i2t := Nat.ne_of_lt (Nat.lt_of_lt_of_le (E_x1.lt) szt3)
  have ne_x1t_i2 : x1t ≠ i2 := Nat.ne_of_lt (Nat.lt_of_lt_of_le (V_x1t.lt) sz3)
  have ne_x1t_i2t : x1t ≠ i2t := Nat.ne_of_lt (Nat.lt_of_lt_of_le (V_x1t.lt) szt3)
  replace E_i1 := E_i1.keep K3
  replace F_i1_value := F_i1_value.keep K3 nin0
  replace F_i1_coder := F_i1_coder.keep K3 nin0
  replace V_i1t := V_i1t.keep K3 nin0
  replace E_x1 := E_x1.keep K3
  replace F_x1_value := F_x1_value.keep K3 nin0
  replace F_x1_coder := F_x1_coder.keep K3 nin0
  replace V_x1t := V_x1t.keep K3 nin0
  replace O := O.keep K3 all0
  show Own.Go p e below _ (T3.setTop (mkF m 259 #[.val (.int p1), .val (.int p2), .val (.int p3), .val (.int p4), .val (.int p5), .val (.int ca0), .val (.int ca1), .val (.int cb0), .val (.int cb1), .val (.int la), .val (.int lb), .val (.int lc), .val (.int ld), .val (.int c0), .val (.int c1), .val (.int d0), .val (.int d1), .val (.ref i1), .val (.ref x1), .unset, .unset, .unset, .unset, .unset, .unset, .unset] [(.ref i2)]))
  refine Own.g_astore X3 hx #[.val (.int p1), .val (.int p2), .val (.int p3), .val (.int p4), .val (.int p5), .val (.int ca0), .val (.int ca1), .val (.int cb0), .val (.int cb1), .val (.int la), .val (.int lb), .val (.int lc), .val (.int ld), .val (.int c0), .val (.int c1), .val (.int d0), .val (.int d1), .val (.ref i1), .val (.ref x1), .val (.ref i2), .unset, .unset, .unset, .unset, .unset, .unset] (hb hby at_259) rfl rfl 261 rfl ?_
  refine Own.g_iload X3 hx (hb hby at_261) rfl 263 rfl ?_
  refine Own.g_iload X3 hx (hb hby at_263) rfl 265 rfl ?_
  refine Own.g_iload X3 hx (hb hby at_265) rfl 267 rfl ?_
  refine Own.g_callS X3 hx (y := (⟨"com/example/astute_search/astutesearch/engine/TopicEqualsPinLaw", "str", "(CCI)Ljava/lang/String;"⟩ : MethodName)) hown (mvT hZ (hw _ (List.mem_of_getElem? (i := 7) rfl))) (mvT hZ (hw _ (List.mem_of_getElem? (i := 8) rfl))) (mvT hZ (hw _ (List.mem_of_getElem? (i := 2) rfl))) (mvT hZ (hw _ (List.mem_of_getElem? (i := 9) rfl))) (by decide) [.int d0, .int d1, .int ld] (Own.back (W := 0) (rm_str l Z a0 hw [] d0 d1 ld G1 T3.heap n0 O L_d0 L_d1 O2 P5) hZ (hw _ (List.mem_of_getElem? (i := 9) rfl)) (hw _ (List.mem_of_getElem? (i := 2) rfl)) (by decide) (by decide)) (rfl : T3.heap = T3.heap) (by rw [hml]; rfl) [] (lenOf pd_9 rfl) rfl (Nat.le_of_ble_eq_true rfl) (hb hby at_267) (by decide) (by decide) 270 rfl ?_
  rintro _ T4 L4 X4 ⟨x2, x2t, k_x2t, rfl, N4q, K4, sz4, szt4, E_x2, F_x2_value, F_x2_coder, V_x2t⟩
  have N4 := Fr.app N3 N4q
  have ne_i1_x2 : i1 ≠ x2 := Nat.ne_of_lt (Nat.lt_of_lt_of_le (E_i1.lt) sz4)
  have ne_i1_x2t : i1 ≠ x2t := Nat.ne_of_lt (Nat.lt_of_lt_of_le (E_i1.lt) szt4)
  have ne_i1t_x2 : i1t ≠ x2 := Nat.ne_of_lt (Nat.lt_of_lt_of_le (V_i1t.lt) sz4)
  have ne_i1t_x2t : i1t ≠ x2t := Nat.ne_of_lt (Nat.lt_of_lt_of_le (V_i1t.lt) szt4)
  have ne_x1_x2 : x1 ≠ x2 := Nat.ne_of_lt (Nat.lt_of_lt_of_le (E_x1.lt) sz4)
  have ne_x1_x2t : x1 ≠ x2t := Nat.ne_of_lt (Nat.lt_of_lt_of_le (E_x1.lt) szt4)
  have ne_x1t_x2 : x1t ≠ x2 := Nat.ne_of_lt (Nat.lt_of_lt_of_le (V_x1t.lt) sz4)
  have ne_x1t_x2t : x1t ≠ x2t := Nat.ne_of_lt (Nat.lt_of_lt_of_le (V_x1t.lt) szt4)
  have ne_i2_x2 : i2 ≠ x2 := Nat.ne_of_lt (Nat.lt_of_lt_of_le (E_i2.lt) sz4)
  have ne_i2_x2t : i2 ≠ x2t := Nat.ne_of_lt (Nat.lt_of_lt_of_le (E_i2.lt) szt4)
  have ne_i2t_x2 : i2t ≠ x2 := Nat.ne_of_lt (Nat.lt_of_lt_of_le (V_i2t.lt) sz4)
  have ne_i2t_x2t : i2t ≠ x2t := Nat.ne_of_lt (Nat.lt_of_lt_of_le (V_i2t.lt) szt4)
  replace E_i1 := E_i1.keep K4
  replace F_i1_value := F_i1_value.keep K4 nin0
  replace F_i1_coder := F_i1_coder.keep K4 nin0
  replace V_i1t := V_i1t.keep K4 nin0
  replace E_x1 := E_x1.keep K4
  replace F_x1_value := F_x1_value.keep K4 nin0
  replace F_x1_coder := F_x1_coder.keep K4 nin0
  replace V_x1t := V_x1t.keep K4 nin0
  replace E_i2 := E_i2.keep K4
  replace F_i2_value := F_i2_value.keep K4 nin0
  replace F_i2_coder := F_i2_coder.keep K4 nin0
  replace V_i2t := V_i2t.keep K4 nin0
  replace O := O.keep K4 all0
  show Own.Go p e below _ (T4.setTop (mkF m 270 #[.val (.int p1), .val (.int p2), .val (.int p3), .val (.int p4), .val (.int p5), .val (.int ca0), .val (.int ca1), .val (.int cb0), .val (.int cb1), .val (.int la), .val (.int lb), .val (.int lc), .val (.int ld), .val (.int c0), .val (.int c1), .val (.int d0), .val (.int d1), .val (.ref i1), .val (.ref x1), .val (.ref i2), .unset, .unset, .unset, .unset, .unset, .unset] [(.ref x2)]))
  refine Own.g_astore X4 hx #[.val (.int p1), .val (.int p2), .val (.int p3), .val (.int p4), .val (.int p5), .val (.int ca0), .val (.int ca1), .val (.int cb0), .val (.int cb1), .val (.int la), .val (.int lb), .val (.int lc), .val (.int ld), .val (.int c0), .val (.int c1), .val (.int d0), .val (.int d1), .val (.ref i1), .val (.ref x1), .val (.ref i2), .val (.ref x2), .unset, .unset, .unset, .unset, .unset] (hb hby at_270) rfl rfl 272 rfl ?_
  refine Own.g_new X4 hx hZ hown (hw _ (List.mem_of_getElem? (i := 40) rfl)) (hw _ (List.mem_of_getElem? (i := 41) rfl)) (hw _ (List.mem_of_getElem? (i := 42) rfl)) (rfl : T4.heap = T4.heap) (hb hby at_272) (by decide) (by decide) 275 rfl ?_
  intro T5 h5 t1 X5 e5 E5 g5 E_t1 D5
  have ne_i1_t1 : i1 ≠ t1 := Nat.ne_of_lt (Nat.lt_of_lt_of_le (E_i1.lt) (Nat.le_of_eq g5.symm))
  have ne_i1t_t1 : i1t ≠ t1 := Nat.ne_of_lt (Nat.lt_of_lt_of_le (V_i1t.lt) (Nat.le_of_eq g5.symm))
  have ne_x1_t1 : x1 ≠ t1 := Nat.ne_of_lt (Nat.lt_of_lt_of_le (E_x1.lt) (Nat.le_of_eq g5.symm))
  have ne_x1t_t1 : x1t ≠ t1 := Nat.ne_of_lt (Nat.lt_of_lt_of_le (V_x1t.lt) (Nat.le_of_eq g5.symm))
  have ne_i2_t1 : i2 ≠ t1 := Nat.ne_of_lt (Nat.lt_of_lt_of_le (E_i2.lt) (Nat.le_of_eq g5.symm))
  have ne_i2t_t1 : i2t ≠ t1 := Nat.ne_of_lt (Nat.lt_of_lt_of_le (V_i2t.lt) (Nat.le_of_eq g5.symm))
  have ne_x2_t1 : x2 ≠ t1 := Nat.ne_of_lt (Nat.lt_of_lt_of_le (E_x2.lt) (Nat.le_of_eq g5.symm))
  have ne_x2t_t1 : x2t ≠ t1 := Nat.ne_of_lt (Nat.lt_of_lt_of_le (V_x2t.lt) (Nat.le_of_eq g5.symm))
  have n0_t1 : n0 ≤ t1 := Nat.le_trans (Nat.le_of_eq O.1.symm) (Nat.le_trans O.2.1 (Nat.le_of_eq g5.symm))
  replace E_i1 := E_i1.ext E5
  replace F_i1_value := F_i1_value.ext E5
  replace F_i1_coder := F_i1_coder.ext E5
  replace V_i1t := V_i1t.ext E5
  replace E_x1 := E_x1.ext E5
  replace F_x1_value := F_x1_value.ext E5
  replace F_x1_coder := F_x1_coder.ext E5
  replace V_x1t := V_x1t.ext E5
  replace E_i2 := E_i2.ext E5
  replace F_i2_value := F_i2_value.ext E5
  replace F_i2_coder := F_i2_coder.ext E5
  replace V_i2t := V_i2t.ext E5
  replace E_x2 := E_x2.ext E5
  replace F_x2_value := F_x2_value.ext E5
  replace F_x2_coder := F_x2_coder.ext E5
  replace V_x2t := V_x2t.ext E5
  replace O := O.ext E5
  have F_t1_id : Fld Z h5 t1 "com/example/astute_search/astutesearch/engine/Topic" "id" "Ljava/lang/String;" .null := D5 (Or.inr (hw _ (List.mem_of_getElem? (i := 93) rfl))) (ty := (.object "java/lang/String")) (by decide)
  have F_t1_text : Fld Z h5 t1 "com/example/astute_search/astutesearch/engine/Topic" "text" "Ljava/lang/String;" .null := D5 (Or.inr (hw _ (List.mem_of_getElem? (i := 95) rfl))) (ty := (.object "java/lang/String")) (by decide)
  refine Own.g_dup X5 hx (hb hby at_275) rfl 276 rfl ?_
  refine Own.g_aload X5 hx (hb hby at_276) rfl rfl 278 rfl ?_
  refine Own.g_aload X5 hx (hb hby at_278) rfl rfl 280 rfl ?_
  refine Own.g_special X5 hx (y := (⟨"com/example/astute_search/astutesearch/engine/Topic", "<init>", "(Ljava/lang/String;Ljava/lang/String;)V"⟩ : MethodName)) rfl hown (mvT hZ (hw _ (List.mem_of_getElem? (i := 43) rfl))) (mvT hZ (hw _ (List.mem_of_getElem? (i := 44) rfl))) (mvT hZ (hw _ (List.mem_of_getElem? (i := 45) rfl))) (by decide) (a := t1) [.ref i1, .ref x1] (Own.back (W := 1) (rm_ti l Z a0 hw [] t1 i1 i1t k_i1t (strL ca0 ca1 la) x1 x1t k_x1t (strL cb0 cb1 lb) G1 ta ka inst h5 n0 O n0_t1 E_t1 F_t1_id F_t1_text O2 P5 (nb_of B_a) (strL_lat L_ca0 L_ca1) strL_len (nb_of B_b) (strL_lat L_cb0 L_cb1) strL_len SA AA SI EI E_i1 F_i1_value F_i1_coder V_i1t E_x1 F_x1_value F_x1_coder V_x1t) hZ (hw _ (List.mem_of_getElem? (i := 45) rfl)) (hw _ (List.mem_of_getElem? (i := 42) rfl)) (by decide) (by decide)) e5 (by rw [hml]; rfl) [(.ref t1)] (lenOf pd_10 rfl) rfl (Nat.le_of_ble_eq_true rfl) (hb hby at_280) (by decide) (by decide) 283 rfl ?_
  rintro _ T6 L6 X6 ⟨rfl, N6q, K6, GE, GI, GX⟩
  have N6 := Fr.app N4 N6q
  replace E_i1 := E_i1.keep K6
  replace F_i1_value := F_i1_value.keep K6 (ninS ne_i1_t1 nin0)
  replace F_i1_coder := F_i1_coder.keep K6 (ninS ne_i1_t1 nin0)
  replace V_i1t := V_i1t.keep K6 (ninS ne_i1t_t1 nin0)
  replace E_x1 := E_x1.keep K6
  replace F_x1_value := F_x1_value.keep K6 (ninS ne_x1_t1 nin0)
  replace F_x1_coder := F_x1_coder.keep K6 (ninS ne_x1_t1 nin0)
  replace V_x1t := V_x1t.keep K6 (ninS ne_x1t_t1 nin0)
  replace E_i2 := E_i2.keep K6
  replace F_i2_value := F_i2_value.keep K6 (ninS ne_i2_t1 nin0)
  replace F_i2_coder := F_i2_coder.keep K6 (ninS ne_i2_t1 nin0)
  replace V_i2t := V_i2t.keep K6 (ninS ne_i2t_t1 nin0)
  replace E_x2 := E_x2.keep K6
  replace F_x2_value := F_x2_value.keep K6 (ninS ne_x2_t1 nin0)
  replace F_x2_coder := F_x2_coder.keep K6 (ninS ne_x2_t1 nin0)
  replace V_x2t := V_x2t.keep K6 (ninS ne_x2t_t1 nin0)
  replace O := O.keep K6 (allS n0_t1 all0)
  replace E_t1 := GE
  have F_t1_id := GI
  have F_t1_text := GX
  show Own.Go p e below _ (T6.setTop (mkF m 283 #[.val (.int p1), .val (.int p2), .val (.int p3), .val (.int p4), .val (.int p5), .val (.int ca0), .val (.int ca1), .val (.int cb0), .val (.int cb1), .val (.int la), .val (.int lb), .val (.int lc), .val (.int ld), .val (.int c0), .val (.int c1), .val (.int d0), .val (.int d1), .val (.ref i1), .val (.ref x1), .val (.ref i2), .val (.ref x2), .unset, .unset, .unset, .unset, .unset] [(.ref t1)]))
  refine Own.g_astore X6 hx #[.val (.int p1), .val (.int p2), .val (.int p3), .val (.int p4), .val (.int p5), .val (.int ca0), .val (.int ca1), .val (.int cb0), .val (.int cb1), .val (.int la), .val (.int lb), .val (.int lc), .val (.int ld), .val (.int c0), .val (.int c1), .val (.int d0), .val (.int d1), .val (.ref i1), .val (.ref x1), .val (.ref i2), .val (.ref x2), .val (.ref t1), .unset, .unset, .unset, .unset] (hb hby at_283) rfl rfl 285 rfl ?_
  refine Own.g_new X6 hx hZ hown (hw _ (List.mem_of_getElem? (i := 40) rfl)) (hw _ (List.mem_of_getElem? (i := 41) rfl)) (hw _ (List.mem_of_getElem? (i := 42) rfl)) (rfl : T6.heap = T6.heap) (hb hby at_285) (by decide) (by decide) 288 rfl ?_
  intro T7 h7 t2 X7 e7 E7 g7 E_t2 D7
  have ne_i1_t2 : i1 ≠ t2 := Nat.ne_of_lt (Nat.lt_of_lt_of_le (E_i1.lt) (Nat.le_of_eq g7.symm))
  have ne_i1t_t2 : i1t ≠ t2 := Nat.ne_of_lt (Nat.lt_of_lt_of_le (V_i1t.lt) (Nat.le_of_eq g7.symm))
  have ne_x1_t2 : x1 ≠ t2 := Nat.ne_of_lt (Nat.lt_of_lt_of_le (E_x1.lt) (Nat.le_of_eq g7.symm))
  have ne_x1t_t2 : x1t ≠ t2 := Nat.ne_of_lt (Nat.lt_of_lt_of_le (V_x1t.lt) (Nat.le_of_eq g7.symm))
  have ne_i2_t2 : i2 ≠ t2 := Nat.ne_of_lt (Nat.lt_of_lt_of_le (E_i2.lt) (Nat.le_of_eq g7.symm))
  have ne_i2t_t2 : i2t ≠ t2 := Nat.ne_of_lt (Nat.lt_of_lt_of_le (V_i2t.lt) (Nat.le_of_eq g7.symm))
  have ne_x2_t2 : x2 ≠ t2 := Nat.ne_of_lt (Nat.lt_of_lt_of_le (E_x2.lt) (Nat.le_of_eq g7.symm))
  have ne_x2t_t2 : x2t ≠ t2 := Nat.ne_of_lt (Nat.lt_of_lt_of_le (V_x2t.lt) (Nat.le_of_eq g7.symm))
  have ne_t1_t2 : t1 ≠ t2 := Nat.ne_of_lt (Nat.lt_of_lt_of_le (E_t1.lt) (Nat.le_of_eq g7.symm))
  have n0_t2 : n0 ≤ t2 := Nat.le_trans (Nat.le_of_eq O.1.symm) (Nat.le_trans O.2.1 (Nat.le_of_eq g7.symm))
  replace E_i1 := E_i1.ext E7
  replace F_i1_value := F_i1_value.ext E7
  replace F_i1_coder := F_i1_coder.ext E7
  replace V_i1t := V_i1t.ext E7
  replace E_x1 := E_x1.ext E7
  replace F_x1_value := F_x1_value.ext E7
  replace F_x1_coder := F_x1_coder.ext E7
  replace V_x1t := V_x1t.ext E7
  replace E_i2 := E_i2.ext E7
  replace F_i2_value := F_i2_value.ext E7
  replace F_i2_coder := F_i2_coder.ext E7
  replace V_i2t := V_i2t.ext E7
  replace E_x2 := E_x2.ext E7
  replace F_x2_value := F_x2_value.ext E7
  replace F_x2_coder := F_x2_coder.ext E7
  replace V_x2t := V_x2t.ext E7
  replace E_t1 := E_t1.ext E7
  replace F_t1_id := F_t1_id.ext E7
  replace F_t1_text := F_t1_text.ext E7
  replace O := O.ext E7
  have F_t2_id : Fld Z h7 t2 "com/example/astute_search/astutesearch/engine/Topic" "id" "Ljava/lang/String;" .null := D7 (Or.inr (hw _ (List.mem_of_getElem? (i := 93) rfl))) (ty := (.object "java/lang/String")) (by decide)
  have F_t2_text : Fld Z h7 t2 "com/example/astute_search/astutesearch/engine/Topic" "text" "Ljava/lang/String;" .null := D7 (Or.inr (hw _ (List.mem_of_getElem? (i := 95) rfl))) (ty := (.object "java/lang/String")) (by decide)
  refine Own.g_dup X7 hx (hb hby at_288) rfl 289 rfl ?_
  refine Own.g_aload X7 hx (hb hby at_289) rfl rfl 291 rfl ?_
  refine Own.g_aload X7 hx (hb hby at_291) rfl rfl 293 rfl ?_
  refine Own.g_special X7 hx (y := (⟨"com/example/astute_search/astutesearch/engine/Topic", "<init>", "(Ljava/lang/String;Ljava/lang/String;)V"⟩ : MethodName)) rfl hown (mvT hZ (hw _ (List.mem_of_getElem? (i := 43) rfl))) (mvT hZ (hw _ (List.mem_of_getElem? (i := 44) rfl))) (mvT hZ (hw _ (List.mem_of_getElem? (i := 45) rfl))) (by decide) (a := t2) [.ref i2, .ref x2] (Own.back (W := 1) (rm_ti l Z a0 hw [] t2 i2 i2t k_i2t (strL c0 c1 lc) x2 x2t k_x2t (strL d0 d1 ld) G1 ta ka inst h7 n0 O n0_t2 E_t2 F_t2_id F_t2_text O2 P5 (nb_of B_c) (strL_lat L_c0 L_c1) strL_len (nb_of B_d) (strL_lat L_d0 L_d1) strL_len SA AA SI EI E_i2 F_i2_value F_i2_coder V_i2t E_x2 F_x2_value F_x2_coder V_x2t) hZ (hw _ (List.mem_of_getElem? (i := 45) rfl)) (hw _ (List.mem_of_getElem? (i := 42) rfl)) (by decide) (by decide)) e7 (by rw [hml]; rfl) [(.ref t2)] (lenOf pd_10 rfl) rfl (Nat.le_of_ble_eq_true rfl) (hb hby at_293) (by decide) (by decide) 296 rfl ?_
  rintro _ T8 L8 X8 ⟨rfl, N8q, K8, GE, GI, GX⟩
  have N8 := Fr.app N6 N8q
  replace E_i1 := E_i1.keep K8
  replace F_i1_value := F_i1_value.keep K8 (ninS ne_i1_t2 nin0)
  replace F_i1_coder := F_i1_coder.keep K8 (ninS ne_i1_t2 nin0)
  replace V_i1t := V_i1t.keep K8 (ninS ne_i1t_t2 nin0)
  replace E_x1 := E_x1.keep K8
  replace F_x1_value := F_x1_value.keep K8 (ninS ne_x1_t2 nin0)
  replace F_x1_coder := F_x1_coder.keep K8 (ninS ne_x1_t2 nin0)
  replace V_x1t := V_x1t.keep K8 (ninS ne_x1t_t2 nin0)
  replace E_i2 := E_i2.keep K8
  replace F_i2_value := F_i2_value.keep K8 (ninS ne_i2_t2 nin0)
  replace F_i2_coder := F_i2_coder.keep K8 (ninS ne_i2_t2 nin0)
  replace V_i2t := V_i2t.keep K8 (ninS ne_i2t_t2 nin0)
  replace E_x2 := E_x2.keep K8
  replace F_x2_value := F_x2_value.keep K8 (ninS ne_x2_t2 nin0)
  replace F_x2_coder := F_x2_coder.keep K8 (ninS ne_x2_t2 nin0)
  replace V_x2t := V_x2t.keep K8 (ninS ne_x2t_t2 nin0)
  replace E_t1 := E_t1.keep K8
  replace F_t1_id := F_t1_id.keep K8 (ninS ne_t1_t2 nin0)
  replace F_t1_text := F_t1_text.keep K8 (ninS ne_t1_t2 nin0)
  replace O := O.keep K8 (allS n0_t2 all0)
  replace E_t2 := GE
  have F_t2_id := GI
  have F_t2_text := GX
  show Own.Go p e below _ (T8.setTop (mkF m 296 #[.val (.int p1), .val (.int p2), .val (.int p3), .val (.int p4), .val (.int p5), .val (.int ca0), .val (.int ca1), .val (.int cb0), .val (.int cb1), .val (.int la), .val (.int lb), .val (.int lc), .val (.int ld), .val (.int c0), .val (.int c1), .val (.int d0), .val (.int d1), .val (.ref i1), .val (.ref x1), .val (.ref i2), .val (.ref x2), .val (.ref t1), .unset, .unset, .unset, .unset] [(.ref t2)]))
  refine Own.g_astore X8 hx #[.val (.int p1), .val (.int p2), .val (.int p3), .val (.int p4), .val (.int p5), .val (.int ca0), .val (.int ca1), .val (.int cb0), .val (.int cb1), .val (.int la), .val (.int lb), .val (.int lc), .val (.int ld), .val (.int c0), .val (.int c1), .val (.int d0), .val (.int d1), .val (.ref i1), .val (.ref x1), .val (.ref i2), .val (.ref x2), .val (.ref t1), .val (.ref t2), .unset, .unset, .unset] (hb hby at_296) rfl rfl 298 rfl ?_
  refine Own.g_iload X8 hx (hb hby at_298) rfl 300 rfl ?_
  refine Own.g_iload X8 hx (hb hby at_300) rfl 302 rfl ?_
  refine Own.g_iload X8 hx (hb hby at_302) rfl 304 rfl ?_
  refine Own.g_iload X8 hx (hb hby at_304) rfl 306 rfl ?_
  refine Own.g_iload X8 hx (hb hby at_306) rfl 308 rfl ?_
  refine Own.g_iload X8 hx (hb hby at_308) rfl 310 rfl ?_
  have tl : ∀ (Tt : State) (lt : List Loc) (Xt : Stand p l e room_1 s m args below meth c Tt lt 14 36) (et : Tt.heap = T8.heap) (Nt : Fr n0 lt) (ex : Int32) (hex : ex = (if strL ca0 ca1 la = strL c0 c1 lc ∧ strL cb0 cb1 lb = strL d0 d1 ld then (1 : Int32) else 0)), Own.Go p e below (Own.End s Q 40 192) (Tt.setTop (mkF m 341 #[.val (.int p1), .val (.int p2), .val (.int p3), .val (.int p4), .val (.int p5), .val (.int ca0), .val (.int ca1), .val (.int cb0), .val (.int cb1), .val (.int la), .val (.int lb), .val (.int lc), .val (.int ld), .val (.int c0), .val (.int c1), .val (.int d0), .val (.int d1), .val (.ref i1), .val (.ref x1), .val (.ref i2), .val (.ref x2), .val (.ref t1), .val (.ref t2), .val (.int ex), .unset, .unset] [])) := by
    intro Tt lt Xt et Nt ex hex
    refine Own.g_aconstNull Xt hx (hb hby at_341) 342 rfl ?_
    refine Own.g_astore Xt hx #[.val (.int p1), .val (.int p2), .val (.int p3), .val (.int p4), .val (.int p5), .val (.int ca0), .val (.int ca1), .val (.int cb0), .val (.int cb1), .val (.int la), .val (.int lb), .val (.int lc), .val (.int ld), .val (.int c0), .val (.int c1), .val (.int d0), .val (.int d1), .val (.ref i1), .val (.ref x1), .val (.ref i2), .val (.ref x2), .val (.ref t1), .val (.ref t2), .val (.int ex), .val .null, .unset] (hb hby at_342) rfl rfl 344 rfl ?_
    refine Own.g_aload Xt hx (hb hby at_344) rfl rfl 346 rfl ?_
    refine Own.g_astore Xt hx #[.val (.int p1), .val (.int p2), .val (.int p3), .val (.int p4), .val (.int p5), .val (.int ca0), .val (.int ca1), .val (.int cb0), .val (.int cb1), .val (.int la), .val (.int lb), .val (.int lc), .val (.int ld), .val (.int c0), .val (.int c1), .val (.int d0), .val (.int d1), .val (.ref i1), .val (.ref x1), .val (.ref i2), .val (.ref x2), .val (.ref t1), .val (.ref t2), .val (.int ex), .val .null, .val (.ref i1)] (hb hby at_346) rfl rfl 348 rfl ?_
    refine Own.g_aload Xt hx (hb hby at_348) rfl rfl 350 rfl ?_
    refine Own.g_aload Xt hx (hb hby at_350) rfl rfl 352 rfl ?_
    refine Own.g_virtual Xt hx hZ (y := (⟨"com/example/astute_search/astutesearch/engine/Topic", "equals", "(Ljava/lang/Object;)Z"⟩ : MethodName)) (z := (⟨"com/example/astute_search/astutesearch/engine/Topic", "equals", "(Ljava/lang/Object;)Z"⟩ : MethodName)) hown (mvT hZ (hw _ (List.mem_of_getElem? (i := 99) rfl))) (mvT hZ (hw _ (List.mem_of_getElem? (i := 100) rfl))) (notFace_of_selects (args := #[]) (mvT hZ (hw _ (List.mem_of_getElem? (i := 102) rfl)))) (mvT hZ (hw _ (List.mem_of_getElem? (i := 102) rfl))) (mvT hZ (hw _ (List.mem_of_getElem? (i := 101) rfl))) (by decide) (a := t1) [.ref t2] (Own.back (W := 0) (rm_te l Z a0 hw [] t1 t2 i1 i1t k_i1t (strL ca0 ca1 la) x1 x1t k_x1t (strL cb0 cb1 lb) i2 i2t k_i2t (strL c0 c1 lc) x2 x2t k_x2t (strL d0 d1 ld) G1 T8.heap n0 O E_t1 E_t2 F_t1_id F_t1_text F_t2_id F_t2_text O2 P5 (strL_lat L_ca0 L_ca1) strL_len (strL_lat L_cb0 L_cb1) strL_len (strL_lat L_c0 L_c1) strL_len (strL_lat L_d0 L_d1) strL_len E_i1 F_i1_value F_i1_coder V_i1t E_x1 F_x1_value F_x1_coder V_x1t E_i2 F_i2_value F_i2_coder V_i2t E_x2 F_x2_value F_x2_coder V_x2t ) hZ (hw _ (List.mem_of_getElem? (i := 103) rfl)) (hw _ (List.mem_of_getElem? (i := 42) rfl)) (by decide) (by decide)) E_t1 et (by rw [hml]; rfl) [] (lenOf pd_8 rfl) rfl (Nat.le_of_ble_eq_true rfl) (hb hby at_352) (by decide) (by decide) 355 rfl ?_
    rintro _ T9 L9 X9 ⟨rfl, N9q, eH9⟩
    have N9 := Fr.app Nt N9q
    show Own.Go p e below _ (T9.setTop (mkF m 355 #[.val (.int p1), .val (.int p2), .val (.int p3), .val (.int p4), .val (.int p5), .val (.int ca0), .val (.int ca1), .val (.int cb0), .val (.int cb1), .val (.int la), .val (.int lb), .val (.int lc), .val (.int ld), .val (.int c0), .val (.int c1), .val (.int d0), .val (.int d1), .val (.ref i1), .val (.ref x1), .val (.ref i2), .val (.ref x2), .val (.ref t1), .val (.ref t2), .val (.int ex), .val .null, .val (.ref i1)] [(.int (if (strL ca0 ca1 la) = (strL c0 c1 lc) ∧ (strL cb0 cb1 lb) = (strL d0 d1 ld) then (1 : Int32) else 0))]))
    refine Own.g_iload X9 hx (hb hby at_355) rfl 357 rfl ?_
    refine Own.g_icmp_ne_f X9 hx (hb hby at_357) hex.symm 360 rfl ?_
    refine Own.g_aload X9 hx (hb hby at_360) rfl rfl 362 rfl ?_
    refine Own.g_aload X9 hx (hb hby at_362) rfl rfl 364 rfl ?_
    refine Own.g_virtual X9 hx hZ (y := (⟨"com/example/astute_search/astutesearch/engine/Topic", "equals", "(Ljava/lang/Object;)Z"⟩ : MethodName)) (z := (⟨"com/example/astute_search/astutesearch/engine/Topic", "equals", "(Ljava/lang/Object;)Z"⟩ : MethodName)) hown (mvT hZ (hw _ (List.mem_of_getElem? (i := 99) rfl))) (mvT hZ (hw _ (List.mem_of_getElem? (i := 100) rfl))) (notFace_of_selects (args := #[]) (mvT hZ (hw _ (List.mem_of_getElem? (i := 102) rfl)))) (mvT hZ (hw _ (List.mem_of_getElem? (i := 102) rfl))) (mvT hZ (hw _ (List.mem_of_getElem? (i := 101) rfl))) (by decide) (a := t2) [.ref t1] (Own.back (W := 0) (rm_te l Z a0 hw [] t2 t1 i2 i2t k_i2t (strL c0 c1 lc) x2 x2t k_x2t (strL d0 d1 ld) i1 i1t k_i1t (strL ca0 ca1 la) x1 x1t k_x1t (strL cb0 cb1 lb) G1 T8.heap n0 O E_t2 E_t1 F_t2_id F_t2_text F_t1_id F_t1_text O2 P5 (strL_lat L_c0 L_c1) strL_len (strL_lat L_d0 L_d1) strL_len (strL_lat L_ca0 L_ca1) strL_len (strL_lat L_cb0 L_cb1) strL_len E_i2 F_i2_value F_i2_coder V_i2t E_x2 F_x2_value F_x2_coder V_x2t E_i1 F_i1_value F_i1_coder V_i1t E_x1 F_x1_value F_x1_coder V_x1t ) hZ (hw _ (List.mem_of_getElem? (i := 103) rfl)) (hw _ (List.mem_of_getElem? (i := 42) rfl)) (by decide) (by decide)) E_t2 eH9 (by rw [hml]; rfl) [] (lenOf pd_8 rfl) rfl (Nat.le_of_ble_eq_true rfl) (hb hby at_364) (by decide) (by decide) 367 rfl ?_
    rintro _ T10 L10 X10 ⟨rfl, N10q, eH10⟩
    have N10 := Fr.app N9 N10q
    show Own.Go p e below _ (T10.setTop (mkF m 367 #[.val (.int p1), .val (.int p2), .val (.int p3), .val (.int p4), .val (.int p5), .val (.int ca0), .val (.int ca1), .val (.int cb0), .val (.int cb1), .val (.int la), .val (.int lb), .val (.int lc), .val (.int ld), .val (.int c0), .val (.int c1), .val (.int d0), .val (.int d1), .val (.ref i1), .val (.ref x1), .val (.ref i2), .val (.ref x2), .val (.ref t1), .val (.ref t2), .val (.int ex), .val .null, .val (.ref i1)] [(.int (if (strL c0 c1 lc) = (strL ca0 ca1 la) ∧ (strL d0 d1 ld) = (strL cb0 cb1 lb) then (1 : Int32) else 0))]))
    refine Own.g_iload X10 hx (hb hby at_367) rfl 369 rfl ?_
    refine Own.g_icmp_ne_f X10 hx (hb hby at_369) (by rw [hex]; exact own_sym _ _ _ _) 372 rfl ?_
    refine Own.g_aload X10 hx (hb hby at_372) rfl rfl 374 rfl ?_
    refine Own.g_aload X10 hx (hb hby at_374) rfl rfl 376 rfl ?_
    refine Own.g_virtual X10 hx hZ (y := (⟨"com/example/astute_search/astutesearch/engine/Topic", "equals", "(Ljava/lang/Object;)Z"⟩ : MethodName)) (z := (⟨"com/example/astute_search/astutesearch/engine/Topic", "equals", "(Ljava/lang/Object;)Z"⟩ : MethodName)) hown (mvT hZ (hw _ (List.mem_of_getElem? (i := 99) rfl))) (mvT hZ (hw _ (List.mem_of_getElem? (i := 100) rfl))) (notFace_of_selects (args := #[]) (mvT hZ (hw _ (List.mem_of_getElem? (i := 102) rfl)))) (mvT hZ (hw _ (List.mem_of_getElem? (i := 102) rfl))) (mvT hZ (hw _ (List.mem_of_getElem? (i := 101) rfl))) (by decide) (a := t1) [.ref t1] (Own.back (W := 0) (rm_te l Z a0 hw [] t1 t1 i1 i1t k_i1t (strL ca0 ca1 la) x1 x1t k_x1t (strL cb0 cb1 lb) i1 i1t k_i1t (strL ca0 ca1 la) x1 x1t k_x1t (strL cb0 cb1 lb) G1 T8.heap n0 O E_t1 E_t1 F_t1_id F_t1_text F_t1_id F_t1_text O2 P5 (strL_lat L_ca0 L_ca1) strL_len (strL_lat L_cb0 L_cb1) strL_len (strL_lat L_ca0 L_ca1) strL_len (strL_lat L_cb0 L_cb1) strL_len E_i1 F_i1_value F_i1_coder V_i1t E_x1 F_x1_value F_x1_coder V_x1t E_i1 F_i1_value F_i1_coder V_i1t E_x1 F_x1_value F_x1_coder V_x1t ) hZ (hw _ (List.mem_of_getElem? (i := 103) rfl)) (hw _ (List.mem_of_getElem? (i := 42) rfl)) (by decide) (by decide)) E_t1 eH10 (by rw [hml]; rfl) [] (lenOf pd_8 rfl) rfl (Nat.le_of_ble_eq_true rfl) (hb hby at_376) (by decide) (by decide) 379 rfl ?_
    rintro _ T11 L11 X11 ⟨rfl, N11q, eH11⟩
    have N11 := Fr.app N10 N11q
    show Own.Go p e below _ (T11.setTop (mkF m 379 #[.val (.int p1), .val (.int p2), .val (.int p3), .val (.int p4), .val (.int p5), .val (.int ca0), .val (.int ca1), .val (.int cb0), .val (.int cb1), .val (.int la), .val (.int lb), .val (.int lc), .val (.int ld), .val (.int c0), .val (.int c1), .val (.int d0), .val (.int d1), .val (.ref i1), .val (.ref x1), .val (.ref i2), .val (.ref x2), .val (.ref t1), .val (.ref t2), .val (.int ex), .val .null, .val (.ref i1)] [(.int (if (strL ca0 ca1 la) = (strL ca0 ca1 la) ∧ (strL cb0 cb1 lb) = (strL cb0 cb1 lb) then (1 : Int32) else 0))]))
    refine Own.g_if_eq_f X11 hx (hb hby at_379) (by rw [if_pos ⟨rfl, rfl⟩]; decide) 382 rfl ?_
    refine Own.g_aload X11 hx (hb hby at_382) rfl rfl 384 rfl ?_
    refine Own.g_aload X11 hx (hb hby at_384) rfl rfl 386 rfl ?_
    refine Own.g_virtual X11 hx hZ (y := (⟨"com/example/astute_search/astutesearch/engine/Topic", "equals", "(Ljava/lang/Object;)Z"⟩ : MethodName)) (z := (⟨"com/example/astute_search/astutesearch/engine/Topic", "equals", "(Ljava/lang/Object;)Z"⟩ : MethodName)) hown (mvT hZ (hw _ (List.mem_of_getElem? (i := 99) rfl))) (mvT hZ (hw _ (List.mem_of_getElem? (i := 100) rfl))) (notFace_of_selects (args := #[]) (mvT hZ (hw _ (List.mem_of_getElem? (i := 102) rfl)))) (mvT hZ (hw _ (List.mem_of_getElem? (i := 102) rfl))) (mvT hZ (hw _ (List.mem_of_getElem? (i := 101) rfl))) (by decide) (a := t1) [.null] (Own.back (W := 0) (rm_ten l Z a0 hw [] t1 T8.heap n0 O ) hZ (hw _ (List.mem_of_getElem? (i := 103) rfl)) (hw _ (List.mem_of_getElem? (i := 42) rfl)) (by decide) (by decide)) E_t1 eH11 (by rw [hml]; rfl) [] (lenOf pd_8 rfl) rfl (Nat.le_of_ble_eq_true rfl) (hb hby at_386) (by decide) (by decide) 389 rfl ?_
    rintro _ T12 L12 X12 ⟨rfl, N12q, eH12⟩
    have N12 := Fr.app N11 N12q
    show Own.Go p e below _ (T12.setTop (mkF m 389 #[.val (.int p1), .val (.int p2), .val (.int p3), .val (.int p4), .val (.int p5), .val (.int ca0), .val (.int ca1), .val (.int cb0), .val (.int cb1), .val (.int la), .val (.int lb), .val (.int lc), .val (.int ld), .val (.int c0), .val (.int c1), .val (.int d0), .val (.int d1), .val (.ref i1), .val (.ref x1), .val (.ref i2), .val (.ref x2), .val (.ref t1), .val (.ref t2), .val (.int ex), .val .null, .val (.ref i1)] [(.int (0 : Int32))]))
    refine Own.g_if_ne_f X12 hx (hb hby at_389) rfl 392 rfl ?_
    refine Own.g_aload X12 hx (hb hby at_392) rfl rfl 394 rfl ?_
    refine Own.g_aload X12 hx (hb hby at_394) rfl rfl 396 rfl ?_
    refine Own.g_virtual X12 hx hZ (y := (⟨"com/example/astute_search/astutesearch/engine/Topic", "equals", "(Ljava/lang/Object;)Z"⟩ : MethodName)) (z := (⟨"com/example/astute_search/astutesearch/engine/Topic", "equals", "(Ljava/lang/Object;)Z"⟩ : MethodName)) hown (mvT hZ (hw _ (List.mem_of_getElem? (i := 99) rfl))) (mvT hZ (hw _ (List.mem_of_getElem? (i := 100) rfl))) (notFace_of_selects (args := #[]) (mvT hZ (hw _ (List.mem_of_getElem? (i := 102) rfl)))) (mvT hZ (hw _ (List.mem_of_getElem? (i := 102) rfl))) (mvT hZ (hw _ (List.mem_of_getElem? (i := 101) rfl))) (by decide) (a := t1) [.ref i1] (Own.back (W := 0) (rm_tes l Z a0 hw [] t1 i1 T8.heap n0 O E_i1) hZ (hw _ (List.mem_of_getElem? (i := 103) rfl)) (hw _ (List.mem_of_getElem? (i := 42) rfl)) (by decide) (by decide)) E_t1 eH12 (by rw [hml]; rfl) [] (lenOf pd_8 rfl) rfl (Nat.le_of_ble_eq_true rfl) (hb hby at_396) (by decide) (by decide) 399 rfl ?_
    rintro _ T13 L13 X13 ⟨rfl, N13q, eH13⟩
    have N13 := Fr.app N12 N13q
    show Own.Go p e below _ (T13.setTop (mkF m 399 #[.val (.int p1), .val (.int p2), .val (.int p3), .val (.int p4), .val (.int p5), .val (.int ca0), .val (.int ca1), .val (.int cb0), .val (.int cb1), .val (.int la), .val (.int lb), .val (.int lc), .val (.int ld), .val (.int c0), .val (.int c1), .val (.int d0), .val (.int d1), .val (.ref i1), .val (.ref x1), .val (.ref i2), .val (.ref x2), .val (.ref t1), .val (.ref t2), .val (.int ex), .val .null, .val (.ref i1)] [(.int (0 : Int32))]))
    refine Own.g_if_ne_f X13 hx (hb hby at_399) rfl 402 rfl ?_
    refine Own.g_iconst X13 hx (1 : Int32) (hb hby at_402) rfl 403 rfl ?_
    refine Own.g_goto X13 hx (hb hby at_403) 407 (by decide) ?_
    refine Own.g_ret X13 hx hret hlocks rfl (Or.inl ⟨rfl, by simp, _, rfl⟩) (hb hby at_407) (by decide) (by decide) eH13 ?_
    exact hQ _ _ N13
  refine Own.g_callS X8 hx (y := (⟨"com/example/astute_search/astutesearch/engine/TopicEqualsPinLaw", "same", "(CCICCI)Z"⟩ : MethodName)) hown (mvT hZ (hw _ (List.mem_of_getElem? (i := 96) rfl))) (mvT hZ (hw _ (List.mem_of_getElem? (i := 97) rfl))) (mvT hZ (hw _ (List.mem_of_getElem? (i := 2) rfl))) (mvT hZ (hw _ (List.mem_of_getElem? (i := 98) rfl))) (by decide) [.int ca0, .int ca1, .int la, .int c0, .int c1, .int lc] (Own.back (W := 0) (rm_same l Z a0 hw [] ca0 ca1 la c0 c1 lc T8.heap n0 O K_la K_lc) hZ (hw _ (List.mem_of_getElem? (i := 98) rfl)) (hw _ (List.mem_of_getElem? (i := 2) rfl)) (by decide) (by decide)) (rfl : T8.heap = T8.heap) (by rw [hml]; rfl) [] (lenOf pd_11 rfl) rfl (Nat.le_of_ble_eq_true rfl) (hb hby at_310) (by decide) (by decide) 313 rfl ?_
  rintro _ T14 L14 X14 ⟨rfl, N14q, eH14⟩
  have N14 := Fr.app N8 N14q
  show Own.Go p e below _ (T14.setTop (mkF m 313 #[.val (.int p1), .val (.int p2), .val (.int p3), .val (.int p4), .val (.int p5), .val (.int ca0), .val (.int ca1), .val (.int cb0), .val (.int cb1), .val (.int la), .val (.int lb), .val (.int lc), .val (.int ld), .val (.int c0), .val (.int c1), .val (.int d0), .val (.int d1), .val (.ref i1), .val (.ref x1), .val (.ref i2), .val (.ref x2), .val (.ref t1), .val (.ref t2), .unset, .unset, .unset] [(.int (if (strL ca0 ca1 la) = (strL c0 c1 lc) then (1 : Int32) else 0))]))
  refine Own.g_if_eq X14 hx (hb hby at_313) 338 316 (by decide) rfl ?_ ?_
  · intro s1
    refine Own.g_iconst X14 hx (0 : Int32) (hb hby at_338) rfl 339 rfl ?_
    refine Own.g_istore X14 hx #[.val (.int p1), .val (.int p2), .val (.int p3), .val (.int p4), .val (.int p5), .val (.int ca0), .val (.int ca1), .val (.int cb0), .val (.int cb1), .val (.int la), .val (.int lb), .val (.int lc), .val (.int ld), .val (.int c0), .val (.int c1), .val (.int d0), .val (.int d1), .val (.ref i1), .val (.ref x1), .val (.ref i2), .val (.ref x2), .val (.ref t1), .val (.ref t2), .val (.int (0 : Int32)), .unset, .unset] (hb hby at_339) rfl 341 rfl ?_
    exact tl _ _ X14 eH14 N14 _ (by rw [if_neg (fun z => Own.if1_eq s1 z.1)])
  · intro s1
    refine Own.g_iload X14 hx (hb hby at_316) rfl 318 rfl ?_
    refine Own.g_iload X14 hx (hb hby at_318) rfl 320 rfl ?_
    refine Own.g_iload X14 hx (hb hby at_320) rfl 322 rfl ?_
    refine Own.g_iload X14 hx (hb hby at_322) rfl 324 rfl ?_
    refine Own.g_iload X14 hx (hb hby at_324) rfl 326 rfl ?_
    refine Own.g_iload X14 hx (hb hby at_326) rfl 328 rfl ?_
    refine Own.g_callS X14 hx (y := (⟨"com/example/astute_search/astutesearch/engine/TopicEqualsPinLaw", "same", "(CCICCI)Z"⟩ : MethodName)) hown (mvT hZ (hw _ (List.mem_of_getElem? (i := 96) rfl))) (mvT hZ (hw _ (List.mem_of_getElem? (i := 97) rfl))) (mvT hZ (hw _ (List.mem_of_getElem? (i := 2) rfl))) (mvT hZ (hw _ (List.mem_of_getElem? (i := 98) rfl))) (by decide) [.int cb0, .int cb1, .int lb, .int d0, .int d1, .int ld] (Own.back (W := 0) (rm_same l Z a0 hw [] cb0 cb1 lb d0 d1 ld T8.heap n0 O K_lb K_ld) hZ (hw _ (List.mem_of_getElem? (i := 98) rfl)) (hw _ (List.mem_of_getElem? (i := 2) rfl)) (by decide) (by decide)) eH14 (by rw [hml]; rfl) [] (lenOf pd_11 rfl) rfl (Nat.le_of_ble_eq_true rfl) (hb hby at_328) (by decide) (by decide) 331 rfl ?_
    rintro _ T15 L15 X15 ⟨rfl, N15q, eH15⟩
    have N15 := Fr.app N14 N15q
    show Own.Go p e below _ (T15.setTop (mkF m 331 #[.val (.int p1), .val (.int p2), .val (.int p3), .val (.int p4), .val (.int p5), .val (.int ca0), .val (.int ca1), .val (.int cb0), .val (.int cb1), .val (.int la), .val (.int lb), .val (.int lc), .val (.int ld), .val (.int c0), .val (.int c1), .val (.int d0), .val (.int d1), .val (.ref i1), .val (.ref x1), .val (.ref i2), .val (.ref x2), .val (.ref t1), .val (.ref t2), .unset, .unset, .unset] [(.int (if (strL cb0 cb1 lb) = (strL d0 d1 ld) then (1 : Int32) else 0))]))
    refine Own.g_if_eq X15 hx (hb hby at_331) 338 334 (by decide) rfl ?_ ?_
    · intro s2
      refine Own.g_iconst X15 hx (0 : Int32) (hb hby at_338) rfl 339 rfl ?_
      refine Own.g_istore X15 hx #[.val (.int p1), .val (.int p2), .val (.int p3), .val (.int p4), .val (.int p5), .val (.int ca0), .val (.int ca1), .val (.int cb0), .val (.int cb1), .val (.int la), .val (.int lb), .val (.int lc), .val (.int ld), .val (.int c0), .val (.int c1), .val (.int d0), .val (.int d1), .val (.ref i1), .val (.ref x1), .val (.ref i2), .val (.ref x2), .val (.ref t1), .val (.ref t2), .val (.int (0 : Int32)), .unset, .unset] (hb hby at_339) rfl 341 rfl ?_
      exact tl _ _ X15 eH15 N15 _ (by rw [if_neg (fun z => Own.if1_eq s2 z.2)])
    · intro s2
      refine Own.g_iconst X15 hx (1 : Int32) (hb hby at_334) rfl 335 rfl ?_
      refine Own.g_goto X15 hx (hb hby at_335) 339 (by decide) ?_
      refine Own.g_istore X15 hx #[.val (.int p1), .val (.int p2), .val (.int p3), .val (.int p4), .val (.int p5), .val (.int ca0), .val (.int ca1), .val (.int cb0), .val (.int cb1), .val (.int la), .val (.int lb), .val (.int lc), .val (.int ld), .val (.int c0), .val (.int c1), .val (.int d0), .val (.int d1), .val (.ref i1), .val (.ref x1), .val (.ref i2), .val (.ref x2), .val (.ref t1), .val (.ref t2), .val (.int (1 : Int32)), .unset, .unset] (hb hby at_339) rfl 341 rfl ?_
      exact tl _ _ X15 eH15 N15 _ (by rw [if_pos ⟨Own.if1_ne s1, Own.if1_ne s2⟩])
set_option maxRecDepth 65536 in
set_option maxHeartbeats 40000000 in
theorem st_178 {p : Program} {l : Launch} {e : Env} {s : State} {m : MethodId} {args : Array Value} {below : List Frame} {meth : Method} {c : Code} {T0 : State} {locs : List Loc} {Z : State} {a0 : Array Value} {hh : Heap} {n0 : Nat} {Q : Option Value → Heap → List Loc → Prop} (hQ : ∀ h L, Fr n0 L → Q (some (.int 1)) h L)  (hx : p.tables.exec = Jvm.exec) (hZ : Z.Warmed39 s.vm) (hw : ∀ d ∈ tables_1, d.before a0 Z = true) (hby : c.code = code) (hml : c.maxLocals = 26) (hown : s.vm.findClass "com/example/astute_search/astutesearch/engine/TopicEqualsPinLaw" = some m.cls) (hret : meth.sig.returnType = (some .boolean)) (hlocks : meth.locks = false)
    (p1 p2 p3 p4 p5 ca0 ca1 cb0 cb1 la lb lc ld c0 c1 d0 d1 G1 : Int32) (ta : Addr) (ka : ClassId) (inst : Addr) (X0 : Stand p l e room_1 s m args below meth c T0 locs 0 0) (e0 : T0.heap = hh) (N0 : Fr n0 locs) (O : Old Z n0 hh)    (O2 : Sta Z Z.heap "java/lang/String" "COMPACT_STRINGS" "Z" (.int G1)) (P5 : ¬ (G1 = (0 : Int32))) (SA : Sta Z Z.heap "java/lang/CharacterDataLatin1" "A" "[I" (.ref ta)) (AA : Arv Z Z.heap ta ka .int 256 (TABL.map Value.int) (.int 0)) (SI : Sta Z Z.heap "java/lang/CharacterDataLatin1" "instance" "Ljava/lang/CharacterDataLatin1;" (.ref inst)) (EI : Exa Z Z.heap inst "java/lang/CharacterDataLatin1") (L_ca0 : Own.Lat ca0) (L_ca1 : Own.Lat ca1) (L_cb0 : Own.Lat cb0) (L_cb1 : Own.Lat cb1) (L_c0 : Own.Lat c0) (L_c1 : Own.Lat c1) (L_d0 : Own.Lat d0) (L_d1 : Own.Lat d1) (K_la : la = 1 ∨ la = 2) (K_lb : lb = 1 ∨ lb = 2) (K_lc : lc = 1 ∨ lc = 2) (K_ld : ld = 1 ∨ ld = 2) :
    Own.Go p e below (Own.End s Q 40 192) (T0.setTop (mkF m 178 #[.val (.int p1), .val (.int p2), .val (.int p3), .val (.int p4), .val (.int p5), .val (.int ca0), .val (.int ca1), .val (.int cb0), .val (.int cb1), .val (.int la), .val (.int lb), .val (.int lc), .val (.int ld), .val (.int c0), .val (.int c1), .val (.int d0), .val (.int d1), .unset, .unset, .unset, .unset, .unset, .unset, .unset, .unset, .unset] [])) := by
  refine Own.g_iload X0 hx (hb hby at_178) rfl 180 rfl ?_
  refine Own.g_iload X0 hx (hb hby at_180) rfl 182 rfl ?_
  refine Own.g_iload X0 hx (hb hby at_182) rfl 184 rfl ?_
  refine Own.g_callS X0 hx (y := (⟨"com/example/astute_search/astutesearch/engine/TopicEqualsPinLaw", "blank", "(CCI)Z"⟩ : MethodName)) hown (mvT hZ (hw _ (List.mem_of_getElem? (i := 0) rfl))) (mvT hZ (hw _ (List.mem_of_getElem? (i := 1) rfl))) (mvT hZ (hw _ (List.mem_of_getElem? (i := 2) rfl))) (mvT hZ (hw _ (List.mem_of_getElem? (i := 3) rfl))) (by decide) [.int ca0, .int ca1, .int la] (Own.back (W := 0) (rm_bl l Z a0 hw [] ca0 ca1 la hh n0 O ) hZ (hw _ (List.mem_of_getElem? (i := 3) rfl)) (hw _ (List.mem_of_getElem? (i := 2) rfl)) (by decide) (by decide)) e0 (by rw [hml]; rfl) [] (lenOf pd_12 rfl) rfl (Nat.le_of_ble_eq_true rfl) (hb hby at_184) (by decide) (by decide) 187 rfl ?_
  rintro _ T1 L1 X1 ⟨rfl, N1q, eH1⟩
  have N1 := Fr.app N0 N1q
  show Own.Go p e below _ (T1.setTop (mkF m 187 #[.val (.int p1), .val (.int p2), .val (.int p3), .val (.int p4), .val (.int p5), .val (.int ca0), .val (.int ca1), .val (.int cb0), .val (.int cb1), .val (.int la), .val (.int lb), .val (.int lc), .val (.int ld), .val (.int c0), .val (.int c1), .val (.int d0), .val (.int d1), .unset, .unset, .unset, .unset, .unset, .unset, .unset, .unset, .unset] [(.int (if blP ca0 ca1 la then (1 : Int32) else 0))]))
  refine Own.g_if_ne X1 hx (hb hby at_187) 226 190 (by decide) rfl ?_ ?_
  · intro hb0
    refine Own.g_iconst X1 hx (1 : Int32) (hb hby at_226) rfl 227 rfl ?_
    refine Own.g_ret X1 hx hret hlocks rfl (Or.inl ⟨rfl, by simp, _, rfl⟩) (hb hby at_227) (by decide) (by decide) eH1 ?_
    exact hQ _ _ N1
  · intro hb0
    have B_a := Own.if1_eq hb0
    refine Own.g_iload X1 hx (hb hby at_190) rfl 192 rfl ?_
    refine Own.g_iload X1 hx (hb hby at_192) rfl 194 rfl ?_
    refine Own.g_iload X1 hx (hb hby at_194) rfl 196 rfl ?_
    refine Own.g_callS X1 hx (y := (⟨"com/example/astute_search/astutesearch/engine/TopicEqualsPinLaw", "blank", "(CCI)Z"⟩ : MethodName)) hown (mvT hZ (hw _ (List.mem_of_getElem? (i := 0) rfl))) (mvT hZ (hw _ (List.mem_of_getElem? (i := 1) rfl))) (mvT hZ (hw _ (List.mem_of_getElem? (i := 2) rfl))) (mvT hZ (hw _ (List.mem_of_getElem? (i := 3) rfl))) (by decide) [.int cb0, .int cb1, .int lb] (Own.back (W := 0) (rm_bl l Z a0 hw [] cb0 cb1 lb hh n0 O ) hZ (hw _ (List.mem_of_getElem? (i := 3) rfl)) (hw _ (List.mem_of_getElem? (i := 2) rfl)) (by decide) (by decide)) eH1 (by rw [hml]; rfl) [] (lenOf pd_12 rfl) rfl (Nat.le_of_ble_eq_true rfl) (hb hby at_196) (by decide) (by decide) 199 rfl ?_
    rintro _ T2 L2 X2 ⟨rfl, N2q, eH2⟩
    have N2 := Fr.app N1 N2q
    show Own.Go p e below _ (T2.setTop (mkF m 199 #[.val (.int p1), .val (.int p2), .val (.int p3), .val (.int p4), .val (.int p5), .val (.int ca0), .val (.int ca1), .val (.int cb0), .val (.int cb1), .val (.int la), .val (.int lb), .val (.int lc), .val (.int ld), .val (.int c0), .val (.int c1), .val (.int d0), .val (.int d1), .unset, .unset, .unset, .unset, .unset, .unset, .unset, .unset, .unset] [(.int (if blP cb0 cb1 lb then (1 : Int32) else 0))]))
    refine Own.g_if_ne X2 hx (hb hby at_199) 226 202 (by decide) rfl ?_ ?_
    · intro hb1
      refine Own.g_iconst X2 hx (1 : Int32) (hb hby at_226) rfl 227 rfl ?_
      refine Own.g_ret X2 hx hret hlocks rfl (Or.inl ⟨rfl, by simp, _, rfl⟩) (hb hby at_227) (by decide) (by decide) eH2 ?_
      exact hQ _ _ N2
    · intro hb1
      have B_b := Own.if1_eq hb1
      refine Own.g_iload X2 hx (hb hby at_202) rfl 204 rfl ?_
      refine Own.g_iload X2 hx (hb hby at_204) rfl 206 rfl ?_
      refine Own.g_iload X2 hx (hb hby at_206) rfl 208 rfl ?_
      refine Own.g_callS X2 hx (y := (⟨"com/example/astute_search/astutesearch/engine/TopicEqualsPinLaw", "blank", "(CCI)Z"⟩ : MethodName)) hown (mvT hZ (hw _ (List.mem_of_getElem? (i := 0) rfl))) (mvT hZ (hw _ (List.mem_of_getElem? (i := 1) rfl))) (mvT hZ (hw _ (List.mem_of_getElem? (i := 2) rfl))) (mvT hZ (hw _ (List.mem_of_getElem? (i := 3) rfl))) (by decide) [.int c0, .int c1, .int lc] (Own.back (W := 0) (rm_bl l Z a0 hw [] c0 c1 lc hh n0 O ) hZ (hw _ (List.mem_of_getElem? (i := 3) rfl)) (hw _ (List.mem_of_getElem? (i := 2) rfl)) (by decide) (by decide)) eH2 (by rw [hml]; rfl) [] (lenOf pd_12 rfl) rfl (Nat.le_of_ble_eq_true rfl) (hb hby at_208) (by decide) (by decide) 211 rfl ?_
      rintro _ T3 L3 X3 ⟨rfl, N3q, eH3⟩
      have N3 := Fr.app N2 N3q
      show Own.Go p e below _ (T3.setTop (mkF m 211 #[.val (.int p1), .val (.int p2), .val (.int p3), .val (.int p4), .val (.int p5), .val (.int ca0), .val (.int ca1), .val (.int cb0), .val (.int cb1), .val (.int la), .val (.int lb), .val (.int lc), .val (.int ld), .val (.int c0), .val (.int c1), .val (.int d0), .val (.int d1), .unset, .unset, .unset, .unset, .unset, .unset, .unset, .unset, .unset] [(.int (if blP c0 c1 lc then (1 : Int32) else 0))]))
      refine Own.g_if_ne X3 hx (hb hby at_211) 226 214 (by decide) rfl ?_ ?_
      · intro hb2
        refine Own.g_iconst X3 hx (1 : Int32) (hb hby at_226) rfl 227 rfl ?_
        refine Own.g_ret X3 hx hret hlocks rfl (Or.inl ⟨rfl, by simp, _, rfl⟩) (hb hby at_227) (by decide) (by decide) eH3 ?_
        exact hQ _ _ N3
      · intro hb2
        have B_c := Own.if1_eq hb2
        refine Own.g_iload X3 hx (hb hby at_214) rfl 216 rfl ?_
        refine Own.g_iload X3 hx (hb hby at_216) rfl 218 rfl ?_
        refine Own.g_iload X3 hx (hb hby at_218) rfl 220 rfl ?_
        refine Own.g_callS X3 hx (y := (⟨"com/example/astute_search/astutesearch/engine/TopicEqualsPinLaw", "blank", "(CCI)Z"⟩ : MethodName)) hown (mvT hZ (hw _ (List.mem_of_getElem? (i := 0) rfl))) (mvT hZ (hw _ (List.mem_of_getElem? (i := 1) rfl))) (mvT hZ (hw _ (List.mem_of_getElem? (i := 2) rfl))) (mvT hZ (hw _ (List.mem_of_getElem? (i := 3) rfl))) (by decide) [.int d0, .int d1, .int ld] (Own.back (W := 0) (rm_bl l Z a0 hw [] d0 d1 ld hh n0 O ) hZ (hw _ (List.mem_of_getElem? (i := 3) rfl)) (hw _ (List.mem_of_getElem? (i := 2) rfl)) (by decide) (by decide)) eH3 (by rw [hml]; rfl) [] (lenOf pd_12 rfl) rfl (Nat.le_of_ble_eq_true rfl) (hb hby at_220) (by decide) (by decide) 223 rfl ?_
        rintro _ T4 L4 X4 ⟨rfl, N4q, eH4⟩
        have N4 := Fr.app N3 N4q
        show Own.Go p e below _ (T4.setTop (mkF m 223 #[.val (.int p1), .val (.int p2), .val (.int p3), .val (.int p4), .val (.int p5), .val (.int ca0), .val (.int ca1), .val (.int cb0), .val (.int cb1), .val (.int la), .val (.int lb), .val (.int lc), .val (.int ld), .val (.int c0), .val (.int c1), .val (.int d0), .val (.int d1), .unset, .unset, .unset, .unset, .unset, .unset, .unset, .unset, .unset] [(.int (if blP d0 d1 ld then (1 : Int32) else 0))]))
        refine Own.g_if_eq X4 hx (hb hby at_223) 228 226 (by decide) rfl ?_ ?_
        · intro hb3
          have B_d := Own.if1_eq hb3
          exact st_228 hQ hx hZ hw hby hml hown hret hlocks p1 p2 p3 p4 p5 ca0 ca1 cb0 cb1 la lb lc ld c0 c1 d0 d1 G1 ta ka inst X4 eH4 N4 O    O2 P5 SA AA SI EI L_ca0 L_ca1 L_cb0 L_cb1 L_c0 L_c1 L_d0 L_d1 K_la K_lb K_lc K_ld B_a B_b B_c B_d
        · intro hb3
          refine Own.g_iconst X4 hx (1 : Int32) (hb hby at_226) rfl 227 rfl ?_
          refine Own.g_ret X4 hx hret hlocks rfl (Or.inl ⟨rfl, by simp, _, rfl⟩) (hb hby at_227) (by decide) (by decide) eH4 ?_
          exact hQ _ _ N4
set_option maxRecDepth 65536 in
set_option maxHeartbeats 40000000 in
theorem st_127 {p : Program} {l : Launch} {e : Env} {s : State} {m : MethodId} {args : Array Value} {below : List Frame} {meth : Method} {c : Code} {T0 : State} {locs : List Loc} {Z : State} {a0 : Array Value} {hh : Heap} {n0 : Nat} {Q : Option Value → Heap → List Loc → Prop} (hQ : ∀ h L, Fr n0 L → Q (some (.int 1)) h L)  (hx : p.tables.exec = Jvm.exec) (hZ : Z.Warmed39 s.vm) (hw : ∀ d ∈ tables_1, d.before a0 Z = true) (hby : c.code = code) (hml : c.maxLocals = 26) (hown : s.vm.findClass "com/example/astute_search/astutesearch/engine/TopicEqualsPinLaw" = some m.cls) (hret : meth.sig.returnType = (some .boolean)) (hlocks : meth.locks = false)
    (p1 p2 p3 p4 p5 ca0 ca1 cb0 cb1 la lb lc ld c0 c1 G1 : Int32) (ta : Addr) (ka : ClassId) (inst : Addr) (X0 : Stand p l e room_1 s m args below meth c T0 locs 0 0) (e0 : T0.heap = hh) (N0 : Fr n0 locs) (O : Old Z n0 hh)    (O2 : Sta Z Z.heap "java/lang/String" "COMPACT_STRINGS" "Z" (.int G1)) (P5 : ¬ (G1 = (0 : Int32))) (SA : Sta Z Z.heap "java/lang/CharacterDataLatin1" "A" "[I" (.ref ta)) (AA : Arv Z Z.heap ta ka .int 256 (TABL.map Value.int) (.int 0)) (SI : Sta Z Z.heap "java/lang/CharacterDataLatin1" "instance" "Ljava/lang/CharacterDataLatin1;" (.ref inst)) (EI : Exa Z Z.heap inst "java/lang/CharacterDataLatin1") (L_ca0 : Own.Lat ca0) (L_ca1 : Own.Lat ca1) (L_cb0 : Own.Lat cb0) (L_cb1 : Own.Lat cb1) (L_c0 : Own.Lat c0) (L_c1 : Own.Lat c1) (K_la : la = 1 ∨ la = 2) (K_lb : lb = 1 ∨ lb = 2) (K_lc : lc = 1 ∨ lc = 2) (K_ld : ld = 1 ∨ ld = 2) :
    Own.Go p e below (Own.End s Q 40 192) (T0.setTop (mkF m 127 #[.val (.int p1), .val (.int p2), .val (.int p3), .val (.int p4), .val (.int p5), .val (.int ca0), .val (.int ca1), .val (.int cb0), .val (.int cb1), .val (.int la), .val (.int lb), .val (.int lc), .val (.int ld), .val (.int c0), .val (.int c1), .unset, .unset, .unset, .unset, .unset, .unset, .unset, .unset, .unset, .unset, .unset] [])) := by
  refine Own.g_iloadN X0 hx (hb hby at_127) rfl 128 rfl ?_
  refine Own.g_iconst X0 hx (4 : Int32) (hb hby at_128) rfl 129 rfl ?_
  refine Own.g_iand X0 hx (hb hby at_129) 130 rfl ?_
  refine Own.g_if_eq X0 hx (hb hby at_130) 158 133 (by decide) rfl ?_ ?_
  · intro hd
    refine Own.g_iload X0 hx (hb hby at_158) rfl 160 rfl ?_
    refine Own.g_iloadN X0 hx (hb hby at_160) rfl 161 rfl ?_
    refine Own.g_iconst X0 hx (1 : Int32) (hb hby at_161) rfl 162 rfl ?_
    refine Own.g_iand X0 hx (hb hby at_162) 163 rfl ?_
    refine Own.g_ixor X0 hx (hb hby at_163) 164 rfl ?_
    refine Own.g_i2c X0 hx (hb hby at_164) 165 rfl ?_
    refine Own.g_istore X0 hx #[.val (.int p1), .val (.int p2), .val (.int p3), .val (.int p4), .val (.int p5), .val (.int ca0), .val (.int ca1), .val (.int cb0), .val (.int cb1), .val (.int la), .val (.int lb), .val (.int lc), .val (.int ld), .val (.int c0), .val (.int c1), .val (.int ((cb0 ^^^ (p4 &&& (1 : Int32))).toUInt32.toUInt16.toUInt32.toInt32)), .unset, .unset, .unset, .unset, .unset, .unset, .unset, .unset, .unset, .unset] (hb hby at_165) rfl 167 rfl ?_
    refine Own.g_iload X0 hx (hb hby at_167) rfl 169 rfl ?_
    refine Own.g_iloadN X0 hx (hb hby at_169) rfl 170 rfl ?_
    refine Own.g_iconst X0 hx (1 : Int32) (hb hby at_170) rfl 171 rfl ?_
    refine Own.g_iushr X0 hx (hb hby at_171) 172 rfl ?_
    refine Own.g_iconst X0 hx (1 : Int32) (hb hby at_172) rfl 173 rfl ?_
    refine Own.g_iand X0 hx (hb hby at_173) 174 rfl ?_
    refine Own.g_ixor X0 hx (hb hby at_174) 175 rfl ?_
    refine Own.g_i2c X0 hx (hb hby at_175) 176 rfl ?_
    refine Own.g_istore X0 hx #[.val (.int p1), .val (.int p2), .val (.int p3), .val (.int p4), .val (.int p5), .val (.int ca0), .val (.int ca1), .val (.int cb0), .val (.int cb1), .val (.int la), .val (.int lb), .val (.int lc), .val (.int ld), .val (.int c0), .val (.int c1), .val (.int ((cb0 ^^^ (p4 &&& (1 : Int32))).toUInt32.toUInt16.toUInt32.toInt32)), .val (.int ((cb1 ^^^ (((p4.toUInt32 >>> ((1 : Int32) &&& 31).toUInt32).toInt32) &&& (1 : Int32))).toUInt32.toUInt16.toUInt32.toInt32)), .unset, .unset, .unset, .unset, .unset, .unset, .unset, .unset, .unset] (hb hby at_176) rfl 178 rfl ?_
    exact st_178 hQ hx hZ hw hby hml hown hret hlocks p1 p2 p3 p4 p5 ca0 ca1 cb0 cb1 la lb lc ld c0 c1 ((cb0 ^^^ (p4 &&& (1 : Int32))).toUInt32.toUInt16.toUInt32.toInt32) ((cb1 ^^^ (((p4.toUInt32 >>> ((1 : Int32) &&& 31).toUInt32).toInt32) &&& (1 : Int32))).toUInt32.toUInt16.toUInt32.toInt32) G1 ta ka inst X0 e0 N0 O    O2 P5 SA AA SI EI L_ca0 L_ca1 L_cb0 L_cb1 L_c0 L_c1 (Own.lat_xor1 _ _ L_cb0) (Own.lat_xor1 _ _ L_cb1) K_la K_lb K_lc K_ld
  · intro hd
    refine Own.g_iloadN X0 hx (hb hby at_133) rfl 134 rfl ?_
    refine Own.g_bipush X0 hx (8 : Int32) (hb hby at_134) rfl 136 rfl ?_
    refine Own.g_iushr X0 hx (hb hby at_136) 137 rfl ?_
    refine Own.g_sipush X0 hx (255 : Int32) (hb hby at_137) rfl 140 rfl ?_
    refine Own.g_iand X0 hx (hb hby at_140) 141 rfl ?_
    refine Own.g_i2c X0 hx (hb hby at_141) 142 rfl ?_
    refine Own.g_istore X0 hx #[.val (.int p1), .val (.int p2), .val (.int p3), .val (.int p4), .val (.int p5), .val (.int ca0), .val (.int ca1), .val (.int cb0), .val (.int cb1), .val (.int la), .val (.int lb), .val (.int lc), .val (.int ld), .val (.int c0), .val (.int c1), .val (.int ((((p4.toUInt32 >>> ((8 : Int32) &&& 31).toUInt32).toInt32) &&& (255 : Int32)).toUInt32.toUInt16.toUInt32.toInt32)), .unset, .unset, .unset, .unset, .unset, .unset, .unset, .unset, .unset, .unset] (hb hby at_142) rfl 144 rfl ?_
    refine Own.g_iloadN X0 hx (hb hby at_144) rfl 145 rfl ?_
    refine Own.g_bipush X0 hx (16 : Int32) (hb hby at_145) rfl 147 rfl ?_
    refine Own.g_iushr X0 hx (hb hby at_147) 148 rfl ?_
    refine Own.g_sipush X0 hx (255 : Int32) (hb hby at_148) rfl 151 rfl ?_
    refine Own.g_iand X0 hx (hb hby at_151) 152 rfl ?_
    refine Own.g_i2c X0 hx (hb hby at_152) 153 rfl ?_
    refine Own.g_istore X0 hx #[.val (.int p1), .val (.int p2), .val (.int p3), .val (.int p4), .val (.int p5), .val (.int ca0), .val (.int ca1), .val (.int cb0), .val (.int cb1), .val (.int la), .val (.int lb), .val (.int lc), .val (.int ld), .val (.int c0), .val (.int c1), .val (.int ((((p4.toUInt32 >>> ((8 : Int32) &&& 31).toUInt32).toInt32) &&& (255 : Int32)).toUInt32.toUInt16.toUInt32.toInt32)), .val (.int ((((p4.toUInt32 >>> ((16 : Int32) &&& 31).toUInt32).toInt32) &&& (255 : Int32)).toUInt32.toUInt16.toUInt32.toInt32)), .unset, .unset, .unset, .unset, .unset, .unset, .unset, .unset, .unset] (hb hby at_153) rfl 155 rfl ?_
    refine Own.g_goto X0 hx (hb hby at_155) 178 (by decide) ?_
    exact st_178 hQ hx hZ hw hby hml hown hret hlocks p1 p2 p3 p4 p5 ca0 ca1 cb0 cb1 la lb lc ld c0 c1 ((((p4.toUInt32 >>> ((8 : Int32) &&& 31).toUInt32).toInt32) &&& (255 : Int32)).toUInt32.toUInt16.toUInt32.toInt32) ((((p4.toUInt32 >>> ((16 : Int32) &&& 31).toUInt32).toInt32) &&& (255 : Int32)).toUInt32.toUInt16.toUInt32.toInt32) G1 ta ka inst X0 e0 N0 O    O2 P5 SA AA SI EI L_ca0 L_ca1 L_cb0 L_cb1 L_c0 L_c1 (Own.lat255c _) (Own.lat255c _) K_la K_lb K_lc K_ld
theorem ef_law (m : MethodId) (x0 : Int32) (x1 : Int32) (x2 : Int32) (x3 : Int32) (x4 : Int32) : entryFrame m #[.int x0, .int x1, .int x2, .int x3, .int x4] maxLocals = mkF m 0 #[.val (.int x0), .val (.int x1), .val (.int x2), .val (.int x3), .val (.int x4), .unset, .unset, .unset, .unset, .unset, .unset, .unset, .unset, .unset, .unset, .unset, .unset, .unset, .unset, .unset, .unset, .unset, .unset, .unset, .unset, .unset] [] := by first | (simp [entryFrame, mkF, argsToLocals, Value.category, maxLocals]; done) | rfl
def Q_law (Z : State) (p1 : Int32) (p2 : Int32) (p3 : Int32) (p4 : Int32) (p5 : Int32) (G1 : Int32) (ta : Addr) (ka : ClassId) (inst : Addr) (h0 : Heap) (n0 : Nat) (v : Option Value) (h : Heap) (L : List Loc) : Prop := v = some (.int 1) ∧ Fr n0 L
set_option maxRecDepth 65536 in
set_option maxHeartbeats 40000000 in
theorem rm_law (l : Launch) (Z : State) (a0 : Array Value) (hw : ∀ d ∈ tables_1, d.before a0 Z = true) (ws : List Jvm.Cond) (p1 : Int32) (p2 : Int32) (p3 : Int32) (p4 : Int32) (p5 : Int32) (G1 : Int32) (ta : Addr) (ka : ClassId) (inst : Addr) (h0 : Heap) (n0 : Nat) (O : Old Z n0 h0) (O2 : Sta Z Z.heap "java/lang/String" "COMPACT_STRINGS" "Z" (.int G1)) (P5 : ¬ (G1 = (0 : Int32))) (SA : Sta Z Z.heap "java/lang/CharacterDataLatin1" "A" "[I" (.ref ta)) (AA : Arv Z Z.heap ta ka .int 256 (TABL.map Value.int) (.int 0)) (SI : Sta Z Z.heap "java/lang/CharacterDataLatin1" "instance" "Ljava/lang/CharacterDataLatin1;" (.ref inst)) (EI : Exa Z Z.heap inst "java/lang/CharacterDataLatin1") :
    MetFree l x (head1 (Jvm.Cond.code x code maxLocals ret :: ws) room_1) (fun aa U => aa = #[.int p1, .int p2, .int p3, .int p4, .int p5] ∧ Z.Warmed39 U.vm ∧ U.heap = h0) (fun _ _ _ _ _ => True) (fun _ U o U' => Own.End U (Q_law Z p1 p2 p3 p4 p5 G1 ta ka inst h0 n0) 40 192 o U') := by
  refine MetFree.of_bodySF (plainFor_of_name pn_0) hisR ?_
  intro p e s m args below meth c s₁ Bd hml0 hP hK
  obtain ⟨rfl, hZ, hh⟩ := hP
  have hx := Bd.exec
  have hby := Bd.bytes
  have hml : c.maxLocals = 26 := hml0
  have hown : s.vm.findClass "com/example/astute_search/astutesearch/engine/TopicEqualsPinLaw" = some m.cls := findClass_of_methodNamed Bd.named
  have hnm := (name_of_methodNamed Bd.named Bd.method).1
  have hret := Bd.returns
  have hlocks : meth.locks = false := Bd.notSynchronized
  have X0 : Stand p l e room_1 s m #[.int p1, .int p2, .int p3, .int p4, .int p5] below meth c s₁ [] 0 0 := Stand.of_body Bd
  have e0 : s₁.heap = h0 := by rw [← hh, Bd.state]; rfl
  have N0 := Fr.nil n0
  show Own.Go p e below (Own.End s (Q_law Z p1 p2 p3 p4 p5 G1 ta ka inst h0 n0) 40 192) (s₁.setTop (entryFrame m #[.int p1, .int p2, .int p3, .int p4, .int p5] maxLocals))
  refine Own.Go.eq (ef_law m p1 p2 p3 p4 p5) ?_
  have hQ : ∀ h L, Fr n0 L → Q_law Z p1 p2 p3 p4 p5 G1 ta ka inst h0 n0 (some (.int 1)) h L := fun _ _ N => ⟨rfl, N⟩
  refine Own.g_iloadN X0 hx (hb hby at_0) rfl 1 rfl ?_
  refine Own.g_sipush X0 hx (255 : Int32) (hb hby at_1) rfl 4 rfl ?_
  refine Own.g_iand X0 hx (hb hby at_4) 5 rfl ?_
  refine Own.g_i2c X0 hx (hb hby at_5) 6 rfl ?_
  refine Own.g_istore X0 hx #[.val (.int p1), .val (.int p2), .val (.int p3), .val (.int p4), .val (.int p5), .val (.int ((p1 &&& (255 : Int32)).toUInt32.toUInt16.toUInt32.toInt32)), .unset, .unset, .unset, .unset, .unset, .unset, .unset, .unset, .unset, .unset, .unset, .unset, .unset, .unset, .unset, .unset, .unset, .unset, .unset, .unset] (hb hby at_6) rfl 8 rfl ?_
  obtain ⟨ca0, hca0⟩ : ∃ z : Int32, z = ((p1 &&& (255 : Int32)).toUInt32.toUInt16.toUInt32.toInt32) := ⟨_, rfl⟩
  rw [← hca0]
  have L_ca0 : Own.Lat ca0 := by rw [hca0]; exact Own.lat255c _
  refine Own.g_iloadN X0 hx (hb hby at_8) rfl 9 rfl ?_
  refine Own.g_bipush X0 hx (8 : Int32) (hb hby at_9) rfl 11 rfl ?_
  refine Own.g_iushr X0 hx (hb hby at_11) 12 rfl ?_
  refine Own.g_sipush X0 hx (255 : Int32) (hb hby at_12) rfl 15 rfl ?_
  refine Own.g_iand X0 hx (hb hby at_15) 16 rfl ?_
  refine Own.g_i2c X0 hx (hb hby at_16) 17 rfl ?_
  refine Own.g_istore X0 hx #[.val (.int p1), .val (.int p2), .val (.int p3), .val (.int p4), .val (.int p5), .val (.int ca0), .val (.int ((((p1.toUInt32 >>> ((8 : Int32) &&& 31).toUInt32).toInt32) &&& (255 : Int32)).toUInt32.toUInt16.toUInt32.toInt32)), .unset, .unset, .unset, .unset, .unset, .unset, .unset, .unset, .unset, .unset, .unset, .unset, .unset, .unset, .unset, .unset, .unset, .unset, .unset] (hb hby at_17) rfl 19 rfl ?_
  obtain ⟨ca1, hca1⟩ : ∃ z : Int32, z = ((((p1.toUInt32 >>> ((8 : Int32) &&& 31).toUInt32).toInt32) &&& (255 : Int32)).toUInt32.toUInt16.toUInt32.toInt32) := ⟨_, rfl⟩
  rw [← hca1]
  have L_ca1 : Own.Lat ca1 := by rw [hca1]; exact Own.lat255c _
  refine Own.g_iloadN X0 hx (hb hby at_19) rfl 20 rfl ?_
  refine Own.g_sipush X0 hx (255 : Int32) (hb hby at_20) rfl 23 rfl ?_
  refine Own.g_iand X0 hx (hb hby at_23) 24 rfl ?_
  refine Own.g_i2c X0 hx (hb hby at_24) 25 rfl ?_
  refine Own.g_istore X0 hx #[.val (.int p1), .val (.int p2), .val (.int p3), .val (.int p4), .val (.int p5), .val (.int ca0), .val (.int ca1), .val (.int ((p2 &&& (255 : Int32)).toUInt32.toUInt16.toUInt32.toInt32)), .unset, .unset, .unset, .unset, .unset, .unset, .unset, .unset, .unset, .unset, .unset, .unset, .unset, .unset, .unset, .unset, .unset, .unset] (hb hby at_25) rfl 27 rfl ?_
  obtain ⟨cb0, hcb0⟩ : ∃ z : Int32, z = ((p2 &&& (255 : Int32)).toUInt32.toUInt16.toUInt32.toInt32) := ⟨_, rfl⟩
  rw [← hcb0]
  have L_cb0 : Own.Lat cb0 := by rw [hcb0]; exact Own.lat255c _
  refine Own.g_iloadN X0 hx (hb hby at_27) rfl 28 rfl ?_
  refine Own.g_bipush X0 hx (8 : Int32) (hb hby at_28) rfl 30 rfl ?_
  refine Own.g_iushr X0 hx (hb hby at_30) 31 rfl ?_
  refine Own.g_sipush X0 hx (255 : Int32) (hb hby at_31) rfl 34 rfl ?_
  refine Own.g_iand X0 hx (hb hby at_34) 35 rfl ?_
  refine Own.g_i2c X0 hx (hb hby at_35) 36 rfl ?_
  refine Own.g_istore X0 hx #[.val (.int p1), .val (.int p2), .val (.int p3), .val (.int p4), .val (.int p5), .val (.int ca0), .val (.int ca1), .val (.int cb0), .val (.int ((((p2.toUInt32 >>> ((8 : Int32) &&& 31).toUInt32).toInt32) &&& (255 : Int32)).toUInt32.toUInt16.toUInt32.toInt32)), .unset, .unset, .unset, .unset, .unset, .unset, .unset, .unset, .unset, .unset, .unset, .unset, .unset, .unset, .unset, .unset, .unset] (hb hby at_36) rfl 38 rfl ?_
  obtain ⟨cb1, hcb1⟩ : ∃ z : Int32, z = ((((p2.toUInt32 >>> ((8 : Int32) &&& 31).toUInt32).toInt32) &&& (255 : Int32)).toUInt32.toUInt16.toUInt32.toInt32) := ⟨_, rfl⟩
  rw [← hcb1]
  have L_cb1 : Own.Lat cb1 := by rw [hcb1]; exact Own.lat255c _
  refine Own.g_iconst X0 hx (1 : Int32) (hb hby at_38) rfl 39 rfl ?_
  refine Own.g_iload X0 hx (hb hby at_39) rfl 41 rfl ?_
  refine Own.g_iconst X0 hx (1 : Int32) (hb hby at_41) rfl 42 rfl ?_
  refine Own.g_iand X0 hx (hb hby at_42) 43 rfl ?_
  refine Own.g_iadd X0 hx (hb hby at_43) 44 rfl ?_
  refine Own.g_istore X0 hx #[.val (.int p1), .val (.int p2), .val (.int p3), .val (.int p4), .val (.int p5), .val (.int ca0), .val (.int ca1), .val (.int cb0), .val (.int cb1), .val (.int ((1 : Int32) + (p5 &&& (1 : Int32)))), .unset, .unset, .unset, .unset, .unset, .unset, .unset, .unset, .unset, .unset, .unset, .unset, .unset, .unset, .unset, .unset] (hb hby at_44) rfl 46 rfl ?_
  obtain ⟨la, hla⟩ : ∃ z : Int32, z = ((1 : Int32) + (p5 &&& (1 : Int32))) := ⟨_, rfl⟩
  rw [← hla]
  have K_la : la = 1 ∨ la = 2 := by rw [hla]; exact Own.len12 _
  refine Own.g_iconst X0 hx (1 : Int32) (hb hby at_46) rfl 47 rfl ?_
  refine Own.g_iload X0 hx (hb hby at_47) rfl 49 rfl ?_
  refine Own.g_iconst X0 hx (1 : Int32) (hb hby at_49) rfl 50 rfl ?_
  refine Own.g_iushr X0 hx (hb hby at_50) 51 rfl ?_
  refine Own.g_iconst X0 hx (1 : Int32) (hb hby at_51) rfl 52 rfl ?_
  refine Own.g_iand X0 hx (hb hby at_52) 53 rfl ?_
  refine Own.g_iadd X0 hx (hb hby at_53) 54 rfl ?_
  refine Own.g_istore X0 hx #[.val (.int p1), .val (.int p2), .val (.int p3), .val (.int p4), .val (.int p5), .val (.int ca0), .val (.int ca1), .val (.int cb0), .val (.int cb1), .val (.int la), .val (.int ((1 : Int32) + (((p5.toUInt32 >>> ((1 : Int32) &&& 31).toUInt32).toInt32) &&& (1 : Int32)))), .unset, .unset, .unset, .unset, .unset, .unset, .unset, .unset, .unset, .unset, .unset, .unset, .unset, .unset, .unset] (hb hby at_54) rfl 56 rfl ?_
  obtain ⟨lb, hlb⟩ : ∃ z : Int32, z = ((1 : Int32) + (((p5.toUInt32 >>> ((1 : Int32) &&& 31).toUInt32).toInt32) &&& (1 : Int32))) := ⟨_, rfl⟩
  rw [← hlb]
  have K_lb : lb = 1 ∨ lb = 2 := by rw [hlb]; exact Own.len12 _
  refine Own.g_iconst X0 hx (1 : Int32) (hb hby at_56) rfl 57 rfl ?_
  refine Own.g_iload X0 hx (hb hby at_57) rfl 59 rfl ?_
  refine Own.g_iconst X0 hx (2 : Int32) (hb hby at_59) rfl 60 rfl ?_
  refine Own.g_iushr X0 hx (hb hby at_60) 61 rfl ?_
  refine Own.g_iconst X0 hx (1 : Int32) (hb hby at_61) rfl 62 rfl ?_
  refine Own.g_iand X0 hx (hb hby at_62) 63 rfl ?_
  refine Own.g_iadd X0 hx (hb hby at_63) 64 rfl ?_
  refine Own.g_istore X0 hx #[.val (.int p1), .val (.int p2), .val (.int p3), .val (.int p4), .val (.int p5), .val (.int ca0), .val (.int ca1), .val (.int cb0), .val (.int cb1), .val (.int la), .val (.int lb), .val (.int ((1 : Int32) + (((p5.toUInt32 >>> ((2 : Int32) &&& 31).toUInt32).toInt32) &&& (1 : Int32)))), .unset, .unset, .unset, .unset, .unset, .unset, .unset, .unset, .unset, .unset, .unset, .unset, .unset, .unset] (hb hby at_64) rfl 66 rfl ?_
  obtain ⟨lc, hlc⟩ : ∃ z : Int32, z = ((1 : Int32) + (((p5.toUInt32 >>> ((2 : Int32) &&& 31).toUInt32).toInt32) &&& (1 : Int32))) := ⟨_, rfl⟩
  rw [← hlc]
  have K_lc : lc = 1 ∨ lc = 2 := by rw [hlc]; exact Own.len12 _
  refine Own.g_iconst X0 hx (1 : Int32) (hb hby at_66) rfl 67 rfl ?_
  refine Own.g_iload X0 hx (hb hby at_67) rfl 69 rfl ?_
  refine Own.g_iconst X0 hx (3 : Int32) (hb hby at_69) rfl 70 rfl ?_
  refine Own.g_iushr X0 hx (hb hby at_70) 71 rfl ?_
  refine Own.g_iconst X0 hx (1 : Int32) (hb hby at_71) rfl 72 rfl ?_
  refine Own.g_iand X0 hx (hb hby at_72) 73 rfl ?_
  refine Own.g_iadd X0 hx (hb hby at_73) 74 rfl ?_
  refine Own.g_istore X0 hx #[.val (.int p1), .val (.int p2), .val (.int p3), .val (.int p4), .val (.int p5), .val (.int ca0), .val (.int ca1), .val (.int cb0), .val (.int cb1), .val (.int la), .val (.int lb), .val (.int lc), .val (.int ((1 : Int32) + (((p5.toUInt32 >>> ((3 : Int32) &&& 31).toUInt32).toInt32) &&& (1 : Int32)))), .unset, .unset, .unset, .unset, .unset, .unset, .unset, .unset, .unset, .unset, .unset, .unset, .unset] (hb hby at_74) rfl 76 rfl ?_
  obtain ⟨ld, hld⟩ : ∃ z : Int32, z = ((1 : Int32) + (((p5.toUInt32 >>> ((3 : Int32) &&& 31).toUInt32).toInt32) &&& (1 : Int32))) := ⟨_, rfl⟩
  rw [← hld]
  have K_ld : ld = 1 ∨ ld = 2 := by rw [hld]; exact Own.len12 _
  refine Own.g_iloadN X0 hx (hb hby at_76) rfl 77 rfl ?_
  refine Own.g_iconst X0 hx (4 : Int32) (hb hby at_77) rfl 78 rfl ?_
  refine Own.g_iand X0 hx (hb hby at_78) 79 rfl ?_
  refine Own.g_if_eq X0 hx (hb hby at_79) 107 82 (by decide) rfl ?_ ?_
  · intro hd
    refine Own.g_iload X0 hx (hb hby at_107) rfl 109 rfl ?_
    refine Own.g_iloadN X0 hx (hb hby at_109) rfl 110 rfl ?_
    refine Own.g_iconst X0 hx (1 : Int32) (hb hby at_110) rfl 111 rfl ?_
    refine Own.g_iand X0 hx (hb hby at_111) 112 rfl ?_
    refine Own.g_ixor X0 hx (hb hby at_112) 113 rfl ?_
    refine Own.g_i2c X0 hx (hb hby at_113) 114 rfl ?_
    refine Own.g_istore X0 hx #[.val (.int p1), .val (.int p2), .val (.int p3), .val (.int p4), .val (.int p5), .val (.int ca0), .val (.int ca1), .val (.int cb0), .val (.int cb1), .val (.int la), .val (.int lb), .val (.int lc), .val (.int ld), .val (.int ((ca0 ^^^ (p3 &&& (1 : Int32))).toUInt32.toUInt16.toUInt32.toInt32)), .unset, .unset, .unset, .unset, .unset, .unset, .unset, .unset, .unset, .unset, .unset, .unset] (hb hby at_114) rfl 116 rfl ?_
    refine Own.g_iload X0 hx (hb hby at_116) rfl 118 rfl ?_
    refine Own.g_iloadN X0 hx (hb hby at_118) rfl 119 rfl ?_
    refine Own.g_iconst X0 hx (1 : Int32) (hb hby at_119) rfl 120 rfl ?_
    refine Own.g_iushr X0 hx (hb hby at_120) 121 rfl ?_
    refine Own.g_iconst X0 hx (1 : Int32) (hb hby at_121) rfl 122 rfl ?_
    refine Own.g_iand X0 hx (hb hby at_122) 123 rfl ?_
    refine Own.g_ixor X0 hx (hb hby at_123) 124 rfl ?_
    refine Own.g_i2c X0 hx (hb hby at_124) 125 rfl ?_
    refine Own.g_istore X0 hx #[.val (.int p1), .val (.int p2), .val (.int p3), .val (.int p4), .val (.int p5), .val (.int ca0), .val (.int ca1), .val (.int cb0), .val (.int cb1), .val (.int la), .val (.int lb), .val (.int lc), .val (.int ld), .val (.int ((ca0 ^^^ (p3 &&& (1 : Int32))).toUInt32.toUInt16.toUInt32.toInt32)), .val (.int ((ca1 ^^^ (((p3.toUInt32 >>> ((1 : Int32) &&& 31).toUInt32).toInt32) &&& (1 : Int32))).toUInt32.toUInt16.toUInt32.toInt32)), .unset, .unset, .unset, .unset, .unset, .unset, .unset, .unset, .unset, .unset, .unset] (hb hby at_125) rfl 127 rfl ?_
    exact st_127 hQ hx hZ hw hby hml hown hret hlocks p1 p2 p3 p4 p5 ca0 ca1 cb0 cb1 la lb lc ld ((ca0 ^^^ (p3 &&& (1 : Int32))).toUInt32.toUInt16.toUInt32.toInt32) ((ca1 ^^^ (((p3.toUInt32 >>> ((1 : Int32) &&& 31).toUInt32).toInt32) &&& (1 : Int32))).toUInt32.toUInt16.toUInt32.toInt32) G1 ta ka inst X0 e0 N0 O    O2 P5 SA AA SI EI L_ca0 L_ca1 L_cb0 L_cb1 (Own.lat_xor1 _ _ L_ca0) (Own.lat_xor1 _ _ L_ca1) K_la K_lb K_lc K_ld
  · intro hd
    refine Own.g_iloadN X0 hx (hb hby at_82) rfl 83 rfl ?_
    refine Own.g_bipush X0 hx (8 : Int32) (hb hby at_83) rfl 85 rfl ?_
    refine Own.g_iushr X0 hx (hb hby at_85) 86 rfl ?_
    refine Own.g_sipush X0 hx (255 : Int32) (hb hby at_86) rfl 89 rfl ?_
    refine Own.g_iand X0 hx (hb hby at_89) 90 rfl ?_
    refine Own.g_i2c X0 hx (hb hby at_90) 91 rfl ?_
    refine Own.g_istore X0 hx #[.val (.int p1), .val (.int p2), .val (.int p3), .val (.int p4), .val (.int p5), .val (.int ca0), .val (.int ca1), .val (.int cb0), .val (.int cb1), .val (.int la), .val (.int lb), .val (.int lc), .val (.int ld), .val (.int ((((p3.toUInt32 >>> ((8 : Int32) &&& 31).toUInt32).toInt32) &&& (255 : Int32)).toUInt32.toUInt16.toUInt32.toInt32)), .unset, .unset, .unset, .unset, .unset, .unset, .unset, .unset, .unset, .unset, .unset, .unset] (hb hby at_91) rfl 93 rfl ?_
    refine Own.g_iloadN X0 hx (hb hby at_93) rfl 94 rfl ?_
    refine Own.g_bipush X0 hx (16 : Int32) (hb hby at_94) rfl 96 rfl ?_
    refine Own.g_iushr X0 hx (hb hby at_96) 97 rfl ?_
    refine Own.g_sipush X0 hx (255 : Int32) (hb hby at_97) rfl 100 rfl ?_
    refine Own.g_iand X0 hx (hb hby at_100) 101 rfl ?_
    refine Own.g_i2c X0 hx (hb hby at_101) 102 rfl ?_
    refine Own.g_istore X0 hx #[.val (.int p1), .val (.int p2), .val (.int p3), .val (.int p4), .val (.int p5), .val (.int ca0), .val (.int ca1), .val (.int cb0), .val (.int cb1), .val (.int la), .val (.int lb), .val (.int lc), .val (.int ld), .val (.int ((((p3.toUInt32 >>> ((8 : Int32) &&& 31).toUInt32).toInt32) &&& (255 : Int32)).toUInt32.toUInt16.toUInt32.toInt32)), .val (.int ((((p3.toUInt32 >>> ((16 : Int32) &&& 31).toUInt32).toInt32) &&& (255 : Int32)).toUInt32.toUInt16.toUInt32.toInt32)), .unset, .unset, .unset, .unset, .unset, .unset, .unset, .unset, .unset, .unset, .unset] (hb hby at_102) rfl 104 rfl ?_
    refine Own.g_goto X0 hx (hb hby at_104) 127 (by decide) ?_
    exact st_127 hQ hx hZ hw hby hml hown hret hlocks p1 p2 p3 p4 p5 ca0 ca1 cb0 cb1 la lb lc ld ((((p3.toUInt32 >>> ((8 : Int32) &&& 31).toUInt32).toInt32) &&& (255 : Int32)).toUInt32.toUInt16.toUInt32.toInt32) ((((p3.toUInt32 >>> ((16 : Int32) &&& 31).toUInt32).toInt32) &&& (255 : Int32)).toUInt32.toUInt16.toUInt32.toInt32) G1 ta ka inst X0 e0 N0 O    O2 P5 SA AA SI EI L_ca0 L_ca1 L_cb0 L_cb1 (Own.lat255c _) (Own.lat255c _) K_la K_lb K_lc K_ld
set_option maxRecDepth 65536 in
set_option maxHeartbeats 40000000 in
theorem hel : ∀ i : Fin 256, jdkStatics_1[17 + i.val]? = some (Jvm.Cond.eq (Jvm.Term.elem (Jvm.Term.static "java/lang/CharacterDataLatin1" "A" "[I") (Jvm.Term.int (Int32.ofNat i.val))) (Jvm.Term.int (TABL.getD i.val 0))) := by decide +kernel
theorem hasL_of {c : Cell} : ∀ (vs : List Value) (i : Nat), (∀ j, (h : j < vs.length) → c.slots[i + j]? = some vs[j]) → HasL c i vs
  | [], _, _ => trivial
  | v :: r, i, H => ⟨by have := H 0 (by simp); simpa using this, hasL_of r (i + 1) (fun j h => by have := H (j + 1) (by simpa using h); rw [show i + 1 + j = i + (j + 1) by omega]; simpa using this)⟩
theorem own_arv256 {s : State} {args : Array Value} (hf : Fit s) {t : Jvm.Term} {a : Addr} (ha : (Jvm.Cond.arrayOf t .int).value args s none s [] = some true) (ht : t.eval args s none [] s = some (.ref a)) (hl : (Jvm.Cond.eq (Jvm.Term.length t) (Jvm.Term.int 256)).value args s none s [] = some true) (TB : List Int32) (hT : TB.length = 256)
    (H : ∀ i : Fin 256, (Jvm.Cond.eq (Jvm.Term.elem t (Jvm.Term.int (Int32.ofNat i.val))) (Jvm.Term.int (TB.getD i.val 0))).value args s none s [] = some true) : ∃ k, Arv s s.heap a k .int 256 (TB.map Value.int) (.int 0) := by
  refine Own.start_arv hf ha ht hl (by decide) (TB.map Value.int) (by rw [List.length_map, hT]; decide) (fun cl hcl => hasL_of _ 0 fun j hj => ?_) (.int 0)
  rw [List.length_map, hT] at hj
  have q := Own.start_elem (H ⟨j, hj⟩) ht hcl (Jvm.Term.int_eval _)
  have e : (Int32.ofNat j).toNatClampNeg = j := by show (Int32.ofNat j).toInt.toNat = j; rw [Int32.toInt_ofNat_of_lt (by omega)]; rfl
  rw [Nat.zero_add]
  simp only [e] at q
  rw [q]; simp [List.getElem_map, List.getD_eq_getElem?_getD, hT, hj]
set_option maxRecDepth 65536 in
set_option maxHeartbeats 40000000 in
theorem comes_1 {Post : Tables → Env → Array Value → State → Outcome → State → Prop} (hpost : ∀ tb e args s v u, (limb_1_1.after args s (.returned v) u = true ∧ limb_1_2.after args s (.returned v) u = true ∧ True) → FrameEnd s (.returned v) u (Jvm.fieldLocs frame_1_writes args s ++ Jvm.arrayLocs frame_1_arrays args s ++ Jvm.staticLocs frame_1_statics s) 40 192 → Post tb e args s (.returned v) u) :
    ArmFor flags0 classFile x code maxLocals ret World_1 tables_1 room_1 Calls_1 rest_1 Pre_1 Post := by
  intro l hfl _ _ p e ha hc hk s m args below hf hA hF happ hP
  obtain ⟨hcalls, hrest, hpre⟩ := hP
  obtain ⟨-, -, -, hnamed, -, -, -, hat⟩ := (Spec.applies_iff hf).mp happ
  obtain ⟨hg, hn⟩ := and_e (Cond.before_iff.mp (show (Jvm.Cond.and given_1 narrow_1).before args s = true from hpre))
  obtain ⟨g0, q0⟩ := and_e hg
  obtain ⟨g1, q1⟩ := and_e q0
  obtain ⟨g2, q2⟩ := and_e q1
  obtain ⟨g3, q3⟩ := and_e q2
  obtain ⟨g4, q4⟩ := and_e q3
  obtain ⟨w0, w1, w2, w3, w4, rfl⟩ : ∃ w0 w1 w2 w3 w4 : Value, args = #[w0, w1, w2, w3, w4] := by
    have hs : args.size = 5 := by simpa [Cond.value, given_1] using g0
    obtain ⟨L⟩ := args
    match L, hs with
    | [w0, w1, w2, w3, w4], _ => exact ⟨w0, w1, w2, w3, w4, rfl⟩
  have hw := fun d (hd : d ∈ tables_1) => atoms_spec (ws := Jvm.Cond.code x code maxLocals ret :: tables_1) hat d (List.mem_cons_of_mem _ hd)
  have hfit : Fit s := fun {y c} hc i hi => by
    obtain ⟨ha, rfl⟩ := Array.getElem?_eq_some_iff.mp hc
    have q := List.all_eq_true.mp ((Array.all_eq_true_iff_forall_mem.mp hF) _ (Array.getElem_mem ha)) i (List.mem_range.mpr hi)
    simpa [Array.getElem?_eq_getElem hi] using q
  obtain ⟨hsets, hown0⟩ := atoms_of _ (rest_1_c_eq ▸ (show rest_1_c.before _ s = true from hrest))
  obtain ⟨i0, ei0⟩ := is_v g1
  obtain rfl : w0 = (.int i0) := Option.some.inj ei0
  obtain ⟨i1, ei1⟩ := is_v g2
  obtain rfl : w1 = (.int i1) := Option.some.inj ei1
  obtain ⟨i2, ei2⟩ := is_v g3
  obtain rfl : w2 = (.int i2) := Option.some.inj ei2
  obtain ⟨i3, ei3⟩ := is_v g4
  obtain rfl : w3 = (.int i3) := Option.some.inj ei3
  obtain ⟨i4, ei4⟩ := is_v q4
  obtain rfl : w4 = (.int i4) := Option.some.inj ei4
  have nz := not_v (Cond.before_iff.mp (hsets _ (List.mem_of_getElem? (i := 2) rfl)))
  obtain ⟨G1, eG1⟩ := is_v (Cond.before_iff.mp (hsets _ (List.mem_of_getElem? (i := 1) rfl)))
  have O2 : Sta s s.heap "java/lang/String" "COMPACT_STRINGS" "Z" (.int G1) := Sta.start eG1 (Or.inl (hsets _ (List.mem_of_getElem? (i := 0) rfl)))
  have P5 : ¬ (G1 = (0 : Int32)) := gotF (Cond.eq_ints eG1 (Term.int_eval (0))) nz
  obtain ⟨G3, eG3, rG3⟩ := isR_v (Cond.before_iff.mp (hsets _ (List.mem_of_getElem? (i := 8) rfl)))
  have O4 : Sta s s.heap "jdk/internal/util/Preconditions" "SIOOBE_FORMATTER" "Ljava/util/function/BiFunction;" G3 := Sta.start eG3 (Or.inl (hsets _ (List.mem_of_getElem? (i := 7) rfl)))
  obtain ⟨inst, einst⟩ := exa_v (Cond.before_iff.mp (hsets _ (List.mem_of_getElem? (i := 11) rfl)))
  have SI : Sta s s.heap "java/lang/CharacterDataLatin1" "instance" "Ljava/lang/CharacterDataLatin1;" (.ref inst) := Sta.start einst (Or.inl (hsets _ (List.mem_of_getElem? (i := 10) rfl)))
  have EI : Exa s s.heap inst "java/lang/CharacterDataLatin1" := Exa.start einst (Cond.before_iff.mp (hsets _ (List.mem_of_getElem? (i := 11) rfl)))
  obtain ⟨ta, eta⟩ := exa_v (Cond.before_iff.mp (hsets _ (List.mem_of_getElem? (i := 15) rfl)))
  have SA : Sta s s.heap "java/lang/CharacterDataLatin1" "A" "[I" (.ref ta) := Sta.start eta (Or.inl (hsets _ (List.mem_of_getElem? (i := 13) rfl)))
  obtain ⟨ka, AA⟩ := own_arv256 hfit (Cond.before_iff.mp (hsets _ (List.mem_of_getElem? (i := 14) rfl))) eta (Cond.before_iff.mp (hsets _ (List.mem_of_getElem? (i := 16) rfl))) TABL rfl (fun i => Cond.before_iff.mp (hsets _ (List.mem_of_getElem? (hel i))))
  obtain ⟨n, o, h1, h2, h3, v, L, rfl, ⟨rfl, N⟩, hq⟩ := rm_law l s _ hw tables_1 i0 i1 i2 i3 i4 G1 ta ka inst s.heap s.heap.size (Old.start s) O2 P5 SA AA SI EI p e ha hc hk s m _ below hf ((Spec.applies_iff_loose hf).mp happ).1 ⟨rfl, State.Warmed39.refl s, rfl⟩ trivial
  refine ⟨n, _, h1, h2, h3, hpost _ _ _ _ _ _ ⟨Cond.after_iff.mpr rfl, Cond.after_iff.mpr (eq_i res_at (Term.int_eval (1)) rfl), trivial⟩ ⟨hq.1, hq.2.1, (hq.2.2.sift fun y hy => Or.inr (N y hy)).mono (by decide) (by decide)⟩⟩
theorem main_1_1 : Claimed_1_1 := comes_1 fun _ _ _ _ _ _ h hF => ⟨h.1, hF⟩
theorem main_1_2 : Claimed_1_2 := comes_1 fun _ _ _ _ _ _ h hF => ⟨h.2.1, hF⟩
end Jvm.Pilot.@@N@@
namespace Jvm.Pilot.@@N@@
open Jvm Jvm.ClassFile Sem Op Lib Jvm.Free Jvm.Stand Jvm.Pilot.@@N@@.Jvm.D
/-! MADE BY PROGRAM (witnessworld.py) out of the Statement's table words and the real class files: 22 classes; the members and pool entries that the words name. The judged class is class 1, her method 5. -/
namespace start1
open Jvm.ClassFile
def u (s : String) : CpInfo := .utf8 (stringToUtf16 s)
/-- a pool by its gaps: so many unusable entries, then the entry; so many at the end -/
def gap : Nat → List CpInfo → List CpInfo
  | 0, r => r
  | n + 1, r => .unusable :: gap n r
def poolList (es : List (Nat × CpInfo)) (last : Nat) : List CpInfo := es.foldr (fun e r => gap e.1 (e.2 :: r)) (gap last [])
def pool (es : List (Nat × CpInfo)) (last : Nat) : Array CpInfo := ⟨poolList es last⟩
def fileOf (pool : Array CpInfo) (this : Nat) (attrs : Array Attribute := #[]) (ms : Array MethodInfo := #[]) (fl : Nat := 33) (sup : Nat := 0) (ifs : Array Nat := #[]) (fds : Array FieldInfo := #[]) : ClassFile where
  minorVersion := 0
  majorVersion := 65
  constantPool := pool
  accessFlags := fl
  thisClass := this
  superClass := sup
  interfaces := ifs
  fields := fds
  methods := ms
  attributes := attrs
def plain (name : String) (sup : Option ClassId) : Class where
  name := name
  kind := .ordinary
  loader := none
  accessFlags := 33
  super := sup
  interfaces := #[]
  cf := none
  fields := #[]
  methods := #[]
  instanceTypes := #[]
  staticTypes := #[]
  resolved := #[]
  callSites := []
  init := .initialized
  statics := none
  mirror := none

def pool0 : Array CpInfo := pool [(5, u "<init>"), (0, u "()V"), (1, .class_ 10), (1, u "java/lang/Object")] 113

def k0c0 : Code := { maxStack := 0, maxLocals := 1, code := object_method_1_code, exceptionTable := #[], attributes := #[] }
def k0m0 : Method := { name := "<init>", desc := "()V", sig := { parameters := [], returnType := none }, accessFlags := 1, code := some k0c0 }
/-- java/lang/Object -/
def k0 : Class := { plain "java/lang/Object" none with
  accessFlags := 33
  interfaces := #[]
  cf := some (fileOf pool0 8 #[] #[{ accessFlags := 1, nameIndex := 5, descriptorIndex := 6, attributes := #[] }] 33 0 #[] #[])
  fields := #[]
  methods := #[k0m0]
  instanceTypes := #[]
  staticTypes := #[]
  resolved := Array.replicate 124 none
  statics := none }

def pool1 : Array CpInfo := pool [(2, .class_ 4), (1, u "java/lang/Object"), (0, u "<init>"), (0, u "()V"), (0, .methodref 8 9), (0, .class_ 10), (0, .nameAndType 11 12), (0, u "com/example/astute_search/astutesearch/engine/TopicEqualsPinLaw"), (0, u "ws"), (0, u "(C)Z"), (0, .class_ 14), (0, u "java/lang/String"), (0, .methodref 13 16), (0, .nameAndType 5 17), (0, u "([C)V"), (0, .methodref 8 19), (0, .nameAndType 20 21), (0, u "blank"), (0, u "(CCI)Z"), (0, .methodref 8 23), (0, .nameAndType 24 25), (0, u "str"), (0, u "(CCI)Ljava/lang/String;"), (0, .class_ 27), (0, u "com/example/astute_search/astutesearch/engine/Topic"), (0, .methodref 26 29), (0, .nameAndType 5 30), (0, u "(Ljava/lang/String;Ljava/lang/String;)V"), (0, .methodref 8 32), (0, .nameAndType 33 34), (0, u "same"), (0, u "(CCICCI)Z"), (0, .methodref 26 36), (0, .nameAndType 37 38), (0, u "equals"), (0, u "(Ljava/lang/Object;)Z"), (3, u "law"), (0, u "(IIIII)Z")] 2

def k1m0 : Method := { name := "<init>", desc := "()V", sig := { parameters := [], returnType := none }, accessFlags := 1, code := none }
def k1c1 : Code := { maxStack := 2, maxLocals := 1, code := method_2_code, exceptionTable := #[], attributes := #[] }
def k1m1 : Method := { name := "ws", desc := "(C)Z", sig := { parameters := [.char], returnType := some .boolean }, accessFlags := 10, code := some k1c1 }
def k1c2 : Code := { maxStack := 2, maxLocals := 3, code := method_3_code, exceptionTable := #[], attributes := #[] }
def k1m2 : Method := { name := "blank", desc := "(CCI)Z", sig := { parameters := [.char, .char, .int], returnType := some .boolean }, accessFlags := 10, code := some k1c2 }
def k1c3 : Code := { maxStack := 6, maxLocals := 3, code := method_4_code, exceptionTable := #[], attributes := #[] }
def k1m3 : Method := { name := "str", desc := "(CCI)Ljava/lang/String;", sig := { parameters := [.char, .char, .int], returnType := some (.object "java/lang/String") }, accessFlags := 10, code := some k1c3 }
def k1c4 : Code := { maxStack := 2, maxLocals := 6, code := method_5_code, exceptionTable := #[], attributes := #[] }
def k1m4 : Method := { name := "same", desc := "(CCICCI)Z", sig := { parameters := [.char, .char, .int, .char, .char, .int], returnType := some .boolean }, accessFlags := 10, code := some k1c4 }
def k1c5 : Code := { maxStack := 6, maxLocals := 26, code := code, exceptionTable := #[], attributes := #[] }
def k1m5 : Method := { name := "law", desc := "(IIIII)Z", sig := { parameters := [.int, .int, .int, .int, .int], returnType := some .boolean }, accessFlags := 9, code := some k1c5 }
/-- com/example/astute_search/astutesearch/engine/TopicEqualsPinLaw -/
def k1 : Class := { plain "com/example/astute_search/astutesearch/engine/TopicEqualsPinLaw" (some 0) with
  accessFlags := 49
  interfaces := #[]
  cf := some (fileOf pool1 8 #[] #[{ accessFlags := 1, nameIndex := 5, descriptorIndex := 6, attributes := #[] }, { accessFlags := 10, nameIndex := 11, descriptorIndex := 12, attributes := #[] }, { accessFlags := 10, nameIndex := 20, descriptorIndex := 21, attributes := #[] }, { accessFlags := 10, nameIndex := 24, descriptorIndex := 25, attributes := #[] }, { accessFlags := 10, nameIndex := 33, descriptorIndex := 34, attributes := #[] }, { accessFlags := 9, nameIndex := 42, descriptorIndex := 43, attributes := #[] }] 49 2 #[] #[])
  fields := #[]
  methods := #[k1m0, k1m1, k1m2, k1m3, k1m4, k1m5]
  instanceTypes := #[]
  staticTypes := #[]
  resolved := Array.replicate 46 none
  statics := none }

def pool2 : Array CpInfo := pool [(1, .class_ 2), (0, u "java/io/Serializable"), (0, .class_ 4), (0, u "java/lang/Object")] 2

/-- java/io/Serializable -/
def k2 : Class := { plain "java/io/Serializable" (some 0) with
  accessFlags := 1537
  interfaces := #[]
  cf := some (fileOf pool2 1 #[] #[] 1537 3 #[] #[])
  fields := #[]
  methods := #[]
  instanceTypes := #[]
  staticTypes := #[]
  resolved := Array.replicate 7 none
  statics := none }

def pool3 : Array CpInfo := pool [(1, .class_ 2), (0, u "java/lang/Comparable"), (0, .class_ 4), (0, u "java/lang/Object")] 7

/-- java/lang/Comparable -/
def k3 : Class := { plain "java/lang/Comparable" (some 0) with
  accessFlags := 1537
  interfaces := #[]
  cf := some (fileOf pool3 1 #[] #[] 1537 3 #[] #[])
  fields := #[]
  methods := #[]
  instanceTypes := #[]
  staticTypes := #[]
  resolved := Array.replicate 12 none
  statics := none }

def pool4 : Array CpInfo := pool [(2, .class_ 4), (1, u "java/lang/CharSequence"), (42, .class_ 48), (0, u "java/lang/CharSequence$1CodePointIterator"), (10, .class_ 60), (0, u "java/lang/CharSequence$1CharIterator"), (5, .class_ 67), (0, u "java/lang/Object")] 63

/-- java/lang/CharSequence -/
def k4 : Class := { plain "java/lang/CharSequence" (some 0) with
  accessFlags := 1537
  interfaces := #[]
  cf := some (fileOf pool4 2 #[.nestMembers #[47, 59]] #[] 1537 66 #[] #[])
  fields := #[]
  methods := #[]
  instanceTypes := #[]
  staticTypes := #[]
  resolved := Array.replicate 131 none
  statics := none }

def pool5 : Array CpInfo := pool [(1, .class_ 2), (0, u "java/lang/constant/Constable"), (0, .class_ 4), (0, u "java/lang/Object")] 6

/-- java/lang/constant/Constable -/
def k5 : Class := { plain "java/lang/constant/Constable" (some 0) with
  accessFlags := 1537
  interfaces := #[]
  cf := some (fileOf pool5 1 #[] #[] 1537 3 #[] #[])
  fields := #[]
  methods := #[]
  instanceTypes := #[]
  staticTypes := #[]
  resolved := Array.replicate 11 none
  statics := none }

def pool6 : Array CpInfo := pool [(1, .class_ 2), (0, u "java/lang/constant/ConstantDesc"), (0, .class_ 4), (0, u "java/lang/Object")] 32

/-- java/lang/constant/ConstantDesc -/
def k6 : Class := { plain "java/lang/constant/ConstantDesc" (some 0) with
  accessFlags := 1537
  interfaces := #[]
  cf := some (fileOf pool6 1 #[] #[] 1537 3 #[] #[])
  fields := #[]
  methods := #[]
  instanceTypes := #[]
  staticTypes := #[]
  resolved := Array.replicate 37 none
  statics := none }

def pool7 : Array CpInfo := pool [(1, .methodref 2 3), (0, .class_ 4), (0, .nameAndType 5 6), (0, u "java/lang/Object"), (0, u "<init>"), (0, u "()V"), (2, .fieldref 10 11), (0, .class_ 12), (0, .nameAndType 13 14), (0, u "java/lang/String"), (0, u "value"), (0, u "[B"), (0, .fieldref 10 16), (0, .nameAndType 17 18), (0, u "coder"), (0, u "B"), (2, u "hash"), (0, u "I"), (2, u "hashIsZero"), (0, u "Z"), (0, .methodref 10 28), (0, .nameAndType 5 29), (0, u "([CIILjava/lang/Void;)V"), (8, .fieldref 10 39), (0, .nameAndType 40 26), (0, u "COMPACT_STRINGS"), (1, .class_ 44), (1, u "java/lang/StringUTF16"), (0, u "compress"), (1, .methodref 42 48), (0, .nameAndType 49 50), (0, u "coderFromArrayLen"), (0, u "([BI)B"), (56, .class_ 109), (1, u "java/lang/StringLatin1"), (32, u "()Z"), (34, .methodref 42 178), (0, .nameAndType 45 179), (0, u "([CII)[B"), (154, u "()I"), (0, .methodref 10 336), (0, .nameAndType 17 337), (0, u "()B"), (154, .methodref 10 493), (0, .nameAndType 494 142), (0, u "isLatin1"), (10, .methodref 10 506), (0, .nameAndType 507 334), (0, u "length"), (33, .methodref 107 542), (0, .nameAndType 543 544), (0, u "equals"), (0, u "([B[B)Z"), (28, u "(Ljava/lang/Object;)Z"), (1, .class_ 576), (0, u "java/lang/CharSequence"), (22, u "CASE_INSENSITIVE_ORDER"), (0, u "Ljava/util/Comparator;"), (30, u "([B)I"), (244, .methodref 10 877), (0, .nameAndType 878 334), (0, u "indexOfNonWhitespace"), (45, .methodref 107 925), (0, .nameAndType 878 631), (26, u "isBlank"), (57, u "([C)V"), (90, u "serialPersistentFields"), (0, u "[Ljava/io/ObjectStreamField;"), (0, .class_ 1104), (0, u "java/lang/String$CaseInsensitiveComparator"), (1, .class_ 1107), (0, u "java/io/Serializable"), (0, .class_ 1109), (0, u "java/lang/Comparable"), (0, .class_ 1111), (0, u "java/lang/constant/Constable"), (0, .class_ 1113), (0, u "java/lang/constant/ConstantDesc"), (2, u "serialVersionUID"), (0, u "J"), (3, u "REPL"), (0, u "C"), (2, u "LATIN1"), (1, u "UTF16")] 323

def k7m0 : Method := { name := "<init>", desc := "()V", sig := { parameters := [], returnType := none }, accessFlags := 1, code := none }
def k7c1 : Code := { maxStack := 5, maxLocals := 2, code := jdk_42_method_3_code, exceptionTable := #[], attributes := #[] }
def k7m1 : Method := { name := "<init>", desc := "([C)V", sig := { parameters := [(.array .char)], returnType := none }, accessFlags := 1, code := some k7c1 }
def k7c2 : Code := { maxStack := 2, maxLocals := 1, code := jdk_42_method_54_code, exceptionTable := #[], attributes := #[] }
def k7m2 : Method := { name := "length", desc := "()I", sig := { parameters := [], returnType := some .int }, accessFlags := 1, code := some k7c2 }
def k7c3 : Code := { maxStack := 2, maxLocals := 3, code := jdk_42_method_66_code, exceptionTable := #[], attributes := #[] }
def k7m3 : Method := { name := "equals", desc := "(Ljava/lang/Object;)Z", sig := { parameters := [(.object "java/lang/Object")], returnType := some .boolean }, accessFlags := 1, code := some k7c3 }
def k7c4 : Code := { maxStack := 2, maxLocals := 1, code := jdk_42_method_117_code, exceptionTable := #[], attributes := #[] }
def k7m4 : Method := { name := "isBlank", desc := "()Z", sig := { parameters := [], returnType := some .boolean }, accessFlags := 1, code := some k7c4 }
def k7c5 : Code := { maxStack := 1, maxLocals := 1, code := jdk_42_method_120_code, exceptionTable := #[], attributes := #[] }
def k7m5 : Method := { name := "indexOfNonWhitespace", desc := "()I", sig := { parameters := [], returnType := some .int }, accessFlags := 2, code := some k7c5 }
def k7c6 : Code := { maxStack := 4, maxLocals := 6, code := jdk_42_method_149_code, exceptionTable := #[], attributes := #[] }
def k7m6 : Method := { name := "<init>", desc := "([CIILjava/lang/Void;)V", sig := { parameters := [(.array .char), .int, .int, (.object "java/lang/Void")], returnType := none }, accessFlags := 2, code := some k7c6 }
def k7c7 : Code := { maxStack := 1, maxLocals := 1, code := jdk_42_method_152_code, exceptionTable := #[], attributes := #[] }
def k7m7 : Method := { name := "coder", desc := "()B", sig := { parameters := [], returnType := some .byte }, accessFlags := 0, code := some k7c7 }
def k7c8 : Code := { maxStack := 1, maxLocals := 1, code := jdk_42_method_154_code, exceptionTable := #[], attributes := #[] }
def k7m8 : Method := { name := "isLatin1", desc := "()Z", sig := { parameters := [], returnType := some .boolean }, accessFlags := 0, code := some k7c8 }
/-- java/lang/String -/
def k7 : Class := { plain "java/lang/String" (some 0) with
  accessFlags := 49
  interfaces := #[2, 3, 4, 5, 6]
  cf := some (fileOf pool7 10 #[.nestMembers #[1103]] #[{ accessFlags := 1, nameIndex := 5, descriptorIndex := 6, attributes := #[] }, { accessFlags := 1, nameIndex := 5, descriptorIndex := 1010, attributes := #[] }, { accessFlags := 1, nameIndex := 507, descriptorIndex := 334, attributes := #[] }, { accessFlags := 1, nameIndex := 543, descriptorIndex := 573, attributes := #[] }, { accessFlags := 1, nameIndex := 952, descriptorIndex := 142, attributes := #[] }, { accessFlags := 2, nameIndex := 878, descriptorIndex := 334, attributes := #[] }, { accessFlags := 2, nameIndex := 5, descriptorIndex := 29, attributes := #[] }, { accessFlags := 0, nameIndex := 17, descriptorIndex := 337, attributes := #[] }, { accessFlags := 0, nameIndex := 494, descriptorIndex := 142, attributes := #[] }] 49 2 #[1106, 1108, 575, 1110, 1112] #[{ accessFlags := 18, nameIndex := 13, descriptorIndex := 14, attributes := #[] }, { accessFlags := 18, nameIndex := 17, descriptorIndex := 18, attributes := #[] }, { accessFlags := 2, nameIndex := 21, descriptorIndex := 22, attributes := #[] }, { accessFlags := 2, nameIndex := 25, descriptorIndex := 26, attributes := #[] }, { accessFlags := 26, nameIndex := 1116, descriptorIndex := 1117, attributes := #[] }, { accessFlags := 24, nameIndex := 40, descriptorIndex := 26, attributes := #[] }, { accessFlags := 26, nameIndex := 1101, descriptorIndex := 1102, attributes := #[] }, { accessFlags := 26, nameIndex := 1121, descriptorIndex := 1122, attributes := #[] }, { accessFlags := 25, nameIndex := 599, descriptorIndex := 600, attributes := #[] }, { accessFlags := 24, nameIndex := 1125, descriptorIndex := 18, attributes := #[] }, { accessFlags := 24, nameIndex := 1127, descriptorIndex := 18, attributes := #[] }])
  fields := #[{ name := "value", type := (.array .byte), accessFlags := 18, slot := 0, constantValue := 0 }, { name := "coder", type := .byte, accessFlags := 18, slot := 1, constantValue := 0 }, { name := "hash", type := .int, accessFlags := 2, slot := 2, constantValue := 0 }, { name := "hashIsZero", type := .boolean, accessFlags := 2, slot := 3, constantValue := 0 }, { name := "serialVersionUID", type := .long, accessFlags := 26, slot := 0, constantValue := 0 }, { name := "COMPACT_STRINGS", type := .boolean, accessFlags := 24, slot := 1, constantValue := 0 }, { name := "serialPersistentFields", type := (.array (.object "java/io/ObjectStreamField")), accessFlags := 26, slot := 2, constantValue := 0 }, { name := "REPL", type := .char, accessFlags := 26, slot := 3, constantValue := 0 }, { name := "CASE_INSENSITIVE_ORDER", type := (.object "java/util/Comparator"), accessFlags := 25, slot := 4, constantValue := 0 }, { name := "LATIN1", type := .byte, accessFlags := 24, slot := 5, constantValue := 0 }, { name := "UTF16", type := .byte, accessFlags := 24, slot := 6, constantValue := 0 }]
  methods := #[k7m0, k7m1, k7m2, k7m3, k7m4, k7m5, k7m6, k7m7, k7m8]
  instanceTypes := #[(.array .byte), .byte, .int, .boolean]
  staticTypes := #[.long, .boolean, (.array (.object "java/io/ObjectStreamField")), .char, (.object "java/util/Comparator"), .byte, .byte]
  resolved := Array.replicate 1451 none
  statics := some 0 }

def pool8 : Array CpInfo := pool [(6, .class_ 8), (1, u "java/lang/Object"), (0, u "<init>"), (0, u "()V"), (1, .class_ 14), (1, u "java/lang/StringUTF16"), (31, u "$assertionsDisabled"), (0, u "Z"), (13, u "HI_BYTE_SHIFT"), (0, u "I"), (2, u "LO_BYTE_SHIFT"), (49, .methodref 12 116), (0, .nameAndType 117 118), (0, u "compress"), (0, u "([CI[BII)I"), (3, u "([CII)[B"), (138, u "coderFromArrayLen"), (0, u "([BI)B"), (106, .class_ 371), (1, u "java/lang/StringUTF16$LinesSpliterator"), (58, u "MAX_LENGTH"), (196, .class_ 628), (0, u "java/lang/StringUTF16$CodePointsSpliterator"), (0, .class_ 630), (0, u "java/lang/StringUTF16$CharsSpliterator")] 4

def k8m0 : Method := { name := "<init>", desc := "()V", sig := { parameters := [], returnType := none }, accessFlags := 0, code := none }
def k8c1 : Code := { maxStack := 2, maxLocals := 2, code := jdk_52_method_15_code, exceptionTable := #[], attributes := #[] }
def k8m1 : Method := { name := "coderFromArrayLen", desc := "([BI)B", sig := { parameters := [(.array .byte), .int], returnType := some .byte }, accessFlags := 8, code := some k8c1 }
def k8c2 : Code := { maxStack := 5, maxLocals := 6, code := jdk_52_method_16_code, exceptionTable := #[], attributes := #[] }
def k8m2 : Method := { name := "compress", desc := "([CII)[B", sig := { parameters := [(.array .char), .int, .int], returnType := some (.array .byte) }, accessFlags := 9, code := some k8c2 }
def k8c3 : Code := { maxStack := 3, maxLocals := 7, code := jdk_52_method_21_code, exceptionTable := #[], attributes := #[] }
def k8m3 : Method := { name := "compress", desc := "([CI[BII)I", sig := { parameters := [(.array .char), .int, (.array .byte), .int, .int], returnType := some .int }, accessFlags := 9, code := some k8c3 }
/-- java/lang/StringUTF16 -/
def k8 : Class := { plain "java/lang/StringUTF16" (some 0) with
  accessFlags := 48
  interfaces := #[]
  cf := some (fileOf pool8 12 #[.nestMembers #[627, 629, 369]] #[{ accessFlags := 0, nameIndex := 9, descriptorIndex := 10, attributes := #[] }, { accessFlags := 8, nameIndex := 261, descriptorIndex := 262, attributes := #[] }, { accessFlags := 9, nameIndex := 117, descriptorIndex := 122, attributes := #[] }, { accessFlags := 9, nameIndex := 117, descriptorIndex := 118, attributes := #[] }] 48 6 #[] #[{ accessFlags := 26, nameIndex := 61, descriptorIndex := 62, attributes := #[] }, { accessFlags := 26, nameIndex := 65, descriptorIndex := 62, attributes := #[] }, { accessFlags := 24, nameIndex := 430, descriptorIndex := 62, attributes := #[] }, { accessFlags := 4120, nameIndex := 46, descriptorIndex := 47, attributes := #[] }])
  fields := #[{ name := "HI_BYTE_SHIFT", type := .int, accessFlags := 26, slot := 0, constantValue := 0 }, { name := "LO_BYTE_SHIFT", type := .int, accessFlags := 26, slot := 1, constantValue := 0 }, { name := "MAX_LENGTH", type := .int, accessFlags := 24, slot := 2, constantValue := 0 }, { name := "$assertionsDisabled", type := .boolean, accessFlags := 4120, slot := 3, constantValue := 0 }]
  methods := #[k8m0, k8m1, k8m2, k8m3]
  instanceTypes := #[]
  staticTypes := #[.int, .int, .int, .boolean]
  resolved := Array.replicate 635 none
  statics := none }

def pool9 : Array CpInfo := pool [(1, .methodref 2 3), (0, .class_ 4), (0, .nameAndType 5 6), (0, u "java/lang/Object"), (0, u "<init>"), (0, u "()V"), (0, .methodref 8 9), (0, .class_ 10), (0, .nameAndType 11 12), (0, u "java/lang/String"), (0, u "isBlank"), (0, u "()Z"), (9, .fieldref 23 24), (0, .class_ 25), (0, .nameAndType 26 27), (0, u "com/example/astute_search/astutesearch/engine/Topic"), (0, u "id"), (0, u "Ljava/lang/String;"), (0, .fieldref 23 29), (0, .nameAndType 30 27), (0, u "text"), (0, .methodref 8 32), (0, .nameAndType 33 34), (0, u "equals"), (0, u "(Ljava/lang/Object;)Z"), (7, u "(Ljava/lang/String;Ljava/lang/String;)V")] 28

def k9c0 : Code := { maxStack := 4, maxLocals := 3, code := prog_31_method_1_code, exceptionTable := #[], attributes := #[] }
def k9m0 : Method := { name := "<init>", desc := "(Ljava/lang/String;Ljava/lang/String;)V", sig := { parameters := [(.object "java/lang/String"), (.object "java/lang/String")], returnType := none }, accessFlags := 1, code := some k9c0 }
def k9c1 : Code := { maxStack := 2, maxLocals := 3, code := prog_31_method_4_code, exceptionTable := #[], attributes := #[] }
def k9m1 : Method := { name := "equals", desc := "(Ljava/lang/Object;)Z", sig := { parameters := [(.object "java/lang/Object")], returnType := some .boolean }, accessFlags := 1, code := some k9c1 }
/-- com/example/astute_search/astutesearch/engine/Topic -/
def k9 : Class := { plain "com/example/astute_search/astutesearch/engine/Topic" (some 0) with
  accessFlags := 49
  interfaces := #[]
  cf := some (fileOf pool9 23 #[] #[{ accessFlags := 1, nameIndex := 5, descriptorIndex := 42, attributes := #[] }, { accessFlags := 1, nameIndex := 33, descriptorIndex := 34, attributes := #[] }] 49 2 #[] #[{ accessFlags := 18, nameIndex := 26, descriptorIndex := 27, attributes := #[] }, { accessFlags := 18, nameIndex := 30, descriptorIndex := 27, attributes := #[] }])
  fields := #[{ name := "id", type := (.object "java/lang/String"), accessFlags := 18, slot := 0, constantValue := 0 }, { name := "text", type := (.object "java/lang/String"), accessFlags := 18, slot := 1, constantValue := 0 }]
  methods := #[k9m0, k9m1]
  instanceTypes := #[(.object "java/lang/String"), (.object "java/lang/String")]
  staticTypes := #[]
  resolved := Array.replicate 71 none
  statics := none }

def pool10 : Array CpInfo := pool [(4, .class_ 6), (1, u "java/lang/Object"), (0, u "<init>"), (0, u "()V"), (5, .class_ 16), (1, u "java/lang/StringLatin1"), (33, .methodref 14 51), (0, .nameAndType 52 53), (0, u "getChar"), (0, u "([BI)C"), (3, u "([B)I"), (8, .fieldref 67 68), (0, .class_ 69), (0, .nameAndType 70 71), (0, u "java/lang/CharacterDataLatin1"), (0, u "instance"), (0, u "Ljava/lang/CharacterDataLatin1;"), (19, u "(I)Z"), (29, u "$assertionsDisabled"), (0, u "Z"), (88, .methodref 67 212), (0, .nameAndType 213 91), (0, u "isWhitespace"), (2, u "indexOfNonWhitespace"), (4, .class_ 223), (1, u "java/lang/StringLatin1$LinesSpliterator"), (57, u "equals"), (0, u "([B[B)Z"), (107, .class_ 391), (0, u "java/lang/StringLatin1$CharsSpliterator")] 3

def k10m0 : Method := { name := "<init>", desc := "()V", sig := { parameters := [], returnType := none }, accessFlags := 0, code := none }
def k10c1 : Code := { maxStack := 3, maxLocals := 3, code := jdk_43_method_13_code, exceptionTable := #[], attributes := #[] }
def k10m1 : Method := { name := "equals", desc := "([B[B)Z", sig := { parameters := [(.array .byte), (.array .byte)], returnType := some .boolean }, accessFlags := 9, code := some k10c1 }
def k10c2 : Code := { maxStack := 2, maxLocals := 4, code := jdk_43_method_37_code, exceptionTable := #[], attributes := #[] }
def k10m2 : Method := { name := "indexOfNonWhitespace", desc := "([B)I", sig := { parameters := [(.array .byte)], returnType := some .int }, accessFlags := 9, code := some k10c2 }
def k10c3 : Code := { maxStack := 2, maxLocals := 2, code := jdk_43_method_44_code, exceptionTable := #[], attributes := #[] }
def k10m3 : Method := { name := "getChar", desc := "([BI)C", sig := { parameters := [(.array .byte), .int], returnType := some .char }, accessFlags := 9, code := some k10c3 }
/-- java/lang/StringLatin1 -/
def k10 : Class := { plain "java/lang/StringLatin1" (some 0) with
  accessFlags := 48
  interfaces := #[]
  cf := some (fileOf pool10 14 #[.nestMembers #[390, 221]] #[{ accessFlags := 0, nameIndex := 7, descriptorIndex := 8, attributes := #[] }, { accessFlags := 9, nameIndex := 281, descriptorIndex := 282, attributes := #[] }, { accessFlags := 9, nameIndex := 216, descriptorIndex := 57, attributes := #[] }, { accessFlags := 9, nameIndex := 52, descriptorIndex := 53, attributes := #[] }] 48 4 #[] #[{ accessFlags := 4120, nameIndex := 121, descriptorIndex := 122, attributes := #[] }])
  fields := #[{ name := "$assertionsDisabled", type := .boolean, accessFlags := 4120, slot := 0, constantValue := 0 }]
  methods := #[k10m0, k10m1, k10m2, k10m3]
  instanceTypes := #[]
  staticTypes := #[.boolean]
  resolved := Array.replicate 395 none
  statics := none }

def pool11 : Array CpInfo := pool [(2, .class_ 4), (1, u "java/lang/Object"), (0, u "<init>"), (0, u "()V"), (1, .class_ 10), (1, u "java/lang/CharacterData")] 75

def k11m0 : Method := { name := "<init>", desc := "()V", sig := { parameters := [], returnType := none }, accessFlags := 0, code := none }
/-- java/lang/CharacterData -/
def k11 : Class := { plain "java/lang/CharacterData" (some 0) with
  accessFlags := 1056
  interfaces := #[]
  cf := some (fileOf pool11 8 #[] #[{ accessFlags := 0, nameIndex := 5, descriptorIndex := 6, attributes := #[] }] 1056 2 #[] #[])
  fields := #[]
  methods := #[k11m0]
  instanceTypes := #[]
  staticTypes := #[]
  resolved := Array.replicate 86 none
  statics := none }

def pool12 : Array CpInfo := pool [(1, .fieldref 2 3), (0, .class_ 4), (0, .nameAndType 5 6), (0, u "java/lang/CharacterDataLatin1"), (0, u "A"), (0, u "[I"), (2, u "B"), (0, u "[C"), (3, u "(I)I"), (0, .methodref 2 16), (0, .nameAndType 17 14), (0, u "getProperties"), (3, u "(I)Z"), (5, u "DIGITS"), (0, u "[B"), (8, u "sharpsMap"), (1, .class_ 41), (1, u "java/lang/CharacterData"), (0, u "<init>"), (0, u "()V"), (3, u "instance"), (0, u "Ljava/lang/CharacterDataLatin1;"), (78, u "isWhitespace")] 13

def k12c0 : Code := { maxStack := 2, maxLocals := 4, code := jdk_116_method_1_code, exceptionTable := #[], attributes := #[] }
def k12m0 : Method := { name := "getProperties", desc := "(I)I", sig := { parameters := [.int], returnType := some .int }, accessFlags := 0, code := some k12c0 }
def k12c1 : Code := { maxStack := 2, maxLocals := 3, code := jdk_116_method_26_code, exceptionTable := #[], attributes := #[] }
def k12m1 : Method := { name := "isWhitespace", desc := "(I)Z", sig := { parameters := [.int], returnType := some .boolean }, accessFlags := 0, code := some k12c1 }
def k12m2 : Method := { name := "<init>", desc := "()V", sig := { parameters := [], returnType := none }, accessFlags := 2, code := none }
/-- java/lang/CharacterDataLatin1 -/
def k12 : Class := { plain "java/lang/CharacterDataLatin1" (some 11) with
  accessFlags := 32
  interfaces := #[]
  cf := some (fileOf pool12 2 #[] #[{ accessFlags := 0, nameIndex := 17, descriptorIndex := 14, attributes := #[] }, { accessFlags := 0, nameIndex := 127, descriptorIndex := 21, attributes := #[] }, { accessFlags := 2, nameIndex := 42, descriptorIndex := 43, attributes := #[] }] 32 39 #[] #[{ accessFlags := 26, nameIndex := 27, descriptorIndex := 28, attributes := #[] }, { accessFlags := 8, nameIndex := 37, descriptorIndex := 10, attributes := #[] }, { accessFlags := 24, nameIndex := 47, descriptorIndex := 48, attributes := #[] }, { accessFlags := 24, nameIndex := 5, descriptorIndex := 6, attributes := #[] }, { accessFlags := 24, nameIndex := 9, descriptorIndex := 10, attributes := #[] }])
  fields := #[{ name := "DIGITS", type := (.array .byte), accessFlags := 26, slot := 0, constantValue := 0 }, { name := "sharpsMap", type := (.array .char), accessFlags := 8, slot := 1, constantValue := 0 }, { name := "instance", type := (.object "java/lang/CharacterDataLatin1"), accessFlags := 24, slot := 2, constantValue := 0 }, { name := "A", type := (.array .int), accessFlags := 24, slot := 3, constantValue := 0 }, { name := "B", type := (.array .char), accessFlags := 24, slot := 4, constantValue := 0 }]
  methods := #[k12m0, k12m1, k12m2]
  instanceTypes := #[]
  staticTypes := #[(.array .byte), (.array .char), (.object "java/lang/CharacterDataLatin1"), (.array .int), (.array .char)]
  resolved := Array.replicate 141 none
  statics := some 1 }

def pool13 : Array CpInfo := pool [(2, .class_ 4), (1, u "java/lang/Object"), (0, u "<init>"), (0, u "()V"), (17, .class_ 26), (1, u "jdk/internal/util/Preconditions"), (28, .class_ 56), (0, u "jdk/internal/util/Preconditions$4"), (57, .class_ 115), (0, u "jdk/internal/util/Preconditions$1"), (7, u "SIOOBE_FORMATTER"), (0, u "Ljava/util/function/BiFunction;"), (0, .class_ 126), (0, u "jdk/internal/util/Preconditions$2"), (3, u "AIOOBE_FORMATTER"), (0, .class_ 132), (0, u "jdk/internal/util/Preconditions$3"), (3, u "IOOBE_FORMATTER")] 57

def k13m0 : Method := { name := "<init>", desc := "()V", sig := { parameters := [], returnType := none }, accessFlags := 1, code := none }
/-- jdk/internal/util/Preconditions -/
def k13 : Class := { plain "jdk/internal/util/Preconditions" (some 0) with
  accessFlags := 33
  interfaces := #[]
  cf := some (fileOf pool13 24 #[.nestMembers #[55, 131, 125, 114]] #[{ accessFlags := 1, nameIndex := 5, descriptorIndex := 6, attributes := #[] }] 33 2 #[] #[{ accessFlags := 25, nameIndex := 123, descriptorIndex := 124, attributes := #[] }, { accessFlags := 25, nameIndex := 130, descriptorIndex := 124, attributes := #[] }, { accessFlags := 25, nameIndex := 136, descriptorIndex := 124, attributes := #[] }])
  fields := #[{ name := "SIOOBE_FORMATTER", type := (.object "java/util/function/BiFunction"), accessFlags := 25, slot := 0, constantValue := 0 }, { name := "AIOOBE_FORMATTER", type := (.object "java/util/function/BiFunction"), accessFlags := 25, slot := 1, constantValue := 0 }, { name := "IOOBE_FORMATTER", type := (.object "java/util/function/BiFunction"), accessFlags := 25, slot := 2, constantValue := 0 }]
  methods := #[k13m0]
  instanceTypes := #[]
  staticTypes := #[(.object "java/util/function/BiFunction"), (.object "java/util/function/BiFunction"), (.object "java/util/function/BiFunction")]
  resolved := Array.replicate 194 none
  statics := some 2 }

def pool14 : Array CpInfo := pool [(9, u "<init>"), (6, .class_ 18), (1, u "java/lang/Object"), (0, u "()V"), (1, .class_ 23), (1, u "jdk/internal/util/ArraysSupport"), (0, u "LOG2_ARRAY_LONG_INDEX_SCALE"), (0, u "I"), (2, u "U"), (0, u "Ljdk/internal/misc/Unsafe;"), (8, u "BIG_ENDIAN"), (0, u "Z"), (8, u "LOG2_BYTE_BIT_SIZE"), (4, u "LOG2_ARRAY_INT_INDEX_SCALE"), (54, u "JLA"), (0, u "Ljdk/internal/access/JavaLangAccess;"), (11, u "LOG2_ARRAY_BOOLEAN_INDEX_SCALE"), (9, u "LOG2_ARRAY_BYTE_INDEX_SCALE"), (5, u "LOG2_ARRAY_CHAR_INDEX_SCALE"), (5, u "LOG2_ARRAY_SHORT_INDEX_SCALE"), (18, u "LOG2_ARRAY_FLOAT_INDEX_SCALE"), (24, u "LOG2_ARRAY_DOUBLE_INDEX_SCALE"), (89, u "T_BOOLEAN"), (2, u "T_CHAR"), (1, u "T_FLOAT"), (1, u "T_DOUBLE"), (1, u "T_BYTE"), (1, u "T_SHORT"), (1, u "T_INT"), (1, u "T_LONG"), (1, u "SOFT_MAX_ARRAY_LENGTH")] 83

def k14m0 : Method := { name := "<init>", desc := "()V", sig := { parameters := [], returnType := none }, accessFlags := 2, code := none }
/-- jdk/internal/util/ArraysSupport -/
def k14 : Class := { plain "jdk/internal/util/ArraysSupport" (some 0) with
  accessFlags := 33
  interfaces := #[]
  cf := some (fileOf pool14 21 #[] #[{ accessFlags := 2, nameIndex := 9, descriptorIndex := 19, attributes := #[] }] 33 16 #[] #[{ accessFlags := 24, nameIndex := 28, descriptorIndex := 29, attributes := #[] }, { accessFlags := 26, nameIndex := 38, descriptorIndex := 39, attributes := #[] }, { accessFlags := 25, nameIndex := 121, descriptorIndex := 25, attributes := #[] }, { accessFlags := 25, nameIndex := 131, descriptorIndex := 25, attributes := #[] }, { accessFlags := 25, nameIndex := 137, descriptorIndex := 25, attributes := #[] }, { accessFlags := 25, nameIndex := 143, descriptorIndex := 25, attributes := #[] }, { accessFlags := 25, nameIndex := 53, descriptorIndex := 25, attributes := #[] }, { accessFlags := 25, nameIndex := 24, descriptorIndex := 25, attributes := #[] }, { accessFlags := 25, nameIndex := 162, descriptorIndex := 25, attributes := #[] }, { accessFlags := 25, nameIndex := 187, descriptorIndex := 25, attributes := #[] }, { accessFlags := 26, nameIndex := 48, descriptorIndex := 25, attributes := #[] }, { accessFlags := 25, nameIndex := 277, descriptorIndex := 25, attributes := #[] }, { accessFlags := 25, nameIndex := 280, descriptorIndex := 25, attributes := #[] }, { accessFlags := 25, nameIndex := 282, descriptorIndex := 25, attributes := #[] }, { accessFlags := 25, nameIndex := 284, descriptorIndex := 25, attributes := #[] }, { accessFlags := 25, nameIndex := 286, descriptorIndex := 25, attributes := #[] }, { accessFlags := 25, nameIndex := 288, descriptorIndex := 25, attributes := #[] }, { accessFlags := 25, nameIndex := 290, descriptorIndex := 25, attributes := #[] }, { accessFlags := 25, nameIndex := 292, descriptorIndex := 25, attributes := #[] }, { accessFlags := 26, nameIndex := 108, descriptorIndex := 109, attributes := #[] }, { accessFlags := 25, nameIndex := 294, descriptorIndex := 25, attributes := #[] }])
  fields := #[{ name := "U", type := (.object "jdk/internal/misc/Unsafe"), accessFlags := 24, slot := 0, constantValue := 0 }, { name := "BIG_ENDIAN", type := .boolean, accessFlags := 26, slot := 1, constantValue := 0 }, { name := "LOG2_ARRAY_BOOLEAN_INDEX_SCALE", type := .int, accessFlags := 25, slot := 2, constantValue := 0 }, { name := "LOG2_ARRAY_BYTE_INDEX_SCALE", type := .int, accessFlags := 25, slot := 3, constantValue := 0 }, { name := "LOG2_ARRAY_CHAR_INDEX_SCALE", type := .int, accessFlags := 25, slot := 4, constantValue := 0 }, { name := "LOG2_ARRAY_SHORT_INDEX_SCALE", type := .int, accessFlags := 25, slot := 5, constantValue := 0 }, { name := "LOG2_ARRAY_INT_INDEX_SCALE", type := .int, accessFlags := 25, slot := 6, constantValue := 0 }, { name := "LOG2_ARRAY_LONG_INDEX_SCALE", type := .int, accessFlags := 25, slot := 7, constantValue := 0 }, { name := "LOG2_ARRAY_FLOAT_INDEX_SCALE", type := .int, accessFlags := 25, slot := 8, constantValue := 0 }, { name := "LOG2_ARRAY_DOUBLE_INDEX_SCALE", type := .int, accessFlags := 25, slot := 9, constantValue := 0 }, { name := "LOG2_BYTE_BIT_SIZE", type := .int, accessFlags := 26, slot := 10, constantValue := 0 }, { name := "T_BOOLEAN", type := .int, accessFlags := 25, slot := 11, constantValue := 0 }, { name := "T_CHAR", type := .int, accessFlags := 25, slot := 12, constantValue := 0 }, { name := "T_FLOAT", type := .int, accessFlags := 25, slot := 13, constantValue := 0 }, { name := "T_DOUBLE", type := .int, accessFlags := 25, slot := 14, constantValue := 0 }, { name := "T_BYTE", type := .int, accessFlags := 25, slot := 15, constantValue := 0 }, { name := "T_SHORT", type := .int, accessFlags := 25, slot := 16, constantValue := 0 }, { name := "T_INT", type := .int, accessFlags := 25, slot := 17, constantValue := 0 }, { name := "T_LONG", type := .int, accessFlags := 25, slot := 18, constantValue := 0 }, { name := "JLA", type := (.object "jdk/internal/access/JavaLangAccess"), accessFlags := 26, slot := 19, constantValue := 0 }, { name := "SOFT_MAX_ARRAY_LENGTH", type := .int, accessFlags := 25, slot := 20, constantValue := 0 }]
  methods := #[k14m0]
  instanceTypes := #[]
  staticTypes := #[(.object "jdk/internal/misc/Unsafe"), .boolean, .int, .int, .int, .int, .int, .int, .int, .int, .int, .int, .int, .int, .int, .int, .int, .int, .int, (.object "jdk/internal/access/JavaLangAccess"), .int]
  resolved := Array.replicate 378 none
  statics := none }

def pool15 : Array CpInfo := pool [(1, u "java/lang/Cloneable"), (0, .class_ 1), (0, u "java/lang/Object"), (0, .class_ 3)] 3

/-- java/lang/Cloneable -/
def k15 : Class := { plain "java/lang/Cloneable" (some 0) with
  accessFlags := 1537
  interfaces := #[]
  cf := some (fileOf pool15 2 #[] #[] 1537 4 #[] #[])
  fields := #[]
  methods := #[]
  instanceTypes := #[]
  staticTypes := #[]
  resolved := Array.replicate 8 none
  statics := none }

/-- the primitive byte -/
def k16 : Class := { plain "byte" none with kind := .primitive 'B', accessFlags := 0x411 }
/-- [B -/
def k17 : Class := { plain "[B" (some 0) with kind := .array 16 .byte, interfaces := #[15, 2], accessFlags := 1041 }

/-- the primitive char -/
def k18 : Class := { plain "char" none with kind := .primitive 'C', accessFlags := 0x411 }
/-- [C -/
def k19 : Class := { plain "[C" (some 0) with kind := .array 18 .char, interfaces := #[15, 2], accessFlags := 1041 }

/-- the primitive int -/
def k20 : Class := { plain "int" none with kind := .primitive 'I', accessFlags := 0x411 }
/-- [I -/
def k21 : Class := { plain "[I" (some 0) with kind := .array 20 .int, interfaces := #[15, 2], accessFlags := 1041 }

def heap : Heap := #[{ cls := 7, slots := #[.long 0, .int 1, .null, .int 0, .null, .int 0, .int 0], vm := .statics 7 },
  { cls := 12, slots := #[.null, .null, .ref 4, .ref 5, .null], vm := .statics 12 },
  { cls := 13, slots := #[.null, .null, .null], vm := .statics 13 },
  { cls := 14, slots := #[], vm := .none },
  { cls := 12, slots := #[], vm := .none },
  { cls := 21, slots := #[.int 1207963663, .int 1207963663, .int 1207963663, .int 1207963663, .int 1207963663, .int 1207963663, .int 1207963663, .int 1207963663, .int 1207963663, .int 1476411407, .int 1342193679, .int 1476411407, .int 1610629135, .int 1342193679, .int 1207963663, .int 1207963663, .int 1207963663, .int 1207963663, .int 1207963663, .int 1207963663, .int 1207963663, .int 1207963663, .int 1207963663, .int 1207963663, .int 1207963663, .int 1207963663, .int 1207963663, .int 1207963663, .int 1342193679, .int 1342193679, .int 1342193679, .int 1476411407, .int 1610629132, .int 1744830488, .int 1744830488, .int 671088664, .int 671113242, .int 671088664, .int 1744830488, .int 1744830488, .int (-402653163), .int (-402653162), .int 1744830488, .int 536870937, .int 939524120, .int 536870932, .int 939524120, .int 939524120, .int 402667017, .int 402667017, .int 402667017, .int 402667017, .int 402667017, .int 402667017, .int 402667017, .int 402667017, .int 402667017, .int 402667017, .int 939524120, .int 1744830488, .int (-402653159), .int 1744830489, .int (-402653159), .int 1744830488, .int 1744830488, .int 8552417, .int 8552417, .int 8552417, .int 8552417, .int 8552417, .int 8552417, .int 8552417, .int 8552417, .int 8552417, .int 8552417, .int 8552417, .int 8552417, .int 8552417, .int 8552417, .int 8552417, .int 8552417, .int 8552417, .int 8552417, .int 8552417, .int 8552417, .int 8552417, .int 8552417, .int 8552417, .int 8552417, .int 8552417, .int 8552417, .int (-402653163), .int 1744830488, .int (-402653162), .int 1744830491, .int 1744850967, .int 1744830491, .int 8486882, .int 8486882, .int 8486882, .int 8486882, .int 8486882, .int 8486882, .int 8486882, .int 8486882, .int 8486882, .int 8486882, .int 8486882, .int 8486882, .int 8486882, .int 8486882, .int 8486882, .int 8486882, .int 8486882, .int 8486882, .int 8486882, .int 8486882, .int 8486882, .int 8486882, .int 8486882, .int 8486882, .int 8486882, .int 8486882, .int (-402653163), .int 1744830489, .int (-402653162), .int 1744830489, .int 1207963663, .int 1207963663, .int 1207963663, .int 1207963663, .int 1207963663, .int 1207963663, .int 1342181391, .int 1207963663, .int 1207963663, .int 1207963663, .int 1207963663, .int 1207963663, .int 1207963663, .int 1207963663, .int 1207963663, .int 1207963663, .int 1207963663, .int 1207963663, .int 1207963663, .int 1207963663, .int 1207963663, .int 1207963663, .int 1207963663, .int 1207963663, .int 1207963663, .int 1207963663, .int 1207963663, .int 1207963663, .int 1207963663, .int 1207963663, .int 1207963663, .int 1207963663, .int 1207963663, .int 939524108, .int 1744830488, .int 671113242, .int 671113242, .int 671113242, .int 671113242, .int 1744830492, .int 1744830488, .int 1744830491, .int 1744830492, .int 28677, .int (-402653155), .int 1744830489, .int 1207963664, .int 1744830492, .int 1744830491, .int 671088668, .int 671088665, .int 402654731, .int 402654731, .int 1744830491, .int 134049794, .int 1744830488, .int 1744830488, .int 1744830491, .int 402654475, .int 28677, .int (-402653154), .int 1744832523, .int 1744832523, .int 1744832523, .int 1744830488, .int 8548353, .int 8548353, .int 8548353, .int 8548353, .int 8548353, .int 8548353, .int 8548353, .int 8548353, .int 8548353, .int 8548353, .int 8548353, .int 8548353, .int 8548353, .int 8548353, .int 8548353, .int 8548353, .int 8548353, .int 8548353, .int 8548353, .int 8548353, .int 8548353, .int 8548353, .int 8548353, .int 1744830489, .int 8548353, .int 8548353, .int 8548353, .int 8548353, .int 8548353, .int 8548353, .int 8548353, .int 134049794, .int 8482818, .int 8482818, .int 8482818, .int 8482818, .int 8482818, .int 8482818, .int 8482818, .int 8482818, .int 8482818, .int 8482818, .int 8482818, .int 8482818, .int 8482818, .int 8482818, .int 8482818, .int 8482818, .int 8482818, .int 8482818, .int 8482818, .int 8482818, .int 8482818, .int 8482818, .int 8482818, .int 1744830489, .int 8482818, .int 8482818, .int 8482818, .int 8482818, .int 8482818, .int 8482818, .int 8482818, .int 102592514], vm := .none }]
def classes : Array Class := #[k0, k1, k2, k3, k4, k5, k6, k7, k8, k9, k10, k11, k12, k13, k14, k15, k16, k17, k18, k19, k20, k21]
def interned : List (Array UInt16 × Addr) := []
def slotsUsed : Nat := 271
def theMethod : MethodId := ⟨1, 5⟩
def args0 : Array Value := #[.int 65, .int 66, .int 1, .int 2, .int 3]
def aboutOver (below : List Frame) : State where
  vm := { classes := classes, interned := interned.toArray }
  heap := heap
  slotsUsed := slotsUsed
  threads := #[{ frames := .invoking theMethod args0 :: below }]
def below0 : List Frame := [.native { method := ⟨0, 0⟩, args := #[] }]
def about1 : State := aboutOver below0
def p0 : Program := .bare "" "" ""
def e0 : Env := launch0.env 0 0 0
theorem w_frames : about1.frames = Frame.invoking theMethod args0 :: below0 := rfl
set_option maxRecDepth 65536 in
theorem w_args : argsFit about1.vm theMethod args0 = true := by decide +kernel
set_option maxRecDepth 65536 in
theorem w_heap : heapFits about1 = true := by decide +kernel
set_option maxRecDepth 65536 in
theorem w_runnable : about1.curStatus? = some .runnable := by decide +kernel
set_option maxRecDepth 65536 in
theorem w_alone : about1.alone = true := by decide +kernel
set_option maxRecDepth 65536 in
theorem w_named : about1.methodNamed? x = some theMethod := by decide +kernel
set_option maxRecDepth 65536 in
theorem w_hears : about1.hears theMethod below0 = true := by decide +kernel
set_option maxRecDepth 65536 in
theorem w_ripe : about1.ripe theMethod args0 below0 = true := by decide +kernel
theorem w_running : about1.status = .running := rfl
set_option maxRecDepth 65536 in
theorem w_room : about1.hasRoom e0.platform room_1 = true :=
  launch0.hasRoom_least _ room_1 (by decide +kernel) (by decide +kernel) (by decide +kernel) (by decide +kernel) (by decide +kernel) (by decide +kernel)
theorem allAtoms_all (ts : List Jvm.Cond) (a : Array Jvm.Value) (st : Jvm.State) : (allAtoms ts).before a st = ts.all (fun c => c.before a st) := by
  induction ts with
  | nil => rfl
  | cons c t ih =>
    show (Jvm.Cond.and c (allAtoms t)).before a st = _
    rw [Jvm.Cond.before_and, ih, List.all_cons]
def words1 : List Jvm.Cond := Jvm.Cond.code x code maxLocals ret :: tables_1
/-- a 'code' word, met by the world's own term for the bytes: nothing is compared byte by byte -/
theorem code_word {y : MethodName} {bytes : ByteArray} {mx : Nat} {rt : Option FieldType} {a : Array Value} {s : State} {m : MethodId} {meth : Method} {c : Code} (h1 : s.methodNamed? y = some m) (h2 : s.vm.method? m = some meth) (h3 : meth.code = some c) (h4 : c.code = bytes)
    (h5 : (c.maxLocals == mx && c.exceptionTable.isEmpty && decide (c.maxStack ≤ mostOperands) && decide (meth.sig.returnType = rt) && !meth.locks && decide (parseMethodDescriptor y.desc = some meth.sig)) = true) : (Jvm.Cond.code y bytes mx rt).before a s = true := by
  simp only [Bool.and_eq_true, beq_iff_eq, Bool.not_eq_true', decide_eq_true_eq] at h5
  obtain ⟨⟨⟨⟨⟨g1, g2⟩, g3⟩, g4⟩, g5⟩, g6⟩ := h5
  simp [Cond.before, Cond.holds, Cond.value, h1, h2, h3, h4, g1, g2, g3, g4, g5, g6]
def isCode : Jvm.Cond → Bool
  | .code _ _ _ _ => true
  | _ => false
theorem all_split {L : List Jvm.Cond} {P : Jvm.Cond → Bool} (h1 : L.all (fun c => isCode c || P c) = true) (h2 : ∀ c ∈ L.filter isCode, P c = true) : L.all P = true := by
  refine List.all_eq_true.mpr fun c hc => ?_
  have h := List.all_eq_true.mp h1 c hc
  rcases Bool.eq_false_or_eq_true (isCode c) with hi | hi
  · exact h2 c (List.mem_filter.mpr ⟨hc, hi⟩)
  · simpa [hi] using h
set_option maxRecDepth 65536 in
theorem w_c0 : (Jvm.Cond.code x code maxLocals ret).before args0 about1 = true := code_word (m := ⟨1, 5⟩) (meth := k1m5) (c := k1c5) (by decide +kernel) rfl rfl rfl (by decide +kernel)
set_option maxRecDepth 65536 in
theorem w_c1 : (Jvm.Cond.code ({ cls := "com/example/astute_search/astutesearch/engine/TopicEqualsPinLaw", name := "blank", desc := "(CCI)Z" } : Jvm.MethodName) method_3_code (3 : Nat) (Option.some Jvm.ClassFile.FieldType.boolean)).before args0 about1 = true := code_word (m := ⟨1, 2⟩) (meth := k1m2) (c := k1c2) (by decide +kernel) rfl rfl rfl (by decide +kernel)
set_option maxRecDepth 65536 in
theorem w_c2 : (Jvm.Cond.code ({ cls := "com/example/astute_search/astutesearch/engine/TopicEqualsPinLaw", name := "ws", desc := "(C)Z" } : Jvm.MethodName) method_2_code (1 : Nat) (Option.some Jvm.ClassFile.FieldType.boolean)).before args0 about1 = true := code_word (m := ⟨1, 1⟩) (meth := k1m1) (c := k1c1) (by decide +kernel) rfl rfl rfl (by decide +kernel)
set_option maxRecDepth 65536 in
theorem w_c3 : (Jvm.Cond.code ({ cls := "com/example/astute_search/astutesearch/engine/TopicEqualsPinLaw", name := "str", desc := "(CCI)Ljava/lang/String;" } : Jvm.MethodName) method_4_code (3 : Nat) (Option.some (Jvm.ClassFile.FieldType.object "java/lang/String"))).before args0 about1 = true := code_word (m := ⟨1, 3⟩) (meth := k1m3) (c := k1c3) (by decide +kernel) rfl rfl rfl (by decide +kernel)
set_option maxRecDepth 65536 in
theorem w_c4 : (Jvm.Cond.code ({ cls := "java/lang/String", name := "<init>", desc := "([C)V" } : Jvm.MethodName) jdk_42_method_3_code (2 : Nat) (Option.none : Option Jvm.ClassFile.FieldType)).before args0 about1 = true := code_word (m := ⟨7, 1⟩) (meth := k7m1) (c := k7c1) (by decide +kernel) rfl rfl rfl (by decide +kernel)
set_option maxRecDepth 65536 in
theorem w_c5 : (Jvm.Cond.code ({ cls := "java/lang/String", name := "<init>", desc := "([CIILjava/lang/Void;)V" } : Jvm.MethodName) jdk_42_method_149_code (6 : Nat) (Option.none : Option Jvm.ClassFile.FieldType)).before args0 about1 = true := code_word (m := ⟨7, 6⟩) (meth := k7m6) (c := k7c6) (by decide +kernel) rfl rfl rfl (by decide +kernel)
set_option maxRecDepth 65536 in
theorem w_c6 : (Jvm.Cond.code ({ cls := "java/lang/Object", name := "<init>", desc := "()V" } : Jvm.MethodName) object_method_1_code (1 : Nat) (Option.none : Option Jvm.ClassFile.FieldType)).before args0 about1 = true := code_word (m := ⟨0, 0⟩) (meth := k0m0) (c := k0c0) (by decide +kernel) rfl rfl rfl (by decide +kernel)
set_option maxRecDepth 65536 in
theorem w_c7 : (Jvm.Cond.code ({ cls := "java/lang/StringUTF16", name := "compress", desc := "([CII)[B" } : Jvm.MethodName) jdk_52_method_16_code (6 : Nat) (Option.some (Jvm.ClassFile.FieldType.array Jvm.ClassFile.FieldType.byte))).before args0 about1 = true := code_word (m := ⟨8, 2⟩) (meth := k8m2) (c := k8c2) (by decide +kernel) rfl rfl rfl (by decide +kernel)
set_option maxRecDepth 65536 in
theorem w_c8 : (Jvm.Cond.code ({ cls := "java/lang/StringUTF16", name := "compress", desc := "([CI[BII)I" } : Jvm.MethodName) jdk_52_method_21_code (7 : Nat) (Option.some Jvm.ClassFile.FieldType.int)).before args0 about1 = true := code_word (m := ⟨8, 3⟩) (meth := k8m3) (c := k8c3) (by decide +kernel) rfl rfl rfl (by decide +kernel)
set_option maxRecDepth 65536 in
theorem w_c9 : (Jvm.Cond.code ({ cls := "java/lang/StringUTF16", name := "coderFromArrayLen", desc := "([BI)B" } : Jvm.MethodName) jdk_52_method_15_code (2 : Nat) (Option.some Jvm.ClassFile.FieldType.byte)).before args0 about1 = true := code_word (m := ⟨8, 1⟩) (meth := k8m1) (c := k8c1) (by decide +kernel) rfl rfl rfl (by decide +kernel)
set_option maxRecDepth 65536 in
theorem w_c10 : (Jvm.Cond.code ({ cls := "com/example/astute_search/astutesearch/engine/Topic", name := "<init>", desc := "(Ljava/lang/String;Ljava/lang/String;)V" } : Jvm.MethodName) prog_31_method_1_code (3 : Nat) (Option.none : Option Jvm.ClassFile.FieldType)).before args0 about1 = true := code_word (m := ⟨9, 0⟩) (meth := k9m0) (c := k9c0) (by decide +kernel) rfl rfl rfl (by decide +kernel)
set_option maxRecDepth 65536 in
theorem w_c11 : (Jvm.Cond.code ({ cls := "java/lang/String", name := "isBlank", desc := "()Z" } : Jvm.MethodName) jdk_42_method_117_code (1 : Nat) (Option.some Jvm.ClassFile.FieldType.boolean)).before args0 about1 = true := code_word (m := ⟨7, 4⟩) (meth := k7m4) (c := k7c4) (by decide +kernel) rfl rfl rfl (by decide +kernel)
set_option maxRecDepth 65536 in
theorem w_c12 : (Jvm.Cond.code ({ cls := "java/lang/String", name := "indexOfNonWhitespace", desc := "()I" } : Jvm.MethodName) jdk_42_method_120_code (1 : Nat) (Option.some Jvm.ClassFile.FieldType.int)).before args0 about1 = true := code_word (m := ⟨7, 5⟩) (meth := k7m5) (c := k7c5) (by decide +kernel) rfl rfl rfl (by decide +kernel)
set_option maxRecDepth 65536 in
theorem w_c13 : (Jvm.Cond.code ({ cls := "java/lang/String", name := "isLatin1", desc := "()Z" } : Jvm.MethodName) jdk_42_method_154_code (1 : Nat) (Option.some Jvm.ClassFile.FieldType.boolean)).before args0 about1 = true := code_word (m := ⟨7, 8⟩) (meth := k7m8) (c := k7c8) (by decide +kernel) rfl rfl rfl (by decide +kernel)
set_option maxRecDepth 65536 in
theorem w_c14 : (Jvm.Cond.code ({ cls := "java/lang/StringLatin1", name := "indexOfNonWhitespace", desc := "([B)I" } : Jvm.MethodName) jdk_43_method_37_code (4 : Nat) (Option.some Jvm.ClassFile.FieldType.int)).before args0 about1 = true := code_word (m := ⟨10, 2⟩) (meth := k10m2) (c := k10c2) (by decide +kernel) rfl rfl rfl (by decide +kernel)
set_option maxRecDepth 65536 in
theorem w_c15 : (Jvm.Cond.code ({ cls := "java/lang/StringLatin1", name := "getChar", desc := "([BI)C" } : Jvm.MethodName) jdk_43_method_44_code (2 : Nat) (Option.some Jvm.ClassFile.FieldType.char)).before args0 about1 = true := code_word (m := ⟨10, 3⟩) (meth := k10m3) (c := k10c3) (by decide +kernel) rfl rfl rfl (by decide +kernel)
set_option maxRecDepth 65536 in
theorem w_c16 : (Jvm.Cond.code ({ cls := "java/lang/CharacterDataLatin1", name := "isWhitespace", desc := "(I)Z" } : Jvm.MethodName) jdk_116_method_26_code (3 : Nat) (Option.some Jvm.ClassFile.FieldType.boolean)).before args0 about1 = true := code_word (m := ⟨12, 1⟩) (meth := k12m1) (c := k12c1) (by decide +kernel) rfl rfl rfl (by decide +kernel)
set_option maxRecDepth 65536 in
theorem w_c17 : (Jvm.Cond.code ({ cls := "java/lang/CharacterDataLatin1", name := "getProperties", desc := "(I)I" } : Jvm.MethodName) jdk_116_method_1_code (4 : Nat) (Option.some Jvm.ClassFile.FieldType.int)).before args0 about1 = true := code_word (m := ⟨12, 0⟩) (meth := k12m0) (c := k12c0) (by decide +kernel) rfl rfl rfl (by decide +kernel)
set_option maxRecDepth 65536 in
theorem w_c18 : (Jvm.Cond.code ({ cls := "java/lang/String", name := "length", desc := "()I" } : Jvm.MethodName) jdk_42_method_54_code (1 : Nat) (Option.some Jvm.ClassFile.FieldType.int)).before args0 about1 = true := code_word (m := ⟨7, 2⟩) (meth := k7m2) (c := k7c2) (by decide +kernel) rfl rfl rfl (by decide +kernel)
set_option maxRecDepth 65536 in
theorem w_c19 : (Jvm.Cond.code ({ cls := "java/lang/String", name := "coder", desc := "()B" } : Jvm.MethodName) jdk_42_method_152_code (1 : Nat) (Option.some Jvm.ClassFile.FieldType.byte)).before args0 about1 = true := code_word (m := ⟨7, 7⟩) (meth := k7m7) (c := k7c7) (by decide +kernel) rfl rfl rfl (by decide +kernel)
set_option maxRecDepth 65536 in
theorem w_c20 : (Jvm.Cond.code ({ cls := "com/example/astute_search/astutesearch/engine/TopicEqualsPinLaw", name := "same", desc := "(CCICCI)Z" } : Jvm.MethodName) method_5_code (6 : Nat) (Option.some Jvm.ClassFile.FieldType.boolean)).before args0 about1 = true := code_word (m := ⟨1, 4⟩) (meth := k1m4) (c := k1c4) (by decide +kernel) rfl rfl rfl (by decide +kernel)
set_option maxRecDepth 65536 in
theorem w_c21 : (Jvm.Cond.code ({ cls := "com/example/astute_search/astutesearch/engine/Topic", name := "equals", desc := "(Ljava/lang/Object;)Z" } : Jvm.MethodName) prog_31_method_4_code (3 : Nat) (Option.some Jvm.ClassFile.FieldType.boolean)).before args0 about1 = true := code_word (m := ⟨9, 1⟩) (meth := k9m1) (c := k9c1) (by decide +kernel) rfl rfl rfl (by decide +kernel)
set_option maxRecDepth 65536 in
theorem w_c22 : (Jvm.Cond.code ({ cls := "java/lang/String", name := "equals", desc := "(Ljava/lang/Object;)Z" } : Jvm.MethodName) jdk_42_method_66_code (3 : Nat) (Option.some Jvm.ClassFile.FieldType.boolean)).before args0 about1 = true := code_word (m := ⟨7, 3⟩) (meth := k7m3) (c := k7c3) (by decide +kernel) rfl rfl rfl (by decide +kernel)
set_option maxRecDepth 65536 in
theorem w_c23 : (Jvm.Cond.code ({ cls := "java/lang/StringLatin1", name := "equals", desc := "([B[B)Z" } : Jvm.MethodName) jdk_43_method_13_code (3 : Nat) (Option.some Jvm.ClassFile.FieldType.boolean)).before args0 about1 = true := code_word (m := ⟨10, 1⟩) (meth := k10m1) (c := k10c1) (by decide +kernel) rfl rfl rfl (by decide +kernel)
def codes1 : List Jvm.Cond := [Jvm.Cond.code x code maxLocals ret, Jvm.Cond.code ({ cls := "com/example/astute_search/astutesearch/engine/TopicEqualsPinLaw", name := "blank", desc := "(CCI)Z" } : Jvm.MethodName) method_3_code (3 : Nat) (Option.some Jvm.ClassFile.FieldType.boolean), Jvm.Cond.code ({ cls := "com/example/astute_search/astutesearch/engine/TopicEqualsPinLaw", name := "ws", desc := "(C)Z" } : Jvm.MethodName) method_2_code (1 : Nat) (Option.some Jvm.ClassFile.FieldType.boolean), Jvm.Cond.code ({ cls := "com/example/astute_search/astutesearch/engine/TopicEqualsPinLaw", name := "str", desc := "(CCI)Ljava/lang/String;" } : Jvm.MethodName) method_4_code (3 : Nat) (Option.some (Jvm.ClassFile.FieldType.object "java/lang/String")), Jvm.Cond.code ({ cls := "java/lang/String", name := "<init>", desc := "([C)V" } : Jvm.MethodName) jdk_42_method_3_code (2 : Nat) (Option.none : Option Jvm.ClassFile.FieldType), Jvm.Cond.code ({ cls := "java/lang/String", name := "<init>", desc := "([CIILjava/lang/Void;)V" } : Jvm.MethodName) jdk_42_method_149_code (6 : Nat) (Option.none : Option Jvm.ClassFile.FieldType), Jvm.Cond.code ({ cls := "java/lang/Object", name := "<init>", desc := "()V" } : Jvm.MethodName) object_method_1_code (1 : Nat) (Option.none : Option Jvm.ClassFile.FieldType), Jvm.Cond.code ({ cls := "java/lang/StringUTF16", name := "compress", desc := "([CII)[B" } : Jvm.MethodName) jdk_52_method_16_code (6 : Nat) (Option.some (Jvm.ClassFile.FieldType.array Jvm.ClassFile.FieldType.byte)), Jvm.Cond.code ({ cls := "java/lang/StringUTF16", name := "compress", desc := "([CI[BII)I" } : Jvm.MethodName) jdk_52_method_21_code (7 : Nat) (Option.some Jvm.ClassFile.FieldType.int), Jvm.Cond.code ({ cls := "java/lang/StringUTF16", name := "coderFromArrayLen", desc := "([BI)B" } : Jvm.MethodName) jdk_52_method_15_code (2 : Nat) (Option.some Jvm.ClassFile.FieldType.byte), Jvm.Cond.code ({ cls := "com/example/astute_search/astutesearch/engine/Topic", name := "<init>", desc := "(Ljava/lang/String;Ljava/lang/String;)V" } : Jvm.MethodName) prog_31_method_1_code (3 : Nat) (Option.none : Option Jvm.ClassFile.FieldType), Jvm.Cond.code ({ cls := "java/lang/String", name := "isBlank", desc := "()Z" } : Jvm.MethodName) jdk_42_method_117_code (1 : Nat) (Option.some Jvm.ClassFile.FieldType.boolean), Jvm.Cond.code ({ cls := "java/lang/String", name := "indexOfNonWhitespace", desc := "()I" } : Jvm.MethodName) jdk_42_method_120_code (1 : Nat) (Option.some Jvm.ClassFile.FieldType.int), Jvm.Cond.code ({ cls := "java/lang/String", name := "isLatin1", desc := "()Z" } : Jvm.MethodName) jdk_42_method_154_code (1 : Nat) (Option.some Jvm.ClassFile.FieldType.boolean), Jvm.Cond.code ({ cls := "java/lang/StringLatin1", name := "indexOfNonWhitespace", desc := "([B)I" } : Jvm.MethodName) jdk_43_method_37_code (4 : Nat) (Option.some Jvm.ClassFile.FieldType.int), Jvm.Cond.code ({ cls := "java/lang/StringLatin1", name := "getChar", desc := "([BI)C" } : Jvm.MethodName) jdk_43_method_44_code (2 : Nat) (Option.some Jvm.ClassFile.FieldType.char), Jvm.Cond.code ({ cls := "java/lang/CharacterDataLatin1", name := "isWhitespace", desc := "(I)Z" } : Jvm.MethodName) jdk_116_method_26_code (3 : Nat) (Option.some Jvm.ClassFile.FieldType.boolean), Jvm.Cond.code ({ cls := "java/lang/CharacterDataLatin1", name := "getProperties", desc := "(I)I" } : Jvm.MethodName) jdk_116_method_1_code (4 : Nat) (Option.some Jvm.ClassFile.FieldType.int), Jvm.Cond.code ({ cls := "java/lang/String", name := "length", desc := "()I" } : Jvm.MethodName) jdk_42_method_54_code (1 : Nat) (Option.some Jvm.ClassFile.FieldType.int), Jvm.Cond.code ({ cls := "java/lang/String", name := "coder", desc := "()B" } : Jvm.MethodName) jdk_42_method_152_code (1 : Nat) (Option.some Jvm.ClassFile.FieldType.byte), Jvm.Cond.code ({ cls := "com/example/astute_search/astutesearch/engine/TopicEqualsPinLaw", name := "same", desc := "(CCICCI)Z" } : Jvm.MethodName) method_5_code (6 : Nat) (Option.some Jvm.ClassFile.FieldType.boolean), Jvm.Cond.code ({ cls := "com/example/astute_search/astutesearch/engine/Topic", name := "equals", desc := "(Ljava/lang/Object;)Z" } : Jvm.MethodName) prog_31_method_4_code (3 : Nat) (Option.some Jvm.ClassFile.FieldType.boolean), Jvm.Cond.code ({ cls := "java/lang/String", name := "equals", desc := "(Ljava/lang/Object;)Z" } : Jvm.MethodName) jdk_42_method_66_code (3 : Nat) (Option.some Jvm.ClassFile.FieldType.boolean), Jvm.Cond.code ({ cls := "java/lang/StringLatin1", name := "equals", desc := "([B[B)Z" } : Jvm.MethodName) jdk_43_method_13_code (3 : Nat) (Option.some Jvm.ClassFile.FieldType.boolean)]
set_option maxRecDepth 65536 in
theorem codes_eq : words1.filter isCode = codes1 := rfl
theorem w_codes : ∀ c ∈ words1.filter isCode, c.before args0 about1 = true := by
  rw [codes_eq]
  intro c hc
  simp only [codes1, List.mem_cons, List.not_mem_nil, or_false] at hc
  rcases hc with rfl | rfl | rfl | rfl | rfl | rfl | rfl | rfl | rfl | rfl | rfl | rfl | rfl | rfl | rfl | rfl | rfl | rfl | rfl | rfl | rfl | rfl | rfl | rfl
  · exact w_c0
  · exact w_c1
  · exact w_c2
  · exact w_c3
  · exact w_c4
  · exact w_c5
  · exact w_c6
  · exact w_c7
  · exact w_c8
  · exact w_c9
  · exact w_c10
  · exact w_c11
  · exact w_c12
  · exact w_c13
  · exact w_c14
  · exact w_c15
  · exact w_c16
  · exact w_c17
  · exact w_c18
  · exact w_c19
  · exact w_c20
  · exact w_c21
  · exact w_c22
  · exact w_c23
set_option maxRecDepth 65536 in
theorem w_t1 : (words1.take 24).all (fun c => isCode c || c.before args0 about1) = true := by decide +kernel
set_option maxRecDepth 65536 in
theorem w_t2 : ((words1.drop 24).take 24).all (fun c => isCode c || c.before args0 about1) = true := by decide +kernel
set_option maxRecDepth 65536 in
theorem w_t3 : (((words1.drop 24).drop 24).take 24).all (fun c => isCode c || c.before args0 about1) = true := by decide +kernel
set_option maxRecDepth 65536 in
theorem w_t4 : ((((words1.drop 24).drop 24).drop 24).take 24).all (fun c => isCode c || c.before args0 about1) = true := by decide +kernel
set_option maxRecDepth 65536 in
theorem w_t5 : ((((words1.drop 24).drop 24).drop 24).drop 24).all (fun c => isCode c || c.before args0 about1) = true := by decide +kernel
theorem w_tables : (allAtoms (Jvm.Cond.code x code maxLocals ret :: tables_1)).before args0 about1 = true := by
  rw [allAtoms_all]
  show words1.all (fun c => c.before args0 about1) = true
  refine all_split ?_ w_codes
  rw [← List.take_append_drop 24 words1, List.all_append, w_t1, ← List.take_append_drop 24 (words1.drop 24), List.all_append, w_t2, ← List.take_append_drop 24 ((words1.drop 24).drop 24), List.all_append, w_t3, ← List.take_append_drop 24 (((words1.drop 24).drop 24).drop 24), List.all_append, w_t4, w_t5]
  rfl
set_option maxRecDepth 65536 in
theorem w_rest : rest_1_c.before args0 about1 = true := by decide +kernel
set_option maxRecDepth 65536 in
theorem w_case : (Jvm.Cond.and given_1 narrow_1).before args0 about1 = true := by decide +kernel
theorem w_applies : (headSpec (Jvm.Cond.code x code maxLocals ret :: tables_1) room_1).applies x e0.platform about1 = true :=
  (Spec.applies_iff w_frames).mpr ⟨w_running, w_runnable, w_alone, w_named, w_hears, w_ripe, w_room, w_tables⟩
theorem atStart : AtStart classFile x code maxLocals ret World_1 tables_1 room_1 Calls_1 rest_1 Pre_1 launch0 p0 e0 about1 theMethod args0 below0 :=
  ⟨lists_1, trivial, launch0.admits_env _ _ _, launch0.least_env, fairChoices_fair.cas, fairChoices_fair.clock, w_frames, w_args, w_heap, w_applies, trivial, w_rest, w_case⟩
end start1
theorem witness_1 : WitnessClaimed_1 := ⟨start1.p0, start1.e0, start1.about1, start1.theMethod, start1.args0, start1.below0, start1.atStart⟩
end Jvm.Pilot.@@N@@
