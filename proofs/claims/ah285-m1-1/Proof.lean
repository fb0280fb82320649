import JvmDerived
import JvmDerived.Pilot.@@N@@Statement
import JvmDerived.Pilot.@@N@@Code
set_option linter.unusedVariables false
set_option linter.unusedSimpArgs false
namespace Jvm.Own
open Jvm Sem ClassFile Op Lib Jvm.Stand Jvm.Free Jvm.LawKit Jvm.RoadKit
/-- the run from S ends well: it returns with P -/
def Go (p : Program) (e : Env) (below : List Frame) (P : Outcome → State → Prop) (S : State) : Prop := ∃ s₂ o, Steps p.tables e below S s₂ ∧ s₂.status = .running ∧ Ended s₂ below o ∧ P o s₂
section Steps
variable {p : Program} {l : Launch} {e : Env} {R : Room} {s : State} {m : MethodId} {args : Array Value} {below : List Frame} {meth : Method} {c : Code} {T : State} {locs : List Loc} {cells slots : Nat} {P : Outcome → State → Prop} {pc : Nat} {Ls : Array Slot} {st : List Value}
theorem Go.mv {S S' : State} (k : ∀ target, Steps p.tables e below S' target → Steps p.tables e below S target) (g : Go p e below P S') : Go p e below P S := by
  obtain ⟨s2, o, h1, h2⟩ := g
  exact ⟨s2, o, k _ h1, h2⟩
theorem Go.tr {S S' : State} (k : Steps p.tables e below S S') (g : Go p e below P S') : Go p e below P S := Go.mv (fun _ h => k.trans h) g
theorem Go.eq {S : State} {g g' : JFrame} (q : g = g') (k : Go p e below P (S.setTop g')) : Go p e below P (S.setTop g) := q ▸ k
theorem g_iload (X : Stand p l e R s m args below meth c T locs cells slots) (hx : p.tables.exec = Jvm.exec) {k : Nat} {v : Int32} (hd : decode c.code pc = .ok (.iload k, 2)) (hl : Ls[k]? = some (.val (.int v))) (pc' : Nat) (hp : pc + 2 = pc') (K : Go p e below P (T.setTop (mkF m pc' Ls (.int v :: st)))) : Go p e below P (T.setTop (mkF m pc Ls st)) := by
  subst hp; exact Go.mv (fun _ h => XS.iload X.here hx rfl hd hl h) K
theorem g_iloadN (X : Stand p l e R s m args below meth c T locs cells slots) (hx : p.tables.exec = Jvm.exec) {k : Fin 4} {v : Int32} (hd : decode c.code pc = .ok (.iload_n k, 1)) (hl : Ls[k.val]? = some (.val (.int v))) (pc' : Nat) (hp : pc + 1 = pc') (K : Go p e below P (T.setTop (mkF m pc' Ls (.int v :: st)))) : Go p e below P (T.setTop (mkF m pc Ls st)) := by
  subst hp; exact Go.mv (fun _ h => XS.iloadN X.here hx rfl hd hl h) K
theorem g_istore (X : Stand p l e R s m args below meth c T locs cells slots) (hx : p.tables.exec = Jvm.exec) {k : Nat} {v : Int32} (l' : Array Slot) (hd : decode c.code pc = .ok (.istore k, 2)) (hl : storeLocals Ls k (.int v) = some l') (pc' : Nat) (hp : pc + 2 = pc') (K : Go p e below P (T.setTop (mkF m pc' l' st))) : Go p e below P (T.setTop (mkF m pc Ls (.int v :: st))) := by
  subst hp; exact Go.mv (fun _ h => XS.istore X.here hx rfl hd rfl hl h) K
theorem g_istoreN (X : Stand p l e R s m args below meth c T locs cells slots) (hx : p.tables.exec = Jvm.exec) {k : Fin 4} {v : Int32} (l' : Array Slot) (hd : decode c.code pc = .ok (.istore_n k, 1)) (hl : storeLocals Ls k.val (.int v) = some l') (pc' : Nat) (hp : pc + 1 = pc') (K : Go p e below P (T.setTop (mkF m pc' l' st))) : Go p e below P (T.setTop (mkF m pc Ls (.int v :: st))) := by
  subst hp; exact Go.mv (fun _ h => XS.istoreN X.here hx rfl hd rfl hl h) K
theorem g_lload (X : Stand p l e R s m args below meth c T locs cells slots) (hx : p.tables.exec = Jvm.exec) {k : Nat} {v : Int64} (hd : decode c.code pc = .ok (.lload k, 2)) (hl : Ls[k]? = some (.val (.long v))) (pc' : Nat) (hp : pc + 2 = pc') (K : Go p e below P (T.setTop (mkF m pc' Ls (.long v :: st)))) : Go p e below P (T.setTop (mkF m pc Ls st)) := by
  subst hp; exact Go.mv (fun _ h => XS.lload X.here hx rfl hd hl h) K
theorem g_lloadN (X : Stand p l e R s m args below meth c T locs cells slots) (hx : p.tables.exec = Jvm.exec) {k : Fin 4} {v : Int64} (hd : decode c.code pc = .ok (.lload_n k, 1)) (hl : Ls[k.val]? = some (.val (.long v))) (pc' : Nat) (hp : pc + 1 = pc') (K : Go p e below P (T.setTop (mkF m pc' Ls (.long v :: st)))) : Go p e below P (T.setTop (mkF m pc Ls st)) := by
  subst hp; exact Go.mv (fun _ h => XS.lloadN X.here hx rfl hd hl h) K
theorem g_lstore (X : Stand p l e R s m args below meth c T locs cells slots) (hx : p.tables.exec = Jvm.exec) {k : Nat} {v : Int64} (l' : Array Slot) (hd : decode c.code pc = .ok (.lstore k, 2)) (hl : storeLocals Ls k (.long v) = some l') (pc' : Nat) (hp : pc + 2 = pc') (K : Go p e below P (T.setTop (mkF m pc' l' st))) : Go p e below P (T.setTop (mkF m pc Ls (.long v :: st))) := by
  subst hp; exact Go.mv (fun _ h => XS.lstore X.here hx rfl hd rfl hl h) K
theorem g_lstoreN (X : Stand p l e R s m args below meth c T locs cells slots) (hx : p.tables.exec = Jvm.exec) {k : Fin 4} {v : Int64} (l' : Array Slot) (hd : decode c.code pc = .ok (.lstore_n k, 1)) (hl : storeLocals Ls k.val (.long v) = some l') (pc' : Nat) (hp : pc + 1 = pc') (K : Go p e below P (T.setTop (mkF m pc' l' st))) : Go p e below P (T.setTop (mkF m pc Ls (.long v :: st))) := by
  subst hp; exact Go.mv (fun _ h => XS.lstoreN X.here hx rfl hd rfl hl h) K
theorem g_aload (X : Stand p l e R s m args below meth c T locs cells slots) (hx : p.tables.exec = Jvm.exec) {k : Nat} {v : Value} (hd : decode c.code pc = .ok (.aload k, 2)) (hl : Ls[k]? = some (.val v)) (hv : v.isRef = true) (pc' : Nat) (hp : pc + 2 = pc') (K : Go p e below P (T.setTop (mkF m pc' Ls (v :: st)))) : Go p e below P (T.setTop (mkF m pc Ls st)) := by
  subst hp; exact Go.mv (fun _ h => XS.aload X.here hx rfl hd hl hv h) K
theorem g_aloadN (X : Stand p l e R s m args below meth c T locs cells slots) (hx : p.tables.exec = Jvm.exec) {k : Fin 4} {v : Value} (hd : decode c.code pc = .ok (.aload_n k, 1)) (hl : Ls[k.val]? = some (.val v)) (hv : v.isRef = true) (pc' : Nat) (hp : pc + 1 = pc') (K : Go p e below P (T.setTop (mkF m pc' Ls (v :: st)))) : Go p e below P (T.setTop (mkF m pc Ls st)) := by
  subst hp; exact Go.mv (fun _ h => XS.aloadN X.here hx rfl hd hl hv h) K
theorem g_astore (X : Stand p l e R s m args below meth c T locs cells slots) (hx : p.tables.exec = Jvm.exec) {k : Nat} {v : Value} (l' : Array Slot) (hd : decode c.code pc = .ok (.astore k, 2)) (hv : v.isRef = true) (hl : storeLocals Ls k v = some l') (pc' : Nat) (hp : pc + 2 = pc') (K : Go p e below P (T.setTop (mkF m pc' l' st))) : Go p e below P (T.setTop (mkF m pc Ls (v :: st))) := by
  subst hp; exact Go.mv (fun _ h => XS.astore X.here hx rfl hd rfl hv hl h) K
theorem g_astoreN (X : Stand p l e R s m args below meth c T locs cells slots) (hx : p.tables.exec = Jvm.exec) {k : Fin 4} {v : Value} (l' : Array Slot) (hd : decode c.code pc = .ok (.astore_n k, 1)) (hv : v.isRef = true) (hl : storeLocals Ls k.val v = some l') (pc' : Nat) (hp : pc + 1 = pc') (K : Go p e below P (T.setTop (mkF m pc' l' st))) : Go p e below P (T.setTop (mkF m pc Ls (v :: st))) := by
  subst hp; exact Go.mv (fun _ h => XS.astoreN X.here hx rfl hd rfl hv hl h) K
theorem g_iconst (X : Stand p l e R s m args below meth c T locs cells slots) (hx : p.tables.exec = Jvm.exec) {i : Int} (v : Int32) (hd : decode c.code pc = .ok (.iconst i, 1)) (hv : Int32.ofInt i = v) (pc' : Nat) (hp : pc + 1 = pc') (K : Go p e below P (T.setTop (mkF m pc' Ls (.int v :: st)))) : Go p e below P (T.setTop (mkF m pc Ls st)) := by
  subst hp hv; exact Go.mv (fun _ h => XS.iconst X.here hx rfl hd h) K
theorem g_bipush (X : Stand p l e R s m args below meth c T locs cells slots) (hx : p.tables.exec = Jvm.exec) {i : Int} (v : Int32) (hd : decode c.code pc = .ok (.bipush i, 2)) (hv : (Int8.ofInt i).toInt32 = v) (pc' : Nat) (hp : pc + 2 = pc') (K : Go p e below P (T.setTop (mkF m pc' Ls (.int v :: st)))) : Go p e below P (T.setTop (mkF m pc Ls st)) := by
  subst hp hv; exact Go.mv (fun _ h => XS.bipush X.here hx rfl hd h) K
theorem g_sipush (X : Stand p l e R s m args below meth c T locs cells slots) (hx : p.tables.exec = Jvm.exec) {i : Int} (v : Int32) (hd : decode c.code pc = .ok (.sipush i, 3)) (hv : (Int16.ofInt i).toInt32 = v) (pc' : Nat) (hp : pc + 3 = pc') (K : Go p e below P (T.setTop (mkF m pc' Ls (.int v :: st)))) : Go p e below P (T.setTop (mkF m pc Ls st)) := by
  subst hp hv; exact Go.mv (fun _ h => XS.sipush X.here hx rfl hd h) K
theorem g_lconst (X : Stand p l e R s m args below meth c T locs cells slots) (hx : p.tables.exec = Jvm.exec) {k : Fin 2} (v : Int64) (hd : decode c.code pc = .ok (.lconst k, 1)) (hv : Int64.ofNat k = v) (pc' : Nat) (hp : pc + 1 = pc') (K : Go p e below P (T.setTop (mkF m pc' Ls (.long v :: st)))) : Go p e below P (T.setTop (mkF m pc Ls st)) := by
  subst hp hv; exact Go.mv (fun _ h => XS.lconst X.here hx rfl hd h) K
theorem g_aconstNull (X : Stand p l e R s m args below meth c T locs cells slots) (hx : p.tables.exec = Jvm.exec)  (hd : decode c.code pc = .ok (.aconst_null, 1))  (pc' : Nat) (hp : pc + 1 = pc') (K : Go p e below P (T.setTop (mkF m pc' Ls (.null :: st)))) : Go p e below P (T.setTop (mkF m pc Ls st)) := by
  subst hp; exact Go.mv (fun _ h => XS.aconstNull X.here hx rfl hd  h) K
theorem g_iadd (X : Stand p l e R s m args below meth c T locs cells slots) (hx : p.tables.exec = Jvm.exec) {x y : Int32} (hd : decode c.code pc = .ok (.iadd, 1))  (pc' : Nat) (hp : pc + 1 = pc') (K : Go p e below P (T.setTop (mkF m pc' Ls (.int (x + y) :: st)))) : Go p e below P (T.setTop (mkF m pc Ls (.int y :: .int x :: st))) := by
  subst hp; exact Go.mv (fun _ h => XS.iadd X.here hx rfl hd rfl h) K
theorem g_ladd (X : Stand p l e R s m args below meth c T locs cells slots) (hx : p.tables.exec = Jvm.exec) {x y : Int64} (hd : decode c.code pc = .ok (.ladd, 1))  (pc' : Nat) (hp : pc + 1 = pc') (K : Go p e below P (T.setTop (mkF m pc' Ls (.long (x + y) :: st)))) : Go p e below P (T.setTop (mkF m pc Ls (.long y :: .long x :: st))) := by
  subst hp; exact Go.mv (fun _ h => XS.ladd X.here hx rfl hd rfl h) K
theorem g_isub (X : Stand p l e R s m args below meth c T locs cells slots) (hx : p.tables.exec = Jvm.exec) {x y : Int32} (hd : decode c.code pc = .ok (.isub, 1))  (pc' : Nat) (hp : pc + 1 = pc') (K : Go p e below P (T.setTop (mkF m pc' Ls (.int (x - y) :: st)))) : Go p e below P (T.setTop (mkF m pc Ls (.int y :: .int x :: st))) := by
  subst hp; exact Go.mv (fun _ h => XS.isub X.here hx rfl hd rfl h) K
theorem g_lsub (X : Stand p l e R s m args below meth c T locs cells slots) (hx : p.tables.exec = Jvm.exec) {x y : Int64} (hd : decode c.code pc = .ok (.lsub, 1))  (pc' : Nat) (hp : pc + 1 = pc') (K : Go p e below P (T.setTop (mkF m pc' Ls (.long (x - y) :: st)))) : Go p e below P (T.setTop (mkF m pc Ls (.long y :: .long x :: st))) := by
  subst hp; exact Go.mv (fun _ h => XS.lsub X.here hx rfl hd rfl h) K
theorem g_imul (X : Stand p l e R s m args below meth c T locs cells slots) (hx : p.tables.exec = Jvm.exec) {x y : Int32} (hd : decode c.code pc = .ok (.imul, 1))  (pc' : Nat) (hp : pc + 1 = pc') (K : Go p e below P (T.setTop (mkF m pc' Ls (.int (x * y) :: st)))) : Go p e below P (T.setTop (mkF m pc Ls (.int y :: .int x :: st))) := by
  subst hp; exact Go.mv (fun _ h => XS.imul X.here hx rfl hd rfl h) K
theorem g_lmul (X : Stand p l e R s m args below meth c T locs cells slots) (hx : p.tables.exec = Jvm.exec) {x y : Int64} (hd : decode c.code pc = .ok (.lmul, 1))  (pc' : Nat) (hp : pc + 1 = pc') (K : Go p e below P (T.setTop (mkF m pc' Ls (.long (x * y) :: st)))) : Go p e below P (T.setTop (mkF m pc Ls (.long y :: .long x :: st))) := by
  subst hp; exact Go.mv (fun _ h => XS.lmul X.here hx rfl hd rfl h) K
theorem g_iand (X : Stand p l e R s m args below meth c T locs cells slots) (hx : p.tables.exec = Jvm.exec) {x y : Int32} (hd : decode c.code pc = .ok (.iand, 1))  (pc' : Nat) (hp : pc + 1 = pc') (K : Go p e below P (T.setTop (mkF m pc' Ls (.int (x &&& y) :: st)))) : Go p e below P (T.setTop (mkF m pc Ls (.int y :: .int x :: st))) := by
  subst hp; exact Go.mv (fun _ h => XS.iand X.here hx rfl hd rfl h) K
theorem g_land (X : Stand p l e R s m args below meth c T locs cells slots) (hx : p.tables.exec = Jvm.exec) {x y : Int64} (hd : decode c.code pc = .ok (.land, 1))  (pc' : Nat) (hp : pc + 1 = pc') (K : Go p e below P (T.setTop (mkF m pc' Ls (.long (x &&& y) :: st)))) : Go p e below P (T.setTop (mkF m pc Ls (.long y :: .long x :: st))) := by
  subst hp; exact Go.mv (fun _ h => XS.land X.here hx rfl hd rfl h) K
theorem g_ior (X : Stand p l e R s m args below meth c T locs cells slots) (hx : p.tables.exec = Jvm.exec) {x y : Int32} (hd : decode c.code pc = .ok (.ior, 1))  (pc' : Nat) (hp : pc + 1 = pc') (K : Go p e below P (T.setTop (mkF m pc' Ls (.int (x ||| y) :: st)))) : Go p e below P (T.setTop (mkF m pc Ls (.int y :: .int x :: st))) := by
  subst hp; exact Go.mv (fun _ h => XS.ior X.here hx rfl hd rfl h) K
theorem g_lor (X : Stand p l e R s m args below meth c T locs cells slots) (hx : p.tables.exec = Jvm.exec) {x y : Int64} (hd : decode c.code pc = .ok (.lor, 1))  (pc' : Nat) (hp : pc + 1 = pc') (K : Go p e below P (T.setTop (mkF m pc' Ls (.long (x ||| y) :: st)))) : Go p e below P (T.setTop (mkF m pc Ls (.long y :: .long x :: st))) := by
  subst hp; exact Go.mv (fun _ h => XS.lor X.here hx rfl hd rfl h) K
theorem g_ixor (X : Stand p l e R s m args below meth c T locs cells slots) (hx : p.tables.exec = Jvm.exec) {x y : Int32} (hd : decode c.code pc = .ok (.ixor, 1))  (pc' : Nat) (hp : pc + 1 = pc') (K : Go p e below P (T.setTop (mkF m pc' Ls (.int (x ^^^ y) :: st)))) : Go p e below P (T.setTop (mkF m pc Ls (.int y :: .int x :: st))) := by
  subst hp; exact Go.mv (fun _ h => XS.ixor X.here hx rfl hd rfl h) K
theorem g_lxor (X : Stand p l e R s m args below meth c T locs cells slots) (hx : p.tables.exec = Jvm.exec) {x y : Int64} (hd : decode c.code pc = .ok (.lxor, 1))  (pc' : Nat) (hp : pc + 1 = pc') (K : Go p e below P (T.setTop (mkF m pc' Ls (.long (x ^^^ y) :: st)))) : Go p e below P (T.setTop (mkF m pc Ls (.long y :: .long x :: st))) := by
  subst hp; exact Go.mv (fun _ h => XS.lxor X.here hx rfl hd rfl h) K
theorem g_ishl (X : Stand p l e R s m args below meth c T locs cells slots) (hx : p.tables.exec = Jvm.exec) {x y : Int32} (hd : decode c.code pc = .ok (.ishl, 1))  (pc' : Nat) (hp : pc + 1 = pc') (K : Go p e below P (T.setTop (mkF m pc' Ls (.int (x <<< (y &&& 31)) :: st)))) : Go p e below P (T.setTop (mkF m pc Ls (.int y :: .int x :: st))) := by
  subst hp; exact Go.mv (fun _ h => XS.ishl X.here hx rfl hd rfl h) K
theorem g_ishr (X : Stand p l e R s m args below meth c T locs cells slots) (hx : p.tables.exec = Jvm.exec) {x y : Int32} (hd : decode c.code pc = .ok (.ishr, 1))  (pc' : Nat) (hp : pc + 1 = pc') (K : Go p e below P (T.setTop (mkF m pc' Ls (.int (x >>> (y &&& 31)) :: st)))) : Go p e below P (T.setTop (mkF m pc Ls (.int y :: .int x :: st))) := by
  subst hp; exact Go.mv (fun _ h => XS.ishr X.here hx rfl hd rfl h) K
theorem g_iushr (X : Stand p l e R s m args below meth c T locs cells slots) (hx : p.tables.exec = Jvm.exec) {x y : Int32} (hd : decode c.code pc = .ok (.iushr, 1))  (pc' : Nat) (hp : pc + 1 = pc') (K : Go p e below P (T.setTop (mkF m pc' Ls (.int ((x.toUInt32 >>> (y &&& 31).toUInt32).toInt32) :: st)))) : Go p e below P (T.setTop (mkF m pc Ls (.int y :: .int x :: st))) := by
  subst hp; exact Go.mv (fun _ h => XS.iushr X.here hx rfl hd rfl h) K
theorem g_lshl (X : Stand p l e R s m args below meth c T locs cells slots) (hx : p.tables.exec = Jvm.exec) {x : Int64} {y : Int32} (hd : decode c.code pc = .ok (.lshl, 1))  (pc' : Nat) (hp : pc + 1 = pc') (K : Go p e below P (T.setTop (mkF m pc' Ls (.long (x <<< (y &&& 0x3f).toInt64) :: st)))) : Go p e below P (T.setTop (mkF m pc Ls (.int y :: .long x :: st))) := by
  subst hp; exact Go.mv (fun _ h => XS.lshl X.here hx rfl hd rfl h) K
theorem g_lushr (X : Stand p l e R s m args below meth c T locs cells slots) (hx : p.tables.exec = Jvm.exec) {x : Int64} {y : Int32} (hd : decode c.code pc = .ok (.lushr, 1))  (pc' : Nat) (hp : pc + 1 = pc') (K : Go p e below P (T.setTop (mkF m pc' Ls (.long ((x.toUInt64 >>> (y &&& 0x3f).toInt64.toUInt64).toInt64) :: st)))) : Go p e below P (T.setTop (mkF m pc Ls (.int y :: .long x :: st))) := by
  subst hp; exact Go.mv (fun _ h => XS.lushr X.here hx rfl hd rfl h) K
theorem g_ineg (X : Stand p l e R s m args below meth c T locs cells slots) (hx : p.tables.exec = Jvm.exec) {x : Int32} (hd : decode c.code pc = .ok (.ineg, 1))  (pc' : Nat) (hp : pc + 1 = pc') (K : Go p e below P (T.setTop (mkF m pc' Ls (.int (-x) :: st)))) : Go p e below P (T.setTop (mkF m pc Ls (.int x :: st))) := by
  subst hp; exact Go.mv (fun _ h => XS.ineg X.here hx rfl hd rfl h) K
theorem g_lneg (X : Stand p l e R s m args below meth c T locs cells slots) (hx : p.tables.exec = Jvm.exec) {x : Int64} (hd : decode c.code pc = .ok (.lneg, 1))  (pc' : Nat) (hp : pc + 1 = pc') (K : Go p e below P (T.setTop (mkF m pc' Ls (.long (-x) :: st)))) : Go p e below P (T.setTop (mkF m pc Ls (.long x :: st))) := by
  subst hp; exact Go.mv (fun _ h => XS.lneg X.here hx rfl hd rfl h) K
theorem g_i2l (X : Stand p l e R s m args below meth c T locs cells slots) (hx : p.tables.exec = Jvm.exec) {x : Int32} (hd : decode c.code pc = .ok (.i2l, 1))  (pc' : Nat) (hp : pc + 1 = pc') (K : Go p e below P (T.setTop (mkF m pc' Ls (.long (x.toInt64) :: st)))) : Go p e below P (T.setTop (mkF m pc Ls (.int x :: st))) := by
  subst hp; exact Go.mv (fun _ h => XS.i2l X.here hx rfl hd rfl h) K
theorem g_l2i (X : Stand p l e R s m args below meth c T locs cells slots) (hx : p.tables.exec = Jvm.exec) {x : Int64} (hd : decode c.code pc = .ok (.l2i, 1))  (pc' : Nat) (hp : pc + 1 = pc') (K : Go p e below P (T.setTop (mkF m pc' Ls (.int (x.toInt32) :: st)))) : Go p e below P (T.setTop (mkF m pc Ls (.long x :: st))) := by
  subst hp; exact Go.mv (fun _ h => XS.l2i X.here hx rfl hd rfl h) K
theorem g_i2b (X : Stand p l e R s m args below meth c T locs cells slots) (hx : p.tables.exec = Jvm.exec) {x : Int32} (hd : decode c.code pc = .ok (.i2b, 1))  (pc' : Nat) (hp : pc + 1 = pc') (K : Go p e below P (T.setTop (mkF m pc' Ls (.int (x.toInt8.toInt32) :: st)))) : Go p e below P (T.setTop (mkF m pc Ls (.int x :: st))) := by
  subst hp; exact Go.mv (fun _ h => XS.i2b X.here hx rfl hd rfl h) K
theorem g_i2s (X : Stand p l e R s m args below meth c T locs cells slots) (hx : p.tables.exec = Jvm.exec) {x : Int32} (hd : decode c.code pc = .ok (.i2s, 1))  (pc' : Nat) (hp : pc + 1 = pc') (K : Go p e below P (T.setTop (mkF m pc' Ls (.int (x.toInt16.toInt32) :: st)))) : Go p e below P (T.setTop (mkF m pc Ls (.int x :: st))) := by
  subst hp; exact Go.mv (fun _ h => XS.i2s X.here hx rfl hd rfl h) K
theorem g_i2c (X : Stand p l e R s m args below meth c T locs cells slots) (hx : p.tables.exec = Jvm.exec) {x : Int32} (hd : decode c.code pc = .ok (.i2c, 1))  (pc' : Nat) (hp : pc + 1 = pc') (K : Go p e below P (T.setTop (mkF m pc' Ls (.int (x.toUInt32.toUInt16.toUInt32.toInt32) :: st)))) : Go p e below P (T.setTop (mkF m pc Ls (.int x :: st))) := by
  subst hp; exact Go.mv (fun _ h => XS.i2c X.here hx rfl hd rfl h) K
theorem g_lcmp (X : Stand p l e R s m args below meth c T locs cells slots) (hx : p.tables.exec = Jvm.exec) {x y : Int64} (hd : decode c.code pc = .ok (.lcmp, 1))  (pc' : Nat) (hp : pc + 1 = pc') (K : Go p e below P (T.setTop (mkF m pc' Ls (.int (lcmpW x y) :: st)))) : Go p e below P (T.setTop (mkF m pc Ls (.long y :: .long x :: st))) := by
  subst hp; exact Go.mv (fun _ h => XS.lcmp X.here hx rfl hd rfl h) K
theorem g_idiv (X : Stand p l e R s m args below meth c T locs cells slots) (hx : p.tables.exec = Jvm.exec) {x y : Int32} (hd : decode c.code pc = .ok (.idiv, 1)) (hy : y ≠ 0) (pc' : Nat) (hp : pc + 1 = pc') (K : Go p e below P (T.setTop (mkF m pc' Ls (.int (x / y) :: st)))) : Go p e below P (T.setTop (mkF m pc Ls (.int y :: .int x :: st))) := by
  subst hp; exact Go.mv (fun _ h => XS.idiv X.here hx rfl hd rfl hy h) K
theorem g_ldiv (X : Stand p l e R s m args below meth c T locs cells slots) (hx : p.tables.exec = Jvm.exec) {x y : Int64} (hd : decode c.code pc = .ok (.ldiv, 1)) (hy : y ≠ 0) (pc' : Nat) (hp : pc + 1 = pc') (K : Go p e below P (T.setTop (mkF m pc' Ls (.long (x / y) :: st)))) : Go p e below P (T.setTop (mkF m pc Ls (.long y :: .long x :: st))) := by
  subst hp; exact Go.mv (fun _ h => XS.ldiv X.here hx rfl hd rfl hy h) K
theorem g_irem (X : Stand p l e R s m args below meth c T locs cells slots) (hx : p.tables.exec = Jvm.exec) {x y : Int32} (hd : decode c.code pc = .ok (.irem, 1)) (hy : y ≠ 0) (pc' : Nat) (hp : pc + 1 = pc') (K : Go p e below P (T.setTop (mkF m pc' Ls (.int (x % y) :: st)))) : Go p e below P (T.setTop (mkF m pc Ls (.int y :: .int x :: st))) := by
  subst hp; exact Go.mv (fun _ h => iremM X hx rfl hd rfl hy h) K
theorem lrem_eq_mod (x y : Int64) : x - (x / y) * y = x % y := by
  apply Int64.toInt_inj.mp
  have h1 := Int64.le_toInt (x % y)
  have h2 := Int64.toInt_lt (x % y)
  rw [Int64.toInt_sub, Int64.toInt_mul, Int64.toInt_div, Int.bmod_mul_bmod, Int.sub_bmod_bmod, Int.mul_comm (x.toInt.tdiv y.toInt), ← Int.tmod_def, ← Int64.toInt_mod]
  exact Int.bmod_eq_of_le_mul_two (by omega) (by omega)
theorem g_lrem (X : Stand p l e R s m args below meth c T locs cells slots) (hx : p.tables.exec = Jvm.exec) {x y : Int64} (hd : decode c.code pc = .ok (.lrem, 1)) (hy : y ≠ 0) (pc' : Nat) (hp : pc + 1 = pc') (K : Go p e below P (T.setTop (mkF m pc' Ls (.long (x % y) :: st)))) : Go p e below P (T.setTop (mkF m pc Ls (.long y :: .long x :: st))) := by
  subst hp; rw [← lrem_eq_mod] at K; exact Go.mv (fun _ h => XS.lrem X.here hx rfl hd rfl hy h) K
theorem g_dup (X : Stand p l e R s m args below meth c T locs cells slots) (hx : p.tables.exec = Jvm.exec) {x : Value} (hd : decode c.code pc = .ok (.dup, 1)) (hc : x.category = 1) (pc' : Nat) (hp : pc + 1 = pc') (K : Go p e below P (T.setTop (mkF m pc' Ls (x :: x :: st)))) : Go p e below P (T.setTop (mkF m pc Ls (x :: st))) := by
  subst hp; exact Go.mv (fun _ h => XS.dup X.here hx rfl hd rfl hc h) K
theorem g_pop (X : Stand p l e R s m args below meth c T locs cells slots) (hx : p.tables.exec = Jvm.exec) {x : Value} (hd : decode c.code pc = .ok (.pop, 1)) (hc : x.category = 1) (pc' : Nat) (hp : pc + 1 = pc') (K : Go p e below P (T.setTop (mkF m pc' Ls st))) : Go p e below P (T.setTop (mkF m pc Ls (x :: st))) := by
  subst hp; exact Go.mv (fun _ h => XS.pop X.here hx rfl hd rfl hc h) K
theorem g_dupX1 (X : Stand p l e R s m args below meth c T locs cells slots) (hx : p.tables.exec = Jvm.exec) {x y : Value} (hd : decode c.code pc = .ok (.dup_x1, 1)) (hc : x.category = 1) (hc2 : y.category = 1) (pc' : Nat) (hp : pc + 1 = pc') (K : Go p e below P (T.setTop (mkF m pc' Ls (x :: y :: x :: st)))) : Go p e below P (T.setTop (mkF m pc Ls (x :: y :: st))) := by
  subst hp; exact Go.mv (fun _ h => XS.dupX1 X.here hx rfl hd rfl hc hc2 h) K
theorem g_iinc (X : Stand p l e R s m args below meth c T locs cells slots) (hx : p.tables.exec = Jvm.exec) {k : Nat} {cst : Int} {x : Int32} (l' : Array Slot) (hd : decode c.code pc = .ok (.iinc k cst, 3)) (hl : Ls[k]? = some (.val (.int x))) (hl' : storeLocals Ls k (.int (x + Int32.ofInt cst)) = some l') (pc' : Nat) (hp : pc + 3 = pc') (K : Go p e below P (T.setTop (mkF m pc' l' st))) : Go p e below P (T.setTop (mkF m pc Ls st)) := by
  subst hp; exact Go.mv (fun _ h => XS.iinc X.here hx rfl hd hl hl' h) K
theorem g_goto (X : Stand p l e R s m args below meth c T locs cells slots) (hx : p.tables.exec = Jvm.exec) {o : Int} (hd : decode c.code pc = .ok (.goto o, 3)) (pc' : Nat) (hp : ((pc : Int) + o).toNat = pc' ∧ 0 ≤ (pc : Int) + o) (K : Go p e below P (T.setTop (mkF m pc' Ls st))) : Go p e below P (T.setTop (mkF m pc Ls st)) :=
  Go.mv (fun _ h => XS.goto X.here hx rfl (pc0 := pc) (pc' := pc') rfl hd hp.2 hp.1 h) K
theorem g_icmp_lt_t (X : Stand p l e R s m args below meth c T locs cells slots) (hx : p.tables.exec = Jvm.exec) {x y : Int32} {o : Int} (hd : decode c.code pc = .ok (.if_icmp .lt o, 3)) (h : x < y) (pc' : Nat) (hp : ((pc : Int) + o).toNat = pc' ∧ 0 ≤ (pc : Int) + o) (K : Go p e below P (T.setTop (mkF m pc' Ls st))) : Go p e below P (T.setTop (mkF m pc Ls (.int y :: .int x :: st))) :=
  Go.mv (fun _ q => XS.icmpYes X.here hx rfl (pc0 := pc) (pc' := pc') rfl hd rfl (tlt h).1 hp.2 hp.1 q) K
theorem g_icmp_lt_f (X : Stand p l e R s m args below meth c T locs cells slots) (hx : p.tables.exec = Jvm.exec) {x y : Int32} {o : Int} (hd : decode c.code pc = .ok (.if_icmp .lt o, 3)) (h : ¬ x < y) (pc' : Nat) (hp : pc + 3 = pc') (K : Go p e below P (T.setTop (mkF m pc' Ls st))) : Go p e below P (T.setTop (mkF m pc Ls (.int y :: .int x :: st))) := by
  subst hp; exact Go.mv (fun _ q => XS.icmpNo X.here hx rfl hd rfl (flt h).1 q) K
theorem g_icmp_lt (X : Stand p l e R s m args below meth c T locs cells slots) (hx : p.tables.exec = Jvm.exec) {x y : Int32} {o : Int} (hd : decode c.code pc = .ok (.if_icmp .lt o, 3)) (pcT pcF : Nat) (hT : ((pc : Int) + o).toNat = pcT ∧ 0 ≤ (pc : Int) + o) (hF : pc + 3 = pcF) (KT : (x < y) → Go p e below P (T.setTop (mkF m pcT Ls st))) (KF : (¬ x < y) → Go p e below P (T.setTop (mkF m pcF Ls st))) : Go p e below P (T.setTop (mkF m pc Ls (.int y :: .int x :: st))) := by
  by_cases h : x < y
  · exact g_icmp_lt_t X hx hd h _ hT (KT h)
  · exact g_icmp_lt_f X hx hd h _ hF (KF h)
theorem g_if_lt_t (X : Stand p l e R s m args below meth c T locs cells slots) (hx : p.tables.exec = Jvm.exec) {x : Int32} {o : Int} (hd : decode c.code pc = .ok (.ifCond .lt o, 3)) (h : x < 0) (pc' : Nat) (hp : ((pc : Int) + o).toNat = pc' ∧ 0 ≤ (pc : Int) + o) (K : Go p e below P (T.setTop (mkF m pc' Ls st))) : Go p e below P (T.setTop (mkF m pc Ls (.int x :: st))) :=
  Go.mv (fun _ q => XS.ifYes X.here hx rfl (pc0 := pc) (pc' := pc') rfl hd rfl ((if0 _ _).trans (tlt h).1) hp.2 hp.1 q) K
theorem g_if_lt_f (X : Stand p l e R s m args below meth c T locs cells slots) (hx : p.tables.exec = Jvm.exec) {x : Int32} {o : Int} (hd : decode c.code pc = .ok (.ifCond .lt o, 3)) (h : ¬ x < 0) (pc' : Nat) (hp : pc + 3 = pc') (K : Go p e below P (T.setTop (mkF m pc' Ls st))) : Go p e below P (T.setTop (mkF m pc Ls (.int x :: st))) := by
  subst hp; exact Go.mv (fun _ q => XS.ifNo X.here hx rfl hd rfl ((if0 _ _).trans (flt h).1) q) K
theorem g_if_lt (X : Stand p l e R s m args below meth c T locs cells slots) (hx : p.tables.exec = Jvm.exec) {x : Int32} {o : Int} (hd : decode c.code pc = .ok (.ifCond .lt o, 3)) (pcT pcF : Nat) (hT : ((pc : Int) + o).toNat = pcT ∧ 0 ≤ (pc : Int) + o) (hF : pc + 3 = pcF) (KT : (x < 0) → Go p e below P (T.setTop (mkF m pcT Ls st))) (KF : (¬ x < 0) → Go p e below P (T.setTop (mkF m pcF Ls st))) : Go p e below P (T.setTop (mkF m pc Ls (.int x :: st))) := by
  by_cases h : x < 0
  · exact g_if_lt_t X hx hd h _ hT (KT h)
  · exact g_if_lt_f X hx hd h _ hF (KF h)
theorem g_icmp_ge_t (X : Stand p l e R s m args below meth c T locs cells slots) (hx : p.tables.exec = Jvm.exec) {x y : Int32} {o : Int} (hd : decode c.code pc = .ok (.if_icmp .ge o, 3)) (h : ¬ x < y) (pc' : Nat) (hp : ((pc : Int) + o).toNat = pc' ∧ 0 ≤ (pc : Int) + o) (K : Go p e below P (T.setTop (mkF m pc' Ls st))) : Go p e below P (T.setTop (mkF m pc Ls (.int y :: .int x :: st))) :=
  Go.mv (fun _ q => XS.icmpYes X.here hx rfl (pc0 := pc) (pc' := pc') rfl hd rfl (flt h).2.1 hp.2 hp.1 q) K
theorem g_icmp_ge_f (X : Stand p l e R s m args below meth c T locs cells slots) (hx : p.tables.exec = Jvm.exec) {x y : Int32} {o : Int} (hd : decode c.code pc = .ok (.if_icmp .ge o, 3)) (h : x < y) (pc' : Nat) (hp : pc + 3 = pc') (K : Go p e below P (T.setTop (mkF m pc' Ls st))) : Go p e below P (T.setTop (mkF m pc Ls (.int y :: .int x :: st))) := by
  subst hp; exact Go.mv (fun _ q => XS.icmpNo X.here hx rfl hd rfl (tlt h).2.1 q) K
theorem g_icmp_ge (X : Stand p l e R s m args below meth c T locs cells slots) (hx : p.tables.exec = Jvm.exec) {x y : Int32} {o : Int} (hd : decode c.code pc = .ok (.if_icmp .ge o, 3)) (pcT pcF : Nat) (hT : ((pc : Int) + o).toNat = pcT ∧ 0 ≤ (pc : Int) + o) (hF : pc + 3 = pcF) (KT : (¬ x < y) → Go p e below P (T.setTop (mkF m pcT Ls st))) (KF : (x < y) → Go p e below P (T.setTop (mkF m pcF Ls st))) : Go p e below P (T.setTop (mkF m pc Ls (.int y :: .int x :: st))) := by
  by_cases h : x < y
  · exact g_icmp_ge_f X hx hd h _ hF (KF h)
  · exact g_icmp_ge_t X hx hd h _ hT (KT h)
theorem g_if_ge_t (X : Stand p l e R s m args below meth c T locs cells slots) (hx : p.tables.exec = Jvm.exec) {x : Int32} {o : Int} (hd : decode c.code pc = .ok (.ifCond .ge o, 3)) (h : ¬ x < 0) (pc' : Nat) (hp : ((pc : Int) + o).toNat = pc' ∧ 0 ≤ (pc : Int) + o) (K : Go p e below P (T.setTop (mkF m pc' Ls st))) : Go p e below P (T.setTop (mkF m pc Ls (.int x :: st))) :=
  Go.mv (fun _ q => XS.ifYes X.here hx rfl (pc0 := pc) (pc' := pc') rfl hd rfl ((if0 _ _).trans (flt h).2.1) hp.2 hp.1 q) K
theorem g_if_ge_f (X : Stand p l e R s m args below meth c T locs cells slots) (hx : p.tables.exec = Jvm.exec) {x : Int32} {o : Int} (hd : decode c.code pc = .ok (.ifCond .ge o, 3)) (h : x < 0) (pc' : Nat) (hp : pc + 3 = pc') (K : Go p e below P (T.setTop (mkF m pc' Ls st))) : Go p e below P (T.setTop (mkF m pc Ls (.int x :: st))) := by
  subst hp; exact Go.mv (fun _ q => XS.ifNo X.here hx rfl hd rfl ((if0 _ _).trans (tlt h).2.1) q) K
theorem g_if_ge (X : Stand p l e R s m args below meth c T locs cells slots) (hx : p.tables.exec = Jvm.exec) {x : Int32} {o : Int} (hd : decode c.code pc = .ok (.ifCond .ge o, 3)) (pcT pcF : Nat) (hT : ((pc : Int) + o).toNat = pcT ∧ 0 ≤ (pc : Int) + o) (hF : pc + 3 = pcF) (KT : (¬ x < 0) → Go p e below P (T.setTop (mkF m pcT Ls st))) (KF : (x < 0) → Go p e below P (T.setTop (mkF m pcF Ls st))) : Go p e below P (T.setTop (mkF m pc Ls (.int x :: st))) := by
  by_cases h : x < 0
  · exact g_if_ge_f X hx hd h _ hF (KF h)
  · exact g_if_ge_t X hx hd h _ hT (KT h)
theorem g_icmp_gt_t (X : Stand p l e R s m args below meth c T locs cells slots) (hx : p.tables.exec = Jvm.exec) {x y : Int32} {o : Int} (hd : decode c.code pc = .ok (.if_icmp .gt o, 3)) (h : y < x) (pc' : Nat) (hp : ((pc : Int) + o).toNat = pc' ∧ 0 ≤ (pc : Int) + o) (K : Go p e below P (T.setTop (mkF m pc' Ls st))) : Go p e below P (T.setTop (mkF m pc Ls (.int y :: .int x :: st))) :=
  Go.mv (fun _ q => XS.icmpYes X.here hx rfl (pc0 := pc) (pc' := pc') rfl hd rfl (tlt h).2.2.1 hp.2 hp.1 q) K
theorem g_icmp_gt_f (X : Stand p l e R s m args below meth c T locs cells slots) (hx : p.tables.exec = Jvm.exec) {x y : Int32} {o : Int} (hd : decode c.code pc = .ok (.if_icmp .gt o, 3)) (h : ¬ y < x) (pc' : Nat) (hp : pc + 3 = pc') (K : Go p e below P (T.setTop (mkF m pc' Ls st))) : Go p e below P (T.setTop (mkF m pc Ls (.int y :: .int x :: st))) := by
  subst hp; exact Go.mv (fun _ q => XS.icmpNo X.here hx rfl hd rfl (flt h).2.2.1 q) K
theorem g_icmp_gt (X : Stand p l e R s m args below meth c T locs cells slots) (hx : p.tables.exec = Jvm.exec) {x y : Int32} {o : Int} (hd : decode c.code pc = .ok (.if_icmp .gt o, 3)) (pcT pcF : Nat) (hT : ((pc : Int) + o).toNat = pcT ∧ 0 ≤ (pc : Int) + o) (hF : pc + 3 = pcF) (KT : (y < x) → Go p e below P (T.setTop (mkF m pcT Ls st))) (KF : (¬ y < x) → Go p e below P (T.setTop (mkF m pcF Ls st))) : Go p e below P (T.setTop (mkF m pc Ls (.int y :: .int x :: st))) := by
  by_cases h : y < x
  · exact g_icmp_gt_t X hx hd h _ hT (KT h)
  · exact g_icmp_gt_f X hx hd h _ hF (KF h)
theorem g_if_gt_t (X : Stand p l e R s m args below meth c T locs cells slots) (hx : p.tables.exec = Jvm.exec) {x : Int32} {o : Int} (hd : decode c.code pc = .ok (.ifCond .gt o, 3)) (h : 0 < x) (pc' : Nat) (hp : ((pc : Int) + o).toNat = pc' ∧ 0 ≤ (pc : Int) + o) (K : Go p e below P (T.setTop (mkF m pc' Ls st))) : Go p e below P (T.setTop (mkF m pc Ls (.int x :: st))) :=
  Go.mv (fun _ q => XS.ifYes X.here hx rfl (pc0 := pc) (pc' := pc') rfl hd rfl ((if0 _ _).trans (tlt h).2.2.1) hp.2 hp.1 q) K
theorem g_if_gt_f (X : Stand p l e R s m args below meth c T locs cells slots) (hx : p.tables.exec = Jvm.exec) {x : Int32} {o : Int} (hd : decode c.code pc = .ok (.ifCond .gt o, 3)) (h : ¬ 0 < x) (pc' : Nat) (hp : pc + 3 = pc') (K : Go p e below P (T.setTop (mkF m pc' Ls st))) : Go p e below P (T.setTop (mkF m pc Ls (.int x :: st))) := by
  subst hp; exact Go.mv (fun _ q => XS.ifNo X.here hx rfl hd rfl ((if0 _ _).trans (flt h).2.2.1) q) K
theorem g_if_gt (X : Stand p l e R s m args below meth c T locs cells slots) (hx : p.tables.exec = Jvm.exec) {x : Int32} {o : Int} (hd : decode c.code pc = .ok (.ifCond .gt o, 3)) (pcT pcF : Nat) (hT : ((pc : Int) + o).toNat = pcT ∧ 0 ≤ (pc : Int) + o) (hF : pc + 3 = pcF) (KT : (0 < x) → Go p e below P (T.setTop (mkF m pcT Ls st))) (KF : (¬ 0 < x) → Go p e below P (T.setTop (mkF m pcF Ls st))) : Go p e below P (T.setTop (mkF m pc Ls (.int x :: st))) := by
  by_cases h : 0 < x
  · exact g_if_gt_t X hx hd h _ hT (KT h)
  · exact g_if_gt_f X hx hd h _ hF (KF h)
theorem g_icmp_le_t (X : Stand p l e R s m args below meth c T locs cells slots) (hx : p.tables.exec = Jvm.exec) {x y : Int32} {o : Int} (hd : decode c.code pc = .ok (.if_icmp .le o, 3)) (h : ¬ y < x) (pc' : Nat) (hp : ((pc : Int) + o).toNat = pc' ∧ 0 ≤ (pc : Int) + o) (K : Go p e below P (T.setTop (mkF m pc' Ls st))) : Go p e below P (T.setTop (mkF m pc Ls (.int y :: .int x :: st))) :=
  Go.mv (fun _ q => XS.icmpYes X.here hx rfl (pc0 := pc) (pc' := pc') rfl hd rfl (flt h).2.2.2 hp.2 hp.1 q) K
theorem g_icmp_le_f (X : Stand p l e R s m args below meth c T locs cells slots) (hx : p.tables.exec = Jvm.exec) {x y : Int32} {o : Int} (hd : decode c.code pc = .ok (.if_icmp .le o, 3)) (h : y < x) (pc' : Nat) (hp : pc + 3 = pc') (K : Go p e below P (T.setTop (mkF m pc' Ls st))) : Go p e below P (T.setTop (mkF m pc Ls (.int y :: .int x :: st))) := by
  subst hp; exact Go.mv (fun _ q => XS.icmpNo X.here hx rfl hd rfl (tlt h).2.2.2 q) K
theorem g_icmp_le (X : Stand p l e R s m args below meth c T locs cells slots) (hx : p.tables.exec = Jvm.exec) {x y : Int32} {o : Int} (hd : decode c.code pc = .ok (.if_icmp .le o, 3)) (pcT pcF : Nat) (hT : ((pc : Int) + o).toNat = pcT ∧ 0 ≤ (pc : Int) + o) (hF : pc + 3 = pcF) (KT : (¬ y < x) → Go p e below P (T.setTop (mkF m pcT Ls st))) (KF : (y < x) → Go p e below P (T.setTop (mkF m pcF Ls st))) : Go p e below P (T.setTop (mkF m pc Ls (.int y :: .int x :: st))) := by
  by_cases h : y < x
  · exact g_icmp_le_f X hx hd h _ hF (KF h)
  · exact g_icmp_le_t X hx hd h _ hT (KT h)
theorem g_if_le_t (X : Stand p l e R s m args below meth c T locs cells slots) (hx : p.tables.exec = Jvm.exec) {x : Int32} {o : Int} (hd : decode c.code pc = .ok (.ifCond .le o, 3)) (h : ¬ 0 < x) (pc' : Nat) (hp : ((pc : Int) + o).toNat = pc' ∧ 0 ≤ (pc : Int) + o) (K : Go p e below P (T.setTop (mkF m pc' Ls st))) : Go p e below P (T.setTop (mkF m pc Ls (.int x :: st))) :=
  Go.mv (fun _ q => XS.ifYes X.here hx rfl (pc0 := pc) (pc' := pc') rfl hd rfl ((if0 _ _).trans (flt h).2.2.2) hp.2 hp.1 q) K
theorem g_if_le_f (X : Stand p l e R s m args below meth c T locs cells slots) (hx : p.tables.exec = Jvm.exec) {x : Int32} {o : Int} (hd : decode c.code pc = .ok (.ifCond .le o, 3)) (h : 0 < x) (pc' : Nat) (hp : pc + 3 = pc') (K : Go p e below P (T.setTop (mkF m pc' Ls st))) : Go p e below P (T.setTop (mkF m pc Ls (.int x :: st))) := by
  subst hp; exact Go.mv (fun _ q => XS.ifNo X.here hx rfl hd rfl ((if0 _ _).trans (tlt h).2.2.2) q) K
theorem g_if_le (X : Stand p l e R s m args below meth c T locs cells slots) (hx : p.tables.exec = Jvm.exec) {x : Int32} {o : Int} (hd : decode c.code pc = .ok (.ifCond .le o, 3)) (pcT pcF : Nat) (hT : ((pc : Int) + o).toNat = pcT ∧ 0 ≤ (pc : Int) + o) (hF : pc + 3 = pcF) (KT : (¬ 0 < x) → Go p e below P (T.setTop (mkF m pcT Ls st))) (KF : (0 < x) → Go p e below P (T.setTop (mkF m pcF Ls st))) : Go p e below P (T.setTop (mkF m pc Ls (.int x :: st))) := by
  by_cases h : 0 < x
  · exact g_if_le_f X hx hd h _ hF (KF h)
  · exact g_if_le_t X hx hd h _ hT (KT h)
theorem g_icmp_eq_t (X : Stand p l e R s m args below meth c T locs cells slots) (hx : p.tables.exec = Jvm.exec) {x y : Int32} {o : Int} (hd : decode c.code pc = .ok (.if_icmp .eq o, 3)) (h : x = y) (pc' : Nat) (hp : ((pc : Int) + o).toNat = pc' ∧ 0 ≤ (pc : Int) + o) (K : Go p e below P (T.setTop (mkF m pc' Ls st))) : Go p e below P (T.setTop (mkF m pc Ls (.int y :: .int x :: st))) :=
  Go.mv (fun _ q => XS.icmpYes X.here hx rfl (pc0 := pc) (pc' := pc') rfl hd rfl (teq h).1 hp.2 hp.1 q) K
theorem g_icmp_eq_f (X : Stand p l e R s m args below meth c T locs cells slots) (hx : p.tables.exec = Jvm.exec) {x y : Int32} {o : Int} (hd : decode c.code pc = .ok (.if_icmp .eq o, 3)) (h : ¬ x = y) (pc' : Nat) (hp : pc + 3 = pc') (K : Go p e below P (T.setTop (mkF m pc' Ls st))) : Go p e below P (T.setTop (mkF m pc Ls (.int y :: .int x :: st))) := by
  subst hp; exact Go.mv (fun _ q => XS.icmpNo X.here hx rfl hd rfl (feq h).1 q) K
theorem g_icmp_eq (X : Stand p l e R s m args below meth c T locs cells slots) (hx : p.tables.exec = Jvm.exec) {x y : Int32} {o : Int} (hd : decode c.code pc = .ok (.if_icmp .eq o, 3)) (pcT pcF : Nat) (hT : ((pc : Int) + o).toNat = pcT ∧ 0 ≤ (pc : Int) + o) (hF : pc + 3 = pcF) (KT : (x = y) → Go p e below P (T.setTop (mkF m pcT Ls st))) (KF : (¬ x = y) → Go p e below P (T.setTop (mkF m pcF Ls st))) : Go p e below P (T.setTop (mkF m pc Ls (.int y :: .int x :: st))) := by
  by_cases h : x = y
  · exact g_icmp_eq_t X hx hd h _ hT (KT h)
  · exact g_icmp_eq_f X hx hd h _ hF (KF h)
theorem g_if_eq_t (X : Stand p l e R s m args below meth c T locs cells slots) (hx : p.tables.exec = Jvm.exec) {x : Int32} {o : Int} (hd : decode c.code pc = .ok (.ifCond .eq o, 3)) (h : x = 0) (pc' : Nat) (hp : ((pc : Int) + o).toNat = pc' ∧ 0 ≤ (pc : Int) + o) (K : Go p e below P (T.setTop (mkF m pc' Ls st))) : Go p e below P (T.setTop (mkF m pc Ls (.int x :: st))) :=
  Go.mv (fun _ q => XS.ifYes X.here hx rfl (pc0 := pc) (pc' := pc') rfl hd rfl ((if0 _ _).trans (teq h).1) hp.2 hp.1 q) K
theorem g_if_eq_f (X : Stand p l e R s m args below meth c T locs cells slots) (hx : p.tables.exec = Jvm.exec) {x : Int32} {o : Int} (hd : decode c.code pc = .ok (.ifCond .eq o, 3)) (h : ¬ x = 0) (pc' : Nat) (hp : pc + 3 = pc') (K : Go p e below P (T.setTop (mkF m pc' Ls st))) : Go p e below P (T.setTop (mkF m pc Ls (.int x :: st))) := by
  subst hp; exact Go.mv (fun _ q => XS.ifNo X.here hx rfl hd rfl ((if0 _ _).trans (feq h).1) q) K
theorem g_if_eq (X : Stand p l e R s m args below meth c T locs cells slots) (hx : p.tables.exec = Jvm.exec) {x : Int32} {o : Int} (hd : decode c.code pc = .ok (.ifCond .eq o, 3)) (pcT pcF : Nat) (hT : ((pc : Int) + o).toNat = pcT ∧ 0 ≤ (pc : Int) + o) (hF : pc + 3 = pcF) (KT : (x = 0) → Go p e below P (T.setTop (mkF m pcT Ls st))) (KF : (¬ x = 0) → Go p e below P (T.setTop (mkF m pcF Ls st))) : Go p e below P (T.setTop (mkF m pc Ls (.int x :: st))) := by
  by_cases h : x = 0
  · exact g_if_eq_t X hx hd h _ hT (KT h)
  · exact g_if_eq_f X hx hd h _ hF (KF h)
theorem g_icmp_ne_t (X : Stand p l e R s m args below meth c T locs cells slots) (hx : p.tables.exec = Jvm.exec) {x y : Int32} {o : Int} (hd : decode c.code pc = .ok (.if_icmp .ne o, 3)) (h : ¬ x = y) (pc' : Nat) (hp : ((pc : Int) + o).toNat = pc' ∧ 0 ≤ (pc : Int) + o) (K : Go p e below P (T.setTop (mkF m pc' Ls st))) : Go p e below P (T.setTop (mkF m pc Ls (.int y :: .int x :: st))) :=
  Go.mv (fun _ q => XS.icmpYes X.here hx rfl (pc0 := pc) (pc' := pc') rfl hd rfl (feq h).2 hp.2 hp.1 q) K
theorem g_icmp_ne_f (X : Stand p l e R s m args below meth c T locs cells slots) (hx : p.tables.exec = Jvm.exec) {x y : Int32} {o : Int} (hd : decode c.code pc = .ok (.if_icmp .ne o, 3)) (h : x = y) (pc' : Nat) (hp : pc + 3 = pc') (K : Go p e below P (T.setTop (mkF m pc' Ls st))) : Go p e below P (T.setTop (mkF m pc Ls (.int y :: .int x :: st))) := by
  subst hp; exact Go.mv (fun _ q => XS.icmpNo X.here hx rfl hd rfl (teq h).2 q) K
theorem g_icmp_ne (X : Stand p l e R s m args below meth c T locs cells slots) (hx : p.tables.exec = Jvm.exec) {x y : Int32} {o : Int} (hd : decode c.code pc = .ok (.if_icmp .ne o, 3)) (pcT pcF : Nat) (hT : ((pc : Int) + o).toNat = pcT ∧ 0 ≤ (pc : Int) + o) (hF : pc + 3 = pcF) (KT : (¬ x = y) → Go p e below P (T.setTop (mkF m pcT Ls st))) (KF : (x = y) → Go p e below P (T.setTop (mkF m pcF Ls st))) : Go p e below P (T.setTop (mkF m pc Ls (.int y :: .int x :: st))) := by
  by_cases h : x = y
  · exact g_icmp_ne_f X hx hd h _ hF (KF h)
  · exact g_icmp_ne_t X hx hd h _ hT (KT h)
theorem g_if_ne_t (X : Stand p l e R s m args below meth c T locs cells slots) (hx : p.tables.exec = Jvm.exec) {x : Int32} {o : Int} (hd : decode c.code pc = .ok (.ifCond .ne o, 3)) (h : ¬ x = 0) (pc' : Nat) (hp : ((pc : Int) + o).toNat = pc' ∧ 0 ≤ (pc : Int) + o) (K : Go p e below P (T.setTop (mkF m pc' Ls st))) : Go p e below P (T.setTop (mkF m pc Ls (.int x :: st))) :=
  Go.mv (fun _ q => XS.ifYes X.here hx rfl (pc0 := pc) (pc' := pc') rfl hd rfl ((if0 _ _).trans (feq h).2) hp.2 hp.1 q) K
theorem g_if_ne_f (X : Stand p l e R s m args below meth c T locs cells slots) (hx : p.tables.exec = Jvm.exec) {x : Int32} {o : Int} (hd : decode c.code pc = .ok (.ifCond .ne o, 3)) (h : x = 0) (pc' : Nat) (hp : pc + 3 = pc') (K : Go p e below P (T.setTop (mkF m pc' Ls st))) : Go p e below P (T.setTop (mkF m pc Ls (.int x :: st))) := by
  subst hp; exact Go.mv (fun _ q => XS.ifNo X.here hx rfl hd rfl ((if0 _ _).trans (teq h).2) q) K
theorem g_if_ne (X : Stand p l e R s m args below meth c T locs cells slots) (hx : p.tables.exec = Jvm.exec) {x : Int32} {o : Int} (hd : decode c.code pc = .ok (.ifCond .ne o, 3)) (pcT pcF : Nat) (hT : ((pc : Int) + o).toNat = pcT ∧ 0 ≤ (pc : Int) + o) (hF : pc + 3 = pcF) (KT : (¬ x = 0) → Go p e below P (T.setTop (mkF m pcT Ls st))) (KF : (x = 0) → Go p e below P (T.setTop (mkF m pcF Ls st))) : Go p e below P (T.setTop (mkF m pc Ls (.int x :: st))) := by
  by_cases h : x = 0
  · exact g_if_ne_f X hx hd h _ hF (KF h)
  · exact g_if_ne_t X hx hd h _ hT (KT h)
theorem g_ifnull_t (X : Stand p l e R s m args below meth c T locs cells slots) (hx : p.tables.exec = Jvm.exec)  {o : Int} (hd : decode c.code pc = .ok (.ifnull o, 3)) (pc' : Nat) (hp : ((pc : Int) + o).toNat = pc' ∧ 0 ≤ (pc : Int) + o) (K : Go p e below P (T.setTop (mkF m pc' Ls st))) : Go p e below P (T.setTop (mkF m pc Ls (.null :: st))) :=
  Go.mv (fun _ q => XS.ifnullYes X.here hx rfl (pc0 := pc) (pc' := pc') rfl hd rfl hp.2 hp.1 q) K
theorem g_ifnull_f (X : Stand p l e R s m args below meth c T locs cells slots) (hx : p.tables.exec = Jvm.exec) {b : Addr} {o : Int} (hd : decode c.code pc = .ok (.ifnull o, 3)) (pc' : Nat) (hp : pc + 3 = pc') (K : Go p e below P (T.setTop (mkF m pc' Ls st))) : Go p e below P (T.setTop (mkF m pc Ls (.ref b :: st))) := by
  subst hp; exact Go.mv (fun _ q => XS.ifnullNo X.here hx rfl hd rfl q) K
theorem g_ifnonnull_t (X : Stand p l e R s m args below meth c T locs cells slots) (hx : p.tables.exec = Jvm.exec) {b : Addr} {o : Int} (hd : decode c.code pc = .ok (.ifnonnull o, 3)) (pc' : Nat) (hp : ((pc : Int) + o).toNat = pc' ∧ 0 ≤ (pc : Int) + o) (K : Go p e below P (T.setTop (mkF m pc' Ls st))) : Go p e below P (T.setTop (mkF m pc Ls (.ref b :: st))) :=
  Go.mv (fun _ q => XS.ifnonnullYes X.here hx rfl (pc0 := pc) (pc' := pc') rfl hd rfl hp.2 hp.1 q) K
theorem g_ifnonnull_f (X : Stand p l e R s m args below meth c T locs cells slots) (hx : p.tables.exec = Jvm.exec)  {o : Int} (hd : decode c.code pc = .ok (.ifnonnull o, 3)) (pc' : Nat) (hp : pc + 3 = pc') (K : Go p e below P (T.setTop (mkF m pc' Ls st))) : Go p e below P (T.setTop (mkF m pc Ls (.null :: st))) := by
  subst hp; exact Go.mv (fun _ q => XS.ifnonnullNo X.here hx rfl hd rfl q) K
theorem g_acmp (X : Stand p l e R s m args below meth c T locs cells slots) (hx : p.tables.exec = Jvm.exec) {cd : ACond} {x y : Value} (h1 : x.isRef = true) (h2 : y.isRef = true) {o : Int} (hd : decode c.code pc = .ok (.if_acmp cd o, 3)) (same : Bool) (hq : decide (x = y) = same) (pc' : Nat) (hp : (pc' = if acV cd same = true then ((pc : Int) + o).toNat else pc + 3) ∧ 0 ≤ (pc : Int) + o) (K : Go p e below P (T.setTop (mkF m pc' Ls st))) : Go p e below P (T.setTop (mkF m pc Ls (y :: x :: st))) :=
  Go.mv (fun _ q => Jvm.RoadKit.acmp (g := mkF m pc Ls (y :: x :: st)) X hx rfl h1 h2 (pc0 := pc) (pc' := pc') (same := same) rfl hd rfl hq hp.2 hp.1 q) K
end Steps
section Laws
variable {p : Program} {l : Launch} {e : Env} {R : Room} {s : State} {m : MethodId} {args : Array Value} {below : List Frame} {meth : Method} {c : Code} {T : State} {locs : List Loc} {cells slots : Nat} {P : Outcome → State → Prop} {pc : Nat} {Ls : Array Slot} {st : List Value} {Z : State} {a0 : Array Value} {h : Heap}
theorem g_getF (X : Stand p l e R s m args below meth c T locs cells slots) (hx : p.tables.exec = Jvm.exec) (hZ : Z.Warmed39 s.vm) {own R0 O n d host : String} {index : Nat} (hown : s.vm.findClass own = some m.cls) (w : (Cond.fieldLink own index R0 n d).before a0 Z = true ∨ (Cond.fieldLinkNest own index R0 n d host).before a0 Z = true) (via : Via Z R0 O n d)
    (eT : T.heap = h) {a : Addr} {v : Value} (F : Fld Z h a O n d v) (hd : decode c.code pc = .ok (.getfield index, 3)) (pc' : Nat) (hp : pc + 3 = pc')
    (K : ∀ T', Stand p l e R s m args below meth c T' locs cells slots → T'.heap = h → Go p e below P (T'.setTop (mkF m pc' Ls (v :: st)))) : Go p e below P (T.setTop (mkF m pc Ls (.ref a :: st))) := by
  subst hp
  obtain ⟨T', X', e', k⟩ := getF X hx hZ hown w via eT F (g := mkF m pc Ls (.ref a :: st)) rfl rfl hd
  exact Go.mv k (K T' X' e')
theorem g_putF (X : Stand p l e R s m args below meth c T locs cells slots) (hx : p.tables.exec = Jvm.exec) (hZ : Z.Warmed39 s.vm) {own R0 O n d host C : String} {index kk : Nat} {ty : FieldType} (hown : s.vm.findClass own = some m.cls) (w : (Cond.fieldLink own index R0 n d).before a0 Z = true ∨ (Cond.fieldLinkNest own index R0 n d host).before a0 Z = true) (via : Via Z R0 O n d)
    (eT : T.heap = h) {a : Addr} {v old : Value} (F : Fld Z h a O n d old) (E : Exa Z h a C) (L : (Cond.lays C O n d).before a0 Z = true ∨ ((Cond.laysFinal C O n d).before a0 Z = true ∧ own = O ∧ meth.name = "<init>")) (wi : (Cond.instantiable C kk).before a0 Z = true)
    (hty : parseFieldDescriptor d = some ty) (hn : narrow ty v = v) (hf : fits ty v = true) (hd : decode c.code pc = .ok (.putfield index, 3)) (pc' : Nat) (hp : pc + 3 = pc')
    (K : ∀ T' h', Stand p l e R s m args below meth c T' (locs ++ [⟨a, Jvm.RoadKit.slotOf Z O n d⟩]) cells slots → T'.heap = h' → Wr h h' a (Jvm.RoadKit.slotOf Z O n d) v → Fld Z h' a O n d v → Exa Z h' a C → Go p e below P (T'.setTop (mkF m pc' Ls st))) : Go p e below P (T.setTop (mkF m pc Ls (v :: .ref a :: st))) := by
  subst hp
  obtain ⟨T', h', X', e', W, k⟩ := putF X hx hZ hown w via eT F E L wi hty hn hf (g := mkF m pc Ls (v :: .ref a :: st)) rfl rfl hd
  exact Go.mv k (K T' h' X' e' W (F.same W) (E.wr W))
theorem g_getS (X : Stand p l e R s m args below meth c T locs cells slots) (hx : p.tables.exec = Jvm.exec) (hZ : Z.Warmed39 s.vm) {own R0 O n d host : String} {index : Nat} (hown : s.vm.findClass own = some m.cls) (w : (Cond.fieldLink own index R0 n d).before a0 Z = true ∨ (Cond.fieldLinkNest own index R0 n d host).before a0 Z = true) (via : Via Z R0 O n d)
    (eT : T.heap = h) {v : Value} (F : Sta Z h O n d v) (hd : decode c.code pc = .ok (.getstatic index, 3)) (pc' : Nat) (hp : pc + 3 = pc')
    (K : ∀ T', Stand p l e R s m args below meth c T' locs cells slots → T'.heap = h → Go p e below P (T'.setTop (mkF m pc' Ls (v :: st)))) : Go p e below P (T.setTop (mkF m pc Ls st)) := by
  subst hp
  obtain ⟨T', X', e', k⟩ := getS2 X hx hZ hown w via eT F (g := mkF m pc Ls st) rfl hd
  exact Go.mv k (K T' X' e')
theorem g_new (X : Stand p l e R s m args below meth c T locs cells slots) (hx : p.tables.exec = Jvm.exec) (hZ : Z.Warmed39 s.vm) {own C : String} {index n : Nat} (hown : s.vm.findClass own = some m.cls) (w : (Cond.classLink own index C).before a0 Z = true) (wi : (Cond.instantiable C n).before a0 Z = true) (wz : (Cond.initialized C).before a0 Z = true) (eT : T.heap = h)
    (hd : decode c.code pc = .ok (.new index, 3)) (hc : cells + 1 ≤ R.cells) (hl : slots + n ≤ R.slots) (pc' : Nat) (hp : pc + 3 = pc')
    (K : ∀ T' h' b, Stand p l e R s m args below meth c T' locs (cells + 1) (slots + n) → T'.heap = h' → Ext h h' → b = h.size → Exa Z h' b C → (∀ {O nm d : String} {ty : FieldType}, Laid Z a0 C O nm d → parseFieldDescriptor d = some ty → Fld Z h' b O nm d (defaultValue ty)) → Go p e below P (T'.setTop (mkF m pc' Ls (.ref b :: st)))) : Go p e below P (T.setTop (mkF m pc Ls st)) := by
  subst hp
  obtain ⟨T', h', X', e', E, A, D, -, k⟩ := newO X hx hZ hown w wi wz eT (g := mkF m pc Ls st) rfl hd hc hl
  exact Go.mv k (K T' h' h.size X' e' E rfl A D)
theorem g_initO (X : Stand p l e R s m args below meth c T locs cells slots) (hx : p.tables.exec = Jvm.exec) (hZ : Z.Warmed39 s.vm) {own : String} {idx : Nat} (hown : s.vm.findClass own = some m.cls) (w1 : (Cond.methodLink own idx Lib.objectInit).before a0 Z = true) (w2 : (Cond.instanceMethod Lib.objectInit).before a0 Z = true)
    (w3 : (Cond.code Lib.objectInit ⟨#[0xb1]⟩ 1 none).before a0 Z = true) (eT : T.heap = h) (hsize : Ls.size = c.maxLocals) {a : Addr} (hd : decode c.code pc = .ok (.invokespecial idx, 3)) (hf : 1 ≤ R.frames) {W : Nat} (hW : (st.map fun v => v.category).sum ≤ W) (hl : W + 12 ≤ R.locals) (pc' : Nat) (hp : pc + 3 = pc')
    (K : ∀ T', Stand p l e R s m args below meth c T' locs cells slots → T'.heap = h → Go p e below P (T'.setTop (mkF m pc' Ls st))) : Go p e below P (T.setTop (mkF m pc Ls (.ref a :: st))) := by
  subst hp
  obtain ⟨T', X', e', k⟩ := initO X hx hZ hown w1 w2 w3 eT (g := mkF m pc Ls (.ref a :: st)) rfl hsize rfl hd hf (W := W) (by show 2 * 0 + _ ≤ _; omega) hl
  exact Go.mv k (K T' X' e')
theorem g_newP (X : Stand p l e R s m args below meth c T locs cells slots) (hx : p.tables.exec = Jvm.exec) (hZ : Z.Warmed39 s.vm) {aty : ArrayType} (w : (Cond.arrayClass (newarray.typeOf aty)).before a0 Z = true) (eT : T.heap = h) (hd : decode c.code pc = .ok (.newarray aty, 2)) {n : Int32}
    (hn : ¬ n < 0) (cap : Nat) (hcap : n.toNatClampNeg ≤ cap) (hb : cap * 8 ≤ 536870912) (hc : cells + 1 ≤ R.cells) (hl : slots + cap ≤ R.slots) (pc' : Nat) (hp : pc + 2 = pc') (ty : FieldType) (hty : newarray.typeOf aty = ty) (vs : List Value) (hvs : ∀ i, vs.getD i (defaultValue ty) = defaultValue ty)
    (K : ∀ T' h' b k, Stand p l e R s m args below meth c T' locs (cells + 1) (slots + cap) → T'.heap = h' → Ext h h' → b = h.size → Arv Z h' b k ty n vs (defaultValue ty) → Go p e below P (T'.setTop (mkF m pc' Ls (.ref b :: st)))) : Go p e below P (T.setTop (mkF m pc Ls (.int n :: st))) := by
  subst hp hty
  obtain ⟨T', h', cA, X', e', E, A, k⟩ := newP X hx hZ w eT (g := mkF m pc Ls (.int n :: st)) rfl hd rfl hn hcap hb hc hl
  exact Go.mv k (K T' h' h.size cA X' e' E rfl ((Arv.new A hn).pad (fun i => by rw [hvs]; simp)))
theorem g_newR (X : Stand p l e R s m args below meth c T locs cells slots) (hx : p.tables.exec = Jvm.exec) (hZ : Z.Warmed39 s.vm) {own C : String} {index : Nat} (hown : s.vm.findClass own = some m.cls) (w1 : (Cond.classLink own index C).before a0 Z = true) (w2 : (Cond.arrayOver (.object C)).before a0 Z = true) (eT : T.heap = h) (hd : decode c.code pc = .ok (.anewarray index, 3)) {n : Int32}
    (hn : ¬ n < 0) (cap : Nat) (hcap : n.toNatClampNeg ≤ cap) (hb : cap * 8 ≤ 536870912) (hc : cells + 1 ≤ R.cells) (hl : slots + cap ≤ R.slots) (pc' : Nat) (hp : pc + 3 = pc') (vs : List Value) (hvs : ∀ i, vs.getD i Value.null = Value.null)
    (K : ∀ T' h' b k, Stand p l e R s m args below meth c T' locs (cells + 1) (slots + cap) → T'.heap = h' → Ext h h' → b = h.size → Arv Z h' b k (.object C) n vs .null → Ovr Z k C → Go p e below P (T'.setTop (mkF m pc' Ls (.ref b :: st)))) : Go p e below P (T.setTop (mkF m pc Ls (.int n :: st))) := by
  subst hp
  obtain ⟨T', h', cA, X', e', E, A, O, k⟩ := newR X hx hZ hown w1 w2 eT (g := mkF m pc Ls (.int n :: st)) rfl hd rfl hn hcap hb hc hl
  exact Go.mv k (K T' h' h.size cA X' e' E rfl ((Arv.new A hn).pad (fun i => by show _ = _; rw [show defaultValue (.object C) = Value.null from rfl, hvs]; simp)) O)
theorem set_pad {vs : List Value} {n : Nat} {dv : Value} : ∀ i, vs.getD i dv = vs.getD i dv := fun _ => rfl
theorem g_stC (X : Stand p l e R s m args below meth c T locs cells slots) (hx : p.tables.exec = Jvm.exec) (hZ : Z.Warmed39 s.vm) (eT : T.heap = h) {a : Addr} {k : ClassId} {z : Int32} {vs : List Value} {dv : Value} (V : Arv Z h a k .char z vs dv) {j : Int32} {x : Int32} (x' : Int32) (hxx : nar .char x = x') (hj : ¬ j < 0 ∧ j < z) (i : Nat) (hji : j.toNatClampNeg = i) (hi : i < vs.length) (vs' : List Value) (hvs : vs.set i (.int x') = vs') (hd : decode c.code pc = .ok (.castore, 1)) (pc' : Nat) (hp : pc + 1 = pc')
    (K : ∀ T' h', Stand p l e R s m args below meth c T' (locs ++ [⟨a, j.toNatClampNeg⟩]) cells slots → T'.heap = h' → Wr h h' a j.toNatClampNeg (.int x') → Arv Z h' a k .char z vs' dv → Go p e below P (T'.setTop (mkF m pc' Ls st))) : Go p e below P (T.setTop (mkF m pc Ls (.int x :: .int j :: .ref a :: st))) := by
  subst hp hxx hvs
  obtain ⟨cl, A, q1, S, N, H, G⟩ := V
  obtain ⟨T', h', X', e', W, kk⟩ := stC X hx hZ eT A (j := j) (inb_of S hj) (g := mkF m pc Ls (.int x :: .int j :: .ref a :: st)) rfl rfl hd
  exact Go.mv kk (K T' h' X' e' W (Arv.set A q1 S N H G (fits_nar_char _) W i hji hi))
theorem g_stB (X : Stand p l e R s m args below meth c T locs cells slots) (hx : p.tables.exec = Jvm.exec) (hZ : Z.Warmed39 s.vm) (eT : T.heap = h) {a : Addr} {k : ClassId} {z : Int32} {vs : List Value} {dv : Value} (V : Arv Z h a k .byte z vs dv) {j : Int32} {x : Int32} (x' : Int32) (hxx : nar .byte x = x') (hj : ¬ j < 0 ∧ j < z) (i : Nat) (hji : j.toNatClampNeg = i) (hi : i < vs.length) (vs' : List Value) (hvs : vs.set i (.int x') = vs') (hd : decode c.code pc = .ok (.bastore, 1)) (pc' : Nat) (hp : pc + 1 = pc')
    (K : ∀ T' h', Stand p l e R s m args below meth c T' (locs ++ [⟨a, j.toNatClampNeg⟩]) cells slots → T'.heap = h' → Wr h h' a j.toNatClampNeg (.int x') → Arv Z h' a k .byte z vs' dv → Go p e below P (T'.setTop (mkF m pc' Ls st))) : Go p e below P (T.setTop (mkF m pc Ls (.int x :: .int j :: .ref a :: st))) := by
  subst hp hxx hvs
  obtain ⟨cl, A, q1, S, N, H, G⟩ := V
  obtain ⟨T', h', X', e', W, kk⟩ := stB X hx hZ eT A (j := j) (inb_of S hj) (g := mkF m pc Ls (.int x :: .int j :: .ref a :: st)) rfl rfl hd
  exact Go.mv kk (K T' h' X' e' W (Arv.set A q1 S N H G (fits_nar_byte _) W i hji hi))
theorem g_stZ (X : Stand p l e R s m args below meth c T locs cells slots) (hx : p.tables.exec = Jvm.exec) (hZ : Z.Warmed39 s.vm) (eT : T.heap = h) {a : Addr} {k : ClassId} {z : Int32} {vs : List Value} {dv : Value} (V : Arv Z h a k .boolean z vs dv) {j : Int32} {x : Int32} (x' : Int32) (hxx : nar .boolean x = x') (hj : ¬ j < 0 ∧ j < z) (i : Nat) (hji : j.toNatClampNeg = i) (hi : i < vs.length) (vs' : List Value) (hvs : vs.set i (.int x') = vs') (hd : decode c.code pc = .ok (.bastore, 1)) (pc' : Nat) (hp : pc + 1 = pc')
    (K : ∀ T' h', Stand p l e R s m args below meth c T' (locs ++ [⟨a, j.toNatClampNeg⟩]) cells slots → T'.heap = h' → Wr h h' a j.toNatClampNeg (.int x') → Arv Z h' a k .boolean z vs' dv → Go p e below P (T'.setTop (mkF m pc' Ls st))) : Go p e below P (T.setTop (mkF m pc Ls (.int x :: .int j :: .ref a :: st))) := by
  subst hp hxx hvs
  obtain ⟨cl, A, q1, S, N, H, G⟩ := V
  obtain ⟨T', h', X', e', W, kk⟩ := stZ X hx hZ eT A (j := j) (inb_of S hj) (g := mkF m pc Ls (.int x :: .int j :: .ref a :: st)) rfl rfl hd
  exact Go.mv kk (K T' h' X' e' W (Arv.set A q1 S N H G (fits_nar_bool _) W i hji hi))
theorem g_stI (X : Stand p l e R s m args below meth c T locs cells slots) (hx : p.tables.exec = Jvm.exec) (hZ : Z.Warmed39 s.vm) (eT : T.heap = h) {a : Addr} {k : ClassId} {z : Int32} {vs : List Value} {dv : Value} (V : Arv Z h a k .int z vs dv) {j : Int32} {x : Int32} (x' : Int32) (hxx : x = x') (hj : ¬ j < 0 ∧ j < z) (i : Nat) (hji : j.toNatClampNeg = i) (hi : i < vs.length) (vs' : List Value) (hvs : vs.set i (.int x') = vs') (hd : decode c.code pc = .ok (.iastore, 1)) (pc' : Nat) (hp : pc + 1 = pc')
    (K : ∀ T' h', Stand p l e R s m args below meth c T' (locs ++ [⟨a, j.toNatClampNeg⟩]) cells slots → T'.heap = h' → Wr h h' a j.toNatClampNeg (.int x') → Arv Z h' a k .int z vs' dv → Go p e below P (T'.setTop (mkF m pc' Ls st))) : Go p e below P (T.setTop (mkF m pc Ls (.int x :: .int j :: .ref a :: st))) := by
  subst hp hxx hvs
  obtain ⟨cl, A, q1, S, N, H, G⟩ := V
  obtain ⟨T', h', X', e', W, kk⟩ := stI X hx hZ eT A (j := j) (inb_of S hj) (g := mkF m pc Ls (.int x :: .int j :: .ref a :: st)) rfl rfl hd
  exact Go.mv kk (K T' h' X' e' W (Arv.set A q1 S N H G (rfl) W i hji hi))
theorem g_stJ (X : Stand p l e R s m args below meth c T locs cells slots) (hx : p.tables.exec = Jvm.exec) (hZ : Z.Warmed39 s.vm) (eT : T.heap = h) {a : Addr} {k : ClassId} {z : Int32} {vs : List Value} {dv : Value} (V : Arv Z h a k .long z vs dv) {j : Int32} {x : Int64} (x' : Int64) (hxx : x = x') (hj : ¬ j < 0 ∧ j < z) (i : Nat) (hji : j.toNatClampNeg = i) (hi : i < vs.length) (vs' : List Value) (hvs : vs.set i (.long x') = vs') (hd : decode c.code pc = .ok (.lastore, 1)) (pc' : Nat) (hp : pc + 1 = pc')
    (K : ∀ T' h', Stand p l e R s m args below meth c T' (locs ++ [⟨a, j.toNatClampNeg⟩]) cells slots → T'.heap = h' → Wr h h' a j.toNatClampNeg (.long x') → Arv Z h' a k .long z vs' dv → Go p e below P (T'.setTop (mkF m pc' Ls st))) : Go p e below P (T.setTop (mkF m pc Ls (.long x :: .int j :: .ref a :: st))) := by
  subst hp hxx hvs
  obtain ⟨cl, A, q1, S, N, H, G⟩ := V
  obtain ⟨T', h', X', e', W, kk⟩ := stJ X hx hZ eT A (j := j) (inb_of S hj) (g := mkF m pc Ls (.long x :: .int j :: .ref a :: st)) rfl rfl hd
  exact Go.mv kk (K T' h' X' e' W (Arv.set A q1 S N H G (rfl) W i hji hi))
theorem g_stR (X : Stand p l e R s m args below meth c T locs cells slots) (hx : p.tables.exec = Jvm.exec) (hZ : Z.Warmed39 s.vm) (eT : T.heap = h) {a : Addr} {k : ClassId} {z : Int32} {C : String} {vs : List Value} {dv : Value} (V : Arv Z h a k (.object C) z vs dv) {j : Int32} {x : Value} (hr : x.isRef = true) (hs : Sto Z h a x) (hj : ¬ j < 0 ∧ j < z) (i : Nat) (hji : j.toNatClampNeg = i) (hi : i < vs.length) (vs' : List Value) (hvs : vs.set i x = vs') (hd : decode c.code pc = .ok (.aastore, 1)) (pc' : Nat) (hp : pc + 1 = pc')
    (K : ∀ T' h', Stand p l e R s m args below meth c T' (locs ++ [⟨a, j.toNatClampNeg⟩]) cells slots → T'.heap = h' → Wr h h' a j.toNatClampNeg x → Arv Z h' a k (.object C) z vs' dv → Go p e below P (T'.setTop (mkF m pc' Ls st))) : Go p e below P (T.setTop (mkF m pc Ls (x :: .int j :: .ref a :: st))) := by
  subst hp hvs
  obtain ⟨cl, A, q1, S, N, H, G⟩ := V
  obtain ⟨T', h', X', e', W, kk⟩ := stR X hx hZ eT A (j := j) (inb_of S hj) rfl hs (g := mkF m pc Ls (x :: .int j :: .ref a :: st)) rfl rfl hd
  exact Go.mv kk (K T' h' X' e' W (Arv.set A q1 S N H G (by rcases ref_cases hr with rfl | ⟨_, rfl⟩ <;> rfl) W i hji hi))
theorem g_alen (X : Stand p l e R s m args below meth c T locs cells slots) (hx : p.tables.exec = Jvm.exec) (hZ : Z.Warmed39 s.vm) (eT : T.heap = h) {a : Addr} {k : ClassId} {ty : FieldType} {z : Int32} {vs : List Value} {dv : Value} (V : Arv Z h a k ty z vs dv) (hd : decode c.code pc = .ok (.arraylength, 1)) (pc' : Nat) (hp : pc + 1 = pc')
    (K : Go p e below P (T.setTop (mkF m pc' Ls (.int z :: st)))) : Go p e below P (T.setTop (mkF m pc Ls (.ref a :: st))) := by
  subst hp
  obtain ⟨cl, A, q1, S, N, H, G⟩ := V
  refine Go.mv (X.arraylength hx (by rw [eT]; exact A.1) (State.isArrayOf_alike hZ.alike A.2.1) (g := mkF m pc Ls (.ref a :: st)) rfl rfl hd) ?_
  rw [len_of S N]; exact K
theorem g_ldC (X : Stand p l e R s m args below meth c T locs cells slots) (hx : p.tables.exec = Jvm.exec) (hZ : Z.Warmed39 s.vm) (eT : T.heap = h) {a : Addr} {k : ClassId} {z : Int32} {vs : List Value} {dv : Value} (V : Arv Z h a k .char z vs dv) {j : Int32} (hj : ¬ j < 0 ∧ j < z) (v : Int32) (hv : vs.getD j.toNatClampNeg dv = .int v) (hd : decode c.code pc = .ok (.caload, 1)) (pc' : Nat) (hp : pc + 1 = pc')
    (K : Go p e below P (T.setTop (mkF m pc' Ls (.int v :: st)))) : Go p e below P (T.setTop (mkF m pc Ls (.int j :: .ref a :: st))) := by
  subst hp
  obtain ⟨cl, A, q1, S, N, H, G⟩ := V
  exact Go.mv (X.caload hx (j := j) (v := .int v) (by rw [eT]; exact A.1) (State.isArrayOf_alike hZ.alike A.2.1)  A.2.2 (inb_of S hj) (H.at (inb_of S hj) hv) (g := mkF m pc Ls (.int j :: .ref a :: st)) rfl rfl hd) K
theorem g_ldB (X : Stand p l e R s m args below meth c T locs cells slots) (hx : p.tables.exec = Jvm.exec) (hZ : Z.Warmed39 s.vm) (eT : T.heap = h) {a : Addr} {k : ClassId} {z : Int32} {vs : List Value} {dv : Value} (V : Arv Z h a k .byte z vs dv) {j : Int32} (hj : ¬ j < 0 ∧ j < z) (v : Int32) (hv : vs.getD j.toNatClampNeg dv = .int v) (hd : decode c.code pc = .ok (.baload, 1)) (pc' : Nat) (hp : pc + 1 = pc')
    (K : Go p e below P (T.setTop (mkF m pc' Ls (.int v :: st)))) : Go p e below P (T.setTop (mkF m pc Ls (.int j :: .ref a :: st))) := by
  subst hp
  obtain ⟨cl, A, q1, S, N, H, G⟩ := V
  exact Go.mv (X.baloadBytes hx (j := j) (v := .int v) (by rw [eT]; exact A.1) (State.isArrayOf_alike hZ.alike A.2.1)  A.2.2 (inb_of S hj) (H.at (inb_of S hj) hv) (g := mkF m pc Ls (.int j :: .ref a :: st)) rfl rfl hd) K
theorem g_ldI (X : Stand p l e R s m args below meth c T locs cells slots) (hx : p.tables.exec = Jvm.exec) (hZ : Z.Warmed39 s.vm) (eT : T.heap = h) {a : Addr} {k : ClassId} {z : Int32} {vs : List Value} {dv : Value} (V : Arv Z h a k .int z vs dv) {j : Int32} (hj : ¬ j < 0 ∧ j < z) (v : Int32) (hv : vs.getD j.toNatClampNeg dv = .int v) (hd : decode c.code pc = .ok (.iaload, 1)) (pc' : Nat) (hp : pc + 1 = pc')
    (K : Go p e below P (T.setTop (mkF m pc' Ls (.int v :: st)))) : Go p e below P (T.setTop (mkF m pc Ls (.int j :: .ref a :: st))) := by
  subst hp
  obtain ⟨cl, A, q1, S, N, H, G⟩ := V
  exact Go.mv (X.iaload hx (j := j) (v := .int v) (by rw [eT]; exact A.1) (State.isArrayOf_alike hZ.alike A.2.1)  A.2.2 (inb_of S hj) (H.at (inb_of S hj) hv) (g := mkF m pc Ls (.int j :: .ref a :: st)) rfl rfl hd) K
theorem g_ldJ (X : Stand p l e R s m args below meth c T locs cells slots) (hx : p.tables.exec = Jvm.exec) (hZ : Z.Warmed39 s.vm) (eT : T.heap = h) {a : Addr} {k : ClassId} {z : Int32} {vs : List Value} {dv : Value} (V : Arv Z h a k .long z vs dv) {j : Int32} (hj : ¬ j < 0 ∧ j < z) (v : Int64) (hv : vs.getD j.toNatClampNeg dv = .long v) (hd : decode c.code pc = .ok (.laload, 1)) (pc' : Nat) (hp : pc + 1 = pc')
    (K : Go p e below P (T.setTop (mkF m pc' Ls (.long v :: st)))) : Go p e below P (T.setTop (mkF m pc Ls (.int j :: .ref a :: st))) := by
  subst hp
  obtain ⟨cl, A, q1, S, N, H, G⟩ := V
  exact Go.mv (X.laload hx (j := j) (v := .long v) (by rw [eT]; exact A.1) (State.isArrayOf_alike hZ.alike A.2.1)  A.2.2 (inb_of S hj) (H.at (inb_of S hj) hv) (g := mkF m pc Ls (.int j :: .ref a :: st)) rfl rfl hd) K
theorem g_ldR (X : Stand p l e R s m args below meth c T locs cells slots) (hx : p.tables.exec = Jvm.exec) (hZ : Z.Warmed39 s.vm) (eT : T.heap = h) {a : Addr} {k : ClassId} {z : Int32} {C : String} {vs : List Value} {dv : Value} (V : Arv Z h a k (.object C) z vs dv) {j : Int32} (hj : ¬ j < 0 ∧ j < z) (v : Value) (hv : vs.getD j.toNatClampNeg dv = v) (hd : decode c.code pc = .ok (.aaload, 1)) (pc' : Nat) (hp : pc + 1 = pc')
    (K : Go p e below P (T.setTop (mkF m pc' Ls (v :: st)))) : Go p e below P (T.setTop (mkF m pc Ls (.int j :: .ref a :: st))) := by
  subst hp
  obtain ⟨cl, A, q1, S, N, H, G⟩ := V
  exact Go.mv (X.aaload hx (j := j) (v := v) (by rw [eT]; exact A.1) (State.isArrayOf_alike hZ.alike A.2.1) rfl A.2.2 (inb_of S hj) (H.at (inb_of S hj) hv) (g := mkF m pc Ls (.int j :: .ref a :: st)) rfl rfl hd) K
theorem g_castY (X : Stand p l e R s m args below meth c T locs cells slots) (hx : p.tables.exec = Jvm.exec) (hZ : Z.Warmed39 s.vm) {own K0 : String} {index : Nat} (hown : s.vm.findClass own = some m.cls) (w : (Cond.classLink own index K0).before a0 Z = true) (eT : T.heap = h) {a : Addr} (F : Ins Z h a K0 true) (hd : decode c.code pc = .ok (.checkcast index, 3)) (pc' : Nat) (hp : pc + 3 = pc')
    (K : ∀ T', Stand p l e R s m args below meth c T' locs cells slots → T'.heap = h → Go p e below P (T'.setTop (mkF m pc' Ls (.ref a :: st)))) : Go p e below P (T.setTop (mkF m pc Ls (.ref a :: st))) := by
  subst hp
  obtain ⟨T', X', e', k⟩ := castY X hx hZ hown w eT F (g := mkF m pc Ls (.ref a :: st)) rfl rfl hd
  exact Go.mv k (K T' X' e')
theorem g_instY (X : Stand p l e R s m args below meth c T locs cells slots) (hx : p.tables.exec = Jvm.exec) (hZ : Z.Warmed39 s.vm) {own K0 : String} {index : Nat} (hown : s.vm.findClass own = some m.cls) (w : (Cond.classLink own index K0).before a0 Z = true) (eT : T.heap = h) {a : Addr} (F : Ins Z h a K0 true) (hd : decode c.code pc = .ok (.instanceof index, 3)) (pc' : Nat) (hp : pc + 3 = pc')
    (K : ∀ T', Stand p l e R s m args below meth c T' locs cells slots → T'.heap = h → Go p e below P (T'.setTop (mkF m pc' Ls (.int 1 :: st)))) : Go p e below P (T.setTop (mkF m pc Ls (.ref a :: st))) := by
  subst hp
  obtain ⟨T', X', e', k⟩ := instY X hx hZ hown w eT F (g := mkF m pc Ls (.ref a :: st)) rfl rfl hd
  exact Go.mv k (K T' X' e')
/-- a static call by a payer of the house's form -/
theorem g_callS (X : Stand p l e R s m args below meth c T locs cells slots) (hx : p.tables.exec = Jvm.exec) {own : String} {index : Nat} {y : MethodName} {bytes : ByteArray} {maxL : Nat} {ret : Option FieldType}
    (hown : s.vm.findClass own = some m.cls) (hlink : (Cond.methodLink own index y).before args s = true) (hstat : (Cond.static y).before args s = true) (hinit : (Cond.initialized y.cls).before args s = true)
    (hcode : (Cond.code y bytes maxL ret).before args s = true) (hy : y.cls ≠ "java/lang/invoke/MethodHandle" ∧ y.cls ≠ "java/lang/invoke/VarHandle")
    {W rc rs : Nat} (argsL : List Value) {Q : Option Value → Heap → List Loc → Prop} (hK : Back l R p e below s args y 3 W (fun A a => a = argsL.toArray ∧ A.U.heap = h ∧ A.cells + rc ≤ R.cells ∧ A.slots + rs ≤ R.slots) (fun A _ v B => ∃ L, Q v B.U.heap L ∧ B.locs = A.locs ++ L ∧ B.cells = A.cells + rc ∧ B.slots = A.slots + rs))
    (eT : T.heap = h) (hsize : Ls.size = c.maxLocals) (rest : List Value) (hlen : ∀ sig, parseMethodDescriptor y.desc = some sig → argsL.length = sig.parameters.length)
    (hstack : st = argsL.reverse ++ rest) (hW : (rest.map fun v => v.category).sum ≤ W) (hd : decode c.code pc = .ok (.invokestatic index, 3)) (hc : cells + rc ≤ R.cells) (hl : slots + rs ≤ R.slots) (pc' : Nat) (hp : pc + 3 = pc')
    (K : ∀ v T' L, Stand p l e R s m args below meth c T' (locs ++ L) (cells + rc) (slots + rs) → Q v T'.heap L → Go p e below P (T'.setTop (mkF m pc' Ls (v.toList ++ rest)))) : Go p e below P (T.setTop (mkF m pc Ls st)) := by
  subst hp
  obtain ⟨v, vm, ⟨T', L', k', n'⟩, -, X', ⟨Lc, hQ, l1, y1, z1⟩, k⟩ := Jvm.LawKit.callS X hx (y := y) hown hlink hstat hinit hcode hy hK (g := mkF m pc Ls st) rfl hsize (argsL := argsL) (rest := rest) hlen hstack (by show 2 * 0 + _ ≤ _; omega) hd (fun _ _ => ⟨rfl, eT, hc, hl⟩)
  dsimp only [Pt.U, Pt.locs, Pt.cells, Pt.slots] at X' l1 y1 z1 k hQ
  subst l1 y1 z1
  exact Go.mv k (K v T' Lc X' hQ)
theorem g_special (X : Stand p l e R s m args below meth c T locs cells slots) (hx : p.tables.exec = Jvm.exec) {own : String} {index : Nat} {y : MethodName} (hy1 : y.name = "<init>")
    (hown : s.vm.findClass own = some m.cls) (hlink : (Cond.methodLink own index y).before args s = true) (hinst : (Cond.instanceMethod y).before args s = true)
    {bytes : ByteArray} {maxL : Nat} (hcode : (Cond.code y bytes maxL none).before args s = true) (hy : y.cls ≠ "java/lang/invoke/MethodHandle" ∧ y.cls ≠ "java/lang/invoke/VarHandle")
    {W rc rs : Nat} {a : Addr} (argsL : List Value) {Q : Option Value → Heap → List Loc → Prop} (hK : Back l R p e below s args y 3 W (fun A b => b = (.ref a :: argsL).toArray ∧ A.U.heap = h ∧ A.cells + rc ≤ R.cells ∧ A.slots + rs ≤ R.slots) (fun A _ v B => ∃ L, Q v B.U.heap L ∧ B.locs = A.locs ++ L ∧ B.cells = A.cells + rc ∧ B.slots = A.slots + rs))
    (eT : T.heap = h) (hsize : Ls.size = c.maxLocals) (rest : List Value) (hlen : ∀ sig, parseMethodDescriptor y.desc = some sig → argsL.length = sig.parameters.length)
    (hstack : st = argsL.reverse ++ .ref a :: rest) (hW : (rest.map fun v => v.category).sum ≤ W) (hd : decode c.code pc = .ok (.invokespecial index, 3)) (hc : cells + rc ≤ R.cells) (hl : slots + rs ≤ R.slots) (pc' : Nat) (hp : pc + 3 = pc')
    (K : ∀ v T' L, Stand p l e R s m args below meth c T' (locs ++ L) (cells + rc) (slots + rs) → Q v T'.heap L → Go p e below P (T'.setTop (mkF m pc' Ls (v.toList ++ rest)))) : Go p e below P (T.setTop (mkF m pc Ls st)) := by
  subst hp
  obtain ⟨v, vm, ⟨T', L', k', n'⟩, -, X', ⟨Lc, hQ, l1, y1, z1⟩, k⟩ := X.specialBack hx (y := y) hy1 hown hlink hinst hcode hy hK (g := mkF m pc Ls st) rfl hsize (Steps.refl _) (a := a) (argsL := argsL) (rest := rest) hlen hstack (by show 2 * 0 + _ ≤ _; omega) hd (fun _ _ => ⟨rfl, eT, hc, hl⟩)
  dsimp only [Pt.U, Pt.locs, Pt.cells, Pt.slots] at X' l1 y1 z1 k hQ
  subst l1 y1 z1
  exact Go.tr k (K v T' Lc X' hQ)
theorem g_virtual (X : Stand p l e R s m args below meth c T locs cells slots) (hx : p.tables.exec = Jvm.exec) (hZ : Z.Warmed39 s.vm) {own C : String} {index : Nat} {y z : MethodName}
    (hown : s.vm.findClass own = some m.cls) (hlink : (Cond.methodLink own index y).before args s = true) (hdecl : (Cond.declares y).before args s = true) (hnf : NotFace s y)
    (hsel : (Cond.selects C y z).before args s = true) (hinst : (Cond.instanceMethod z).before args s = true) (hy : y.cls ≠ "java/lang/invoke/MethodHandle" ∧ y.cls ≠ "java/lang/invoke/VarHandle")
    {W rc rs : Nat} {a : Addr} (argsL : List Value) {Q : Option Value → Heap → List Loc → Prop} (hK : Back l R p e below s args z 3 W (fun A b => b = (.ref a :: argsL).toArray ∧ A.U.heap = h ∧ A.cells + rc ≤ R.cells ∧ A.slots + rs ≤ R.slots) (fun A _ v B => ∃ L, Q v B.U.heap L ∧ B.locs = A.locs ++ L ∧ B.cells = A.cells + rc ∧ B.slots = A.slots + rs))
    (E : Exa Z h a C) (eT : T.heap = h) (hsize : Ls.size = c.maxLocals) (rest : List Value) (hlen : ∀ sig, parseMethodDescriptor y.desc = some sig → argsL.length = sig.parameters.length)
    (hstack : st = argsL.reverse ++ .ref a :: rest) (hW : (rest.map fun v => v.category).sum ≤ W) (hd : decode c.code pc = .ok (.invokevirtual index, 3)) (hc : cells + rc ≤ R.cells) (hl : slots + rs ≤ R.slots) (pc' : Nat) (hp : pc + 3 = pc')
    (K : ∀ v T' L, Stand p l e R s m args below meth c T' (locs ++ L) (cells + rc) (slots + rs) → Q v T'.heap L → Go p e below P (T'.setTop (mkF m pc' Ls (v.toList ++ rest)))) : Go p e below P (T.setTop (mkF m pc Ls st)) := by
  subst hp
  obtain ⟨cq, kq, qa, qb, qc⟩ := isOf hZ eT E
  obtain ⟨v, vm, ⟨T', L', k', n'⟩, -, X', ⟨Lc, hQ, l1, y1, z1⟩, k⟩ := X.virtualBack hx (y := y) (z := z) hown hlink hdecl hnf hsel hinst hy hK qa qc (g := mkF m pc Ls st) rfl hsize (Steps.refl _) (argsL := argsL) (rest := rest) hlen hstack (by show 2 * 0 + _ ≤ _; omega) hd (fun _ _ => ⟨rfl, eT, hc, hl⟩)
  dsimp only [Pt.U, Pt.locs, Pt.cells, Pt.slots] at X' l1 y1 z1 k hQ
  subst l1 y1 z1
  exact Go.tr k (K v T' Lc X' hQ)
theorem g_private (X : Stand p l e R s m args below meth c T locs cells slots) (hx : p.tables.exec = Jvm.exec) (hZ : Z.Warmed39 s.vm) {own C : String} {index : Nat} {y : MethodName} {bytes : ByteArray} {maxL : Nat} {ret : Option FieldType}
    (hown : s.vm.findClass own = some m.cls) (hlink : (Cond.methodLink own index y).before args s = true) (hinst : (Cond.instanceMethod y).before args s = true) (hsel : (Cond.selects y.cls y y).before args s = true)
    (hpriv : (Cond.privateMethod y).before a0 Z = true) (hcode : (Cond.code y bytes maxL ret).before args s = true) (hy : y.cls ≠ "java/lang/invoke/MethodHandle" ∧ y.cls ≠ "java/lang/invoke/VarHandle")
    {W rc rs : Nat} {a : Addr} (argsL : List Value) {Q : Option Value → Heap → List Loc → Prop} (hK : Back l R p e below s args y 3 W (fun A b => b = (.ref a :: argsL).toArray ∧ A.U.heap = h ∧ A.cells + rc ≤ R.cells ∧ A.slots + rs ≤ R.slots) (fun A _ v B => ∃ L, Q v B.U.heap L ∧ B.locs = A.locs ++ L ∧ B.cells = A.cells + rc ∧ B.slots = A.slots + rs))
    (E : Exa Z h a C) (eT : T.heap = h) (hsize : Ls.size = c.maxLocals) (rest : List Value) (hlen : ∀ sig, parseMethodDescriptor y.desc = some sig → argsL.length = sig.parameters.length)
    (hstack : st = argsL.reverse ++ .ref a :: rest) (hW : (rest.map fun v => v.category).sum ≤ W) (hd : decode c.code pc = .ok (.invokevirtual index, 3)) (hc : cells + rc ≤ R.cells) (hl : slots + rs ≤ R.slots) (pc' : Nat) (hp : pc + 3 = pc')
    (K : ∀ v T' L, Stand p l e R s m args below meth c T' (locs ++ L) (cells + rc) (slots + rs) → Q v T'.heap L → Go p e below P (T'.setTop (mkF m pc' Ls (v.toList ++ rest)))) : Go p e below P (T.setTop (mkF m pc Ls st)) := by
  subst hp
  obtain ⟨cq, q1, q2⟩ := E.cell
  obtain ⟨v, vm, ⟨T', L', k', n'⟩, -, X', ⟨Lc, hQ, l1, y1, z1⟩, k⟩ := X.privateBack hx (y := y) hown hlink hinst hsel (Cond.privateMethod_at (mvP hZ hpriv (args := #[]))) hcode hy hK (g := mkF m pc Ls st) rfl hsize (Steps.refl _) (a := a) (by rw [eT]; exact q1) q2 (argsL := argsL) (rest := rest) hlen hstack (by show 2 * 0 + _ ≤ _; omega) hd (fun _ _ => ⟨rfl, eT, hc, hl⟩)
  dsimp only [Pt.U, Pt.locs, Pt.cells, Pt.slots] at X' l1 y1 z1 k hQ
  subst l1 y1 z1
  exact Go.tr k (K v T' Lc X' hQ)
/-- the end of a body: what it owes -/
def End (s : State) (Q : Option Value → Heap → List Loc → Prop) (C N : Nat) (o : Outcome) (t : State) : Prop := ∃ v L, o = .returned v ∧ Q v t.heap L ∧ FrameEnd s o t L C N
theorem g_ret (X : Stand p l e R s m args below meth c T locs cells slots) (hx : p.tables.exec = Jvm.exec) {t : FieldType} {v : Value} {i : Instr} (hret : meth.sig.returnType = some t) (hlocks : meth.locks = false) (hn : narrow t v = v)
    (hi : (i = .ireturn ∧ (t = .int ∨ t = .boolean ∨ t = .byte ∨ t = .char ∨ t = .short) ∧ ∃ z, v = .int z) ∨ (i = .lreturn ∧ t = .long ∧ ∃ z, v = .long z) ∨ (i = .dreturn ∧ t = .double ∧ ∃ z, v = .double z) ∨ (i = .freturn ∧ t = .float ∧ ∃ z, v = .float z) ∨ (i = .areturn ∧ t.isReference = true ∧ v.isRef = true))
    (hd : decode c.code pc = .ok (i, 1)) {Q : Option Value → Heap → List Loc → Prop} {C N : Nat} (hC : cells ≤ C) (hN : slots ≤ N) (eT : T.heap = h) (hQ : Q (some v) h locs) : Go p e below (End s Q C N) (T.setTop (mkF m pc Ls (v :: st))) := by
  obtain ⟨fs, hr, hrun, hended, hW, hsame⟩ := X.leave (v := some v) (fun h => by rw [hret] at h; cases h) hlocks
  exact ⟨_, _, retOut X hx hret hn hi hd hr, hrun, hended, _, _, rfl, by show Q _ T.heap _; rw [eT]; exact hQ, ⟨_, rfl⟩, hW, hsame.mono hC hN⟩
theorem g_retV (X : Stand p l e R s m args below meth c T locs cells slots) (hx : p.tables.exec = Jvm.exec) (hret : meth.sig.returnType = none) (hlocks : meth.locks = false)
    (hd : decode c.code pc = .ok (.return_, 1)) {Q : Option Value → Heap → List Loc → Prop} {C N : Nat} (hC : cells ≤ C) (hN : slots ≤ N) (eT : T.heap = h) (hQ : Q none h locs) : Go p e below (End s Q C N) (T.setTop (mkF m pc Ls [])) := by
  obtain ⟨fs, hr, hrun, hended, hW, hsame⟩ := X.leave (v := none) (fun _ => rfl) hlocks
  exact ⟨_, _, X.returnOut hx hret hd hr, hrun, hended, _, _, rfl, by show Q _ T.heap _; rw [eT]; exact hQ, ⟨_, rfl⟩, hW, hsame.mono hC hN⟩
end Laws
end Jvm.Own
namespace Jvm.Own
open Jvm Sem ClassFile Op Lib Jvm.Stand Jvm.Free Jvm.LawKit Jvm.RoadKit
theorem isref {v : Value} (h : v.isRef = true) : v = .null ∨ ∃ a, v = .ref a := by
  cases v <;> first | exact Or.inl rfl | exact Or.inr ⟨_, rfl⟩ | exact nomatch h
theorem mask255 (x : Int32) : (x &&& 255) = Int32.ofNat (x &&& 255).toBitVec.toNat ∧ (x &&& 255).toBitVec.toNat < 256 := by
  constructor
  · apply Int32.toBitVec_inj.mp
    show _ = BitVec.ofNat 32 _
    rw [BitVec.ofNat_toNat]; simp
  · simp only [Int32.toBitVec_and, BitVec.toNat_and]
    exact Nat.lt_succ_of_le Nat.and_le_right
theorem lat255 (x : Int32) : ¬ (x &&& 255) < 0 ∧ ¬ (255 : Int32) < (x &&& 255) := by
  have t : ∀ k : Fin 256, ¬ (Int32.ofNat k.val) < 0 ∧ ¬ (255 : Int32) < (Int32.ofNat k.val) := by decide +kernel
  obtain ⟨e, h⟩ := mask255 x
  rw [e]
  exact t ⟨_, h⟩
theorem c255 (x : Int32) : (x &&& 255).toUInt32.toUInt16.toUInt32.toInt32 = x &&& 255 := i2c_mask x
theorem nar255 (x : Int32) : nar .char (x &&& 255) = x &&& 255 := i2c_mask x
theorem narc255 (x : Int32) : nar .char ((x &&& 255).toUInt32.toUInt16.toUInt32.toInt32) = x &&& 255 := by rw [c255]; exact nar255 x
theorem mem1 {P : Int32 → Prop} {a : Int32} (ha : P a) : ∀ c ∈ ([a] : List Int32), P c := fun c hc => by cases List.mem_singleton.mp hc; exact ha
theorem mem2 {P : Int32 → Prop} {a b : Int32} (ha : P a) (hb : P b) : ∀ c ∈ ([a, b] : List Int32), P c := fun c hc => by
  simp only [List.mem_cons, List.not_mem_nil, or_false] at hc
  rcases hc with rfl | rfl
  · exact ha
  · exact hb
/-- a contract's payer -/
theorem back {p : Program} {l : Launch} {e : Env} {R : Room} {s : State} {args : Array Value} {below : List Frame} {Z : State} {a0 : Array Value} {h : Heap} {y : MethodName} {bytes : ByteArray} {maxL : Nat} {ret : Option FieldType} {rm : Room} {len W : Nat} {as' : Array Value} {Q : Option Value → Heap → List Loc → Prop}
    (hM : MetFree l y (head1 [Cond.code y bytes maxL ret] rm) (fun a U => a = as' ∧ Z.Warmed39 U.vm ∧ U.heap = h) (fun _ _ _ _ _ => True) (fun _ U o U' => End U Q rm.cells rm.slots o U'))
    (hZ : Z.Warmed39 s.vm) (wc : (Cond.code y bytes maxL ret).before a0 Z = true) (wz : (Cond.initialized y.cls).before a0 Z = true) (hf : rm.frames + 1 ≤ R.frames) (hl : W + (maxL + 11) + rm.locals ≤ R.locals) :
    Back l R p e below s args y len W (fun A a => a = as' ∧ A.U.heap = h ∧ A.cells + rm.cells ≤ R.cells ∧ A.slots + rm.slots ≤ R.slots)
      (fun A _ v B => ∃ L, Q v B.U.heap L ∧ B.locs = A.locs ++ L ∧ B.cells = A.cells + rm.cells ∧ B.slots = A.slots + rm.slots) := backOf (Q := Q) hM hZ wc wz hf hl
end Jvm.Own
namespace Jvm.Own
open Jvm Sem ClassFile Op Lib Jvm.Stand Jvm.Free Jvm.LawKit Jvm.RoadKit
/-- what equals leaves -/
def QEq (h : Heap) (cs ds : List Int32) (v : Option Value) (h' : Heap) (L : List Loc) : Prop := ((v = some (.int 1) ∧ cs = ds) ∨ (v = some (.int 0) ∧ ¬ cs = ds)) ∧ L = [] ∧ h' = h
/-- a value, the heap as it was -/
def QVal (h : Heap) (r : Value) (v : Option Value) (h' : Heap) (L : List Loc) : Prop := v = some r ∧ L = [] ∧ h' = h
section Start
variable {s : State} {args : Array Value}
theorem start_len {t : Term} {a : Addr} {cl : Cell} {n : Int32} (h : (Cond.eq (Term.length t) (Term.int n)).value args s none s [] = some true) (ht : t.eval args s none [] s = some (.ref a)) (hc : s.heap[a]? = some cl) : cl.slots.size < 2 ^ 31 ∧ cl.slots.size.toInt32 = n := by
  obtain ⟨x, y, e1, e2, -, -⟩ := cmp_v (Or.inl h)
  obtain ⟨a', c', q1, q2, rfl⟩ := Term.length_spec e1
  cases ht.symm.trans q1
  cases hc.symm.trans (State.arrayAt?_spec q2).1
  have e3 := gotT (Cond.eq_ints e1 (Term.int_eval n)) h
  refine ⟨?_, e3⟩
  simp only [Term.eval, ht, q2, Option.bind_eq_bind, Option.bind_some] at e1
  split at e1
  · assumption
  · cases e1
theorem start_elem {t u : Term} {a : Addr} {cl : Cell} {i : Int32} {v : Value} (h : (Cond.eq (Term.elem t (Term.int i)) u).value args s none s [] = some true) (ht : t.eval args s none [] s = some (.ref a)) (hc : s.heap[a]? = some cl) (hu : u.eval args s none [] s = some v) : cl.slots[i.toNatClampNeg]? = some v := by
  obtain ⟨x, y, e1, e2, -, -⟩ := cmp_v (Or.inl h)
  cases hu.symm.trans e2
  have e3 := (elem_in e1 ht (Term.int_eval i) hc).2
  have e4 : x = v := by
    simp only [Cond.value, e1, e2] at h
    cases x <;> cases v <;> simp_all
  rw [e3, e4]
theorem start_int {t : Term} {n : Int32} (h : (Cond.eq t (Term.int n)).value args s none s [] = some true) : t.eval args s none [] s = some (.int n) := by
  obtain ⟨x, y, e1, e2, -, -⟩ := cmp_v (Or.inl h)
  cases (Term.int_eval n).symm.trans e2
  simp only [Cond.value, e1, e2] at h
  cases x <;> simp_all
theorem start_arv (hf : Fit s) {t : Term} {a : Addr} {ty : FieldType} (ha : (Cond.arrayOf t ty).value args s none s [] = some true) (ht : t.eval args s none [] s = some (.ref a)) {n : Int32} (hl : (Cond.eq (Term.length t) (Term.int n)).value args s none s [] = some true) (hn : ¬ n < 0) (vs : List Value) (hvl : n.toNatClampNeg = vs.length)
    (H : ∀ cl, s.heap[a]? = some cl → HasL cl 0 vs) (dv : Value) : ∃ k, Arv s s.heap a k ty n vs dv := by
  obtain ⟨cl, A⟩ := Arr.start ht ha
  obtain ⟨q1, q2⟩ := start_len hl ht A.1
  exact ⟨_, Arv.start hf A q1 q2 hn hvl (H cl A.1)⟩
theorem start_all {t : Term} {a : Addr} {cl : Cell} {n v : Int32} (h : (Cond.all t (Cond.or (Cond.le (Term.int n) (Term.index 0)) (Cond.eq (Term.elem t (Term.index 0)) (Term.int v)))).value args s none s [] = some true) {N : Int32} (hl : (Cond.eq (Term.length t) (Term.int N)).value args s none s [] = some true) (ht : t.eval args s none [] s = some (.ref a)) (hc : s.heap[a]? = some cl) (i : Nat) (ht' : t.eval args s none [i] s = some (.ref a)) (hiN : i < N.toNatClampNeg) (hn : ¬ n ≤ i.toInt32) (hv : i.toInt32.toNatClampNeg = i) (hi0 : ¬ i.toInt32 < 0) : cl.slots[i]? = some (.int v) := by
  obtain ⟨b1, b2⟩ := start_len hl ht hc
  have hi : i < cl.slots.size := by
    rw [← b2] at hiN
    have e : (cl.slots.size.toInt32).toNatClampNeg = cl.slots.size := by show (Int32.ofNat cl.slots.size).toInt.toNat = _; rw [Int32.toInt_ofNat_of_lt b1]; rfl
    rwa [e] at hiN
  have ha : s.arrayAt? a = some cl := by
    obtain ⟨x, y, e1, e2, -, -⟩ := cmp_v (Or.inl hl)
    obtain ⟨a', c', q1, q2, -⟩ := Term.length_spec e1
    cases ht.symm.trans q1
    cases hc.symm.trans (State.arrayAt?_spec q2).1
    exact q2
  simp only [Cond.value, ht, ha] at h
  have key : ∀ (l : List Nat) (f : Nat → Option Bool) (acc : Option Bool), l.foldl (fun acc i => match acc with | some true => f i | x => x) acc = some true → acc = some true ∧ ∀ i ∈ l, f i = some true := by
    intro l f
    induction l with
    | nil => intro acc h; exact ⟨h, fun _ hi => by cases hi⟩
    | cons j r ih =>
      intro acc h
      rw [List.foldl_cons] at h
      obtain ⟨h1, h2⟩ := ih _ h
      cases acc with
      | none => cases h1
      | some b =>
        cases b
        · cases h1
        · exact ⟨rfl, fun i hi => by rcases List.mem_cons.mp hi with rfl | hi; exact h1; exact h2 i hi⟩
  have q := (key _ _ _ h).2 i (List.mem_range.mpr hi)
  simp [Term.eval, hn, ht', ha] at q
  rw [if_neg hi0, hv] at q
  cases hs : cl.slots[i]? with
  | none => rw [hs] at q; cases q
  | some x => rw [hs] at q; cases x <;> simp at q; rw [q]
end Start
section Copy
variable {p : Program} {l : Launch} {e : Env} {R : Room} {s : State} {m : MethodId} {args : Array Value} {below : List Frame} {meth : Method} {c : Code} {T : State} {locs : List Loc} {cells slots : Nat} {P : Outcome → State → Prop} {pc : Nat} {Ls : Array Slot} {st : List Value} {Z : State} {a0 : Array Value} {h : Heap}
theorem g_cpA (X : Stand p l e R s m args below meth c T locs cells slots) (hx : p.tables.exec = Jvm.exec) (hZ : Z.Warmed39 s.vm) {own : String} {index : Nat} (hown : s.vm.findClass own = some m.cls)
    (w1 : (Cond.methodLink own index Jvm.Stand.acN).before a0 Z = true) (w2 : (Cond.native Jvm.Stand.acN).before a0 Z = true) (w3 : (Cond.static Jvm.Stand.acN).before a0 Z = true) (w4 : (Cond.initialized "java/lang/System").before a0 Z = true) (eT : T.heap = h)
    {a b : Addr} {k k' : ClassId} {ty ty' : FieldType} {z z' sp dp nn : Int32} {vs vd : List Value} {dv dd : Value} (A : Arv Z h a k ty z vs dv) (B : Arv Z h b k' ty' z' vd dd) (us : List Value) (hty : (ty = ty' ∧ refKind ty = false) ∨ (refKind ty = true ∧ refKind ty' = true ∧ StoL Z h b us))
    (h1 : ¬ sp < 0) (h2 : ¬ dp < 0) (h3 : ¬ nn < 0) (h4 : sp.toNatClampNeg + nn.toNatClampNeg ≤ z.toNatClampNeg) (h5 : dp.toNatClampNeg + nn.toNatClampNeg ≤ z'.toNatClampNeg)
    (hus : us = (List.range nn.toNatClampNeg).map fun i => vs.getD (sp.toNatClampNeg + i) dv) (hl : dp.toNatClampNeg + nn.toNatClampNeg ≤ vd.length) {n0 : Nat} (N : Fr n0 locs) (ge : n0 ≤ b) (vd' : List Value) (hvd : vd.take dp.toNatClampNeg ++ us ++ vd.drop (dp.toNatClampNeg + nn.toNatClampNeg) = vd')
    (hsize : Ls.size = c.maxLocals) (hd : decode c.code pc = .ok (.invokestatic index, 3)) (hf : 1 ≤ R.frames) {W : Nat} (hW : (st.map fun v => v.category).sum ≤ W) (hlo : W + (nativeFrameWords "java/lang/System" "arraycopy" 5 + 11) ≤ R.locals) (pc' : Nat) (hp : pc + 3 = pc')
    (K : ∀ T' h' L, Stand p l e R s m args below meth c T' L cells slots → T'.heap = h' → Fr n0 L → Keep h h' [b] → Arv Z h' b k' ty' z' vd' dd → Go p e below P (T'.setTop (mkF m pc' Ls st))) : Go p e below P (T.setTop (mkF m pc Ls (.int nn :: .int dp :: .ref b :: .int sp :: .ref a :: st))) := by
  subst hp hvd
  obtain ⟨T', h', L, X', e', N', K', V', k⟩ := cpA X hx hZ hown w1 w2 w3 w4 eT A B hty h1 h2 h3 h4 h5 hus hl N ge (g := mkF m pc Ls (.int nn :: .int dp :: .ref b :: .int sp :: .ref a :: st)) rfl hsize (rest := st) rfl hd hf (W := W) (by show 2 * 0 + _ ≤ _; omega) hlo
  exact Go.mv k (K T' h' L X' e' N' K' V')
end Copy
section Clone
variable {p : Program} {l : Launch} {e : Env} {R : Room} {s : State} {m : MethodId} {args : Array Value} {below : List Frame} {meth : Method} {c : Code} {T : State} {locs : List Loc} {cells slots : Nat} {P : Outcome → State → Prop} {pc : Nat} {Ls : Array Slot} {st : List Value} {Z : State} {a0 : Array Value} {h : Heap}
theorem g_clone (X : Stand p l e R s m args below meth c T locs cells slots) (hx : p.tables.exec = Jvm.exec) (hZ : Z.Warmed39 s.vm) {own ad : String} {index : Nat} (hown : s.vm.findClass own = some m.cls)
    (w1 : (Cond.methodLink own index ⟨ad, "clone", "()Ljava/lang/Object;"⟩).before a0 Z = true) (w2 : (Cond.sameMethod ad "java/lang/Object" "clone" "()Ljava/lang/Object;").before a0 Z = true) (w3 : (Cond.native ⟨"java/lang/Object", "clone", "()Ljava/lang/Object;"⟩).before a0 Z = true)
    (w4 : (Cond.instanceMethod ⟨"java/lang/Object", "clone", "()Ljava/lang/Object;"⟩).before a0 Z = true) (w5 : (Cond.selects ad ⟨ad, "clone", "()Ljava/lang/Object;"⟩ ⟨"java/lang/Object", "clone", "()Ljava/lang/Object;"⟩).before a0 Z = true) (w6 : (Cond.castable ad "java/lang/Cloneable").before a0 Z = true)
    (eT : T.heap = h) {a : Addr} {ty : FieldType} {k : ClassId} {z : Int32} {vs : List Value} {dv : Value} (F : Arv Z h a k ty z vs dv) (E : Exa Z h a ad) (hsize : Ls.size = c.maxLocals) (hd : decode c.code pc = .ok (.invokevirtual index, 3))
    (hf : 1 ≤ R.frames) {W : Nat} (cap : Nat) (hW : (st.map fun v => v.category).sum ≤ W) (hl : W + 14 ≤ R.locals) (hcap : z.toNatClampNeg ≤ cap) (hc : cells + 1 ≤ R.cells) (hsl : slots + cap ≤ R.slots) (pc' : Nat) (hp : pc + 3 = pc')
    (K : ∀ T' h' b, Stand p l e R s m args below meth c T' locs (cells + 1) (slots + cap) → T'.heap = h' → Ext h h' → b = h.size → Arv Z h' b k ty z vs dv → Exa Z h' b ad → Go p e below P (T'.setTop (mkF m pc' Ls (.ref b :: st)))) : Go p e below P (T.setTop (mkF m pc Ls (.ref a :: st))) := by
  subst hp
  obtain ⟨T', h', X', e', E', V', A', k'⟩ := cloneH X hx hZ hown w1 w2 w3 w4 w5 w6 eT F.arh E (g := mkF m pc Ls (.ref a :: st)) rfl hsize rfl hd hf (W := W) (cap := cap) (by show 2 * 0 + _ ≤ _; omega) hl hcap hc hsl
  exact Go.mv k' (K T' h' h.size X' e' E' rfl V' A')
theorem g_ldcI (X : Stand p l e R s m args below meth c T locs cells slots) (hx : p.tables.exec = Jvm.exec) {own : String} {index : Nat} {v : Int32} (hown : s.vm.findClass own = some m.cls) (hconst : (Cond.constant own index v).before args s = true) (hd : decode c.code pc = .ok (.ldc index, 2)) (pc' : Nat) (hp : pc + 2 = pc')
    (K : Go p e below P (T.setTop (mkF m pc' Ls (.int v :: st)))) : Go p e below P (T.setTop (mkF m pc Ls st)) := by
  subst hp
  exact Go.mv (fun t q => X.ldcInt hx hown hconst (g := mkF m pc Ls st) rfl hd t q) K
theorem g_ldc2J (X : Stand p l e R s m args below meth c T locs cells slots) (hx : p.tables.exec = Jvm.exec) {own : String} {index : Nat} {v : Int64} (hown : s.vm.findClass own = some m.cls) (hconst : (Cond.constantLong own index v).before args s = true) (hd : decode c.code pc = .ok (.ldc2_w index, 3)) (pc' : Nat) (hp : pc + 3 = pc')
    (K : Go p e below P (T.setTop (mkF m pc' Ls (.long v :: st)))) : Go p e below P (T.setTop (mkF m pc Ls st)) := by
  subst hp
  exact Go.mv (fun t q => X.ldc2Long hx hown hconst (g := mkF m pc Ls st) rfl hd t q) K
theorem g_instNo (X : Stand p l e R s m args below meth c T locs cells slots) (hx : p.tables.exec = Jvm.exec) (hZ : Z.Warmed39 s.vm) {own K0 C : String} {index : Nat} (hown : s.vm.findClass own = some m.cls) (w : (Cond.classLink own index K0).before a0 Z = true) (eT : T.heap = h) {a : Addr} (E : Exa Z h a C) (F : ∃ c t, Z.vm.findClass C = some c ∧ Z.vm.findClass K0 = some t ∧ Z.vm.assignable c t = false) (hd : decode c.code pc = .ok (.instanceof index, 3)) (pc' : Nat) (hp : pc + 3 = pc')
    (K : ∀ T', Stand p l e R s m args below meth c T' locs cells slots → T'.heap = h → Go p e below P (T'.setTop (mkF m pc' Ls (.int 0 :: st)))) : Go p e below P (T.setTop (mkF m pc Ls (.ref a :: st))) := by
  subst hp
  obtain ⟨T', X', e', k⟩ := instNo X hx hZ hown w eT E F (g := mkF m pc Ls (.ref a :: st)) rfl rfl hd
  exact Go.mv k (K T' X' e')
theorem g_instNull (X : Stand p l e R s m args below meth c T locs cells slots) (hx : p.tables.exec = Jvm.exec) {index : Nat} (hd : decode c.code pc = .ok (.instanceof index, 3)) (pc' : Nat) (hp : pc + 3 = pc')
    (K : Go p e below P (T.setTop (mkF m pc' Ls (.int 0 :: st)))) : Go p e below P (T.setTop (mkF m pc Ls (.null :: st))) := by
  subst hp
  exact Go.mv (fun t q => X.instanceofNull hx (g := mkF m pc Ls (.null :: st)) rfl rfl hd t q) K
/-- an object of C (whose superclass is Object) is no K -/
theorem notSub {C O K0 : String} {n : Nat} (w : (Cond.superclass C O).before a0 Z = true) (wo : (Cond.noSuperclass O).before a0 Z = true) (wk : (Cond.instantiable K0 n).before a0 Z = true) (hn : C ≠ K0) (ho : O ≠ K0) : ∃ c t, Z.vm.findClass C = some c ∧ Z.vm.findClass K0 = some t ∧ Z.vm.assignable c t = false := by
  obtain ⟨t, k', g0, g2, g5, g7, -⟩ := Cond.instantiable_spec wk
  obtain ⟨c, h0⟩ := found_sup w
  obtain ⟨p0, k, kp, h1, h2, h3, h4, h5, -, h7⟩ := Cond.superclass_spec h0 w
  obtain ⟨cO, kO, i1, i2, i3, -, -⟩ := Cond.noSuperclass_spec wo
  cases h1.symm.trans i1
  have ne := ids_ne h0 g0 hn
  have ne2 := ids_ne h1 g0 ho
  have g8 : k'.isInterface = false := by cases hq : k'.isInterface <;> simp [hq] at g7 ⊢
  refine ⟨c, t, h0, g0, ?_⟩
  show Z.vm.assignableAux (255 + 1) c t = false
  have n3 : ∀ fuel, Z.vm.isSubclassAux fuel c t = false := fun fuel => by
    cases fuel with
    | zero => rfl
    | succ f =>
      have : Z.vm.isSubclassAux f p0 t = false := by
        cases f with
        | zero => rfl
        | succ f => simp [Vm.isSubclassAux, ne2, i2, i3]
      simp [Vm.isSubclassAux, ne, h2, h4, this]
  simp [Vm.assignableAux, ne, h2, g2, h5, g5, g8, Vm.isSubclass, n3]
end Clone
end Jvm.Own
namespace Jvm.Own
open Jvm Sem ClassFile Op Lib Jvm.Stand Jvm.Free Jvm.LawKit Jvm.RoadKit
/-- a sign of Latin-1 -/
abbrev Lat (x : Int32) : Prop := ¬ x < 0 ∧ ¬ (255 : Int32) < x
theorem Lat.nat {x : Int32} (h : Lat x) : ∃ k : Fin 256, x = Int32.ofNat k.val := by
  obtain ⟨h1, h2⟩ := h
  rw [Int32.lt_iff_toInt_lt] at h1 h2
  have e0 : (0 : Int32).toInt = 0 := rfl
  have e1 : (255 : Int32).toInt = 255 := rfl
  refine ⟨⟨x.toInt.toNat, by omega⟩, ?_⟩
  rw [← Int32.toInt_inj]
  show x.toInt = (Int32.ofNat x.toInt.toNat).toInt
  rw [Int32.toInt_ofNat_of_lt (by omega)]; omega
theorem lat_case {P : Int32 → Prop} (t : ∀ k : Fin 256, P (Int32.ofNat k.val)) {x : Int32} (h : Lat x) : P x := by
  obtain ⟨k, rfl⟩ := h.nat; exact t k
theorem lat255c (x : Int32) : Lat ((x &&& 255).toUInt32.toUInt16.toUInt32.toInt32) := by rw [c255]; exact lat255 x
theorem nar_lat {x : Int32} (h : Lat x) : nar .char x = x := lat_case (P := fun x => nar .char x = x) (by decide +kernel) h
theorem i2c_lat {x : Int32} (h : Lat x) : x.toUInt32.toUInt16.toUInt32.toInt32 = x := nar_lat h
theorem narrow_lat {x : Int32} (h : Lat x) : narrow .char (.int x) = .int x := congrArg Value.int (nar_lat h)
theorem lo_lat {x : Int32} (h : Lat x) : x.toInt8.toInt32 &&& 255 = x := lat_case (P := fun x => x.toInt8.toInt32 &&& 255 = x) (by decide +kernel) h
theorem narrow_if (P : Prop) [Decidable P] : narrow .boolean (.int (if P then 1 else 0)) = .int (if P then 1 else 0) := by split <;> rfl
theorem lat_up {cs : List Int32} (h : ∀ c ∈ cs, Lat c) : ∀ c ∈ cs, ¬ c < 0 ∧ ¬ (65535 : Int32) < c := fun c hc => ⟨(h c hc).1, fun q => (h c hc).2 (by rw [Int32.lt_iff_toInt_lt] at q ⊢; have e1 : (65535 : Int32).toInt = 65535 := rfl; have e2 : (255 : Int32).toInt = 255 := rfl; omega)⟩
theorem lat_xor1 (a b : Int32) (h : Lat a) : Lat ((a ^^^ (b &&& 1)).toUInt32.toUInt16.toUInt32.toInt32) := by
  have t : ∀ k : Fin 256, Lat ((Int32.ofNat k.val ^^^ 0).toUInt32.toUInt16.toUInt32.toInt32) ∧ Lat ((Int32.ofNat k.val ^^^ 1).toUInt32.toUInt16.toUInt32.toInt32) := by decide +kernel
  obtain ⟨k, rfl⟩ := h.nat
  rcases and_one b with e | e <;> rw [e]
  · exact (t k).1
  · exact (t k).2
theorem len12 (x : Int32) : (1 : Int32) + (x &&& 1) = 1 ∨ (1 : Int32) + (x &&& 1) = 2 := by
  rcases and_one x with e | e <;> rw [e]
  · exact Or.inl rfl
  · exact Or.inr rfl
theorem if1_ne {P : Prop} [Decidable P] (h : ¬ (if P then (1 : Int32) else 0) = 0) : P := by
  by_cases q : P
  · exact q
  · rw [if_neg q] at h; exact absurd rfl h
theorem if1_eq {P : Prop} [Decidable P] (h : (if P then (1 : Int32) else 0) = 0) : ¬ P := fun q => by rw [if_pos q] at h; exact absurd h (by decide)
end Jvm.Own
namespace Jvm.Own
open Jvm Sem ClassFile Op Lib Jvm.Stand Jvm.Free Jvm.LawKit Jvm.RoadKit
theorem nar_b (x : Int32) : nar .byte x.toInt8.toInt32 = x.toInt8.toInt32 := by show x.toInt8.toInt32.toInt8.toInt32 = _; rw [Int8.toInt8_toInt32]
end Jvm.Own
namespace Jvm.Own
open Jvm Sem ClassFile Op Lib Jvm.Stand Jvm.Free Jvm.LawKit Jvm.RoadKit
theorem mask31 (x : Int32) : ¬ (x &&& 2147483647) < 0 := fun q => absurd ((XT.and_neg32 x 2147483647).mp q).2 (by decide)
theorem mod_lt (x m : Int32) (hx : ¬ x < 0) (hm : 0 < m.toInt) : 0 ≤ (x % m).toInt ∧ (x % m).toInt < m.toInt := by
  rw [Int32.lt_iff_toInt_lt] at hx
  have e0 : (0 : Int32).toInt = 0 := rfl
  rw [Int32.toInt_mod]
  exact ⟨Int.tmod_nonneg _ (by omega), Int.tmod_lt_of_pos _ hm⟩
theorem mod3 (x : Int32) : (x &&& 2147483647) % 3 = 0 ∨ (x &&& 2147483647) % 3 = 1 ∨ (x &&& 2147483647) % 3 = 2 := by
  obtain ⟨h1, h2⟩ := mod_lt (x &&& 2147483647) 3 (mask31 x) (by decide)
  generalize (x &&& 2147483647) % 3 = y at *
  have e3 : (3 : Int32).toInt = 3 := rfl
  have : y.toInt = 0 ∨ y.toInt = 1 ∨ y.toInt = 2 := by omega
  rcases this with h | h | h
  · exact Or.inl (Int32.toInt_inj.mp (h.trans rfl))
  · exact Or.inr (Or.inl (Int32.toInt_inj.mp (h.trans rfl)))
  · exact Or.inr (Or.inr (Int32.toInt_inj.mp (h.trans rfl)))
theorem mod5 (x : Int32) : (x &&& 2147483647) % 5 = 0 ∨ (x &&& 2147483647) % 5 = 1 ∨ (x &&& 2147483647) % 5 = 2 ∨ (x &&& 2147483647) % 5 = 3 ∨ (x &&& 2147483647) % 5 = 4 := by
  obtain ⟨h1, h2⟩ := mod_lt (x &&& 2147483647) 5 (mask31 x) (by decide)
  generalize (x &&& 2147483647) % 5 = y at *
  have e3 : (5 : Int32).toInt = 5 := rfl
  have : y.toInt = 0 ∨ y.toInt = 1 ∨ y.toInt = 2 ∨ y.toInt = 3 ∨ y.toInt = 4 := by omega
  rcases this with h | h | h | h | h
  · exact Or.inl (Int32.toInt_inj.mp (h.trans rfl))
  · exact Or.inr (Or.inl (Int32.toInt_inj.mp (h.trans rfl)))
  · exact Or.inr (Or.inr (Or.inl (Int32.toInt_inj.mp (h.trans rfl))))
  · exact Or.inr (Or.inr (Or.inr (Or.inl (Int32.toInt_inj.mp (h.trans rfl)))))
  · exact Or.inr (Or.inr (Or.inr (Or.inr (Int32.toInt_inj.mp (h.trans rfl)))))
end Jvm.Own
namespace Jvm.Own
open Jvm Sem ClassFile Op Lib Jvm.Stand Jvm.Free Jvm.LawKit Jvm.RoadKit
theorem mem3 {P : Int32 → Prop} {a b c : Int32} (ha : P a) (hb : P b) (hc : P c) : ∀ x ∈ ([a, b, c] : List Int32), P x := fun x hx => by
  simp only [List.mem_cons, List.not_mem_nil, or_false] at hx
  rcases hx with rfl | rfl | rfl
  · exact ha
  · exact hb
  · exact hc
theorem mem4 {P : Int32 → Prop} {a b c d : Int32} (ha : P a) (hb : P b) (hc : P c) (hd : P d) : ∀ x ∈ ([a, b, c, d] : List Int32), P x := fun x hx => by
  simp only [List.mem_cons, List.not_mem_nil, or_false] at hx
  rcases hx with rfl | rfl | rfl | rfl
  · exact ha
  · exact hb
  · exact hc
  · exact hd
theorem and3 (x : Int32) : x &&& 3 = 0 ∨ x &&& 3 = 1 ∨ x &&& 3 = 2 ∨ x &&& 3 = 3 := by
  have h : (x &&& 3).toBitVec.toNat < 4 := by
    simp only [Int32.toBitVec_and, BitVec.toNat_and]
    exact Nat.lt_succ_of_le Nat.and_le_right
  have e : (x &&& 3) = Int32.ofNat (x &&& 3).toBitVec.toNat := by
    apply Int32.toBitVec_inj.mp
    show _ = BitVec.ofNat 32 _
    rw [BitVec.ofNat_toNat]; simp
  have t : ∀ k : Fin 4, Int32.ofNat k.val = 0 ∨ Int32.ofNat k.val = 1 ∨ Int32.ofNat k.val = 2 ∨ Int32.ofNat k.val = 3 := by decide
  rw [e]; exact t ⟨_, h⟩
end Jvm.Own
namespace Jvm.Own
open Jvm Sem ClassFile Op Lib Jvm.Stand Jvm.Free Jvm.LawKit Jvm.RoadKit
section ListKit
variable {p : Program} {l : Launch} {e : Env} {R : Room} {s : State} {m : MethodId} {args : Array Value} {below : List Frame} {meth : Method} {c : Code} {T : State} {locs : List Loc} {cells slots : Nat} {P : Outcome → State → Prop} {pc : Nat} {Ls : Array Slot} {st : List Value} {Z : State} {a0 : Array Value} {h : Heap}
theorem g_tswIn (X : Stand p l e R s m args below meth c T locs cells slots) (hx : p.tables.exec = Jvm.exec) {k : Int32} {d low high : Int} {offsets : Array Int} {len : Nat} (hd : decode c.code pc = .ok (.tableswitch d low high offsets, len)) (hin : ¬ (k.toInt < low ∨ k.toInt > high)) {off : Int} (hoffs : offsets[(k.toInt - low).toNat]? = some off) (pc' : Nat) (hp : pc' = ((pc : Int) + off).toNat ∧ 0 ≤ (pc : Int) + off)
    (K : Go p e below P (T.setTop (mkF m pc' Ls st))) : Go p e below P (T.setTop (mkF m pc Ls (.int k :: st))) := by
  obtain ⟨hp, h0⟩ := hp
  subst hp
  exact Go.mv (fun t q => X.tableswitchIn hx (g := mkF m pc Ls (.int k :: st)) rfl rfl hd hin hoffs h0 t q) K
theorem g_tswOut (X : Stand p l e R s m args below meth c T locs cells slots) (hx : p.tables.exec = Jvm.exec) {k : Int32} {d low high : Int} {offsets : Array Int} {len : Nat} (hd : decode c.code pc = .ok (.tableswitch d low high offsets, len)) (hout : k.toInt < low ∨ k.toInt > high) (pc' : Nat) (hp : pc' = ((pc : Int) + d).toNat ∧ 0 ≤ (pc : Int) + d)
    (K : Go p e below P (T.setTop (mkF m pc' Ls st))) : Go p e below P (T.setTop (mkF m pc Ls (.int k :: st))) := by
  obtain ⟨hp, h0⟩ := hp
  subst hp
  exact Go.mv (fun t q => X.tableswitchOut hx (g := mkF m pc Ls (.int k :: st)) rfl rfl hd hout h0 t q) K
theorem g_iface (X : Stand p l e R s m args below meth c T locs cells slots) (hx : p.tables.exec = Jvm.exec) (hZ : Z.Warmed39 s.vm) {own C : String} {index count : Nat} {y z : MethodName}
    (hown : s.vm.findClass own = some m.cls) (hlink : (Cond.methodLink own index y).before args s = true) (hdecl : (Cond.declares y).before args s = true) (hface : (Cond.interfaceMethod y.cls y.cls y.name y.desc).before args s = true)
    (hsel : (Cond.selects C y z).before args s = true) (hinst : (Cond.instanceMethod z).before args s = true) (hpub : (Cond.publicMethod z).before args s = true) (hunh : (Cond.unhidden C y.name y.desc).before args s = true) (hcast : (Cond.castable C y.cls).before args s = true) (hy : y.cls ≠ "java/lang/invoke/MethodHandle" ∧ y.cls ≠ "java/lang/invoke/VarHandle")
    {W rc rs : Nat} {a : Addr} (argsL : List Value) {Q : Option Value → Heap → List Loc → Prop} (hK : Back l R p e below s args z 5 W (fun A b => b = (.ref a :: argsL).toArray ∧ A.U.heap = h ∧ A.cells + rc ≤ R.cells ∧ A.slots + rs ≤ R.slots) (fun A _ v B => ∃ L, Q v B.U.heap L ∧ B.locs = A.locs ++ L ∧ B.cells = A.cells + rc ∧ B.slots = A.slots + rs))
    (E : Exa Z h a C) (eT : T.heap = h) (hsize : Ls.size = c.maxLocals) (rest : List Value) (hlen : ∀ sig, parseMethodDescriptor y.desc = some sig → argsL.length = sig.parameters.length)
    (hstack : st = argsL.reverse ++ .ref a :: rest) (hW : (rest.map fun v => v.category).sum ≤ W) (hd : decode c.code pc = .ok (.invokeinterface index count, 5)) (hc : cells + rc ≤ R.cells) (hl : slots + rs ≤ R.slots) (pc' : Nat) (hp : pc + 5 = pc')
    (K : ∀ v T' L, Stand p l e R s m args below meth c T' (locs ++ L) (cells + rc) (slots + rs) → Q v T'.heap L → Go p e below P (T'.setTop (mkF m pc' Ls (v.toList ++ rest)))) : Go p e below P (T.setTop (mkF m pc Ls st)) := by
  subst hp
  obtain ⟨cq, kq, qa, qb, qc⟩ := isOf hZ eT E
  obtain ⟨v, vm, ⟨T', L', k', n'⟩, -, X', ⟨Lc, hQ, l1, y1, z1⟩, k⟩ := X.interfaceBack hx (xi := y) (y := z) hown hlink hdecl hface hsel hinst hpub hunh hcast hy hK qa qb qc (g := mkF m pc Ls st) rfl hsize (Steps.refl _) (argsL := argsL) (rest := rest) hlen hstack (by show 2 * 0 + _ ≤ _; omega) hd (fun _ _ => ⟨rfl, eT, hc, hl⟩)
  dsimp only [Pt.U, Pt.locs, Pt.cells, Pt.slots] at X' l1 y1 z1 k hQ
  subst l1 y1 z1
  exact Go.tr k (K v T' Lc X' hQ)
theorem g_virtUp (X : Stand p l e R s m args below meth c T locs cells slots) (hx : p.tables.exec = Jvm.exec) (hZ : Z.Warmed39 s.vm) {own C owner : String} {index : Nat} {y z : MethodName}
    (hown : s.vm.findClass own = some m.cls) (hlink : (Cond.methodLink own index y).before args s = true) (hsame : (Cond.sameMethod y.cls owner y.name y.desc).before args s = true) (hdecl : (Cond.declares ⟨owner, y.name, y.desc⟩).before args s = true) (hy : owner ≠ "java/lang/invoke/MethodHandle" ∧ owner ≠ "java/lang/invoke/VarHandle")
    (hsel : (Cond.selects C y z).before args s = true) (hinst : (Cond.instanceMethod z).before args s = true)
    {W rc rs : Nat} {a : Addr} (argsL : List Value) {Q : Option Value → Heap → List Loc → Prop} (hK : Back l R p e below s args z 3 W (fun A b => b = (.ref a :: argsL).toArray ∧ A.U.heap = h ∧ A.cells + rc ≤ R.cells ∧ A.slots + rs ≤ R.slots) (fun A _ v B => ∃ L, Q v B.U.heap L ∧ B.locs = A.locs ++ L ∧ B.cells = A.cells + rc ∧ B.slots = A.slots + rs))
    (E : Exa Z h a C) (eT : T.heap = h) (hsize : Ls.size = c.maxLocals) (rest : List Value) (hlen : ∀ sig, parseMethodDescriptor y.desc = some sig → argsL.length = sig.parameters.length)
    (hstack : st = argsL.reverse ++ .ref a :: rest) (hW : (rest.map fun v => v.category).sum ≤ W) (hd : decode c.code pc = .ok (.invokevirtual index, 3)) (hc : cells + rc ≤ R.cells) (hl : slots + rs ≤ R.slots) (pc' : Nat) (hp : pc + 3 = pc')
    (K : ∀ v T' L, Stand p l e R s m args below meth c T' (locs ++ L) (cells + rc) (slots + rs) → Q v T'.heap L → Go p e below P (T'.setTop (mkF m pc' Ls (v.toList ++ rest)))) : Go p e below P (T.setTop (mkF m pc Ls st)) := by
  subst hp
  obtain ⟨cq, kq, qa, qb, qc⟩ := isOf hZ eT E
  obtain ⟨v, vm, ⟨T', L', k', n'⟩, -, X', ⟨Lc, hQ, l1, y1, z1⟩, k⟩ := X.virtualBackUp hx (x := y) (y := z) hown hlink hsame hdecl hy hsel hinst hK qa qc (g := mkF m pc Ls st) rfl hsize (Steps.refl _) (argsL := argsL) (rest := rest) hlen hstack (by show 2 * 0 + _ ≤ _; omega) hd (fun _ _ => ⟨rfl, eT, hc, hl⟩)
  dsimp only [Pt.U, Pt.locs, Pt.cells, Pt.slots] at X' l1 y1 z1 k hQ
  subst l1 y1 z1
  exact Go.tr k (K v T' Lc X' hQ)
theorem g_specialN (X : Stand p l e R s m args below meth c T locs cells slots) (hx : p.tables.exec = Jvm.exec) {own host : String} {index : Nat} {y : MethodName} (hy1 : y.name = "<init>")
    (hown : s.vm.findClass own = some m.cls) (hlink : (Cond.methodLinkNest own index y host).before args s = true) (hinst : (Cond.instanceMethod y).before args s = true)
    {bytes : ByteArray} {maxL : Nat} (hcode : (Cond.code y bytes maxL none).before args s = true) (hy : y.cls ≠ "java/lang/invoke/MethodHandle" ∧ y.cls ≠ "java/lang/invoke/VarHandle")
    {W rc rs : Nat} {a : Addr} (argsL : List Value) {Q : Option Value → Heap → List Loc → Prop} (hK : Back l R p e below s args y 3 W (fun A b => b = (.ref a :: argsL).toArray ∧ A.U.heap = h ∧ A.cells + rc ≤ R.cells ∧ A.slots + rs ≤ R.slots) (fun A _ v B => ∃ L, Q v B.U.heap L ∧ B.locs = A.locs ++ L ∧ B.cells = A.cells + rc ∧ B.slots = A.slots + rs))
    (eT : T.heap = h) (hsize : Ls.size = c.maxLocals) (rest : List Value) (hlen : ∀ sig, parseMethodDescriptor y.desc = some sig → argsL.length = sig.parameters.length)
    (hstack : st = argsL.reverse ++ .ref a :: rest) (hW : (rest.map fun v => v.category).sum ≤ W) (hd : decode c.code pc = .ok (.invokespecial index, 3)) (hc : cells + rc ≤ R.cells) (hl : slots + rs ≤ R.slots) (pc' : Nat) (hp : pc + 3 = pc')
    (K : ∀ v T' L, Stand p l e R s m args below meth c T' (locs ++ L) (cells + rc) (slots + rs) → Q v T'.heap L → Go p e below P (T'.setTop (mkF m pc' Ls (v.toList ++ rest)))) : Go p e below P (T.setTop (mkF m pc Ls st)) := by
  subst hp
  obtain ⟨v, vm, ⟨T', L', k', n'⟩, -, X', ⟨Lc, hQ, l1, y1, z1⟩, k⟩ := X.specialBackNest hx (y := y) hy1 hown hlink hinst hcode hy hK (g := mkF m pc Ls st) rfl hsize (Steps.refl _) (a := a) (argsL := argsL) (rest := rest) hlen hstack (by show 2 * 0 + _ ≤ _; omega) hd (fun _ _ => ⟨rfl, eT, hc, hl⟩)
  dsimp only [Pt.U, Pt.locs, Pt.cells, Pt.slots] at X' l1 y1 z1 k hQ
  subst l1 y1 z1
  exact Go.tr k (K v T' Lc X' hQ)
theorem g_newRE (X : Stand p l e R s m args below meth c T locs cells slots) (hx : p.tables.exec = Jvm.exec) (hZ : Z.Warmed39 s.vm) {own C : String} {index : Nat} (hown : s.vm.findClass own = some m.cls) (w1 : (Cond.classLink own index C).before a0 Z = true) (w2 : (Cond.arrayOver (.object C)).before a0 Z = true) (eT : T.heap = h) (hd : decode c.code pc = .ok (.anewarray index, 3)) {n : Int32}
    (hn : ¬ n < 0) (cap : Nat) (hcap : n.toNatClampNeg ≤ cap) (hb : cap * 8 ≤ 536870912) (hc : cells + 1 ≤ R.cells) (hl : slots + cap ≤ R.slots) (ad : String) (had : "[" ++ (FieldType.object C).toString = ad) (pc' : Nat) (hp : pc + 3 = pc') (vs : List Value) (hvs : ∀ i, vs.getD i Value.null = Value.null)
    (K : ∀ T' h' b k, Stand p l e R s m args below meth c T' locs (cells + 1) (slots + cap) → T'.heap = h' → Ext h h' → b = h.size → Arv Z h' b k (.object C) n vs .null → Exa Z h' b ad → Ovr Z k C → Go p e below P (T'.setTop (mkF m pc' Ls (.ref b :: st)))) : Go p e below P (T.setTop (mkF m pc Ls (.int n :: st))) := by
  subst hp
  obtain ⟨T', h', cA, X', e', E, A, Ex, O, k⟩ := newRE X hx hZ hown w1 w2 eT (g := mkF m pc Ls (.int n :: st)) rfl hd rfl hn hcap hb hc hl had
  exact Go.mv k (K T' h' h.size cA X' e' E rfl ((Arv.new A hn).pad (fun i => by rw [show defaultValue (.object C) = Value.null from rfl, hvs]; simp)) Ex O)
theorem g_gcls (X : Stand p l e R s m args below meth c T locs cells slots) (hx : p.tables.exec = Jvm.exec) (hZ : Z.Warmed39 s.vm) {own C : String} {index : Nat} (hown : s.vm.findClass own = some m.cls)
    (w1 : (Cond.methodLink own index ⟨"java/lang/Object", "getClass", "()Ljava/lang/Class;"⟩).before a0 Z = true) (w2 : (Cond.declares ⟨"java/lang/Object", "getClass", "()Ljava/lang/Class;"⟩).before a0 Z = true) (w3 : (Cond.noSuperclass "java/lang/Object").before a0 Z = true) (w4 : (Cond.selects C ⟨"java/lang/Object", "getClass", "()Ljava/lang/Class;"⟩ ⟨"java/lang/Object", "getClass", "()Ljava/lang/Class;"⟩).before a0 Z = true)
    (w5 : (Cond.instanceMethod ⟨"java/lang/Object", "getClass", "()Ljava/lang/Class;"⟩).before a0 Z = true) (w6 : (Cond.native ⟨"java/lang/Object", "getClass", "()Ljava/lang/Class;"⟩).before a0 Z = true) (eT : T.heap = h) {a : Addr} (E : Exa Z h a C) {mr : Addr} (M : Mir Z C mr)
    (hsize : Ls.size = c.maxLocals) (hd : decode c.code pc = .ok (.invokevirtual index, 3)) (hf : 1 ≤ R.frames) {W : Nat} (hW : (st.map fun v => v.category).sum ≤ W) (hlo : W + (nativeFrameWords "java/lang/Object" "getClass" 1 + 11) ≤ R.locals) (pc' : Nat) (hp : pc + 3 = pc')
    (K : ∀ T', Stand p l e R s m args below meth c T' locs cells slots → T'.heap = h → Go p e below P (T'.setTop (mkF m pc' Ls (.ref mr :: st)))) : Go p e below P (T.setTop (mkF m pc Ls (.ref a :: st))) := by
  subst hp
  obtain ⟨T', X', e', k⟩ := gcls X hx hZ hown w1 w2 w3 w4 w5 w6 eT E M (g := mkF m pc Ls (.ref a :: st)) rfl hsize (rest := st) rfl hd hf (W := W) (by show 2 * 0 + _ ≤ _; omega) hlo
  exact Go.mv k (K T' X' e')
theorem g_ldcK (X : Stand p l e R s m args below meth c T locs cells slots) (hx : p.tables.exec = Jvm.exec) (hZ : Z.Warmed39 s.vm) {own C : String} {index : Nat} (hown : s.vm.findClass own = some m.cls) (w1 : (Cond.classLink own index C).before a0 Z = true) (eT : T.heap = h) {mr : Addr} (M : Mir Z C mr)
    (hd : decode c.code pc = .ok (.ldc index, 2)) (pc' : Nat) (hp : pc + 2 = pc')
    (K : ∀ T', Stand p l e R s m args below meth c T' locs cells slots → T'.heap = h → Go p e below P (T'.setTop (mkF m pc' Ls (.ref mr :: st)))) : Go p e below P (T.setTop (mkF m pc Ls st)) := by
  subst hp
  obtain ⟨cc, kc, m1, m2, m3, -⟩ := M
  obtain ⟨k', q, ek⟩ := hZ.alike.2.2 _ _ m2
  have hm : k'.mirror = some mr := by first | (rw [ek]; exact m3) | (rw [ek.1]; exact m3)
  have hev : (Term.mirror C).eval args s none [] s = some (.ref mr) := by
    simp only [Term.eval, hZ.alike.findClass, m1, q, hm, Option.bind_eq_bind, Option.bind_some, Option.pure_def]
  obtain ⟨vm', X', k⟩ := X.ldcMirror hx hown (mvT hZ w1) hev (g := mkF m pc Ls st) rfl hd
  exact Go.mv k (K _ X' eT)
theorem nsRoot {O K0 : String} {n : Nat} (w : (Cond.noSuperclass O).before a0 Z = true) (wk : (Cond.instantiable K0 n).before a0 Z = true) (hn : O ≠ K0) : NS Z O K0 := by
  obtain ⟨c, k, h1, h2, h3, -, -⟩ := Cond.noSuperclass_spec w
  obtain ⟨t, k', g1, -⟩ := Cond.instantiable_spec wk
  have ne := ids_ne h1 g1 hn
  refine ⟨c, t, h1, g1, fun fuel => ?_⟩
  cases fuel with
  | zero => rfl
  | succ f => simp [Vm.isSubclassAux, ne, h2, h3]
theorem nsNo {C S K0 : String} {n : Nat} (w : (Cond.superclass C S).before a0 Z = true) (wk : (Cond.instantiable K0 n).before a0 Z = true) (q : NS Z C K0) (hn : C ≠ K0) : ∃ c t, Z.vm.findClass C = some c ∧ Z.vm.findClass K0 = some t ∧ Z.vm.assignable c t = false := by
  obtain ⟨c, t, h0, g0, n3⟩ := q
  obtain ⟨p, k, kp, h1, h2, h3, h4, h5, -, h7⟩ := Cond.superclass_spec h0 w
  obtain ⟨t', k', g0', g2, g5, g7, -⟩ := Cond.instantiable_spec wk
  cases g0.symm.trans g0'
  have ne := ids_ne h0 g0 hn
  have g8 : k'.isInterface = false := by cases hq : k'.isInterface <;> simp [hq] at g7 ⊢
  refine ⟨c, t, h0, g0, ?_⟩
  show Z.vm.assignableAux (255 + 1) c t = false
  simp [Vm.assignableAux, ne, h2, g2, h5, g5, g8, Vm.isSubclass, n3]
end ListKit
end Jvm.Own
namespace Jvm.Own
open Jvm Sem ClassFile Op Lib Jvm.Stand Jvm.Free Jvm.LawKit Jvm.RoadKit
section ListDefs
variable {Z : State} {h h' : Heap} {x d r e a : Addr} {ys : List Addr} {b : Bool} {sl : Nat} {v : Value} {ws : List Addr}
theorem Ins.kp {y : Addr} {C : String} {bo : Bool} (F : Ins Z h y C bo) (K : Keep h h' ws) : Ins Z h' y C bo := by
  obtain ⟨cell, cT, h1, h2, h3⟩ := F
  obtain ⟨c', q, r1, r2, r3⟩ := K.2.2 y cell h1
  exact ⟨c', cT, q, h2, by rw [r1, r2]; exact h3⟩
/-- an ArrayList x with its array d and its elements ys -/
def AL (Z : State) (h : Heap) (x d : Addr) (ys : List Addr) : Prop := Exa Z h x "java/util/ArrayList" ∧ Fld Z h x "java/util/ArrayList" "size" "I" (.int (Int32.ofNat ys.length)) ∧ Fld Z h x "java/util/ArrayList" "elementData" "[Ljava/lang/Object;" (.ref d) ∧ Exa Z h d "[Ljava/lang/Object;" ∧ (∀ y ∈ ys, Ins Z h y "java/lang/Object" true) ∧ (ys = [] ∨ ∃ (k : ClassId), Arv Z h d k (.object "java/lang/Object") 10 (ys.map Value.ref ++ List.replicate (10 - ys.length) Value.null) .null)
theorem AL.lt (F : AL Z h x d ys) : x < h.size := F.1.lt
theorem AL.lt2 (F : AL Z h x d ys) : d < h.size := F.2.2.2.1.lt
theorem AL.ext (F : AL Z h x d ys) (E : Ext h h') : AL Z h' x d ys := by
  obtain ⟨f1, f2, f3, f4, f5, f6⟩ := F
  exact ⟨f1.ext E, f2.ext E, f3.ext E, f4.ext E, fun y hy => Ins.ext E (f5 y hy), f6.imp id fun ⟨k, q⟩ => ⟨k, q.ext E⟩⟩
theorem AL.keep (F : AL Z h x d ys) (K : Keep h h' ws) (q : x ∉ ws) (q2 : d ∉ ws) : AL Z h' x d ys := by
  obtain ⟨f1, f2, f3, f4, f5, f6⟩ := F
  exact ⟨f1.keep K, f2.keep K q, f3.keep K q, f4.keep K, fun y hy => Ins.kp (f5 y hy) K, f6.imp id fun ⟨k, r⟩ => ⟨k, r.keep K q2⟩⟩
theorem AL.wr (F : AL Z h x d ys) (W : Wr h h' a sl v) (q : x ≠ a) (q2 : d ≠ a) : AL Z h' x d ys := F.keep (Keep.of_wr W) (ninS q nin0) (ninS q2 nin0)
/-- an immutable list r (its array e, or r again), b: is it empty -/
def Im (Z : State) (h : Heap) (r e : Addr) (b : Bool) : Prop := (b = false ∧ e = r ∧ Exa Z h r "java/util/ImmutableCollections$List12") ∨ (Exa Z h r "java/util/ImmutableCollections$ListN" ∧ Fld Z h r "java/util/ImmutableCollections$ListN" "allowNulls" "Z" (.int 0) ∧ Fld Z h r "java/util/ImmutableCollections$ListN" "elements" "[Ljava/lang/Object;" (.ref e) ∧ ∃ (k : ClassId) (z : Int32) (vs : List Value), Arv Z h e k (.object "java/lang/Object") z vs .null ∧ (b = true ↔ z = 0))
theorem Im.lt (F : Im Z h r e b) : r < h.size := by rcases F with ⟨-, -, F⟩ | ⟨F, -⟩ <;> exact F.lt
theorem Im.lt2 (F : Im Z h r e b) : e < h.size := by
  rcases F with ⟨-, rfl, F⟩ | ⟨-, -, -, k, z, vs, F, -⟩
  · exact F.lt
  · exact F.lt
theorem Im.ext (F : Im Z h r e b) (E : Ext h h') : Im Z h' r e b := by
  rcases F with ⟨f1, f2, f3⟩ | ⟨f1, f2, f3, k, z, vs, f4, f5⟩
  · exact Or.inl ⟨f1, f2, f3.ext E⟩
  · exact Or.inr ⟨f1.ext E, f2.ext E, f3.ext E, k, z, vs, f4.ext E, f5⟩
theorem Im.keep (F : Im Z h r e b) (K : Keep h h' ws) (q : r ∉ ws) (q2 : e ∉ ws) : Im Z h' r e b := by
  rcases F with ⟨f1, f2, f3⟩ | ⟨f1, f2, f3, k, z, vs, f4, f5⟩
  · exact Or.inl ⟨f1, f2, f3.keep K⟩
  · exact Or.inr ⟨f1.keep K, f2.keep K q, f3.keep K q, k, z, vs, f4.keep K q2, f5⟩
theorem Im.wr (F : Im Z h r e b) (W : Wr h h' a sl v) (q : r ≠ a) (q2 : e ≠ a) : Im Z h' r e b := F.keep (Keep.of_wr W) (ninS q nin0) (ninS q2 nin0)
theorem Im.neC {a0 : Array Value} {C : String} {n : Nat} (F : Im Z h r e b) (E : Exa Z h a C) (w : (Cond.instantiable C n).before a0 Z = true) (h1 : C ≠ "java/util/ImmutableCollections$List12") (h2 : C ≠ "java/util/ImmutableCollections$ListN") : r ≠ a ∧ e ≠ a := by
  rcases F with ⟨-, rfl, f3⟩ | ⟨f1, -, -, k, z, vs, f4, -⟩
  · exact ⟨(Exa.ne E f3 h1).symm, (Exa.ne E f3 h1).symm⟩
  · exact ⟨(Exa.ne E f1 h2).symm, (Exa.neArv E f4 w).symm⟩
theorem StoL.all {C : String} {k : ClassId} {z : Int32} {vs : List Value} {dv : Value} {ty : FieldType} (V : Arv Z h a k ty z vs dv) (O : Ovr Z k C) : ∀ (us : List Addr), (∀ y ∈ us, Ins Z h y C true) → StoL Z h a (us.map Value.ref)
  | [], _ => trivial
  | y :: us, H => ⟨by obtain ⟨c, A, q, -⟩ := V; exact Sto.ofV A q O (H y (List.mem_cons_self ..)), StoL.all V O us (fun y hy => H y (List.mem_cons_of_mem _ hy))⟩
theorem StoL.one {C : String} {k : ClassId} {z : Int32} {vs : List Value} {dv : Value} {ty : FieldType} {y : Addr} (V : Arv Z h a k ty z vs dv) (O : Ovr Z k C) (H : Ins Z h y C true) : Sto Z h a (.ref y) := by obtain ⟨c, A, q, -⟩ := V; exact Sto.ofV A q O H
end ListDefs
end Jvm.Own
namespace Jvm.Pilot.@@N@@
open Jvm Jvm.ClassFile Sem Op Lib Jvm.Free Jvm.Stand Jvm.LawKit Jvm.RoadKit Bundle Jvm.Pilot.@@N@@.Jvm.D
theorem d1_0 : decode prog_13_method_1_code 0 = .ok (.aload_n 0, 1) := by decide +kernel
theorem d1_1 : decode prog_13_method_1_code 1 = .ok (.invokespecial 1, 3) := by decide +kernel
theorem d1_4 : decode prog_13_method_1_code 4 = .ok (.aload_n 0, 1) := by decide +kernel
theorem d1_5 : decode prog_13_method_1_code 5 = .ok (.aload_n 1, 1) := by decide +kernel
theorem d1_6 : decode prog_13_method_1_code 6 = .ok (.putfield 7, 3) := by decide +kernel
theorem d1_9 : decode prog_13_method_1_code 9 = .ok (.aload_n 0, 1) := by decide +kernel
theorem d1_10 : decode prog_13_method_1_code 10 = .ok (.aload_n 2, 1) := by decide +kernel
theorem d1_11 : decode prog_13_method_1_code 11 = .ok (.putfield 13, 3) := by decide +kernel
theorem d1_14 : decode prog_13_method_1_code 14 = .ok (.return_, 1) := by decide +kernel
theorem d3_0 : decode jdk_38_method_2_code 0 = .ok (.aload_n 0, 1) := by decide +kernel
theorem d3_1 : decode jdk_38_method_2_code 1 = .ok (.invokespecial 1, 3) := by decide +kernel
theorem d3_4 : decode jdk_38_method_2_code 4 = .ok (.aload_n 0, 1) := by decide +kernel
theorem d3_5 : decode jdk_38_method_2_code 5 = .ok (.getstatic 39, 3) := by decide +kernel
theorem d3_8 : decode jdk_38_method_2_code 8 = .ok (.putfield 9, 3) := by decide +kernel
theorem d3_11 : decode jdk_38_method_2_code 11 = .ok (.return_, 1) := by decide +kernel
theorem d4_0 : decode jdk_39_method_1_code 0 = .ok (.aload_n 0, 1) := by decide +kernel
theorem d4_1 : decode jdk_39_method_1_code 1 = .ok (.invokespecial 1, 3) := by decide +kernel
theorem d4_4 : decode jdk_39_method_1_code 4 = .ok (.aload_n 0, 1) := by decide +kernel
theorem d4_5 : decode jdk_39_method_1_code 5 = .ok (.iconst 0, 1) := by decide +kernel
theorem d4_6 : decode jdk_39_method_1_code 6 = .ok (.putfield 7, 3) := by decide +kernel
theorem d4_9 : decode jdk_39_method_1_code 9 = .ok (.return_, 1) := by decide +kernel
theorem d5_0 : decode jdk_22_method_1_code 0 = .ok (.aload_n 0, 1) := by decide +kernel
theorem d5_1 : decode jdk_22_method_1_code 1 = .ok (.invokespecial 1, 3) := by decide +kernel
theorem d5_4 : decode jdk_22_method_1_code 4 = .ok (.return_, 1) := by decide +kernel
theorem d6_0 : decode prog_32_method_1_code 0 = .ok (.aload_n 0, 1) := by decide +kernel
theorem d6_1 : decode prog_32_method_1_code 1 = .ok (.invokespecial 1, 3) := by decide +kernel
theorem d6_4 : decode prog_32_method_1_code 4 = .ok (.aload_n 0, 1) := by decide +kernel
theorem d6_5 : decode prog_32_method_1_code 5 = .ok (.aload_n 1, 1) := by decide +kernel
theorem d6_6 : decode prog_32_method_1_code 6 = .ok (.invokestatic 7, 3) := by decide +kernel
theorem d6_9 : decode prog_32_method_1_code 9 = .ok (.putfield 13, 3) := by decide +kernel
theorem d6_12 : decode prog_32_method_1_code 12 = .ok (.aload_n 0, 1) := by decide +kernel
theorem d6_13 : decode prog_32_method_1_code 13 = .ok (.aload_n 2, 1) := by decide +kernel
theorem d6_14 : decode prog_32_method_1_code 14 = .ok (.putfield 19, 3) := by decide +kernel
theorem d6_17 : decode prog_32_method_1_code 17 = .ok (.aload_n 0, 1) := by decide +kernel
theorem d6_18 : decode prog_32_method_1_code 18 = .ok (.aload_n 3, 1) := by decide +kernel
theorem d6_19 : decode prog_32_method_1_code 19 = .ok (.putfield 23, 3) := by decide +kernel
theorem d6_22 : decode prog_32_method_1_code 22 = .ok (.aload_n 0, 1) := by decide +kernel
theorem d6_23 : decode prog_32_method_1_code 23 = .ok (.aload 4, 2) := by decide +kernel
theorem d6_25 : decode prog_32_method_1_code 25 = .ok (.putfield 27, 3) := by decide +kernel
theorem d6_28 : decode prog_32_method_1_code 28 = .ok (.return_, 1) := by decide +kernel
theorem d7_0 : decode jdk_40_method_48_code 0 = .ok (.aload_n 0, 1) := by decide +kernel
theorem d7_1 : decode jdk_40_method_48_code 1 = .ok (.invokestatic 112, 3) := by decide +kernel
theorem d7_4 : decode jdk_40_method_48_code 4 = .ok (.areturn, 1) := by decide +kernel
theorem d8_0 : decode jdk_56_method_3_code 0 = .ok (.aload_n 0, 1) := by decide +kernel
theorem d8_1 : decode jdk_56_method_3_code 1 = .ok (.instanceof 10, 3) := by decide +kernel
theorem d8_4 : decode jdk_56_method_3_code 4 = .ok (.ifCond .ne 22, 3) := by decide +kernel
theorem d8_7 : decode jdk_56_method_3_code 7 = .ok (.aload_n 0, 1) := by decide +kernel
theorem d8_8 : decode jdk_56_method_3_code 8 = .ok (.instanceof 12, 3) := by decide +kernel
theorem d8_11 : decode jdk_56_method_3_code 11 = .ok (.ifCond .eq 20, 3) := by decide +kernel
theorem d8_14 : decode jdk_56_method_3_code 14 = .ok (.aload_n 0, 1) := by decide +kernel
theorem d8_15 : decode jdk_56_method_3_code 15 = .ok (.checkcast 12, 3) := by decide +kernel
theorem d8_18 : decode jdk_56_method_3_code 18 = .ok (.astore_n 1, 1) := by decide +kernel
theorem d8_19 : decode jdk_56_method_3_code 19 = .ok (.aload_n 1, 1) := by decide +kernel
theorem d8_20 : decode jdk_56_method_3_code 20 = .ok (.getfield 14, 3) := by decide +kernel
theorem d8_23 : decode jdk_56_method_3_code 23 = .ok (.ifCond .ne 8, 3) := by decide +kernel
theorem d8_26 : decode jdk_56_method_3_code 26 = .ok (.aload_n 0, 1) := by decide +kernel
theorem d8_27 : decode jdk_56_method_3_code 27 = .ok (.checkcast 18, 3) := by decide +kernel
theorem d8_30 : decode jdk_56_method_3_code 30 = .ok (.areturn, 1) := by decide +kernel
theorem d8_31 : decode jdk_56_method_3_code 31 = .ok (.aload_n 0, 1) := by decide +kernel
theorem d8_32 : decode jdk_56_method_3_code 32 = .ok (.invokeinterface 20 1, 5) := by decide +kernel
theorem d8_37 : decode jdk_56_method_3_code 37 = .ok (.ifCond .eq 7, 3) := by decide +kernel
theorem d8_40 : decode jdk_56_method_3_code 40 = .ok (.invokestatic 26, 3) := by decide +kernel
theorem d8_43 : decode jdk_56_method_3_code 43 = .ok (.areturn, 1) := by decide +kernel
theorem d8_44 : decode jdk_56_method_3_code 44 = .ok (.aload_n 0, 1) := by decide +kernel
theorem d8_45 : decode jdk_56_method_3_code 45 = .ok (.invokeinterface 30 1, 5) := by decide +kernel
theorem d8_50 : decode jdk_56_method_3_code 50 = .ok (.invokestatic 34, 3) := by decide +kernel
theorem d8_53 : decode jdk_56_method_3_code 53 = .ok (.areturn, 1) := by decide +kernel
theorem d9_0 : decode jdk_38_method_9_code 0 = .ok (.aload_n 0, 1) := by decide +kernel
theorem d9_1 : decode jdk_38_method_9_code 1 = .ok (.getfield 48, 3) := by decide +kernel
theorem d9_4 : decode jdk_38_method_9_code 4 = .ok (.ifCond .ne 7, 3) := by decide +kernel
theorem d9_7 : decode jdk_38_method_9_code 7 = .ok (.iconst 1, 1) := by decide +kernel
theorem d9_8 : decode jdk_38_method_9_code 8 = .ok (.goto 4, 3) := by decide +kernel
theorem d9_11 : decode jdk_38_method_9_code 11 = .ok (.iconst 0, 1) := by decide +kernel
theorem d9_12 : decode jdk_38_method_9_code 12 = .ok (.ireturn, 1) := by decide +kernel
theorem d10_0 : decode jdk_40_method_36_code 0 = .ok (.getstatic 90, 3) := by decide +kernel
theorem d10_3 : decode jdk_40_method_36_code 3 = .ok (.areturn, 1) := by decide +kernel
theorem d11_0 : decode jdk_38_method_25_code 0 = .ok (.aload_n 0, 1) := by decide +kernel
theorem d11_1 : decode jdk_38_method_25_code 1 = .ok (.dup, 1) := by decide +kernel
theorem d11_2 : decode jdk_38_method_25_code 2 = .ok (.getfield 63, 3) := by decide +kernel
theorem d11_5 : decode jdk_38_method_25_code 5 = .ok (.iconst 1, 1) := by decide +kernel
theorem d11_6 : decode jdk_38_method_25_code 6 = .ok (.iadd, 1) := by decide +kernel
theorem d11_7 : decode jdk_38_method_25_code 7 = .ok (.putfield 63, 3) := by decide +kernel
theorem d11_10 : decode jdk_38_method_25_code 10 = .ok (.aload_n 0, 1) := by decide +kernel
theorem d11_11 : decode jdk_38_method_25_code 11 = .ok (.aload_n 1, 1) := by decide +kernel
theorem d11_12 : decode jdk_38_method_25_code 12 = .ok (.aload_n 0, 1) := by decide +kernel
theorem d11_13 : decode jdk_38_method_25_code 13 = .ok (.getfield 9, 3) := by decide +kernel
theorem d11_16 : decode jdk_38_method_25_code 16 = .ok (.aload_n 0, 1) := by decide +kernel
theorem d11_17 : decode jdk_38_method_25_code 17 = .ok (.getfield 48, 3) := by decide +kernel
theorem d11_20 : decode jdk_38_method_25_code 20 = .ok (.invokevirtual 131, 3) := by decide +kernel
theorem d11_23 : decode jdk_38_method_25_code 23 = .ok (.iconst 1, 1) := by decide +kernel
theorem d11_24 : decode jdk_38_method_25_code 24 = .ok (.ireturn, 1) := by decide +kernel
theorem d12_0 : decode jdk_38_method_24_code 0 = .ok (.iload_n 3, 1) := by decide +kernel
theorem d12_1 : decode jdk_38_method_24_code 1 = .ok (.aload_n 2, 1) := by decide +kernel
theorem d12_2 : decode jdk_38_method_24_code 2 = .ok (.arraylength, 1) := by decide +kernel
theorem d12_3 : decode jdk_38_method_24_code 3 = .ok (.if_icmp .ne 8, 3) := by decide +kernel
theorem d12_6 : decode jdk_38_method_24_code 6 = .ok (.aload_n 0, 1) := by decide +kernel
theorem d12_7 : decode jdk_38_method_24_code 7 = .ok (.invokevirtual 129, 3) := by decide +kernel
theorem d12_10 : decode jdk_38_method_24_code 10 = .ok (.astore_n 2, 1) := by decide +kernel
theorem d12_11 : decode jdk_38_method_24_code 11 = .ok (.aload_n 2, 1) := by decide +kernel
theorem d12_12 : decode jdk_38_method_24_code 12 = .ok (.iload_n 3, 1) := by decide +kernel
theorem d12_13 : decode jdk_38_method_24_code 13 = .ok (.aload_n 1, 1) := by decide +kernel
theorem d12_14 : decode jdk_38_method_24_code 14 = .ok (.aastore, 1) := by decide +kernel
theorem d12_15 : decode jdk_38_method_24_code 15 = .ok (.aload_n 0, 1) := by decide +kernel
theorem d12_16 : decode jdk_38_method_24_code 16 = .ok (.iload_n 3, 1) := by decide +kernel
theorem d12_17 : decode jdk_38_method_24_code 17 = .ok (.iconst 1, 1) := by decide +kernel
theorem d12_18 : decode jdk_38_method_24_code 18 = .ok (.iadd, 1) := by decide +kernel
theorem d12_19 : decode jdk_38_method_24_code 19 = .ok (.putfield 48, 3) := by decide +kernel
theorem d12_22 : decode jdk_38_method_24_code 22 = .ok (.return_, 1) := by decide +kernel
theorem d13_0 : decode jdk_38_method_7_code 0 = .ok (.aload_n 0, 1) := by decide +kernel
theorem d13_1 : decode jdk_38_method_7_code 1 = .ok (.aload_n 0, 1) := by decide +kernel
theorem d13_2 : decode jdk_38_method_7_code 2 = .ok (.getfield 48, 3) := by decide +kernel
theorem d13_5 : decode jdk_38_method_7_code 5 = .ok (.iconst 1, 1) := by decide +kernel
theorem d13_6 : decode jdk_38_method_7_code 6 = .ok (.iadd, 1) := by decide +kernel
theorem d13_7 : decode jdk_38_method_7_code 7 = .ok (.invokevirtual 69, 3) := by decide +kernel
theorem d13_10 : decode jdk_38_method_7_code 10 = .ok (.areturn, 1) := by decide +kernel
theorem d14_0 : decode jdk_38_method_6_code 0 = .ok (.aload_n 0, 1) := by decide +kernel
theorem d14_1 : decode jdk_38_method_6_code 1 = .ok (.getfield 9, 3) := by decide +kernel
theorem d14_4 : decode jdk_38_method_6_code 4 = .ok (.arraylength, 1) := by decide +kernel
theorem d14_5 : decode jdk_38_method_6_code 5 = .ok (.istore_n 2, 1) := by decide +kernel
theorem d14_6 : decode jdk_38_method_6_code 6 = .ok (.iload_n 2, 1) := by decide +kernel
theorem d14_7 : decode jdk_38_method_6_code 7 = .ok (.ifCond .gt 13, 3) := by decide +kernel
theorem d14_10 : decode jdk_38_method_6_code 10 = .ok (.aload_n 0, 1) := by decide +kernel
theorem d14_11 : decode jdk_38_method_6_code 11 = .ok (.getfield 9, 3) := by decide +kernel
theorem d14_14 : decode jdk_38_method_6_code 14 = .ok (.getstatic 39, 3) := by decide +kernel
theorem d14_17 : decode jdk_38_method_6_code 17 = .ok (.if_acmp .eq 28, 3) := by decide +kernel
theorem d14_45 : decode jdk_38_method_6_code 45 = .ok (.aload_n 0, 1) := by decide +kernel
theorem d14_46 : decode jdk_38_method_6_code 46 = .ok (.bipush 10, 2) := by decide +kernel
theorem d14_48 : decode jdk_38_method_6_code 48 = .ok (.iload_n 1, 1) := by decide +kernel
theorem d14_49 : decode jdk_38_method_6_code 49 = .ok (.invokestatic 79, 3) := by decide +kernel
theorem d14_52 : decode jdk_38_method_6_code 52 = .ok (.anewarray 7, 3) := by decide +kernel
theorem d14_55 : decode jdk_38_method_6_code 55 = .ok (.dup_x1, 1) := by decide +kernel
theorem d14_56 : decode jdk_38_method_6_code 56 = .ok (.putfield 9, 3) := by decide +kernel
theorem d14_59 : decode jdk_38_method_6_code 59 = .ok (.areturn, 1) := by decide +kernel
theorem d15_0 : decode jdk_29_method_65_code 0 = .ok (.iload_n 0, 1) := by decide +kernel
theorem d15_1 : decode jdk_29_method_65_code 1 = .ok (.iload_n 1, 1) := by decide +kernel
theorem d15_2 : decode jdk_29_method_65_code 2 = .ok (.if_icmp .lt 7, 3) := by decide +kernel
theorem d15_5 : decode jdk_29_method_65_code 5 = .ok (.iload_n 0, 1) := by decide +kernel
theorem d15_6 : decode jdk_29_method_65_code 6 = .ok (.goto 4, 3) := by decide +kernel
theorem d15_10 : decode jdk_29_method_65_code 10 = .ok (.ireturn, 1) := by decide +kernel
theorem d16_0 : decode prog_3_method_1_code 0 = .ok (.aload_n 0, 1) := by decide +kernel
theorem d16_1 : decode prog_3_method_1_code 1 = .ok (.invokespecial 1, 3) := by decide +kernel
theorem d16_4 : decode prog_3_method_1_code 4 = .ok (.aload_n 0, 1) := by decide +kernel
theorem d16_5 : decode prog_3_method_1_code 5 = .ok (.aload_n 1, 1) := by decide +kernel
theorem d16_6 : decode prog_3_method_1_code 6 = .ok (.invokestatic 7, 3) := by decide +kernel
theorem d16_9 : decode prog_3_method_1_code 9 = .ok (.putfield 13, 3) := by decide +kernel
theorem d16_12 : decode prog_3_method_1_code 12 = .ok (.aload_n 0, 1) := by decide +kernel
theorem d16_13 : decode prog_3_method_1_code 13 = .ok (.aload_n 2, 1) := by decide +kernel
theorem d16_14 : decode prog_3_method_1_code 14 = .ok (.invokestatic 7, 3) := by decide +kernel
theorem d16_17 : decode prog_3_method_1_code 17 = .ok (.putfield 19, 3) := by decide +kernel
theorem d16_20 : decode prog_3_method_1_code 20 = .ok (.aload_n 0, 1) := by decide +kernel
theorem d16_21 : decode prog_3_method_1_code 21 = .ok (.aload_n 3, 1) := by decide +kernel
theorem d16_22 : decode prog_3_method_1_code 22 = .ok (.invokestatic 7, 3) := by decide +kernel
theorem d16_25 : decode prog_3_method_1_code 25 = .ok (.putfield 22, 3) := by decide +kernel
theorem d16_28 : decode prog_3_method_1_code 28 = .ok (.return_, 1) := by decide +kernel
theorem d17_0 : decode jdk_38_method_16_code 0 = .ok (.aload_n 0, 1) := by decide +kernel
theorem d17_1 : decode jdk_38_method_16_code 1 = .ok (.getfield 9, 3) := by decide +kernel
theorem d17_4 : decode jdk_38_method_16_code 4 = .ok (.aload_n 0, 1) := by decide +kernel
theorem d17_5 : decode jdk_38_method_16_code 5 = .ok (.getfield 48, 3) := by decide +kernel
theorem d17_8 : decode jdk_38_method_16_code 8 = .ok (.invokestatic 66, 3) := by decide +kernel
theorem d17_11 : decode jdk_38_method_16_code 11 = .ok (.areturn, 1) := by decide +kernel
theorem d18_0 : decode jdk_65_method_119_code 0 = .ok (.aload_n 0, 1) := by decide +kernel
theorem d18_1 : decode jdk_65_method_119_code 1 = .ok (.iload_n 1, 1) := by decide +kernel
theorem d18_2 : decode jdk_65_method_119_code 2 = .ok (.aload_n 0, 1) := by decide +kernel
theorem d18_3 : decode jdk_65_method_119_code 3 = .ok (.invokevirtual 86, 3) := by decide +kernel
theorem d18_6 : decode jdk_65_method_119_code 6 = .ok (.invokestatic 300, 3) := by decide +kernel
theorem d18_9 : decode jdk_65_method_119_code 9 = .ok (.areturn, 1) := by decide +kernel
theorem d19_0 : decode jdk_65_method_120_code 0 = .ok (.aload_n 2, 1) := by decide +kernel
theorem d19_1 : decode jdk_65_method_120_code 1 = .ok (.ldc 110, 2) := by decide +kernel
theorem d19_3 : decode jdk_65_method_120_code 3 = .ok (.if_acmp .ne 10, 3) := by decide +kernel
theorem d19_6 : decode jdk_65_method_120_code 6 = .ok (.iload_n 1, 1) := by decide +kernel
theorem d19_7 : decode jdk_65_method_120_code 7 = .ok (.anewarray 2, 3) := by decide +kernel
theorem d19_10 : decode jdk_65_method_120_code 10 = .ok (.goto 14, 3) := by decide +kernel
theorem d19_24 : decode jdk_65_method_120_code 24 = .ok (.astore_n 3, 1) := by decide +kernel
theorem d19_25 : decode jdk_65_method_120_code 25 = .ok (.aload_n 0, 1) := by decide +kernel
theorem d19_26 : decode jdk_65_method_120_code 26 = .ok (.iconst 0, 1) := by decide +kernel
theorem d19_27 : decode jdk_65_method_120_code 27 = .ok (.aload_n 3, 1) := by decide +kernel
theorem d19_28 : decode jdk_65_method_120_code 28 = .ok (.iconst 0, 1) := by decide +kernel
theorem d19_29 : decode jdk_65_method_120_code 29 = .ok (.aload_n 0, 1) := by decide +kernel
theorem d19_30 : decode jdk_65_method_120_code 30 = .ok (.arraylength, 1) := by decide +kernel
theorem d19_31 : decode jdk_65_method_120_code 31 = .ok (.iload_n 1, 1) := by decide +kernel
theorem d19_32 : decode jdk_65_method_120_code 32 = .ok (.invokestatic 304, 3) := by decide +kernel
theorem d19_35 : decode jdk_65_method_120_code 35 = .ok (.invokestatic 150, 3) := by decide +kernel
theorem d19_38 : decode jdk_65_method_120_code 38 = .ok (.aload_n 3, 1) := by decide +kernel
theorem d19_39 : decode jdk_65_method_120_code 39 = .ok (.areturn, 1) := by decide +kernel
theorem d20_0 : decode jdk_29_method_69_code 0 = .ok (.iload_n 0, 1) := by decide +kernel
theorem d20_1 : decode jdk_29_method_69_code 1 = .ok (.iload_n 1, 1) := by decide +kernel
theorem d20_2 : decode jdk_29_method_69_code 2 = .ok (.if_icmp .gt 7, 3) := by decide +kernel
theorem d20_9 : decode jdk_29_method_69_code 9 = .ok (.iload_n 1, 1) := by decide +kernel
theorem d20_10 : decode jdk_29_method_69_code 10 = .ok (.ireturn, 1) := by decide +kernel
theorem d21_0 : decode jdk_40_method_47_code 0 = .ok (.aload_n 0, 1) := by decide +kernel
theorem d21_1 : decode jdk_40_method_47_code 1 = .ok (.arraylength, 1) := by decide +kernel
theorem d21_2 : decode jdk_40_method_47_code 2 = .ok (.tableswitch 57 0 2 #[26, 32, 43], 26) := by decide +kernel
theorem d21_34 : decode jdk_40_method_47_code 34 = .ok (.new 96, 3) := by decide +kernel
theorem d21_37 : decode jdk_40_method_47_code 37 = .ok (.dup, 1) := by decide +kernel
theorem d21_38 : decode jdk_40_method_47_code 38 = .ok (.aload_n 0, 1) := by decide +kernel
theorem d21_39 : decode jdk_40_method_47_code 39 = .ok (.iconst 0, 1) := by decide +kernel
theorem d21_40 : decode jdk_40_method_47_code 40 = .ok (.aaload, 1) := by decide +kernel
theorem d21_41 : decode jdk_40_method_47_code 41 = .ok (.invokespecial 98, 3) := by decide +kernel
theorem d21_44 : decode jdk_40_method_47_code 44 = .ok (.areturn, 1) := by decide +kernel
theorem d21_45 : decode jdk_40_method_47_code 45 = .ok (.new 96, 3) := by decide +kernel
theorem d21_48 : decode jdk_40_method_47_code 48 = .ok (.dup, 1) := by decide +kernel
theorem d21_49 : decode jdk_40_method_47_code 49 = .ok (.aload_n 0, 1) := by decide +kernel
theorem d21_50 : decode jdk_40_method_47_code 50 = .ok (.iconst 0, 1) := by decide +kernel
theorem d21_51 : decode jdk_40_method_47_code 51 = .ok (.aaload, 1) := by decide +kernel
theorem d21_52 : decode jdk_40_method_47_code 52 = .ok (.aload_n 0, 1) := by decide +kernel
theorem d21_53 : decode jdk_40_method_47_code 53 = .ok (.iconst 1, 1) := by decide +kernel
theorem d21_54 : decode jdk_40_method_47_code 54 = .ok (.aaload, 1) := by decide +kernel
theorem d21_55 : decode jdk_40_method_47_code 55 = .ok (.invokespecial 100, 3) := by decide +kernel
theorem d21_58 : decode jdk_40_method_47_code 58 = .ok (.areturn, 1) := by decide +kernel
theorem d21_59 : decode jdk_40_method_47_code 59 = .ok (.aload_n 0, 1) := by decide +kernel
theorem d21_60 : decode jdk_40_method_47_code 60 = .ok (.invokestatic 109, 3) := by decide +kernel
theorem d21_63 : decode jdk_40_method_47_code 63 = .ok (.areturn, 1) := by decide +kernel
theorem d22_0 : decode jdk_56_method_4_code 0 = .ok (.aload_n 0, 1) := by decide +kernel
theorem d22_1 : decode jdk_56_method_4_code 1 = .ok (.arraylength, 1) := by decide +kernel
theorem d22_2 : decode jdk_56_method_4_code 2 = .ok (.anewarray 2, 3) := by decide +kernel
theorem d22_5 : decode jdk_56_method_4_code 5 = .ok (.astore_n 1, 1) := by decide +kernel
theorem d22_6 : decode jdk_56_method_4_code 6 = .ok (.iconst 0, 1) := by decide +kernel
theorem d22_7 : decode jdk_56_method_4_code 7 = .ok (.istore_n 2, 1) := by decide +kernel
theorem d22_8 : decode jdk_56_method_4_code 8 = .ok (.iload_n 2, 1) := by decide +kernel
theorem d22_9 : decode jdk_56_method_4_code 9 = .ok (.aload_n 0, 1) := by decide +kernel
theorem d22_10 : decode jdk_56_method_4_code 10 = .ok (.arraylength, 1) := by decide +kernel
theorem d22_11 : decode jdk_56_method_4_code 11 = .ok (.if_icmp .ge 18, 3) := by decide +kernel
theorem d22_14 : decode jdk_56_method_4_code 14 = .ok (.aload_n 1, 1) := by decide +kernel
theorem d22_15 : decode jdk_56_method_4_code 15 = .ok (.iload_n 2, 1) := by decide +kernel
theorem d22_16 : decode jdk_56_method_4_code 16 = .ok (.aload_n 0, 1) := by decide +kernel
theorem d22_17 : decode jdk_56_method_4_code 17 = .ok (.iload_n 2, 1) := by decide +kernel
theorem d22_18 : decode jdk_56_method_4_code 18 = .ok (.aaload, 1) := by decide +kernel
theorem d22_19 : decode jdk_56_method_4_code 19 = .ok (.invokestatic 37, 3) := by decide +kernel
theorem d22_22 : decode jdk_56_method_4_code 22 = .ok (.aastore, 1) := by decide +kernel
theorem d22_23 : decode jdk_56_method_4_code 23 = .ok (.iinc 2 1, 3) := by decide +kernel
theorem d22_26 : decode jdk_56_method_4_code 26 = .ok (.goto (-18), 3) := by decide +kernel
theorem d22_29 : decode jdk_56_method_4_code 29 = .ok (.new 12, 3) := by decide +kernel
theorem d22_32 : decode jdk_56_method_4_code 32 = .ok (.dup, 1) := by decide +kernel
theorem d22_33 : decode jdk_56_method_4_code 33 = .ok (.aload_n 1, 1) := by decide +kernel
theorem d22_34 : decode jdk_56_method_4_code 34 = .ok (.iconst 0, 1) := by decide +kernel
theorem d22_35 : decode jdk_56_method_4_code 35 = .ok (.invokespecial 43, 3) := by decide +kernel
theorem d22_38 : decode jdk_56_method_4_code 38 = .ok (.areturn, 1) := by decide +kernel
theorem d23_0 : decode jdk_31_method_10_code 0 = .ok (.aload_n 0, 1) := by decide +kernel
theorem d23_1 : decode jdk_31_method_10_code 1 = .ok (.ifnonnull 11, 3) := by decide +kernel
theorem d23_12 : decode jdk_31_method_10_code 12 = .ok (.aload_n 0, 1) := by decide +kernel
theorem d23_13 : decode jdk_31_method_10_code 13 = .ok (.areturn, 1) := by decide +kernel
theorem d24_0 : decode jdk_45_method_1_code 0 = .ok (.aload_n 0, 1) := by decide +kernel
theorem d24_1 : decode jdk_45_method_1_code 1 = .ok (.invokespecial 1, 3) := by decide +kernel
theorem d24_4 : decode jdk_45_method_1_code 4 = .ok (.aload_n 0, 1) := by decide +kernel
theorem d24_5 : decode jdk_45_method_1_code 5 = .ok (.aload_n 1, 1) := by decide +kernel
theorem d24_6 : decode jdk_45_method_1_code 6 = .ok (.putfield 7, 3) := by decide +kernel
theorem d24_9 : decode jdk_45_method_1_code 9 = .ok (.aload_n 0, 1) := by decide +kernel
theorem d24_10 : decode jdk_45_method_1_code 10 = .ok (.iload_n 2, 1) := by decide +kernel
theorem d24_11 : decode jdk_45_method_1_code 11 = .ok (.putfield 13, 3) := by decide +kernel
theorem d24_14 : decode jdk_45_method_1_code 14 = .ok (.return_, 1) := by decide +kernel
theorem d25_0 : decode jdk_46_method_1_code 0 = .ok (.aload_n 0, 1) := by decide +kernel
theorem d25_1 : decode jdk_46_method_1_code 1 = .ok (.invokespecial 1, 3) := by decide +kernel
theorem d25_4 : decode jdk_46_method_1_code 4 = .ok (.return_, 1) := by decide +kernel
theorem d26_0 : decode jdk_47_method_1_code 0 = .ok (.aload_n 0, 1) := by decide +kernel
theorem d26_1 : decode jdk_47_method_1_code 1 = .ok (.invokespecial 1, 3) := by decide +kernel
theorem d26_4 : decode jdk_47_method_1_code 4 = .ok (.return_, 1) := by decide +kernel
theorem d27_0 : decode jdk_44_method_2_code 0 = .ok (.aload_n 0, 1) := by decide +kernel
theorem d27_1 : decode jdk_44_method_2_code 1 = .ok (.invokespecial 1, 3) := by decide +kernel
theorem d27_4 : decode jdk_44_method_2_code 4 = .ok (.aload_n 0, 1) := by decide +kernel
theorem d27_5 : decode jdk_44_method_2_code 5 = .ok (.aload_n 1, 1) := by decide +kernel
theorem d27_6 : decode jdk_44_method_2_code 6 = .ok (.invokestatic 7, 3) := by decide +kernel
theorem d27_9 : decode jdk_44_method_2_code 9 = .ok (.putfield 13, 3) := by decide +kernel
theorem d27_12 : decode jdk_44_method_2_code 12 = .ok (.aload_n 0, 1) := by decide +kernel
theorem d27_13 : decode jdk_44_method_2_code 13 = .ok (.aload_n 2, 1) := by decide +kernel
theorem d27_14 : decode jdk_44_method_2_code 14 = .ok (.invokestatic 7, 3) := by decide +kernel
theorem d27_17 : decode jdk_44_method_2_code 17 = .ok (.putfield 24, 3) := by decide +kernel
theorem d27_20 : decode jdk_44_method_2_code 20 = .ok (.return_, 1) := by decide +kernel
theorem d28_0 : decode prog_3_method_4_code 0 = .ok (.aload_n 0, 1) := by decide +kernel
theorem d28_1 : decode prog_3_method_4_code 1 = .ok (.getfield 13, 3) := by decide +kernel
theorem d28_4 : decode prog_3_method_4_code 4 = .ok (.invokeinterface 52 1, 5) := by decide +kernel
theorem d28_9 : decode prog_3_method_4_code 9 = .ok (.ifCond .eq 19, 3) := by decide +kernel
theorem d28_12 : decode prog_3_method_4_code 12 = .ok (.aload_n 0, 1) := by decide +kernel
theorem d28_13 : decode prog_3_method_4_code 13 = .ok (.getfield 22, 3) := by decide +kernel
theorem d28_16 : decode prog_3_method_4_code 16 = .ok (.invokeinterface 52 1, 5) := by decide +kernel
theorem d28_21 : decode prog_3_method_4_code 21 = .ok (.ifCond .eq 7, 3) := by decide +kernel
theorem d28_24 : decode prog_3_method_4_code 24 = .ok (.iconst 1, 1) := by decide +kernel
theorem d28_25 : decode prog_3_method_4_code 25 = .ok (.goto 4, 3) := by decide +kernel
theorem d28_28 : decode prog_3_method_4_code 28 = .ok (.iconst 0, 1) := by decide +kernel
theorem d28_29 : decode prog_3_method_4_code 29 = .ok (.ireturn, 1) := by decide +kernel
theorem d29_0 : decode jdk_45_method_2_code 0 = .ok (.aload_n 0, 1) := by decide +kernel
theorem d29_1 : decode jdk_45_method_2_code 1 = .ok (.getfield 7, 3) := by decide +kernel
theorem d29_4 : decode jdk_45_method_2_code 4 = .ok (.arraylength, 1) := by decide +kernel
theorem d29_5 : decode jdk_45_method_2_code 5 = .ok (.ifCond .ne 7, 3) := by decide +kernel
theorem d29_8 : decode jdk_45_method_2_code 8 = .ok (.iconst 1, 1) := by decide +kernel
theorem d29_9 : decode jdk_45_method_2_code 9 = .ok (.goto 4, 3) := by decide +kernel
theorem d29_12 : decode jdk_45_method_2_code 12 = .ok (.iconst 0, 1) := by decide +kernel
theorem d29_13 : decode jdk_45_method_2_code 13 = .ok (.ireturn, 1) := by decide +kernel
theorem d30_0 : decode jdk_44_method_4_code 0 = .ok (.iconst 0, 1) := by decide +kernel
theorem d30_1 : decode jdk_44_method_4_code 1 = .ok (.ireturn, 1) := by decide +kernel
theorem d31_0 : decode prog_3_method_2_code 0 = .ok (.new 14, 3) := by decide +kernel
theorem d31_3 : decode prog_3_method_2_code 3 = .ok (.dup, 1) := by decide +kernel
theorem d31_4 : decode prog_3_method_2_code 4 = .ok (.aload_n 0, 1) := by decide +kernel
theorem d31_5 : decode prog_3_method_2_code 5 = .ok (.getfield 13, 3) := by decide +kernel
theorem d31_8 : decode prog_3_method_2_code 8 = .ok (.aload_n 0, 1) := by decide +kernel
theorem d31_9 : decode prog_3_method_2_code 9 = .ok (.getfield 19, 3) := by decide +kernel
theorem d31_12 : decode prog_3_method_2_code 12 = .ok (.aload_n 1, 1) := by decide +kernel
theorem d31_13 : decode prog_3_method_2_code 13 = .ok (.invokespecial 25, 3) := by decide +kernel
theorem d31_16 : decode prog_3_method_2_code 16 = .ok (.areturn, 1) := by decide +kernel
theorem d32_0 : decode jdk_44_method_1_code 0 = .ok (.aload_n 0, 1) := by decide +kernel
theorem d32_1 : decode jdk_44_method_1_code 1 = .ok (.invokespecial 1, 3) := by decide +kernel
theorem d32_4 : decode jdk_44_method_1_code 4 = .ok (.aload_n 0, 1) := by decide +kernel
theorem d32_5 : decode jdk_44_method_1_code 5 = .ok (.aload_n 1, 1) := by decide +kernel
theorem d32_6 : decode jdk_44_method_1_code 6 = .ok (.invokestatic 7, 3) := by decide +kernel
theorem d32_9 : decode jdk_44_method_1_code 9 = .ok (.putfield 13, 3) := by decide +kernel
theorem d32_12 : decode jdk_44_method_1_code 12 = .ok (.aload_n 0, 1) := by decide +kernel
theorem d32_13 : decode jdk_44_method_1_code 13 = .ok (.getstatic 19, 3) := by decide +kernel
theorem d32_16 : decode jdk_44_method_1_code 16 = .ok (.putfield 24, 3) := by decide +kernel
theorem d32_19 : decode jdk_44_method_1_code 19 = .ok (.return_, 1) := by decide +kernel
theorem pn_0 : plainName "java/util/AbstractCollection" = true := by first | (simp [plainName, overriddenIn]; done) | decide +kernel
theorem pn_1 : plainName "java/util/AbstractList" = true := by first | (simp [plainName, overriddenIn]; done) | decide +kernel
theorem pn_2 : plainName "java/util/ArrayList" = true := by first | (simp [plainName, overriddenIn]; done) | decide +kernel
theorem pn_3 : plainName "java/util/Objects" = true := by first | (simp [plainName, overriddenIn]; done) | decide +kernel
theorem pn_4 : plainName "java/util/ImmutableCollections$AbstractImmutableCollection" = true := by first | (simp [plainName, overriddenIn]; done) | decide +kernel
theorem pn_5 : plainName "java/util/ImmutableCollections$AbstractImmutableList" = true := by first | (simp [plainName, overriddenIn]; done) | decide +kernel
theorem pn_6 : plainName "java/util/ImmutableCollections$List12" = true := by first | (simp [plainName, overriddenIn]; done) | decide +kernel
theorem pn_7 : plainName "java/util/ImmutableCollections$ListN" = true := by first | (simp [plainName, overriddenIn]; done) | decide +kernel
theorem pn_8 : plainName "java/util/ImmutableCollections" = true := by first | (simp [plainName, overriddenIn]; done) | decide +kernel
theorem pn_9 : plainName "java/util/List" = true := by first | (simp [plainName, overriddenIn]; done) | decide +kernel
theorem pn_10 : plainName "java/util/Arrays" = true := by first | (simp [plainName, overriddenIn]; done) | decide +kernel
theorem pn_11 : plainName "com/example/witnesseth/witnesseth/agreement/Differential" = true := by first | (simp [plainName, overriddenIn]; done) | decide +kernel
theorem pn_12 : plainName "com/example/witnesseth/witnesseth/agreement/ShiftStart" = true := by first | (simp [plainName, overriddenIn]; done) | decide +kernel
theorem pn_13 : plainName "com/example/witnesseth/witnesseth/agreement/ClockDifferentials" = true := by first | (simp [plainName, overriddenIn]; done) | decide +kernel
theorem pn_14 : plainName "com/example/witnesseth/witnesseth/agreement/ClockDifferentialsIsEmptyPinLaw" = true := by first | (simp [plainName, overriddenIn]; done) | decide +kernel
theorem pd_0 : parseMethodDescriptor "()V" = some ⟨[], none⟩ := by decide +kernel
theorem pd_1 : parseMethodDescriptor "(II)I" = some ⟨[.int, .int], some .int⟩ := by decide +kernel
theorem pd_2 : parseMethodDescriptor "(I)[Ljava/lang/Object;" = some ⟨[.int], some (.array (.object "java/lang/Object"))⟩ := by decide +kernel
theorem pd_3 : parseMethodDescriptor "()[Ljava/lang/Object;" = some ⟨[], some (.array (.object "java/lang/Object"))⟩ := by decide +kernel
theorem pd_4 : parseMethodDescriptor "(Ljava/lang/Object;[Ljava/lang/Object;I)V" = some ⟨[(.object "java/lang/Object"), (.array (.object "java/lang/Object")), .int], none⟩ := by decide +kernel
theorem pd_5 : parseMethodDescriptor "(Ljava/lang/Object;)Ljava/lang/Object;" = some ⟨[(.object "java/lang/Object")], some (.object "java/lang/Object")⟩ := by decide +kernel
theorem pd_6 : parseMethodDescriptor "([Ljava/lang/Object;Z)V" = some ⟨[(.array (.object "java/lang/Object")), .boolean], none⟩ := by decide +kernel
theorem pd_7 : parseMethodDescriptor "(Ljava/lang/Object;)V" = some ⟨[(.object "java/lang/Object")], none⟩ := by decide +kernel
theorem pd_8 : parseMethodDescriptor "([Ljava/lang/Object;ILjava/lang/Class;)[Ljava/lang/Object;" = some ⟨[(.array (.object "java/lang/Object")), .int, (.object "java/lang/Class")], some (.array (.object "java/lang/Object"))⟩ := by decide +kernel
theorem pd_9 : parseMethodDescriptor "([Ljava/lang/Object;I)[Ljava/lang/Object;" = some ⟨[(.array (.object "java/lang/Object")), .int], some (.array (.object "java/lang/Object"))⟩ := by decide +kernel
theorem pd_10 : parseMethodDescriptor "(Ljava/lang/Object;Ljava/lang/Object;)V" = some ⟨[(.object "java/lang/Object"), (.object "java/lang/Object")], none⟩ := by decide +kernel
theorem pd_11 : parseMethodDescriptor "([Ljava/lang/Object;)Ljava/util/List;" = some ⟨[(.array (.object "java/lang/Object"))], some (.object "java/util/List")⟩ := by decide +kernel
theorem pd_12 : parseMethodDescriptor "()Z" = some ⟨[], some .boolean⟩ := by decide +kernel
theorem pd_13 : parseMethodDescriptor "()Ljava/util/List;" = some ⟨[], some (.object "java/util/List")⟩ := by decide +kernel
theorem pd_14 : parseMethodDescriptor "(Ljava/util/Collection;)Ljava/util/List;" = some ⟨[(.object "java/util/Collection")], some (.object "java/util/List")⟩ := by decide +kernel
theorem pd_15 : parseMethodDescriptor "(Ljava/util/List;Ljava/util/List;Ljava/util/List;)V" = some ⟨[(.object "java/util/List"), (.object "java/util/List"), (.object "java/util/List")], none⟩ := by decide +kernel
theorem pd_16 : parseMethodDescriptor "(Ljava/util/List;)Lcom/example/witnesseth/witnesseth/agreement/ClockDifferentials;" = some ⟨[(.object "java/util/List")], some (.object "com/example/witnesseth/witnesseth/agreement/ClockDifferentials")⟩ := by decide +kernel
theorem pd_17 : parseMethodDescriptor "(Ljava/lang/Object;)Z" = some ⟨[(.object "java/lang/Object")], some .boolean⟩ := by decide +kernel
theorem pd_18 : parseMethodDescriptor "(Ljava/lang/String;Ljava/math/BigDecimal;)V" = some ⟨[(.object "java/lang/String"), (.object "java/math/BigDecimal")], none⟩ := by decide +kernel
theorem pd_19 : parseMethodDescriptor "(Ljava/util/List;Ljava/time/LocalTime;Lcom/example/witnesseth/witnesseth/agreement/Differential;Ljava/time/ZoneId;)V" = some ⟨[(.object "java/util/List"), (.object "java/time/LocalTime"), (.object "com/example/witnesseth/witnesseth/agreement/Differential"), (.object "java/time/ZoneId")], none⟩ := by decide +kernel
theorem ef_aci (m : MethodId) (x0 : Addr) : entryFrame m #[.ref x0] 1 = mkF m 0 #[.val (.ref x0)] [] := by first | (simp [entryFrame, mkF, argsToLocals, Value.category]; done) | rfl
def Q_aci (Z : State) (x : Addr) (h0 : Heap) (n0 : Nat) (v : Option Value) (h : Heap) (L : List Loc) : Prop := v = none ∧ Fr n0 L ∧ h = h0
set_option maxRecDepth 65536 in
set_option maxHeartbeats 40000000 in
theorem rm_aci (l : Launch) (Z : State) (a0 : Array Value) (hw : ∀ d ∈ tables_1, d.before a0 Z = true) (ws : List Jvm.Cond) (x : Addr) (h0 : Heap) (n0 : Nat) (O : Old Z n0 h0)  :
    MetFree l (⟨"java/util/AbstractCollection", "<init>", "()V"⟩ : MethodName) (head1 (Jvm.Cond.code (⟨"java/util/AbstractCollection", "<init>", "()V"⟩ : MethodName) jdk_22_method_1_code 1 none :: ws) ({ frames := 1, cells := 0, slots := 0, locals := 12 } : Room)) (fun aa U => aa = #[.ref x] ∧ Z.Warmed39 U.vm ∧ U.heap = h0) (fun _ _ _ _ _ => True) (fun _ U o U' => Own.End U (Q_aci Z x h0 n0) 0 0 o U') := by
  refine MetFree.of_bodySF (plainFor_of_name pn_0) hisR ?_
  intro p e s m args below meth c s₁ Bd hml0 hP hK
  obtain ⟨rfl, hZ, hh⟩ := hP
  have hx := Bd.exec
  have hby := Bd.bytes
  have hml : c.maxLocals = 1 := hml0
  have hown : s.vm.findClass "java/util/AbstractCollection" = some m.cls := findClass_of_methodNamed Bd.named
  have hnm := (name_of_methodNamed Bd.named Bd.method).1
  have hret := Bd.returns
  have hlocks : meth.locks = false := Bd.notSynchronized
  have X0 : Stand p l e ({ frames := 1, cells := 0, slots := 0, locals := 12 } : Room) s m #[.ref x] below meth c s₁ [] 0 0 := Stand.of_body Bd
  have e0 : s₁.heap = h0 := by rw [← hh, Bd.state]; rfl
  have N0 := Fr.nil n0
  show Own.Go p e below (Own.End s (Q_aci Z x h0 n0) 0 0) (s₁.setTop (entryFrame m #[.ref x] 1))
  refine Own.Go.eq (ef_aci m x) ?_
  refine Own.g_aloadN X0 hx (hb hby d5_0) rfl rfl 1 rfl ?_
  refine Own.g_initO X0 hx hZ hown (hw _ (List.mem_of_getElem? (i := 34) rfl)) (hw _ (List.mem_of_getElem? (i := 7) rfl)) (hw _ (List.mem_of_getElem? (i := 8) rfl)) e0 (by rw [hml]; rfl) (hb hby d5_1) (by decide) (W := 0) (Nat.le_of_ble_eq_true rfl) (by decide) 4 rfl ?_
  intro T1 X1 e1
  refine Own.g_retV X1 hx hret hlocks (hb hby d5_4) (by decide) (by decide) e1 ?_
  exact ⟨rfl, N0, rfl⟩
theorem ef_abl (m : MethodId) (x0 : Addr) : entryFrame m #[.ref x0] 1 = mkF m 0 #[.val (.ref x0)] [] := by first | (simp [entryFrame, mkF, argsToLocals, Value.category]; done) | rfl
def Q_abl (Z : State) (x : Addr) (v0 : Value) (v1 : Value) (v2 : Value) (h0 : Heap) (n0 : Nat) (v : Option Value) (h : Heap) (L : List Loc) : Prop := v = none ∧ Fr n0 L ∧ Keep h0 h [x] ∧ Exa Z h x "java/util/ArrayList" ∧ Fld Z h x "java/util/AbstractList" "modCount" "I" (.int 0) ∧ Fld Z h x "java/util/ArrayList" "elementData" "[Ljava/lang/Object;" v1 ∧ Fld Z h x "java/util/ArrayList" "size" "I" v2
set_option maxRecDepth 65536 in
set_option maxHeartbeats 40000000 in
theorem rm_abl (l : Launch) (Z : State) (a0 : Array Value) (hw : ∀ d ∈ tables_1, d.before a0 Z = true) (ws : List Jvm.Cond) (x : Addr) (v0 : Value) (v1 : Value) (v2 : Value) (h0 : Heap) (n0 : Nat) (O : Old Z n0 h0) (n0_x : n0 ≤ x) (E_x : Exa Z h0 x "java/util/ArrayList") (F_x_modCount : Fld Z h0 x "java/util/AbstractList" "modCount" "I" v0) (F_x_elementData : Fld Z h0 x "java/util/ArrayList" "elementData" "[Ljava/lang/Object;" v1) (F_x_size : Fld Z h0 x "java/util/ArrayList" "size" "I" v2) :
    MetFree l (⟨"java/util/AbstractList", "<init>", "()V"⟩ : MethodName) (head1 (Jvm.Cond.code (⟨"java/util/AbstractList", "<init>", "()V"⟩ : MethodName) jdk_39_method_1_code 1 none :: ws) ({ frames := 2, cells := 0, slots := 0, locals := 26 } : Room)) (fun aa U => aa = #[.ref x] ∧ Z.Warmed39 U.vm ∧ U.heap = h0) (fun _ _ _ _ _ => True) (fun _ U o U' => Own.End U (Q_abl Z x v0 v1 v2 h0 n0) 0 0 o U') := by
  refine MetFree.of_bodySF (plainFor_of_name pn_1) hisR ?_
  intro p e s m args below meth c s₁ Bd hml0 hP hK
  obtain ⟨rfl, hZ, hh⟩ := hP
  have hx := Bd.exec
  have hby := Bd.bytes
  have hml : c.maxLocals = 1 := hml0
  have hown : s.vm.findClass "java/util/AbstractList" = some m.cls := findClass_of_methodNamed Bd.named
  have hnm := (name_of_methodNamed Bd.named Bd.method).1
  have hret := Bd.returns
  have hlocks : meth.locks = false := Bd.notSynchronized
  have X0 : Stand p l e ({ frames := 2, cells := 0, slots := 0, locals := 26 } : Room) s m #[.ref x] below meth c s₁ [] 0 0 := Stand.of_body Bd
  have e0 : s₁.heap = h0 := by rw [← hh, Bd.state]; rfl
  have N0 := Fr.nil n0
  show Own.Go p e below (Own.End s (Q_abl Z x v0 v1 v2 h0 n0) 0 0) (s₁.setTop (entryFrame m #[.ref x] 1))
  refine Own.Go.eq (ef_abl m x) ?_
  have KP : Keep h0 h0 [x] := Keep.refl _ _
  refine Own.g_aloadN X0 hx (hb hby d4_0) rfl rfl 1 rfl ?_
  refine Own.g_special X0 hx (y := (⟨"java/util/AbstractCollection", "<init>", "()V"⟩ : MethodName)) rfl hown (mvT hZ (hw _ (List.mem_of_getElem? (i := 28) rfl))) (mvT hZ (hw _ (List.mem_of_getElem? (i := 29) rfl))) (mvT hZ (hw _ (List.mem_of_getElem? (i := 33) rfl))) (by decide) (a := x) [] (Own.back (W := 0) (rm_aci l Z a0 hw [] x h0 n0 O ) hZ (hw _ (List.mem_of_getElem? (i := 33) rfl)) (hw _ (List.mem_of_getElem? (i := 32) rfl)) (by decide) (by decide)) e0 (by rw [hml]; rfl) [] (lenOf pd_0 rfl) rfl (Nat.le_of_ble_eq_true rfl) (hb hby d4_1) (by decide) (by decide) 4 rfl ?_
  rintro _ T1 L1 X1 ⟨rfl, N1q, eH1⟩
  have N1 := Fr.app N0 N1q
  show Own.Go p e below _ (T1.setTop (mkF m 4 #[.val (.ref x)] []))
  refine Own.g_aloadN X1 hx (hb hby d4_4) rfl rfl 5 rfl ?_
  refine Own.g_iconst X1 hx (0 : Int32) (hb hby d4_5) rfl 6 rfl ?_
  refine Own.g_putF X1 hx hZ hown (host := "") (Or.inl (hw _ (List.mem_of_getElem? (i := 35) rfl))) Via.refl eH1 F_x_modCount E_x (Or.inl (hw _ (List.mem_of_getElem? (i := 36) rfl))) (hw _ (List.mem_of_getElem? (i := 17) rfl)) (ty := .int) (by decide) rfl rfl (hb hby d4_6) 9 rfl ?_
  clear F_x_modCount; intro T2 h2 X2 e2 W2 F_x_modCount Ew2
  replace E_x := E_x.wr W2
  replace F_x_elementData := F_x_elementData.other W2 (Or.inr (slot_ne (Or.inl (hw _ (List.mem_of_getElem? (i := 39) rfl))) (Or.inl (hw _ (List.mem_of_getElem? (i := 36) rfl))) (by decide) (t := (.array (.object "java/lang/Object"))) (t' := .int) (by decide) (by decide)))
  replace F_x_size := F_x_size.other W2 (Or.inr (slot_ne (Or.inl (hw _ (List.mem_of_getElem? (i := 68) rfl))) (Or.inl (hw _ (List.mem_of_getElem? (i := 36) rfl))) (by decide) (t := .int) (t' := .int) (by decide) (by decide)))
  replace O := O.wr W2 n0_x
  replace KP := KP.wr W2 (Or.inl (List.mem_of_getElem? (i := 0) rfl))
  have N2 := Fr.snoc X2 N1 n0_x
  refine Own.g_retV X2 hx hret hlocks (hb hby d4_9) (by decide) (by decide) e2 ?_
  exact ⟨rfl, N2, KP, E_x, F_x_modCount, F_x_elementData, F_x_size⟩
theorem ef_ali (m : MethodId) (x0 : Addr) : entryFrame m #[.ref x0] 1 = mkF m 0 #[.val (.ref x0)] [] := by first | (simp [entryFrame, mkF, argsToLocals, Value.category]; done) | rfl
def Q_ali (Z : State) (x : Addr) (da : Addr) (kda : ClassId) (h0 : Heap) (n0 : Nat) (v : Option Value) (h : Heap) (L : List Loc) : Prop := v = none ∧ Fr n0 L ∧ Keep h0 h [x] ∧ Exa Z h x "java/util/ArrayList" ∧ Fld Z h x "java/util/AbstractList" "modCount" "I" (.int 0) ∧ Fld Z h x "java/util/ArrayList" "elementData" "[Ljava/lang/Object;" (.ref da) ∧ Fld Z h x "java/util/ArrayList" "size" "I" (.int 0)
set_option maxRecDepth 65536 in
set_option maxHeartbeats 40000000 in
theorem rm_ali (l : Launch) (Z : State) (a0 : Array Value) (hw : ∀ d ∈ tables_1, d.before a0 Z = true) (ws : List Jvm.Cond) (x : Addr) (da : Addr) (kda : ClassId) (h0 : Heap) (n0 : Nat) (O : Old Z n0 h0) (n0_x : n0 ≤ x) (SD : Sta Z Z.heap "java/util/ArrayList" "DEFAULTCAPACITY_EMPTY_ELEMENTDATA" "[Ljava/lang/Object;" (.ref da)) (AD : Arv Z Z.heap da kda (.object "java/lang/Object") 0 [] .null) (E_x : Exa Z h0 x "java/util/ArrayList") (F_x_modCount : Fld Z h0 x "java/util/AbstractList" "modCount" "I" (.int 0)) (F_x_elementData : Fld Z h0 x "java/util/ArrayList" "elementData" "[Ljava/lang/Object;" .null) (F_x_size : Fld Z h0 x "java/util/ArrayList" "size" "I" (.int 0)) :
    MetFree l (⟨"java/util/ArrayList", "<init>", "()V"⟩ : MethodName) (head1 (Jvm.Cond.code (⟨"java/util/ArrayList", "<init>", "()V"⟩ : MethodName) jdk_38_method_2_code 1 none :: ws) ({ frames := 3, cells := 0, slots := 0, locals := 40 } : Room)) (fun aa U => aa = #[.ref x] ∧ Z.Warmed39 U.vm ∧ U.heap = h0) (fun _ _ _ _ _ => True) (fun _ U o U' => Own.End U (Q_ali Z x da kda h0 n0) 0 0 o U') := by
  refine MetFree.of_bodySF (plainFor_of_name pn_2) hisR ?_
  intro p e s m args below meth c s₁ Bd hml0 hP hK
  obtain ⟨rfl, hZ, hh⟩ := hP
  have hx := Bd.exec
  have hby := Bd.bytes
  have hml : c.maxLocals = 1 := hml0
  have hown : s.vm.findClass "java/util/ArrayList" = some m.cls := findClass_of_methodNamed Bd.named
  have hnm := (name_of_methodNamed Bd.named Bd.method).1
  have hret := Bd.returns
  have hlocks : meth.locks = false := Bd.notSynchronized
  have X0 : Stand p l e ({ frames := 3, cells := 0, slots := 0, locals := 40 } : Room) s m #[.ref x] below meth c s₁ [] 0 0 := Stand.of_body Bd
  have e0 : s₁.heap = h0 := by rw [← hh, Bd.state]; rfl
  have N0 := Fr.nil n0
  show Own.Go p e below (Own.End s (Q_ali Z x da kda h0 n0) 0 0) (s₁.setTop (entryFrame m #[.ref x] 1))
  refine Own.Go.eq (ef_ali m x) ?_
  have KP : Keep h0 h0 [x] := Keep.refl _ _
  refine Own.g_aloadN X0 hx (hb hby d3_0) rfl rfl 1 rfl ?_
  refine Own.g_special X0 hx (y := (⟨"java/util/AbstractList", "<init>", "()V"⟩ : MethodName)) rfl hown (mvT hZ (hw _ (List.mem_of_getElem? (i := 22) rfl))) (mvT hZ (hw _ (List.mem_of_getElem? (i := 23) rfl))) (mvT hZ (hw _ (List.mem_of_getElem? (i := 27) rfl))) (by decide) (a := x) [] (Own.back (W := 0) (rm_abl l Z a0 hw [] x (.int 0) .null (.int 0) h0 n0 O n0_x E_x F_x_modCount F_x_elementData F_x_size) hZ (hw _ (List.mem_of_getElem? (i := 27) rfl)) (hw _ (List.mem_of_getElem? (i := 26) rfl)) (by decide) (by decide)) e0 (by rw [hml]; rfl) [] (lenOf pd_0 rfl) rfl (Nat.le_of_ble_eq_true rfl) (hb hby d3_1) (by decide) (by decide) 4 rfl ?_
  rintro _ T1 L1 X1 ⟨rfl, N1q, K1, E_x, F_x_modCount, F_x_elementData, F_x_size⟩
  have N1 := Fr.app N0 N1q
  replace O := O.keep K1 (allS n0_x all0)
  replace KP := KP.trans K1 (allS (Or.inl (List.mem_of_getElem? (i := 0) rfl)) all0)
  show Own.Go p e below _ (T1.setTop (mkF m 4 #[.val (.ref x)] []))
  refine Own.g_aloadN X1 hx (hb hby d3_4) rfl rfl 5 rfl ?_
  refine Own.g_getS X1 hx hZ hown (host := "") (Or.inl (hw _ (List.mem_of_getElem? (i := 37) rfl))) Via.refl (rfl : T1.heap = T1.heap) (SD.ext O.2) (hb hby d3_5) 8 rfl ?_
  intro T2 X2 e2
  refine Own.g_putF X2 hx hZ hown (host := "") (Or.inl (hw _ (List.mem_of_getElem? (i := 38) rfl))) Via.refl e2 F_x_elementData E_x (Or.inl (hw _ (List.mem_of_getElem? (i := 39) rfl))) (hw _ (List.mem_of_getElem? (i := 17) rfl)) (ty := (.array (.object "java/lang/Object"))) (by decide) rfl rfl (hb hby d3_8) 11 rfl ?_
  clear F_x_elementData; intro T3 h3 X3 e3 W3 F_x_elementData Ew3
  replace E_x := E_x.wr W3
  replace F_x_modCount := F_x_modCount.other W3 (Or.inr (slot_ne (Or.inl (hw _ (List.mem_of_getElem? (i := 36) rfl))) (Or.inl (hw _ (List.mem_of_getElem? (i := 39) rfl))) (by decide) (t := .int) (t' := (.array (.object "java/lang/Object"))) (by decide) (by decide)))
  replace F_x_size := F_x_size.other W3 (Or.inr (slot_ne (Or.inl (hw _ (List.mem_of_getElem? (i := 68) rfl))) (Or.inl (hw _ (List.mem_of_getElem? (i := 39) rfl))) (by decide) (t := .int) (t' := (.array (.object "java/lang/Object"))) (by decide) (by decide)))
  replace O := O.wr W3 n0_x
  replace KP := KP.wr W3 (Or.inl (List.mem_of_getElem? (i := 0) rfl))
  have N3 := Fr.snoc X3 N1 n0_x
  refine Own.g_retV X3 hx hret hlocks (hb hby d3_11) (by decide) (by decide) e3 ?_
  exact ⟨rfl, N3, KP, E_x, F_x_modCount, F_x_elementData, F_x_size⟩
theorem ef_max (m : MethodId) (x0 : Int32) (x1 : Int32) : entryFrame m #[.int x0, .int x1] 2 = mkF m 0 #[.val (.int x0), .val (.int x1)] [] := by first | (simp [entryFrame, mkF, argsToLocals, Value.category]; done) | rfl
def Q_max (Z : State) (x1 : Int32) (x2 : Int32) (h0 : Heap) (n0 : Nat) (v : Option Value) (h : Heap) (L : List Loc) : Prop := v = some (.int x1) ∧ Fr n0 L ∧ h = h0
set_option maxRecDepth 65536 in
set_option maxHeartbeats 40000000 in
theorem rm_max (l : Launch) (Z : State) (a0 : Array Value) (hw : ∀ d ∈ tables_1, d.before a0 Z = true) (ws : List Jvm.Cond) (x1 : Int32) (x2 : Int32) (h0 : Heap) (n0 : Nat) (O : Old Z n0 h0) (hc : ¬ x1 < x2) :
    MetFree l (⟨"java/lang/Math", "max", "(II)I"⟩ : MethodName) (head1 (Jvm.Cond.code (⟨"java/lang/Math", "max", "(II)I"⟩ : MethodName) jdk_29_method_65_code 2 (some .int) :: ws) ({ frames := 0, cells := 0, slots := 0, locals := 0 } : Room)) (fun aa U => aa = #[.int x1, .int x2] ∧ Z.Warmed39 U.vm ∧ U.heap = h0) (fun _ _ _ _ _ => True) (fun _ U o U' => Own.End U (Q_max Z x1 x2 h0 n0) 0 0 o U') := by
  refine MetFree.of_bodySF (Jvm.Free.JP.mathPlain rfl (by decide +kernel)) hisR ?_
  intro p e s m args below meth c s₁ Bd hml0 hP hK
  obtain ⟨rfl, hZ, hh⟩ := hP
  have hx := Bd.exec
  have hby := Bd.bytes
  have hml : c.maxLocals = 2 := hml0
  have hown : s.vm.findClass "java/lang/Math" = some m.cls := findClass_of_methodNamed Bd.named
  have hnm := (name_of_methodNamed Bd.named Bd.method).1
  have hret := Bd.returns
  have hlocks : meth.locks = false := Bd.notSynchronized
  have X0 : Stand p l e ({ frames := 0, cells := 0, slots := 0, locals := 0 } : Room) s m #[.int x1, .int x2] below meth c s₁ [] 0 0 := Stand.of_body Bd
  have e0 : s₁.heap = h0 := by rw [← hh, Bd.state]; rfl
  have N0 := Fr.nil n0
  show Own.Go p e below (Own.End s (Q_max Z x1 x2 h0 n0) 0 0) (s₁.setTop (entryFrame m #[.int x1, .int x2] 2))
  refine Own.Go.eq (ef_max m x1 x2) ?_
  refine Own.g_iloadN X0 hx (hb hby d15_0) rfl 1 rfl ?_
  refine Own.g_iloadN X0 hx (hb hby d15_1) rfl 2 rfl ?_
  refine Own.g_icmp_lt_f X0 hx (hb hby d15_2) hc 5 rfl ?_
  refine Own.g_iloadN X0 hx (hb hby d15_5) rfl 6 rfl ?_
  refine Own.g_goto X0 hx (hb hby d15_6) 10 (by decide) ?_
  refine Own.g_ret X0 hx hret hlocks rfl (Or.inl ⟨rfl, by simp, _, rfl⟩) (hb hby d15_10) (by decide) (by decide) e0 ?_
  exact ⟨rfl, N0, rfl⟩
theorem ef_gro1 (m : MethodId) (x0 : Addr) (x1 : Int32) : entryFrame m #[.ref x0, .int x1] 4 = mkF m 0 #[.val (.ref x0), .val (.int x1), .unset, .unset] [] := by first | (simp [entryFrame, mkF, argsToLocals, Value.category]; done) | rfl
def Q_gro1 (Z : State) (x : Addr) (mc : Value) (da : Addr) (kda : ClassId) (h0 : Heap) (n0 : Nat) (v : Option Value) (h : Heap) (L : List Loc) : Prop := ∃ (d : Addr) (k : ClassId), v = some (.ref d) ∧ Fr n0 L ∧ Keep h0 h [x] ∧ h0.size ≤ d ∧ Exa Z h x "java/util/ArrayList" ∧ Fld Z h x "java/util/AbstractList" "modCount" "I" mc ∧ Fld Z h x "java/util/ArrayList" "elementData" "[Ljava/lang/Object;" (.ref d) ∧ Fld Z h x "java/util/ArrayList" "size" "I" (.int 0) ∧ Arv Z h d k (.object "java/lang/Object") 10 [.null, .null, .null, .null, .null, .null, .null, .null, .null, .null] .null ∧ Exa Z h d "[Ljava/lang/Object;" ∧ Ovr Z k "java/lang/Object"
set_option maxRecDepth 65536 in
set_option maxHeartbeats 40000000 in
theorem rm_gro1 (l : Launch) (Z : State) (a0 : Array Value) (hw : ∀ d ∈ tables_1, d.before a0 Z = true) (ws : List Jvm.Cond) (x : Addr) (mc : Value) (da : Addr) (kda : ClassId) (h0 : Heap) (n0 : Nat) (O : Old Z n0 h0) (n0_x : n0 ≤ x) (SD : Sta Z Z.heap "java/util/ArrayList" "DEFAULTCAPACITY_EMPTY_ELEMENTDATA" "[Ljava/lang/Object;" (.ref da)) (AD : Arv Z Z.heap da kda (.object "java/lang/Object") 0 [] .null) (E_x : Exa Z h0 x "java/util/ArrayList") (F_x_modCount : Fld Z h0 x "java/util/AbstractList" "modCount" "I" mc) (F_x_elementData : Fld Z h0 x "java/util/ArrayList" "elementData" "[Ljava/lang/Object;" (.ref da)) (F_x_size : Fld Z h0 x "java/util/ArrayList" "size" "I" (.int 0)) :
    MetFree l (⟨"java/util/ArrayList", "grow", "(I)[Ljava/lang/Object;"⟩ : MethodName) (head1 (Jvm.Cond.code (⟨"java/util/ArrayList", "grow", "(I)[Ljava/lang/Object;"⟩ : MethodName) jdk_38_method_6_code 4 (some (.array (.object "java/lang/Object"))) :: ws) ({ frames := 1, cells := 1, slots := 10, locals := 20 } : Room)) (fun aa U => aa = #[.ref x, .int (1 : Int32)] ∧ Z.Warmed39 U.vm ∧ U.heap = h0) (fun _ _ _ _ _ => True) (fun _ U o U' => Own.End U (Q_gro1 Z x mc da kda h0 n0) 1 10 o U') := by
  refine MetFree.of_bodySF (plainFor_of_name pn_2) hisR ?_
  intro p e s m args below meth c s₁ Bd hml0 hP hK
  obtain ⟨rfl, hZ, hh⟩ := hP
  have hx := Bd.exec
  have hby := Bd.bytes
  have hml : c.maxLocals = 4 := hml0
  have hown : s.vm.findClass "java/util/ArrayList" = some m.cls := findClass_of_methodNamed Bd.named
  have hnm := (name_of_methodNamed Bd.named Bd.method).1
  have hret := Bd.returns
  have hlocks : meth.locks = false := Bd.notSynchronized
  have X0 : Stand p l e ({ frames := 1, cells := 1, slots := 10, locals := 20 } : Room) s m #[.ref x, .int (1 : Int32)] below meth c s₁ [] 0 0 := Stand.of_body Bd
  have e0 : s₁.heap = h0 := by rw [← hh, Bd.state]; rfl
  have N0 := Fr.nil n0
  show Own.Go p e below (Own.End s (Q_gro1 Z x mc da kda h0 n0) 1 10) (s₁.setTop (entryFrame m #[.ref x, .int (1 : Int32)] 4))
  refine Own.Go.eq (ef_gro1 m x (1 : Int32)) ?_
  have KP : Keep h0 h0 [x] := Keep.refl _ _
  refine Own.g_aloadN X0 hx (hb hby d14_0) rfl rfl 1 rfl ?_
  refine Own.g_getF X0 hx hZ hown (host := "") (Or.inl (hw _ (List.mem_of_getElem? (i := 38) rfl))) Via.refl e0 F_x_elementData (hb hby d14_1) 4 rfl ?_
  intro T1 X1 e1
  refine Own.g_alen X1 hx hZ e1 (AD.ext O.2) (hb hby d14_4) 5 rfl ?_
  refine Own.g_istoreN X1 hx #[.val (.ref x), .val (.int (1 : Int32)), .val (.int (0 : Int32)), .unset] (hb hby d14_5) rfl 6 rfl ?_
  refine Own.g_iloadN X1 hx (hb hby d14_6) rfl 7 rfl ?_
  refine Own.g_if_gt_f X1 hx (hb hby d14_7) (by decide) 10 rfl ?_
  refine Own.g_aloadN X1 hx (hb hby d14_10) rfl rfl 11 rfl ?_
  refine Own.g_getF X1 hx hZ hown (host := "") (Or.inl (hw _ (List.mem_of_getElem? (i := 38) rfl))) Via.refl e1 F_x_elementData (hb hby d14_11) 14 rfl ?_
  intro T2 X2 e2
  refine Own.g_getS X2 hx hZ hown (host := "") (Or.inl (hw _ (List.mem_of_getElem? (i := 37) rfl))) Via.refl e2 (SD.ext O.2) (hb hby d14_14) 17 rfl ?_
  intro T3 X3 e3
  refine Own.g_acmp X3 hx rfl rfl (hb hby d14_17) true (decide_eq_true rfl) 45 (by decide) ?_
  refine Own.g_aloadN X3 hx (hb hby d14_45) rfl rfl 46 rfl ?_
  refine Own.g_bipush X3 hx (10 : Int32) (hb hby d14_46) rfl 48 rfl ?_
  refine Own.g_iloadN X3 hx (hb hby d14_48) rfl 49 rfl ?_
  refine Own.g_callS X3 hx (y := (⟨"java/lang/Math", "max", "(II)I"⟩ : MethodName)) hown (mvT hZ (hw _ (List.mem_of_getElem? (i := 103) rfl))) (mvT hZ (hw _ (List.mem_of_getElem? (i := 104) rfl))) (mvT hZ (hw _ (List.mem_of_getElem? (i := 105) rfl))) (mvT hZ (hw _ (List.mem_of_getElem? (i := 106) rfl))) (by decide) [.int (10 : Int32), .int (1 : Int32)] (Own.back (W := 1) (rm_max l Z a0 hw [] (10 : Int32) (1 : Int32) h0 n0 O (by decide)) hZ (hw _ (List.mem_of_getElem? (i := 106) rfl)) (hw _ (List.mem_of_getElem? (i := 105) rfl)) (by decide) (by decide)) e3 (by rw [hml]; rfl) [(.ref x)] (lenOf pd_1 rfl) rfl (Nat.le_of_ble_eq_true rfl) (hb hby d14_49) (by decide) (by decide) 52 rfl ?_
  rintro _ T4 L4 X4 ⟨rfl, N4q, eH4⟩
  have N4 := Fr.app N0 N4q
  show Own.Go p e below _ (T4.setTop (mkF m 52 #[.val (.ref x), .val (.int (1 : Int32)), .val (.int (0 : Int32)), .unset] [(.int (10 : Int32)), (.ref x)]))
  refine Own.g_newRE X4 hx hZ hown (hw _ (List.mem_of_getElem? (i := 107) rfl)) (hw _ (List.mem_of_getElem? (i := 108) rfl)) eH4 (hb hby d14_52) (by decide) 10 (by decide) (by decide) (by decide) (by decide) "[Ljava/lang/Object;" (by decide) 55 rfl [.null, .null, .null, .null, .null, .null, .null, .null, .null, .null] (by intro i; rcases i with _ | _ | _ | _ | _ | _ | _ | _ | _ | _ | i <;> rfl) ?_
  intro T5 h5 d k_d X5 e5 E5 g5 V_d E_d O_d
  have ne_x_d : x ≠ d := Nat.ne_of_lt (Nat.lt_of_lt_of_le (E_x.lt) (Nat.le_of_eq g5.symm))
  have n0_d : n0 ≤ d := Nat.le_trans (Nat.le_of_eq O.1.symm) (Nat.le_trans O.2.1 (Nat.le_of_eq g5.symm))
  have sz0_d : h0.size ≤ d := Nat.le_trans KP.1 (Nat.le_of_eq g5.symm)
  replace E_x := E_x.ext E5
  replace F_x_modCount := F_x_modCount.ext E5
  replace F_x_elementData := F_x_elementData.ext E5
  replace F_x_size := F_x_size.ext E5
  replace O := O.ext E5
  replace KP := KP.ext E5
  refine Own.g_dupX1 X5 hx (hb hby d14_55) rfl rfl 56 rfl ?_
  refine Own.g_putF X5 hx hZ hown (host := "") (Or.inl (hw _ (List.mem_of_getElem? (i := 38) rfl))) Via.refl e5 F_x_elementData E_x (Or.inl (hw _ (List.mem_of_getElem? (i := 39) rfl))) (hw _ (List.mem_of_getElem? (i := 17) rfl)) (ty := (.array (.object "java/lang/Object"))) (by decide) rfl rfl (hb hby d14_56) 59 rfl ?_
  clear F_x_elementData; intro T6 h6 X6 e6 W6 F_x_elementData Ew6
  replace E_x := E_x.wr W6
  replace F_x_modCount := F_x_modCount.other W6 (Or.inr (slot_ne (Or.inl (hw _ (List.mem_of_getElem? (i := 36) rfl))) (Or.inl (hw _ (List.mem_of_getElem? (i := 39) rfl))) (by decide) (t := .int) (t' := (.array (.object "java/lang/Object"))) (by decide) (by decide)))
  replace F_x_size := F_x_size.other W6 (Or.inr (slot_ne (Or.inl (hw _ (List.mem_of_getElem? (i := 68) rfl))) (Or.inl (hw _ (List.mem_of_getElem? (i := 39) rfl))) (by decide) (t := .int) (t' := (.array (.object "java/lang/Object"))) (by decide) (by decide)))
  replace V_d := V_d.other W6 (Ne.symm ne_x_d)
  replace E_d := E_d.wr W6
  replace O := O.wr W6 n0_x
  replace KP := KP.wr W6 (Or.inl (List.mem_of_getElem? (i := 0) rfl))
  have N6 := Fr.snoc X6 N4 n0_x
  refine Own.g_ret X6 hx hret hlocks rfl (Or.inr (Or.inr (Or.inr (Or.inr ⟨rfl, rfl, rfl⟩)))) (hb hby d14_59) (by decide) (by decide) e6 ?_
  exact ⟨d, k_d, rfl, N6, KP, sz0_d, E_x, F_x_modCount, F_x_elementData, F_x_size, V_d, E_d, O_d⟩
theorem ef_gro0 (m : MethodId) (x0 : Addr) : entryFrame m #[.ref x0] 1 = mkF m 0 #[.val (.ref x0)] [] := by first | (simp [entryFrame, mkF, argsToLocals, Value.category]; done) | rfl
def Q_gro0 (Z : State) (x : Addr) (mc : Value) (da : Addr) (kda : ClassId) (h0 : Heap) (n0 : Nat) (v : Option Value) (h : Heap) (L : List Loc) : Prop := ∃ (d : Addr) (k : ClassId), v = some (.ref d) ∧ Fr n0 L ∧ Keep h0 h [x] ∧ h0.size ≤ d ∧ Exa Z h x "java/util/ArrayList" ∧ Fld Z h x "java/util/AbstractList" "modCount" "I" mc ∧ Fld Z h x "java/util/ArrayList" "elementData" "[Ljava/lang/Object;" (.ref d) ∧ Fld Z h x "java/util/ArrayList" "size" "I" (.int 0) ∧ Arv Z h d k (.object "java/lang/Object") 10 [.null, .null, .null, .null, .null, .null, .null, .null, .null, .null] .null ∧ Exa Z h d "[Ljava/lang/Object;" ∧ Ovr Z k "java/lang/Object"
set_option maxRecDepth 65536 in
set_option maxHeartbeats 40000000 in
theorem rm_gro0 (l : Launch) (Z : State) (a0 : Array Value) (hw : ∀ d ∈ tables_1, d.before a0 Z = true) (ws : List Jvm.Cond) (x : Addr) (mc : Value) (da : Addr) (kda : ClassId) (h0 : Heap) (n0 : Nat) (O : Old Z n0 h0) (n0_x : n0 ≤ x) (SD : Sta Z Z.heap "java/util/ArrayList" "DEFAULTCAPACITY_EMPTY_ELEMENTDATA" "[Ljava/lang/Object;" (.ref da)) (AD : Arv Z Z.heap da kda (.object "java/lang/Object") 0 [] .null) (E_x : Exa Z h0 x "java/util/ArrayList") (F_x_modCount : Fld Z h0 x "java/util/AbstractList" "modCount" "I" mc) (F_x_elementData : Fld Z h0 x "java/util/ArrayList" "elementData" "[Ljava/lang/Object;" (.ref da)) (F_x_size : Fld Z h0 x "java/util/ArrayList" "size" "I" (.int 0)) :
    MetFree l (⟨"java/util/ArrayList", "grow", "()[Ljava/lang/Object;"⟩ : MethodName) (head1 (Jvm.Cond.code (⟨"java/util/ArrayList", "grow", "()[Ljava/lang/Object;"⟩ : MethodName) jdk_38_method_7_code 1 (some (.array (.object "java/lang/Object"))) :: ws) ({ frames := 2, cells := 1, slots := 10, locals := 40 } : Room)) (fun aa U => aa = #[.ref x] ∧ Z.Warmed39 U.vm ∧ U.heap = h0) (fun _ _ _ _ _ => True) (fun _ U o U' => Own.End U (Q_gro0 Z x mc da kda h0 n0) 1 10 o U') := by
  refine MetFree.of_bodySF (plainFor_of_name pn_2) hisR ?_
  intro p e s m args below meth c s₁ Bd hml0 hP hK
  obtain ⟨rfl, hZ, hh⟩ := hP
  have hx := Bd.exec
  have hby := Bd.bytes
  have hml : c.maxLocals = 1 := hml0
  have hown : s.vm.findClass "java/util/ArrayList" = some m.cls := findClass_of_methodNamed Bd.named
  have hnm := (name_of_methodNamed Bd.named Bd.method).1
  have hret := Bd.returns
  have hlocks : meth.locks = false := Bd.notSynchronized
  have X0 : Stand p l e ({ frames := 2, cells := 1, slots := 10, locals := 40 } : Room) s m #[.ref x] below meth c s₁ [] 0 0 := Stand.of_body Bd
  have e0 : s₁.heap = h0 := by rw [← hh, Bd.state]; rfl
  have N0 := Fr.nil n0
  show Own.Go p e below (Own.End s (Q_gro0 Z x mc da kda h0 n0) 1 10) (s₁.setTop (entryFrame m #[.ref x] 1))
  refine Own.Go.eq (ef_gro0 m x) ?_
  have KP : Keep h0 h0 [x] := Keep.refl _ _
  refine Own.g_aloadN X0 hx (hb hby d13_0) rfl rfl 1 rfl ?_
  refine Own.g_aloadN X0 hx (hb hby d13_1) rfl rfl 2 rfl ?_
  refine Own.g_getF X0 hx hZ hown (host := "") (Or.inl (hw _ (List.mem_of_getElem? (i := 67) rfl))) Via.refl e0 F_x_size (hb hby d13_2) 5 rfl ?_
  intro T1 X1 e1
  refine Own.g_iconst X1 hx (1 : Int32) (hb hby d13_5) rfl 6 rfl ?_
  refine Own.g_iadd X1 hx (hb hby d13_6) 7 rfl ?_
  rw [show ((0 : Int32) + (1 : Int32)) = (1 : Int32) from by decide]
  have ltx := E_x.lt
  refine Own.g_private X1 hx hZ (y := (⟨"java/util/ArrayList", "grow", "(I)[Ljava/lang/Object;"⟩ : MethodName)) hown (mvT hZ (hw _ (List.mem_of_getElem? (i := 98) rfl))) (mvT hZ (hw _ (List.mem_of_getElem? (i := 99) rfl))) (mvT hZ (hw _ (List.mem_of_getElem? (i := 101) rfl))) (hw _ (List.mem_of_getElem? (i := 100) rfl)) (mvT hZ (hw _ (List.mem_of_getElem? (i := 102) rfl))) (by decide) (a := x) [.int (1 : Int32)] (Own.back (W := 0) (rm_gro1 l Z a0 hw [] x mc da kda h0 n0 O n0_x SD AD E_x F_x_modCount F_x_elementData F_x_size) hZ (hw _ (List.mem_of_getElem? (i := 102) rfl)) (hw _ (List.mem_of_getElem? (i := 18) rfl)) (by decide) (by decide)) E_x e1 (by rw [hml]; rfl) [] (lenOf pd_2 rfl) rfl (Nat.le_of_ble_eq_true rfl) (hb hby d13_7) (by decide) (by decide) 10 rfl ?_
  rintro _ T2 L2 X2 ⟨d, k_d, rfl, N2q, K2, sz2, E_x, F_x_modCount, F_x_elementData, F_x_size, V_d, E_d, O_d⟩
  have N2 := Fr.app N0 N2q
  have n0_d : n0 ≤ d := Nat.le_trans (Nat.le_of_eq O.1.symm) (Nat.le_trans O.2.1 sz2)
  have sz0_d : h0.size ≤ d := Nat.le_trans KP.1 sz2
  have ne_x_d : x ≠ d := Nat.ne_of_lt (Nat.lt_of_lt_of_le ltx sz2)
  replace O := O.keep K2 (allS n0_x all0)
  replace KP := KP.trans K2 (allS (Or.inl (List.mem_of_getElem? (i := 0) rfl)) all0)
  show Own.Go p e below _ (T2.setTop (mkF m 10 #[.val (.ref x)] [(.ref d)]))
  refine Own.g_ret X2 hx hret hlocks rfl (Or.inr (Or.inr (Or.inr (Or.inr ⟨rfl, rfl, rfl⟩)))) (hb hby d13_10) (by decide) (by decide) (rfl : T2.heap = T2.heap) ?_
  exact ⟨d, k_d, rfl, N2, KP, sz0_d, E_x, F_x_modCount, F_x_elementData, F_x_size, V_d, E_d, O_d⟩
theorem ef_adh0 (m : MethodId) (x0 : Addr) (x1 : Addr) (x2 : Addr) (x3 : Int32) : entryFrame m #[.ref x0, .ref x1, .ref x2, .int x3] 4 = mkF m 0 #[.val (.ref x0), .val (.ref x1), .val (.ref x2), .val (.int x3)] [] := by first | (simp [entryFrame, mkF, argsToLocals, Value.category]; done) | rfl
def Q_adh0 (Z : State) (x : Addr) (y : Addr) (mc : Value) (da : Addr) (kda : ClassId) (h0 : Heap) (n0 : Nat) (v : Option Value) (h : Heap) (L : List Loc) : Prop := v = none ∧ Fr n0 L ∧ (∃ (d : Addr) (kd : ClassId), Keep h0 h [x] ∧ h0.size ≤ d ∧ Exa Z h x "java/util/ArrayList" ∧ Fld Z h x "java/util/AbstractList" "modCount" "I" mc ∧ Fld Z h x "java/util/ArrayList" "elementData" "[Ljava/lang/Object;" (.ref d) ∧ Fld Z h x "java/util/ArrayList" "size" "I" (.int 1) ∧ Arv Z h d kd (.object "java/lang/Object") 10 [(.ref y), .null, .null, .null, .null, .null, .null, .null, .null, .null] .null ∧ Exa Z h d "[Ljava/lang/Object;" ∧ Ovr Z kd "java/lang/Object")
set_option maxRecDepth 65536 in
set_option maxHeartbeats 40000000 in
theorem rm_adh0 (l : Launch) (Z : State) (a0 : Array Value) (hw : ∀ d ∈ tables_1, d.before a0 Z = true) (ws : List Jvm.Cond) (x : Addr) (y : Addr) (mc : Value) (da : Addr) (kda : ClassId) (h0 : Heap) (n0 : Nat) (O : Old Z n0 h0) (n0_x : n0 ≤ x) (I_y : Ins Z h0 y "java/lang/Object" true) (SD : Sta Z Z.heap "java/util/ArrayList" "DEFAULTCAPACITY_EMPTY_ELEMENTDATA" "[Ljava/lang/Object;" (.ref da)) (AD : Arv Z Z.heap da kda (.object "java/lang/Object") 0 [] .null) (E_x : Exa Z h0 x "java/util/ArrayList") (F_x_modCount : Fld Z h0 x "java/util/AbstractList" "modCount" "I" mc) (F_x_elementData : Fld Z h0 x "java/util/ArrayList" "elementData" "[Ljava/lang/Object;" (.ref da)) (F_x_size : Fld Z h0 x "java/util/ArrayList" "size" "I" (.int 0)) :
    MetFree l (⟨"java/util/ArrayList", "add", "(Ljava/lang/Object;[Ljava/lang/Object;I)V"⟩ : MethodName) (head1 (Jvm.Cond.code (⟨"java/util/ArrayList", "add", "(Ljava/lang/Object;[Ljava/lang/Object;I)V"⟩ : MethodName) jdk_38_method_24_code 4 none :: ws) ({ frames := 3, cells := 1, slots := 10, locals := 70 } : Room)) (fun aa U => aa = #[.ref x, .ref y, .ref da, .int (0 : Int32)] ∧ Z.Warmed39 U.vm ∧ U.heap = h0) (fun _ _ _ _ _ => True) (fun _ U o U' => Own.End U (Q_adh0 Z x y mc da kda h0 n0) 1 10 o U') := by
  refine MetFree.of_bodySF (plainFor_of_name pn_2) hisR ?_
  intro p e s m args below meth c s₁ Bd hml0 hP hK
  obtain ⟨rfl, hZ, hh⟩ := hP
  have hx := Bd.exec
  have hby := Bd.bytes
  have hml : c.maxLocals = 4 := hml0
  have hown : s.vm.findClass "java/util/ArrayList" = some m.cls := findClass_of_methodNamed Bd.named
  have hnm := (name_of_methodNamed Bd.named Bd.method).1
  have hret := Bd.returns
  have hlocks : meth.locks = false := Bd.notSynchronized
  have X0 : Stand p l e ({ frames := 3, cells := 1, slots := 10, locals := 70 } : Room) s m #[.ref x, .ref y, .ref da, .int (0 : Int32)] below meth c s₁ [] 0 0 := Stand.of_body Bd
  have e0 : s₁.heap = h0 := by rw [← hh, Bd.state]; rfl
  have N0 := Fr.nil n0
  show Own.Go p e below (Own.End s (Q_adh0 Z x y mc da kda h0 n0) 1 10) (s₁.setTop (entryFrame m #[.ref x, .ref y, .ref da, .int (0 : Int32)] 4))
  refine Own.Go.eq (ef_adh0 m x y da (0 : Int32)) ?_
  have KP : Keep h0 h0 [x] := Keep.refl _ _
  refine Own.g_iloadN X0 hx (hb hby d12_0) rfl 1 rfl ?_
  refine Own.g_aloadN X0 hx (hb hby d12_1) rfl rfl 2 rfl ?_
  refine Own.g_alen X0 hx hZ e0 (AD.ext O.2) (hb hby d12_2) 3 rfl ?_
  refine Own.g_icmp_ne_f X0 hx (hb hby d12_3) rfl 6 rfl ?_
  refine Own.g_aloadN X0 hx (hb hby d12_6) rfl rfl 7 rfl ?_
  have ltx := E_x.lt
  refine Own.g_private X0 hx hZ (y := (⟨"java/util/ArrayList", "grow", "()[Ljava/lang/Object;"⟩ : MethodName)) hown (mvT hZ (hw _ (List.mem_of_getElem? (i := 93) rfl))) (mvT hZ (hw _ (List.mem_of_getElem? (i := 94) rfl))) (mvT hZ (hw _ (List.mem_of_getElem? (i := 96) rfl))) (hw _ (List.mem_of_getElem? (i := 95) rfl)) (mvT hZ (hw _ (List.mem_of_getElem? (i := 97) rfl))) (by decide) (a := x) [] (Own.back (W := 0) (rm_gro0 l Z a0 hw [] x mc da kda h0 n0 O n0_x SD AD E_x F_x_modCount F_x_elementData F_x_size) hZ (hw _ (List.mem_of_getElem? (i := 97) rfl)) (hw _ (List.mem_of_getElem? (i := 18) rfl)) (by decide) (by decide)) E_x e0 (by rw [hml]; rfl) [] (lenOf pd_3 rfl) rfl (Nat.le_of_ble_eq_true rfl) (hb hby d12_7) (by decide) (by decide) 10 rfl ?_
  rintro _ T1 L1 X1 ⟨d, k_d, rfl, N1q, K1, sz1, E_x, F_x_modCount, F_x_elementData, F_x_size, V_d, E_d, O_d⟩
  have N1 := Fr.app N0 N1q
  have n0_d : n0 ≤ d := Nat.le_trans (Nat.le_of_eq O.1.symm) (Nat.le_trans O.2.1 sz1)
  have sz0_d : h0.size ≤ d := Nat.le_trans KP.1 sz1
  have ne_x_d : x ≠ d := Nat.ne_of_lt (Nat.lt_of_lt_of_le ltx sz1)
  replace O := O.keep K1 (allS n0_x all0)
  replace KP := KP.trans K1 (allS (Or.inl (List.mem_of_getElem? (i := 0) rfl)) all0)
  show Own.Go p e below _ (T1.setTop (mkF m 10 #[.val (.ref x), .val (.ref y), .val (.ref da), .val (.int (0 : Int32))] [(.ref d)]))
  replace I_y := Own.Ins.kp I_y K1
  have O_d := O_d
  refine Own.g_astoreN X1 hx #[.val (.ref x), .val (.ref y), .val (.ref d), .val (.int (0 : Int32))] (hb hby d12_10) rfl rfl 11 rfl ?_
  refine Own.g_aloadN X1 hx (hb hby d12_11) rfl rfl 12 rfl ?_
  refine Own.g_iloadN X1 hx (hb hby d12_12) rfl 13 rfl ?_
  refine Own.g_aloadN X1 hx (hb hby d12_13) rfl rfl 14 rfl ?_
  refine Own.g_stR X1 hx hZ (rfl : T1.heap = T1.heap) V_d rfl (Own.StoL.one V_d O_d I_y) (by decide) 0 rfl (Nat.le_of_ble_eq_true rfl) [(.ref y), .null, .null, .null, .null, .null, .null, .null, .null, .null] rfl (hb hby d12_14) 15 rfl ?_
  clear V_d; intro T2 h2 X2 e2 W2 V_d
  replace E_x := E_x.wr W2
  replace F_x_modCount := F_x_modCount.other W2 (Or.inl ne_x_d)
  replace F_x_elementData := F_x_elementData.other W2 (Or.inl ne_x_d)
  replace F_x_size := F_x_size.other W2 (Or.inl ne_x_d)
  replace E_d := E_d.wr W2
  replace O := O.wr W2 n0_d
  replace KP := KP.wr W2 (Or.inr sz0_d)
  have N2 := Fr.snoc X2 N1 n0_d
  refine Own.g_aloadN X2 hx (hb hby d12_15) rfl rfl 16 rfl ?_
  refine Own.g_iloadN X2 hx (hb hby d12_16) rfl 17 rfl ?_
  refine Own.g_iconst X2 hx (1 : Int32) (hb hby d12_17) rfl 18 rfl ?_
  refine Own.g_iadd X2 hx (hb hby d12_18) 19 rfl ?_
  rw [show ((0 : Int32) + (1 : Int32)) = (1 : Int32) from by decide]
  refine Own.g_putF X2 hx hZ hown (host := "") (Or.inl (hw _ (List.mem_of_getElem? (i := 67) rfl))) Via.refl e2 F_x_size E_x (Or.inl (hw _ (List.mem_of_getElem? (i := 68) rfl))) (hw _ (List.mem_of_getElem? (i := 17) rfl)) (ty := .int) (by decide) rfl rfl (hb hby d12_19) 22 rfl ?_
  clear F_x_size; intro T3 h3 X3 e3 W3 F_x_size Ew3
  replace E_x := E_x.wr W3
  replace F_x_modCount := F_x_modCount.other W3 (Or.inr (slot_ne (Or.inl (hw _ (List.mem_of_getElem? (i := 36) rfl))) (Or.inl (hw _ (List.mem_of_getElem? (i := 68) rfl))) (by decide) (t := .int) (t' := .int) (by decide) (by decide)))
  replace F_x_elementData := F_x_elementData.other W3 (Or.inr (slot_ne (Or.inl (hw _ (List.mem_of_getElem? (i := 39) rfl))) (Or.inl (hw _ (List.mem_of_getElem? (i := 68) rfl))) (by decide) (t := (.array (.object "java/lang/Object"))) (t' := .int) (by decide) (by decide)))
  replace V_d := V_d.other W3 (Ne.symm ne_x_d)
  replace E_d := E_d.wr W3
  replace O := O.wr W3 n0_x
  replace KP := KP.wr W3 (Or.inl (List.mem_of_getElem? (i := 0) rfl))
  have N3 := Fr.snoc X3 N2 n0_x
  refine Own.g_retV X3 hx hret hlocks (hb hby d12_22) (by decide) (by decide) e3 ?_
  exact ⟨rfl, N3, ⟨d, k_d, KP, sz0_d, E_x, F_x_modCount, F_x_elementData, F_x_size, V_d, E_d, O_d⟩⟩
theorem ef_add0 (m : MethodId) (x0 : Addr) (x1 : Addr) : entryFrame m #[.ref x0, .ref x1] 2 = mkF m 0 #[.val (.ref x0), .val (.ref x1)] [] := by first | (simp [entryFrame, mkF, argsToLocals, Value.category]; done) | rfl
def Q_add0 (Z : State) (x : Addr) (y : Addr) (mc : Int32) (da : Addr) (kda : ClassId) (h0 : Heap) (n0 : Nat) (v : Option Value) (h : Heap) (L : List Loc) : Prop := v = some (.int 1) ∧ Fr n0 L ∧ (∃ (d : Addr) (kd : ClassId), Keep h0 h [x] ∧ h0.size ≤ d ∧ Exa Z h x "java/util/ArrayList" ∧ Fld Z h x "java/util/AbstractList" "modCount" "I" (.int (mc + (1 : Int32))) ∧ Fld Z h x "java/util/ArrayList" "elementData" "[Ljava/lang/Object;" (.ref d) ∧ Fld Z h x "java/util/ArrayList" "size" "I" (.int 1) ∧ Arv Z h d kd (.object "java/lang/Object") 10 [(.ref y), .null, .null, .null, .null, .null, .null, .null, .null, .null] .null ∧ Exa Z h d "[Ljava/lang/Object;" ∧ Ovr Z kd "java/lang/Object")
set_option maxRecDepth 65536 in
set_option maxHeartbeats 40000000 in
theorem rm_add0 (l : Launch) (Z : State) (a0 : Array Value) (hw : ∀ d ∈ tables_1, d.before a0 Z = true) (ws : List Jvm.Cond) (x : Addr) (y : Addr) (mc : Int32) (da : Addr) (kda : ClassId) (h0 : Heap) (n0 : Nat) (O : Old Z n0 h0) (n0_x : n0 ≤ x) (I_y : Ins Z h0 y "java/lang/Object" true) (SD : Sta Z Z.heap "java/util/ArrayList" "DEFAULTCAPACITY_EMPTY_ELEMENTDATA" "[Ljava/lang/Object;" (.ref da)) (AD : Arv Z Z.heap da kda (.object "java/lang/Object") 0 [] .null) (E_x : Exa Z h0 x "java/util/ArrayList") (F_x_modCount : Fld Z h0 x "java/util/AbstractList" "modCount" "I" (.int mc)) (F_x_elementData : Fld Z h0 x "java/util/ArrayList" "elementData" "[Ljava/lang/Object;" (.ref da)) (F_x_size : Fld Z h0 x "java/util/ArrayList" "size" "I" (.int 0)) :
    MetFree l (⟨"java/util/ArrayList", "add", "(Ljava/lang/Object;)Z"⟩ : MethodName) (head1 (Jvm.Cond.code (⟨"java/util/ArrayList", "add", "(Ljava/lang/Object;)Z"⟩ : MethodName) jdk_38_method_25_code 2 (some .boolean) :: ws) ({ frames := 4, cells := 1, slots := 10, locals := 90 } : Room)) (fun aa U => aa = #[.ref x, .ref y] ∧ Z.Warmed39 U.vm ∧ U.heap = h0) (fun _ _ _ _ _ => True) (fun _ U o U' => Own.End U (Q_add0 Z x y mc da kda h0 n0) 1 10 o U') := by
  refine MetFree.of_bodySF (plainFor_of_name pn_2) hisR ?_
  intro p e s m args below meth c s₁ Bd hml0 hP hK
  obtain ⟨rfl, hZ, hh⟩ := hP
  have hx := Bd.exec
  have hby := Bd.bytes
  have hml : c.maxLocals = 2 := hml0
  have hown : s.vm.findClass "java/util/ArrayList" = some m.cls := findClass_of_methodNamed Bd.named
  have hnm := (name_of_methodNamed Bd.named Bd.method).1
  have hret := Bd.returns
  have hlocks : meth.locks = false := Bd.notSynchronized
  have X0 : Stand p l e ({ frames := 4, cells := 1, slots := 10, locals := 90 } : Room) s m #[.ref x, .ref y] below meth c s₁ [] 0 0 := Stand.of_body Bd
  have e0 : s₁.heap = h0 := by rw [← hh, Bd.state]; rfl
  have N0 := Fr.nil n0
  show Own.Go p e below (Own.End s (Q_add0 Z x y mc da kda h0 n0) 1 10) (s₁.setTop (entryFrame m #[.ref x, .ref y] 2))
  refine Own.Go.eq (ef_add0 m x y) ?_
  have KP : Keep h0 h0 [x] := Keep.refl _ _
  refine Own.g_aloadN X0 hx (hb hby d11_0) rfl rfl 1 rfl ?_
  refine Own.g_dup X0 hx (hb hby d11_1) rfl 2 rfl ?_
  refine Own.g_getF X0 hx hZ hown (host := "") (Or.inl (hw _ (List.mem_of_getElem? (i := 86) rfl))) (Via.of (hw _ (List.mem_of_getElem? (i := 87) rfl))) e0 F_x_modCount (hb hby d11_2) 5 rfl ?_
  intro T1 X1 e1
  refine Own.g_iconst X1 hx (1 : Int32) (hb hby d11_5) rfl 6 rfl ?_
  refine Own.g_iadd X1 hx (hb hby d11_6) 7 rfl ?_
  refine Own.g_putF X1 hx hZ hown (host := "") (Or.inl (hw _ (List.mem_of_getElem? (i := 86) rfl))) (Via.of (hw _ (List.mem_of_getElem? (i := 87) rfl))) e1 F_x_modCount E_x (Or.inl (hw _ (List.mem_of_getElem? (i := 36) rfl))) (hw _ (List.mem_of_getElem? (i := 17) rfl)) (ty := .int) (by decide) rfl rfl (hb hby d11_7) 10 rfl ?_
  clear F_x_modCount; intro T2 h2 X2 e2 W2 F_x_modCount Ew2
  replace E_x := E_x.wr W2
  replace F_x_elementData := F_x_elementData.other W2 (Or.inr (slot_ne (Or.inl (hw _ (List.mem_of_getElem? (i := 39) rfl))) (Or.inl (hw _ (List.mem_of_getElem? (i := 36) rfl))) (by decide) (t := (.array (.object "java/lang/Object"))) (t' := .int) (by decide) (by decide)))
  replace F_x_size := F_x_size.other W2 (Or.inr (slot_ne (Or.inl (hw _ (List.mem_of_getElem? (i := 68) rfl))) (Or.inl (hw _ (List.mem_of_getElem? (i := 36) rfl))) (by decide) (t := .int) (t' := .int) (by decide) (by decide)))
  replace O := O.wr W2 n0_x
  replace KP := KP.wr W2 (Or.inl (List.mem_of_getElem? (i := 0) rfl))
  have N2 := Fr.snoc X2 N0 n0_x
  replace I_y := Ins.wr W2 I_y
  refine Own.g_aloadN X2 hx (hb hby d11_10) rfl rfl 11 rfl ?_
  refine Own.g_aloadN X2 hx (hb hby d11_11) rfl rfl 12 rfl ?_
  refine Own.g_aloadN X2 hx (hb hby d11_12) rfl rfl 13 rfl ?_
  refine Own.g_getF X2 hx hZ hown (host := "") (Or.inl (hw _ (List.mem_of_getElem? (i := 38) rfl))) Via.refl e2 F_x_elementData (hb hby d11_13) 16 rfl ?_
  intro T3 X3 e3
  refine Own.g_aloadN X3 hx (hb hby d11_16) rfl rfl 17 rfl ?_
  refine Own.g_getF X3 hx hZ hown (host := "") (Or.inl (hw _ (List.mem_of_getElem? (i := 67) rfl))) Via.refl e3 F_x_size (hb hby d11_17) 20 rfl ?_
  intro T4 X4 e4
  refine Own.g_private X4 hx hZ (y := (⟨"java/util/ArrayList", "add", "(Ljava/lang/Object;[Ljava/lang/Object;I)V"⟩ : MethodName)) hown (mvT hZ (hw _ (List.mem_of_getElem? (i := 88) rfl))) (mvT hZ (hw _ (List.mem_of_getElem? (i := 89) rfl))) (mvT hZ (hw _ (List.mem_of_getElem? (i := 91) rfl))) (hw _ (List.mem_of_getElem? (i := 90) rfl)) (mvT hZ (hw _ (List.mem_of_getElem? (i := 92) rfl))) (by decide) (a := x) [.ref y, .ref da, .int (0 : Int32)] (Own.back (W := 0) (rm_adh0 l Z a0 hw [] x y (.int (mc + (1 : Int32))) da kda h2 n0 O n0_x I_y SD AD E_x F_x_modCount F_x_elementData F_x_size) hZ (hw _ (List.mem_of_getElem? (i := 92) rfl)) (hw _ (List.mem_of_getElem? (i := 18) rfl)) (by decide) (by decide)) E_x e4 (by rw [hml]; rfl) [] (lenOf pd_4 rfl) rfl (Nat.le_of_ble_eq_true rfl) (hb hby d11_20) (by decide) (by decide) 23 rfl ?_
  rintro _ T5 L5 X5 ⟨rfl, N5q, d, k_d, K5, sz5, E_x, F_x_modCount, F_x_elementData, F_x_size, V_d, E_d, O_d⟩
  have N5 := Fr.app N2 N5q
  have sz0_d : h0.size ≤ d := Nat.le_trans KP.1 sz5
  replace O := O.keep K5 (allS n0_x all0)
  replace KP := KP.trans K5 (allS (Or.inl (List.mem_of_getElem? (i := 0) rfl)) all0)
  show Own.Go p e below _ (T5.setTop (mkF m 23 #[.val (.ref x), .val (.ref y)] []))
  refine Own.g_iconst X5 hx (1 : Int32) (hb hby d11_23) rfl 24 rfl ?_
  refine Own.g_ret X5 hx hret hlocks rfl (Or.inl ⟨rfl, by simp, _, rfl⟩) (hb hby d11_24) (by decide) (by decide) (rfl : T5.heap = T5.heap) ?_
  exact ⟨rfl, N5, ⟨d, k_d, KP, sz0_d, E_x, F_x_modCount, F_x_elementData, F_x_size, V_d, E_d, O_d⟩⟩
theorem ef_adh1 (m : MethodId) (x0 : Addr) (x1 : Addr) (x2 : Addr) (x3 : Int32) : entryFrame m #[.ref x0, .ref x1, .ref x2, .int x3] 4 = mkF m 0 #[.val (.ref x0), .val (.ref x1), .val (.ref x2), .val (.int x3)] [] := by first | (simp [entryFrame, mkF, argsToLocals, Value.category]; done) | rfl
def Q_adh1 (Z : State) (x : Addr) (y : Addr) (mc : Value) (d : Addr) (kd : ClassId) (y1 : Addr) (h0 : Heap) (n0 : Nat) (v : Option Value) (h : Heap) (L : List Loc) : Prop := v = none ∧ Fr n0 L ∧ Keep h0 h [x, d] ∧ Exa Z h x "java/util/ArrayList" ∧ Fld Z h x "java/util/AbstractList" "modCount" "I" mc ∧ Fld Z h x "java/util/ArrayList" "elementData" "[Ljava/lang/Object;" (.ref d) ∧ Fld Z h x "java/util/ArrayList" "size" "I" (.int 2) ∧ Arv Z h d kd (.object "java/lang/Object") 10 [(.ref y1), (.ref y), .null, .null, .null, .null, .null, .null, .null, .null] .null
set_option maxRecDepth 65536 in
set_option maxHeartbeats 40000000 in
theorem rm_adh1 (l : Launch) (Z : State) (a0 : Array Value) (hw : ∀ d ∈ tables_1, d.before a0 Z = true) (ws : List Jvm.Cond) (x : Addr) (y : Addr) (mc : Value) (d : Addr) (kd : ClassId) (y1 : Addr) (h0 : Heap) (n0 : Nat) (O : Old Z n0 h0) (n0_x : n0 ≤ x) (n0_d : n0 ≤ d) (I_y : Ins Z h0 y "java/lang/Object" true) (ne_x_d : x ≠ d) (V_d : Arv Z h0 d kd (.object "java/lang/Object") 10 [(.ref y1), .null, .null, .null, .null, .null, .null, .null, .null, .null] .null) (O_d : Ovr Z kd "java/lang/Object") (E_x : Exa Z h0 x "java/util/ArrayList") (F_x_modCount : Fld Z h0 x "java/util/AbstractList" "modCount" "I" mc) (F_x_elementData : Fld Z h0 x "java/util/ArrayList" "elementData" "[Ljava/lang/Object;" (.ref d)) (F_x_size : Fld Z h0 x "java/util/ArrayList" "size" "I" (.int 1)) :
    MetFree l (⟨"java/util/ArrayList", "add", "(Ljava/lang/Object;[Ljava/lang/Object;I)V"⟩ : MethodName) (head1 (Jvm.Cond.code (⟨"java/util/ArrayList", "add", "(Ljava/lang/Object;[Ljava/lang/Object;I)V"⟩ : MethodName) jdk_38_method_24_code 4 none :: ws) ({ frames := 3, cells := 1, slots := 10, locals := 70 } : Room)) (fun aa U => aa = #[.ref x, .ref y, .ref d, .int (1 : Int32)] ∧ Z.Warmed39 U.vm ∧ U.heap = h0) (fun _ _ _ _ _ => True) (fun _ U o U' => Own.End U (Q_adh1 Z x y mc d kd y1 h0 n0) 1 10 o U') := by
  refine MetFree.of_bodySF (plainFor_of_name pn_2) hisR ?_
  intro p e s m args below meth c s₁ Bd hml0 hP hK
  obtain ⟨rfl, hZ, hh⟩ := hP
  have hx := Bd.exec
  have hby := Bd.bytes
  have hml : c.maxLocals = 4 := hml0
  have hown : s.vm.findClass "java/util/ArrayList" = some m.cls := findClass_of_methodNamed Bd.named
  have hnm := (name_of_methodNamed Bd.named Bd.method).1
  have hret := Bd.returns
  have hlocks : meth.locks = false := Bd.notSynchronized
  have X0 : Stand p l e ({ frames := 3, cells := 1, slots := 10, locals := 70 } : Room) s m #[.ref x, .ref y, .ref d, .int (1 : Int32)] below meth c s₁ [] 0 0 := Stand.of_body Bd
  have e0 : s₁.heap = h0 := by rw [← hh, Bd.state]; rfl
  have N0 := Fr.nil n0
  show Own.Go p e below (Own.End s (Q_adh1 Z x y mc d kd y1 h0 n0) 1 10) (s₁.setTop (entryFrame m #[.ref x, .ref y, .ref d, .int (1 : Int32)] 4))
  refine Own.Go.eq (ef_adh1 m x y d (1 : Int32)) ?_
  have KP : Keep h0 h0 [x, d] := Keep.refl _ _
  refine Own.g_iloadN X0 hx (hb hby d12_0) rfl 1 rfl ?_
  refine Own.g_aloadN X0 hx (hb hby d12_1) rfl rfl 2 rfl ?_
  refine Own.g_alen X0 hx hZ e0 V_d (hb hby d12_2) 3 rfl ?_
  refine Own.g_icmp_ne_t X0 hx (hb hby d12_3) (by decide) 11 (by decide) ?_
  refine Own.g_aloadN X0 hx (hb hby d12_11) rfl rfl 12 rfl ?_
  refine Own.g_iloadN X0 hx (hb hby d12_12) rfl 13 rfl ?_
  refine Own.g_aloadN X0 hx (hb hby d12_13) rfl rfl 14 rfl ?_
  refine Own.g_stR X0 hx hZ e0 V_d rfl (Own.StoL.one V_d O_d I_y) (by decide) 1 rfl (Nat.le_of_ble_eq_true rfl) [(.ref y1), (.ref y), .null, .null, .null, .null, .null, .null, .null, .null] rfl (hb hby d12_14) 15 rfl ?_
  clear V_d; intro T1 h1 X1 e1 W1 V_d
  replace E_x := E_x.wr W1
  replace F_x_modCount := F_x_modCount.other W1 (Or.inl ne_x_d)
  replace F_x_elementData := F_x_elementData.other W1 (Or.inl ne_x_d)
  replace F_x_size := F_x_size.other W1 (Or.inl ne_x_d)
  replace O := O.wr W1 n0_d
  replace KP := KP.wr W1 (Or.inl (List.mem_of_getElem? (i := 1) rfl))
  have N1 := Fr.snoc X1 N0 n0_d
  refine Own.g_aloadN X1 hx (hb hby d12_15) rfl rfl 16 rfl ?_
  refine Own.g_iloadN X1 hx (hb hby d12_16) rfl 17 rfl ?_
  refine Own.g_iconst X1 hx (1 : Int32) (hb hby d12_17) rfl 18 rfl ?_
  refine Own.g_iadd X1 hx (hb hby d12_18) 19 rfl ?_
  rw [show ((1 : Int32) + (1 : Int32)) = (2 : Int32) from by decide]
  refine Own.g_putF X1 hx hZ hown (host := "") (Or.inl (hw _ (List.mem_of_getElem? (i := 67) rfl))) Via.refl e1 F_x_size E_x (Or.inl (hw _ (List.mem_of_getElem? (i := 68) rfl))) (hw _ (List.mem_of_getElem? (i := 17) rfl)) (ty := .int) (by decide) rfl rfl (hb hby d12_19) 22 rfl ?_
  clear F_x_size; intro T2 h2 X2 e2 W2 F_x_size Ew2
  replace E_x := E_x.wr W2
  replace F_x_modCount := F_x_modCount.other W2 (Or.inr (slot_ne (Or.inl (hw _ (List.mem_of_getElem? (i := 36) rfl))) (Or.inl (hw _ (List.mem_of_getElem? (i := 68) rfl))) (by decide) (t := .int) (t' := .int) (by decide) (by decide)))
  replace F_x_elementData := F_x_elementData.other W2 (Or.inr (slot_ne (Or.inl (hw _ (List.mem_of_getElem? (i := 39) rfl))) (Or.inl (hw _ (List.mem_of_getElem? (i := 68) rfl))) (by decide) (t := (.array (.object "java/lang/Object"))) (t' := .int) (by decide) (by decide)))
  replace V_d := V_d.other W2 (Ne.symm ne_x_d)
  replace O := O.wr W2 n0_x
  replace KP := KP.wr W2 (Or.inl (List.mem_of_getElem? (i := 0) rfl))
  have N2 := Fr.snoc X2 N1 n0_x
  refine Own.g_retV X2 hx hret hlocks (hb hby d12_22) (by decide) (by decide) e2 ?_
  exact ⟨rfl, N2, ⟨KP, E_x, F_x_modCount, F_x_elementData, F_x_size, V_d⟩⟩
theorem ef_add1 (m : MethodId) (x0 : Addr) (x1 : Addr) : entryFrame m #[.ref x0, .ref x1] 2 = mkF m 0 #[.val (.ref x0), .val (.ref x1)] [] := by first | (simp [entryFrame, mkF, argsToLocals, Value.category]; done) | rfl
def Q_add1 (Z : State) (x : Addr) (y : Addr) (mc : Int32) (d : Addr) (kd : ClassId) (y1 : Addr) (h0 : Heap) (n0 : Nat) (v : Option Value) (h : Heap) (L : List Loc) : Prop := v = some (.int 1) ∧ Fr n0 L ∧ Keep h0 h [x, d] ∧ Exa Z h x "java/util/ArrayList" ∧ Fld Z h x "java/util/AbstractList" "modCount" "I" (.int (mc + (1 : Int32))) ∧ Fld Z h x "java/util/ArrayList" "elementData" "[Ljava/lang/Object;" (.ref d) ∧ Fld Z h x "java/util/ArrayList" "size" "I" (.int 2) ∧ Arv Z h d kd (.object "java/lang/Object") 10 [(.ref y1), (.ref y), .null, .null, .null, .null, .null, .null, .null, .null] .null
set_option maxRecDepth 65536 in
set_option maxHeartbeats 40000000 in
theorem rm_add1 (l : Launch) (Z : State) (a0 : Array Value) (hw : ∀ d ∈ tables_1, d.before a0 Z = true) (ws : List Jvm.Cond) (x : Addr) (y : Addr) (mc : Int32) (d : Addr) (kd : ClassId) (y1 : Addr) (h0 : Heap) (n0 : Nat) (O : Old Z n0 h0) (n0_x : n0 ≤ x) (n0_d : n0 ≤ d) (I_y : Ins Z h0 y "java/lang/Object" true) (ne_x_d : x ≠ d) (V_d : Arv Z h0 d kd (.object "java/lang/Object") 10 [(.ref y1), .null, .null, .null, .null, .null, .null, .null, .null, .null] .null) (O_d : Ovr Z kd "java/lang/Object") (E_x : Exa Z h0 x "java/util/ArrayList") (F_x_modCount : Fld Z h0 x "java/util/AbstractList" "modCount" "I" (.int mc)) (F_x_elementData : Fld Z h0 x "java/util/ArrayList" "elementData" "[Ljava/lang/Object;" (.ref d)) (F_x_size : Fld Z h0 x "java/util/ArrayList" "size" "I" (.int 1)) :
    MetFree l (⟨"java/util/ArrayList", "add", "(Ljava/lang/Object;)Z"⟩ : MethodName) (head1 (Jvm.Cond.code (⟨"java/util/ArrayList", "add", "(Ljava/lang/Object;)Z"⟩ : MethodName) jdk_38_method_25_code 2 (some .boolean) :: ws) ({ frames := 4, cells := 1, slots := 10, locals := 90 } : Room)) (fun aa U => aa = #[.ref x, .ref y] ∧ Z.Warmed39 U.vm ∧ U.heap = h0) (fun _ _ _ _ _ => True) (fun _ U o U' => Own.End U (Q_add1 Z x y mc d kd y1 h0 n0) 1 10 o U') := by
  refine MetFree.of_bodySF (plainFor_of_name pn_2) hisR ?_
  intro p e s m args below meth c s₁ Bd hml0 hP hK
  obtain ⟨rfl, hZ, hh⟩ := hP
  have hx := Bd.exec
  have hby := Bd.bytes
  have hml : c.maxLocals = 2 := hml0
  have hown : s.vm.findClass "java/util/ArrayList" = some m.cls := findClass_of_methodNamed Bd.named
  have hnm := (name_of_methodNamed Bd.named Bd.method).1
  have hret := Bd.returns
  have hlocks : meth.locks = false := Bd.notSynchronized
  have X0 : Stand p l e ({ frames := 4, cells := 1, slots := 10, locals := 90 } : Room) s m #[.ref x, .ref y] below meth c s₁ [] 0 0 := Stand.of_body Bd
  have e0 : s₁.heap = h0 := by rw [← hh, Bd.state]; rfl
  have N0 := Fr.nil n0
  show Own.Go p e below (Own.End s (Q_add1 Z x y mc d kd y1 h0 n0) 1 10) (s₁.setTop (entryFrame m #[.ref x, .ref y] 2))
  refine Own.Go.eq (ef_add1 m x y) ?_
  have KP : Keep h0 h0 [x, d] := Keep.refl _ _
  refine Own.g_aloadN X0 hx (hb hby d11_0) rfl rfl 1 rfl ?_
  refine Own.g_dup X0 hx (hb hby d11_1) rfl 2 rfl ?_
  refine Own.g_getF X0 hx hZ hown (host := "") (Or.inl (hw _ (List.mem_of_getElem? (i := 86) rfl))) (Via.of (hw _ (List.mem_of_getElem? (i := 87) rfl))) e0 F_x_modCount (hb hby d11_2) 5 rfl ?_
  intro T1 X1 e1
  refine Own.g_iconst X1 hx (1 : Int32) (hb hby d11_5) rfl 6 rfl ?_
  refine Own.g_iadd X1 hx (hb hby d11_6) 7 rfl ?_
  refine Own.g_putF X1 hx hZ hown (host := "") (Or.inl (hw _ (List.mem_of_getElem? (i := 86) rfl))) (Via.of (hw _ (List.mem_of_getElem? (i := 87) rfl))) e1 F_x_modCount E_x (Or.inl (hw _ (List.mem_of_getElem? (i := 36) rfl))) (hw _ (List.mem_of_getElem? (i := 17) rfl)) (ty := .int) (by decide) rfl rfl (hb hby d11_7) 10 rfl ?_
  clear F_x_modCount; intro T2 h2 X2 e2 W2 F_x_modCount Ew2
  replace E_x := E_x.wr W2
  replace F_x_elementData := F_x_elementData.other W2 (Or.inr (slot_ne (Or.inl (hw _ (List.mem_of_getElem? (i := 39) rfl))) (Or.inl (hw _ (List.mem_of_getElem? (i := 36) rfl))) (by decide) (t := (.array (.object "java/lang/Object"))) (t' := .int) (by decide) (by decide)))
  replace F_x_size := F_x_size.other W2 (Or.inr (slot_ne (Or.inl (hw _ (List.mem_of_getElem? (i := 68) rfl))) (Or.inl (hw _ (List.mem_of_getElem? (i := 36) rfl))) (by decide) (t := .int) (t' := .int) (by decide) (by decide)))
  replace V_d := V_d.other W2 (Ne.symm ne_x_d)
  replace O := O.wr W2 n0_x
  replace KP := KP.wr W2 (Or.inl (List.mem_of_getElem? (i := 0) rfl))
  have N2 := Fr.snoc X2 N0 n0_x
  replace I_y := Ins.wr W2 I_y
  refine Own.g_aloadN X2 hx (hb hby d11_10) rfl rfl 11 rfl ?_
  refine Own.g_aloadN X2 hx (hb hby d11_11) rfl rfl 12 rfl ?_
  refine Own.g_aloadN X2 hx (hb hby d11_12) rfl rfl 13 rfl ?_
  refine Own.g_getF X2 hx hZ hown (host := "") (Or.inl (hw _ (List.mem_of_getElem? (i := 38) rfl))) Via.refl e2 F_x_elementData (hb hby d11_13) 16 rfl ?_
  intro T3 X3 e3
  refine Own.g_aloadN X3 hx (hb hby d11_16) rfl rfl 17 rfl ?_
  refine Own.g_getF X3 hx hZ hown (host := "") (Or.inl (hw _ (List.mem_of_getElem? (i := 67) rfl))) Via.refl e3 F_x_size (hb hby d11_17) 20 rfl ?_
  intro T4 X4 e4
  refine Own.g_private X4 hx hZ (y := (⟨"java/util/ArrayList", "add", "(Ljava/lang/Object;[Ljava/lang/Object;I)V"⟩ : MethodName)) hown (mvT hZ (hw _ (List.mem_of_getElem? (i := 88) rfl))) (mvT hZ (hw _ (List.mem_of_getElem? (i := 89) rfl))) (mvT hZ (hw _ (List.mem_of_getElem? (i := 91) rfl))) (hw _ (List.mem_of_getElem? (i := 90) rfl)) (mvT hZ (hw _ (List.mem_of_getElem? (i := 92) rfl))) (by decide) (a := x) [.ref y, .ref d, .int (1 : Int32)] (Own.back (W := 0) (rm_adh1 l Z a0 hw [] x y (.int (mc + (1 : Int32))) d kd y1 h2 n0 O n0_x n0_d I_y ne_x_d V_d O_d E_x F_x_modCount F_x_elementData F_x_size) hZ (hw _ (List.mem_of_getElem? (i := 92) rfl)) (hw _ (List.mem_of_getElem? (i := 18) rfl)) (by decide) (by decide)) E_x e4 (by rw [hml]; rfl) [] (lenOf pd_4 rfl) rfl (Nat.le_of_ble_eq_true rfl) (hb hby d11_20) (by decide) (by decide) 23 rfl ?_
  rintro _ T5 L5 X5 ⟨rfl, N5q, K5, E_x, F_x_modCount, F_x_elementData, F_x_size, V_d⟩
  have N5 := Fr.app N2 N5q
  replace O := O.keep K5 (allS n0_x (allS n0_d all0))
  replace KP := KP.trans K5 (allS (Or.inl (List.mem_of_getElem? (i := 0) rfl)) (allS (Or.inl (List.mem_of_getElem? (i := 1) rfl)) all0))
  show Own.Go p e below _ (T5.setTop (mkF m 23 #[.val (.ref x), .val (.ref y)] []))
  refine Own.g_iconst X5 hx (1 : Int32) (hb hby d11_23) rfl 24 rfl ?_
  refine Own.g_ret X5 hx hret hlocks rfl (Or.inl ⟨rfl, by simp, _, rfl⟩) (hb hby d11_24) (by decide) (by decide) (rfl : T5.heap = T5.heap) ?_
  exact ⟨rfl, N5, ⟨KP, E_x, F_x_modCount, F_x_elementData, F_x_size, V_d⟩⟩
theorem ef_adh2 (m : MethodId) (x0 : Addr) (x1 : Addr) (x2 : Addr) (x3 : Int32) : entryFrame m #[.ref x0, .ref x1, .ref x2, .int x3] 4 = mkF m 0 #[.val (.ref x0), .val (.ref x1), .val (.ref x2), .val (.int x3)] [] := by first | (simp [entryFrame, mkF, argsToLocals, Value.category]; done) | rfl
def Q_adh2 (Z : State) (x : Addr) (y : Addr) (mc : Value) (d : Addr) (kd : ClassId) (y1 : Addr) (y2 : Addr) (h0 : Heap) (n0 : Nat) (v : Option Value) (h : Heap) (L : List Loc) : Prop := v = none ∧ Fr n0 L ∧ Keep h0 h [x, d] ∧ Exa Z h x "java/util/ArrayList" ∧ Fld Z h x "java/util/AbstractList" "modCount" "I" mc ∧ Fld Z h x "java/util/ArrayList" "elementData" "[Ljava/lang/Object;" (.ref d) ∧ Fld Z h x "java/util/ArrayList" "size" "I" (.int 3) ∧ Arv Z h d kd (.object "java/lang/Object") 10 [(.ref y1), (.ref y2), (.ref y), .null, .null, .null, .null, .null, .null, .null] .null
set_option maxRecDepth 65536 in
set_option maxHeartbeats 40000000 in
theorem rm_adh2 (l : Launch) (Z : State) (a0 : Array Value) (hw : ∀ d ∈ tables_1, d.before a0 Z = true) (ws : List Jvm.Cond) (x : Addr) (y : Addr) (mc : Value) (d : Addr) (kd : ClassId) (y1 : Addr) (y2 : Addr) (h0 : Heap) (n0 : Nat) (O : Old Z n0 h0) (n0_x : n0 ≤ x) (n0_d : n0 ≤ d) (I_y : Ins Z h0 y "java/lang/Object" true) (ne_x_d : x ≠ d) (V_d : Arv Z h0 d kd (.object "java/lang/Object") 10 [(.ref y1), (.ref y2), .null, .null, .null, .null, .null, .null, .null, .null] .null) (O_d : Ovr Z kd "java/lang/Object") (E_x : Exa Z h0 x "java/util/ArrayList") (F_x_modCount : Fld Z h0 x "java/util/AbstractList" "modCount" "I" mc) (F_x_elementData : Fld Z h0 x "java/util/ArrayList" "elementData" "[Ljava/lang/Object;" (.ref d)) (F_x_size : Fld Z h0 x "java/util/ArrayList" "size" "I" (.int 2)) :
    MetFree l (⟨"java/util/ArrayList", "add", "(Ljava/lang/Object;[Ljava/lang/Object;I)V"⟩ : MethodName) (head1 (Jvm.Cond.code (⟨"java/util/ArrayList", "add", "(Ljava/lang/Object;[Ljava/lang/Object;I)V"⟩ : MethodName) jdk_38_method_24_code 4 none :: ws) ({ frames := 3, cells := 1, slots := 10, locals := 70 } : Room)) (fun aa U => aa = #[.ref x, .ref y, .ref d, .int (2 : Int32)] ∧ Z.Warmed39 U.vm ∧ U.heap = h0) (fun _ _ _ _ _ => True) (fun _ U o U' => Own.End U (Q_adh2 Z x y mc d kd y1 y2 h0 n0) 1 10 o U') := by
  refine MetFree.of_bodySF (plainFor_of_name pn_2) hisR ?_
  intro p e s m args below meth c s₁ Bd hml0 hP hK
  obtain ⟨rfl, hZ, hh⟩ := hP
  have hx := Bd.exec
  have hby := Bd.bytes
  have hml : c.maxLocals = 4 := hml0
  have hown : s.vm.findClass "java/util/ArrayList" = some m.cls := findClass_of_methodNamed Bd.named
  have hnm := (name_of_methodNamed Bd.named Bd.method).1
  have hret := Bd.returns
  have hlocks : meth.locks = false := Bd.notSynchronized
  have X0 : Stand p l e ({ frames := 3, cells := 1, slots := 10, locals := 70 } : Room) s m #[.ref x, .ref y, .ref d, .int (2 : Int32)] below meth c s₁ [] 0 0 := Stand.of_body Bd
  have e0 : s₁.heap = h0 := by rw [← hh, Bd.state]; rfl
  have N0 := Fr.nil n0
  show Own.Go p e below (Own.End s (Q_adh2 Z x y mc d kd y1 y2 h0 n0) 1 10) (s₁.setTop (entryFrame m #[.ref x, .ref y, .ref d, .int (2 : Int32)] 4))
  refine Own.Go.eq (ef_adh2 m x y d (2 : Int32)) ?_
  have KP : Keep h0 h0 [x, d] := Keep.refl _ _
  refine Own.g_iloadN X0 hx (hb hby d12_0) rfl 1 rfl ?_
  refine Own.g_aloadN X0 hx (hb hby d12_1) rfl rfl 2 rfl ?_
  refine Own.g_alen X0 hx hZ e0 V_d (hb hby d12_2) 3 rfl ?_
  refine Own.g_icmp_ne_t X0 hx (hb hby d12_3) (by decide) 11 (by decide) ?_
  refine Own.g_aloadN X0 hx (hb hby d12_11) rfl rfl 12 rfl ?_
  refine Own.g_iloadN X0 hx (hb hby d12_12) rfl 13 rfl ?_
  refine Own.g_aloadN X0 hx (hb hby d12_13) rfl rfl 14 rfl ?_
  refine Own.g_stR X0 hx hZ e0 V_d rfl (Own.StoL.one V_d O_d I_y) (by decide) 2 rfl (Nat.le_of_ble_eq_true rfl) [(.ref y1), (.ref y2), (.ref y), .null, .null, .null, .null, .null, .null, .null] rfl (hb hby d12_14) 15 rfl ?_
  clear V_d; intro T1 h1 X1 e1 W1 V_d
  replace E_x := E_x.wr W1
  replace F_x_modCount := F_x_modCount.other W1 (Or.inl ne_x_d)
  replace F_x_elementData := F_x_elementData.other W1 (Or.inl ne_x_d)
  replace F_x_size := F_x_size.other W1 (Or.inl ne_x_d)
  replace O := O.wr W1 n0_d
  replace KP := KP.wr W1 (Or.inl (List.mem_of_getElem? (i := 1) rfl))
  have N1 := Fr.snoc X1 N0 n0_d
  refine Own.g_aloadN X1 hx (hb hby d12_15) rfl rfl 16 rfl ?_
  refine Own.g_iloadN X1 hx (hb hby d12_16) rfl 17 rfl ?_
  refine Own.g_iconst X1 hx (1 : Int32) (hb hby d12_17) rfl 18 rfl ?_
  refine Own.g_iadd X1 hx (hb hby d12_18) 19 rfl ?_
  rw [show ((2 : Int32) + (1 : Int32)) = (3 : Int32) from by decide]
  refine Own.g_putF X1 hx hZ hown (host := "") (Or.inl (hw _ (List.mem_of_getElem? (i := 67) rfl))) Via.refl e1 F_x_size E_x (Or.inl (hw _ (List.mem_of_getElem? (i := 68) rfl))) (hw _ (List.mem_of_getElem? (i := 17) rfl)) (ty := .int) (by decide) rfl rfl (hb hby d12_19) 22 rfl ?_
  clear F_x_size; intro T2 h2 X2 e2 W2 F_x_size Ew2
  replace E_x := E_x.wr W2
  replace F_x_modCount := F_x_modCount.other W2 (Or.inr (slot_ne (Or.inl (hw _ (List.mem_of_getElem? (i := 36) rfl))) (Or.inl (hw _ (List.mem_of_getElem? (i := 68) rfl))) (by decide) (t := .int) (t' := .int) (by decide) (by decide)))
  replace F_x_elementData := F_x_elementData.other W2 (Or.inr (slot_ne (Or.inl (hw _ (List.mem_of_getElem? (i := 39) rfl))) (Or.inl (hw _ (List.mem_of_getElem? (i := 68) rfl))) (by decide) (t := (.array (.object "java/lang/Object"))) (t' := .int) (by decide) (by decide)))
  replace V_d := V_d.other W2 (Ne.symm ne_x_d)
  replace O := O.wr W2 n0_x
  replace KP := KP.wr W2 (Or.inl (List.mem_of_getElem? (i := 0) rfl))
  have N2 := Fr.snoc X2 N1 n0_x
  refine Own.g_retV X2 hx hret hlocks (hb hby d12_22) (by decide) (by decide) e2 ?_
  exact ⟨rfl, N2, ⟨KP, E_x, F_x_modCount, F_x_elementData, F_x_size, V_d⟩⟩
theorem ef_add2 (m : MethodId) (x0 : Addr) (x1 : Addr) : entryFrame m #[.ref x0, .ref x1] 2 = mkF m 0 #[.val (.ref x0), .val (.ref x1)] [] := by first | (simp [entryFrame, mkF, argsToLocals, Value.category]; done) | rfl
def Q_add2 (Z : State) (x : Addr) (y : Addr) (mc : Int32) (d : Addr) (kd : ClassId) (y1 : Addr) (y2 : Addr) (h0 : Heap) (n0 : Nat) (v : Option Value) (h : Heap) (L : List Loc) : Prop := v = some (.int 1) ∧ Fr n0 L ∧ Keep h0 h [x, d] ∧ Exa Z h x "java/util/ArrayList" ∧ Fld Z h x "java/util/AbstractList" "modCount" "I" (.int (mc + (1 : Int32))) ∧ Fld Z h x "java/util/ArrayList" "elementData" "[Ljava/lang/Object;" (.ref d) ∧ Fld Z h x "java/util/ArrayList" "size" "I" (.int 3) ∧ Arv Z h d kd (.object "java/lang/Object") 10 [(.ref y1), (.ref y2), (.ref y), .null, .null, .null, .null, .null, .null, .null] .null
set_option maxRecDepth 65536 in
set_option maxHeartbeats 40000000 in
theorem rm_add2 (l : Launch) (Z : State) (a0 : Array Value) (hw : ∀ d ∈ tables_1, d.before a0 Z = true) (ws : List Jvm.Cond) (x : Addr) (y : Addr) (mc : Int32) (d : Addr) (kd : ClassId) (y1 : Addr) (y2 : Addr) (h0 : Heap) (n0 : Nat) (O : Old Z n0 h0) (n0_x : n0 ≤ x) (n0_d : n0 ≤ d) (I_y : Ins Z h0 y "java/lang/Object" true) (ne_x_d : x ≠ d) (V_d : Arv Z h0 d kd (.object "java/lang/Object") 10 [(.ref y1), (.ref y2), .null, .null, .null, .null, .null, .null, .null, .null] .null) (O_d : Ovr Z kd "java/lang/Object") (E_x : Exa Z h0 x "java/util/ArrayList") (F_x_modCount : Fld Z h0 x "java/util/AbstractList" "modCount" "I" (.int mc)) (F_x_elementData : Fld Z h0 x "java/util/ArrayList" "elementData" "[Ljava/lang/Object;" (.ref d)) (F_x_size : Fld Z h0 x "java/util/ArrayList" "size" "I" (.int 2)) :
    MetFree l (⟨"java/util/ArrayList", "add", "(Ljava/lang/Object;)Z"⟩ : MethodName) (head1 (Jvm.Cond.code (⟨"java/util/ArrayList", "add", "(Ljava/lang/Object;)Z"⟩ : MethodName) jdk_38_method_25_code 2 (some .boolean) :: ws) ({ frames := 4, cells := 1, slots := 10, locals := 90 } : Room)) (fun aa U => aa = #[.ref x, .ref y] ∧ Z.Warmed39 U.vm ∧ U.heap = h0) (fun _ _ _ _ _ => True) (fun _ U o U' => Own.End U (Q_add2 Z x y mc d kd y1 y2 h0 n0) 1 10 o U') := by
  refine MetFree.of_bodySF (plainFor_of_name pn_2) hisR ?_
  intro p e s m args below meth c s₁ Bd hml0 hP hK
  obtain ⟨rfl, hZ, hh⟩ := hP
  have hx := Bd.exec
  have hby := Bd.bytes
  have hml : c.maxLocals = 2 := hml0
  have hown : s.vm.findClass "java/util/ArrayList" = some m.cls := findClass_of_methodNamed Bd.named
  have hnm := (name_of_methodNamed Bd.named Bd.method).1
  have hret := Bd.returns
  have hlocks : meth.locks = false := Bd.notSynchronized
  have X0 : Stand p l e ({ frames := 4, cells := 1, slots := 10, locals := 90 } : Room) s m #[.ref x, .ref y] below meth c s₁ [] 0 0 := Stand.of_body Bd
  have e0 : s₁.heap = h0 := by rw [← hh, Bd.state]; rfl
  have N0 := Fr.nil n0
  show Own.Go p e below (Own.End s (Q_add2 Z x y mc d kd y1 y2 h0 n0) 1 10) (s₁.setTop (entryFrame m #[.ref x, .ref y] 2))
  refine Own.Go.eq (ef_add2 m x y) ?_
  have KP : Keep h0 h0 [x, d] := Keep.refl _ _
  refine Own.g_aloadN X0 hx (hb hby d11_0) rfl rfl 1 rfl ?_
  refine Own.g_dup X0 hx (hb hby d11_1) rfl 2 rfl ?_
  refine Own.g_getF X0 hx hZ hown (host := "") (Or.inl (hw _ (List.mem_of_getElem? (i := 86) rfl))) (Via.of (hw _ (List.mem_of_getElem? (i := 87) rfl))) e0 F_x_modCount (hb hby d11_2) 5 rfl ?_
  intro T1 X1 e1
  refine Own.g_iconst X1 hx (1 : Int32) (hb hby d11_5) rfl 6 rfl ?_
  refine Own.g_iadd X1 hx (hb hby d11_6) 7 rfl ?_
  refine Own.g_putF X1 hx hZ hown (host := "") (Or.inl (hw _ (List.mem_of_getElem? (i := 86) rfl))) (Via.of (hw _ (List.mem_of_getElem? (i := 87) rfl))) e1 F_x_modCount E_x (Or.inl (hw _ (List.mem_of_getElem? (i := 36) rfl))) (hw _ (List.mem_of_getElem? (i := 17) rfl)) (ty := .int) (by decide) rfl rfl (hb hby d11_7) 10 rfl ?_
  clear F_x_modCount; intro T2 h2 X2 e2 W2 F_x_modCount Ew2
  replace E_x := E_x.wr W2
  replace F_x_elementData := F_x_elementData.other W2 (Or.inr (slot_ne (Or.inl (hw _ (List.mem_of_getElem? (i := 39) rfl))) (Or.inl (hw _ (List.mem_of_getElem? (i := 36) rfl))) (by decide) (t := (.array (.object "java/lang/Object"))) (t' := .int) (by decide) (by decide)))
  replace F_x_size := F_x_size.other W2 (Or.inr (slot_ne (Or.inl (hw _ (List.mem_of_getElem? (i := 68) rfl))) (Or.inl (hw _ (List.mem_of_getElem? (i := 36) rfl))) (by decide) (t := .int) (t' := .int) (by decide) (by decide)))
  replace V_d := V_d.other W2 (Ne.symm ne_x_d)
  replace O := O.wr W2 n0_x
  replace KP := KP.wr W2 (Or.inl (List.mem_of_getElem? (i := 0) rfl))
  have N2 := Fr.snoc X2 N0 n0_x
  replace I_y := Ins.wr W2 I_y
  refine Own.g_aloadN X2 hx (hb hby d11_10) rfl rfl 11 rfl ?_
  refine Own.g_aloadN X2 hx (hb hby d11_11) rfl rfl 12 rfl ?_
  refine Own.g_aloadN X2 hx (hb hby d11_12) rfl rfl 13 rfl ?_
  refine Own.g_getF X2 hx hZ hown (host := "") (Or.inl (hw _ (List.mem_of_getElem? (i := 38) rfl))) Via.refl e2 F_x_elementData (hb hby d11_13) 16 rfl ?_
  intro T3 X3 e3
  refine Own.g_aloadN X3 hx (hb hby d11_16) rfl rfl 17 rfl ?_
  refine Own.g_getF X3 hx hZ hown (host := "") (Or.inl (hw _ (List.mem_of_getElem? (i := 67) rfl))) Via.refl e3 F_x_size (hb hby d11_17) 20 rfl ?_
  intro T4 X4 e4
  refine Own.g_private X4 hx hZ (y := (⟨"java/util/ArrayList", "add", "(Ljava/lang/Object;[Ljava/lang/Object;I)V"⟩ : MethodName)) hown (mvT hZ (hw _ (List.mem_of_getElem? (i := 88) rfl))) (mvT hZ (hw _ (List.mem_of_getElem? (i := 89) rfl))) (mvT hZ (hw _ (List.mem_of_getElem? (i := 91) rfl))) (hw _ (List.mem_of_getElem? (i := 90) rfl)) (mvT hZ (hw _ (List.mem_of_getElem? (i := 92) rfl))) (by decide) (a := x) [.ref y, .ref d, .int (2 : Int32)] (Own.back (W := 0) (rm_adh2 l Z a0 hw [] x y (.int (mc + (1 : Int32))) d kd y1 y2 h2 n0 O n0_x n0_d I_y ne_x_d V_d O_d E_x F_x_modCount F_x_elementData F_x_size) hZ (hw _ (List.mem_of_getElem? (i := 92) rfl)) (hw _ (List.mem_of_getElem? (i := 18) rfl)) (by decide) (by decide)) E_x e4 (by rw [hml]; rfl) [] (lenOf pd_4 rfl) rfl (Nat.le_of_ble_eq_true rfl) (hb hby d11_20) (by decide) (by decide) 23 rfl ?_
  rintro _ T5 L5 X5 ⟨rfl, N5q, K5, E_x, F_x_modCount, F_x_elementData, F_x_size, V_d⟩
  have N5 := Fr.app N2 N5q
  replace O := O.keep K5 (allS n0_x (allS n0_d all0))
  replace KP := KP.trans K5 (allS (Or.inl (List.mem_of_getElem? (i := 0) rfl)) (allS (Or.inl (List.mem_of_getElem? (i := 1) rfl)) all0))
  show Own.Go p e below _ (T5.setTop (mkF m 23 #[.val (.ref x), .val (.ref y)] []))
  refine Own.g_iconst X5 hx (1 : Int32) (hb hby d11_23) rfl 24 rfl ?_
  refine Own.g_ret X5 hx hret hlocks rfl (Or.inl ⟨rfl, by simp, _, rfl⟩) (hb hby d11_24) (by decide) (by decide) (rfl : T5.heap = T5.heap) ?_
  exact ⟨rfl, N5, ⟨KP, E_x, F_x_modCount, F_x_elementData, F_x_size, V_d⟩⟩
theorem ef_rnn (m : MethodId) (x0 : Addr) : entryFrame m #[.ref x0] 1 = mkF m 0 #[.val (.ref x0)] [] := by first | (simp [entryFrame, mkF, argsToLocals, Value.category]; done) | rfl
def Q_rnn (Z : State) (a1 : Addr) (h0 : Heap) (n0 : Nat) (v : Option Value) (h : Heap) (L : List Loc) : Prop := v = some (.ref a1) ∧ Fr n0 L ∧ h = h0
set_option maxRecDepth 65536 in
set_option maxHeartbeats 40000000 in
theorem rm_rnn (l : Launch) (Z : State) (a0 : Array Value) (hw : ∀ d ∈ tables_1, d.before a0 Z = true) (ws : List Jvm.Cond) (a1 : Addr) (h0 : Heap) (n0 : Nat) (O : Old Z n0 h0)  :
    MetFree l (⟨"java/util/Objects", "requireNonNull", "(Ljava/lang/Object;)Ljava/lang/Object;"⟩ : MethodName) (head1 (Jvm.Cond.code (⟨"java/util/Objects", "requireNonNull", "(Ljava/lang/Object;)Ljava/lang/Object;"⟩ : MethodName) jdk_31_method_10_code 1 (some (.object "java/lang/Object")) :: ws) ({ frames := 0, cells := 0, slots := 0, locals := 0 } : Room)) (fun aa U => aa = #[.ref a1] ∧ Z.Warmed39 U.vm ∧ U.heap = h0) (fun _ _ _ _ _ => True) (fun _ U o U' => Own.End U (Q_rnn Z a1 h0 n0) 0 0 o U') := by
  refine MetFree.of_bodySF (plainFor_of_name pn_3) hisR ?_
  intro p e s m args below meth c s₁ Bd hml0 hP hK
  obtain ⟨rfl, hZ, hh⟩ := hP
  have hx := Bd.exec
  have hby := Bd.bytes
  have hml : c.maxLocals = 1 := hml0
  have hown : s.vm.findClass "java/util/Objects" = some m.cls := findClass_of_methodNamed Bd.named
  have hnm := (name_of_methodNamed Bd.named Bd.method).1
  have hret := Bd.returns
  have hlocks : meth.locks = false := Bd.notSynchronized
  have X0 : Stand p l e ({ frames := 0, cells := 0, slots := 0, locals := 0 } : Room) s m #[.ref a1] below meth c s₁ [] 0 0 := Stand.of_body Bd
  have e0 : s₁.heap = h0 := by rw [← hh, Bd.state]; rfl
  have N0 := Fr.nil n0
  show Own.Go p e below (Own.End s (Q_rnn Z a1 h0 n0) 0 0) (s₁.setTop (entryFrame m #[.ref a1] 1))
  refine Own.Go.eq (ef_rnn m a1) ?_
  refine Own.g_aloadN X0 hx (hb hby d23_0) rfl rfl 1 rfl ?_
  refine Own.g_ifnonnull_t X0 hx (hb hby d23_1) 12 (by decide) ?_
  refine Own.g_aloadN X0 hx (hb hby d23_12) rfl rfl 13 rfl ?_
  refine Own.g_ret X0 hx hret hlocks rfl (Or.inr (Or.inr (Or.inr (Or.inr ⟨rfl, rfl, rfl⟩)))) (hb hby d23_13) (by decide) (by decide) e0 ?_
  exact ⟨rfl, N0, rfl⟩
theorem ef_min (m : MethodId) (x0 : Int32) (x1 : Int32) : entryFrame m #[.int x0, .int x1] 2 = mkF m 0 #[.val (.int x0), .val (.int x1)] [] := by first | (simp [entryFrame, mkF, argsToLocals, Value.category]; done) | rfl
def Q_min (Z : State) (x1 : Int32) (x2 : Int32) (h0 : Heap) (n0 : Nat) (v : Option Value) (h : Heap) (L : List Loc) : Prop := v = some (.int x2) ∧ Fr n0 L ∧ h = h0
set_option maxRecDepth 65536 in
set_option maxHeartbeats 40000000 in
theorem rm_min (l : Launch) (Z : State) (a0 : Array Value) (hw : ∀ d ∈ tables_1, d.before a0 Z = true) (ws : List Jvm.Cond) (x1 : Int32) (x2 : Int32) (h0 : Heap) (n0 : Nat) (O : Old Z n0 h0) (hc : x2 < x1) :
    MetFree l (⟨"java/lang/Math", "min", "(II)I"⟩ : MethodName) (head1 (Jvm.Cond.code (⟨"java/lang/Math", "min", "(II)I"⟩ : MethodName) jdk_29_method_69_code 2 (some .int) :: ws) ({ frames := 0, cells := 0, slots := 0, locals := 0 } : Room)) (fun aa U => aa = #[.int x1, .int x2] ∧ Z.Warmed39 U.vm ∧ U.heap = h0) (fun _ _ _ _ _ => True) (fun _ U o U' => Own.End U (Q_min Z x1 x2 h0 n0) 0 0 o U') := by
  refine MetFree.of_bodySF (Jvm.Free.JP.mathPlain rfl (by decide +kernel)) hisR ?_
  intro p e s m args below meth c s₁ Bd hml0 hP hK
  obtain ⟨rfl, hZ, hh⟩ := hP
  have hx := Bd.exec
  have hby := Bd.bytes
  have hml : c.maxLocals = 2 := hml0
  have hown : s.vm.findClass "java/lang/Math" = some m.cls := findClass_of_methodNamed Bd.named
  have hnm := (name_of_methodNamed Bd.named Bd.method).1
  have hret := Bd.returns
  have hlocks : meth.locks = false := Bd.notSynchronized
  have X0 : Stand p l e ({ frames := 0, cells := 0, slots := 0, locals := 0 } : Room) s m #[.int x1, .int x2] below meth c s₁ [] 0 0 := Stand.of_body Bd
  have e0 : s₁.heap = h0 := by rw [← hh, Bd.state]; rfl
  have N0 := Fr.nil n0
  show Own.Go p e below (Own.End s (Q_min Z x1 x2 h0 n0) 0 0) (s₁.setTop (entryFrame m #[.int x1, .int x2] 2))
  refine Own.Go.eq (ef_min m x1 x2) ?_
  refine Own.g_iloadN X0 hx (hb hby d20_0) rfl 1 rfl ?_
  refine Own.g_iloadN X0 hx (hb hby d20_1) rfl 2 rfl ?_
  refine Own.g_icmp_gt_t X0 hx (hb hby d20_2) hc 9 (by decide) ?_
  refine Own.g_iloadN X0 hx (hb hby d20_9) rfl 10 rfl ?_
  refine Own.g_ret X0 hx hret hlocks rfl (Or.inl ⟨rfl, by simp, _, rfl⟩) (hb hby d20_10) (by decide) (by decide) e0 ?_
  exact ⟨rfl, N0, rfl⟩
theorem ef_aici (m : MethodId) (x0 : Addr) : entryFrame m #[.ref x0] 1 = mkF m 0 #[.val (.ref x0)] [] := by first | (simp [entryFrame, mkF, argsToLocals, Value.category]; done) | rfl
def Q_aici (Z : State) (x : Addr) (h0 : Heap) (n0 : Nat) (v : Option Value) (h : Heap) (L : List Loc) : Prop := v = none ∧ Fr n0 L ∧ h = h0
set_option maxRecDepth 65536 in
set_option maxHeartbeats 40000000 in
theorem rm_aici (l : Launch) (Z : State) (a0 : Array Value) (hw : ∀ d ∈ tables_1, d.before a0 Z = true) (ws : List Jvm.Cond) (x : Addr) (h0 : Heap) (n0 : Nat) (O : Old Z n0 h0)  :
    MetFree l (⟨"java/util/ImmutableCollections$AbstractImmutableCollection", "<init>", "()V"⟩ : MethodName) (head1 (Jvm.Cond.code (⟨"java/util/ImmutableCollections$AbstractImmutableCollection", "<init>", "()V"⟩ : MethodName) jdk_47_method_1_code 1 none :: ws) ({ frames := 2, cells := 0, slots := 0, locals := 26 } : Room)) (fun aa U => aa = #[.ref x] ∧ Z.Warmed39 U.vm ∧ U.heap = h0) (fun _ _ _ _ _ => True) (fun _ U o U' => Own.End U (Q_aici Z x h0 n0) 0 0 o U') := by
  refine MetFree.of_bodySF (plainFor_of_name pn_4) hisR ?_
  intro p e s m args below meth c s₁ Bd hml0 hP hK
  obtain ⟨rfl, hZ, hh⟩ := hP
  have hx := Bd.exec
  have hby := Bd.bytes
  have hml : c.maxLocals = 1 := hml0
  have hown : s.vm.findClass "java/util/ImmutableCollections$AbstractImmutableCollection" = some m.cls := findClass_of_methodNamed Bd.named
  have hnm := (name_of_methodNamed Bd.named Bd.method).1
  have hret := Bd.returns
  have hlocks : meth.locks = false := Bd.notSynchronized
  have X0 : Stand p l e ({ frames := 2, cells := 0, slots := 0, locals := 26 } : Room) s m #[.ref x] below meth c s₁ [] 0 0 := Stand.of_body Bd
  have e0 : s₁.heap = h0 := by rw [← hh, Bd.state]; rfl
  have N0 := Fr.nil n0
  show Own.Go p e below (Own.End s (Q_aici Z x h0 n0) 0 0) (s₁.setTop (entryFrame m #[.ref x] 1))
  refine Own.Go.eq (ef_aici m x) ?_
  refine Own.g_aloadN X0 hx (hb hby d26_0) rfl rfl 1 rfl ?_
  refine Own.g_special X0 hx (y := (⟨"java/util/AbstractCollection", "<init>", "()V"⟩ : MethodName)) rfl hown (mvT hZ (hw _ (List.mem_of_getElem? (i := 180) rfl))) (mvT hZ (hw _ (List.mem_of_getElem? (i := 29) rfl))) (mvT hZ (hw _ (List.mem_of_getElem? (i := 33) rfl))) (by decide) (a := x) [] (Own.back (W := 0) (rm_aci l Z a0 hw [] x h0 n0 O ) hZ (hw _ (List.mem_of_getElem? (i := 33) rfl)) (hw _ (List.mem_of_getElem? (i := 32) rfl)) (by decide) (by decide)) e0 (by rw [hml]; rfl) [] (lenOf pd_0 rfl) rfl (Nat.le_of_ble_eq_true rfl) (hb hby d26_1) (by decide) (by decide) 4 rfl ?_
  rintro _ T1 L1 X1 ⟨rfl, N1q, eH1⟩
  have N1 := Fr.app N0 N1q
  show Own.Go p e below _ (T1.setTop (mkF m 4 #[.val (.ref x)] []))
  refine Own.g_retV X1 hx hret hlocks (hb hby d26_4) (by decide) (by decide) eH1 ?_
  exact ⟨rfl, N1, rfl⟩
theorem ef_aili (m : MethodId) (x0 : Addr) : entryFrame m #[.ref x0] 1 = mkF m 0 #[.val (.ref x0)] [] := by first | (simp [entryFrame, mkF, argsToLocals, Value.category]; done) | rfl
def Q_aili (Z : State) (x : Addr) (h0 : Heap) (n0 : Nat) (v : Option Value) (h : Heap) (L : List Loc) : Prop := v = none ∧ Fr n0 L ∧ h = h0
set_option maxRecDepth 65536 in
set_option maxHeartbeats 40000000 in
theorem rm_aili (l : Launch) (Z : State) (a0 : Array Value) (hw : ∀ d ∈ tables_1, d.before a0 Z = true) (ws : List Jvm.Cond) (x : Addr) (h0 : Heap) (n0 : Nat) (O : Old Z n0 h0)  :
    MetFree l (⟨"java/util/ImmutableCollections$AbstractImmutableList", "<init>", "()V"⟩ : MethodName) (head1 (Jvm.Cond.code (⟨"java/util/ImmutableCollections$AbstractImmutableList", "<init>", "()V"⟩ : MethodName) jdk_46_method_1_code 1 none :: ws) ({ frames := 3, cells := 0, slots := 0, locals := 40 } : Room)) (fun aa U => aa = #[.ref x] ∧ Z.Warmed39 U.vm ∧ U.heap = h0) (fun _ _ _ _ _ => True) (fun _ U o U' => Own.End U (Q_aili Z x h0 n0) 0 0 o U') := by
  refine MetFree.of_bodySF (plainFor_of_name pn_5) hisR ?_
  intro p e s m args below meth c s₁ Bd hml0 hP hK
  obtain ⟨rfl, hZ, hh⟩ := hP
  have hx := Bd.exec
  have hby := Bd.bytes
  have hml : c.maxLocals = 1 := hml0
  have hown : s.vm.findClass "java/util/ImmutableCollections$AbstractImmutableList" = some m.cls := findClass_of_methodNamed Bd.named
  have hnm := (name_of_methodNamed Bd.named Bd.method).1
  have hret := Bd.returns
  have hlocks : meth.locks = false := Bd.notSynchronized
  have X0 : Stand p l e ({ frames := 3, cells := 0, slots := 0, locals := 40 } : Room) s m #[.ref x] below meth c s₁ [] 0 0 := Stand.of_body Bd
  have e0 : s₁.heap = h0 := by rw [← hh, Bd.state]; rfl
  have N0 := Fr.nil n0
  show Own.Go p e below (Own.End s (Q_aili Z x h0 n0) 0 0) (s₁.setTop (entryFrame m #[.ref x] 1))
  refine Own.Go.eq (ef_aili m x) ?_
  refine Own.g_aloadN X0 hx (hb hby d25_0) rfl rfl 1 rfl ?_
  refine Own.g_special X0 hx (y := (⟨"java/util/ImmutableCollections$AbstractImmutableCollection", "<init>", "()V"⟩ : MethodName)) rfl hown (mvT hZ (hw _ (List.mem_of_getElem? (i := 174) rfl))) (mvT hZ (hw _ (List.mem_of_getElem? (i := 175) rfl))) (mvT hZ (hw _ (List.mem_of_getElem? (i := 179) rfl))) (by decide) (a := x) [] (Own.back (W := 0) (rm_aici l Z a0 hw [] x h0 n0 O ) hZ (hw _ (List.mem_of_getElem? (i := 179) rfl)) (hw _ (List.mem_of_getElem? (i := 178) rfl)) (by decide) (by decide)) e0 (by rw [hml]; rfl) [] (lenOf pd_0 rfl) rfl (Nat.le_of_ble_eq_true rfl) (hb hby d25_1) (by decide) (by decide) 4 rfl ?_
  rintro _ T1 L1 X1 ⟨rfl, N1q, eH1⟩
  have N1 := Fr.app N0 N1q
  show Own.Go p e below _ (T1.setTop (mkF m 4 #[.val (.ref x)] []))
  refine Own.g_retV X1 hx hret hlocks (hb hby d25_4) (by decide) (by decide) eH1 ?_
  exact ⟨rfl, N1, rfl⟩
theorem ef_l1i (m : MethodId) (x0 : Addr) (x1 : Addr) : entryFrame m #[.ref x0, .ref x1] 2 = mkF m 0 #[.val (.ref x0), .val (.ref x1)] [] := by first | (simp [entryFrame, mkF, argsToLocals, Value.category]; done) | rfl
def Q_l1i (Z : State) (x : Addr) (a1 : Addr) (em : Addr) (h0 : Heap) (n0 : Nat) (v : Option Value) (h : Heap) (L : List Loc) : Prop := v = none ∧ Fr n0 L ∧ Keep h0 h [x] ∧ Exa Z h x "java/util/ImmutableCollections$List12"
set_option maxRecDepth 65536 in
set_option maxHeartbeats 40000000 in
theorem rm_l1i (l : Launch) (Z : State) (a0 : Array Value) (hw : ∀ d ∈ tables_1, d.before a0 Z = true) (ws : List Jvm.Cond) (x : Addr) (a1 : Addr) (em : Addr) (h0 : Heap) (n0 : Nat) (O : Old Z n0 h0) (n0_x : n0 ≤ x) (SEM : Sta Z Z.heap "java/util/ImmutableCollections" "EMPTY" "Ljava/lang/Object;" (.ref em)) (E_x : Exa Z h0 x "java/util/ImmutableCollections$List12") (F_x_e0 : Fld Z h0 x "java/util/ImmutableCollections$List12" "e0" "Ljava/lang/Object;" .null) (F_x_e1 : Fld Z h0 x "java/util/ImmutableCollections$List12" "e1" "Ljava/lang/Object;" .null) :
    MetFree l (⟨"java/util/ImmutableCollections$List12", "<init>", "(Ljava/lang/Object;)V"⟩ : MethodName) (head1 (Jvm.Cond.code (⟨"java/util/ImmutableCollections$List12", "<init>", "(Ljava/lang/Object;)V"⟩ : MethodName) jdk_44_method_1_code 2 none :: ws) ({ frames := 4, cells := 0, slots := 0, locals := 60 } : Room)) (fun aa U => aa = #[.ref x, .ref a1] ∧ Z.Warmed39 U.vm ∧ U.heap = h0) (fun _ _ _ _ _ => True) (fun _ U o U' => Own.End U (Q_l1i Z x a1 em h0 n0) 0 0 o U') := by
  refine MetFree.of_bodySF (plainFor_of_name pn_6) hisR ?_
  intro p e s m args below meth c s₁ Bd hml0 hP hK
  obtain ⟨rfl, hZ, hh⟩ := hP
  have hx := Bd.exec
  have hby := Bd.bytes
  have hml : c.maxLocals = 2 := hml0
  have hown : s.vm.findClass "java/util/ImmutableCollections$List12" = some m.cls := findClass_of_methodNamed Bd.named
  have hnm := (name_of_methodNamed Bd.named Bd.method).1
  have hret := Bd.returns
  have hlocks : meth.locks = false := Bd.notSynchronized
  have X0 : Stand p l e ({ frames := 4, cells := 0, slots := 0, locals := 60 } : Room) s m #[.ref x, .ref a1] below meth c s₁ [] 0 0 := Stand.of_body Bd
  have e0 : s₁.heap = h0 := by rw [← hh, Bd.state]; rfl
  have N0 := Fr.nil n0
  show Own.Go p e below (Own.End s (Q_l1i Z x a1 em h0 n0) 0 0) (s₁.setTop (entryFrame m #[.ref x, .ref a1] 2))
  refine Own.Go.eq (ef_l1i m x a1) ?_
  have KP : Keep h0 h0 [x] := Keep.refl _ _
  refine Own.g_aloadN X0 hx (hb hby d32_0) rfl rfl 1 rfl ?_
  refine Own.g_special X0 hx (y := (⟨"java/util/ImmutableCollections$AbstractImmutableList", "<init>", "()V"⟩ : MethodName)) rfl hown (mvT hZ (hw _ (List.mem_of_getElem? (i := 195) rfl))) (mvT hZ (hw _ (List.mem_of_getElem? (i := 169) rfl))) (mvT hZ (hw _ (List.mem_of_getElem? (i := 173) rfl))) (by decide) (a := x) [] (Own.back (W := 0) (rm_aili l Z a0 hw [] x h0 n0 O ) hZ (hw _ (List.mem_of_getElem? (i := 173) rfl)) (hw _ (List.mem_of_getElem? (i := 172) rfl)) (by decide) (by decide)) e0 (by rw [hml]; rfl) [] (lenOf pd_0 rfl) rfl (Nat.le_of_ble_eq_true rfl) (hb hby d32_1) (by decide) (by decide) 4 rfl ?_
  rintro _ T1 L1 X1 ⟨rfl, N1q, eH1⟩
  have N1 := Fr.app N0 N1q
  show Own.Go p e below _ (T1.setTop (mkF m 4 #[.val (.ref x), .val (.ref a1)] []))
  refine Own.g_aloadN X1 hx (hb hby d32_4) rfl rfl 5 rfl ?_
  refine Own.g_aloadN X1 hx (hb hby d32_5) rfl rfl 6 rfl ?_
  refine Own.g_callS X1 hx (y := (⟨"java/util/Objects", "requireNonNull", "(Ljava/lang/Object;)Ljava/lang/Object;"⟩ : MethodName)) hown (mvT hZ (hw _ (List.mem_of_getElem? (i := 199) rfl))) (mvT hZ (hw _ (List.mem_of_getElem? (i := 159) rfl))) (mvT hZ (hw _ (List.mem_of_getElem? (i := 160) rfl))) (mvT hZ (hw _ (List.mem_of_getElem? (i := 161) rfl))) (by decide) [.ref a1] (Own.back (W := 1) (rm_rnn l Z a0 hw [] a1 h0 n0 O ) hZ (hw _ (List.mem_of_getElem? (i := 161) rfl)) (hw _ (List.mem_of_getElem? (i := 160) rfl)) (by decide) (by decide)) eH1 (by rw [hml]; rfl) [(.ref x)] (lenOf pd_5 rfl) rfl (Nat.le_of_ble_eq_true rfl) (hb hby d32_6) (by decide) (by decide) 9 rfl ?_
  rintro _ T2 L2 X2 ⟨rfl, N2q, eH2⟩
  have N2 := Fr.app N1 N2q
  show Own.Go p e below _ (T2.setTop (mkF m 9 #[.val (.ref x), .val (.ref a1)] [(.ref a1), (.ref x)]))
  refine Own.g_putF X2 hx hZ hown (host := "") (Or.inl (hw _ (List.mem_of_getElem? (i := 200) rfl))) Via.refl eH2 F_x_e0 E_x (Or.inr ⟨(hw _ (List.mem_of_getElem? (i := 201) rfl)), rfl, hnm⟩) (hw _ (List.mem_of_getElem? (i := 189) rfl)) (ty := (.object "java/lang/Object")) (by decide) rfl rfl (hb hby d32_9) 12 rfl ?_
  clear F_x_e0; intro T3 h3 X3 e3 W3 F_x_e0 Ew3
  replace E_x := E_x.wr W3
  replace F_x_e1 := F_x_e1.other W3 (Or.inr (slot_ne (Or.inr (hw _ (List.mem_of_getElem? (i := 203) rfl))) (Or.inr (hw _ (List.mem_of_getElem? (i := 201) rfl))) (by decide) (t := (.object "java/lang/Object")) (t' := (.object "java/lang/Object")) (by decide) (by decide)))
  replace O := O.wr W3 n0_x
  replace KP := KP.wr W3 (Or.inl (List.mem_of_getElem? (i := 0) rfl))
  have N3 := Fr.snoc X3 N2 n0_x
  refine Own.g_aloadN X3 hx (hb hby d32_12) rfl rfl 13 rfl ?_
  refine Own.g_getS X3 hx hZ hown (Or.inr (hw _ (List.mem_of_getElem? (i := 241) rfl))) Via.refl e3 (SEM.ext O.2) (hb hby d32_13) 16 rfl ?_
  intro T4 X4 e4
  refine Own.g_putF X4 hx hZ hown (host := "") (Or.inl (hw _ (List.mem_of_getElem? (i := 202) rfl))) Via.refl e4 F_x_e1 E_x (Or.inr ⟨(hw _ (List.mem_of_getElem? (i := 203) rfl)), rfl, hnm⟩) (hw _ (List.mem_of_getElem? (i := 189) rfl)) (ty := (.object "java/lang/Object")) (by decide) rfl rfl (hb hby d32_16) 19 rfl ?_
  clear F_x_e1; intro T5 h5 X5 e5 W5 F_x_e1 Ew5
  replace E_x := E_x.wr W5
  replace F_x_e0 := F_x_e0.other W5 (Or.inr (slot_ne (Or.inr (hw _ (List.mem_of_getElem? (i := 201) rfl))) (Or.inr (hw _ (List.mem_of_getElem? (i := 203) rfl))) (by decide) (t := (.object "java/lang/Object")) (t' := (.object "java/lang/Object")) (by decide) (by decide)))
  replace O := O.wr W5 n0_x
  replace KP := KP.wr W5 (Or.inl (List.mem_of_getElem? (i := 0) rfl))
  have N5 := Fr.snoc X5 N3 n0_x
  refine Own.g_retV X5 hx hret hlocks (hb hby d32_19) (by decide) (by decide) e5 ?_
  exact ⟨rfl, N5, KP, E_x⟩
theorem ef_l2i (m : MethodId) (x0 : Addr) (x1 : Addr) (x2 : Addr) : entryFrame m #[.ref x0, .ref x1, .ref x2] 3 = mkF m 0 #[.val (.ref x0), .val (.ref x1), .val (.ref x2)] [] := by first | (simp [entryFrame, mkF, argsToLocals, Value.category]; done) | rfl
def Q_l2i (Z : State) (x : Addr) (a1 : Addr) (a2 : Addr) (h0 : Heap) (n0 : Nat) (v : Option Value) (h : Heap) (L : List Loc) : Prop := v = none ∧ Fr n0 L ∧ Keep h0 h [x] ∧ Exa Z h x "java/util/ImmutableCollections$List12"
set_option maxRecDepth 65536 in
set_option maxHeartbeats 40000000 in
theorem rm_l2i (l : Launch) (Z : State) (a0 : Array Value) (hw : ∀ d ∈ tables_1, d.before a0 Z = true) (ws : List Jvm.Cond) (x : Addr) (a1 : Addr) (a2 : Addr) (h0 : Heap) (n0 : Nat) (O : Old Z n0 h0) (n0_x : n0 ≤ x) (E_x : Exa Z h0 x "java/util/ImmutableCollections$List12") (F_x_e0 : Fld Z h0 x "java/util/ImmutableCollections$List12" "e0" "Ljava/lang/Object;" .null) (F_x_e1 : Fld Z h0 x "java/util/ImmutableCollections$List12" "e1" "Ljava/lang/Object;" .null) :
    MetFree l (⟨"java/util/ImmutableCollections$List12", "<init>", "(Ljava/lang/Object;Ljava/lang/Object;)V"⟩ : MethodName) (head1 (Jvm.Cond.code (⟨"java/util/ImmutableCollections$List12", "<init>", "(Ljava/lang/Object;Ljava/lang/Object;)V"⟩ : MethodName) jdk_44_method_2_code 3 none :: ws) ({ frames := 4, cells := 0, slots := 0, locals := 60 } : Room)) (fun aa U => aa = #[.ref x, .ref a1, .ref a2] ∧ Z.Warmed39 U.vm ∧ U.heap = h0) (fun _ _ _ _ _ => True) (fun _ U o U' => Own.End U (Q_l2i Z x a1 a2 h0 n0) 0 0 o U') := by
  refine MetFree.of_bodySF (plainFor_of_name pn_6) hisR ?_
  intro p e s m args below meth c s₁ Bd hml0 hP hK
  obtain ⟨rfl, hZ, hh⟩ := hP
  have hx := Bd.exec
  have hby := Bd.bytes
  have hml : c.maxLocals = 3 := hml0
  have hown : s.vm.findClass "java/util/ImmutableCollections$List12" = some m.cls := findClass_of_methodNamed Bd.named
  have hnm := (name_of_methodNamed Bd.named Bd.method).1
  have hret := Bd.returns
  have hlocks : meth.locks = false := Bd.notSynchronized
  have X0 : Stand p l e ({ frames := 4, cells := 0, slots := 0, locals := 60 } : Room) s m #[.ref x, .ref a1, .ref a2] below meth c s₁ [] 0 0 := Stand.of_body Bd
  have e0 : s₁.heap = h0 := by rw [← hh, Bd.state]; rfl
  have N0 := Fr.nil n0
  show Own.Go p e below (Own.End s (Q_l2i Z x a1 a2 h0 n0) 0 0) (s₁.setTop (entryFrame m #[.ref x, .ref a1, .ref a2] 3))
  refine Own.Go.eq (ef_l2i m x a1 a2) ?_
  have KP : Keep h0 h0 [x] := Keep.refl _ _
  refine Own.g_aloadN X0 hx (hb hby d27_0) rfl rfl 1 rfl ?_
  refine Own.g_special X0 hx (y := (⟨"java/util/ImmutableCollections$AbstractImmutableList", "<init>", "()V"⟩ : MethodName)) rfl hown (mvT hZ (hw _ (List.mem_of_getElem? (i := 195) rfl))) (mvT hZ (hw _ (List.mem_of_getElem? (i := 169) rfl))) (mvT hZ (hw _ (List.mem_of_getElem? (i := 173) rfl))) (by decide) (a := x) [] (Own.back (W := 0) (rm_aili l Z a0 hw [] x h0 n0 O ) hZ (hw _ (List.mem_of_getElem? (i := 173) rfl)) (hw _ (List.mem_of_getElem? (i := 172) rfl)) (by decide) (by decide)) e0 (by rw [hml]; rfl) [] (lenOf pd_0 rfl) rfl (Nat.le_of_ble_eq_true rfl) (hb hby d27_1) (by decide) (by decide) 4 rfl ?_
  rintro _ T1 L1 X1 ⟨rfl, N1q, eH1⟩
  have N1 := Fr.app N0 N1q
  show Own.Go p e below _ (T1.setTop (mkF m 4 #[.val (.ref x), .val (.ref a1), .val (.ref a2)] []))
  refine Own.g_aloadN X1 hx (hb hby d27_4) rfl rfl 5 rfl ?_
  refine Own.g_aloadN X1 hx (hb hby d27_5) rfl rfl 6 rfl ?_
  refine Own.g_callS X1 hx (y := (⟨"java/util/Objects", "requireNonNull", "(Ljava/lang/Object;)Ljava/lang/Object;"⟩ : MethodName)) hown (mvT hZ (hw _ (List.mem_of_getElem? (i := 199) rfl))) (mvT hZ (hw _ (List.mem_of_getElem? (i := 159) rfl))) (mvT hZ (hw _ (List.mem_of_getElem? (i := 160) rfl))) (mvT hZ (hw _ (List.mem_of_getElem? (i := 161) rfl))) (by decide) [.ref a1] (Own.back (W := 1) (rm_rnn l Z a0 hw [] a1 h0 n0 O ) hZ (hw _ (List.mem_of_getElem? (i := 161) rfl)) (hw _ (List.mem_of_getElem? (i := 160) rfl)) (by decide) (by decide)) eH1 (by rw [hml]; rfl) [(.ref x)] (lenOf pd_5 rfl) rfl (Nat.le_of_ble_eq_true rfl) (hb hby d27_6) (by decide) (by decide) 9 rfl ?_
  rintro _ T2 L2 X2 ⟨rfl, N2q, eH2⟩
  have N2 := Fr.app N1 N2q
  show Own.Go p e below _ (T2.setTop (mkF m 9 #[.val (.ref x), .val (.ref a1), .val (.ref a2)] [(.ref a1), (.ref x)]))
  refine Own.g_putF X2 hx hZ hown (host := "") (Or.inl (hw _ (List.mem_of_getElem? (i := 200) rfl))) Via.refl eH2 F_x_e0 E_x (Or.inr ⟨(hw _ (List.mem_of_getElem? (i := 201) rfl)), rfl, hnm⟩) (hw _ (List.mem_of_getElem? (i := 189) rfl)) (ty := (.object "java/lang/Object")) (by decide) rfl rfl (hb hby d27_9) 12 rfl ?_
  clear F_x_e0; intro T3 h3 X3 e3 W3 F_x_e0 Ew3
  replace E_x := E_x.wr W3
  replace F_x_e1 := F_x_e1.other W3 (Or.inr (slot_ne (Or.inr (hw _ (List.mem_of_getElem? (i := 203) rfl))) (Or.inr (hw _ (List.mem_of_getElem? (i := 201) rfl))) (by decide) (t := (.object "java/lang/Object")) (t' := (.object "java/lang/Object")) (by decide) (by decide)))
  replace O := O.wr W3 n0_x
  replace KP := KP.wr W3 (Or.inl (List.mem_of_getElem? (i := 0) rfl))
  have N3 := Fr.snoc X3 N2 n0_x
  refine Own.g_aloadN X3 hx (hb hby d27_12) rfl rfl 13 rfl ?_
  refine Own.g_aloadN X3 hx (hb hby d27_13) rfl rfl 14 rfl ?_
  refine Own.g_callS X3 hx (y := (⟨"java/util/Objects", "requireNonNull", "(Ljava/lang/Object;)Ljava/lang/Object;"⟩ : MethodName)) hown (mvT hZ (hw _ (List.mem_of_getElem? (i := 199) rfl))) (mvT hZ (hw _ (List.mem_of_getElem? (i := 159) rfl))) (mvT hZ (hw _ (List.mem_of_getElem? (i := 160) rfl))) (mvT hZ (hw _ (List.mem_of_getElem? (i := 161) rfl))) (by decide) [.ref a2] (Own.back (W := 1) (rm_rnn l Z a0 hw [] a2 h3 n0 O ) hZ (hw _ (List.mem_of_getElem? (i := 161) rfl)) (hw _ (List.mem_of_getElem? (i := 160) rfl)) (by decide) (by decide)) e3 (by rw [hml]; rfl) [(.ref x)] (lenOf pd_5 rfl) rfl (Nat.le_of_ble_eq_true rfl) (hb hby d27_14) (by decide) (by decide) 17 rfl ?_
  rintro _ T4 L4 X4 ⟨rfl, N4q, eH4⟩
  have N4 := Fr.app N3 N4q
  show Own.Go p e below _ (T4.setTop (mkF m 17 #[.val (.ref x), .val (.ref a1), .val (.ref a2)] [(.ref a2), (.ref x)]))
  refine Own.g_putF X4 hx hZ hown (host := "") (Or.inl (hw _ (List.mem_of_getElem? (i := 202) rfl))) Via.refl eH4 F_x_e1 E_x (Or.inr ⟨(hw _ (List.mem_of_getElem? (i := 203) rfl)), rfl, hnm⟩) (hw _ (List.mem_of_getElem? (i := 189) rfl)) (ty := (.object "java/lang/Object")) (by decide) rfl rfl (hb hby d27_17) 20 rfl ?_
  clear F_x_e1; intro T5 h5 X5 e5 W5 F_x_e1 Ew5
  replace E_x := E_x.wr W5
  replace F_x_e0 := F_x_e0.other W5 (Or.inr (slot_ne (Or.inr (hw _ (List.mem_of_getElem? (i := 201) rfl))) (Or.inr (hw _ (List.mem_of_getElem? (i := 203) rfl))) (by decide) (t := (.object "java/lang/Object")) (t' := (.object "java/lang/Object")) (by decide) (by decide)))
  replace O := O.wr W5 n0_x
  replace KP := KP.wr W5 (Or.inl (List.mem_of_getElem? (i := 0) rfl))
  have N5 := Fr.snoc X5 N4 n0_x
  refine Own.g_retV X5 hx hret hlocks (hb hby d27_20) (by decide) (by decide) e5 ?_
  exact ⟨rfl, N5, KP, E_x⟩
theorem ef_lni (m : MethodId) (x0 : Addr) (x1 : Addr) (x2 : Int32) : entryFrame m #[.ref x0, .ref x1, .int x2] 3 = mkF m 0 #[.val (.ref x0), .val (.ref x1), .val (.int x2)] [] := by first | (simp [entryFrame, mkF, argsToLocals, Value.category]; done) | rfl
def Q_lni (Z : State) (x : Addr) (a1 : Addr) (h0 : Heap) (n0 : Nat) (v : Option Value) (h : Heap) (L : List Loc) : Prop := v = none ∧ Fr n0 L ∧ Keep h0 h [x] ∧ Exa Z h x "java/util/ImmutableCollections$ListN" ∧ Fld Z h x "java/util/ImmutableCollections$ListN" "elements" "[Ljava/lang/Object;" (.ref a1) ∧ Fld Z h x "java/util/ImmutableCollections$ListN" "allowNulls" "Z" (.int 0)
set_option maxRecDepth 65536 in
set_option maxHeartbeats 40000000 in
theorem rm_lni (l : Launch) (Z : State) (a0 : Array Value) (hw : ∀ d ∈ tables_1, d.before a0 Z = true) (ws : List Jvm.Cond) (x : Addr) (a1 : Addr) (h0 : Heap) (n0 : Nat) (O : Old Z n0 h0) (n0_x : n0 ≤ x) (E_x : Exa Z h0 x "java/util/ImmutableCollections$ListN") (F_x_elements : Fld Z h0 x "java/util/ImmutableCollections$ListN" "elements" "[Ljava/lang/Object;" .null) (F_x_allowNulls : Fld Z h0 x "java/util/ImmutableCollections$ListN" "allowNulls" "Z" (.int 0)) :
    MetFree l (⟨"java/util/ImmutableCollections$ListN", "<init>", "([Ljava/lang/Object;Z)V"⟩ : MethodName) (head1 (Jvm.Cond.code (⟨"java/util/ImmutableCollections$ListN", "<init>", "([Ljava/lang/Object;Z)V"⟩ : MethodName) jdk_45_method_1_code 3 none :: ws) ({ frames := 4, cells := 0, slots := 0, locals := 60 } : Room)) (fun aa U => aa = #[.ref x, .ref a1, .int (0 : Int32)] ∧ Z.Warmed39 U.vm ∧ U.heap = h0) (fun _ _ _ _ _ => True) (fun _ U o U' => Own.End U (Q_lni Z x a1 h0 n0) 0 0 o U') := by
  refine MetFree.of_bodySF (plainFor_of_name pn_7) hisR ?_
  intro p e s m args below meth c s₁ Bd hml0 hP hK
  obtain ⟨rfl, hZ, hh⟩ := hP
  have hx := Bd.exec
  have hby := Bd.bytes
  have hml : c.maxLocals = 3 := hml0
  have hown : s.vm.findClass "java/util/ImmutableCollections$ListN" = some m.cls := findClass_of_methodNamed Bd.named
  have hnm := (name_of_methodNamed Bd.named Bd.method).1
  have hret := Bd.returns
  have hlocks : meth.locks = false := Bd.notSynchronized
  have X0 : Stand p l e ({ frames := 4, cells := 0, slots := 0, locals := 60 } : Room) s m #[.ref x, .ref a1, .int (0 : Int32)] below meth c s₁ [] 0 0 := Stand.of_body Bd
  have e0 : s₁.heap = h0 := by rw [← hh, Bd.state]; rfl
  have N0 := Fr.nil n0
  show Own.Go p e below (Own.End s (Q_lni Z x a1 h0 n0) 0 0) (s₁.setTop (entryFrame m #[.ref x, .ref a1, .int (0 : Int32)] 3))
  refine Own.Go.eq (ef_lni m x a1 (0 : Int32)) ?_
  have KP : Keep h0 h0 [x] := Keep.refl _ _
  refine Own.g_aloadN X0 hx (hb hby d24_0) rfl rfl 1 rfl ?_
  refine Own.g_special X0 hx (y := (⟨"java/util/ImmutableCollections$AbstractImmutableList", "<init>", "()V"⟩ : MethodName)) rfl hown (mvT hZ (hw _ (List.mem_of_getElem? (i := 168) rfl))) (mvT hZ (hw _ (List.mem_of_getElem? (i := 169) rfl))) (mvT hZ (hw _ (List.mem_of_getElem? (i := 173) rfl))) (by decide) (a := x) [] (Own.back (W := 0) (rm_aili l Z a0 hw [] x h0 n0 O ) hZ (hw _ (List.mem_of_getElem? (i := 173) rfl)) (hw _ (List.mem_of_getElem? (i := 172) rfl)) (by decide) (by decide)) e0 (by rw [hml]; rfl) [] (lenOf pd_0 rfl) rfl (Nat.le_of_ble_eq_true rfl) (hb hby d24_1) (by decide) (by decide) 4 rfl ?_
  rintro _ T1 L1 X1 ⟨rfl, N1q, eH1⟩
  have N1 := Fr.app N0 N1q
  show Own.Go p e below _ (T1.setTop (mkF m 4 #[.val (.ref x), .val (.ref a1), .val (.int (0 : Int32))] []))
  refine Own.g_aloadN X1 hx (hb hby d24_4) rfl rfl 5 rfl ?_
  refine Own.g_aloadN X1 hx (hb hby d24_5) rfl rfl 6 rfl ?_
  refine Own.g_putF X1 hx hZ hown (host := "") (Or.inl (hw _ (List.mem_of_getElem? (i := 182) rfl))) Via.refl eH1 F_x_elements E_x (Or.inr ⟨(hw _ (List.mem_of_getElem? (i := 183) rfl)), rfl, hnm⟩) (hw _ (List.mem_of_getElem? (i := 162) rfl)) (ty := (.array (.object "java/lang/Object"))) (by decide) rfl rfl (hb hby d24_6) 9 rfl ?_
  clear F_x_elements; intro T2 h2 X2 e2 W2 F_x_elements Ew2
  replace E_x := E_x.wr W2
  replace F_x_allowNulls := F_x_allowNulls.other W2 (Or.inr (slot_ne (Or.inr (hw _ (List.mem_of_getElem? (i := 185) rfl))) (Or.inr (hw _ (List.mem_of_getElem? (i := 183) rfl))) (by decide) (t := .boolean) (t' := (.array (.object "java/lang/Object"))) (by decide) (by decide)))
  replace O := O.wr W2 n0_x
  replace KP := KP.wr W2 (Or.inl (List.mem_of_getElem? (i := 0) rfl))
  have N2 := Fr.snoc X2 N1 n0_x
  refine Own.g_aloadN X2 hx (hb hby d24_9) rfl rfl 10 rfl ?_
  refine Own.g_iloadN X2 hx (hb hby d24_10) rfl 11 rfl ?_
  refine Own.g_putF X2 hx hZ hown (host := "") (Or.inl (hw _ (List.mem_of_getElem? (i := 184) rfl))) Via.refl e2 F_x_allowNulls E_x (Or.inr ⟨(hw _ (List.mem_of_getElem? (i := 185) rfl)), rfl, hnm⟩) (hw _ (List.mem_of_getElem? (i := 162) rfl)) (ty := .boolean) (by decide) rfl rfl (hb hby d24_11) 14 rfl ?_
  clear F_x_allowNulls; intro T3 h3 X3 e3 W3 F_x_allowNulls Ew3
  replace E_x := E_x.wr W3
  replace F_x_elements := F_x_elements.other W3 (Or.inr (slot_ne (Or.inr (hw _ (List.mem_of_getElem? (i := 183) rfl))) (Or.inr (hw _ (List.mem_of_getElem? (i := 185) rfl))) (by decide) (t := (.array (.object "java/lang/Object"))) (t' := .boolean) (by decide) (by decide)))
  replace O := O.wr W3 n0_x
  replace KP := KP.wr W3 (Or.inl (List.mem_of_getElem? (i := 0) rfl))
  have N3 := Fr.snoc X3 N2 n0_x
  refine Own.g_retV X3 hx hret hlocks (hb hby d24_14) (by decide) (by decide) e3 ?_
  exact ⟨rfl, N3, KP, E_x, F_x_elements, F_x_allowNulls⟩
theorem ef_lfa (m : MethodId) (x0 : Addr) : entryFrame m #[.ref x0] 3 = mkF m 0 #[.val (.ref x0), .unset, .unset] [] := by first | (simp [entryFrame, mkF, argsToLocals, Value.category]; done) | rfl
def Q_lfa (Z : State) (b : Addr) (kb : ClassId) (y1 : Addr) (y2 : Addr) (y3 : Addr) (h0 : Heap) (n0 : Nat) (v : Option Value) (h : Heap) (L : List Loc) : Prop := ∃ (r : Addr) (e : Addr), v = some (.ref r) ∧ Fr n0 L ∧ Keep h0 h [] ∧ Own.Im Z h r e false
set_option maxRecDepth 65536 in
set_option maxHeartbeats 40000000 in
theorem rm_lfa (l : Launch) (Z : State) (a0 : Array Value) (hw : ∀ d ∈ tables_1, d.before a0 Z = true) (ws : List Jvm.Cond) (b : Addr) (kb : ClassId) (y1 : Addr) (y2 : Addr) (y3 : Addr) (h0 : Heap) (n0 : Nat) (O : Old Z n0 h0) (V_b : Arv Z h0 b kb (.object "java/lang/Object") 3 [(.ref y1), (.ref y2), (.ref y3)] .null) (I_y1 : Ins Z h0 y1 "java/lang/Object" true) (I_y2 : Ins Z h0 y2 "java/lang/Object" true) (I_y3 : Ins Z h0 y3 "java/lang/Object" true) :
    MetFree l (⟨"java/util/ImmutableCollections", "listFromArray", "([Ljava/lang/Object;)Ljava/util/List;"⟩ : MethodName) (head1 (Jvm.Cond.code (⟨"java/util/ImmutableCollections", "listFromArray", "([Ljava/lang/Object;)Ljava/util/List;"⟩ : MethodName) jdk_56_method_4_code 3 (some (.object "java/util/List")) :: ws) ({ frames := 5, cells := 2, slots := 5, locals := 80 } : Room)) (fun aa U => aa = #[.ref b] ∧ Z.Warmed39 U.vm ∧ U.heap = h0) (fun _ _ _ _ _ => True) (fun _ U o U' => Own.End U (Q_lfa Z b kb y1 y2 y3 h0 n0) 2 5 o U') := by
  refine MetFree.of_bodySF (plainFor_of_name pn_8) hisR ?_
  intro p e s m args below meth c s₁ Bd hml0 hP hK
  obtain ⟨rfl, hZ, hh⟩ := hP
  have hx := Bd.exec
  have hby := Bd.bytes
  have hml : c.maxLocals = 3 := hml0
  have hown : s.vm.findClass "java/util/ImmutableCollections" = some m.cls := findClass_of_methodNamed Bd.named
  have hnm := (name_of_methodNamed Bd.named Bd.method).1
  have hret := Bd.returns
  have hlocks : meth.locks = false := Bd.notSynchronized
  have X0 : Stand p l e ({ frames := 5, cells := 2, slots := 5, locals := 80 } : Room) s m #[.ref b] below meth c s₁ [] 0 0 := Stand.of_body Bd
  have e0 : s₁.heap = h0 := by rw [← hh, Bd.state]; rfl
  have N0 := Fr.nil n0
  show Own.Go p e below (Own.End s (Q_lfa Z b kb y1 y2 y3 h0 n0) 2 5) (s₁.setTop (entryFrame m #[.ref b] 3))
  refine Own.Go.eq (ef_lfa m b) ?_
  have KP : Keep h0 h0 [] := Keep.refl _ _
  refine Own.g_aloadN X0 hx (hb hby d22_0) rfl rfl 1 rfl ?_
  refine Own.g_alen X0 hx hZ e0 V_b (hb hby d22_1) 2 rfl ?_
  refine Own.g_newRE X0 hx hZ hown (hw _ (List.mem_of_getElem? (i := 157) rfl)) (hw _ (List.mem_of_getElem? (i := 108) rfl)) e0 (hb hby d22_2) (by decide) 3 (by decide) (by decide) (by decide) (by decide) "[Ljava/lang/Object;" (by decide) 5 rfl [.null, .null, .null] (by intro i; rcases i with _ | _ | _ | i <;> rfl) ?_
  intro T1 h1 q k_q X1 e1 E1 g1 V_q E_q O_q
  have ne_b_q : b ≠ q := Nat.ne_of_lt (Nat.lt_of_lt_of_le (V_b.lt) (Nat.le_of_eq g1.symm))
  have n0_q : n0 ≤ q := Nat.le_trans (Nat.le_of_eq O.1.symm) (Nat.le_trans O.2.1 (Nat.le_of_eq g1.symm))
  have sz0_q : h0.size ≤ q := Nat.le_trans KP.1 (Nat.le_of_eq g1.symm)
  replace V_b := V_b.ext E1
  replace I_y1 := I_y1.ext E1
  replace I_y2 := I_y2.ext E1
  replace I_y3 := I_y3.ext E1
  replace O := O.ext E1
  replace KP := KP.ext E1
  refine Own.g_astoreN X1 hx #[.val (.ref b), .val (.ref q), .unset] (hb hby d22_5) rfl rfl 6 rfl ?_
  refine Own.g_iconst X1 hx (0 : Int32) (hb hby d22_6) rfl 7 rfl ?_
  refine Own.g_istoreN X1 hx #[.val (.ref b), .val (.ref q), .val (.int (0 : Int32))] (hb hby d22_7) rfl 8 rfl ?_
  refine Own.g_iloadN X1 hx (hb hby d22_8) rfl 9 rfl ?_
  refine Own.g_aloadN X1 hx (hb hby d22_9) rfl rfl 10 rfl ?_
  refine Own.g_alen X1 hx hZ e1 V_b (hb hby d22_10) 11 rfl ?_
  refine Own.g_icmp_ge_f X1 hx (hb hby d22_11) (by decide) 14 rfl ?_
  refine Own.g_aloadN X1 hx (hb hby d22_14) rfl rfl 15 rfl ?_
  refine Own.g_iloadN X1 hx (hb hby d22_15) rfl 16 rfl ?_
  refine Own.g_aloadN X1 hx (hb hby d22_16) rfl rfl 17 rfl ?_
  refine Own.g_iloadN X1 hx (hb hby d22_17) rfl 18 rfl ?_
  refine Own.g_ldR X1 hx hZ e1 V_b (by decide) (.ref y1) rfl (hb hby d22_18) 19 rfl ?_
  refine Own.g_callS X1 hx (y := (⟨"java/util/Objects", "requireNonNull", "(Ljava/lang/Object;)Ljava/lang/Object;"⟩ : MethodName)) hown (mvT hZ (hw _ (List.mem_of_getElem? (i := 158) rfl))) (mvT hZ (hw _ (List.mem_of_getElem? (i := 159) rfl))) (mvT hZ (hw _ (List.mem_of_getElem? (i := 160) rfl))) (mvT hZ (hw _ (List.mem_of_getElem? (i := 161) rfl))) (by decide) [.ref y1] (Own.back (W := 2) (rm_rnn l Z a0 hw [] y1 h1 n0 O ) hZ (hw _ (List.mem_of_getElem? (i := 161) rfl)) (hw _ (List.mem_of_getElem? (i := 160) rfl)) (by decide) (by decide)) e1 (by rw [hml]; rfl) [(.int (0 : Int32)), (.ref q)] (lenOf pd_5 rfl) rfl (Nat.le_of_ble_eq_true rfl) (hb hby d22_19) (by decide) (by decide) 22 rfl ?_
  rintro _ T2 L2 X2 ⟨rfl, N2q, eH2⟩
  have N2 := Fr.app N0 N2q
  show Own.Go p e below _ (T2.setTop (mkF m 22 #[.val (.ref b), .val (.ref q), .val (.int (0 : Int32))] [(.ref y1), (.int (0 : Int32)), (.ref q)]))
  refine Own.g_stR X2 hx hZ eH2 V_q rfl (Own.StoL.one V_q O_q I_y1) (by decide) 0 rfl (Nat.le_of_ble_eq_true rfl) [(.ref y1), .null, .null] rfl (hb hby d22_22) 23 rfl ?_
  clear V_q; intro T3 h3 X3 e3 W3 V_q
  replace V_b := V_b.other W3 ne_b_q
  replace I_y1 := I_y1.wr W3
  replace I_y2 := I_y2.wr W3
  replace I_y3 := I_y3.wr W3
  replace E_q := E_q.wr W3
  replace O := O.wr W3 n0_q
  replace KP := KP.wr W3 (Or.inr sz0_q)
  have N3 := Fr.snoc X3 N2 n0_q
  refine Own.g_iinc X3 hx #[.val (.ref b), .val (.ref q), .val (.int (1 : Int32))] (hb hby d22_23) rfl rfl 26 rfl ?_
  refine Own.g_goto X3 hx (hb hby d22_26) 8 (by decide) ?_
  refine Own.g_iloadN X3 hx (hb hby d22_8) rfl 9 rfl ?_
  refine Own.g_aloadN X3 hx (hb hby d22_9) rfl rfl 10 rfl ?_
  refine Own.g_alen X3 hx hZ e3 V_b (hb hby d22_10) 11 rfl ?_
  refine Own.g_icmp_ge_f X3 hx (hb hby d22_11) (by decide) 14 rfl ?_
  refine Own.g_aloadN X3 hx (hb hby d22_14) rfl rfl 15 rfl ?_
  refine Own.g_iloadN X3 hx (hb hby d22_15) rfl 16 rfl ?_
  refine Own.g_aloadN X3 hx (hb hby d22_16) rfl rfl 17 rfl ?_
  refine Own.g_iloadN X3 hx (hb hby d22_17) rfl 18 rfl ?_
  refine Own.g_ldR X3 hx hZ e3 V_b (by decide) (.ref y2) rfl (hb hby d22_18) 19 rfl ?_
  refine Own.g_callS X3 hx (y := (⟨"java/util/Objects", "requireNonNull", "(Ljava/lang/Object;)Ljava/lang/Object;"⟩ : MethodName)) hown (mvT hZ (hw _ (List.mem_of_getElem? (i := 158) rfl))) (mvT hZ (hw _ (List.mem_of_getElem? (i := 159) rfl))) (mvT hZ (hw _ (List.mem_of_getElem? (i := 160) rfl))) (mvT hZ (hw _ (List.mem_of_getElem? (i := 161) rfl))) (by decide) [.ref y2] (Own.back (W := 2) (rm_rnn l Z a0 hw [] y2 h3 n0 O ) hZ (hw _ (List.mem_of_getElem? (i := 161) rfl)) (hw _ (List.mem_of_getElem? (i := 160) rfl)) (by decide) (by decide)) e3 (by rw [hml]; rfl) [(.int (1 : Int32)), (.ref q)] (lenOf pd_5 rfl) rfl (Nat.le_of_ble_eq_true rfl) (hb hby d22_19) (by decide) (by decide) 22 rfl ?_
  rintro _ T4 L4 X4 ⟨rfl, N4q, eH4⟩
  have N4 := Fr.app N3 N4q
  show Own.Go p e below _ (T4.setTop (mkF m 22 #[.val (.ref b), .val (.ref q), .val (.int (1 : Int32))] [(.ref y2), (.int (1 : Int32)), (.ref q)]))
  refine Own.g_stR X4 hx hZ eH4 V_q rfl (Own.StoL.one V_q O_q I_y2) (by decide) 1 rfl (Nat.le_of_ble_eq_true rfl) [(.ref y1), (.ref y2), .null] rfl (hb hby d22_22) 23 rfl ?_
  clear V_q; intro T5 h5 X5 e5 W5 V_q
  replace V_b := V_b.other W5 ne_b_q
  replace I_y1 := I_y1.wr W5
  replace I_y2 := I_y2.wr W5
  replace I_y3 := I_y3.wr W5
  replace E_q := E_q.wr W5
  replace O := O.wr W5 n0_q
  replace KP := KP.wr W5 (Or.inr sz0_q)
  have N5 := Fr.snoc X5 N4 n0_q
  refine Own.g_iinc X5 hx #[.val (.ref b), .val (.ref q), .val (.int (2 : Int32))] (hb hby d22_23) rfl rfl 26 rfl ?_
  refine Own.g_goto X5 hx (hb hby d22_26) 8 (by decide) ?_
  refine Own.g_iloadN X5 hx (hb hby d22_8) rfl 9 rfl ?_
  refine Own.g_aloadN X5 hx (hb hby d22_9) rfl rfl 10 rfl ?_
  refine Own.g_alen X5 hx hZ e5 V_b (hb hby d22_10) 11 rfl ?_
  refine Own.g_icmp_ge_f X5 hx (hb hby d22_11) (by decide) 14 rfl ?_
  refine Own.g_aloadN X5 hx (hb hby d22_14) rfl rfl 15 rfl ?_
  refine Own.g_iloadN X5 hx (hb hby d22_15) rfl 16 rfl ?_
  refine Own.g_aloadN X5 hx (hb hby d22_16) rfl rfl 17 rfl ?_
  refine Own.g_iloadN X5 hx (hb hby d22_17) rfl 18 rfl ?_
  refine Own.g_ldR X5 hx hZ e5 V_b (by decide) (.ref y3) rfl (hb hby d22_18) 19 rfl ?_
  refine Own.g_callS X5 hx (y := (⟨"java/util/Objects", "requireNonNull", "(Ljava/lang/Object;)Ljava/lang/Object;"⟩ : MethodName)) hown (mvT hZ (hw _ (List.mem_of_getElem? (i := 158) rfl))) (mvT hZ (hw _ (List.mem_of_getElem? (i := 159) rfl))) (mvT hZ (hw _ (List.mem_of_getElem? (i := 160) rfl))) (mvT hZ (hw _ (List.mem_of_getElem? (i := 161) rfl))) (by decide) [.ref y3] (Own.back (W := 2) (rm_rnn l Z a0 hw [] y3 h5 n0 O ) hZ (hw _ (List.mem_of_getElem? (i := 161) rfl)) (hw _ (List.mem_of_getElem? (i := 160) rfl)) (by decide) (by decide)) e5 (by rw [hml]; rfl) [(.int (2 : Int32)), (.ref q)] (lenOf pd_5 rfl) rfl (Nat.le_of_ble_eq_true rfl) (hb hby d22_19) (by decide) (by decide) 22 rfl ?_
  rintro _ T6 L6 X6 ⟨rfl, N6q, eH6⟩
  have N6 := Fr.app N5 N6q
  show Own.Go p e below _ (T6.setTop (mkF m 22 #[.val (.ref b), .val (.ref q), .val (.int (2 : Int32))] [(.ref y3), (.int (2 : Int32)), (.ref q)]))
  refine Own.g_stR X6 hx hZ eH6 V_q rfl (Own.StoL.one V_q O_q I_y3) (by decide) 2 rfl (Nat.le_of_ble_eq_true rfl) [(.ref y1), (.ref y2), (.ref y3)] rfl (hb hby d22_22) 23 rfl ?_
  clear V_q; intro T7 h7 X7 e7 W7 V_q
  replace V_b := V_b.other W7 ne_b_q
  replace I_y1 := I_y1.wr W7
  replace I_y2 := I_y2.wr W7
  replace I_y3 := I_y3.wr W7
  replace E_q := E_q.wr W7
  replace O := O.wr W7 n0_q
  replace KP := KP.wr W7 (Or.inr sz0_q)
  have N7 := Fr.snoc X7 N6 n0_q
  refine Own.g_iinc X7 hx #[.val (.ref b), .val (.ref q), .val (.int (3 : Int32))] (hb hby d22_23) rfl rfl 26 rfl ?_
  refine Own.g_goto X7 hx (hb hby d22_26) 8 (by decide) ?_
  refine Own.g_iloadN X7 hx (hb hby d22_8) rfl 9 rfl ?_
  refine Own.g_aloadN X7 hx (hb hby d22_9) rfl rfl 10 rfl ?_
  refine Own.g_alen X7 hx hZ e7 V_b (hb hby d22_10) 11 rfl ?_
  refine Own.g_icmp_ge_t X7 hx (hb hby d22_11) (by decide) 29 (by decide) ?_
  refine Own.g_new X7 hx hZ hown (hw _ (List.mem_of_getElem? (i := 57) rfl)) (hw _ (List.mem_of_getElem? (i := 162) rfl)) (hw _ (List.mem_of_getElem? (i := 163) rfl)) e7 (hb hby d22_29) (by decide) (by decide) 32 rfl ?_
  intro T8 h8 g X8 e8 E8 g8 E_g D8
  have ne_b_g : b ≠ g := Nat.ne_of_lt (Nat.lt_of_lt_of_le (V_b.lt) (Nat.le_of_eq g8.symm))
  have ne_q_g : q ≠ g := Nat.ne_of_lt (Nat.lt_of_lt_of_le (V_q.lt) (Nat.le_of_eq g8.symm))
  have n0_g : n0 ≤ g := Nat.le_trans (Nat.le_of_eq O.1.symm) (Nat.le_trans O.2.1 (Nat.le_of_eq g8.symm))
  have sz0_g : h0.size ≤ g := Nat.le_trans KP.1 (Nat.le_of_eq g8.symm)
  replace V_b := V_b.ext E8
  replace I_y1 := I_y1.ext E8
  replace I_y2 := I_y2.ext E8
  replace I_y3 := I_y3.ext E8
  replace V_q := V_q.ext E8
  replace E_q := E_q.ext E8
  replace O := O.ext E8
  replace KP := KP.ext E8
  have F_g_elements : Fld Z h8 g "java/util/ImmutableCollections$ListN" "elements" "[Ljava/lang/Object;" .null := D8 (Or.inr (hw _ (List.mem_of_getElem? (i := 183) rfl))) (ty := (.array (.object "java/lang/Object"))) (by decide)
  have F_g_allowNulls : Fld Z h8 g "java/util/ImmutableCollections$ListN" "allowNulls" "Z" (.int (0 : Int32)) := D8 (Or.inr (hw _ (List.mem_of_getElem? (i := 185) rfl))) (ty := .boolean) (by decide)
  refine Own.g_dup X8 hx (hb hby d22_32) rfl 33 rfl ?_
  refine Own.g_aloadN X8 hx (hb hby d22_33) rfl rfl 34 rfl ?_
  refine Own.g_iconst X8 hx (0 : Int32) (hb hby d22_34) rfl 35 rfl ?_
  refine Own.g_specialN X8 hx (y := (⟨"java/util/ImmutableCollections$ListN", "<init>", "([Ljava/lang/Object;Z)V"⟩ : MethodName)) rfl hown (Cond.methodLinkNest_wide hZ (hw _ (List.mem_of_getElem? (i := 164) rfl)) :) (mvT hZ (hw _ (List.mem_of_getElem? (i := 165) rfl))) (mvT hZ (hw _ (List.mem_of_getElem? (i := 167) rfl))) (by decide) (a := g) [.ref q, .int (0 : Int32)] (Own.back (W := 1) (rm_lni l Z a0 hw [] g q h8 n0 O n0_g E_g F_g_elements F_g_allowNulls) hZ (hw _ (List.mem_of_getElem? (i := 167) rfl)) (hw _ (List.mem_of_getElem? (i := 163) rfl)) (by decide) (by decide)) e8 (by rw [hml]; rfl) [(.ref g)] (lenOf pd_6 rfl) rfl (Nat.le_of_ble_eq_true rfl) (hb hby d22_35) (by decide) (by decide) 38 rfl ?_
  rintro _ T9 L9 X9 ⟨rfl, N9q, K9, GE, GL, GA⟩
  have N9 := Fr.app N7 N9q
  replace V_q := V_q.keep K9 (ninS ne_q_g nin0)
  replace E_q := E_q.keep K9
  replace O := O.keep K9 (allS n0_g all0)
  replace KP := KP.trans K9 (allS (Or.inr sz0_g) all0)
  show Own.Go p e below _ (T9.setTop (mkF m 38 #[.val (.ref b), .val (.ref q), .val (.int (3 : Int32))] [(.ref g)]))
  refine Own.g_ret X9 hx hret hlocks rfl (Or.inr (Or.inr (Or.inr (Or.inr ⟨rfl, rfl, rfl⟩)))) (hb hby d22_38) (by decide) (by decide) (rfl : T9.heap = T9.heap) ?_
  exact ⟨g, q, rfl, N9, KP, Or.inr ⟨GE, GA, GL, k_q, _, _, V_q, by decide⟩⟩
theorem ef_of1 (m : MethodId) (x0 : Addr) : entryFrame m #[.ref x0] 2 = mkF m 0 #[.val (.ref x0), .unset] [] := by first | (simp [entryFrame, mkF, argsToLocals, Value.category]; done) | rfl
def Q_of1 (Z : State) (b : Addr) (kb : ClassId) (y1 : Addr) (em : Addr) (h0 : Heap) (n0 : Nat) (v : Option Value) (h : Heap) (L : List Loc) : Prop := ∃ (r : Addr) (e : Addr), v = some (.ref r) ∧ Fr n0 L ∧ Keep h0 h [] ∧ Own.Im Z h r e false
set_option maxRecDepth 65536 in
set_option maxHeartbeats 40000000 in
theorem rm_of1 (l : Launch) (Z : State) (a0 : Array Value) (hw : ∀ d ∈ tables_1, d.before a0 Z = true) (ws : List Jvm.Cond) (b : Addr) (kb : ClassId) (y1 : Addr) (em : Addr) (h0 : Heap) (n0 : Nat) (O : Old Z n0 h0) (V_b : Arv Z h0 b kb (.object "java/lang/Object") 1 [(.ref y1)] .null) (I_y1 : Ins Z h0 y1 "java/lang/Object" true) (SEM : Sta Z Z.heap "java/util/ImmutableCollections" "EMPTY" "Ljava/lang/Object;" (.ref em)) :
    MetFree l (⟨"java/util/List", "of", "([Ljava/lang/Object;)Ljava/util/List;"⟩ : MethodName) (head1 (Jvm.Cond.code (⟨"java/util/List", "of", "([Ljava/lang/Object;)Ljava/util/List;"⟩ : MethodName) jdk_40_method_47_code 2 (some (.object "java/util/List")) :: ws) ({ frames := 6, cells := 2, slots := 5, locals := 100 } : Room)) (fun aa U => aa = #[.ref b] ∧ Z.Warmed39 U.vm ∧ U.heap = h0) (fun _ _ _ _ _ => True) (fun _ U o U' => Own.End U (Q_of1 Z b kb y1 em h0 n0) 2 5 o U') := by
  refine MetFree.of_bodySF (plainFor_of_name pn_9) hisR ?_
  intro p e s m args below meth c s₁ Bd hml0 hP hK
  obtain ⟨rfl, hZ, hh⟩ := hP
  have hx := Bd.exec
  have hby := Bd.bytes
  have hml : c.maxLocals = 2 := hml0
  have hown : s.vm.findClass "java/util/List" = some m.cls := findClass_of_methodNamed Bd.named
  have hnm := (name_of_methodNamed Bd.named Bd.method).1
  have hret := Bd.returns
  have hlocks : meth.locks = false := Bd.notSynchronized
  have X0 : Stand p l e ({ frames := 6, cells := 2, slots := 5, locals := 100 } : Room) s m #[.ref b] below meth c s₁ [] 0 0 := Stand.of_body Bd
  have e0 : s₁.heap = h0 := by rw [← hh, Bd.state]; rfl
  have N0 := Fr.nil n0
  show Own.Go p e below (Own.End s (Q_of1 Z b kb y1 em h0 n0) 2 5) (s₁.setTop (entryFrame m #[.ref b] 2))
  refine Own.Go.eq (ef_of1 m b) ?_
  have KP : Keep h0 h0 [] := Keep.refl _ _
  refine Own.g_aloadN X0 hx (hb hby d21_0) rfl rfl 1 rfl ?_
  refine Own.g_alen X0 hx hZ e0 V_b (hb hby d21_1) 2 rfl ?_
  refine Own.g_tswIn X0 hx (hb hby d21_2) (by decide) (off := 32) rfl 34 (by decide) ?_
  refine Own.g_new X0 hx hZ hown (hw _ (List.mem_of_getElem? (i := 188) rfl)) (hw _ (List.mem_of_getElem? (i := 189) rfl)) (hw _ (List.mem_of_getElem? (i := 190) rfl)) e0 (hb hby d21_34) (by decide) (by decide) 37 rfl ?_
  intro T1 h1 g X1 e1 E1 g1 E_g D1
  have ne_b_g : b ≠ g := Nat.ne_of_lt (Nat.lt_of_lt_of_le (V_b.lt) (Nat.le_of_eq g1.symm))
  have n0_g : n0 ≤ g := Nat.le_trans (Nat.le_of_eq O.1.symm) (Nat.le_trans O.2.1 (Nat.le_of_eq g1.symm))
  have sz0_g : h0.size ≤ g := Nat.le_trans KP.1 (Nat.le_of_eq g1.symm)
  replace V_b := V_b.ext E1
  replace O := O.ext E1
  replace KP := KP.ext E1
  have F_g_e0 : Fld Z h1 g "java/util/ImmutableCollections$List12" "e0" "Ljava/lang/Object;" .null := D1 (Or.inr (hw _ (List.mem_of_getElem? (i := 201) rfl))) (ty := (.object "java/lang/Object")) (by decide)
  have F_g_e1 : Fld Z h1 g "java/util/ImmutableCollections$List12" "e1" "Ljava/lang/Object;" .null := D1 (Or.inr (hw _ (List.mem_of_getElem? (i := 203) rfl))) (ty := (.object "java/lang/Object")) (by decide)
  refine Own.g_dup X1 hx (hb hby d21_37) rfl 38 rfl ?_
  refine Own.g_aloadN X1 hx (hb hby d21_38) rfl rfl 39 rfl ?_
  refine Own.g_iconst X1 hx (0 : Int32) (hb hby d21_39) rfl 40 rfl ?_
  refine Own.g_ldR X1 hx hZ e1 V_b (by decide) (.ref y1) rfl (hb hby d21_40) 41 rfl ?_
  refine Own.g_special X1 hx (y := (⟨"java/util/ImmutableCollections$List12", "<init>", "(Ljava/lang/Object;)V"⟩ : MethodName)) rfl hown (mvT hZ (hw _ (List.mem_of_getElem? (i := 238) rfl))) (mvT hZ (hw _ (List.mem_of_getElem? (i := 239) rfl))) (mvT hZ (hw _ (List.mem_of_getElem? (i := 240) rfl))) (by decide) (a := g) [.ref y1] (Own.back (W := 1) (rm_l1i l Z a0 hw [] g y1 em h1 n0 O n0_g SEM E_g F_g_e0 F_g_e1) hZ (hw _ (List.mem_of_getElem? (i := 240) rfl)) (hw _ (List.mem_of_getElem? (i := 190) rfl)) (by decide) (by decide)) e1 (by rw [hml]; rfl) [(.ref g)] (lenOf pd_7 rfl) rfl (Nat.le_of_ble_eq_true rfl) (hb hby d21_41) (by decide) (by decide) 44 rfl ?_
  rintro _ T2 L2 X2 ⟨rfl, N2q, K2, GE⟩
  have N2 := Fr.app N0 N2q
  replace O := O.keep K2 (allS n0_g all0)
  replace KP := KP.trans K2 (allS (Or.inr sz0_g) all0)
  show Own.Go p e below _ (T2.setTop (mkF m 44 #[.val (.ref b), .unset] [(.ref g)]))
  refine Own.g_ret X2 hx hret hlocks rfl (Or.inr (Or.inr (Or.inr (Or.inr ⟨rfl, rfl, rfl⟩)))) (hb hby d21_44) (by decide) (by decide) (rfl : T2.heap = T2.heap) ?_
  exact ⟨g, g, rfl, N2, KP, Or.inl ⟨rfl, rfl, GE⟩⟩
theorem ef_cp3_1 (m : MethodId) (x0 : Addr) (x1 : Int32) (x2 : Addr) : entryFrame m #[.ref x0, .int x1, .ref x2] 4 = mkF m 0 #[.val (.ref x0), .val (.int x1), .val (.ref x2), .unset] [] := by first | (simp [entryFrame, mkF, argsToLocals, Value.category]; done) | rfl
def Q_cp3_1 (Z : State) (d : Addr) (kd : ClassId) (y1 : Addr) (mr : Addr) (h0 : Heap) (n0 : Nat) (v : Option Value) (h : Heap) (L : List Loc) : Prop := ∃ (b : Addr) (k : ClassId), v = some (.ref b) ∧ Fr n0 L ∧ Keep h0 h [] ∧ h0.size ≤ b ∧ Arv Z h b k (.object "java/lang/Object") 1 [(.ref y1)] .null
set_option maxRecDepth 65536 in
set_option maxHeartbeats 40000000 in
theorem rm_cp3_1 (l : Launch) (Z : State) (a0 : Array Value) (hw : ∀ d ∈ tables_1, d.before a0 Z = true) (ws : List Jvm.Cond) (d : Addr) (kd : ClassId) (y1 : Addr) (mr : Addr) (h0 : Heap) (n0 : Nat) (O : Old Z n0 h0) (V_d : Arv Z h0 d kd (.object "java/lang/Object") 10 [(.ref y1), .null, .null, .null, .null, .null, .null, .null, .null, .null] .null) (E_d : Exa Z h0 d "[Ljava/lang/Object;") (I_y1 : Ins Z h0 y1 "java/lang/Object" true) (M : Mir Z "[Ljava/lang/Object;" mr) :
    MetFree l (⟨"java/util/Arrays", "copyOf", "([Ljava/lang/Object;ILjava/lang/Class;)[Ljava/lang/Object;"⟩ : MethodName) (head1 (Jvm.Cond.code (⟨"java/util/Arrays", "copyOf", "([Ljava/lang/Object;ILjava/lang/Class;)[Ljava/lang/Object;"⟩ : MethodName) jdk_65_method_120_code 4 (some (.array (.object "java/lang/Object"))) :: ws) ({ frames := 1, cells := 1, slots := 1, locals := 60 } : Room)) (fun aa U => aa = #[.ref d, .int (1 : Int32), .ref mr] ∧ Z.Warmed39 U.vm ∧ U.heap = h0) (fun _ _ _ _ _ => True) (fun _ U o U' => Own.End U (Q_cp3_1 Z d kd y1 mr h0 n0) 1 1 o U') := by
  refine MetFree.of_bodySF (plainFor_of_name pn_10) hisR ?_
  intro p e s m args below meth c s₁ Bd hml0 hP hK
  obtain ⟨rfl, hZ, hh⟩ := hP
  have hx := Bd.exec
  have hby := Bd.bytes
  have hml : c.maxLocals = 4 := hml0
  have hown : s.vm.findClass "java/util/Arrays" = some m.cls := findClass_of_methodNamed Bd.named
  have hnm := (name_of_methodNamed Bd.named Bd.method).1
  have hret := Bd.returns
  have hlocks : meth.locks = false := Bd.notSynchronized
  have X0 : Stand p l e ({ frames := 1, cells := 1, slots := 1, locals := 60 } : Room) s m #[.ref d, .int (1 : Int32), .ref mr] below meth c s₁ [] 0 0 := Stand.of_body Bd
  have e0 : s₁.heap = h0 := by rw [← hh, Bd.state]; rfl
  have N0 := Fr.nil n0
  show Own.Go p e below (Own.End s (Q_cp3_1 Z d kd y1 mr h0 n0) 1 1) (s₁.setTop (entryFrame m #[.ref d, .int (1 : Int32), .ref mr] 4))
  refine Own.Go.eq (ef_cp3_1 m d (1 : Int32) mr) ?_
  have KP : Keep h0 h0 [] := Keep.refl _ _
  refine Own.g_aloadN X0 hx (hb hby d19_0) rfl rfl 1 rfl ?_
  refine Own.g_ldcK X0 hx hZ hown (hw _ (List.mem_of_getElem? (i := 142) rfl)) e0 M (hb hby d19_1) 3 rfl ?_
  intro T1 X1 e1
  refine Own.g_acmp X1 hx rfl rfl (hb hby d19_3) true (decide_eq_true rfl) 6 (by decide) ?_
  refine Own.g_iloadN X1 hx (hb hby d19_6) rfl 7 rfl ?_
  refine Own.g_newRE X1 hx hZ hown (hw _ (List.mem_of_getElem? (i := 143) rfl)) (hw _ (List.mem_of_getElem? (i := 108) rfl)) e1 (hb hby d19_7) (by decide) 1 (by decide) (by decide) (by decide) (by decide) "[Ljava/lang/Object;" (by decide) 10 rfl [.null] (by intro i; rcases i with _ | i <;> rfl) ?_
  intro T2 h2 b k_b X2 e2 E2 g2 V_b E_b O_b
  have ne_d_b : d ≠ b := Nat.ne_of_lt (Nat.lt_of_lt_of_le (V_d.lt) (Nat.le_of_eq g2.symm))
  have n0_b : n0 ≤ b := Nat.le_trans (Nat.le_of_eq O.1.symm) (Nat.le_trans O.2.1 (Nat.le_of_eq g2.symm))
  have sz0_b : h0.size ≤ b := Nat.le_trans KP.1 (Nat.le_of_eq g2.symm)
  replace V_d := V_d.ext E2
  replace I_y1 := I_y1.ext E2
  replace O := O.ext E2
  replace KP := KP.ext E2
  refine Own.g_goto X2 hx (hb hby d19_10) 24 (by decide) ?_
  refine Own.g_astoreN X2 hx #[.val (.ref d), .val (.int (1 : Int32)), .val (.ref mr), .val (.ref b)] (hb hby d19_24) rfl rfl 25 rfl ?_
  refine Own.g_aloadN X2 hx (hb hby d19_25) rfl rfl 26 rfl ?_
  refine Own.g_iconst X2 hx (0 : Int32) (hb hby d19_26) rfl 27 rfl ?_
  refine Own.g_aloadN X2 hx (hb hby d19_27) rfl rfl 28 rfl ?_
  refine Own.g_iconst X2 hx (0 : Int32) (hb hby d19_28) rfl 29 rfl ?_
  refine Own.g_aloadN X2 hx (hb hby d19_29) rfl rfl 30 rfl ?_
  refine Own.g_alen X2 hx hZ e2 V_d (hb hby d19_30) 31 rfl ?_
  refine Own.g_iloadN X2 hx (hb hby d19_31) rfl 32 rfl ?_
  refine Own.g_callS X2 hx (y := (⟨"java/lang/Math", "min", "(II)I"⟩ : MethodName)) hown (mvT hZ (hw _ (List.mem_of_getElem? (i := 144) rfl))) (mvT hZ (hw _ (List.mem_of_getElem? (i := 145) rfl))) (mvT hZ (hw _ (List.mem_of_getElem? (i := 105) rfl))) (mvT hZ (hw _ (List.mem_of_getElem? (i := 146) rfl))) (by decide) [.int (10 : Int32), .int (1 : Int32)] (Own.back (W := 4) (rm_min l Z a0 hw [] (10 : Int32) (1 : Int32) h2 n0 O (by decide)) hZ (hw _ (List.mem_of_getElem? (i := 146) rfl)) (hw _ (List.mem_of_getElem? (i := 105) rfl)) (by decide) (by decide)) e2 (by rw [hml]; rfl) [(.int (0 : Int32)), (.ref b), (.int (0 : Int32)), (.ref d)] (lenOf pd_1 rfl) rfl (Nat.le_of_ble_eq_true rfl) (hb hby d19_32) (by decide) (by decide) 35 rfl ?_
  rintro _ T3 L3 X3 ⟨rfl, N3q, eH3⟩
  have N3 := Fr.app N0 N3q
  show Own.Go p e below _ (T3.setTop (mkF m 35 #[.val (.ref d), .val (.int (1 : Int32)), .val (.ref mr), .val (.ref b)] [(.int (1 : Int32)), (.int (0 : Int32)), (.ref b), (.int (0 : Int32)), (.ref d)]))
  refine Own.g_cpA X3 hx hZ hown (hw _ (List.mem_of_getElem? (i := 147) rfl)) (hw _ (List.mem_of_getElem? (i := 150) rfl)) (hw _ (List.mem_of_getElem? (i := 148) rfl)) (hw _ (List.mem_of_getElem? (i := 149) rfl)) eH3 V_d V_b [(.ref y1)] (Or.inr ⟨rfl, rfl, ⟨Own.StoL.one V_b O_b I_y1, trivial⟩⟩) (by decide) (by decide) (by decide) (by decide) (by decide) rfl (Nat.le_of_ble_eq_true rfl) N3 n0_b [(.ref y1)] rfl (by rw [hml]; rfl) (hb hby d19_35) (by decide) (W := 0) (Nat.le_of_ble_eq_true rfl) (by decide) 38 rfl ?_
  clear V_b; intro T4 h4 L4 X4 e4 N4 K4 V_b
  replace V_d := V_d.keep K4 (ninS ne_d_b nin0)
  replace I_y1 := Own.Ins.kp I_y1 K4
  replace E_b := E_b.keep K4
  replace O := O.keep K4 (allS n0_b all0)
  replace KP := KP.trans K4 (allS (Or.inr sz0_b) all0)
  refine Own.g_aloadN X4 hx (hb hby d19_38) rfl rfl 39 rfl ?_
  refine Own.g_ret X4 hx hret hlocks rfl (Or.inr (Or.inr (Or.inr (Or.inr ⟨rfl, rfl, rfl⟩)))) (hb hby d19_39) (by decide) (by decide) e4 ?_
  exact ⟨b, k_b, rfl, N4, KP, sz0_b, V_b⟩
theorem ef_cp2_1 (m : MethodId) (x0 : Addr) (x1 : Int32) : entryFrame m #[.ref x0, .int x1] 2 = mkF m 0 #[.val (.ref x0), .val (.int x1)] [] := by first | (simp [entryFrame, mkF, argsToLocals, Value.category]; done) | rfl
def Q_cp2_1 (Z : State) (d : Addr) (kd : ClassId) (y1 : Addr) (mr : Addr) (h0 : Heap) (n0 : Nat) (v : Option Value) (h : Heap) (L : List Loc) : Prop := ∃ (b : Addr) (k : ClassId), v = some (.ref b) ∧ Fr n0 L ∧ Keep h0 h [] ∧ h0.size ≤ b ∧ Arv Z h b k (.object "java/lang/Object") 1 [(.ref y1)] .null
set_option maxRecDepth 65536 in
set_option maxHeartbeats 40000000 in
theorem rm_cp2_1 (l : Launch) (Z : State) (a0 : Array Value) (hw : ∀ d ∈ tables_1, d.before a0 Z = true) (ws : List Jvm.Cond) (d : Addr) (kd : ClassId) (y1 : Addr) (mr : Addr) (h0 : Heap) (n0 : Nat) (O : Old Z n0 h0) (V_d : Arv Z h0 d kd (.object "java/lang/Object") 10 [(.ref y1), .null, .null, .null, .null, .null, .null, .null, .null, .null] .null) (E_d : Exa Z h0 d "[Ljava/lang/Object;") (I_y1 : Ins Z h0 y1 "java/lang/Object" true) (M : Mir Z "[Ljava/lang/Object;" mr) :
    MetFree l (⟨"java/util/Arrays", "copyOf", "([Ljava/lang/Object;I)[Ljava/lang/Object;"⟩ : MethodName) (head1 (Jvm.Cond.code (⟨"java/util/Arrays", "copyOf", "([Ljava/lang/Object;I)[Ljava/lang/Object;"⟩ : MethodName) jdk_65_method_119_code 2 (some (.array (.object "java/lang/Object"))) :: ws) ({ frames := 2, cells := 1, slots := 1, locals := 90 } : Room)) (fun aa U => aa = #[.ref d, .int (1 : Int32)] ∧ Z.Warmed39 U.vm ∧ U.heap = h0) (fun _ _ _ _ _ => True) (fun _ U o U' => Own.End U (Q_cp2_1 Z d kd y1 mr h0 n0) 1 1 o U') := by
  refine MetFree.of_bodySF (plainFor_of_name pn_10) hisR ?_
  intro p e s m args below meth c s₁ Bd hml0 hP hK
  obtain ⟨rfl, hZ, hh⟩ := hP
  have hx := Bd.exec
  have hby := Bd.bytes
  have hml : c.maxLocals = 2 := hml0
  have hown : s.vm.findClass "java/util/Arrays" = some m.cls := findClass_of_methodNamed Bd.named
  have hnm := (name_of_methodNamed Bd.named Bd.method).1
  have hret := Bd.returns
  have hlocks : meth.locks = false := Bd.notSynchronized
  have X0 : Stand p l e ({ frames := 2, cells := 1, slots := 1, locals := 90 } : Room) s m #[.ref d, .int (1 : Int32)] below meth c s₁ [] 0 0 := Stand.of_body Bd
  have e0 : s₁.heap = h0 := by rw [← hh, Bd.state]; rfl
  have N0 := Fr.nil n0
  show Own.Go p e below (Own.End s (Q_cp2_1 Z d kd y1 mr h0 n0) 1 1) (s₁.setTop (entryFrame m #[.ref d, .int (1 : Int32)] 2))
  refine Own.Go.eq (ef_cp2_1 m d (1 : Int32)) ?_
  have KP : Keep h0 h0 [] := Keep.refl _ _
  refine Own.g_aloadN X0 hx (hb hby d18_0) rfl rfl 1 rfl ?_
  refine Own.g_iloadN X0 hx (hb hby d18_1) rfl 2 rfl ?_
  refine Own.g_aloadN X0 hx (hb hby d18_2) rfl rfl 3 rfl ?_
  refine Own.g_gcls X0 hx hZ hown (hw _ (List.mem_of_getElem? (i := 133) rfl)) (hw _ (List.mem_of_getElem? (i := 134) rfl)) (hw _ (List.mem_of_getElem? (i := 56) rfl)) (hw _ (List.mem_of_getElem? (i := 136) rfl)) (hw _ (List.mem_of_getElem? (i := 135) rfl)) (hw _ (List.mem_of_getElem? (i := 137) rfl)) e0 E_d M (by rw [hml]; rfl) (hb hby d18_3) (by decide) (W := 2) (Nat.le_of_ble_eq_true rfl) (by decide) 6 rfl ?_
  intro T1 X1 e1
  refine Own.g_callS X1 hx (y := (⟨"java/util/Arrays", "copyOf", "([Ljava/lang/Object;ILjava/lang/Class;)[Ljava/lang/Object;"⟩ : MethodName)) hown (mvT hZ (hw _ (List.mem_of_getElem? (i := 139) rfl))) (mvT hZ (hw _ (List.mem_of_getElem? (i := 140) rfl))) (mvT hZ (hw _ (List.mem_of_getElem? (i := 131) rfl))) (mvT hZ (hw _ (List.mem_of_getElem? (i := 141) rfl))) (by decide) [.ref d, .int (1 : Int32), .ref mr] (Own.back (W := 0) (rm_cp3_1 l Z a0 hw [] d kd y1 mr h0 n0 O V_d E_d I_y1 M) hZ (hw _ (List.mem_of_getElem? (i := 141) rfl)) (hw _ (List.mem_of_getElem? (i := 131) rfl)) (by decide) (by decide)) e1 (by rw [hml]; rfl) [] (lenOf pd_8 rfl) rfl (Nat.le_of_ble_eq_true rfl) (hb hby d18_6) (by decide) (by decide) 9 rfl ?_
  rintro _ T2 L2 X2 ⟨b, k_b, rfl, N2q, K2, sz2, V_b⟩
  have N2 := Fr.app N0 N2q
  replace O := O.keep K2 all0
  replace KP := KP.trans K2 all0
  show Own.Go p e below _ (T2.setTop (mkF m 9 #[.val (.ref d), .val (.int (1 : Int32))] [(.ref b)]))
  refine Own.g_ret X2 hx hret hlocks rfl (Or.inr (Or.inr (Or.inr (Or.inr ⟨rfl, rfl, rfl⟩)))) (hb hby d18_9) (by decide) (by decide) (rfl : T2.heap = T2.heap) ?_
  exact ⟨b, k_b, rfl, N2, KP, sz2, V_b⟩
theorem ef_toA1 (m : MethodId) (x0 : Addr) : entryFrame m #[.ref x0] 1 = mkF m 0 #[.val (.ref x0)] [] := by first | (simp [entryFrame, mkF, argsToLocals, Value.category]; done) | rfl
def Q_toA1 (Z : State) (x : Addr) (d : Addr) (kd : ClassId) (y1 : Addr) (mr : Addr) (h0 : Heap) (n0 : Nat) (v : Option Value) (h : Heap) (L : List Loc) : Prop := ∃ (b : Addr) (k : ClassId), v = some (.ref b) ∧ Fr n0 L ∧ Keep h0 h [] ∧ h0.size ≤ b ∧ Arv Z h b k (.object "java/lang/Object") 1 [(.ref y1)] .null
set_option maxRecDepth 65536 in
set_option maxHeartbeats 40000000 in
theorem rm_toA1 (l : Launch) (Z : State) (a0 : Array Value) (hw : ∀ d ∈ tables_1, d.before a0 Z = true) (ws : List Jvm.Cond) (x : Addr) (d : Addr) (kd : ClassId) (y1 : Addr) (mr : Addr) (h0 : Heap) (n0 : Nat) (O : Old Z n0 h0) (V_d : Arv Z h0 d kd (.object "java/lang/Object") 10 [(.ref y1), .null, .null, .null, .null, .null, .null, .null, .null, .null] .null) (E_d : Exa Z h0 d "[Ljava/lang/Object;") (I_y1 : Ins Z h0 y1 "java/lang/Object" true) (M : Mir Z "[Ljava/lang/Object;" mr) (F_x_elementData : Fld Z h0 x "java/util/ArrayList" "elementData" "[Ljava/lang/Object;" (.ref d)) (F_x_size : Fld Z h0 x "java/util/ArrayList" "size" "I" (.int 1)) :
    MetFree l (⟨"java/util/ArrayList", "toArray", "()[Ljava/lang/Object;"⟩ : MethodName) (head1 (Jvm.Cond.code (⟨"java/util/ArrayList", "toArray", "()[Ljava/lang/Object;"⟩ : MethodName) jdk_38_method_16_code 1 (some (.array (.object "java/lang/Object"))) :: ws) ({ frames := 3, cells := 1, slots := 1, locals := 110 } : Room)) (fun aa U => aa = #[.ref x] ∧ Z.Warmed39 U.vm ∧ U.heap = h0) (fun _ _ _ _ _ => True) (fun _ U o U' => Own.End U (Q_toA1 Z x d kd y1 mr h0 n0) 1 1 o U') := by
  refine MetFree.of_bodySF (plainFor_of_name pn_2) hisR ?_
  intro p e s m args below meth c s₁ Bd hml0 hP hK
  obtain ⟨rfl, hZ, hh⟩ := hP
  have hx := Bd.exec
  have hby := Bd.bytes
  have hml : c.maxLocals = 1 := hml0
  have hown : s.vm.findClass "java/util/ArrayList" = some m.cls := findClass_of_methodNamed Bd.named
  have hnm := (name_of_methodNamed Bd.named Bd.method).1
  have hret := Bd.returns
  have hlocks : meth.locks = false := Bd.notSynchronized
  have X0 : Stand p l e ({ frames := 3, cells := 1, slots := 1, locals := 110 } : Room) s m #[.ref x] below meth c s₁ [] 0 0 := Stand.of_body Bd
  have e0 : s₁.heap = h0 := by rw [← hh, Bd.state]; rfl
  have N0 := Fr.nil n0
  show Own.Go p e below (Own.End s (Q_toA1 Z x d kd y1 mr h0 n0) 1 1) (s₁.setTop (entryFrame m #[.ref x] 1))
  refine Own.Go.eq (ef_toA1 m x) ?_
  have KP : Keep h0 h0 [] := Keep.refl _ _
  refine Own.g_aloadN X0 hx (hb hby d17_0) rfl rfl 1 rfl ?_
  refine Own.g_getF X0 hx hZ hown (host := "") (Or.inl (hw _ (List.mem_of_getElem? (i := 38) rfl))) Via.refl e0 F_x_elementData (hb hby d17_1) 4 rfl ?_
  intro T1 X1 e1
  refine Own.g_aloadN X1 hx (hb hby d17_4) rfl rfl 5 rfl ?_
  refine Own.g_getF X1 hx hZ hown (host := "") (Or.inl (hw _ (List.mem_of_getElem? (i := 67) rfl))) Via.refl e1 F_x_size (hb hby d17_5) 8 rfl ?_
  intro T2 X2 e2
  refine Own.g_callS X2 hx (y := (⟨"java/util/Arrays", "copyOf", "([Ljava/lang/Object;I)[Ljava/lang/Object;"⟩ : MethodName)) hown (mvT hZ (hw _ (List.mem_of_getElem? (i := 129) rfl))) (mvT hZ (hw _ (List.mem_of_getElem? (i := 130) rfl))) (mvT hZ (hw _ (List.mem_of_getElem? (i := 131) rfl))) (mvT hZ (hw _ (List.mem_of_getElem? (i := 132) rfl))) (by decide) [.ref d, .int (1 : Int32)] (Own.back (W := 0) (rm_cp2_1 l Z a0 hw [] d kd y1 mr h0 n0 O V_d E_d I_y1 M) hZ (hw _ (List.mem_of_getElem? (i := 132) rfl)) (hw _ (List.mem_of_getElem? (i := 131) rfl)) (by decide) (by decide)) e2 (by rw [hml]; rfl) [] (lenOf pd_9 rfl) rfl (Nat.le_of_ble_eq_true rfl) (hb hby d17_8) (by decide) (by decide) 11 rfl ?_
  rintro _ T3 L3 X3 ⟨b, k_b, rfl, N3q, K3, sz3, V_b⟩
  have N3 := Fr.app N0 N3q
  replace O := O.keep K3 all0
  replace KP := KP.trans K3 all0
  show Own.Go p e below _ (T3.setTop (mkF m 11 #[.val (.ref x)] [(.ref b)]))
  refine Own.g_ret X3 hx hret hlocks rfl (Or.inr (Or.inr (Or.inr (Or.inr ⟨rfl, rfl, rfl⟩)))) (hb hby d17_11) (by decide) (by decide) (rfl : T3.heap = T3.heap) ?_
  exact ⟨b, k_b, rfl, N3, KP, sz3, V_b⟩
theorem ef_of2 (m : MethodId) (x0 : Addr) : entryFrame m #[.ref x0] 2 = mkF m 0 #[.val (.ref x0), .unset] [] := by first | (simp [entryFrame, mkF, argsToLocals, Value.category]; done) | rfl
def Q_of2 (Z : State) (b : Addr) (kb : ClassId) (y1 : Addr) (y2 : Addr) (em : Addr) (h0 : Heap) (n0 : Nat) (v : Option Value) (h : Heap) (L : List Loc) : Prop := ∃ (r : Addr) (e : Addr), v = some (.ref r) ∧ Fr n0 L ∧ Keep h0 h [] ∧ Own.Im Z h r e false
set_option maxRecDepth 65536 in
set_option maxHeartbeats 40000000 in
theorem rm_of2 (l : Launch) (Z : State) (a0 : Array Value) (hw : ∀ d ∈ tables_1, d.before a0 Z = true) (ws : List Jvm.Cond) (b : Addr) (kb : ClassId) (y1 : Addr) (y2 : Addr) (em : Addr) (h0 : Heap) (n0 : Nat) (O : Old Z n0 h0) (V_b : Arv Z h0 b kb (.object "java/lang/Object") 2 [(.ref y1), (.ref y2)] .null) (I_y1 : Ins Z h0 y1 "java/lang/Object" true) (I_y2 : Ins Z h0 y2 "java/lang/Object" true) (SEM : Sta Z Z.heap "java/util/ImmutableCollections" "EMPTY" "Ljava/lang/Object;" (.ref em)) :
    MetFree l (⟨"java/util/List", "of", "([Ljava/lang/Object;)Ljava/util/List;"⟩ : MethodName) (head1 (Jvm.Cond.code (⟨"java/util/List", "of", "([Ljava/lang/Object;)Ljava/util/List;"⟩ : MethodName) jdk_40_method_47_code 2 (some (.object "java/util/List")) :: ws) ({ frames := 6, cells := 2, slots := 5, locals := 100 } : Room)) (fun aa U => aa = #[.ref b] ∧ Z.Warmed39 U.vm ∧ U.heap = h0) (fun _ _ _ _ _ => True) (fun _ U o U' => Own.End U (Q_of2 Z b kb y1 y2 em h0 n0) 2 5 o U') := by
  refine MetFree.of_bodySF (plainFor_of_name pn_9) hisR ?_
  intro p e s m args below meth c s₁ Bd hml0 hP hK
  obtain ⟨rfl, hZ, hh⟩ := hP
  have hx := Bd.exec
  have hby := Bd.bytes
  have hml : c.maxLocals = 2 := hml0
  have hown : s.vm.findClass "java/util/List" = some m.cls := findClass_of_methodNamed Bd.named
  have hnm := (name_of_methodNamed Bd.named Bd.method).1
  have hret := Bd.returns
  have hlocks : meth.locks = false := Bd.notSynchronized
  have X0 : Stand p l e ({ frames := 6, cells := 2, slots := 5, locals := 100 } : Room) s m #[.ref b] below meth c s₁ [] 0 0 := Stand.of_body Bd
  have e0 : s₁.heap = h0 := by rw [← hh, Bd.state]; rfl
  have N0 := Fr.nil n0
  show Own.Go p e below (Own.End s (Q_of2 Z b kb y1 y2 em h0 n0) 2 5) (s₁.setTop (entryFrame m #[.ref b] 2))
  refine Own.Go.eq (ef_of2 m b) ?_
  have KP : Keep h0 h0 [] := Keep.refl _ _
  refine Own.g_aloadN X0 hx (hb hby d21_0) rfl rfl 1 rfl ?_
  refine Own.g_alen X0 hx hZ e0 V_b (hb hby d21_1) 2 rfl ?_
  refine Own.g_tswIn X0 hx (hb hby d21_2) (by decide) (off := 43) rfl 45 (by decide) ?_
  refine Own.g_new X0 hx hZ hown (hw _ (List.mem_of_getElem? (i := 188) rfl)) (hw _ (List.mem_of_getElem? (i := 189) rfl)) (hw _ (List.mem_of_getElem? (i := 190) rfl)) e0 (hb hby d21_45) (by decide) (by decide) 48 rfl ?_
  intro T1 h1 g X1 e1 E1 g1 E_g D1
  have ne_b_g : b ≠ g := Nat.ne_of_lt (Nat.lt_of_lt_of_le (V_b.lt) (Nat.le_of_eq g1.symm))
  have n0_g : n0 ≤ g := Nat.le_trans (Nat.le_of_eq O.1.symm) (Nat.le_trans O.2.1 (Nat.le_of_eq g1.symm))
  have sz0_g : h0.size ≤ g := Nat.le_trans KP.1 (Nat.le_of_eq g1.symm)
  replace V_b := V_b.ext E1
  replace O := O.ext E1
  replace KP := KP.ext E1
  have F_g_e0 : Fld Z h1 g "java/util/ImmutableCollections$List12" "e0" "Ljava/lang/Object;" .null := D1 (Or.inr (hw _ (List.mem_of_getElem? (i := 201) rfl))) (ty := (.object "java/lang/Object")) (by decide)
  have F_g_e1 : Fld Z h1 g "java/util/ImmutableCollections$List12" "e1" "Ljava/lang/Object;" .null := D1 (Or.inr (hw _ (List.mem_of_getElem? (i := 203) rfl))) (ty := (.object "java/lang/Object")) (by decide)
  refine Own.g_dup X1 hx (hb hby d21_48) rfl 49 rfl ?_
  refine Own.g_aloadN X1 hx (hb hby d21_49) rfl rfl 50 rfl ?_
  refine Own.g_iconst X1 hx (0 : Int32) (hb hby d21_50) rfl 51 rfl ?_
  refine Own.g_ldR X1 hx hZ e1 V_b (by decide) (.ref y1) rfl (hb hby d21_51) 52 rfl ?_
  refine Own.g_aloadN X1 hx (hb hby d21_52) rfl rfl 53 rfl ?_
  refine Own.g_iconst X1 hx (1 : Int32) (hb hby d21_53) rfl 54 rfl ?_
  refine Own.g_ldR X1 hx hZ e1 V_b (by decide) (.ref y2) rfl (hb hby d21_54) 55 rfl ?_
  refine Own.g_special X1 hx (y := (⟨"java/util/ImmutableCollections$List12", "<init>", "(Ljava/lang/Object;Ljava/lang/Object;)V"⟩ : MethodName)) rfl hown (mvT hZ (hw _ (List.mem_of_getElem? (i := 191) rfl))) (mvT hZ (hw _ (List.mem_of_getElem? (i := 192) rfl))) (mvT hZ (hw _ (List.mem_of_getElem? (i := 194) rfl))) (by decide) (a := g) [.ref y1, .ref y2] (Own.back (W := 1) (rm_l2i l Z a0 hw [] g y1 y2 h1 n0 O n0_g E_g F_g_e0 F_g_e1) hZ (hw _ (List.mem_of_getElem? (i := 194) rfl)) (hw _ (List.mem_of_getElem? (i := 190) rfl)) (by decide) (by decide)) e1 (by rw [hml]; rfl) [(.ref g)] (lenOf pd_10 rfl) rfl (Nat.le_of_ble_eq_true rfl) (hb hby d21_55) (by decide) (by decide) 58 rfl ?_
  rintro _ T2 L2 X2 ⟨rfl, N2q, K2, GE⟩
  have N2 := Fr.app N0 N2q
  replace O := O.keep K2 (allS n0_g all0)
  replace KP := KP.trans K2 (allS (Or.inr sz0_g) all0)
  show Own.Go p e below _ (T2.setTop (mkF m 58 #[.val (.ref b), .unset] [(.ref g)]))
  refine Own.g_ret X2 hx hret hlocks rfl (Or.inr (Or.inr (Or.inr (Or.inr ⟨rfl, rfl, rfl⟩)))) (hb hby d21_58) (by decide) (by decide) (rfl : T2.heap = T2.heap) ?_
  exact ⟨g, g, rfl, N2, KP, Or.inl ⟨rfl, rfl, GE⟩⟩
theorem ef_cp3_2 (m : MethodId) (x0 : Addr) (x1 : Int32) (x2 : Addr) : entryFrame m #[.ref x0, .int x1, .ref x2] 4 = mkF m 0 #[.val (.ref x0), .val (.int x1), .val (.ref x2), .unset] [] := by first | (simp [entryFrame, mkF, argsToLocals, Value.category]; done) | rfl
def Q_cp3_2 (Z : State) (d : Addr) (kd : ClassId) (y1 : Addr) (y2 : Addr) (mr : Addr) (h0 : Heap) (n0 : Nat) (v : Option Value) (h : Heap) (L : List Loc) : Prop := ∃ (b : Addr) (k : ClassId), v = some (.ref b) ∧ Fr n0 L ∧ Keep h0 h [] ∧ h0.size ≤ b ∧ Arv Z h b k (.object "java/lang/Object") 2 [(.ref y1), (.ref y2)] .null
set_option maxRecDepth 65536 in
set_option maxHeartbeats 40000000 in
theorem rm_cp3_2 (l : Launch) (Z : State) (a0 : Array Value) (hw : ∀ d ∈ tables_1, d.before a0 Z = true) (ws : List Jvm.Cond) (d : Addr) (kd : ClassId) (y1 : Addr) (y2 : Addr) (mr : Addr) (h0 : Heap) (n0 : Nat) (O : Old Z n0 h0) (V_d : Arv Z h0 d kd (.object "java/lang/Object") 10 [(.ref y1), (.ref y2), .null, .null, .null, .null, .null, .null, .null, .null] .null) (E_d : Exa Z h0 d "[Ljava/lang/Object;") (I_y1 : Ins Z h0 y1 "java/lang/Object" true) (I_y2 : Ins Z h0 y2 "java/lang/Object" true) (M : Mir Z "[Ljava/lang/Object;" mr) :
    MetFree l (⟨"java/util/Arrays", "copyOf", "([Ljava/lang/Object;ILjava/lang/Class;)[Ljava/lang/Object;"⟩ : MethodName) (head1 (Jvm.Cond.code (⟨"java/util/Arrays", "copyOf", "([Ljava/lang/Object;ILjava/lang/Class;)[Ljava/lang/Object;"⟩ : MethodName) jdk_65_method_120_code 4 (some (.array (.object "java/lang/Object"))) :: ws) ({ frames := 1, cells := 1, slots := 2, locals := 60 } : Room)) (fun aa U => aa = #[.ref d, .int (2 : Int32), .ref mr] ∧ Z.Warmed39 U.vm ∧ U.heap = h0) (fun _ _ _ _ _ => True) (fun _ U o U' => Own.End U (Q_cp3_2 Z d kd y1 y2 mr h0 n0) 1 2 o U') := by
  refine MetFree.of_bodySF (plainFor_of_name pn_10) hisR ?_
  intro p e s m args below meth c s₁ Bd hml0 hP hK
  obtain ⟨rfl, hZ, hh⟩ := hP
  have hx := Bd.exec
  have hby := Bd.bytes
  have hml : c.maxLocals = 4 := hml0
  have hown : s.vm.findClass "java/util/Arrays" = some m.cls := findClass_of_methodNamed Bd.named
  have hnm := (name_of_methodNamed Bd.named Bd.method).1
  have hret := Bd.returns
  have hlocks : meth.locks = false := Bd.notSynchronized
  have X0 : Stand p l e ({ frames := 1, cells := 1, slots := 2, locals := 60 } : Room) s m #[.ref d, .int (2 : Int32), .ref mr] below meth c s₁ [] 0 0 := Stand.of_body Bd
  have e0 : s₁.heap = h0 := by rw [← hh, Bd.state]; rfl
  have N0 := Fr.nil n0
  show Own.Go p e below (Own.End s (Q_cp3_2 Z d kd y1 y2 mr h0 n0) 1 2) (s₁.setTop (entryFrame m #[.ref d, .int (2 : Int32), .ref mr] 4))
  refine Own.Go.eq (ef_cp3_2 m d (2 : Int32) mr) ?_
  have KP : Keep h0 h0 [] := Keep.refl _ _
  refine Own.g_aloadN X0 hx (hb hby d19_0) rfl rfl 1 rfl ?_
  refine Own.g_ldcK X0 hx hZ hown (hw _ (List.mem_of_getElem? (i := 142) rfl)) e0 M (hb hby d19_1) 3 rfl ?_
  intro T1 X1 e1
  refine Own.g_acmp X1 hx rfl rfl (hb hby d19_3) true (decide_eq_true rfl) 6 (by decide) ?_
  refine Own.g_iloadN X1 hx (hb hby d19_6) rfl 7 rfl ?_
  refine Own.g_newRE X1 hx hZ hown (hw _ (List.mem_of_getElem? (i := 143) rfl)) (hw _ (List.mem_of_getElem? (i := 108) rfl)) e1 (hb hby d19_7) (by decide) 2 (by decide) (by decide) (by decide) (by decide) "[Ljava/lang/Object;" (by decide) 10 rfl [.null, .null] (by intro i; rcases i with _ | _ | i <;> rfl) ?_
  intro T2 h2 b k_b X2 e2 E2 g2 V_b E_b O_b
  have ne_d_b : d ≠ b := Nat.ne_of_lt (Nat.lt_of_lt_of_le (V_d.lt) (Nat.le_of_eq g2.symm))
  have n0_b : n0 ≤ b := Nat.le_trans (Nat.le_of_eq O.1.symm) (Nat.le_trans O.2.1 (Nat.le_of_eq g2.symm))
  have sz0_b : h0.size ≤ b := Nat.le_trans KP.1 (Nat.le_of_eq g2.symm)
  replace V_d := V_d.ext E2
  replace I_y1 := I_y1.ext E2
  replace I_y2 := I_y2.ext E2
  replace O := O.ext E2
  replace KP := KP.ext E2
  refine Own.g_goto X2 hx (hb hby d19_10) 24 (by decide) ?_
  refine Own.g_astoreN X2 hx #[.val (.ref d), .val (.int (2 : Int32)), .val (.ref mr), .val (.ref b)] (hb hby d19_24) rfl rfl 25 rfl ?_
  refine Own.g_aloadN X2 hx (hb hby d19_25) rfl rfl 26 rfl ?_
  refine Own.g_iconst X2 hx (0 : Int32) (hb hby d19_26) rfl 27 rfl ?_
  refine Own.g_aloadN X2 hx (hb hby d19_27) rfl rfl 28 rfl ?_
  refine Own.g_iconst X2 hx (0 : Int32) (hb hby d19_28) rfl 29 rfl ?_
  refine Own.g_aloadN X2 hx (hb hby d19_29) rfl rfl 30 rfl ?_
  refine Own.g_alen X2 hx hZ e2 V_d (hb hby d19_30) 31 rfl ?_
  refine Own.g_iloadN X2 hx (hb hby d19_31) rfl 32 rfl ?_
  refine Own.g_callS X2 hx (y := (⟨"java/lang/Math", "min", "(II)I"⟩ : MethodName)) hown (mvT hZ (hw _ (List.mem_of_getElem? (i := 144) rfl))) (mvT hZ (hw _ (List.mem_of_getElem? (i := 145) rfl))) (mvT hZ (hw _ (List.mem_of_getElem? (i := 105) rfl))) (mvT hZ (hw _ (List.mem_of_getElem? (i := 146) rfl))) (by decide) [.int (10 : Int32), .int (2 : Int32)] (Own.back (W := 4) (rm_min l Z a0 hw [] (10 : Int32) (2 : Int32) h2 n0 O (by decide)) hZ (hw _ (List.mem_of_getElem? (i := 146) rfl)) (hw _ (List.mem_of_getElem? (i := 105) rfl)) (by decide) (by decide)) e2 (by rw [hml]; rfl) [(.int (0 : Int32)), (.ref b), (.int (0 : Int32)), (.ref d)] (lenOf pd_1 rfl) rfl (Nat.le_of_ble_eq_true rfl) (hb hby d19_32) (by decide) (by decide) 35 rfl ?_
  rintro _ T3 L3 X3 ⟨rfl, N3q, eH3⟩
  have N3 := Fr.app N0 N3q
  show Own.Go p e below _ (T3.setTop (mkF m 35 #[.val (.ref d), .val (.int (2 : Int32)), .val (.ref mr), .val (.ref b)] [(.int (2 : Int32)), (.int (0 : Int32)), (.ref b), (.int (0 : Int32)), (.ref d)]))
  refine Own.g_cpA X3 hx hZ hown (hw _ (List.mem_of_getElem? (i := 147) rfl)) (hw _ (List.mem_of_getElem? (i := 150) rfl)) (hw _ (List.mem_of_getElem? (i := 148) rfl)) (hw _ (List.mem_of_getElem? (i := 149) rfl)) eH3 V_d V_b [(.ref y1), (.ref y2)] (Or.inr ⟨rfl, rfl, ⟨Own.StoL.one V_b O_b I_y1, ⟨Own.StoL.one V_b O_b I_y2, trivial⟩⟩⟩) (by decide) (by decide) (by decide) (by decide) (by decide) rfl (Nat.le_of_ble_eq_true rfl) N3 n0_b [(.ref y1), (.ref y2)] rfl (by rw [hml]; rfl) (hb hby d19_35) (by decide) (W := 0) (Nat.le_of_ble_eq_true rfl) (by decide) 38 rfl ?_
  clear V_b; intro T4 h4 L4 X4 e4 N4 K4 V_b
  replace V_d := V_d.keep K4 (ninS ne_d_b nin0)
  replace I_y1 := Own.Ins.kp I_y1 K4
  replace I_y2 := Own.Ins.kp I_y2 K4
  replace E_b := E_b.keep K4
  replace O := O.keep K4 (allS n0_b all0)
  replace KP := KP.trans K4 (allS (Or.inr sz0_b) all0)
  refine Own.g_aloadN X4 hx (hb hby d19_38) rfl rfl 39 rfl ?_
  refine Own.g_ret X4 hx hret hlocks rfl (Or.inr (Or.inr (Or.inr (Or.inr ⟨rfl, rfl, rfl⟩)))) (hb hby d19_39) (by decide) (by decide) e4 ?_
  exact ⟨b, k_b, rfl, N4, KP, sz0_b, V_b⟩
theorem ef_cp2_2 (m : MethodId) (x0 : Addr) (x1 : Int32) : entryFrame m #[.ref x0, .int x1] 2 = mkF m 0 #[.val (.ref x0), .val (.int x1)] [] := by first | (simp [entryFrame, mkF, argsToLocals, Value.category]; done) | rfl
def Q_cp2_2 (Z : State) (d : Addr) (kd : ClassId) (y1 : Addr) (y2 : Addr) (mr : Addr) (h0 : Heap) (n0 : Nat) (v : Option Value) (h : Heap) (L : List Loc) : Prop := ∃ (b : Addr) (k : ClassId), v = some (.ref b) ∧ Fr n0 L ∧ Keep h0 h [] ∧ h0.size ≤ b ∧ Arv Z h b k (.object "java/lang/Object") 2 [(.ref y1), (.ref y2)] .null
set_option maxRecDepth 65536 in
set_option maxHeartbeats 40000000 in
theorem rm_cp2_2 (l : Launch) (Z : State) (a0 : Array Value) (hw : ∀ d ∈ tables_1, d.before a0 Z = true) (ws : List Jvm.Cond) (d : Addr) (kd : ClassId) (y1 : Addr) (y2 : Addr) (mr : Addr) (h0 : Heap) (n0 : Nat) (O : Old Z n0 h0) (V_d : Arv Z h0 d kd (.object "java/lang/Object") 10 [(.ref y1), (.ref y2), .null, .null, .null, .null, .null, .null, .null, .null] .null) (E_d : Exa Z h0 d "[Ljava/lang/Object;") (I_y1 : Ins Z h0 y1 "java/lang/Object" true) (I_y2 : Ins Z h0 y2 "java/lang/Object" true) (M : Mir Z "[Ljava/lang/Object;" mr) :
    MetFree l (⟨"java/util/Arrays", "copyOf", "([Ljava/lang/Object;I)[Ljava/lang/Object;"⟩ : MethodName) (head1 (Jvm.Cond.code (⟨"java/util/Arrays", "copyOf", "([Ljava/lang/Object;I)[Ljava/lang/Object;"⟩ : MethodName) jdk_65_method_119_code 2 (some (.array (.object "java/lang/Object"))) :: ws) ({ frames := 2, cells := 1, slots := 2, locals := 90 } : Room)) (fun aa U => aa = #[.ref d, .int (2 : Int32)] ∧ Z.Warmed39 U.vm ∧ U.heap = h0) (fun _ _ _ _ _ => True) (fun _ U o U' => Own.End U (Q_cp2_2 Z d kd y1 y2 mr h0 n0) 1 2 o U') := by
  refine MetFree.of_bodySF (plainFor_of_name pn_10) hisR ?_
  intro p e s m args below meth c s₁ Bd hml0 hP hK
  obtain ⟨rfl, hZ, hh⟩ := hP
  have hx := Bd.exec
  have hby := Bd.bytes
  have hml : c.maxLocals = 2 := hml0
  have hown : s.vm.findClass "java/util/Arrays" = some m.cls := findClass_of_methodNamed Bd.named
  have hnm := (name_of_methodNamed Bd.named Bd.method).1
  have hret := Bd.returns
  have hlocks : meth.locks = false := Bd.notSynchronized
  have X0 : Stand p l e ({ frames := 2, cells := 1, slots := 2, locals := 90 } : Room) s m #[.ref d, .int (2 : Int32)] below meth c s₁ [] 0 0 := Stand.of_body Bd
  have e0 : s₁.heap = h0 := by rw [← hh, Bd.state]; rfl
  have N0 := Fr.nil n0
  show Own.Go p e below (Own.End s (Q_cp2_2 Z d kd y1 y2 mr h0 n0) 1 2) (s₁.setTop (entryFrame m #[.ref d, .int (2 : Int32)] 2))
  refine Own.Go.eq (ef_cp2_2 m d (2 : Int32)) ?_
  have KP : Keep h0 h0 [] := Keep.refl _ _
  refine Own.g_aloadN X0 hx (hb hby d18_0) rfl rfl 1 rfl ?_
  refine Own.g_iloadN X0 hx (hb hby d18_1) rfl 2 rfl ?_
  refine Own.g_aloadN X0 hx (hb hby d18_2) rfl rfl 3 rfl ?_
  refine Own.g_gcls X0 hx hZ hown (hw _ (List.mem_of_getElem? (i := 133) rfl)) (hw _ (List.mem_of_getElem? (i := 134) rfl)) (hw _ (List.mem_of_getElem? (i := 56) rfl)) (hw _ (List.mem_of_getElem? (i := 136) rfl)) (hw _ (List.mem_of_getElem? (i := 135) rfl)) (hw _ (List.mem_of_getElem? (i := 137) rfl)) e0 E_d M (by rw [hml]; rfl) (hb hby d18_3) (by decide) (W := 2) (Nat.le_of_ble_eq_true rfl) (by decide) 6 rfl ?_
  intro T1 X1 e1
  refine Own.g_callS X1 hx (y := (⟨"java/util/Arrays", "copyOf", "([Ljava/lang/Object;ILjava/lang/Class;)[Ljava/lang/Object;"⟩ : MethodName)) hown (mvT hZ (hw _ (List.mem_of_getElem? (i := 139) rfl))) (mvT hZ (hw _ (List.mem_of_getElem? (i := 140) rfl))) (mvT hZ (hw _ (List.mem_of_getElem? (i := 131) rfl))) (mvT hZ (hw _ (List.mem_of_getElem? (i := 141) rfl))) (by decide) [.ref d, .int (2 : Int32), .ref mr] (Own.back (W := 0) (rm_cp3_2 l Z a0 hw [] d kd y1 y2 mr h0 n0 O V_d E_d I_y1 I_y2 M) hZ (hw _ (List.mem_of_getElem? (i := 141) rfl)) (hw _ (List.mem_of_getElem? (i := 131) rfl)) (by decide) (by decide)) e1 (by rw [hml]; rfl) [] (lenOf pd_8 rfl) rfl (Nat.le_of_ble_eq_true rfl) (hb hby d18_6) (by decide) (by decide) 9 rfl ?_
  rintro _ T2 L2 X2 ⟨b, k_b, rfl, N2q, K2, sz2, V_b⟩
  have N2 := Fr.app N0 N2q
  replace O := O.keep K2 all0
  replace KP := KP.trans K2 all0
  show Own.Go p e below _ (T2.setTop (mkF m 9 #[.val (.ref d), .val (.int (2 : Int32))] [(.ref b)]))
  refine Own.g_ret X2 hx hret hlocks rfl (Or.inr (Or.inr (Or.inr (Or.inr ⟨rfl, rfl, rfl⟩)))) (hb hby d18_9) (by decide) (by decide) (rfl : T2.heap = T2.heap) ?_
  exact ⟨b, k_b, rfl, N2, KP, sz2, V_b⟩
theorem ef_toA2 (m : MethodId) (x0 : Addr) : entryFrame m #[.ref x0] 1 = mkF m 0 #[.val (.ref x0)] [] := by first | (simp [entryFrame, mkF, argsToLocals, Value.category]; done) | rfl
def Q_toA2 (Z : State) (x : Addr) (d : Addr) (kd : ClassId) (y1 : Addr) (y2 : Addr) (mr : Addr) (h0 : Heap) (n0 : Nat) (v : Option Value) (h : Heap) (L : List Loc) : Prop := ∃ (b : Addr) (k : ClassId), v = some (.ref b) ∧ Fr n0 L ∧ Keep h0 h [] ∧ h0.size ≤ b ∧ Arv Z h b k (.object "java/lang/Object") 2 [(.ref y1), (.ref y2)] .null
set_option maxRecDepth 65536 in
set_option maxHeartbeats 40000000 in
theorem rm_toA2 (l : Launch) (Z : State) (a0 : Array Value) (hw : ∀ d ∈ tables_1, d.before a0 Z = true) (ws : List Jvm.Cond) (x : Addr) (d : Addr) (kd : ClassId) (y1 : Addr) (y2 : Addr) (mr : Addr) (h0 : Heap) (n0 : Nat) (O : Old Z n0 h0) (V_d : Arv Z h0 d kd (.object "java/lang/Object") 10 [(.ref y1), (.ref y2), .null, .null, .null, .null, .null, .null, .null, .null] .null) (E_d : Exa Z h0 d "[Ljava/lang/Object;") (I_y1 : Ins Z h0 y1 "java/lang/Object" true) (I_y2 : Ins Z h0 y2 "java/lang/Object" true) (M : Mir Z "[Ljava/lang/Object;" mr) (F_x_elementData : Fld Z h0 x "java/util/ArrayList" "elementData" "[Ljava/lang/Object;" (.ref d)) (F_x_size : Fld Z h0 x "java/util/ArrayList" "size" "I" (.int 2)) :
    MetFree l (⟨"java/util/ArrayList", "toArray", "()[Ljava/lang/Object;"⟩ : MethodName) (head1 (Jvm.Cond.code (⟨"java/util/ArrayList", "toArray", "()[Ljava/lang/Object;"⟩ : MethodName) jdk_38_method_16_code 1 (some (.array (.object "java/lang/Object"))) :: ws) ({ frames := 3, cells := 1, slots := 2, locals := 110 } : Room)) (fun aa U => aa = #[.ref x] ∧ Z.Warmed39 U.vm ∧ U.heap = h0) (fun _ _ _ _ _ => True) (fun _ U o U' => Own.End U (Q_toA2 Z x d kd y1 y2 mr h0 n0) 1 2 o U') := by
  refine MetFree.of_bodySF (plainFor_of_name pn_2) hisR ?_
  intro p e s m args below meth c s₁ Bd hml0 hP hK
  obtain ⟨rfl, hZ, hh⟩ := hP
  have hx := Bd.exec
  have hby := Bd.bytes
  have hml : c.maxLocals = 1 := hml0
  have hown : s.vm.findClass "java/util/ArrayList" = some m.cls := findClass_of_methodNamed Bd.named
  have hnm := (name_of_methodNamed Bd.named Bd.method).1
  have hret := Bd.returns
  have hlocks : meth.locks = false := Bd.notSynchronized
  have X0 : Stand p l e ({ frames := 3, cells := 1, slots := 2, locals := 110 } : Room) s m #[.ref x] below meth c s₁ [] 0 0 := Stand.of_body Bd
  have e0 : s₁.heap = h0 := by rw [← hh, Bd.state]; rfl
  have N0 := Fr.nil n0
  show Own.Go p e below (Own.End s (Q_toA2 Z x d kd y1 y2 mr h0 n0) 1 2) (s₁.setTop (entryFrame m #[.ref x] 1))
  refine Own.Go.eq (ef_toA2 m x) ?_
  have KP : Keep h0 h0 [] := Keep.refl _ _
  refine Own.g_aloadN X0 hx (hb hby d17_0) rfl rfl 1 rfl ?_
  refine Own.g_getF X0 hx hZ hown (host := "") (Or.inl (hw _ (List.mem_of_getElem? (i := 38) rfl))) Via.refl e0 F_x_elementData (hb hby d17_1) 4 rfl ?_
  intro T1 X1 e1
  refine Own.g_aloadN X1 hx (hb hby d17_4) rfl rfl 5 rfl ?_
  refine Own.g_getF X1 hx hZ hown (host := "") (Or.inl (hw _ (List.mem_of_getElem? (i := 67) rfl))) Via.refl e1 F_x_size (hb hby d17_5) 8 rfl ?_
  intro T2 X2 e2
  refine Own.g_callS X2 hx (y := (⟨"java/util/Arrays", "copyOf", "([Ljava/lang/Object;I)[Ljava/lang/Object;"⟩ : MethodName)) hown (mvT hZ (hw _ (List.mem_of_getElem? (i := 129) rfl))) (mvT hZ (hw _ (List.mem_of_getElem? (i := 130) rfl))) (mvT hZ (hw _ (List.mem_of_getElem? (i := 131) rfl))) (mvT hZ (hw _ (List.mem_of_getElem? (i := 132) rfl))) (by decide) [.ref d, .int (2 : Int32)] (Own.back (W := 0) (rm_cp2_2 l Z a0 hw [] d kd y1 y2 mr h0 n0 O V_d E_d I_y1 I_y2 M) hZ (hw _ (List.mem_of_getElem? (i := 132) rfl)) (hw _ (List.mem_of_getElem? (i := 131) rfl)) (by decide) (by decide)) e2 (by rw [hml]; rfl) [] (lenOf pd_9 rfl) rfl (Nat.le_of_ble_eq_true rfl) (hb hby d17_8) (by decide) (by decide) 11 rfl ?_
  rintro _ T3 L3 X3 ⟨b, k_b, rfl, N3q, K3, sz3, V_b⟩
  have N3 := Fr.app N0 N3q
  replace O := O.keep K3 all0
  replace KP := KP.trans K3 all0
  show Own.Go p e below _ (T3.setTop (mkF m 11 #[.val (.ref x)] [(.ref b)]))
  refine Own.g_ret X3 hx hret hlocks rfl (Or.inr (Or.inr (Or.inr (Or.inr ⟨rfl, rfl, rfl⟩)))) (hb hby d17_11) (by decide) (by decide) (rfl : T3.heap = T3.heap) ?_
  exact ⟨b, k_b, rfl, N3, KP, sz3, V_b⟩
theorem ef_of3 (m : MethodId) (x0 : Addr) : entryFrame m #[.ref x0] 2 = mkF m 0 #[.val (.ref x0), .unset] [] := by first | (simp [entryFrame, mkF, argsToLocals, Value.category]; done) | rfl
def Q_of3 (Z : State) (b : Addr) (kb : ClassId) (y1 : Addr) (y2 : Addr) (y3 : Addr) (em : Addr) (h0 : Heap) (n0 : Nat) (v : Option Value) (h : Heap) (L : List Loc) : Prop := ∃ (r : Addr) (e : Addr), v = some (.ref r) ∧ Fr n0 L ∧ Keep h0 h [] ∧ Own.Im Z h r e false
set_option maxRecDepth 65536 in
set_option maxHeartbeats 40000000 in
theorem rm_of3 (l : Launch) (Z : State) (a0 : Array Value) (hw : ∀ d ∈ tables_1, d.before a0 Z = true) (ws : List Jvm.Cond) (b : Addr) (kb : ClassId) (y1 : Addr) (y2 : Addr) (y3 : Addr) (em : Addr) (h0 : Heap) (n0 : Nat) (O : Old Z n0 h0) (V_b : Arv Z h0 b kb (.object "java/lang/Object") 3 [(.ref y1), (.ref y2), (.ref y3)] .null) (I_y1 : Ins Z h0 y1 "java/lang/Object" true) (I_y2 : Ins Z h0 y2 "java/lang/Object" true) (I_y3 : Ins Z h0 y3 "java/lang/Object" true) (SEM : Sta Z Z.heap "java/util/ImmutableCollections" "EMPTY" "Ljava/lang/Object;" (.ref em)) :
    MetFree l (⟨"java/util/List", "of", "([Ljava/lang/Object;)Ljava/util/List;"⟩ : MethodName) (head1 (Jvm.Cond.code (⟨"java/util/List", "of", "([Ljava/lang/Object;)Ljava/util/List;"⟩ : MethodName) jdk_40_method_47_code 2 (some (.object "java/util/List")) :: ws) ({ frames := 6, cells := 2, slots := 5, locals := 100 } : Room)) (fun aa U => aa = #[.ref b] ∧ Z.Warmed39 U.vm ∧ U.heap = h0) (fun _ _ _ _ _ => True) (fun _ U o U' => Own.End U (Q_of3 Z b kb y1 y2 y3 em h0 n0) 2 5 o U') := by
  refine MetFree.of_bodySF (plainFor_of_name pn_9) hisR ?_
  intro p e s m args below meth c s₁ Bd hml0 hP hK
  obtain ⟨rfl, hZ, hh⟩ := hP
  have hx := Bd.exec
  have hby := Bd.bytes
  have hml : c.maxLocals = 2 := hml0
  have hown : s.vm.findClass "java/util/List" = some m.cls := findClass_of_methodNamed Bd.named
  have hnm := (name_of_methodNamed Bd.named Bd.method).1
  have hret := Bd.returns
  have hlocks : meth.locks = false := Bd.notSynchronized
  have X0 : Stand p l e ({ frames := 6, cells := 2, slots := 5, locals := 100 } : Room) s m #[.ref b] below meth c s₁ [] 0 0 := Stand.of_body Bd
  have e0 : s₁.heap = h0 := by rw [← hh, Bd.state]; rfl
  have N0 := Fr.nil n0
  show Own.Go p e below (Own.End s (Q_of3 Z b kb y1 y2 y3 em h0 n0) 2 5) (s₁.setTop (entryFrame m #[.ref b] 2))
  refine Own.Go.eq (ef_of3 m b) ?_
  have KP : Keep h0 h0 [] := Keep.refl _ _
  refine Own.g_aloadN X0 hx (hb hby d21_0) rfl rfl 1 rfl ?_
  refine Own.g_alen X0 hx hZ e0 V_b (hb hby d21_1) 2 rfl ?_
  refine Own.g_tswOut X0 hx (hb hby d21_2) (by decide) 59 (by decide) ?_
  refine Own.g_aloadN X0 hx (hb hby d21_59) rfl rfl 60 rfl ?_
  refine Own.g_callS X0 hx (y := (⟨"java/util/ImmutableCollections", "listFromArray", "([Ljava/lang/Object;)Ljava/util/List;"⟩ : MethodName)) hown (mvT hZ (hw _ (List.mem_of_getElem? (i := 154) rfl))) (mvT hZ (hw _ (List.mem_of_getElem? (i := 155) rfl))) (mvT hZ (hw _ (List.mem_of_getElem? (i := 50) rfl))) (mvT hZ (hw _ (List.mem_of_getElem? (i := 156) rfl))) (by decide) [.ref b] (Own.back (W := 0) (rm_lfa l Z a0 hw [] b kb y1 y2 y3 h0 n0 O V_b I_y1 I_y2 I_y3) hZ (hw _ (List.mem_of_getElem? (i := 156) rfl)) (hw _ (List.mem_of_getElem? (i := 50) rfl)) (by decide) (by decide)) e0 (by rw [hml]; rfl) [] (lenOf pd_11 rfl) rfl (Nat.le_of_ble_eq_true rfl) (hb hby d21_60) (by decide) (by decide) 63 rfl ?_
  rintro _ T1 L1 X1 ⟨r, e2, rfl, N1q, K1, GI⟩
  have N1 := Fr.app N0 N1q
  replace O := O.keep K1 all0
  replace KP := KP.trans K1 all0
  show Own.Go p e below _ (T1.setTop (mkF m 63 #[.val (.ref b), .unset] [(.ref r)]))
  refine Own.g_ret X1 hx hret hlocks rfl (Or.inr (Or.inr (Or.inr (Or.inr ⟨rfl, rfl, rfl⟩)))) (hb hby d21_63) (by decide) (by decide) (rfl : T1.heap = T1.heap) ?_
  exact ⟨r, e2, rfl, N1, KP, GI⟩
theorem ef_cp3_3 (m : MethodId) (x0 : Addr) (x1 : Int32) (x2 : Addr) : entryFrame m #[.ref x0, .int x1, .ref x2] 4 = mkF m 0 #[.val (.ref x0), .val (.int x1), .val (.ref x2), .unset] [] := by first | (simp [entryFrame, mkF, argsToLocals, Value.category]; done) | rfl
def Q_cp3_3 (Z : State) (d : Addr) (kd : ClassId) (y1 : Addr) (y2 : Addr) (y3 : Addr) (mr : Addr) (h0 : Heap) (n0 : Nat) (v : Option Value) (h : Heap) (L : List Loc) : Prop := ∃ (b : Addr) (k : ClassId), v = some (.ref b) ∧ Fr n0 L ∧ Keep h0 h [] ∧ h0.size ≤ b ∧ Arv Z h b k (.object "java/lang/Object") 3 [(.ref y1), (.ref y2), (.ref y3)] .null
set_option maxRecDepth 65536 in
set_option maxHeartbeats 40000000 in
theorem rm_cp3_3 (l : Launch) (Z : State) (a0 : Array Value) (hw : ∀ d ∈ tables_1, d.before a0 Z = true) (ws : List Jvm.Cond) (d : Addr) (kd : ClassId) (y1 : Addr) (y2 : Addr) (y3 : Addr) (mr : Addr) (h0 : Heap) (n0 : Nat) (O : Old Z n0 h0) (V_d : Arv Z h0 d kd (.object "java/lang/Object") 10 [(.ref y1), (.ref y2), (.ref y3), .null, .null, .null, .null, .null, .null, .null] .null) (E_d : Exa Z h0 d "[Ljava/lang/Object;") (I_y1 : Ins Z h0 y1 "java/lang/Object" true) (I_y2 : Ins Z h0 y2 "java/lang/Object" true) (I_y3 : Ins Z h0 y3 "java/lang/Object" true) (M : Mir Z "[Ljava/lang/Object;" mr) :
    MetFree l (⟨"java/util/Arrays", "copyOf", "([Ljava/lang/Object;ILjava/lang/Class;)[Ljava/lang/Object;"⟩ : MethodName) (head1 (Jvm.Cond.code (⟨"java/util/Arrays", "copyOf", "([Ljava/lang/Object;ILjava/lang/Class;)[Ljava/lang/Object;"⟩ : MethodName) jdk_65_method_120_code 4 (some (.array (.object "java/lang/Object"))) :: ws) ({ frames := 1, cells := 1, slots := 3, locals := 60 } : Room)) (fun aa U => aa = #[.ref d, .int (3 : Int32), .ref mr] ∧ Z.Warmed39 U.vm ∧ U.heap = h0) (fun _ _ _ _ _ => True) (fun _ U o U' => Own.End U (Q_cp3_3 Z d kd y1 y2 y3 mr h0 n0) 1 3 o U') := by
  refine MetFree.of_bodySF (plainFor_of_name pn_10) hisR ?_
  intro p e s m args below meth c s₁ Bd hml0 hP hK
  obtain ⟨rfl, hZ, hh⟩ := hP
  have hx := Bd.exec
  have hby := Bd.bytes
  have hml : c.maxLocals = 4 := hml0
  have hown : s.vm.findClass "java/util/Arrays" = some m.cls := findClass_of_methodNamed Bd.named
  have hnm := (name_of_methodNamed Bd.named Bd.method).1
  have hret := Bd.returns
  have hlocks : meth.locks = false := Bd.notSynchronized
  have X0 : Stand p l e ({ frames := 1, cells := 1, slots := 3, locals := 60 } : Room) s m #[.ref d, .int (3 : Int32), .ref mr] below meth c s₁ [] 0 0 := Stand.of_body Bd
  have e0 : s₁.heap = h0 := by rw [← hh, Bd.state]; rfl
  have N0 := Fr.nil n0
  show Own.Go p e below (Own.End s (Q_cp3_3 Z d kd y1 y2 y3 mr h0 n0) 1 3) (s₁.setTop (entryFrame m #[.ref d, .int (3 : Int32), .ref mr] 4))
  refine Own.Go.eq (ef_cp3_3 m d (3 : Int32) mr) ?_
  have KP : Keep h0 h0 [] := Keep.refl _ _
  refine Own.g_aloadN X0 hx (hb hby d19_0) rfl rfl 1 rfl ?_
  refine Own.g_ldcK X0 hx hZ hown (hw _ (List.mem_of_getElem? (i := 142) rfl)) e0 M (hb hby d19_1) 3 rfl ?_
  intro T1 X1 e1
  refine Own.g_acmp X1 hx rfl rfl (hb hby d19_3) true (decide_eq_true rfl) 6 (by decide) ?_
  refine Own.g_iloadN X1 hx (hb hby d19_6) rfl 7 rfl ?_
  refine Own.g_newRE X1 hx hZ hown (hw _ (List.mem_of_getElem? (i := 143) rfl)) (hw _ (List.mem_of_getElem? (i := 108) rfl)) e1 (hb hby d19_7) (by decide) 3 (by decide) (by decide) (by decide) (by decide) "[Ljava/lang/Object;" (by decide) 10 rfl [.null, .null, .null] (by intro i; rcases i with _ | _ | _ | i <;> rfl) ?_
  intro T2 h2 b k_b X2 e2 E2 g2 V_b E_b O_b
  have ne_d_b : d ≠ b := Nat.ne_of_lt (Nat.lt_of_lt_of_le (V_d.lt) (Nat.le_of_eq g2.symm))
  have n0_b : n0 ≤ b := Nat.le_trans (Nat.le_of_eq O.1.symm) (Nat.le_trans O.2.1 (Nat.le_of_eq g2.symm))
  have sz0_b : h0.size ≤ b := Nat.le_trans KP.1 (Nat.le_of_eq g2.symm)
  replace V_d := V_d.ext E2
  replace I_y1 := I_y1.ext E2
  replace I_y2 := I_y2.ext E2
  replace I_y3 := I_y3.ext E2
  replace O := O.ext E2
  replace KP := KP.ext E2
  refine Own.g_goto X2 hx (hb hby d19_10) 24 (by decide) ?_
  refine Own.g_astoreN X2 hx #[.val (.ref d), .val (.int (3 : Int32)), .val (.ref mr), .val (.ref b)] (hb hby d19_24) rfl rfl 25 rfl ?_
  refine Own.g_aloadN X2 hx (hb hby d19_25) rfl rfl 26 rfl ?_
  refine Own.g_iconst X2 hx (0 : Int32) (hb hby d19_26) rfl 27 rfl ?_
  refine Own.g_aloadN X2 hx (hb hby d19_27) rfl rfl 28 rfl ?_
  refine Own.g_iconst X2 hx (0 : Int32) (hb hby d19_28) rfl 29 rfl ?_
  refine Own.g_aloadN X2 hx (hb hby d19_29) rfl rfl 30 rfl ?_
  refine Own.g_alen X2 hx hZ e2 V_d (hb hby d19_30) 31 rfl ?_
  refine Own.g_iloadN X2 hx (hb hby d19_31) rfl 32 rfl ?_
  refine Own.g_callS X2 hx (y := (⟨"java/lang/Math", "min", "(II)I"⟩ : MethodName)) hown (mvT hZ (hw _ (List.mem_of_getElem? (i := 144) rfl))) (mvT hZ (hw _ (List.mem_of_getElem? (i := 145) rfl))) (mvT hZ (hw _ (List.mem_of_getElem? (i := 105) rfl))) (mvT hZ (hw _ (List.mem_of_getElem? (i := 146) rfl))) (by decide) [.int (10 : Int32), .int (3 : Int32)] (Own.back (W := 4) (rm_min l Z a0 hw [] (10 : Int32) (3 : Int32) h2 n0 O (by decide)) hZ (hw _ (List.mem_of_getElem? (i := 146) rfl)) (hw _ (List.mem_of_getElem? (i := 105) rfl)) (by decide) (by decide)) e2 (by rw [hml]; rfl) [(.int (0 : Int32)), (.ref b), (.int (0 : Int32)), (.ref d)] (lenOf pd_1 rfl) rfl (Nat.le_of_ble_eq_true rfl) (hb hby d19_32) (by decide) (by decide) 35 rfl ?_
  rintro _ T3 L3 X3 ⟨rfl, N3q, eH3⟩
  have N3 := Fr.app N0 N3q
  show Own.Go p e below _ (T3.setTop (mkF m 35 #[.val (.ref d), .val (.int (3 : Int32)), .val (.ref mr), .val (.ref b)] [(.int (3 : Int32)), (.int (0 : Int32)), (.ref b), (.int (0 : Int32)), (.ref d)]))
  refine Own.g_cpA X3 hx hZ hown (hw _ (List.mem_of_getElem? (i := 147) rfl)) (hw _ (List.mem_of_getElem? (i := 150) rfl)) (hw _ (List.mem_of_getElem? (i := 148) rfl)) (hw _ (List.mem_of_getElem? (i := 149) rfl)) eH3 V_d V_b [(.ref y1), (.ref y2), (.ref y3)] (Or.inr ⟨rfl, rfl, ⟨Own.StoL.one V_b O_b I_y1, ⟨Own.StoL.one V_b O_b I_y2, ⟨Own.StoL.one V_b O_b I_y3, trivial⟩⟩⟩⟩) (by decide) (by decide) (by decide) (by decide) (by decide) rfl (Nat.le_of_ble_eq_true rfl) N3 n0_b [(.ref y1), (.ref y2), (.ref y3)] rfl (by rw [hml]; rfl) (hb hby d19_35) (by decide) (W := 0) (Nat.le_of_ble_eq_true rfl) (by decide) 38 rfl ?_
  clear V_b; intro T4 h4 L4 X4 e4 N4 K4 V_b
  replace V_d := V_d.keep K4 (ninS ne_d_b nin0)
  replace I_y1 := Own.Ins.kp I_y1 K4
  replace I_y2 := Own.Ins.kp I_y2 K4
  replace I_y3 := Own.Ins.kp I_y3 K4
  replace E_b := E_b.keep K4
  replace O := O.keep K4 (allS n0_b all0)
  replace KP := KP.trans K4 (allS (Or.inr sz0_b) all0)
  refine Own.g_aloadN X4 hx (hb hby d19_38) rfl rfl 39 rfl ?_
  refine Own.g_ret X4 hx hret hlocks rfl (Or.inr (Or.inr (Or.inr (Or.inr ⟨rfl, rfl, rfl⟩)))) (hb hby d19_39) (by decide) (by decide) e4 ?_
  exact ⟨b, k_b, rfl, N4, KP, sz0_b, V_b⟩
theorem ef_cp2_3 (m : MethodId) (x0 : Addr) (x1 : Int32) : entryFrame m #[.ref x0, .int x1] 2 = mkF m 0 #[.val (.ref x0), .val (.int x1)] [] := by first | (simp [entryFrame, mkF, argsToLocals, Value.category]; done) | rfl
def Q_cp2_3 (Z : State) (d : Addr) (kd : ClassId) (y1 : Addr) (y2 : Addr) (y3 : Addr) (mr : Addr) (h0 : Heap) (n0 : Nat) (v : Option Value) (h : Heap) (L : List Loc) : Prop := ∃ (b : Addr) (k : ClassId), v = some (.ref b) ∧ Fr n0 L ∧ Keep h0 h [] ∧ h0.size ≤ b ∧ Arv Z h b k (.object "java/lang/Object") 3 [(.ref y1), (.ref y2), (.ref y3)] .null
set_option maxRecDepth 65536 in
set_option maxHeartbeats 40000000 in
theorem rm_cp2_3 (l : Launch) (Z : State) (a0 : Array Value) (hw : ∀ d ∈ tables_1, d.before a0 Z = true) (ws : List Jvm.Cond) (d : Addr) (kd : ClassId) (y1 : Addr) (y2 : Addr) (y3 : Addr) (mr : Addr) (h0 : Heap) (n0 : Nat) (O : Old Z n0 h0) (V_d : Arv Z h0 d kd (.object "java/lang/Object") 10 [(.ref y1), (.ref y2), (.ref y3), .null, .null, .null, .null, .null, .null, .null] .null) (E_d : Exa Z h0 d "[Ljava/lang/Object;") (I_y1 : Ins Z h0 y1 "java/lang/Object" true) (I_y2 : Ins Z h0 y2 "java/lang/Object" true) (I_y3 : Ins Z h0 y3 "java/lang/Object" true) (M : Mir Z "[Ljava/lang/Object;" mr) :
    MetFree l (⟨"java/util/Arrays", "copyOf", "([Ljava/lang/Object;I)[Ljava/lang/Object;"⟩ : MethodName) (head1 (Jvm.Cond.code (⟨"java/util/Arrays", "copyOf", "([Ljava/lang/Object;I)[Ljava/lang/Object;"⟩ : MethodName) jdk_65_method_119_code 2 (some (.array (.object "java/lang/Object"))) :: ws) ({ frames := 2, cells := 1, slots := 3, locals := 90 } : Room)) (fun aa U => aa = #[.ref d, .int (3 : Int32)] ∧ Z.Warmed39 U.vm ∧ U.heap = h0) (fun _ _ _ _ _ => True) (fun _ U o U' => Own.End U (Q_cp2_3 Z d kd y1 y2 y3 mr h0 n0) 1 3 o U') := by
  refine MetFree.of_bodySF (plainFor_of_name pn_10) hisR ?_
  intro p e s m args below meth c s₁ Bd hml0 hP hK
  obtain ⟨rfl, hZ, hh⟩ := hP
  have hx := Bd.exec
  have hby := Bd.bytes
  have hml : c.maxLocals = 2 := hml0
  have hown : s.vm.findClass "java/util/Arrays" = some m.cls := findClass_of_methodNamed Bd.named
  have hnm := (name_of_methodNamed Bd.named Bd.method).1
  have hret := Bd.returns
  have hlocks : meth.locks = false := Bd.notSynchronized
  have X0 : Stand p l e ({ frames := 2, cells := 1, slots := 3, locals := 90 } : Room) s m #[.ref d, .int (3 : Int32)] below meth c s₁ [] 0 0 := Stand.of_body Bd
  have e0 : s₁.heap = h0 := by rw [← hh, Bd.state]; rfl
  have N0 := Fr.nil n0
  show Own.Go p e below (Own.End s (Q_cp2_3 Z d kd y1 y2 y3 mr h0 n0) 1 3) (s₁.setTop (entryFrame m #[.ref d, .int (3 : Int32)] 2))
  refine Own.Go.eq (ef_cp2_3 m d (3 : Int32)) ?_
  have KP : Keep h0 h0 [] := Keep.refl _ _
  refine Own.g_aloadN X0 hx (hb hby d18_0) rfl rfl 1 rfl ?_
  refine Own.g_iloadN X0 hx (hb hby d18_1) rfl 2 rfl ?_
  refine Own.g_aloadN X0 hx (hb hby d18_2) rfl rfl 3 rfl ?_
  refine Own.g_gcls X0 hx hZ hown (hw _ (List.mem_of_getElem? (i := 133) rfl)) (hw _ (List.mem_of_getElem? (i := 134) rfl)) (hw _ (List.mem_of_getElem? (i := 56) rfl)) (hw _ (List.mem_of_getElem? (i := 136) rfl)) (hw _ (List.mem_of_getElem? (i := 135) rfl)) (hw _ (List.mem_of_getElem? (i := 137) rfl)) e0 E_d M (by rw [hml]; rfl) (hb hby d18_3) (by decide) (W := 2) (Nat.le_of_ble_eq_true rfl) (by decide) 6 rfl ?_
  intro T1 X1 e1
  refine Own.g_callS X1 hx (y := (⟨"java/util/Arrays", "copyOf", "([Ljava/lang/Object;ILjava/lang/Class;)[Ljava/lang/Object;"⟩ : MethodName)) hown (mvT hZ (hw _ (List.mem_of_getElem? (i := 139) rfl))) (mvT hZ (hw _ (List.mem_of_getElem? (i := 140) rfl))) (mvT hZ (hw _ (List.mem_of_getElem? (i := 131) rfl))) (mvT hZ (hw _ (List.mem_of_getElem? (i := 141) rfl))) (by decide) [.ref d, .int (3 : Int32), .ref mr] (Own.back (W := 0) (rm_cp3_3 l Z a0 hw [] d kd y1 y2 y3 mr h0 n0 O V_d E_d I_y1 I_y2 I_y3 M) hZ (hw _ (List.mem_of_getElem? (i := 141) rfl)) (hw _ (List.mem_of_getElem? (i := 131) rfl)) (by decide) (by decide)) e1 (by rw [hml]; rfl) [] (lenOf pd_8 rfl) rfl (Nat.le_of_ble_eq_true rfl) (hb hby d18_6) (by decide) (by decide) 9 rfl ?_
  rintro _ T2 L2 X2 ⟨b, k_b, rfl, N2q, K2, sz2, V_b⟩
  have N2 := Fr.app N0 N2q
  replace O := O.keep K2 all0
  replace KP := KP.trans K2 all0
  show Own.Go p e below _ (T2.setTop (mkF m 9 #[.val (.ref d), .val (.int (3 : Int32))] [(.ref b)]))
  refine Own.g_ret X2 hx hret hlocks rfl (Or.inr (Or.inr (Or.inr (Or.inr ⟨rfl, rfl, rfl⟩)))) (hb hby d18_9) (by decide) (by decide) (rfl : T2.heap = T2.heap) ?_
  exact ⟨b, k_b, rfl, N2, KP, sz2, V_b⟩
theorem ef_toA3 (m : MethodId) (x0 : Addr) : entryFrame m #[.ref x0] 1 = mkF m 0 #[.val (.ref x0)] [] := by first | (simp [entryFrame, mkF, argsToLocals, Value.category]; done) | rfl
def Q_toA3 (Z : State) (x : Addr) (d : Addr) (kd : ClassId) (y1 : Addr) (y2 : Addr) (y3 : Addr) (mr : Addr) (h0 : Heap) (n0 : Nat) (v : Option Value) (h : Heap) (L : List Loc) : Prop := ∃ (b : Addr) (k : ClassId), v = some (.ref b) ∧ Fr n0 L ∧ Keep h0 h [] ∧ h0.size ≤ b ∧ Arv Z h b k (.object "java/lang/Object") 3 [(.ref y1), (.ref y2), (.ref y3)] .null
set_option maxRecDepth 65536 in
set_option maxHeartbeats 40000000 in
theorem rm_toA3 (l : Launch) (Z : State) (a0 : Array Value) (hw : ∀ d ∈ tables_1, d.before a0 Z = true) (ws : List Jvm.Cond) (x : Addr) (d : Addr) (kd : ClassId) (y1 : Addr) (y2 : Addr) (y3 : Addr) (mr : Addr) (h0 : Heap) (n0 : Nat) (O : Old Z n0 h0) (V_d : Arv Z h0 d kd (.object "java/lang/Object") 10 [(.ref y1), (.ref y2), (.ref y3), .null, .null, .null, .null, .null, .null, .null] .null) (E_d : Exa Z h0 d "[Ljava/lang/Object;") (I_y1 : Ins Z h0 y1 "java/lang/Object" true) (I_y2 : Ins Z h0 y2 "java/lang/Object" true) (I_y3 : Ins Z h0 y3 "java/lang/Object" true) (M : Mir Z "[Ljava/lang/Object;" mr) (F_x_elementData : Fld Z h0 x "java/util/ArrayList" "elementData" "[Ljava/lang/Object;" (.ref d)) (F_x_size : Fld Z h0 x "java/util/ArrayList" "size" "I" (.int 3)) :
    MetFree l (⟨"java/util/ArrayList", "toArray", "()[Ljava/lang/Object;"⟩ : MethodName) (head1 (Jvm.Cond.code (⟨"java/util/ArrayList", "toArray", "()[Ljava/lang/Object;"⟩ : MethodName) jdk_38_method_16_code 1 (some (.array (.object "java/lang/Object"))) :: ws) ({ frames := 3, cells := 1, slots := 3, locals := 110 } : Room)) (fun aa U => aa = #[.ref x] ∧ Z.Warmed39 U.vm ∧ U.heap = h0) (fun _ _ _ _ _ => True) (fun _ U o U' => Own.End U (Q_toA3 Z x d kd y1 y2 y3 mr h0 n0) 1 3 o U') := by
  refine MetFree.of_bodySF (plainFor_of_name pn_2) hisR ?_
  intro p e s m args below meth c s₁ Bd hml0 hP hK
  obtain ⟨rfl, hZ, hh⟩ := hP
  have hx := Bd.exec
  have hby := Bd.bytes
  have hml : c.maxLocals = 1 := hml0
  have hown : s.vm.findClass "java/util/ArrayList" = some m.cls := findClass_of_methodNamed Bd.named
  have hnm := (name_of_methodNamed Bd.named Bd.method).1
  have hret := Bd.returns
  have hlocks : meth.locks = false := Bd.notSynchronized
  have X0 : Stand p l e ({ frames := 3, cells := 1, slots := 3, locals := 110 } : Room) s m #[.ref x] below meth c s₁ [] 0 0 := Stand.of_body Bd
  have e0 : s₁.heap = h0 := by rw [← hh, Bd.state]; rfl
  have N0 := Fr.nil n0
  show Own.Go p e below (Own.End s (Q_toA3 Z x d kd y1 y2 y3 mr h0 n0) 1 3) (s₁.setTop (entryFrame m #[.ref x] 1))
  refine Own.Go.eq (ef_toA3 m x) ?_
  have KP : Keep h0 h0 [] := Keep.refl _ _
  refine Own.g_aloadN X0 hx (hb hby d17_0) rfl rfl 1 rfl ?_
  refine Own.g_getF X0 hx hZ hown (host := "") (Or.inl (hw _ (List.mem_of_getElem? (i := 38) rfl))) Via.refl e0 F_x_elementData (hb hby d17_1) 4 rfl ?_
  intro T1 X1 e1
  refine Own.g_aloadN X1 hx (hb hby d17_4) rfl rfl 5 rfl ?_
  refine Own.g_getF X1 hx hZ hown (host := "") (Or.inl (hw _ (List.mem_of_getElem? (i := 67) rfl))) Via.refl e1 F_x_size (hb hby d17_5) 8 rfl ?_
  intro T2 X2 e2
  refine Own.g_callS X2 hx (y := (⟨"java/util/Arrays", "copyOf", "([Ljava/lang/Object;I)[Ljava/lang/Object;"⟩ : MethodName)) hown (mvT hZ (hw _ (List.mem_of_getElem? (i := 129) rfl))) (mvT hZ (hw _ (List.mem_of_getElem? (i := 130) rfl))) (mvT hZ (hw _ (List.mem_of_getElem? (i := 131) rfl))) (mvT hZ (hw _ (List.mem_of_getElem? (i := 132) rfl))) (by decide) [.ref d, .int (3 : Int32)] (Own.back (W := 0) (rm_cp2_3 l Z a0 hw [] d kd y1 y2 y3 mr h0 n0 O V_d E_d I_y1 I_y2 I_y3 M) hZ (hw _ (List.mem_of_getElem? (i := 132) rfl)) (hw _ (List.mem_of_getElem? (i := 131) rfl)) (by decide) (by decide)) e2 (by rw [hml]; rfl) [] (lenOf pd_9 rfl) rfl (Nat.le_of_ble_eq_true rfl) (hb hby d17_8) (by decide) (by decide) 11 rfl ?_
  rintro _ T3 L3 X3 ⟨b, k_b, rfl, N3q, K3, sz3, V_b⟩
  have N3 := Fr.app N0 N3q
  replace O := O.keep K3 all0
  replace KP := KP.trans K3 all0
  show Own.Go p e below _ (T3.setTop (mkF m 11 #[.val (.ref x)] [(.ref b)]))
  refine Own.g_ret X3 hx hret hlocks rfl (Or.inr (Or.inr (Or.inr (Or.inr ⟨rfl, rfl, rfl⟩)))) (hb hby d17_11) (by decide) (by decide) (rfl : T3.heap = T3.heap) ?_
  exact ⟨b, k_b, rfl, N3, KP, sz3, V_b⟩
theorem ef_of0 (m : MethodId)  : entryFrame m #[] 0 = mkF m 0 #[] [] := by first | (simp [entryFrame, mkF, argsToLocals, Value.category]; done) | rfl
def Q_of0 (Z : State) (el : Addr) (ea : Addr) (h0 : Heap) (n0 : Nat) (v : Option Value) (h : Heap) (L : List Loc) : Prop := v = some (.ref el) ∧ Fr n0 L ∧ h = h0
set_option maxRecDepth 65536 in
set_option maxHeartbeats 40000000 in
theorem rm_of0 (l : Launch) (Z : State) (a0 : Array Value) (hw : ∀ d ∈ tables_1, d.before a0 Z = true) (ws : List Jvm.Cond) (el : Addr) (ea : Addr) (h0 : Heap) (n0 : Nat) (O : Old Z n0 h0) (SEL : Sta Z Z.heap "java/util/ImmutableCollections" "EMPTY_LIST" "Ljava/util/ImmutableCollections$ListN;" (.ref el)) (IMel : Own.Im Z Z.heap el ea true) :
    MetFree l (⟨"java/util/List", "of", "()Ljava/util/List;"⟩ : MethodName) (head1 (Jvm.Cond.code (⟨"java/util/List", "of", "()Ljava/util/List;"⟩ : MethodName) jdk_40_method_36_code 0 (some (.object "java/util/List")) :: ws) ({ frames := 0, cells := 0, slots := 0, locals := 0 } : Room)) (fun aa U => aa = #[] ∧ Z.Warmed39 U.vm ∧ U.heap = h0) (fun _ _ _ _ _ => True) (fun _ U o U' => Own.End U (Q_of0 Z el ea h0 n0) 0 0 o U') := by
  refine MetFree.of_bodySF (plainFor_of_name pn_9) hisR ?_
  intro p e s m args below meth c s₁ Bd hml0 hP hK
  obtain ⟨rfl, hZ, hh⟩ := hP
  have hx := Bd.exec
  have hby := Bd.bytes
  have hml : c.maxLocals = 0 := hml0
  have hown : s.vm.findClass "java/util/List" = some m.cls := findClass_of_methodNamed Bd.named
  have hnm := (name_of_methodNamed Bd.named Bd.method).1
  have hret := Bd.returns
  have hlocks : meth.locks = false := Bd.notSynchronized
  have X0 : Stand p l e ({ frames := 0, cells := 0, slots := 0, locals := 0 } : Room) s m #[] below meth c s₁ [] 0 0 := Stand.of_body Bd
  have e0 : s₁.heap = h0 := by rw [← hh, Bd.state]; rfl
  have N0 := Fr.nil n0
  show Own.Go p e below (Own.End s (Q_of0 Z el ea h0 n0) 0 0) (s₁.setTop (entryFrame m #[] 0))
  refine Own.Go.eq (ef_of0 m ) ?_
  refine Own.g_getS X0 hx hZ hown (host := "") (Or.inl (hw _ (List.mem_of_getElem? (i := 72) rfl))) Via.refl e0 (SEL.ext O.2) (hb hby d10_0) 3 rfl ?_
  intro T1 X1 e1
  refine Own.g_ret X1 hx hret hlocks rfl (Or.inr (Or.inr (Or.inr (Or.inr ⟨rfl, rfl, rfl⟩)))) (hb hby d10_3) (by decide) (by decide) e1 ?_
  exact ⟨rfl, N0, rfl⟩
theorem ef_isE0 (m : MethodId) (x0 : Addr) : entryFrame m #[.ref x0] 1 = mkF m 0 #[.val (.ref x0)] [] := by first | (simp [entryFrame, mkF, argsToLocals, Value.category]; done) | rfl
def Q_isE0 (Z : State) (x : Addr) (n : Int32) (h0 : Heap) (n0 : Nat) (v : Option Value) (h : Heap) (L : List Loc) : Prop := v = some (.int 1) ∧ Fr n0 L ∧ h = h0
set_option maxRecDepth 65536 in
set_option maxHeartbeats 40000000 in
theorem rm_isE0 (l : Launch) (Z : State) (a0 : Array Value) (hw : ∀ d ∈ tables_1, d.before a0 Z = true) (ws : List Jvm.Cond) (x : Addr) (n : Int32) (h0 : Heap) (n0 : Nat) (O : Old Z n0 h0) (F_x_size : Fld Z h0 x "java/util/ArrayList" "size" "I" (.int n)) (hn : n = 0) :
    MetFree l (⟨"java/util/ArrayList", "isEmpty", "()Z"⟩ : MethodName) (head1 (Jvm.Cond.code (⟨"java/util/ArrayList", "isEmpty", "()Z"⟩ : MethodName) jdk_38_method_9_code 1 (some .boolean) :: ws) ({ frames := 0, cells := 0, slots := 0, locals := 0 } : Room)) (fun aa U => aa = #[.ref x] ∧ Z.Warmed39 U.vm ∧ U.heap = h0) (fun _ _ _ _ _ => True) (fun _ U o U' => Own.End U (Q_isE0 Z x n h0 n0) 0 0 o U') := by
  refine MetFree.of_bodySF (plainFor_of_name pn_2) hisR ?_
  intro p e s m args below meth c s₁ Bd hml0 hP hK
  obtain ⟨rfl, hZ, hh⟩ := hP
  have hx := Bd.exec
  have hby := Bd.bytes
  have hml : c.maxLocals = 1 := hml0
  have hown : s.vm.findClass "java/util/ArrayList" = some m.cls := findClass_of_methodNamed Bd.named
  have hnm := (name_of_methodNamed Bd.named Bd.method).1
  have hret := Bd.returns
  have hlocks : meth.locks = false := Bd.notSynchronized
  have X0 : Stand p l e ({ frames := 0, cells := 0, slots := 0, locals := 0 } : Room) s m #[.ref x] below meth c s₁ [] 0 0 := Stand.of_body Bd
  have e0 : s₁.heap = h0 := by rw [← hh, Bd.state]; rfl
  have N0 := Fr.nil n0
  show Own.Go p e below (Own.End s (Q_isE0 Z x n h0 n0) 0 0) (s₁.setTop (entryFrame m #[.ref x] 1))
  refine Own.Go.eq (ef_isE0 m x) ?_
  refine Own.g_aloadN X0 hx (hb hby d9_0) rfl rfl 1 rfl ?_
  refine Own.g_getF X0 hx hZ hown (host := "") (Or.inl (hw _ (List.mem_of_getElem? (i := 67) rfl))) Via.refl e0 F_x_size (hb hby d9_1) 4 rfl ?_
  intro T1 X1 e1
  refine Own.g_if_ne_f X1 hx (hb hby d9_4) hn 7 rfl ?_
  refine Own.g_iconst X1 hx (1 : Int32) (hb hby d9_7) rfl 8 rfl ?_
  refine Own.g_goto X1 hx (hb hby d9_8) 12 (by decide) ?_
  refine Own.g_ret X1 hx hret hlocks rfl (Or.inl ⟨rfl, by simp, _, rfl⟩) (hb hby d9_12) (by decide) (by decide) e1 ?_
  exact ⟨rfl, N0, rfl⟩
theorem ef_isE1 (m : MethodId) (x0 : Addr) : entryFrame m #[.ref x0] 1 = mkF m 0 #[.val (.ref x0)] [] := by first | (simp [entryFrame, mkF, argsToLocals, Value.category]; done) | rfl
def Q_isE1 (Z : State) (x : Addr) (n : Int32) (h0 : Heap) (n0 : Nat) (v : Option Value) (h : Heap) (L : List Loc) : Prop := v = some (.int 0) ∧ Fr n0 L ∧ h = h0
set_option maxRecDepth 65536 in
set_option maxHeartbeats 40000000 in
theorem rm_isE1 (l : Launch) (Z : State) (a0 : Array Value) (hw : ∀ d ∈ tables_1, d.before a0 Z = true) (ws : List Jvm.Cond) (x : Addr) (n : Int32) (h0 : Heap) (n0 : Nat) (O : Old Z n0 h0) (F_x_size : Fld Z h0 x "java/util/ArrayList" "size" "I" (.int n)) (hn : ¬ n = 0) :
    MetFree l (⟨"java/util/ArrayList", "isEmpty", "()Z"⟩ : MethodName) (head1 (Jvm.Cond.code (⟨"java/util/ArrayList", "isEmpty", "()Z"⟩ : MethodName) jdk_38_method_9_code 1 (some .boolean) :: ws) ({ frames := 0, cells := 0, slots := 0, locals := 0 } : Room)) (fun aa U => aa = #[.ref x] ∧ Z.Warmed39 U.vm ∧ U.heap = h0) (fun _ _ _ _ _ => True) (fun _ U o U' => Own.End U (Q_isE1 Z x n h0 n0) 0 0 o U') := by
  refine MetFree.of_bodySF (plainFor_of_name pn_2) hisR ?_
  intro p e s m args below meth c s₁ Bd hml0 hP hK
  obtain ⟨rfl, hZ, hh⟩ := hP
  have hx := Bd.exec
  have hby := Bd.bytes
  have hml : c.maxLocals = 1 := hml0
  have hown : s.vm.findClass "java/util/ArrayList" = some m.cls := findClass_of_methodNamed Bd.named
  have hnm := (name_of_methodNamed Bd.named Bd.method).1
  have hret := Bd.returns
  have hlocks : meth.locks = false := Bd.notSynchronized
  have X0 : Stand p l e ({ frames := 0, cells := 0, slots := 0, locals := 0 } : Room) s m #[.ref x] below meth c s₁ [] 0 0 := Stand.of_body Bd
  have e0 : s₁.heap = h0 := by rw [← hh, Bd.state]; rfl
  have N0 := Fr.nil n0
  show Own.Go p e below (Own.End s (Q_isE1 Z x n h0 n0) 0 0) (s₁.setTop (entryFrame m #[.ref x] 1))
  refine Own.Go.eq (ef_isE1 m x) ?_
  refine Own.g_aloadN X0 hx (hb hby d9_0) rfl rfl 1 rfl ?_
  refine Own.g_getF X0 hx hZ hown (host := "") (Or.inl (hw _ (List.mem_of_getElem? (i := 67) rfl))) Via.refl e0 F_x_size (hb hby d9_1) 4 rfl ?_
  intro T1 X1 e1
  refine Own.g_if_ne_t X1 hx (hb hby d9_4) hn 11 (by decide) ?_
  refine Own.g_iconst X1 hx (0 : Int32) (hb hby d9_11) rfl 12 rfl ?_
  refine Own.g_ret X1 hx hret hlocks rfl (Or.inl ⟨rfl, by simp, _, rfl⟩) (hb hby d9_12) (by decide) (by decide) e1 ?_
  exact ⟨rfl, N0, rfl⟩
theorem ef_lcA0 (m : MethodId) (x0 : Addr) : entryFrame m #[.ref x0] 2 = mkF m 0 #[.val (.ref x0), .unset] [] := by first | (simp [entryFrame, mkF, argsToLocals, Value.category]; done) | rfl
def Q_lcA0 (Z : State) (x : Addr) (d : Addr)  (da : Addr) (kda : ClassId) (mr : Addr) (el : Addr) (ea : Addr) (em : Addr) (h0 : Heap) (n0 : Nat) (v : Option Value) (h : Heap) (L : List Loc) : Prop := ∃ (r : Addr) (e : Addr), v = some (.ref r) ∧ Fr n0 L ∧ Keep h0 h [] ∧ Own.Im Z h r e true
set_option maxRecDepth 65536 in
set_option maxHeartbeats 40000000 in
theorem rm_lcA0 (l : Launch) (Z : State) (a0 : Array Value) (hw : ∀ d ∈ tables_1, d.before a0 Z = true) (ws : List Jvm.Cond) (x : Addr) (d : Addr)  (da : Addr) (kda : ClassId) (mr : Addr) (el : Addr) (ea : Addr) (em : Addr) (h0 : Heap) (n0 : Nat) (O : Old Z n0 h0) (A_x : Own.AL Z h0 x d []) (SD : Sta Z Z.heap "java/util/ArrayList" "DEFAULTCAPACITY_EMPTY_ELEMENTDATA" "[Ljava/lang/Object;" (.ref da)) (AD : Arv Z Z.heap da kda (.object "java/lang/Object") 0 [] .null) (M : Mir Z "[Ljava/lang/Object;" mr) (SEL : Sta Z Z.heap "java/util/ImmutableCollections" "EMPTY_LIST" "Ljava/util/ImmutableCollections$ListN;" (.ref el)) (IMel : Own.Im Z Z.heap el ea true) (SEM : Sta Z Z.heap "java/util/ImmutableCollections" "EMPTY" "Ljava/lang/Object;" (.ref em)) :
    MetFree l (⟨"java/util/ImmutableCollections", "listCopy", "(Ljava/util/Collection;)Ljava/util/List;"⟩ : MethodName) (head1 (Jvm.Cond.code (⟨"java/util/ImmutableCollections", "listCopy", "(Ljava/util/Collection;)Ljava/util/List;"⟩ : MethodName) jdk_56_method_3_code 2 (some (.object "java/util/List")) :: ws) ({ frames := 7, cells := 3, slots := 8, locals := 140 } : Room)) (fun aa U => aa = #[.ref x] ∧ Z.Warmed39 U.vm ∧ U.heap = h0) (fun _ _ _ _ _ => True) (fun _ U o U' => Own.End U (Q_lcA0 Z x d da kda mr el ea em h0 n0) 3 8 o U') := by
  refine MetFree.of_bodySF (plainFor_of_name pn_8) hisR ?_
  intro p e s m args below meth c s₁ Bd hml0 hP hK
  obtain ⟨rfl, hZ, hh⟩ := hP
  have hx := Bd.exec
  have hby := Bd.bytes
  have hml : c.maxLocals = 2 := hml0
  have hown : s.vm.findClass "java/util/ImmutableCollections" = some m.cls := findClass_of_methodNamed Bd.named
  have hnm := (name_of_methodNamed Bd.named Bd.method).1
  have hret := Bd.returns
  have hlocks : meth.locks = false := Bd.notSynchronized
  have X0 : Stand p l e ({ frames := 7, cells := 3, slots := 8, locals := 140 } : Room) s m #[.ref x] below meth c s₁ [] 0 0 := Stand.of_body Bd
  have e0 : s₁.heap = h0 := by rw [← hh, Bd.state]; rfl
  have N0 := Fr.nil n0
  show Own.Go p e below (Own.End s (Q_lcA0 Z x d da kda mr el ea em h0 n0) 3 8) (s₁.setTop (entryFrame m #[.ref x] 2))
  refine Own.Go.eq (ef_lcA0 m x) ?_
  have KP : Keep h0 h0 [] := Keep.refl _ _
  obtain ⟨E_x, F_x_size, F_x_elementData, E_d, hI, hV⟩ := A_x
  replace F_x_size : Fld Z h0 x "java/util/ArrayList" "size" "I" (.int 0) := F_x_size
  refine Own.g_aloadN X0 hx (hb hby d8_0) rfl rfl 1 rfl ?_
  refine Own.g_instNo X0 hx hZ hown (hw _ (List.mem_of_getElem? (i := 52) rfl)) e0 E_x (Own.nsNo (hw _ (List.mem_of_getElem? (i := 53) rfl)) (hw _ (List.mem_of_getElem? (i := 189) rfl)) (NS.step (hw _ (List.mem_of_getElem? (i := 53) rfl)) (NS.step (hw _ (List.mem_of_getElem? (i := 54) rfl)) (NS.step (hw _ (List.mem_of_getElem? (i := 55) rfl)) (Own.nsRoot (hw _ (List.mem_of_getElem? (i := 56) rfl)) (hw _ (List.mem_of_getElem? (i := 189) rfl)) (by decide)) (by decide)) (by decide)) (by decide)) (by decide)) (hb hby d8_1) 4 rfl ?_
  intro T1 X1 e1
  refine Own.g_if_ne_f X1 hx (hb hby d8_4) rfl 7 rfl ?_
  refine Own.g_aloadN X1 hx (hb hby d8_7) rfl rfl 8 rfl ?_
  refine Own.g_instNo X1 hx hZ hown (hw _ (List.mem_of_getElem? (i := 57) rfl)) e1 E_x (Own.nsNo (hw _ (List.mem_of_getElem? (i := 53) rfl)) (hw _ (List.mem_of_getElem? (i := 162) rfl)) (NS.step (hw _ (List.mem_of_getElem? (i := 53) rfl)) (NS.step (hw _ (List.mem_of_getElem? (i := 54) rfl)) (NS.step (hw _ (List.mem_of_getElem? (i := 55) rfl)) (Own.nsRoot (hw _ (List.mem_of_getElem? (i := 56) rfl)) (hw _ (List.mem_of_getElem? (i := 162) rfl)) (by decide)) (by decide)) (by decide)) (by decide)) (by decide)) (hb hby d8_8) 11 rfl ?_
  intro T2 X2 e2
  refine Own.g_if_eq_t X2 hx (hb hby d8_11) rfl 31 (by decide) ?_
  refine Own.g_aloadN X2 hx (hb hby d8_31) rfl rfl 32 rfl ?_
  refine Own.g_iface X2 hx hZ (y := (⟨"java/util/Collection", "isEmpty", "()Z"⟩ : MethodName)) (z := (⟨"java/util/ArrayList", "isEmpty", "()Z"⟩ : MethodName)) hown (mvT hZ (hw _ (List.mem_of_getElem? (i := 58) rfl))) (mvT hZ (hw _ (List.mem_of_getElem? (i := 59) rfl))) (mvT hZ (hw _ (List.mem_of_getElem? (i := 60) rfl))) (mvT hZ (hw _ (List.mem_of_getElem? (i := 61) rfl))) (mvT hZ (hw _ (List.mem_of_getElem? (i := 62) rfl))) (mvT hZ (hw _ (List.mem_of_getElem? (i := 63) rfl))) (mvT hZ (hw _ (List.mem_of_getElem? (i := 64) rfl))) (mvT hZ (hw _ (List.mem_of_getElem? (i := 65) rfl))) (by decide) (a := x) [] (Own.back (W := 0) (rm_isE0 l Z a0 hw [] x (0 : Int32) h0 n0 O F_x_size rfl) hZ (hw _ (List.mem_of_getElem? (i := 66) rfl)) (hw _ (List.mem_of_getElem? (i := 18) rfl)) (by decide) (by decide)) E_x e2 (by rw [hml]; rfl) [] (lenOf pd_12 rfl) rfl (Nat.le_of_ble_eq_true rfl) (hb hby d8_32) (by decide) (by decide) 37 rfl ?_
  rintro _ T3 L3 X3 ⟨rfl, N3q, eH3⟩
  have N3 := Fr.app N0 N3q
  show Own.Go p e below _ (T3.setTop (mkF m 37 #[.val (.ref x), .unset] [(.int (1 : Int32))]))
  refine Own.g_if_eq_f X3 hx (hb hby d8_37) (by decide) 40 rfl ?_
  refine Own.g_callS X3 hx (y := (⟨"java/util/List", "of", "()Ljava/util/List;"⟩ : MethodName)) hown (mvT hZ (hw _ (List.mem_of_getElem? (i := 69) rfl))) (mvT hZ (hw _ (List.mem_of_getElem? (i := 70) rfl))) (mvT hZ (hw _ (List.mem_of_getElem? (i := 46) rfl))) (mvT hZ (hw _ (List.mem_of_getElem? (i := 71) rfl))) (by decide) [] (Own.back (W := 0) (rm_of0 l Z a0 hw [] el ea h0 n0 O SEL IMel) hZ (hw _ (List.mem_of_getElem? (i := 71) rfl)) (hw _ (List.mem_of_getElem? (i := 46) rfl)) (by decide) (by decide)) eH3 (by rw [hml]; rfl) [] (lenOf pd_13 rfl) rfl (Nat.le_of_ble_eq_true rfl) (hb hby d8_40) (by decide) (by decide) 43 rfl ?_
  rintro _ T4 L4 X4 ⟨rfl, N4q, eH4⟩
  have N4 := Fr.app N3 N4q
  show Own.Go p e below _ (T4.setTop (mkF m 43 #[.val (.ref x), .unset] [(.ref el)]))
  refine Own.g_ret X4 hx hret hlocks rfl (Or.inr (Or.inr (Or.inr (Or.inr ⟨rfl, rfl, rfl⟩)))) (hb hby d8_43) (by decide) (by decide) eH4 ?_
  exact ⟨el, ea, rfl, N4, KP, IMel.ext O.2⟩
theorem ef_lcA1 (m : MethodId) (x0 : Addr) : entryFrame m #[.ref x0] 2 = mkF m 0 #[.val (.ref x0), .unset] [] := by first | (simp [entryFrame, mkF, argsToLocals, Value.category]; done) | rfl
def Q_lcA1 (Z : State) (x : Addr) (d : Addr) (y1 : Addr) (da : Addr) (kda : ClassId) (mr : Addr) (el : Addr) (ea : Addr) (em : Addr) (h0 : Heap) (n0 : Nat) (v : Option Value) (h : Heap) (L : List Loc) : Prop := ∃ (r : Addr) (e : Addr), v = some (.ref r) ∧ Fr n0 L ∧ Keep h0 h [] ∧ Own.Im Z h r e false
set_option maxRecDepth 65536 in
set_option maxHeartbeats 40000000 in
theorem rm_lcA1 (l : Launch) (Z : State) (a0 : Array Value) (hw : ∀ d ∈ tables_1, d.before a0 Z = true) (ws : List Jvm.Cond) (x : Addr) (d : Addr) (y1 : Addr) (da : Addr) (kda : ClassId) (mr : Addr) (el : Addr) (ea : Addr) (em : Addr) (h0 : Heap) (n0 : Nat) (O : Old Z n0 h0) (A_x : Own.AL Z h0 x d [y1]) (SD : Sta Z Z.heap "java/util/ArrayList" "DEFAULTCAPACITY_EMPTY_ELEMENTDATA" "[Ljava/lang/Object;" (.ref da)) (AD : Arv Z Z.heap da kda (.object "java/lang/Object") 0 [] .null) (M : Mir Z "[Ljava/lang/Object;" mr) (SEL : Sta Z Z.heap "java/util/ImmutableCollections" "EMPTY_LIST" "Ljava/util/ImmutableCollections$ListN;" (.ref el)) (IMel : Own.Im Z Z.heap el ea true) (SEM : Sta Z Z.heap "java/util/ImmutableCollections" "EMPTY" "Ljava/lang/Object;" (.ref em)) :
    MetFree l (⟨"java/util/ImmutableCollections", "listCopy", "(Ljava/util/Collection;)Ljava/util/List;"⟩ : MethodName) (head1 (Jvm.Cond.code (⟨"java/util/ImmutableCollections", "listCopy", "(Ljava/util/Collection;)Ljava/util/List;"⟩ : MethodName) jdk_56_method_3_code 2 (some (.object "java/util/List")) :: ws) ({ frames := 7, cells := 3, slots := 8, locals := 140 } : Room)) (fun aa U => aa = #[.ref x] ∧ Z.Warmed39 U.vm ∧ U.heap = h0) (fun _ _ _ _ _ => True) (fun _ U o U' => Own.End U (Q_lcA1 Z x d y1 da kda mr el ea em h0 n0) 3 8 o U') := by
  refine MetFree.of_bodySF (plainFor_of_name pn_8) hisR ?_
  intro p e s m args below meth c s₁ Bd hml0 hP hK
  obtain ⟨rfl, hZ, hh⟩ := hP
  have hx := Bd.exec
  have hby := Bd.bytes
  have hml : c.maxLocals = 2 := hml0
  have hown : s.vm.findClass "java/util/ImmutableCollections" = some m.cls := findClass_of_methodNamed Bd.named
  have hnm := (name_of_methodNamed Bd.named Bd.method).1
  have hret := Bd.returns
  have hlocks : meth.locks = false := Bd.notSynchronized
  have X0 : Stand p l e ({ frames := 7, cells := 3, slots := 8, locals := 140 } : Room) s m #[.ref x] below meth c s₁ [] 0 0 := Stand.of_body Bd
  have e0 : s₁.heap = h0 := by rw [← hh, Bd.state]; rfl
  have N0 := Fr.nil n0
  show Own.Go p e below (Own.End s (Q_lcA1 Z x d y1 da kda mr el ea em h0 n0) 3 8) (s₁.setTop (entryFrame m #[.ref x] 2))
  refine Own.Go.eq (ef_lcA1 m x) ?_
  have KP : Keep h0 h0 [] := Keep.refl _ _
  obtain ⟨E_x, F_x_size, F_x_elementData, E_d, hI, hV⟩ := A_x
  replace F_x_size : Fld Z h0 x "java/util/ArrayList" "size" "I" (.int 1) := F_x_size
  obtain ⟨kd, V_d⟩ : ∃ kd, Arv Z h0 d kd (.object "java/lang/Object") 10 [(.ref y1), .null, .null, .null, .null, .null, .null, .null, .null, .null] .null := hV.elim (fun q => nomatch q) id
  have I_y1 := hI y1 (by simp)
  refine Own.g_aloadN X0 hx (hb hby d8_0) rfl rfl 1 rfl ?_
  refine Own.g_instNo X0 hx hZ hown (hw _ (List.mem_of_getElem? (i := 52) rfl)) e0 E_x (Own.nsNo (hw _ (List.mem_of_getElem? (i := 53) rfl)) (hw _ (List.mem_of_getElem? (i := 189) rfl)) (NS.step (hw _ (List.mem_of_getElem? (i := 53) rfl)) (NS.step (hw _ (List.mem_of_getElem? (i := 54) rfl)) (NS.step (hw _ (List.mem_of_getElem? (i := 55) rfl)) (Own.nsRoot (hw _ (List.mem_of_getElem? (i := 56) rfl)) (hw _ (List.mem_of_getElem? (i := 189) rfl)) (by decide)) (by decide)) (by decide)) (by decide)) (by decide)) (hb hby d8_1) 4 rfl ?_
  intro T1 X1 e1
  refine Own.g_if_ne_f X1 hx (hb hby d8_4) rfl 7 rfl ?_
  refine Own.g_aloadN X1 hx (hb hby d8_7) rfl rfl 8 rfl ?_
  refine Own.g_instNo X1 hx hZ hown (hw _ (List.mem_of_getElem? (i := 57) rfl)) e1 E_x (Own.nsNo (hw _ (List.mem_of_getElem? (i := 53) rfl)) (hw _ (List.mem_of_getElem? (i := 162) rfl)) (NS.step (hw _ (List.mem_of_getElem? (i := 53) rfl)) (NS.step (hw _ (List.mem_of_getElem? (i := 54) rfl)) (NS.step (hw _ (List.mem_of_getElem? (i := 55) rfl)) (Own.nsRoot (hw _ (List.mem_of_getElem? (i := 56) rfl)) (hw _ (List.mem_of_getElem? (i := 162) rfl)) (by decide)) (by decide)) (by decide)) (by decide)) (by decide)) (hb hby d8_8) 11 rfl ?_
  intro T2 X2 e2
  refine Own.g_if_eq_t X2 hx (hb hby d8_11) rfl 31 (by decide) ?_
  refine Own.g_aloadN X2 hx (hb hby d8_31) rfl rfl 32 rfl ?_
  refine Own.g_iface X2 hx hZ (y := (⟨"java/util/Collection", "isEmpty", "()Z"⟩ : MethodName)) (z := (⟨"java/util/ArrayList", "isEmpty", "()Z"⟩ : MethodName)) hown (mvT hZ (hw _ (List.mem_of_getElem? (i := 58) rfl))) (mvT hZ (hw _ (List.mem_of_getElem? (i := 59) rfl))) (mvT hZ (hw _ (List.mem_of_getElem? (i := 60) rfl))) (mvT hZ (hw _ (List.mem_of_getElem? (i := 61) rfl))) (mvT hZ (hw _ (List.mem_of_getElem? (i := 62) rfl))) (mvT hZ (hw _ (List.mem_of_getElem? (i := 63) rfl))) (mvT hZ (hw _ (List.mem_of_getElem? (i := 64) rfl))) (mvT hZ (hw _ (List.mem_of_getElem? (i := 65) rfl))) (by decide) (a := x) [] (Own.back (W := 0) (rm_isE1 l Z a0 hw [] x (1 : Int32) h0 n0 O F_x_size (by decide)) hZ (hw _ (List.mem_of_getElem? (i := 66) rfl)) (hw _ (List.mem_of_getElem? (i := 18) rfl)) (by decide) (by decide)) E_x e2 (by rw [hml]; rfl) [] (lenOf pd_12 rfl) rfl (Nat.le_of_ble_eq_true rfl) (hb hby d8_32) (by decide) (by decide) 37 rfl ?_
  rintro _ T3 L3 X3 ⟨rfl, N3q, eH3⟩
  have N3 := Fr.app N0 N3q
  show Own.Go p e below _ (T3.setTop (mkF m 37 #[.val (.ref x), .unset] [(.int (0 : Int32))]))
  refine Own.g_if_eq_t X3 hx (hb hby d8_37) rfl 44 (by decide) ?_
  refine Own.g_aloadN X3 hx (hb hby d8_44) rfl rfl 45 rfl ?_
  refine Own.g_iface X3 hx hZ (y := (⟨"java/util/Collection", "toArray", "()[Ljava/lang/Object;"⟩ : MethodName)) (z := (⟨"java/util/ArrayList", "toArray", "()[Ljava/lang/Object;"⟩ : MethodName)) hown (mvT hZ (hw _ (List.mem_of_getElem? (i := 121) rfl))) (mvT hZ (hw _ (List.mem_of_getElem? (i := 122) rfl))) (mvT hZ (hw _ (List.mem_of_getElem? (i := 123) rfl))) (mvT hZ (hw _ (List.mem_of_getElem? (i := 124) rfl))) (mvT hZ (hw _ (List.mem_of_getElem? (i := 125) rfl))) (mvT hZ (hw _ (List.mem_of_getElem? (i := 126) rfl))) (mvT hZ (hw _ (List.mem_of_getElem? (i := 127) rfl))) (mvT hZ (hw _ (List.mem_of_getElem? (i := 65) rfl))) (by decide) (a := x) [] (Own.back (W := 0) (rm_toA1 l Z a0 hw [] x d kd y1 mr h0 n0 O V_d E_d I_y1 M F_x_elementData F_x_size) hZ (hw _ (List.mem_of_getElem? (i := 128) rfl)) (hw _ (List.mem_of_getElem? (i := 18) rfl)) (by decide) (by decide)) E_x eH3 (by rw [hml]; rfl) [] (lenOf pd_3 rfl) rfl (Nat.le_of_ble_eq_true rfl) (hb hby d8_45) (by decide) (by decide) 50 rfl ?_
  rintro _ T4 L4 X4 ⟨b, k_b, rfl, N4q, K4, sz4, V_b⟩
  have N4 := Fr.app N3 N4q
  replace I_y1 := Own.Ins.kp I_y1 K4
  replace O := O.keep K4 all0
  replace KP := KP.trans K4 all0
  show Own.Go p e below _ (T4.setTop (mkF m 50 #[.val (.ref x), .unset] [(.ref b)]))
  refine Own.g_callS X4 hx (y := (⟨"java/util/List", "of", "([Ljava/lang/Object;)Ljava/util/List;"⟩ : MethodName)) hown (mvT hZ (hw _ (List.mem_of_getElem? (i := 151) rfl))) (mvT hZ (hw _ (List.mem_of_getElem? (i := 152) rfl))) (mvT hZ (hw _ (List.mem_of_getElem? (i := 46) rfl))) (mvT hZ (hw _ (List.mem_of_getElem? (i := 153) rfl))) (by decide) [.ref b] (Own.back (W := 0) (rm_of1 l Z a0 hw [] b k_b y1 em T4.heap n0 O V_b I_y1 SEM) hZ (hw _ (List.mem_of_getElem? (i := 153) rfl)) (hw _ (List.mem_of_getElem? (i := 46) rfl)) (by decide) (by decide)) (rfl : T4.heap = T4.heap) (by rw [hml]; rfl) [] (lenOf pd_11 rfl) rfl (Nat.le_of_ble_eq_true rfl) (hb hby d8_50) (by decide) (by decide) 53 rfl ?_
  rintro _ T5 L5 X5 ⟨r, e2, rfl, N5q, K5, GI⟩
  have N5 := Fr.app N4 N5q
  replace O := O.keep K5 all0
  replace KP := KP.trans K5 all0
  show Own.Go p e below _ (T5.setTop (mkF m 53 #[.val (.ref x), .unset] [(.ref r)]))
  refine Own.g_ret X5 hx hret hlocks rfl (Or.inr (Or.inr (Or.inr (Or.inr ⟨rfl, rfl, rfl⟩)))) (hb hby d8_53) (by decide) (by decide) (rfl : T5.heap = T5.heap) ?_
  exact ⟨r, e2, rfl, N5, KP, GI⟩
theorem ef_lcA2 (m : MethodId) (x0 : Addr) : entryFrame m #[.ref x0] 2 = mkF m 0 #[.val (.ref x0), .unset] [] := by first | (simp [entryFrame, mkF, argsToLocals, Value.category]; done) | rfl
def Q_lcA2 (Z : State) (x : Addr) (d : Addr) (y1 : Addr) (y2 : Addr) (da : Addr) (kda : ClassId) (mr : Addr) (el : Addr) (ea : Addr) (em : Addr) (h0 : Heap) (n0 : Nat) (v : Option Value) (h : Heap) (L : List Loc) : Prop := ∃ (r : Addr) (e : Addr), v = some (.ref r) ∧ Fr n0 L ∧ Keep h0 h [] ∧ Own.Im Z h r e false
set_option maxRecDepth 65536 in
set_option maxHeartbeats 40000000 in
theorem rm_lcA2 (l : Launch) (Z : State) (a0 : Array Value) (hw : ∀ d ∈ tables_1, d.before a0 Z = true) (ws : List Jvm.Cond) (x : Addr) (d : Addr) (y1 : Addr) (y2 : Addr) (da : Addr) (kda : ClassId) (mr : Addr) (el : Addr) (ea : Addr) (em : Addr) (h0 : Heap) (n0 : Nat) (O : Old Z n0 h0) (A_x : Own.AL Z h0 x d [y1, y2]) (SD : Sta Z Z.heap "java/util/ArrayList" "DEFAULTCAPACITY_EMPTY_ELEMENTDATA" "[Ljava/lang/Object;" (.ref da)) (AD : Arv Z Z.heap da kda (.object "java/lang/Object") 0 [] .null) (M : Mir Z "[Ljava/lang/Object;" mr) (SEL : Sta Z Z.heap "java/util/ImmutableCollections" "EMPTY_LIST" "Ljava/util/ImmutableCollections$ListN;" (.ref el)) (IMel : Own.Im Z Z.heap el ea true) (SEM : Sta Z Z.heap "java/util/ImmutableCollections" "EMPTY" "Ljava/lang/Object;" (.ref em)) :
    MetFree l (⟨"java/util/ImmutableCollections", "listCopy", "(Ljava/util/Collection;)Ljava/util/List;"⟩ : MethodName) (head1 (Jvm.Cond.code (⟨"java/util/ImmutableCollections", "listCopy", "(Ljava/util/Collection;)Ljava/util/List;"⟩ : MethodName) jdk_56_method_3_code 2 (some (.object "java/util/List")) :: ws) ({ frames := 7, cells := 3, slots := 8, locals := 140 } : Room)) (fun aa U => aa = #[.ref x] ∧ Z.Warmed39 U.vm ∧ U.heap = h0) (fun _ _ _ _ _ => True) (fun _ U o U' => Own.End U (Q_lcA2 Z x d y1 y2 da kda mr el ea em h0 n0) 3 8 o U') := by
  refine MetFree.of_bodySF (plainFor_of_name pn_8) hisR ?_
  intro p e s m args below meth c s₁ Bd hml0 hP hK
  obtain ⟨rfl, hZ, hh⟩ := hP
  have hx := Bd.exec
  have hby := Bd.bytes
  have hml : c.maxLocals = 2 := hml0
  have hown : s.vm.findClass "java/util/ImmutableCollections" = some m.cls := findClass_of_methodNamed Bd.named
  have hnm := (name_of_methodNamed Bd.named Bd.method).1
  have hret := Bd.returns
  have hlocks : meth.locks = false := Bd.notSynchronized
  have X0 : Stand p l e ({ frames := 7, cells := 3, slots := 8, locals := 140 } : Room) s m #[.ref x] below meth c s₁ [] 0 0 := Stand.of_body Bd
  have e0 : s₁.heap = h0 := by rw [← hh, Bd.state]; rfl
  have N0 := Fr.nil n0
  show Own.Go p e below (Own.End s (Q_lcA2 Z x d y1 y2 da kda mr el ea em h0 n0) 3 8) (s₁.setTop (entryFrame m #[.ref x] 2))
  refine Own.Go.eq (ef_lcA2 m x) ?_
  have KP : Keep h0 h0 [] := Keep.refl _ _
  obtain ⟨E_x, F_x_size, F_x_elementData, E_d, hI, hV⟩ := A_x
  replace F_x_size : Fld Z h0 x "java/util/ArrayList" "size" "I" (.int 2) := F_x_size
  obtain ⟨kd, V_d⟩ : ∃ kd, Arv Z h0 d kd (.object "java/lang/Object") 10 [(.ref y1), (.ref y2), .null, .null, .null, .null, .null, .null, .null, .null] .null := hV.elim (fun q => nomatch q) id
  have I_y1 := hI y1 (by simp)
  have I_y2 := hI y2 (by simp)
  refine Own.g_aloadN X0 hx (hb hby d8_0) rfl rfl 1 rfl ?_
  refine Own.g_instNo X0 hx hZ hown (hw _ (List.mem_of_getElem? (i := 52) rfl)) e0 E_x (Own.nsNo (hw _ (List.mem_of_getElem? (i := 53) rfl)) (hw _ (List.mem_of_getElem? (i := 189) rfl)) (NS.step (hw _ (List.mem_of_getElem? (i := 53) rfl)) (NS.step (hw _ (List.mem_of_getElem? (i := 54) rfl)) (NS.step (hw _ (List.mem_of_getElem? (i := 55) rfl)) (Own.nsRoot (hw _ (List.mem_of_getElem? (i := 56) rfl)) (hw _ (List.mem_of_getElem? (i := 189) rfl)) (by decide)) (by decide)) (by decide)) (by decide)) (by decide)) (hb hby d8_1) 4 rfl ?_
  intro T1 X1 e1
  refine Own.g_if_ne_f X1 hx (hb hby d8_4) rfl 7 rfl ?_
  refine Own.g_aloadN X1 hx (hb hby d8_7) rfl rfl 8 rfl ?_
  refine Own.g_instNo X1 hx hZ hown (hw _ (List.mem_of_getElem? (i := 57) rfl)) e1 E_x (Own.nsNo (hw _ (List.mem_of_getElem? (i := 53) rfl)) (hw _ (List.mem_of_getElem? (i := 162) rfl)) (NS.step (hw _ (List.mem_of_getElem? (i := 53) rfl)) (NS.step (hw _ (List.mem_of_getElem? (i := 54) rfl)) (NS.step (hw _ (List.mem_of_getElem? (i := 55) rfl)) (Own.nsRoot (hw _ (List.mem_of_getElem? (i := 56) rfl)) (hw _ (List.mem_of_getElem? (i := 162) rfl)) (by decide)) (by decide)) (by decide)) (by decide)) (by decide)) (hb hby d8_8) 11 rfl ?_
  intro T2 X2 e2
  refine Own.g_if_eq_t X2 hx (hb hby d8_11) rfl 31 (by decide) ?_
  refine Own.g_aloadN X2 hx (hb hby d8_31) rfl rfl 32 rfl ?_
  refine Own.g_iface X2 hx hZ (y := (⟨"java/util/Collection", "isEmpty", "()Z"⟩ : MethodName)) (z := (⟨"java/util/ArrayList", "isEmpty", "()Z"⟩ : MethodName)) hown (mvT hZ (hw _ (List.mem_of_getElem? (i := 58) rfl))) (mvT hZ (hw _ (List.mem_of_getElem? (i := 59) rfl))) (mvT hZ (hw _ (List.mem_of_getElem? (i := 60) rfl))) (mvT hZ (hw _ (List.mem_of_getElem? (i := 61) rfl))) (mvT hZ (hw _ (List.mem_of_getElem? (i := 62) rfl))) (mvT hZ (hw _ (List.mem_of_getElem? (i := 63) rfl))) (mvT hZ (hw _ (List.mem_of_getElem? (i := 64) rfl))) (mvT hZ (hw _ (List.mem_of_getElem? (i := 65) rfl))) (by decide) (a := x) [] (Own.back (W := 0) (rm_isE1 l Z a0 hw [] x (2 : Int32) h0 n0 O F_x_size (by decide)) hZ (hw _ (List.mem_of_getElem? (i := 66) rfl)) (hw _ (List.mem_of_getElem? (i := 18) rfl)) (by decide) (by decide)) E_x e2 (by rw [hml]; rfl) [] (lenOf pd_12 rfl) rfl (Nat.le_of_ble_eq_true rfl) (hb hby d8_32) (by decide) (by decide) 37 rfl ?_
  rintro _ T3 L3 X3 ⟨rfl, N3q, eH3⟩
  have N3 := Fr.app N0 N3q
  show Own.Go p e below _ (T3.setTop (mkF m 37 #[.val (.ref x), .unset] [(.int (0 : Int32))]))
  refine Own.g_if_eq_t X3 hx (hb hby d8_37) rfl 44 (by decide) ?_
  refine Own.g_aloadN X3 hx (hb hby d8_44) rfl rfl 45 rfl ?_
  refine Own.g_iface X3 hx hZ (y := (⟨"java/util/Collection", "toArray", "()[Ljava/lang/Object;"⟩ : MethodName)) (z := (⟨"java/util/ArrayList", "toArray", "()[Ljava/lang/Object;"⟩ : MethodName)) hown (mvT hZ (hw _ (List.mem_of_getElem? (i := 121) rfl))) (mvT hZ (hw _ (List.mem_of_getElem? (i := 122) rfl))) (mvT hZ (hw _ (List.mem_of_getElem? (i := 123) rfl))) (mvT hZ (hw _ (List.mem_of_getElem? (i := 124) rfl))) (mvT hZ (hw _ (List.mem_of_getElem? (i := 125) rfl))) (mvT hZ (hw _ (List.mem_of_getElem? (i := 126) rfl))) (mvT hZ (hw _ (List.mem_of_getElem? (i := 127) rfl))) (mvT hZ (hw _ (List.mem_of_getElem? (i := 65) rfl))) (by decide) (a := x) [] (Own.back (W := 0) (rm_toA2 l Z a0 hw [] x d kd y1 y2 mr h0 n0 O V_d E_d I_y1 I_y2 M F_x_elementData F_x_size) hZ (hw _ (List.mem_of_getElem? (i := 128) rfl)) (hw _ (List.mem_of_getElem? (i := 18) rfl)) (by decide) (by decide)) E_x eH3 (by rw [hml]; rfl) [] (lenOf pd_3 rfl) rfl (Nat.le_of_ble_eq_true rfl) (hb hby d8_45) (by decide) (by decide) 50 rfl ?_
  rintro _ T4 L4 X4 ⟨b, k_b, rfl, N4q, K4, sz4, V_b⟩
  have N4 := Fr.app N3 N4q
  replace I_y1 := Own.Ins.kp I_y1 K4
  replace I_y2 := Own.Ins.kp I_y2 K4
  replace O := O.keep K4 all0
  replace KP := KP.trans K4 all0
  show Own.Go p e below _ (T4.setTop (mkF m 50 #[.val (.ref x), .unset] [(.ref b)]))
  refine Own.g_callS X4 hx (y := (⟨"java/util/List", "of", "([Ljava/lang/Object;)Ljava/util/List;"⟩ : MethodName)) hown (mvT hZ (hw _ (List.mem_of_getElem? (i := 151) rfl))) (mvT hZ (hw _ (List.mem_of_getElem? (i := 152) rfl))) (mvT hZ (hw _ (List.mem_of_getElem? (i := 46) rfl))) (mvT hZ (hw _ (List.mem_of_getElem? (i := 153) rfl))) (by decide) [.ref b] (Own.back (W := 0) (rm_of2 l Z a0 hw [] b k_b y1 y2 em T4.heap n0 O V_b I_y1 I_y2 SEM) hZ (hw _ (List.mem_of_getElem? (i := 153) rfl)) (hw _ (List.mem_of_getElem? (i := 46) rfl)) (by decide) (by decide)) (rfl : T4.heap = T4.heap) (by rw [hml]; rfl) [] (lenOf pd_11 rfl) rfl (Nat.le_of_ble_eq_true rfl) (hb hby d8_50) (by decide) (by decide) 53 rfl ?_
  rintro _ T5 L5 X5 ⟨r, e2, rfl, N5q, K5, GI⟩
  have N5 := Fr.app N4 N5q
  replace O := O.keep K5 all0
  replace KP := KP.trans K5 all0
  show Own.Go p e below _ (T5.setTop (mkF m 53 #[.val (.ref x), .unset] [(.ref r)]))
  refine Own.g_ret X5 hx hret hlocks rfl (Or.inr (Or.inr (Or.inr (Or.inr ⟨rfl, rfl, rfl⟩)))) (hb hby d8_53) (by decide) (by decide) (rfl : T5.heap = T5.heap) ?_
  exact ⟨r, e2, rfl, N5, KP, GI⟩
theorem ef_lcA3 (m : MethodId) (x0 : Addr) : entryFrame m #[.ref x0] 2 = mkF m 0 #[.val (.ref x0), .unset] [] := by first | (simp [entryFrame, mkF, argsToLocals, Value.category]; done) | rfl
def Q_lcA3 (Z : State) (x : Addr) (d : Addr) (y1 : Addr) (y2 : Addr) (y3 : Addr) (da : Addr) (kda : ClassId) (mr : Addr) (el : Addr) (ea : Addr) (em : Addr) (h0 : Heap) (n0 : Nat) (v : Option Value) (h : Heap) (L : List Loc) : Prop := ∃ (r : Addr) (e : Addr), v = some (.ref r) ∧ Fr n0 L ∧ Keep h0 h [] ∧ Own.Im Z h r e false
set_option maxRecDepth 65536 in
set_option maxHeartbeats 40000000 in
theorem rm_lcA3 (l : Launch) (Z : State) (a0 : Array Value) (hw : ∀ d ∈ tables_1, d.before a0 Z = true) (ws : List Jvm.Cond) (x : Addr) (d : Addr) (y1 : Addr) (y2 : Addr) (y3 : Addr) (da : Addr) (kda : ClassId) (mr : Addr) (el : Addr) (ea : Addr) (em : Addr) (h0 : Heap) (n0 : Nat) (O : Old Z n0 h0) (A_x : Own.AL Z h0 x d [y1, y2, y3]) (SD : Sta Z Z.heap "java/util/ArrayList" "DEFAULTCAPACITY_EMPTY_ELEMENTDATA" "[Ljava/lang/Object;" (.ref da)) (AD : Arv Z Z.heap da kda (.object "java/lang/Object") 0 [] .null) (M : Mir Z "[Ljava/lang/Object;" mr) (SEL : Sta Z Z.heap "java/util/ImmutableCollections" "EMPTY_LIST" "Ljava/util/ImmutableCollections$ListN;" (.ref el)) (IMel : Own.Im Z Z.heap el ea true) (SEM : Sta Z Z.heap "java/util/ImmutableCollections" "EMPTY" "Ljava/lang/Object;" (.ref em)) :
    MetFree l (⟨"java/util/ImmutableCollections", "listCopy", "(Ljava/util/Collection;)Ljava/util/List;"⟩ : MethodName) (head1 (Jvm.Cond.code (⟨"java/util/ImmutableCollections", "listCopy", "(Ljava/util/Collection;)Ljava/util/List;"⟩ : MethodName) jdk_56_method_3_code 2 (some (.object "java/util/List")) :: ws) ({ frames := 7, cells := 3, slots := 8, locals := 140 } : Room)) (fun aa U => aa = #[.ref x] ∧ Z.Warmed39 U.vm ∧ U.heap = h0) (fun _ _ _ _ _ => True) (fun _ U o U' => Own.End U (Q_lcA3 Z x d y1 y2 y3 da kda mr el ea em h0 n0) 3 8 o U') := by
  refine MetFree.of_bodySF (plainFor_of_name pn_8) hisR ?_
  intro p e s m args below meth c s₁ Bd hml0 hP hK
  obtain ⟨rfl, hZ, hh⟩ := hP
  have hx := Bd.exec
  have hby := Bd.bytes
  have hml : c.maxLocals = 2 := hml0
  have hown : s.vm.findClass "java/util/ImmutableCollections" = some m.cls := findClass_of_methodNamed Bd.named
  have hnm := (name_of_methodNamed Bd.named Bd.method).1
  have hret := Bd.returns
  have hlocks : meth.locks = false := Bd.notSynchronized
  have X0 : Stand p l e ({ frames := 7, cells := 3, slots := 8, locals := 140 } : Room) s m #[.ref x] below meth c s₁ [] 0 0 := Stand.of_body Bd
  have e0 : s₁.heap = h0 := by rw [← hh, Bd.state]; rfl
  have N0 := Fr.nil n0
  show Own.Go p e below (Own.End s (Q_lcA3 Z x d y1 y2 y3 da kda mr el ea em h0 n0) 3 8) (s₁.setTop (entryFrame m #[.ref x] 2))
  refine Own.Go.eq (ef_lcA3 m x) ?_
  have KP : Keep h0 h0 [] := Keep.refl _ _
  obtain ⟨E_x, F_x_size, F_x_elementData, E_d, hI, hV⟩ := A_x
  replace F_x_size : Fld Z h0 x "java/util/ArrayList" "size" "I" (.int 3) := F_x_size
  obtain ⟨kd, V_d⟩ : ∃ kd, Arv Z h0 d kd (.object "java/lang/Object") 10 [(.ref y1), (.ref y2), (.ref y3), .null, .null, .null, .null, .null, .null, .null] .null := hV.elim (fun q => nomatch q) id
  have I_y1 := hI y1 (by simp)
  have I_y2 := hI y2 (by simp)
  have I_y3 := hI y3 (by simp)
  refine Own.g_aloadN X0 hx (hb hby d8_0) rfl rfl 1 rfl ?_
  refine Own.g_instNo X0 hx hZ hown (hw _ (List.mem_of_getElem? (i := 52) rfl)) e0 E_x (Own.nsNo (hw _ (List.mem_of_getElem? (i := 53) rfl)) (hw _ (List.mem_of_getElem? (i := 189) rfl)) (NS.step (hw _ (List.mem_of_getElem? (i := 53) rfl)) (NS.step (hw _ (List.mem_of_getElem? (i := 54) rfl)) (NS.step (hw _ (List.mem_of_getElem? (i := 55) rfl)) (Own.nsRoot (hw _ (List.mem_of_getElem? (i := 56) rfl)) (hw _ (List.mem_of_getElem? (i := 189) rfl)) (by decide)) (by decide)) (by decide)) (by decide)) (by decide)) (hb hby d8_1) 4 rfl ?_
  intro T1 X1 e1
  refine Own.g_if_ne_f X1 hx (hb hby d8_4) rfl 7 rfl ?_
  refine Own.g_aloadN X1 hx (hb hby d8_7) rfl rfl 8 rfl ?_
  refine Own.g_instNo X1 hx hZ hown (hw _ (List.mem_of_getElem? (i := 57) rfl)) e1 E_x (Own.nsNo (hw _ (List.mem_of_getElem? (i := 53) rfl)) (hw _ (List.mem_of_getElem? (i := 162) rfl)) (NS.step (hw _ (List.mem_of_getElem? (i := 53) rfl)) (NS.step (hw _ (List.mem_of_getElem? (i := 54) rfl)) (NS.step (hw _ (List.mem_of_getElem? (i := 55) rfl)) (Own.nsRoot (hw _ (List.mem_of_getElem? (i := 56) rfl)) (hw _ (List.mem_of_getElem? (i := 162) rfl)) (by decide)) (by decide)) (by decide)) (by decide)) (by decide)) (hb hby d8_8) 11 rfl ?_
  intro T2 X2 e2
  refine Own.g_if_eq_t X2 hx (hb hby d8_11) rfl 31 (by decide) ?_
  refine Own.g_aloadN X2 hx (hb hby d8_31) rfl rfl 32 rfl ?_
  refine Own.g_iface X2 hx hZ (y := (⟨"java/util/Collection", "isEmpty", "()Z"⟩ : MethodName)) (z := (⟨"java/util/ArrayList", "isEmpty", "()Z"⟩ : MethodName)) hown (mvT hZ (hw _ (List.mem_of_getElem? (i := 58) rfl))) (mvT hZ (hw _ (List.mem_of_getElem? (i := 59) rfl))) (mvT hZ (hw _ (List.mem_of_getElem? (i := 60) rfl))) (mvT hZ (hw _ (List.mem_of_getElem? (i := 61) rfl))) (mvT hZ (hw _ (List.mem_of_getElem? (i := 62) rfl))) (mvT hZ (hw _ (List.mem_of_getElem? (i := 63) rfl))) (mvT hZ (hw _ (List.mem_of_getElem? (i := 64) rfl))) (mvT hZ (hw _ (List.mem_of_getElem? (i := 65) rfl))) (by decide) (a := x) [] (Own.back (W := 0) (rm_isE1 l Z a0 hw [] x (3 : Int32) h0 n0 O F_x_size (by decide)) hZ (hw _ (List.mem_of_getElem? (i := 66) rfl)) (hw _ (List.mem_of_getElem? (i := 18) rfl)) (by decide) (by decide)) E_x e2 (by rw [hml]; rfl) [] (lenOf pd_12 rfl) rfl (Nat.le_of_ble_eq_true rfl) (hb hby d8_32) (by decide) (by decide) 37 rfl ?_
  rintro _ T3 L3 X3 ⟨rfl, N3q, eH3⟩
  have N3 := Fr.app N0 N3q
  show Own.Go p e below _ (T3.setTop (mkF m 37 #[.val (.ref x), .unset] [(.int (0 : Int32))]))
  refine Own.g_if_eq_t X3 hx (hb hby d8_37) rfl 44 (by decide) ?_
  refine Own.g_aloadN X3 hx (hb hby d8_44) rfl rfl 45 rfl ?_
  refine Own.g_iface X3 hx hZ (y := (⟨"java/util/Collection", "toArray", "()[Ljava/lang/Object;"⟩ : MethodName)) (z := (⟨"java/util/ArrayList", "toArray", "()[Ljava/lang/Object;"⟩ : MethodName)) hown (mvT hZ (hw _ (List.mem_of_getElem? (i := 121) rfl))) (mvT hZ (hw _ (List.mem_of_getElem? (i := 122) rfl))) (mvT hZ (hw _ (List.mem_of_getElem? (i := 123) rfl))) (mvT hZ (hw _ (List.mem_of_getElem? (i := 124) rfl))) (mvT hZ (hw _ (List.mem_of_getElem? (i := 125) rfl))) (mvT hZ (hw _ (List.mem_of_getElem? (i := 126) rfl))) (mvT hZ (hw _ (List.mem_of_getElem? (i := 127) rfl))) (mvT hZ (hw _ (List.mem_of_getElem? (i := 65) rfl))) (by decide) (a := x) [] (Own.back (W := 0) (rm_toA3 l Z a0 hw [] x d kd y1 y2 y3 mr h0 n0 O V_d E_d I_y1 I_y2 I_y3 M F_x_elementData F_x_size) hZ (hw _ (List.mem_of_getElem? (i := 128) rfl)) (hw _ (List.mem_of_getElem? (i := 18) rfl)) (by decide) (by decide)) E_x eH3 (by rw [hml]; rfl) [] (lenOf pd_3 rfl) rfl (Nat.le_of_ble_eq_true rfl) (hb hby d8_45) (by decide) (by decide) 50 rfl ?_
  rintro _ T4 L4 X4 ⟨b, k_b, rfl, N4q, K4, sz4, V_b⟩
  have N4 := Fr.app N3 N4q
  replace I_y1 := Own.Ins.kp I_y1 K4
  replace I_y2 := Own.Ins.kp I_y2 K4
  replace I_y3 := Own.Ins.kp I_y3 K4
  replace O := O.keep K4 all0
  replace KP := KP.trans K4 all0
  show Own.Go p e below _ (T4.setTop (mkF m 50 #[.val (.ref x), .unset] [(.ref b)]))
  refine Own.g_callS X4 hx (y := (⟨"java/util/List", "of", "([Ljava/lang/Object;)Ljava/util/List;"⟩ : MethodName)) hown (mvT hZ (hw _ (List.mem_of_getElem? (i := 151) rfl))) (mvT hZ (hw _ (List.mem_of_getElem? (i := 152) rfl))) (mvT hZ (hw _ (List.mem_of_getElem? (i := 46) rfl))) (mvT hZ (hw _ (List.mem_of_getElem? (i := 153) rfl))) (by decide) [.ref b] (Own.back (W := 0) (rm_of3 l Z a0 hw [] b k_b y1 y2 y3 em T4.heap n0 O V_b I_y1 I_y2 I_y3 SEM) hZ (hw _ (List.mem_of_getElem? (i := 153) rfl)) (hw _ (List.mem_of_getElem? (i := 46) rfl)) (by decide) (by decide)) (rfl : T4.heap = T4.heap) (by rw [hml]; rfl) [] (lenOf pd_11 rfl) rfl (Nat.le_of_ble_eq_true rfl) (hb hby d8_50) (by decide) (by decide) 53 rfl ?_
  rintro _ T5 L5 X5 ⟨r, e2, rfl, N5q, K5, GI⟩
  have N5 := Fr.app N4 N5q
  replace O := O.keep K5 all0
  replace KP := KP.trans K5 all0
  show Own.Go p e below _ (T5.setTop (mkF m 53 #[.val (.ref x), .unset] [(.ref r)]))
  refine Own.g_ret X5 hx hret hlocks rfl (Or.inr (Or.inr (Or.inr (Or.inr ⟨rfl, rfl, rfl⟩)))) (hb hby d8_53) (by decide) (by decide) (rfl : T5.heap = T5.heap) ?_
  exact ⟨r, e2, rfl, N5, KP, GI⟩
theorem ef_cpA (m : MethodId) (x0 : Addr) : entryFrame m #[.ref x0] 1 = mkF m 0 #[.val (.ref x0)] [] := by first | (simp [entryFrame, mkF, argsToLocals, Value.category]; done) | rfl
def Q_cpA (Z : State) (x : Addr) (d : Addr) (ys : List Addr) (da : Addr) (kda : ClassId) (mr : Addr) (el : Addr) (ea : Addr) (em : Addr) (h0 : Heap) (n0 : Nat) (v : Option Value) (h : Heap) (L : List Loc) : Prop := ∃ (r : Addr) (e : Addr), v = some (.ref r) ∧ Fr n0 L ∧ Keep h0 h [] ∧ Own.Im Z h r e ys.isEmpty
set_option maxRecDepth 65536 in
set_option maxHeartbeats 40000000 in
theorem rm_cpA (l : Launch) (Z : State) (a0 : Array Value) (hw : ∀ d ∈ tables_1, d.before a0 Z = true) (ws : List Jvm.Cond) (x : Addr) (d : Addr) (ys : List Addr) (da : Addr) (kda : ClassId) (mr : Addr) (el : Addr) (ea : Addr) (em : Addr) (h0 : Heap) (n0 : Nat) (O : Old Z n0 h0) (A_x : Own.AL Z h0 x d ys) (hys : ys = [] ∨ (∃ y1 : Addr, ys = [y1]) ∨ (∃ y1 y2 : Addr, ys = [y1, y2]) ∨ (∃ y1 y2 y3 : Addr, ys = [y1, y2, y3])) (SD : Sta Z Z.heap "java/util/ArrayList" "DEFAULTCAPACITY_EMPTY_ELEMENTDATA" "[Ljava/lang/Object;" (.ref da)) (AD : Arv Z Z.heap da kda (.object "java/lang/Object") 0 [] .null) (M : Mir Z "[Ljava/lang/Object;" mr) (SEL : Sta Z Z.heap "java/util/ImmutableCollections" "EMPTY_LIST" "Ljava/util/ImmutableCollections$ListN;" (.ref el)) (IMel : Own.Im Z Z.heap el ea true) (SEM : Sta Z Z.heap "java/util/ImmutableCollections" "EMPTY" "Ljava/lang/Object;" (.ref em)) :
    MetFree l (⟨"java/util/List", "copyOf", "(Ljava/util/Collection;)Ljava/util/List;"⟩ : MethodName) (head1 (Jvm.Cond.code (⟨"java/util/List", "copyOf", "(Ljava/util/Collection;)Ljava/util/List;"⟩ : MethodName) jdk_40_method_48_code 1 (some (.object "java/util/List")) :: ws) ({ frames := 8, cells := 3, slots := 8, locals := 160 } : Room)) (fun aa U => aa = #[.ref x] ∧ Z.Warmed39 U.vm ∧ U.heap = h0) (fun _ _ _ _ _ => True) (fun _ U o U' => Own.End U (Q_cpA Z x d ys da kda mr el ea em h0 n0) 3 8 o U') := by
  refine MetFree.of_bodySF (plainFor_of_name pn_9) hisR ?_
  intro p e s m args below meth c s₁ Bd hml0 hP hK
  obtain ⟨rfl, hZ, hh⟩ := hP
  have hx := Bd.exec
  have hby := Bd.bytes
  have hml : c.maxLocals = 1 := hml0
  have hown : s.vm.findClass "java/util/List" = some m.cls := findClass_of_methodNamed Bd.named
  have hnm := (name_of_methodNamed Bd.named Bd.method).1
  have hret := Bd.returns
  have hlocks : meth.locks = false := Bd.notSynchronized
  have X0 : Stand p l e ({ frames := 8, cells := 3, slots := 8, locals := 160 } : Room) s m #[.ref x] below meth c s₁ [] 0 0 := Stand.of_body Bd
  have e0 : s₁.heap = h0 := by rw [← hh, Bd.state]; rfl
  have N0 := Fr.nil n0
  show Own.Go p e below (Own.End s (Q_cpA Z x d ys da kda mr el ea em h0 n0) 3 8) (s₁.setTop (entryFrame m #[.ref x] 1))
  refine Own.Go.eq (ef_cpA m x) ?_
  rcases hys with rfl | ⟨y1, rfl⟩ | ⟨y1, y2, rfl⟩ | ⟨y1, y2, y3, rfl⟩
  · have KP : Keep h0 h0 [] := Keep.refl _ _
    refine Own.g_aloadN X0 hx (hb hby d7_0) rfl rfl 1 rfl ?_
    refine Own.g_callS X0 hx (y := (⟨"java/util/ImmutableCollections", "listCopy", "(Ljava/util/Collection;)Ljava/util/List;"⟩ : MethodName)) hown (mvT hZ (hw _ (List.mem_of_getElem? (i := 48) rfl))) (mvT hZ (hw _ (List.mem_of_getElem? (i := 49) rfl))) (mvT hZ (hw _ (List.mem_of_getElem? (i := 50) rfl))) (mvT hZ (hw _ (List.mem_of_getElem? (i := 51) rfl))) (by decide) [.ref x] (Own.back (W := 0) (rm_lcA0 l Z a0 hw [] x d  da kda mr el ea em h0 n0 O A_x SD AD M SEL IMel SEM) hZ (hw _ (List.mem_of_getElem? (i := 51) rfl)) (hw _ (List.mem_of_getElem? (i := 50) rfl)) (by decide) (by decide)) e0 (by rw [hml]; rfl) [] (lenOf pd_14 rfl) rfl (Nat.le_of_ble_eq_true rfl) (hb hby d7_1) (by decide) (by decide) 4 rfl ?_
    rintro _ T1 L1 X1 ⟨r, e2, rfl, N1q, K1, GI⟩
    have N1 := Fr.app N0 N1q
    replace O := O.keep K1 all0
    replace KP := KP.trans K1 all0
    show Own.Go p e below _ (T1.setTop (mkF m 4 #[.val (.ref x)] [(.ref r)]))
    refine Own.g_ret X1 hx hret hlocks rfl (Or.inr (Or.inr (Or.inr (Or.inr ⟨rfl, rfl, rfl⟩)))) (hb hby d7_4) (by decide) (by decide) (rfl : T1.heap = T1.heap) ?_
    exact ⟨r, e2, rfl, N1, KP, GI⟩
  · have KP : Keep h0 h0 [] := Keep.refl _ _
    refine Own.g_aloadN X0 hx (hb hby d7_0) rfl rfl 1 rfl ?_
    refine Own.g_callS X0 hx (y := (⟨"java/util/ImmutableCollections", "listCopy", "(Ljava/util/Collection;)Ljava/util/List;"⟩ : MethodName)) hown (mvT hZ (hw _ (List.mem_of_getElem? (i := 48) rfl))) (mvT hZ (hw _ (List.mem_of_getElem? (i := 49) rfl))) (mvT hZ (hw _ (List.mem_of_getElem? (i := 50) rfl))) (mvT hZ (hw _ (List.mem_of_getElem? (i := 51) rfl))) (by decide) [.ref x] (Own.back (W := 0) (rm_lcA1 l Z a0 hw [] x d y1 da kda mr el ea em h0 n0 O A_x SD AD M SEL IMel SEM) hZ (hw _ (List.mem_of_getElem? (i := 51) rfl)) (hw _ (List.mem_of_getElem? (i := 50) rfl)) (by decide) (by decide)) e0 (by rw [hml]; rfl) [] (lenOf pd_14 rfl) rfl (Nat.le_of_ble_eq_true rfl) (hb hby d7_1) (by decide) (by decide) 4 rfl ?_
    rintro _ T2 L2 X2 ⟨r, e2, rfl, N2q, K2, GI⟩
    have N2 := Fr.app N0 N2q
    replace O := O.keep K2 all0
    replace KP := KP.trans K2 all0
    show Own.Go p e below _ (T2.setTop (mkF m 4 #[.val (.ref x)] [(.ref r)]))
    refine Own.g_ret X2 hx hret hlocks rfl (Or.inr (Or.inr (Or.inr (Or.inr ⟨rfl, rfl, rfl⟩)))) (hb hby d7_4) (by decide) (by decide) (rfl : T2.heap = T2.heap) ?_
    exact ⟨r, e2, rfl, N2, KP, GI⟩
  · have KP : Keep h0 h0 [] := Keep.refl _ _
    refine Own.g_aloadN X0 hx (hb hby d7_0) rfl rfl 1 rfl ?_
    refine Own.g_callS X0 hx (y := (⟨"java/util/ImmutableCollections", "listCopy", "(Ljava/util/Collection;)Ljava/util/List;"⟩ : MethodName)) hown (mvT hZ (hw _ (List.mem_of_getElem? (i := 48) rfl))) (mvT hZ (hw _ (List.mem_of_getElem? (i := 49) rfl))) (mvT hZ (hw _ (List.mem_of_getElem? (i := 50) rfl))) (mvT hZ (hw _ (List.mem_of_getElem? (i := 51) rfl))) (by decide) [.ref x] (Own.back (W := 0) (rm_lcA2 l Z a0 hw [] x d y1 y2 da kda mr el ea em h0 n0 O A_x SD AD M SEL IMel SEM) hZ (hw _ (List.mem_of_getElem? (i := 51) rfl)) (hw _ (List.mem_of_getElem? (i := 50) rfl)) (by decide) (by decide)) e0 (by rw [hml]; rfl) [] (lenOf pd_14 rfl) rfl (Nat.le_of_ble_eq_true rfl) (hb hby d7_1) (by decide) (by decide) 4 rfl ?_
    rintro _ T3 L3 X3 ⟨r, e2, rfl, N3q, K3, GI⟩
    have N3 := Fr.app N0 N3q
    replace O := O.keep K3 all0
    replace KP := KP.trans K3 all0
    show Own.Go p e below _ (T3.setTop (mkF m 4 #[.val (.ref x)] [(.ref r)]))
    refine Own.g_ret X3 hx hret hlocks rfl (Or.inr (Or.inr (Or.inr (Or.inr ⟨rfl, rfl, rfl⟩)))) (hb hby d7_4) (by decide) (by decide) (rfl : T3.heap = T3.heap) ?_
    exact ⟨r, e2, rfl, N3, KP, GI⟩
  · have KP : Keep h0 h0 [] := Keep.refl _ _
    refine Own.g_aloadN X0 hx (hb hby d7_0) rfl rfl 1 rfl ?_
    refine Own.g_callS X0 hx (y := (⟨"java/util/ImmutableCollections", "listCopy", "(Ljava/util/Collection;)Ljava/util/List;"⟩ : MethodName)) hown (mvT hZ (hw _ (List.mem_of_getElem? (i := 48) rfl))) (mvT hZ (hw _ (List.mem_of_getElem? (i := 49) rfl))) (mvT hZ (hw _ (List.mem_of_getElem? (i := 50) rfl))) (mvT hZ (hw _ (List.mem_of_getElem? (i := 51) rfl))) (by decide) [.ref x] (Own.back (W := 0) (rm_lcA3 l Z a0 hw [] x d y1 y2 y3 da kda mr el ea em h0 n0 O A_x SD AD M SEL IMel SEM) hZ (hw _ (List.mem_of_getElem? (i := 51) rfl)) (hw _ (List.mem_of_getElem? (i := 50) rfl)) (by decide) (by decide)) e0 (by rw [hml]; rfl) [] (lenOf pd_14 rfl) rfl (Nat.le_of_ble_eq_true rfl) (hb hby d7_1) (by decide) (by decide) 4 rfl ?_
    rintro _ T4 L4 X4 ⟨r, e2, rfl, N4q, K4, GI⟩
    have N4 := Fr.app N0 N4q
    replace O := O.keep K4 all0
    replace KP := KP.trans K4 all0
    show Own.Go p e below _ (T4.setTop (mkF m 4 #[.val (.ref x)] [(.ref r)]))
    refine Own.g_ret X4 hx hret hlocks rfl (Or.inr (Or.inr (Or.inr (Or.inr ⟨rfl, rfl, rfl⟩)))) (hb hby d7_4) (by decide) (by decide) (rfl : T4.heap = T4.heap) ?_
    exact ⟨r, e2, rfl, N4, KP, GI⟩
theorem ef_lcI (m : MethodId) (x0 : Addr) : entryFrame m #[.ref x0] 2 = mkF m 0 #[.val (.ref x0), .unset] [] := by first | (simp [entryFrame, mkF, argsToLocals, Value.category]; done) | rfl
def Q_lcI (Z : State) (x : Addr) (ex : Addr) (bb : Bool) (h0 : Heap) (n0 : Nat) (v : Option Value) (h : Heap) (L : List Loc) : Prop := v = some (.ref x) ∧ Fr n0 L ∧ h = h0
set_option maxRecDepth 65536 in
set_option maxHeartbeats 40000000 in
theorem rm_lcI (l : Launch) (Z : State) (a0 : Array Value) (hw : ∀ d ∈ tables_1, d.before a0 Z = true) (ws : List Jvm.Cond) (x : Addr) (ex : Addr) (bb : Bool) (h0 : Heap) (n0 : Nat) (O : Old Z n0 h0) (I_x : Own.Im Z h0 x ex bb) :
    MetFree l (⟨"java/util/ImmutableCollections", "listCopy", "(Ljava/util/Collection;)Ljava/util/List;"⟩ : MethodName) (head1 (Jvm.Cond.code (⟨"java/util/ImmutableCollections", "listCopy", "(Ljava/util/Collection;)Ljava/util/List;"⟩ : MethodName) jdk_56_method_3_code 2 (some (.object "java/util/List")) :: ws) ({ frames := 0, cells := 0, slots := 0, locals := 0 } : Room)) (fun aa U => aa = #[.ref x] ∧ Z.Warmed39 U.vm ∧ U.heap = h0) (fun _ _ _ _ _ => True) (fun _ U o U' => Own.End U (Q_lcI Z x ex bb h0 n0) 0 0 o U') := by
  refine MetFree.of_bodySF (plainFor_of_name pn_8) hisR ?_
  intro p e s m args below meth c s₁ Bd hml0 hP hK
  obtain ⟨rfl, hZ, hh⟩ := hP
  have hx := Bd.exec
  have hby := Bd.bytes
  have hml : c.maxLocals = 2 := hml0
  have hown : s.vm.findClass "java/util/ImmutableCollections" = some m.cls := findClass_of_methodNamed Bd.named
  have hnm := (name_of_methodNamed Bd.named Bd.method).1
  have hret := Bd.returns
  have hlocks : meth.locks = false := Bd.notSynchronized
  have X0 : Stand p l e ({ frames := 0, cells := 0, slots := 0, locals := 0 } : Room) s m #[.ref x] below meth c s₁ [] 0 0 := Stand.of_body Bd
  have e0 : s₁.heap = h0 := by rw [← hh, Bd.state]; rfl
  have N0 := Fr.nil n0
  show Own.Go p e below (Own.End s (Q_lcI Z x ex bb h0 n0) 0 0) (s₁.setTop (entryFrame m #[.ref x] 2))
  refine Own.Go.eq (ef_lcI m x) ?_
  rcases I_x with ⟨hb0, rfl, E_x⟩ | ⟨E_x, F_x_allowNulls, F_x_elements, kx, zx, vx, V_x, hzx⟩
  · refine Own.g_aloadN X0 hx (hb hby d8_0) rfl rfl 1 rfl ?_
    refine Own.g_instY X0 hx hZ hown (hw _ (List.mem_of_getElem? (i := 52) rfl)) e0 (Ins.self E_x) (hb hby d8_1) 4 rfl ?_
    intro T1 X1 e1
    refine Own.g_if_ne_t X1 hx (hb hby d8_4) (by decide) 26 (by decide) ?_
    refine Own.g_aloadN X1 hx (hb hby d8_26) rfl rfl 27 rfl ?_
    refine Own.g_castY X1 hx hZ hown (hw _ (List.mem_of_getElem? (i := 237) rfl)) e1 (Ins.of_exa E_x (hw _ (List.mem_of_getElem? (i := 224) rfl))) (hb hby d8_27) 30 rfl ?_
    intro T2 X2 e2
    refine Own.g_ret X2 hx hret hlocks rfl (Or.inr (Or.inr (Or.inr (Or.inr ⟨rfl, rfl, rfl⟩)))) (hb hby d8_30) (by decide) (by decide) e2 ?_
    exact ⟨rfl, N0, rfl⟩
  · refine Own.g_aloadN X0 hx (hb hby d8_0) rfl rfl 1 rfl ?_
    refine Own.g_instNo X0 hx hZ hown (hw _ (List.mem_of_getElem? (i := 52) rfl)) e0 E_x (Own.nsNo (hw _ (List.mem_of_getElem? (i := 233) rfl)) (hw _ (List.mem_of_getElem? (i := 189) rfl)) (NS.step (hw _ (List.mem_of_getElem? (i := 233) rfl)) (NS.step (hw _ (List.mem_of_getElem? (i := 234) rfl)) (NS.step (hw _ (List.mem_of_getElem? (i := 235) rfl)) (NS.step (hw _ (List.mem_of_getElem? (i := 55) rfl)) (Own.nsRoot (hw _ (List.mem_of_getElem? (i := 56) rfl)) (hw _ (List.mem_of_getElem? (i := 189) rfl)) (by decide)) (by decide)) (by decide)) (by decide)) (by decide)) (by decide)) (hb hby d8_1) 4 rfl ?_
    intro T3 X3 e3
    refine Own.g_if_ne_f X3 hx (hb hby d8_4) rfl 7 rfl ?_
    refine Own.g_aloadN X3 hx (hb hby d8_7) rfl rfl 8 rfl ?_
    refine Own.g_instY X3 hx hZ hown (hw _ (List.mem_of_getElem? (i := 57) rfl)) e3 (Ins.self E_x) (hb hby d8_8) 11 rfl ?_
    intro T4 X4 e4
    refine Own.g_if_eq_f X4 hx (hb hby d8_11) (by decide) 14 rfl ?_
    refine Own.g_aloadN X4 hx (hb hby d8_14) rfl rfl 15 rfl ?_
    refine Own.g_castY X4 hx hZ hown (hw _ (List.mem_of_getElem? (i := 57) rfl)) e4 (Ins.self E_x) (hb hby d8_15) 18 rfl ?_
    intro T5 X5 e5
    refine Own.g_astoreN X5 hx #[.val (.ref x), .val (.ref x)] (hb hby d8_18) rfl rfl 19 rfl ?_
    refine Own.g_aloadN X5 hx (hb hby d8_19) rfl rfl 20 rfl ?_
    refine Own.g_getF X5 hx hZ hown (Or.inr (hw _ (List.mem_of_getElem? (i := 236) rfl))) Via.refl e5 F_x_allowNulls (hb hby d8_20) 23 rfl ?_
    intro T6 X6 e6
    refine Own.g_if_ne_f X6 hx (hb hby d8_23) rfl 26 rfl ?_
    refine Own.g_aloadN X6 hx (hb hby d8_26) rfl rfl 27 rfl ?_
    refine Own.g_castY X6 hx hZ hown (hw _ (List.mem_of_getElem? (i := 237) rfl)) e6 (Ins.of_exa E_x (hw _ (List.mem_of_getElem? (i := 218) rfl))) (hb hby d8_27) 30 rfl ?_
    intro T7 X7 e7
    refine Own.g_ret X7 hx hret hlocks rfl (Or.inr (Or.inr (Or.inr (Or.inr ⟨rfl, rfl, rfl⟩)))) (hb hby d8_30) (by decide) (by decide) e7 ?_
    exact ⟨rfl, N0, rfl⟩
theorem ef_cpI (m : MethodId) (x0 : Addr) : entryFrame m #[.ref x0] 1 = mkF m 0 #[.val (.ref x0)] [] := by first | (simp [entryFrame, mkF, argsToLocals, Value.category]; done) | rfl
def Q_cpI (Z : State) (x : Addr) (ex : Addr) (bb : Bool) (h0 : Heap) (n0 : Nat) (v : Option Value) (h : Heap) (L : List Loc) : Prop := v = some (.ref x) ∧ Fr n0 L ∧ h = h0
set_option maxRecDepth 65536 in
set_option maxHeartbeats 40000000 in
theorem rm_cpI (l : Launch) (Z : State) (a0 : Array Value) (hw : ∀ d ∈ tables_1, d.before a0 Z = true) (ws : List Jvm.Cond) (x : Addr) (ex : Addr) (bb : Bool) (h0 : Heap) (n0 : Nat) (O : Old Z n0 h0) (I_x : Own.Im Z h0 x ex bb) :
    MetFree l (⟨"java/util/List", "copyOf", "(Ljava/util/Collection;)Ljava/util/List;"⟩ : MethodName) (head1 (Jvm.Cond.code (⟨"java/util/List", "copyOf", "(Ljava/util/Collection;)Ljava/util/List;"⟩ : MethodName) jdk_40_method_48_code 1 (some (.object "java/util/List")) :: ws) ({ frames := 1, cells := 0, slots := 0, locals := 16 } : Room)) (fun aa U => aa = #[.ref x] ∧ Z.Warmed39 U.vm ∧ U.heap = h0) (fun _ _ _ _ _ => True) (fun _ U o U' => Own.End U (Q_cpI Z x ex bb h0 n0) 0 0 o U') := by
  refine MetFree.of_bodySF (plainFor_of_name pn_9) hisR ?_
  intro p e s m args below meth c s₁ Bd hml0 hP hK
  obtain ⟨rfl, hZ, hh⟩ := hP
  have hx := Bd.exec
  have hby := Bd.bytes
  have hml : c.maxLocals = 1 := hml0
  have hown : s.vm.findClass "java/util/List" = some m.cls := findClass_of_methodNamed Bd.named
  have hnm := (name_of_methodNamed Bd.named Bd.method).1
  have hret := Bd.returns
  have hlocks : meth.locks = false := Bd.notSynchronized
  have X0 : Stand p l e ({ frames := 1, cells := 0, slots := 0, locals := 16 } : Room) s m #[.ref x] below meth c s₁ [] 0 0 := Stand.of_body Bd
  have e0 : s₁.heap = h0 := by rw [← hh, Bd.state]; rfl
  have N0 := Fr.nil n0
  show Own.Go p e below (Own.End s (Q_cpI Z x ex bb h0 n0) 0 0) (s₁.setTop (entryFrame m #[.ref x] 1))
  refine Own.Go.eq (ef_cpI m x) ?_
  refine Own.g_aloadN X0 hx (hb hby d7_0) rfl rfl 1 rfl ?_
  refine Own.g_callS X0 hx (y := (⟨"java/util/ImmutableCollections", "listCopy", "(Ljava/util/Collection;)Ljava/util/List;"⟩ : MethodName)) hown (mvT hZ (hw _ (List.mem_of_getElem? (i := 48) rfl))) (mvT hZ (hw _ (List.mem_of_getElem? (i := 49) rfl))) (mvT hZ (hw _ (List.mem_of_getElem? (i := 50) rfl))) (mvT hZ (hw _ (List.mem_of_getElem? (i := 51) rfl))) (by decide) [.ref x] (Own.back (W := 0) (rm_lcI l Z a0 hw [] x ex bb h0 n0 O I_x) hZ (hw _ (List.mem_of_getElem? (i := 51) rfl)) (hw _ (List.mem_of_getElem? (i := 50) rfl)) (by decide) (by decide)) e0 (by rw [hml]; rfl) [] (lenOf pd_14 rfl) rfl (Nat.le_of_ble_eq_true rfl) (hb hby d7_1) (by decide) (by decide) 4 rfl ?_
  rintro _ T1 L1 X1 ⟨rfl, N1q, eH1⟩
  have N1 := Fr.app N0 N1q
  show Own.Go p e below _ (T1.setTop (mkF m 4 #[.val (.ref x)] [(.ref x)]))
  refine Own.g_ret X1 hx hret hlocks rfl (Or.inr (Or.inr (Or.inr (Or.inr ⟨rfl, rfl, rfl⟩)))) (hb hby d7_4) (by decide) (by decide) eH1 ?_
  exact ⟨rfl, N1, rfl⟩
theorem ef_dfi (m : MethodId) (x0 : Addr) : entryFrame m #[.ref x0, .null, .null] 3 = mkF m 0 #[.val (.ref x0), .val .null, .val .null] [] := by first | (simp [entryFrame, mkF, argsToLocals, Value.category]; done) | rfl
def Q_dfi (Z : State) (x : Addr) (h0 : Heap) (n0 : Nat) (v : Option Value) (h : Heap) (L : List Loc) : Prop := v = none ∧ Fr n0 L ∧ Keep h0 h [x] ∧ Exa Z h x "com/example/witnesseth/witnesseth/agreement/Differential"
set_option maxRecDepth 65536 in
set_option maxHeartbeats 40000000 in
theorem rm_dfi (l : Launch) (Z : State) (a0 : Array Value) (hw : ∀ d ∈ tables_1, d.before a0 Z = true) (ws : List Jvm.Cond) (x : Addr) (h0 : Heap) (n0 : Nat) (O : Old Z n0 h0) (n0_x : n0 ≤ x) (E_x : Exa Z h0 x "com/example/witnesseth/witnesseth/agreement/Differential") (F_x_clause : Fld Z h0 x "com/example/witnesseth/witnesseth/agreement/Differential" "clause" "Ljava/lang/String;" .null) (F_x_perHour : Fld Z h0 x "com/example/witnesseth/witnesseth/agreement/Differential" "perHour" "Ljava/math/BigDecimal;" .null) :
    MetFree l (⟨"com/example/witnesseth/witnesseth/agreement/Differential", "<init>", "(Ljava/lang/String;Ljava/math/BigDecimal;)V"⟩ : MethodName) (head1 (Jvm.Cond.code (⟨"com/example/witnesseth/witnesseth/agreement/Differential", "<init>", "(Ljava/lang/String;Ljava/math/BigDecimal;)V"⟩ : MethodName) prog_13_method_1_code 3 none :: ws) ({ frames := 1, cells := 0, slots := 0, locals := 12 } : Room)) (fun aa U => aa = #[.ref x, .null, .null] ∧ Z.Warmed39 U.vm ∧ U.heap = h0) (fun _ _ _ _ _ => True) (fun _ U o U' => Own.End U (Q_dfi Z x h0 n0) 0 0 o U') := by
  refine MetFree.of_bodySF (plainFor_of_name pn_11) hisR ?_
  intro p e s m args below meth c s₁ Bd hml0 hP hK
  obtain ⟨rfl, hZ, hh⟩ := hP
  have hx := Bd.exec
  have hby := Bd.bytes
  have hml : c.maxLocals = 3 := hml0
  have hown : s.vm.findClass "com/example/witnesseth/witnesseth/agreement/Differential" = some m.cls := findClass_of_methodNamed Bd.named
  have hnm := (name_of_methodNamed Bd.named Bd.method).1
  have hret := Bd.returns
  have hlocks : meth.locks = false := Bd.notSynchronized
  have X0 : Stand p l e ({ frames := 1, cells := 0, slots := 0, locals := 12 } : Room) s m #[.ref x, .null, .null] below meth c s₁ [] 0 0 := Stand.of_body Bd
  have e0 : s₁.heap = h0 := by rw [← hh, Bd.state]; rfl
  have N0 := Fr.nil n0
  show Own.Go p e below (Own.End s (Q_dfi Z x h0 n0) 0 0) (s₁.setTop (entryFrame m #[.ref x, .null, .null] 3))
  refine Own.Go.eq (ef_dfi m x) ?_
  have KP : Keep h0 h0 [x] := Keep.refl _ _
  refine Own.g_aloadN X0 hx (hb hby d1_0) rfl rfl 1 rfl ?_
  refine Own.g_initO X0 hx hZ hown (hw _ (List.mem_of_getElem? (i := 6) rfl)) (hw _ (List.mem_of_getElem? (i := 7) rfl)) (hw _ (List.mem_of_getElem? (i := 8) rfl)) e0 (by rw [hml]; rfl) (hb hby d1_1) (by decide) (W := 0) (Nat.le_of_ble_eq_true rfl) (by decide) 4 rfl ?_
  intro T1 X1 e1
  refine Own.g_aloadN X1 hx (hb hby d1_4) rfl rfl 5 rfl ?_
  refine Own.g_aloadN X1 hx (hb hby d1_5) rfl rfl 6 rfl ?_
  refine Own.g_putF X1 hx hZ hown (host := "") (Or.inl (hw _ (List.mem_of_getElem? (i := 9) rfl))) Via.refl e1 F_x_clause E_x (Or.inr ⟨(hw _ (List.mem_of_getElem? (i := 10) rfl)), rfl, hnm⟩) (hw _ (List.mem_of_getElem? (i := 1) rfl)) (ty := (.object "java/lang/String")) (by decide) rfl rfl (hb hby d1_6) 9 rfl ?_
  clear F_x_clause; intro T2 h2 X2 e2 W2 F_x_clause Ew2
  replace E_x := E_x.wr W2
  replace F_x_perHour := F_x_perHour.other W2 (Or.inr (slot_ne (Or.inr (hw _ (List.mem_of_getElem? (i := 12) rfl))) (Or.inr (hw _ (List.mem_of_getElem? (i := 10) rfl))) (by decide) (t := (.object "java/math/BigDecimal")) (t' := (.object "java/lang/String")) (by decide) (by decide)))
  replace O := O.wr W2 n0_x
  replace KP := KP.wr W2 (Or.inl (List.mem_of_getElem? (i := 0) rfl))
  have N2 := Fr.snoc X2 N0 n0_x
  refine Own.g_aloadN X2 hx (hb hby d1_9) rfl rfl 10 rfl ?_
  refine Own.g_aloadN X2 hx (hb hby d1_10) rfl rfl 11 rfl ?_
  refine Own.g_putF X2 hx hZ hown (host := "") (Or.inl (hw _ (List.mem_of_getElem? (i := 11) rfl))) Via.refl e2 F_x_perHour E_x (Or.inr ⟨(hw _ (List.mem_of_getElem? (i := 12) rfl)), rfl, hnm⟩) (hw _ (List.mem_of_getElem? (i := 1) rfl)) (ty := (.object "java/math/BigDecimal")) (by decide) rfl rfl (hb hby d1_11) 14 rfl ?_
  clear F_x_perHour; intro T3 h3 X3 e3 W3 F_x_perHour Ew3
  replace E_x := E_x.wr W3
  replace F_x_clause := F_x_clause.other W3 (Or.inr (slot_ne (Or.inr (hw _ (List.mem_of_getElem? (i := 10) rfl))) (Or.inr (hw _ (List.mem_of_getElem? (i := 12) rfl))) (by decide) (t := (.object "java/lang/String")) (t' := (.object "java/math/BigDecimal")) (by decide) (by decide)))
  replace O := O.wr W3 n0_x
  replace KP := KP.wr W3 (Or.inl (List.mem_of_getElem? (i := 0) rfl))
  have N3 := Fr.snoc X3 N2 n0_x
  refine Own.g_retV X3 hx hret hlocks (hb hby d1_14) (by decide) (by decide) e3 ?_
  exact ⟨rfl, N3, KP, E_x⟩
theorem ef_ssi (m : MethodId) (x0 : Addr) (x1 : Addr) : entryFrame m #[.ref x0, .ref x1, .null, .null, .null] 5 = mkF m 0 #[.val (.ref x0), .val (.ref x1), .val .null, .val .null, .val .null] [] := by first | (simp [entryFrame, mkF, argsToLocals, Value.category]; done) | rfl
def Q_ssi (Z : State) (x : Addr) (al : Addr) (ald : Addr) (da : Addr) (kda : ClassId) (mr : Addr) (el : Addr) (ea : Addr) (em : Addr) (h0 : Heap) (n0 : Nat) (v : Option Value) (h : Heap) (L : List Loc) : Prop := v = none ∧ Fr n0 L ∧ Keep h0 h [x] ∧ Exa Z h x "com/example/witnesseth/witnesseth/agreement/ShiftStart"
set_option maxRecDepth 65536 in
set_option maxHeartbeats 40000000 in
theorem rm_ssi (l : Launch) (Z : State) (a0 : Array Value) (hw : ∀ d ∈ tables_1, d.before a0 Z = true) (ws : List Jvm.Cond) (x : Addr) (al : Addr) (ald : Addr) (da : Addr) (kda : ClassId) (mr : Addr) (el : Addr) (ea : Addr) (em : Addr) (h0 : Heap) (n0 : Nat) (O : Old Z n0 h0) (n0_x : n0 ≤ x) (A_al : Own.AL Z h0 al ald []) (SD : Sta Z Z.heap "java/util/ArrayList" "DEFAULTCAPACITY_EMPTY_ELEMENTDATA" "[Ljava/lang/Object;" (.ref da)) (AD : Arv Z Z.heap da kda (.object "java/lang/Object") 0 [] .null) (M : Mir Z "[Ljava/lang/Object;" mr) (SEL : Sta Z Z.heap "java/util/ImmutableCollections" "EMPTY_LIST" "Ljava/util/ImmutableCollections$ListN;" (.ref el)) (IMel : Own.Im Z Z.heap el ea true) (SEM : Sta Z Z.heap "java/util/ImmutableCollections" "EMPTY" "Ljava/lang/Object;" (.ref em)) (E_x : Exa Z h0 x "com/example/witnesseth/witnesseth/agreement/ShiftStart") (F_x_starts : Fld Z h0 x "com/example/witnesseth/witnesseth/agreement/ShiftStart" "starts" "Ljava/util/List;" .null) (F_x_to : Fld Z h0 x "com/example/witnesseth/witnesseth/agreement/ShiftStart" "to" "Ljava/time/LocalTime;" .null) (F_x_paid : Fld Z h0 x "com/example/witnesseth/witnesseth/agreement/ShiftStart" "paid" "Lcom/example/witnesseth/witnesseth/agreement/Differential;" .null) (F_x_zone : Fld Z h0 x "com/example/witnesseth/witnesseth/agreement/ShiftStart" "zone" "Ljava/time/ZoneId;" .null) :
    MetFree l (⟨"com/example/witnesseth/witnesseth/agreement/ShiftStart", "<init>", "(Ljava/util/List;Ljava/time/LocalTime;Lcom/example/witnesseth/witnesseth/agreement/Differential;Ljava/time/ZoneId;)V"⟩ : MethodName) (head1 (Jvm.Cond.code (⟨"com/example/witnesseth/witnesseth/agreement/ShiftStart", "<init>", "(Ljava/util/List;Ljava/time/LocalTime;Lcom/example/witnesseth/witnesseth/agreement/Differential;Ljava/time/ZoneId;)V"⟩ : MethodName) prog_32_method_1_code 5 none :: ws) ({ frames := 9, cells := 3, slots := 8, locals := 180 } : Room)) (fun aa U => aa = #[.ref x, .ref al, .null, .null, .null] ∧ Z.Warmed39 U.vm ∧ U.heap = h0) (fun _ _ _ _ _ => True) (fun _ U o U' => Own.End U (Q_ssi Z x al ald da kda mr el ea em h0 n0) 3 8 o U') := by
  refine MetFree.of_bodySF (plainFor_of_name pn_12) hisR ?_
  intro p e s m args below meth c s₁ Bd hml0 hP hK
  obtain ⟨rfl, hZ, hh⟩ := hP
  have hx := Bd.exec
  have hby := Bd.bytes
  have hml : c.maxLocals = 5 := hml0
  have hown : s.vm.findClass "com/example/witnesseth/witnesseth/agreement/ShiftStart" = some m.cls := findClass_of_methodNamed Bd.named
  have hnm := (name_of_methodNamed Bd.named Bd.method).1
  have hret := Bd.returns
  have hlocks : meth.locks = false := Bd.notSynchronized
  have X0 : Stand p l e ({ frames := 9, cells := 3, slots := 8, locals := 180 } : Room) s m #[.ref x, .ref al, .null, .null, .null] below meth c s₁ [] 0 0 := Stand.of_body Bd
  have e0 : s₁.heap = h0 := by rw [← hh, Bd.state]; rfl
  have N0 := Fr.nil n0
  show Own.Go p e below (Own.End s (Q_ssi Z x al ald da kda mr el ea em h0 n0) 3 8) (s₁.setTop (entryFrame m #[.ref x, .ref al, .null, .null, .null] 5))
  refine Own.Go.eq (ef_ssi m x al) ?_
  have KP : Keep h0 h0 [x] := Keep.refl _ _
  refine Own.g_aloadN X0 hx (hb hby d6_0) rfl rfl 1 rfl ?_
  refine Own.g_initO X0 hx hZ hown (hw _ (List.mem_of_getElem? (i := 43) rfl)) (hw _ (List.mem_of_getElem? (i := 7) rfl)) (hw _ (List.mem_of_getElem? (i := 8) rfl)) e0 (by rw [hml]; rfl) (hb hby d6_1) (by decide) (W := 0) (Nat.le_of_ble_eq_true rfl) (by decide) 4 rfl ?_
  intro T1 X1 e1
  refine Own.g_aloadN X1 hx (hb hby d6_4) rfl rfl 5 rfl ?_
  refine Own.g_aloadN X1 hx (hb hby d6_5) rfl rfl 6 rfl ?_
  refine Own.g_callS X1 hx (y := (⟨"java/util/List", "copyOf", "(Ljava/util/Collection;)Ljava/util/List;"⟩ : MethodName)) hown (mvT hZ (hw _ (List.mem_of_getElem? (i := 44) rfl))) (mvT hZ (hw _ (List.mem_of_getElem? (i := 45) rfl))) (mvT hZ (hw _ (List.mem_of_getElem? (i := 46) rfl))) (mvT hZ (hw _ (List.mem_of_getElem? (i := 47) rfl))) (by decide) [.ref al] (Own.back (W := 1) (rm_cpA l Z a0 hw [] al ald [] da kda mr el ea em h0 n0 O A_al (Or.inl rfl) SD AD M SEL IMel SEM) hZ (hw _ (List.mem_of_getElem? (i := 47) rfl)) (hw _ (List.mem_of_getElem? (i := 46) rfl)) (by decide) (by decide)) e1 (by rw [hml]; rfl) [(.ref x)] (lenOf pd_14 rfl) rfl (Nat.le_of_ble_eq_true rfl) (hb hby d6_6) (by decide) (by decide) 9 rfl ?_
  rintro _ T2 L2 X2 ⟨r, rt, rfl, N2q, K2, I_r⟩
  have N2 := Fr.app N0 N2q
  replace E_x := E_x.keep K2
  replace F_x_starts := F_x_starts.keep K2 nin0
  replace F_x_to := F_x_to.keep K2 nin0
  replace F_x_paid := F_x_paid.keep K2 nin0
  replace F_x_zone := F_x_zone.keep K2 nin0
  replace O := O.keep K2 all0
  replace KP := KP.trans K2 all0
  show Own.Go p e below _ (T2.setTop (mkF m 9 #[.val (.ref x), .val (.ref al), .val .null, .val .null, .val .null] [(.ref r), (.ref x)]))
  refine Own.g_putF X2 hx hZ hown (host := "") (Or.inl (hw _ (List.mem_of_getElem? (i := 73) rfl))) Via.refl (rfl : T2.heap = T2.heap) F_x_starts E_x (Or.inr ⟨(hw _ (List.mem_of_getElem? (i := 74) rfl)), rfl, hnm⟩) (hw _ (List.mem_of_getElem? (i := 14) rfl)) (ty := (.object "java/util/List")) (by decide) rfl rfl (hb hby d6_9) 12 rfl ?_
  clear F_x_starts; intro T3 h3 X3 e3 W3 F_x_starts Ew3
  replace E_x := E_x.wr W3
  replace F_x_to := F_x_to.other W3 (Or.inr (slot_ne (Or.inr (hw _ (List.mem_of_getElem? (i := 76) rfl))) (Or.inr (hw _ (List.mem_of_getElem? (i := 74) rfl))) (by decide) (t := (.object "java/time/LocalTime")) (t' := (.object "java/util/List")) (by decide) (by decide)))
  replace F_x_paid := F_x_paid.other W3 (Or.inr (slot_ne (Or.inr (hw _ (List.mem_of_getElem? (i := 78) rfl))) (Or.inr (hw _ (List.mem_of_getElem? (i := 74) rfl))) (by decide) (t := (.object "com/example/witnesseth/witnesseth/agreement/Differential")) (t' := (.object "java/util/List")) (by decide) (by decide)))
  replace F_x_zone := F_x_zone.other W3 (Or.inr (slot_ne (Or.inr (hw _ (List.mem_of_getElem? (i := 80) rfl))) (Or.inr (hw _ (List.mem_of_getElem? (i := 74) rfl))) (by decide) (t := (.object "java/time/ZoneId")) (t' := (.object "java/util/List")) (by decide) (by decide)))
  replace O := O.wr W3 n0_x
  replace KP := KP.wr W3 (Or.inl (List.mem_of_getElem? (i := 0) rfl))
  have N3 := Fr.snoc X3 N2 n0_x
  refine Own.g_aloadN X3 hx (hb hby d6_12) rfl rfl 13 rfl ?_
  refine Own.g_aloadN X3 hx (hb hby d6_13) rfl rfl 14 rfl ?_
  refine Own.g_putF X3 hx hZ hown (host := "") (Or.inl (hw _ (List.mem_of_getElem? (i := 75) rfl))) Via.refl e3 F_x_to E_x (Or.inr ⟨(hw _ (List.mem_of_getElem? (i := 76) rfl)), rfl, hnm⟩) (hw _ (List.mem_of_getElem? (i := 14) rfl)) (ty := (.object "java/time/LocalTime")) (by decide) rfl rfl (hb hby d6_14) 17 rfl ?_
  clear F_x_to; intro T4 h4 X4 e4 W4 F_x_to Ew4
  replace E_x := E_x.wr W4
  replace F_x_starts := F_x_starts.other W4 (Or.inr (slot_ne (Or.inr (hw _ (List.mem_of_getElem? (i := 74) rfl))) (Or.inr (hw _ (List.mem_of_getElem? (i := 76) rfl))) (by decide) (t := (.object "java/util/List")) (t' := (.object "java/time/LocalTime")) (by decide) (by decide)))
  replace F_x_paid := F_x_paid.other W4 (Or.inr (slot_ne (Or.inr (hw _ (List.mem_of_getElem? (i := 78) rfl))) (Or.inr (hw _ (List.mem_of_getElem? (i := 76) rfl))) (by decide) (t := (.object "com/example/witnesseth/witnesseth/agreement/Differential")) (t' := (.object "java/time/LocalTime")) (by decide) (by decide)))
  replace F_x_zone := F_x_zone.other W4 (Or.inr (slot_ne (Or.inr (hw _ (List.mem_of_getElem? (i := 80) rfl))) (Or.inr (hw _ (List.mem_of_getElem? (i := 76) rfl))) (by decide) (t := (.object "java/time/ZoneId")) (t' := (.object "java/time/LocalTime")) (by decide) (by decide)))
  replace O := O.wr W4 n0_x
  replace KP := KP.wr W4 (Or.inl (List.mem_of_getElem? (i := 0) rfl))
  have N4 := Fr.snoc X4 N3 n0_x
  refine Own.g_aloadN X4 hx (hb hby d6_17) rfl rfl 18 rfl ?_
  refine Own.g_aloadN X4 hx (hb hby d6_18) rfl rfl 19 rfl ?_
  refine Own.g_putF X4 hx hZ hown (host := "") (Or.inl (hw _ (List.mem_of_getElem? (i := 77) rfl))) Via.refl e4 F_x_paid E_x (Or.inr ⟨(hw _ (List.mem_of_getElem? (i := 78) rfl)), rfl, hnm⟩) (hw _ (List.mem_of_getElem? (i := 14) rfl)) (ty := (.object "com/example/witnesseth/witnesseth/agreement/Differential")) (by decide) rfl rfl (hb hby d6_19) 22 rfl ?_
  clear F_x_paid; intro T5 h5 X5 e5 W5 F_x_paid Ew5
  replace E_x := E_x.wr W5
  replace F_x_starts := F_x_starts.other W5 (Or.inr (slot_ne (Or.inr (hw _ (List.mem_of_getElem? (i := 74) rfl))) (Or.inr (hw _ (List.mem_of_getElem? (i := 78) rfl))) (by decide) (t := (.object "java/util/List")) (t' := (.object "com/example/witnesseth/witnesseth/agreement/Differential")) (by decide) (by decide)))
  replace F_x_to := F_x_to.other W5 (Or.inr (slot_ne (Or.inr (hw _ (List.mem_of_getElem? (i := 76) rfl))) (Or.inr (hw _ (List.mem_of_getElem? (i := 78) rfl))) (by decide) (t := (.object "java/time/LocalTime")) (t' := (.object "com/example/witnesseth/witnesseth/agreement/Differential")) (by decide) (by decide)))
  replace F_x_zone := F_x_zone.other W5 (Or.inr (slot_ne (Or.inr (hw _ (List.mem_of_getElem? (i := 80) rfl))) (Or.inr (hw _ (List.mem_of_getElem? (i := 78) rfl))) (by decide) (t := (.object "java/time/ZoneId")) (t' := (.object "com/example/witnesseth/witnesseth/agreement/Differential")) (by decide) (by decide)))
  replace O := O.wr W5 n0_x
  replace KP := KP.wr W5 (Or.inl (List.mem_of_getElem? (i := 0) rfl))
  have N5 := Fr.snoc X5 N4 n0_x
  refine Own.g_aloadN X5 hx (hb hby d6_22) rfl rfl 23 rfl ?_
  refine Own.g_aload X5 hx (hb hby d6_23) rfl rfl 25 rfl ?_
  refine Own.g_putF X5 hx hZ hown (host := "") (Or.inl (hw _ (List.mem_of_getElem? (i := 79) rfl))) Via.refl e5 F_x_zone E_x (Or.inr ⟨(hw _ (List.mem_of_getElem? (i := 80) rfl)), rfl, hnm⟩) (hw _ (List.mem_of_getElem? (i := 14) rfl)) (ty := (.object "java/time/ZoneId")) (by decide) rfl rfl (hb hby d6_25) 28 rfl ?_
  clear F_x_zone; intro T6 h6 X6 e6 W6 F_x_zone Ew6
  replace E_x := E_x.wr W6
  replace F_x_starts := F_x_starts.other W6 (Or.inr (slot_ne (Or.inr (hw _ (List.mem_of_getElem? (i := 74) rfl))) (Or.inr (hw _ (List.mem_of_getElem? (i := 80) rfl))) (by decide) (t := (.object "java/util/List")) (t' := (.object "java/time/ZoneId")) (by decide) (by decide)))
  replace F_x_to := F_x_to.other W6 (Or.inr (slot_ne (Or.inr (hw _ (List.mem_of_getElem? (i := 76) rfl))) (Or.inr (hw _ (List.mem_of_getElem? (i := 80) rfl))) (by decide) (t := (.object "java/time/LocalTime")) (t' := (.object "java/time/ZoneId")) (by decide) (by decide)))
  replace F_x_paid := F_x_paid.other W6 (Or.inr (slot_ne (Or.inr (hw _ (List.mem_of_getElem? (i := 78) rfl))) (Or.inr (hw _ (List.mem_of_getElem? (i := 80) rfl))) (by decide) (t := (.object "com/example/witnesseth/witnesseth/agreement/Differential")) (t' := (.object "java/time/ZoneId")) (by decide) (by decide)))
  replace O := O.wr W6 n0_x
  replace KP := KP.wr W6 (Or.inl (List.mem_of_getElem? (i := 0) rfl))
  have N6 := Fr.snoc X6 N5 n0_x
  refine Own.g_retV X6 hx hret hlocks (hb hby d6_28) (by decide) (by decide) e6 ?_
  exact ⟨rfl, N6, KP, E_x⟩
theorem ef_cdA (m : MethodId) (x0 : Addr) (x1 : Addr) (x2 : Addr) (x3 : Addr) : entryFrame m #[.ref x0, .ref x1, .ref x2, .ref x3] 4 = mkF m 0 #[.val (.ref x0), .val (.ref x1), .val (.ref x2), .val (.ref x3)] [] := by first | (simp [entryFrame, mkF, argsToLocals, Value.category]; done) | rfl
def Q_cdA (Z : State) (x : Addr) (ya : Addr) (yat : Addr) (yb : Addr) (ybt : Addr) (g : Addr) (gt : Addr) (l1 : List Addr) (l2 : List Addr) (l3 : List Addr) (da : Addr) (kda : ClassId) (mr : Addr) (el : Addr) (ea : Addr) (em : Addr) (h0 : Heap) (n0 : Nat) (v : Option Value) (h : Heap) (L : List Loc) : Prop := v = none ∧ Fr n0 L ∧ Keep h0 h [x] ∧ Exa Z h x "com/example/witnesseth/witnesseth/agreement/ClockDifferentials" ∧ ∃ (r1 : Addr) (r1t : Addr) (r2 : Addr) (r2t : Addr) (r3 : Addr) (r3t : Addr), Fld Z h x "com/example/witnesseth/witnesseth/agreement/ClockDifferentials" "hours" "Ljava/util/List;" (.ref r1) ∧ Fld Z h x "com/example/witnesseth/witnesseth/agreement/ClockDifferentials" "differentials" "Ljava/util/List;" (.ref r2) ∧ Fld Z h x "com/example/witnesseth/witnesseth/agreement/ClockDifferentials" "shifts" "Ljava/util/List;" (.ref r3) ∧ Own.Im Z h r1 r1t l1.isEmpty ∧ Own.Im Z h r2 r2t l2.isEmpty ∧ Own.Im Z h r3 r3t l3.isEmpty
set_option maxRecDepth 65536 in
set_option maxHeartbeats 40000000 in
theorem rm_cdA (l : Launch) (Z : State) (a0 : Array Value) (hw : ∀ d ∈ tables_1, d.before a0 Z = true) (ws : List Jvm.Cond) (x : Addr) (ya : Addr) (yat : Addr) (yb : Addr) (ybt : Addr) (g : Addr) (gt : Addr) (l1 : List Addr) (l2 : List Addr) (l3 : List Addr) (da : Addr) (kda : ClassId) (mr : Addr) (el : Addr) (ea : Addr) (em : Addr) (h0 : Heap) (n0 : Nat) (O : Old Z n0 h0) (n0_x : n0 ≤ x) (A_ya : Own.AL Z h0 ya yat l1) (hl1 : l1 = [] ∨ (∃ y1 : Addr, l1 = [y1]) ∨ (∃ y1 y2 : Addr, l1 = [y1, y2]) ∨ (∃ y1 y2 y3 : Addr, l1 = [y1, y2, y3])) (A_yb : Own.AL Z h0 yb ybt l2) (hl2 : l2 = [] ∨ (∃ y1 : Addr, l2 = [y1]) ∨ (∃ y1 y2 : Addr, l2 = [y1, y2]) ∨ (∃ y1 y2 y3 : Addr, l2 = [y1, y2, y3])) (A_g : Own.AL Z h0 g gt l3) (hl3 : l3 = [] ∨ (∃ y1 : Addr, l3 = [y1]) ∨ (∃ y1 y2 : Addr, l3 = [y1, y2]) ∨ (∃ y1 y2 y3 : Addr, l3 = [y1, y2, y3])) (SD : Sta Z Z.heap "java/util/ArrayList" "DEFAULTCAPACITY_EMPTY_ELEMENTDATA" "[Ljava/lang/Object;" (.ref da)) (AD : Arv Z Z.heap da kda (.object "java/lang/Object") 0 [] .null) (M : Mir Z "[Ljava/lang/Object;" mr) (SEL : Sta Z Z.heap "java/util/ImmutableCollections" "EMPTY_LIST" "Ljava/util/ImmutableCollections$ListN;" (.ref el)) (IMel : Own.Im Z Z.heap el ea true) (SEM : Sta Z Z.heap "java/util/ImmutableCollections" "EMPTY" "Ljava/lang/Object;" (.ref em)) (E_x : Exa Z h0 x "com/example/witnesseth/witnesseth/agreement/ClockDifferentials") (F_x_hours : Fld Z h0 x "com/example/witnesseth/witnesseth/agreement/ClockDifferentials" "hours" "Ljava/util/List;" .null) (F_x_differentials : Fld Z h0 x "com/example/witnesseth/witnesseth/agreement/ClockDifferentials" "differentials" "Ljava/util/List;" .null) (F_x_shifts : Fld Z h0 x "com/example/witnesseth/witnesseth/agreement/ClockDifferentials" "shifts" "Ljava/util/List;" .null) :
    MetFree l (⟨"com/example/witnesseth/witnesseth/agreement/ClockDifferentials", "<init>", "(Ljava/util/List;Ljava/util/List;Ljava/util/List;)V"⟩ : MethodName) (head1 (Jvm.Cond.code (⟨"com/example/witnesseth/witnesseth/agreement/ClockDifferentials", "<init>", "(Ljava/util/List;Ljava/util/List;Ljava/util/List;)V"⟩ : MethodName) prog_3_method_1_code 4 none :: ws) ({ frames := 9, cells := 9, slots := 24, locals := 190 } : Room)) (fun aa U => aa = #[.ref x, .ref ya, .ref yb, .ref g] ∧ Z.Warmed39 U.vm ∧ U.heap = h0) (fun _ _ _ _ _ => True) (fun _ U o U' => Own.End U (Q_cdA Z x ya yat yb ybt g gt l1 l2 l3 da kda mr el ea em h0 n0) 9 24 o U') := by
  refine MetFree.of_bodySF (plainFor_of_name pn_13) hisR ?_
  intro p e s m args below meth c s₁ Bd hml0 hP hK
  obtain ⟨rfl, hZ, hh⟩ := hP
  have hx := Bd.exec
  have hby := Bd.bytes
  have hml : c.maxLocals = 4 := hml0
  have hown : s.vm.findClass "com/example/witnesseth/witnesseth/agreement/ClockDifferentials" = some m.cls := findClass_of_methodNamed Bd.named
  have hnm := (name_of_methodNamed Bd.named Bd.method).1
  have hret := Bd.returns
  have hlocks : meth.locks = false := Bd.notSynchronized
  have X0 : Stand p l e ({ frames := 9, cells := 9, slots := 24, locals := 190 } : Room) s m #[.ref x, .ref ya, .ref yb, .ref g] below meth c s₁ [] 0 0 := Stand.of_body Bd
  have e0 : s₁.heap = h0 := by rw [← hh, Bd.state]; rfl
  have N0 := Fr.nil n0
  show Own.Go p e below (Own.End s (Q_cdA Z x ya yat yb ybt g gt l1 l2 l3 da kda mr el ea em h0 n0) 9 24) (s₁.setTop (entryFrame m #[.ref x, .ref ya, .ref yb, .ref g] 4))
  refine Own.Go.eq (ef_cdA m x ya yb g) ?_
  have KP : Keep h0 h0 [x] := Keep.refl _ _
  have ne_ya_x := Exa.ne A_ya.1 E_x (by decide)
  have ne_yat_x := Exa.ne A_ya.2.2.2.1 E_x (by decide)
  have ne_yb_x := Exa.ne A_yb.1 E_x (by decide)
  have ne_ybt_x := Exa.ne A_yb.2.2.2.1 E_x (by decide)
  have ne_g_x := Exa.ne A_g.1 E_x (by decide)
  have ne_gt_x := Exa.ne A_g.2.2.2.1 E_x (by decide)
  refine Own.g_aloadN X0 hx (hb hby d16_0) rfl rfl 1 rfl ?_
  refine Own.g_initO X0 hx hZ hown (hw _ (List.mem_of_getElem? (i := 117) rfl)) (hw _ (List.mem_of_getElem? (i := 7) rfl)) (hw _ (List.mem_of_getElem? (i := 8) rfl)) e0 (by rw [hml]; rfl) (hb hby d16_1) (by decide) (W := 0) (Nat.le_of_ble_eq_true rfl) (by decide) 4 rfl ?_
  intro T1 X1 e1
  refine Own.g_aloadN X1 hx (hb hby d16_4) rfl rfl 5 rfl ?_
  refine Own.g_aloadN X1 hx (hb hby d16_5) rfl rfl 6 rfl ?_
  refine Own.g_callS X1 hx (y := (⟨"java/util/List", "copyOf", "(Ljava/util/Collection;)Ljava/util/List;"⟩ : MethodName)) hown (mvT hZ (hw _ (List.mem_of_getElem? (i := 118) rfl))) (mvT hZ (hw _ (List.mem_of_getElem? (i := 45) rfl))) (mvT hZ (hw _ (List.mem_of_getElem? (i := 46) rfl))) (mvT hZ (hw _ (List.mem_of_getElem? (i := 47) rfl))) (by decide) [.ref ya] (Own.back (W := 1) (rm_cpA l Z a0 hw [] ya yat l1 da kda mr el ea em h0 n0 O A_ya hl1 SD AD M SEL IMel SEM) hZ (hw _ (List.mem_of_getElem? (i := 47) rfl)) (hw _ (List.mem_of_getElem? (i := 46) rfl)) (by decide) (by decide)) e1 (by rw [hml]; rfl) [(.ref x)] (lenOf pd_14 rfl) rfl (Nat.le_of_ble_eq_true rfl) (hb hby d16_6) (by decide) (by decide) 9 rfl ?_
  rintro _ T2 L2 X2 ⟨r1, r1t, rfl, N2q, K2, I_r1⟩
  have N2 := Fr.app N0 N2q
  replace E_x := E_x.keep K2
  replace F_x_hours := F_x_hours.keep K2 nin0
  replace F_x_differentials := F_x_differentials.keep K2 nin0
  replace F_x_shifts := F_x_shifts.keep K2 nin0
  replace A_yb := A_yb.keep K2 nin0 nin0
  replace A_g := A_g.keep K2 nin0 nin0
  replace O := O.keep K2 all0
  replace KP := KP.trans K2 all0
  have nn_r1 := Own.Im.neC I_r1 E_x (hw _ (List.mem_of_getElem? (i := 112) rfl)) (by decide) (by decide)
  have ne_r1_x := nn_r1.1
  have ne_r1t_x := nn_r1.2
  show Own.Go p e below _ (T2.setTop (mkF m 9 #[.val (.ref x), .val (.ref ya), .val (.ref yb), .val (.ref g)] [(.ref r1), (.ref x)]))
  refine Own.g_putF X2 hx hZ hown (host := "") (Or.inl (hw _ (List.mem_of_getElem? (i := 119) rfl))) Via.refl (rfl : T2.heap = T2.heap) F_x_hours E_x (Or.inr ⟨(hw _ (List.mem_of_getElem? (i := 120) rfl)), rfl, hnm⟩) (hw _ (List.mem_of_getElem? (i := 112) rfl)) (ty := (.object "java/util/List")) (by decide) rfl rfl (hb hby d16_9) 12 rfl ?_
  clear F_x_hours; intro T3 h3 X3 e3 W3 F_x_hours Ew3
  replace E_x := E_x.wr W3
  replace F_x_differentials := F_x_differentials.other W3 (Or.inr (slot_ne (Or.inr (hw _ (List.mem_of_getElem? (i := 187) rfl))) (Or.inr (hw _ (List.mem_of_getElem? (i := 120) rfl))) (by decide) (t := (.object "java/util/List")) (t' := (.object "java/util/List")) (by decide) (by decide)))
  replace F_x_shifts := F_x_shifts.other W3 (Or.inr (slot_ne (Or.inr (hw _ (List.mem_of_getElem? (i := 205) rfl))) (Or.inr (hw _ (List.mem_of_getElem? (i := 120) rfl))) (by decide) (t := (.object "java/util/List")) (t' := (.object "java/util/List")) (by decide) (by decide)))
  replace A_yb := A_yb.wr W3 ne_yb_x ne_ybt_x
  replace A_g := A_g.wr W3 ne_g_x ne_gt_x
  replace I_r1 := I_r1.wr W3 ne_r1_x ne_r1t_x
  replace O := O.wr W3 n0_x
  replace KP := KP.wr W3 (Or.inl (List.mem_of_getElem? (i := 0) rfl))
  have N3 := Fr.snoc X3 N2 n0_x
  refine Own.g_aloadN X3 hx (hb hby d16_12) rfl rfl 13 rfl ?_
  refine Own.g_aloadN X3 hx (hb hby d16_13) rfl rfl 14 rfl ?_
  refine Own.g_callS X3 hx (y := (⟨"java/util/List", "copyOf", "(Ljava/util/Collection;)Ljava/util/List;"⟩ : MethodName)) hown (mvT hZ (hw _ (List.mem_of_getElem? (i := 118) rfl))) (mvT hZ (hw _ (List.mem_of_getElem? (i := 45) rfl))) (mvT hZ (hw _ (List.mem_of_getElem? (i := 46) rfl))) (mvT hZ (hw _ (List.mem_of_getElem? (i := 47) rfl))) (by decide) [.ref yb] (Own.back (W := 1) (rm_cpA l Z a0 hw [] yb ybt l2 da kda mr el ea em h3 n0 O A_yb hl2 SD AD M SEL IMel SEM) hZ (hw _ (List.mem_of_getElem? (i := 47) rfl)) (hw _ (List.mem_of_getElem? (i := 46) rfl)) (by decide) (by decide)) e3 (by rw [hml]; rfl) [(.ref x)] (lenOf pd_14 rfl) rfl (Nat.le_of_ble_eq_true rfl) (hb hby d16_14) (by decide) (by decide) 17 rfl ?_
  rintro _ T4 L4 X4 ⟨r2, r2t, rfl, N4q, K4, I_r2⟩
  have N4 := Fr.app N3 N4q
  replace E_x := E_x.keep K4
  replace F_x_hours := F_x_hours.keep K4 nin0
  replace F_x_differentials := F_x_differentials.keep K4 nin0
  replace F_x_shifts := F_x_shifts.keep K4 nin0
  replace A_g := A_g.keep K4 nin0 nin0
  replace I_r1 := I_r1.keep K4 nin0 nin0
  replace O := O.keep K4 all0
  replace KP := KP.trans K4 all0
  have nn_r2 := Own.Im.neC I_r2 E_x (hw _ (List.mem_of_getElem? (i := 112) rfl)) (by decide) (by decide)
  have ne_r2_x := nn_r2.1
  have ne_r2t_x := nn_r2.2
  show Own.Go p e below _ (T4.setTop (mkF m 17 #[.val (.ref x), .val (.ref ya), .val (.ref yb), .val (.ref g)] [(.ref r2), (.ref x)]))
  refine Own.g_putF X4 hx hZ hown (host := "") (Or.inl (hw _ (List.mem_of_getElem? (i := 186) rfl))) Via.refl (rfl : T4.heap = T4.heap) F_x_differentials E_x (Or.inr ⟨(hw _ (List.mem_of_getElem? (i := 187) rfl)), rfl, hnm⟩) (hw _ (List.mem_of_getElem? (i := 112) rfl)) (ty := (.object "java/util/List")) (by decide) rfl rfl (hb hby d16_17) 20 rfl ?_
  clear F_x_differentials; intro T5 h5 X5 e5 W5 F_x_differentials Ew5
  replace E_x := E_x.wr W5
  replace F_x_hours := F_x_hours.other W5 (Or.inr (slot_ne (Or.inr (hw _ (List.mem_of_getElem? (i := 120) rfl))) (Or.inr (hw _ (List.mem_of_getElem? (i := 187) rfl))) (by decide) (t := (.object "java/util/List")) (t' := (.object "java/util/List")) (by decide) (by decide)))
  replace F_x_shifts := F_x_shifts.other W5 (Or.inr (slot_ne (Or.inr (hw _ (List.mem_of_getElem? (i := 205) rfl))) (Or.inr (hw _ (List.mem_of_getElem? (i := 187) rfl))) (by decide) (t := (.object "java/util/List")) (t' := (.object "java/util/List")) (by decide) (by decide)))
  replace A_g := A_g.wr W5 ne_g_x ne_gt_x
  replace I_r1 := I_r1.wr W5 ne_r1_x ne_r1t_x
  replace I_r2 := I_r2.wr W5 ne_r2_x ne_r2t_x
  replace O := O.wr W5 n0_x
  replace KP := KP.wr W5 (Or.inl (List.mem_of_getElem? (i := 0) rfl))
  have N5 := Fr.snoc X5 N4 n0_x
  refine Own.g_aloadN X5 hx (hb hby d16_20) rfl rfl 21 rfl ?_
  refine Own.g_aloadN X5 hx (hb hby d16_21) rfl rfl 22 rfl ?_
  refine Own.g_callS X5 hx (y := (⟨"java/util/List", "copyOf", "(Ljava/util/Collection;)Ljava/util/List;"⟩ : MethodName)) hown (mvT hZ (hw _ (List.mem_of_getElem? (i := 118) rfl))) (mvT hZ (hw _ (List.mem_of_getElem? (i := 45) rfl))) (mvT hZ (hw _ (List.mem_of_getElem? (i := 46) rfl))) (mvT hZ (hw _ (List.mem_of_getElem? (i := 47) rfl))) (by decide) [.ref g] (Own.back (W := 1) (rm_cpA l Z a0 hw [] g gt l3 da kda mr el ea em h5 n0 O A_g hl3 SD AD M SEL IMel SEM) hZ (hw _ (List.mem_of_getElem? (i := 47) rfl)) (hw _ (List.mem_of_getElem? (i := 46) rfl)) (by decide) (by decide)) e5 (by rw [hml]; rfl) [(.ref x)] (lenOf pd_14 rfl) rfl (Nat.le_of_ble_eq_true rfl) (hb hby d16_22) (by decide) (by decide) 25 rfl ?_
  rintro _ T6 L6 X6 ⟨r3, r3t, rfl, N6q, K6, I_r3⟩
  have N6 := Fr.app N5 N6q
  replace E_x := E_x.keep K6
  replace F_x_hours := F_x_hours.keep K6 nin0
  replace F_x_differentials := F_x_differentials.keep K6 nin0
  replace F_x_shifts := F_x_shifts.keep K6 nin0
  replace I_r1 := I_r1.keep K6 nin0 nin0
  replace I_r2 := I_r2.keep K6 nin0 nin0
  replace O := O.keep K6 all0
  replace KP := KP.trans K6 all0
  have nn_r3 := Own.Im.neC I_r3 E_x (hw _ (List.mem_of_getElem? (i := 112) rfl)) (by decide) (by decide)
  have ne_r3_x := nn_r3.1
  have ne_r3t_x := nn_r3.2
  show Own.Go p e below _ (T6.setTop (mkF m 25 #[.val (.ref x), .val (.ref ya), .val (.ref yb), .val (.ref g)] [(.ref r3), (.ref x)]))
  refine Own.g_putF X6 hx hZ hown (host := "") (Or.inl (hw _ (List.mem_of_getElem? (i := 204) rfl))) Via.refl (rfl : T6.heap = T6.heap) F_x_shifts E_x (Or.inr ⟨(hw _ (List.mem_of_getElem? (i := 205) rfl)), rfl, hnm⟩) (hw _ (List.mem_of_getElem? (i := 112) rfl)) (ty := (.object "java/util/List")) (by decide) rfl rfl (hb hby d16_25) 28 rfl ?_
  clear F_x_shifts; intro T7 h7 X7 e7 W7 F_x_shifts Ew7
  replace E_x := E_x.wr W7
  replace F_x_hours := F_x_hours.other W7 (Or.inr (slot_ne (Or.inr (hw _ (List.mem_of_getElem? (i := 120) rfl))) (Or.inr (hw _ (List.mem_of_getElem? (i := 205) rfl))) (by decide) (t := (.object "java/util/List")) (t' := (.object "java/util/List")) (by decide) (by decide)))
  replace F_x_differentials := F_x_differentials.other W7 (Or.inr (slot_ne (Or.inr (hw _ (List.mem_of_getElem? (i := 187) rfl))) (Or.inr (hw _ (List.mem_of_getElem? (i := 205) rfl))) (by decide) (t := (.object "java/util/List")) (t' := (.object "java/util/List")) (by decide) (by decide)))
  replace I_r1 := I_r1.wr W7 ne_r1_x ne_r1t_x
  replace I_r2 := I_r2.wr W7 ne_r2_x ne_r2t_x
  replace I_r3 := I_r3.wr W7 ne_r3_x ne_r3t_x
  replace O := O.wr W7 n0_x
  replace KP := KP.wr W7 (Or.inl (List.mem_of_getElem? (i := 0) rfl))
  have N7 := Fr.snoc X7 N6 n0_x
  refine Own.g_retV X7 hx hret hlocks (hb hby d16_28) (by decide) (by decide) e7 ?_
  exact ⟨rfl, N7, KP, E_x, r1, r1t, r2, r2t, r3, r3t, F_x_hours, F_x_differentials, F_x_shifts, I_r1, I_r2, I_r3⟩
theorem ef_cdI (m : MethodId) (x0 : Addr) (x1 : Addr) (x2 : Addr) (x3 : Addr) : entryFrame m #[.ref x0, .ref x1, .ref x2, .ref x3] 4 = mkF m 0 #[.val (.ref x0), .val (.ref x1), .val (.ref x2), .val (.ref x3)] [] := by first | (simp [entryFrame, mkF, argsToLocals, Value.category]; done) | rfl
def Q_cdI (Z : State) (x : Addr) (r1 : Addr) (r1t : Addr) (b1 : Bool) (r2 : Addr) (r2t : Addr) (b2 : Bool) (g : Addr) (gt : Addr) (l3 : List Addr) (da : Addr) (kda : ClassId) (mr : Addr) (el : Addr) (ea : Addr) (em : Addr) (h0 : Heap) (n0 : Nat) (v : Option Value) (h : Heap) (L : List Loc) : Prop := v = none ∧ Fr n0 L ∧ Keep h0 h [x] ∧ Exa Z h x "com/example/witnesseth/witnesseth/agreement/ClockDifferentials" ∧ ∃ (r1 : Addr) (r1t : Addr) (r2 : Addr) (r2t : Addr) (r3 : Addr) (r3t : Addr), Fld Z h x "com/example/witnesseth/witnesseth/agreement/ClockDifferentials" "hours" "Ljava/util/List;" (.ref r1) ∧ Fld Z h x "com/example/witnesseth/witnesseth/agreement/ClockDifferentials" "differentials" "Ljava/util/List;" (.ref r2) ∧ Fld Z h x "com/example/witnesseth/witnesseth/agreement/ClockDifferentials" "shifts" "Ljava/util/List;" (.ref r3) ∧ Own.Im Z h r1 r1t b1 ∧ Own.Im Z h r2 r2t b2 ∧ Own.Im Z h r3 r3t l3.isEmpty
set_option maxRecDepth 65536 in
set_option maxHeartbeats 40000000 in
theorem rm_cdI (l : Launch) (Z : State) (a0 : Array Value) (hw : ∀ d ∈ tables_1, d.before a0 Z = true) (ws : List Jvm.Cond) (x : Addr) (r1 : Addr) (r1t : Addr) (b1 : Bool) (r2 : Addr) (r2t : Addr) (b2 : Bool) (g : Addr) (gt : Addr) (l3 : List Addr) (da : Addr) (kda : ClassId) (mr : Addr) (el : Addr) (ea : Addr) (em : Addr) (h0 : Heap) (n0 : Nat) (O : Old Z n0 h0) (n0_x : n0 ≤ x) (I_r1 : Own.Im Z h0 r1 r1t b1) (I_r2 : Own.Im Z h0 r2 r2t b2) (A_g : Own.AL Z h0 g gt l3) (hl3 : l3 = [] ∨ (∃ y1 : Addr, l3 = [y1]) ∨ (∃ y1 y2 : Addr, l3 = [y1, y2]) ∨ (∃ y1 y2 y3 : Addr, l3 = [y1, y2, y3])) (SD : Sta Z Z.heap "java/util/ArrayList" "DEFAULTCAPACITY_EMPTY_ELEMENTDATA" "[Ljava/lang/Object;" (.ref da)) (AD : Arv Z Z.heap da kda (.object "java/lang/Object") 0 [] .null) (M : Mir Z "[Ljava/lang/Object;" mr) (SEL : Sta Z Z.heap "java/util/ImmutableCollections" "EMPTY_LIST" "Ljava/util/ImmutableCollections$ListN;" (.ref el)) (IMel : Own.Im Z Z.heap el ea true) (SEM : Sta Z Z.heap "java/util/ImmutableCollections" "EMPTY" "Ljava/lang/Object;" (.ref em)) (E_x : Exa Z h0 x "com/example/witnesseth/witnesseth/agreement/ClockDifferentials") (F_x_hours : Fld Z h0 x "com/example/witnesseth/witnesseth/agreement/ClockDifferentials" "hours" "Ljava/util/List;" .null) (F_x_differentials : Fld Z h0 x "com/example/witnesseth/witnesseth/agreement/ClockDifferentials" "differentials" "Ljava/util/List;" .null) (F_x_shifts : Fld Z h0 x "com/example/witnesseth/witnesseth/agreement/ClockDifferentials" "shifts" "Ljava/util/List;" .null) :
    MetFree l (⟨"com/example/witnesseth/witnesseth/agreement/ClockDifferentials", "<init>", "(Ljava/util/List;Ljava/util/List;Ljava/util/List;)V"⟩ : MethodName) (head1 (Jvm.Cond.code (⟨"com/example/witnesseth/witnesseth/agreement/ClockDifferentials", "<init>", "(Ljava/util/List;Ljava/util/List;Ljava/util/List;)V"⟩ : MethodName) prog_3_method_1_code 4 none :: ws) ({ frames := 9, cells := 3, slots := 8, locals := 190 } : Room)) (fun aa U => aa = #[.ref x, .ref r1, .ref r2, .ref g] ∧ Z.Warmed39 U.vm ∧ U.heap = h0) (fun _ _ _ _ _ => True) (fun _ U o U' => Own.End U (Q_cdI Z x r1 r1t b1 r2 r2t b2 g gt l3 da kda mr el ea em h0 n0) 3 8 o U') := by
  refine MetFree.of_bodySF (plainFor_of_name pn_13) hisR ?_
  intro p e s m args below meth c s₁ Bd hml0 hP hK
  obtain ⟨rfl, hZ, hh⟩ := hP
  have hx := Bd.exec
  have hby := Bd.bytes
  have hml : c.maxLocals = 4 := hml0
  have hown : s.vm.findClass "com/example/witnesseth/witnesseth/agreement/ClockDifferentials" = some m.cls := findClass_of_methodNamed Bd.named
  have hnm := (name_of_methodNamed Bd.named Bd.method).1
  have hret := Bd.returns
  have hlocks : meth.locks = false := Bd.notSynchronized
  have X0 : Stand p l e ({ frames := 9, cells := 3, slots := 8, locals := 190 } : Room) s m #[.ref x, .ref r1, .ref r2, .ref g] below meth c s₁ [] 0 0 := Stand.of_body Bd
  have e0 : s₁.heap = h0 := by rw [← hh, Bd.state]; rfl
  have N0 := Fr.nil n0
  show Own.Go p e below (Own.End s (Q_cdI Z x r1 r1t b1 r2 r2t b2 g gt l3 da kda mr el ea em h0 n0) 3 8) (s₁.setTop (entryFrame m #[.ref x, .ref r1, .ref r2, .ref g] 4))
  refine Own.Go.eq (ef_cdI m x r1 r2 g) ?_
  have KP : Keep h0 h0 [x] := Keep.refl _ _
  have nn_r1 := Own.Im.neC I_r1 E_x (hw _ (List.mem_of_getElem? (i := 112) rfl)) (by decide) (by decide)
  have ne_r1_x := nn_r1.1
  have ne_r1t_x := nn_r1.2
  have nn_r2 := Own.Im.neC I_r2 E_x (hw _ (List.mem_of_getElem? (i := 112) rfl)) (by decide) (by decide)
  have ne_r2_x := nn_r2.1
  have ne_r2t_x := nn_r2.2
  have ne_g_x := Exa.ne A_g.1 E_x (by decide)
  have ne_gt_x := Exa.ne A_g.2.2.2.1 E_x (by decide)
  refine Own.g_aloadN X0 hx (hb hby d16_0) rfl rfl 1 rfl ?_
  refine Own.g_initO X0 hx hZ hown (hw _ (List.mem_of_getElem? (i := 117) rfl)) (hw _ (List.mem_of_getElem? (i := 7) rfl)) (hw _ (List.mem_of_getElem? (i := 8) rfl)) e0 (by rw [hml]; rfl) (hb hby d16_1) (by decide) (W := 0) (Nat.le_of_ble_eq_true rfl) (by decide) 4 rfl ?_
  intro T1 X1 e1
  refine Own.g_aloadN X1 hx (hb hby d16_4) rfl rfl 5 rfl ?_
  refine Own.g_aloadN X1 hx (hb hby d16_5) rfl rfl 6 rfl ?_
  refine Own.g_callS X1 hx (y := (⟨"java/util/List", "copyOf", "(Ljava/util/Collection;)Ljava/util/List;"⟩ : MethodName)) hown (mvT hZ (hw _ (List.mem_of_getElem? (i := 118) rfl))) (mvT hZ (hw _ (List.mem_of_getElem? (i := 45) rfl))) (mvT hZ (hw _ (List.mem_of_getElem? (i := 46) rfl))) (mvT hZ (hw _ (List.mem_of_getElem? (i := 47) rfl))) (by decide) [.ref r1] (Own.back (W := 1) (rm_cpI l Z a0 hw [] r1 r1t b1 h0 n0 O I_r1) hZ (hw _ (List.mem_of_getElem? (i := 47) rfl)) (hw _ (List.mem_of_getElem? (i := 46) rfl)) (by decide) (by decide)) e1 (by rw [hml]; rfl) [(.ref x)] (lenOf pd_14 rfl) rfl (Nat.le_of_ble_eq_true rfl) (hb hby d16_6) (by decide) (by decide) 9 rfl ?_
  rintro _ T2 L2 X2 ⟨rfl, N2q, eH2⟩
  have N2 := Fr.app N0 N2q
  show Own.Go p e below _ (T2.setTop (mkF m 9 #[.val (.ref x), .val (.ref r1), .val (.ref r2), .val (.ref g)] [(.ref r1), (.ref x)]))
  refine Own.g_putF X2 hx hZ hown (host := "") (Or.inl (hw _ (List.mem_of_getElem? (i := 119) rfl))) Via.refl eH2 F_x_hours E_x (Or.inr ⟨(hw _ (List.mem_of_getElem? (i := 120) rfl)), rfl, hnm⟩) (hw _ (List.mem_of_getElem? (i := 112) rfl)) (ty := (.object "java/util/List")) (by decide) rfl rfl (hb hby d16_9) 12 rfl ?_
  clear F_x_hours; intro T3 h3 X3 e3 W3 F_x_hours Ew3
  replace E_x := E_x.wr W3
  replace F_x_differentials := F_x_differentials.other W3 (Or.inr (slot_ne (Or.inr (hw _ (List.mem_of_getElem? (i := 187) rfl))) (Or.inr (hw _ (List.mem_of_getElem? (i := 120) rfl))) (by decide) (t := (.object "java/util/List")) (t' := (.object "java/util/List")) (by decide) (by decide)))
  replace F_x_shifts := F_x_shifts.other W3 (Or.inr (slot_ne (Or.inr (hw _ (List.mem_of_getElem? (i := 205) rfl))) (Or.inr (hw _ (List.mem_of_getElem? (i := 120) rfl))) (by decide) (t := (.object "java/util/List")) (t' := (.object "java/util/List")) (by decide) (by decide)))
  replace I_r1 := I_r1.wr W3 ne_r1_x ne_r1t_x
  replace I_r2 := I_r2.wr W3 ne_r2_x ne_r2t_x
  replace A_g := A_g.wr W3 ne_g_x ne_gt_x
  replace O := O.wr W3 n0_x
  replace KP := KP.wr W3 (Or.inl (List.mem_of_getElem? (i := 0) rfl))
  have N3 := Fr.snoc X3 N2 n0_x
  refine Own.g_aloadN X3 hx (hb hby d16_12) rfl rfl 13 rfl ?_
  refine Own.g_aloadN X3 hx (hb hby d16_13) rfl rfl 14 rfl ?_
  refine Own.g_callS X3 hx (y := (⟨"java/util/List", "copyOf", "(Ljava/util/Collection;)Ljava/util/List;"⟩ : MethodName)) hown (mvT hZ (hw _ (List.mem_of_getElem? (i := 118) rfl))) (mvT hZ (hw _ (List.mem_of_getElem? (i := 45) rfl))) (mvT hZ (hw _ (List.mem_of_getElem? (i := 46) rfl))) (mvT hZ (hw _ (List.mem_of_getElem? (i := 47) rfl))) (by decide) [.ref r2] (Own.back (W := 1) (rm_cpI l Z a0 hw [] r2 r2t b2 h3 n0 O I_r2) hZ (hw _ (List.mem_of_getElem? (i := 47) rfl)) (hw _ (List.mem_of_getElem? (i := 46) rfl)) (by decide) (by decide)) e3 (by rw [hml]; rfl) [(.ref x)] (lenOf pd_14 rfl) rfl (Nat.le_of_ble_eq_true rfl) (hb hby d16_14) (by decide) (by decide) 17 rfl ?_
  rintro _ T4 L4 X4 ⟨rfl, N4q, eH4⟩
  have N4 := Fr.app N3 N4q
  show Own.Go p e below _ (T4.setTop (mkF m 17 #[.val (.ref x), .val (.ref r1), .val (.ref r2), .val (.ref g)] [(.ref r2), (.ref x)]))
  refine Own.g_putF X4 hx hZ hown (host := "") (Or.inl (hw _ (List.mem_of_getElem? (i := 186) rfl))) Via.refl eH4 F_x_differentials E_x (Or.inr ⟨(hw _ (List.mem_of_getElem? (i := 187) rfl)), rfl, hnm⟩) (hw _ (List.mem_of_getElem? (i := 112) rfl)) (ty := (.object "java/util/List")) (by decide) rfl rfl (hb hby d16_17) 20 rfl ?_
  clear F_x_differentials; intro T5 h5 X5 e5 W5 F_x_differentials Ew5
  replace E_x := E_x.wr W5
  replace F_x_hours := F_x_hours.other W5 (Or.inr (slot_ne (Or.inr (hw _ (List.mem_of_getElem? (i := 120) rfl))) (Or.inr (hw _ (List.mem_of_getElem? (i := 187) rfl))) (by decide) (t := (.object "java/util/List")) (t' := (.object "java/util/List")) (by decide) (by decide)))
  replace F_x_shifts := F_x_shifts.other W5 (Or.inr (slot_ne (Or.inr (hw _ (List.mem_of_getElem? (i := 205) rfl))) (Or.inr (hw _ (List.mem_of_getElem? (i := 187) rfl))) (by decide) (t := (.object "java/util/List")) (t' := (.object "java/util/List")) (by decide) (by decide)))
  replace I_r1 := I_r1.wr W5 ne_r1_x ne_r1t_x
  replace I_r2 := I_r2.wr W5 ne_r2_x ne_r2t_x
  replace A_g := A_g.wr W5 ne_g_x ne_gt_x
  replace O := O.wr W5 n0_x
  replace KP := KP.wr W5 (Or.inl (List.mem_of_getElem? (i := 0) rfl))
  have N5 := Fr.snoc X5 N4 n0_x
  refine Own.g_aloadN X5 hx (hb hby d16_20) rfl rfl 21 rfl ?_
  refine Own.g_aloadN X5 hx (hb hby d16_21) rfl rfl 22 rfl ?_
  refine Own.g_callS X5 hx (y := (⟨"java/util/List", "copyOf", "(Ljava/util/Collection;)Ljava/util/List;"⟩ : MethodName)) hown (mvT hZ (hw _ (List.mem_of_getElem? (i := 118) rfl))) (mvT hZ (hw _ (List.mem_of_getElem? (i := 45) rfl))) (mvT hZ (hw _ (List.mem_of_getElem? (i := 46) rfl))) (mvT hZ (hw _ (List.mem_of_getElem? (i := 47) rfl))) (by decide) [.ref g] (Own.back (W := 1) (rm_cpA l Z a0 hw [] g gt l3 da kda mr el ea em h5 n0 O A_g hl3 SD AD M SEL IMel SEM) hZ (hw _ (List.mem_of_getElem? (i := 47) rfl)) (hw _ (List.mem_of_getElem? (i := 46) rfl)) (by decide) (by decide)) e5 (by rw [hml]; rfl) [(.ref x)] (lenOf pd_14 rfl) rfl (Nat.le_of_ble_eq_true rfl) (hb hby d16_22) (by decide) (by decide) 25 rfl ?_
  rintro _ T6 L6 X6 ⟨r3, r3t, rfl, N6q, K6, I_r3⟩
  have N6 := Fr.app N5 N6q
  replace E_x := E_x.keep K6
  replace F_x_hours := F_x_hours.keep K6 nin0
  replace F_x_differentials := F_x_differentials.keep K6 nin0
  replace F_x_shifts := F_x_shifts.keep K6 nin0
  replace I_r1 := I_r1.keep K6 nin0 nin0
  replace I_r2 := I_r2.keep K6 nin0 nin0
  replace O := O.keep K6 all0
  replace KP := KP.trans K6 all0
  have nn_r3 := Own.Im.neC I_r3 E_x (hw _ (List.mem_of_getElem? (i := 112) rfl)) (by decide) (by decide)
  have ne_r3_x := nn_r3.1
  have ne_r3t_x := nn_r3.2
  show Own.Go p e below _ (T6.setTop (mkF m 25 #[.val (.ref x), .val (.ref r1), .val (.ref r2), .val (.ref g)] [(.ref r3), (.ref x)]))
  refine Own.g_putF X6 hx hZ hown (host := "") (Or.inl (hw _ (List.mem_of_getElem? (i := 204) rfl))) Via.refl (rfl : T6.heap = T6.heap) F_x_shifts E_x (Or.inr ⟨(hw _ (List.mem_of_getElem? (i := 205) rfl)), rfl, hnm⟩) (hw _ (List.mem_of_getElem? (i := 112) rfl)) (ty := (.object "java/util/List")) (by decide) rfl rfl (hb hby d16_25) 28 rfl ?_
  clear F_x_shifts; intro T7 h7 X7 e7 W7 F_x_shifts Ew7
  replace E_x := E_x.wr W7
  replace F_x_hours := F_x_hours.other W7 (Or.inr (slot_ne (Or.inr (hw _ (List.mem_of_getElem? (i := 120) rfl))) (Or.inr (hw _ (List.mem_of_getElem? (i := 205) rfl))) (by decide) (t := (.object "java/util/List")) (t' := (.object "java/util/List")) (by decide) (by decide)))
  replace F_x_differentials := F_x_differentials.other W7 (Or.inr (slot_ne (Or.inr (hw _ (List.mem_of_getElem? (i := 187) rfl))) (Or.inr (hw _ (List.mem_of_getElem? (i := 205) rfl))) (by decide) (t := (.object "java/util/List")) (t' := (.object "java/util/List")) (by decide) (by decide)))
  replace I_r1 := I_r1.wr W7 ne_r1_x ne_r1t_x
  replace I_r2 := I_r2.wr W7 ne_r2_x ne_r2t_x
  replace I_r3 := I_r3.wr W7 ne_r3_x ne_r3t_x
  replace O := O.wr W7 n0_x
  replace KP := KP.wr W7 (Or.inl (List.mem_of_getElem? (i := 0) rfl))
  have N7 := Fr.snoc X7 N6 n0_x
  refine Own.g_retV X7 hx hret hlocks (hb hby d16_28) (by decide) (by decide) e7 ?_
  exact ⟨rfl, N7, KP, E_x, r1, r1t, r2, r2t, r3, r3t, F_x_hours, F_x_differentials, F_x_shifts, I_r1, I_r2, I_r3⟩
theorem ef_lnE0 (m : MethodId) (x0 : Addr) : entryFrame m #[.ref x0] 1 = mkF m 0 #[.val (.ref x0)] [] := by first | (simp [entryFrame, mkF, argsToLocals, Value.category]; done) | rfl
def Q_lnE0 (Z : State) (x : Addr) (xt : Addr) (kx : ClassId) (z : Int32) (vs : List Value) (h0 : Heap) (n0 : Nat) (v : Option Value) (h : Heap) (L : List Loc) : Prop := v = some (.int 1) ∧ Fr n0 L ∧ h = h0
set_option maxRecDepth 65536 in
set_option maxHeartbeats 40000000 in
theorem rm_lnE0 (l : Launch) (Z : State) (a0 : Array Value) (hw : ∀ d ∈ tables_1, d.before a0 Z = true) (ws : List Jvm.Cond) (x : Addr) (xt : Addr) (kx : ClassId) (z : Int32) (vs : List Value) (h0 : Heap) (n0 : Nat) (O : Old Z n0 h0) (F_x_elements : Fld Z h0 x "java/util/ImmutableCollections$ListN" "elements" "[Ljava/lang/Object;" (.ref xt)) (V_xt : Arv Z h0 xt kx (.object "java/lang/Object") z vs .null) (hz : z = 0) :
    MetFree l (⟨"java/util/ImmutableCollections$ListN", "isEmpty", "()Z"⟩ : MethodName) (head1 (Jvm.Cond.code (⟨"java/util/ImmutableCollections$ListN", "isEmpty", "()Z"⟩ : MethodName) jdk_45_method_2_code 1 (some .boolean) :: ws) ({ frames := 0, cells := 0, slots := 0, locals := 0 } : Room)) (fun aa U => aa = #[.ref x] ∧ Z.Warmed39 U.vm ∧ U.heap = h0) (fun _ _ _ _ _ => True) (fun _ U o U' => Own.End U (Q_lnE0 Z x xt kx z vs h0 n0) 0 0 o U') := by
  refine MetFree.of_bodySF (plainFor_of_name pn_7) hisR ?_
  intro p e s m args below meth c s₁ Bd hml0 hP hK
  obtain ⟨rfl, hZ, hh⟩ := hP
  have hx := Bd.exec
  have hby := Bd.bytes
  have hml : c.maxLocals = 1 := hml0
  have hown : s.vm.findClass "java/util/ImmutableCollections$ListN" = some m.cls := findClass_of_methodNamed Bd.named
  have hnm := (name_of_methodNamed Bd.named Bd.method).1
  have hret := Bd.returns
  have hlocks : meth.locks = false := Bd.notSynchronized
  have X0 : Stand p l e ({ frames := 0, cells := 0, slots := 0, locals := 0 } : Room) s m #[.ref x] below meth c s₁ [] 0 0 := Stand.of_body Bd
  have e0 : s₁.heap = h0 := by rw [← hh, Bd.state]; rfl
  have N0 := Fr.nil n0
  show Own.Go p e below (Own.End s (Q_lnE0 Z x xt kx z vs h0 n0) 0 0) (s₁.setTop (entryFrame m #[.ref x] 1))
  refine Own.Go.eq (ef_lnE0 m x) ?_
  refine Own.g_aloadN X0 hx (hb hby d29_0) rfl rfl 1 rfl ?_
  refine Own.g_getF X0 hx hZ hown (host := "") (Or.inl (hw _ (List.mem_of_getElem? (i := 182) rfl))) Via.refl e0 F_x_elements (hb hby d29_1) 4 rfl ?_
  intro T1 X1 e1
  refine Own.g_alen X1 hx hZ e1 V_xt (hb hby d29_4) 5 rfl ?_
  refine Own.g_if_ne_f X1 hx (hb hby d29_5) hz 8 rfl ?_
  refine Own.g_iconst X1 hx (1 : Int32) (hb hby d29_8) rfl 9 rfl ?_
  refine Own.g_goto X1 hx (hb hby d29_9) 13 (by decide) ?_
  refine Own.g_ret X1 hx hret hlocks rfl (Or.inl ⟨rfl, by simp, _, rfl⟩) (hb hby d29_13) (by decide) (by decide) e1 ?_
  exact ⟨rfl, N0, rfl⟩
theorem ef_lnE1 (m : MethodId) (x0 : Addr) : entryFrame m #[.ref x0] 1 = mkF m 0 #[.val (.ref x0)] [] := by first | (simp [entryFrame, mkF, argsToLocals, Value.category]; done) | rfl
def Q_lnE1 (Z : State) (x : Addr) (xt : Addr) (kx : ClassId) (z : Int32) (vs : List Value) (h0 : Heap) (n0 : Nat) (v : Option Value) (h : Heap) (L : List Loc) : Prop := v = some (.int 0) ∧ Fr n0 L ∧ h = h0
set_option maxRecDepth 65536 in
set_option maxHeartbeats 40000000 in
theorem rm_lnE1 (l : Launch) (Z : State) (a0 : Array Value) (hw : ∀ d ∈ tables_1, d.before a0 Z = true) (ws : List Jvm.Cond) (x : Addr) (xt : Addr) (kx : ClassId) (z : Int32) (vs : List Value) (h0 : Heap) (n0 : Nat) (O : Old Z n0 h0) (F_x_elements : Fld Z h0 x "java/util/ImmutableCollections$ListN" "elements" "[Ljava/lang/Object;" (.ref xt)) (V_xt : Arv Z h0 xt kx (.object "java/lang/Object") z vs .null) (hz : ¬ z = 0) :
    MetFree l (⟨"java/util/ImmutableCollections$ListN", "isEmpty", "()Z"⟩ : MethodName) (head1 (Jvm.Cond.code (⟨"java/util/ImmutableCollections$ListN", "isEmpty", "()Z"⟩ : MethodName) jdk_45_method_2_code 1 (some .boolean) :: ws) ({ frames := 0, cells := 0, slots := 0, locals := 0 } : Room)) (fun aa U => aa = #[.ref x] ∧ Z.Warmed39 U.vm ∧ U.heap = h0) (fun _ _ _ _ _ => True) (fun _ U o U' => Own.End U (Q_lnE1 Z x xt kx z vs h0 n0) 0 0 o U') := by
  refine MetFree.of_bodySF (plainFor_of_name pn_7) hisR ?_
  intro p e s m args below meth c s₁ Bd hml0 hP hK
  obtain ⟨rfl, hZ, hh⟩ := hP
  have hx := Bd.exec
  have hby := Bd.bytes
  have hml : c.maxLocals = 1 := hml0
  have hown : s.vm.findClass "java/util/ImmutableCollections$ListN" = some m.cls := findClass_of_methodNamed Bd.named
  have hnm := (name_of_methodNamed Bd.named Bd.method).1
  have hret := Bd.returns
  have hlocks : meth.locks = false := Bd.notSynchronized
  have X0 : Stand p l e ({ frames := 0, cells := 0, slots := 0, locals := 0 } : Room) s m #[.ref x] below meth c s₁ [] 0 0 := Stand.of_body Bd
  have e0 : s₁.heap = h0 := by rw [← hh, Bd.state]; rfl
  have N0 := Fr.nil n0
  show Own.Go p e below (Own.End s (Q_lnE1 Z x xt kx z vs h0 n0) 0 0) (s₁.setTop (entryFrame m #[.ref x] 1))
  refine Own.Go.eq (ef_lnE1 m x) ?_
  refine Own.g_aloadN X0 hx (hb hby d29_0) rfl rfl 1 rfl ?_
  refine Own.g_getF X0 hx hZ hown (host := "") (Or.inl (hw _ (List.mem_of_getElem? (i := 182) rfl))) Via.refl e0 F_x_elements (hb hby d29_1) 4 rfl ?_
  intro T1 X1 e1
  refine Own.g_alen X1 hx hZ e1 V_xt (hb hby d29_4) 5 rfl ?_
  refine Own.g_if_ne_t X1 hx (hb hby d29_5) hz 12 (by decide) ?_
  refine Own.g_iconst X1 hx (0 : Int32) (hb hby d29_12) rfl 13 rfl ?_
  refine Own.g_ret X1 hx hret hlocks rfl (Or.inl ⟨rfl, by simp, _, rfl⟩) (hb hby d29_13) (by decide) (by decide) e1 ?_
  exact ⟨rfl, N0, rfl⟩
theorem ef_l12E (m : MethodId) (x0 : Addr) : entryFrame m #[.ref x0] 1 = mkF m 0 #[.val (.ref x0)] [] := by first | (simp [entryFrame, mkF, argsToLocals, Value.category]; done) | rfl
def Q_l12E (Z : State) (x : Addr) (h0 : Heap) (n0 : Nat) (v : Option Value) (h : Heap) (L : List Loc) : Prop := v = some (.int 0) ∧ Fr n0 L ∧ h = h0
set_option maxRecDepth 65536 in
set_option maxHeartbeats 40000000 in
theorem rm_l12E (l : Launch) (Z : State) (a0 : Array Value) (hw : ∀ d ∈ tables_1, d.before a0 Z = true) (ws : List Jvm.Cond) (x : Addr) (h0 : Heap) (n0 : Nat) (O : Old Z n0 h0)  :
    MetFree l (⟨"java/util/ImmutableCollections$List12", "isEmpty", "()Z"⟩ : MethodName) (head1 (Jvm.Cond.code (⟨"java/util/ImmutableCollections$List12", "isEmpty", "()Z"⟩ : MethodName) jdk_44_method_4_code 1 (some .boolean) :: ws) ({ frames := 0, cells := 0, slots := 0, locals := 0 } : Room)) (fun aa U => aa = #[.ref x] ∧ Z.Warmed39 U.vm ∧ U.heap = h0) (fun _ _ _ _ _ => True) (fun _ U o U' => Own.End U (Q_l12E Z x h0 n0) 0 0 o U') := by
  refine MetFree.of_bodySF (plainFor_of_name pn_6) hisR ?_
  intro p e s m args below meth c s₁ Bd hml0 hP hK
  obtain ⟨rfl, hZ, hh⟩ := hP
  have hx := Bd.exec
  have hby := Bd.bytes
  have hml : c.maxLocals = 1 := hml0
  have hown : s.vm.findClass "java/util/ImmutableCollections$List12" = some m.cls := findClass_of_methodNamed Bd.named
  have hnm := (name_of_methodNamed Bd.named Bd.method).1
  have hret := Bd.returns
  have hlocks : meth.locks = false := Bd.notSynchronized
  have X0 : Stand p l e ({ frames := 0, cells := 0, slots := 0, locals := 0 } : Room) s m #[.ref x] below meth c s₁ [] 0 0 := Stand.of_body Bd
  have e0 : s₁.heap = h0 := by rw [← hh, Bd.state]; rfl
  have N0 := Fr.nil n0
  show Own.Go p e below (Own.End s (Q_l12E Z x h0 n0) 0 0) (s₁.setTop (entryFrame m #[.ref x] 1))
  refine Own.Go.eq (ef_l12E m x) ?_
  refine Own.g_iconst X0 hx (0 : Int32) (hb hby d30_0) rfl 1 rfl ?_
  refine Own.g_ret X0 hx hret hlocks rfl (Or.inl ⟨rfl, by simp, _, rfl⟩) (hb hby d30_1) (by decide) (by decide) e0 ?_
  exact ⟨rfl, N0, rfl⟩
theorem ef_cdE (m : MethodId) (x0 : Addr) : entryFrame m #[.ref x0] 1 = mkF m 0 #[.val (.ref x0)] [] := by first | (simp [entryFrame, mkF, argsToLocals, Value.category]; done) | rfl
def Q_cdE (Z : State) (x : Addr) (v2 : Value) (r1 : Addr) (r1t : Addr) (b1 : Bool) (r3 : Addr) (r3t : Addr) (b3 : Bool) (h0 : Heap) (n0 : Nat) (v : Option Value) (h : Heap) (L : List Loc) : Prop := v = some (.int (if b1 = true ∧ b3 = true then 1 else 0)) ∧ Fr n0 L ∧ h = h0
set_option maxRecDepth 65536 in
set_option maxHeartbeats 40000000 in
theorem rm_cdE (l : Launch) (Z : State) (a0 : Array Value) (hw : ∀ d ∈ tables_1, d.before a0 Z = true) (ws : List Jvm.Cond) (x : Addr) (v2 : Value) (r1 : Addr) (r1t : Addr) (b1 : Bool) (r3 : Addr) (r3t : Addr) (b3 : Bool) (h0 : Heap) (n0 : Nat) (O : Old Z n0 h0) (E_x : Exa Z h0 x "com/example/witnesseth/witnesseth/agreement/ClockDifferentials") (F_x_hours : Fld Z h0 x "com/example/witnesseth/witnesseth/agreement/ClockDifferentials" "hours" "Ljava/util/List;" (.ref r1)) (F_x_differentials : Fld Z h0 x "com/example/witnesseth/witnesseth/agreement/ClockDifferentials" "differentials" "Ljava/util/List;" v2) (F_x_shifts : Fld Z h0 x "com/example/witnesseth/witnesseth/agreement/ClockDifferentials" "shifts" "Ljava/util/List;" (.ref r3)) (I_r1 : Own.Im Z h0 r1 r1t b1) (I_r3 : Own.Im Z h0 r3 r3t b3) :
    MetFree l (⟨"com/example/witnesseth/witnesseth/agreement/ClockDifferentials", "isEmpty", "()Z"⟩ : MethodName) (head1 (Jvm.Cond.code (⟨"com/example/witnesseth/witnesseth/agreement/ClockDifferentials", "isEmpty", "()Z"⟩ : MethodName) prog_3_method_4_code 1 (some .boolean) :: ws) ({ frames := 1, cells := 0, slots := 0, locals := 20 } : Room)) (fun aa U => aa = #[.ref x] ∧ Z.Warmed39 U.vm ∧ U.heap = h0) (fun _ _ _ _ _ => True) (fun _ U o U' => Own.End U (Q_cdE Z x v2 r1 r1t b1 r3 r3t b3 h0 n0) 0 0 o U') := by
  refine MetFree.of_bodySF (plainFor_of_name pn_13) hisR ?_
  intro p e s m args below meth c s₁ Bd hml0 hP hK
  obtain ⟨rfl, hZ, hh⟩ := hP
  have hx := Bd.exec
  have hby := Bd.bytes
  have hml : c.maxLocals = 1 := hml0
  have hown : s.vm.findClass "com/example/witnesseth/witnesseth/agreement/ClockDifferentials" = some m.cls := findClass_of_methodNamed Bd.named
  have hnm := (name_of_methodNamed Bd.named Bd.method).1
  have hret := Bd.returns
  have hlocks : meth.locks = false := Bd.notSynchronized
  have X0 : Stand p l e ({ frames := 1, cells := 0, slots := 0, locals := 20 } : Room) s m #[.ref x] below meth c s₁ [] 0 0 := Stand.of_body Bd
  have e0 : s₁.heap = h0 := by rw [← hh, Bd.state]; rfl
  have N0 := Fr.nil n0
  show Own.Go p e below (Own.End s (Q_cdE Z x v2 r1 r1t b1 r3 r3t b3 h0 n0) 0 0) (s₁.setTop (entryFrame m #[.ref x] 1))
  refine Own.Go.eq (ef_cdE m x) ?_
  refine Own.g_aloadN X0 hx (hb hby d28_0) rfl rfl 1 rfl ?_
  refine Own.g_getF X0 hx hZ hown (host := "") (Or.inl (hw _ (List.mem_of_getElem? (i := 119) rfl))) Via.refl e0 F_x_hours (hb hby d28_1) 4 rfl ?_
  intro T1 X1 e1
  rcases I_r1 with ⟨hb_r1, -, E_r1⟩ | ⟨E_r1, -, F_r1_elements, k_r1, z_r1, vs_r1, V_r1, hz_r1⟩
  · subst hb_r1
    refine Own.g_iface X1 hx hZ (y := (⟨"java/util/List", "isEmpty", "()Z"⟩ : MethodName)) (z := (⟨"java/util/ImmutableCollections$List12", "isEmpty", "()Z"⟩ : MethodName)) hown (mvT hZ (hw _ (List.mem_of_getElem? (i := 211) rfl))) (mvT hZ (hw _ (List.mem_of_getElem? (i := 212) rfl))) (mvT hZ (hw _ (List.mem_of_getElem? (i := 213) rfl))) (mvT hZ (hw _ (List.mem_of_getElem? (i := 220) rfl))) (mvT hZ (hw _ (List.mem_of_getElem? (i := 221) rfl))) (mvT hZ (hw _ (List.mem_of_getElem? (i := 222) rfl))) (mvT hZ (hw _ (List.mem_of_getElem? (i := 223) rfl))) (mvT hZ (hw _ (List.mem_of_getElem? (i := 224) rfl))) (by decide) (a := r1) [] (Own.back (W := 0) (rm_l12E l Z a0 hw [] r1 h0 n0 O ) hZ (hw _ (List.mem_of_getElem? (i := 225) rfl)) (hw _ (List.mem_of_getElem? (i := 190) rfl)) (by decide) (by decide)) E_r1 e1 (by rw [hml]; rfl) [] (lenOf pd_12 rfl) rfl (Nat.le_of_ble_eq_true rfl) (hb hby d28_4) (by decide) (by decide) 9 rfl ?_
    rintro _ T2 L2 X2 ⟨rfl, N2q, eH2⟩
    have N2 := Fr.app N0 N2q
    show Own.Go p e below _ (T2.setTop (mkF m 9 #[.val (.ref x)] [(.int (0 : Int32))]))
    refine Own.g_if_eq_t X2 hx (hb hby d28_9) rfl 28 (by decide) ?_
    refine Own.g_iconst X2 hx (0 : Int32) (hb hby d28_28) rfl 29 rfl ?_
    refine Own.g_ret X2 hx hret hlocks rfl (Or.inl ⟨rfl, by simp, _, rfl⟩) (hb hby d28_29) (by decide) (by decide) eH2 ?_
    exact ⟨by rw [if_neg (fun q => by cases q.1)], N2, rfl⟩
  · cases b1
    · have hz : ¬ z_r1 = 0 := fun q => nomatch (hz_r1.mpr q)
      refine Own.g_iface X1 hx hZ (y := (⟨"java/util/List", "isEmpty", "()Z"⟩ : MethodName)) (z := (⟨"java/util/ImmutableCollections$ListN", "isEmpty", "()Z"⟩ : MethodName)) hown (mvT hZ (hw _ (List.mem_of_getElem? (i := 211) rfl))) (mvT hZ (hw _ (List.mem_of_getElem? (i := 212) rfl))) (mvT hZ (hw _ (List.mem_of_getElem? (i := 213) rfl))) (mvT hZ (hw _ (List.mem_of_getElem? (i := 214) rfl))) (mvT hZ (hw _ (List.mem_of_getElem? (i := 215) rfl))) (mvT hZ (hw _ (List.mem_of_getElem? (i := 216) rfl))) (mvT hZ (hw _ (List.mem_of_getElem? (i := 217) rfl))) (mvT hZ (hw _ (List.mem_of_getElem? (i := 218) rfl))) (by decide) (a := r1) [] (Own.back (W := 0) (rm_lnE1 l Z a0 hw [] r1 r1t k_r1 z_r1 vs_r1 h0 n0 O F_r1_elements V_r1 hz) hZ (hw _ (List.mem_of_getElem? (i := 219) rfl)) (hw _ (List.mem_of_getElem? (i := 163) rfl)) (by decide) (by decide)) E_r1 e1 (by rw [hml]; rfl) [] (lenOf pd_12 rfl) rfl (Nat.le_of_ble_eq_true rfl) (hb hby d28_4) (by decide) (by decide) 9 rfl ?_
      rintro _ T3 L3 X3 ⟨rfl, N3q, eH3⟩
      have N3 := Fr.app N0 N3q
      show Own.Go p e below _ (T3.setTop (mkF m 9 #[.val (.ref x)] [(.int (0 : Int32))]))
      refine Own.g_if_eq_t X3 hx (hb hby d28_9) rfl 28 (by decide) ?_
      refine Own.g_iconst X3 hx (0 : Int32) (hb hby d28_28) rfl 29 rfl ?_
      refine Own.g_ret X3 hx hret hlocks rfl (Or.inl ⟨rfl, by simp, _, rfl⟩) (hb hby d28_29) (by decide) (by decide) eH3 ?_
      exact ⟨by rw [if_neg (fun q => by cases q.1)], N3, rfl⟩
    · have hz : z_r1 = 0 := hz_r1.mp rfl
      refine Own.g_iface X1 hx hZ (y := (⟨"java/util/List", "isEmpty", "()Z"⟩ : MethodName)) (z := (⟨"java/util/ImmutableCollections$ListN", "isEmpty", "()Z"⟩ : MethodName)) hown (mvT hZ (hw _ (List.mem_of_getElem? (i := 211) rfl))) (mvT hZ (hw _ (List.mem_of_getElem? (i := 212) rfl))) (mvT hZ (hw _ (List.mem_of_getElem? (i := 213) rfl))) (mvT hZ (hw _ (List.mem_of_getElem? (i := 214) rfl))) (mvT hZ (hw _ (List.mem_of_getElem? (i := 215) rfl))) (mvT hZ (hw _ (List.mem_of_getElem? (i := 216) rfl))) (mvT hZ (hw _ (List.mem_of_getElem? (i := 217) rfl))) (mvT hZ (hw _ (List.mem_of_getElem? (i := 218) rfl))) (by decide) (a := r1) [] (Own.back (W := 0) (rm_lnE0 l Z a0 hw [] r1 r1t k_r1 z_r1 vs_r1 h0 n0 O F_r1_elements V_r1 hz) hZ (hw _ (List.mem_of_getElem? (i := 219) rfl)) (hw _ (List.mem_of_getElem? (i := 163) rfl)) (by decide) (by decide)) E_r1 e1 (by rw [hml]; rfl) [] (lenOf pd_12 rfl) rfl (Nat.le_of_ble_eq_true rfl) (hb hby d28_4) (by decide) (by decide) 9 rfl ?_
      rintro _ T4 L4 X4 ⟨rfl, N4q, eH4⟩
      have N4 := Fr.app N0 N4q
      show Own.Go p e below _ (T4.setTop (mkF m 9 #[.val (.ref x)] [(.int (1 : Int32))]))
      refine Own.g_if_eq_f X4 hx (hb hby d28_9) (by decide) 12 rfl ?_
      refine Own.g_aloadN X4 hx (hb hby d28_12) rfl rfl 13 rfl ?_
      refine Own.g_getF X4 hx hZ hown (host := "") (Or.inl (hw _ (List.mem_of_getElem? (i := 204) rfl))) Via.refl eH4 F_x_shifts (hb hby d28_13) 16 rfl ?_
      intro T5 X5 e5
      rcases I_r3 with ⟨hb_r3, -, E_r3⟩ | ⟨E_r3, -, F_r3_elements, k_r3, z_r3, vs_r3, V_r3, hz_r3⟩
      · subst hb_r3
        refine Own.g_iface X5 hx hZ (y := (⟨"java/util/List", "isEmpty", "()Z"⟩ : MethodName)) (z := (⟨"java/util/ImmutableCollections$List12", "isEmpty", "()Z"⟩ : MethodName)) hown (mvT hZ (hw _ (List.mem_of_getElem? (i := 211) rfl))) (mvT hZ (hw _ (List.mem_of_getElem? (i := 212) rfl))) (mvT hZ (hw _ (List.mem_of_getElem? (i := 213) rfl))) (mvT hZ (hw _ (List.mem_of_getElem? (i := 220) rfl))) (mvT hZ (hw _ (List.mem_of_getElem? (i := 221) rfl))) (mvT hZ (hw _ (List.mem_of_getElem? (i := 222) rfl))) (mvT hZ (hw _ (List.mem_of_getElem? (i := 223) rfl))) (mvT hZ (hw _ (List.mem_of_getElem? (i := 224) rfl))) (by decide) (a := r3) [] (Own.back (W := 0) (rm_l12E l Z a0 hw [] r3 h0 n0 O ) hZ (hw _ (List.mem_of_getElem? (i := 225) rfl)) (hw _ (List.mem_of_getElem? (i := 190) rfl)) (by decide) (by decide)) E_r3 e5 (by rw [hml]; rfl) [] (lenOf pd_12 rfl) rfl (Nat.le_of_ble_eq_true rfl) (hb hby d28_16) (by decide) (by decide) 21 rfl ?_
        rintro _ T6 L6 X6 ⟨rfl, N6q, eH6⟩
        have N6 := Fr.app N4 N6q
        show Own.Go p e below _ (T6.setTop (mkF m 21 #[.val (.ref x)] [(.int (0 : Int32))]))
        refine Own.g_if_eq_t X6 hx (hb hby d28_21) rfl 28 (by decide) ?_
        refine Own.g_iconst X6 hx (0 : Int32) (hb hby d28_28) rfl 29 rfl ?_
        refine Own.g_ret X6 hx hret hlocks rfl (Or.inl ⟨rfl, by simp, _, rfl⟩) (hb hby d28_29) (by decide) (by decide) eH6 ?_
        exact ⟨by rw [if_neg (fun q => by cases q.2)], N6, rfl⟩
      · cases b3
        · have hz : ¬ z_r3 = 0 := fun q => nomatch (hz_r3.mpr q)
          refine Own.g_iface X5 hx hZ (y := (⟨"java/util/List", "isEmpty", "()Z"⟩ : MethodName)) (z := (⟨"java/util/ImmutableCollections$ListN", "isEmpty", "()Z"⟩ : MethodName)) hown (mvT hZ (hw _ (List.mem_of_getElem? (i := 211) rfl))) (mvT hZ (hw _ (List.mem_of_getElem? (i := 212) rfl))) (mvT hZ (hw _ (List.mem_of_getElem? (i := 213) rfl))) (mvT hZ (hw _ (List.mem_of_getElem? (i := 214) rfl))) (mvT hZ (hw _ (List.mem_of_getElem? (i := 215) rfl))) (mvT hZ (hw _ (List.mem_of_getElem? (i := 216) rfl))) (mvT hZ (hw _ (List.mem_of_getElem? (i := 217) rfl))) (mvT hZ (hw _ (List.mem_of_getElem? (i := 218) rfl))) (by decide) (a := r3) [] (Own.back (W := 0) (rm_lnE1 l Z a0 hw [] r3 r3t k_r3 z_r3 vs_r3 h0 n0 O F_r3_elements V_r3 hz) hZ (hw _ (List.mem_of_getElem? (i := 219) rfl)) (hw _ (List.mem_of_getElem? (i := 163) rfl)) (by decide) (by decide)) E_r3 e5 (by rw [hml]; rfl) [] (lenOf pd_12 rfl) rfl (Nat.le_of_ble_eq_true rfl) (hb hby d28_16) (by decide) (by decide) 21 rfl ?_
          rintro _ T7 L7 X7 ⟨rfl, N7q, eH7⟩
          have N7 := Fr.app N4 N7q
          show Own.Go p e below _ (T7.setTop (mkF m 21 #[.val (.ref x)] [(.int (0 : Int32))]))
          refine Own.g_if_eq_t X7 hx (hb hby d28_21) rfl 28 (by decide) ?_
          refine Own.g_iconst X7 hx (0 : Int32) (hb hby d28_28) rfl 29 rfl ?_
          refine Own.g_ret X7 hx hret hlocks rfl (Or.inl ⟨rfl, by simp, _, rfl⟩) (hb hby d28_29) (by decide) (by decide) eH7 ?_
          exact ⟨by rw [if_neg (fun q => by cases q.2)], N7, rfl⟩
        · have hz : z_r3 = 0 := hz_r3.mp rfl
          refine Own.g_iface X5 hx hZ (y := (⟨"java/util/List", "isEmpty", "()Z"⟩ : MethodName)) (z := (⟨"java/util/ImmutableCollections$ListN", "isEmpty", "()Z"⟩ : MethodName)) hown (mvT hZ (hw _ (List.mem_of_getElem? (i := 211) rfl))) (mvT hZ (hw _ (List.mem_of_getElem? (i := 212) rfl))) (mvT hZ (hw _ (List.mem_of_getElem? (i := 213) rfl))) (mvT hZ (hw _ (List.mem_of_getElem? (i := 214) rfl))) (mvT hZ (hw _ (List.mem_of_getElem? (i := 215) rfl))) (mvT hZ (hw _ (List.mem_of_getElem? (i := 216) rfl))) (mvT hZ (hw _ (List.mem_of_getElem? (i := 217) rfl))) (mvT hZ (hw _ (List.mem_of_getElem? (i := 218) rfl))) (by decide) (a := r3) [] (Own.back (W := 0) (rm_lnE0 l Z a0 hw [] r3 r3t k_r3 z_r3 vs_r3 h0 n0 O F_r3_elements V_r3 hz) hZ (hw _ (List.mem_of_getElem? (i := 219) rfl)) (hw _ (List.mem_of_getElem? (i := 163) rfl)) (by decide) (by decide)) E_r3 e5 (by rw [hml]; rfl) [] (lenOf pd_12 rfl) rfl (Nat.le_of_ble_eq_true rfl) (hb hby d28_16) (by decide) (by decide) 21 rfl ?_
          rintro _ T8 L8 X8 ⟨rfl, N8q, eH8⟩
          have N8 := Fr.app N4 N8q
          show Own.Go p e below _ (T8.setTop (mkF m 21 #[.val (.ref x)] [(.int (1 : Int32))]))
          refine Own.g_if_eq_f X8 hx (hb hby d28_21) (by decide) 24 rfl ?_
          refine Own.g_iconst X8 hx (1 : Int32) (hb hby d28_24) rfl 25 rfl ?_
          refine Own.g_goto X8 hx (hb hby d28_25) 29 (by decide) ?_
          refine Own.g_ret X8 hx hret hlocks rfl (Or.inl ⟨rfl, by simp, _, rfl⟩) (hb hby d28_29) (by decide) (by decide) eH8 ?_
          exact ⟨by rw [if_pos ⟨rfl, rfl⟩], N8, rfl⟩
theorem ef_wsh (m : MethodId) (x0 : Addr) (x1 : Addr) : entryFrame m #[.ref x0, .ref x1] 2 = mkF m 0 #[.val (.ref x0), .val (.ref x1)] [] := by first | (simp [entryFrame, mkF, argsToLocals, Value.category]; done) | rfl
def Q_wsh (Z : State) (x : Addr) (v3 : Value) (r1 : Addr) (r1t : Addr) (b1 : Bool) (r2 : Addr) (r2t : Addr) (b2 : Bool) (g : Addr) (gt : Addr) (l3 : List Addr) (da : Addr) (kda : ClassId) (mr : Addr) (el : Addr) (ea : Addr) (em : Addr) (h0 : Heap) (n0 : Nat) (v : Option Value) (h : Heap) (L : List Loc) : Prop := ∃ u : Addr, v = some (.ref u) ∧ Fr n0 L ∧ Keep h0 h [] ∧ Exa Z h u "com/example/witnesseth/witnesseth/agreement/ClockDifferentials" ∧ ∃ (r1 : Addr) (r1t : Addr) (r2 : Addr) (r2t : Addr) (r3 : Addr) (r3t : Addr), Fld Z h u "com/example/witnesseth/witnesseth/agreement/ClockDifferentials" "hours" "Ljava/util/List;" (.ref r1) ∧ Fld Z h u "com/example/witnesseth/witnesseth/agreement/ClockDifferentials" "differentials" "Ljava/util/List;" (.ref r2) ∧ Fld Z h u "com/example/witnesseth/witnesseth/agreement/ClockDifferentials" "shifts" "Ljava/util/List;" (.ref r3) ∧ Own.Im Z h r1 r1t b1 ∧ Own.Im Z h r2 r2t b2 ∧ Own.Im Z h r3 r3t l3.isEmpty
set_option maxRecDepth 65536 in
set_option maxHeartbeats 40000000 in
theorem rm_wsh (l : Launch) (Z : State) (a0 : Array Value) (hw : ∀ d ∈ tables_1, d.before a0 Z = true) (ws : List Jvm.Cond) (x : Addr) (v3 : Value) (r1 : Addr) (r1t : Addr) (b1 : Bool) (r2 : Addr) (r2t : Addr) (b2 : Bool) (g : Addr) (gt : Addr) (l3 : List Addr) (da : Addr) (kda : ClassId) (mr : Addr) (el : Addr) (ea : Addr) (em : Addr) (h0 : Heap) (n0 : Nat) (O : Old Z n0 h0) (I_r1 : Own.Im Z h0 r1 r1t b1) (I_r2 : Own.Im Z h0 r2 r2t b2) (A_g : Own.AL Z h0 g gt l3) (hl3 : l3 = [] ∨ (∃ y1 : Addr, l3 = [y1]) ∨ (∃ y1 y2 : Addr, l3 = [y1, y2]) ∨ (∃ y1 y2 y3 : Addr, l3 = [y1, y2, y3])) (SD : Sta Z Z.heap "java/util/ArrayList" "DEFAULTCAPACITY_EMPTY_ELEMENTDATA" "[Ljava/lang/Object;" (.ref da)) (AD : Arv Z Z.heap da kda (.object "java/lang/Object") 0 [] .null) (M : Mir Z "[Ljava/lang/Object;" mr) (SEL : Sta Z Z.heap "java/util/ImmutableCollections" "EMPTY_LIST" "Ljava/util/ImmutableCollections$ListN;" (.ref el)) (IMel : Own.Im Z Z.heap el ea true) (SEM : Sta Z Z.heap "java/util/ImmutableCollections" "EMPTY" "Ljava/lang/Object;" (.ref em)) (E_x : Exa Z h0 x "com/example/witnesseth/witnesseth/agreement/ClockDifferentials") (F_x_hours : Fld Z h0 x "com/example/witnesseth/witnesseth/agreement/ClockDifferentials" "hours" "Ljava/util/List;" (.ref r1)) (F_x_differentials : Fld Z h0 x "com/example/witnesseth/witnesseth/agreement/ClockDifferentials" "differentials" "Ljava/util/List;" (.ref r2)) (F_x_shifts : Fld Z h0 x "com/example/witnesseth/witnesseth/agreement/ClockDifferentials" "shifts" "Ljava/util/List;" v3) :
    MetFree l (⟨"com/example/witnesseth/witnesseth/agreement/ClockDifferentials", "withShifts", "(Ljava/util/List;)Lcom/example/witnesseth/witnesseth/agreement/ClockDifferentials;"⟩ : MethodName) (head1 (Jvm.Cond.code (⟨"com/example/witnesseth/witnesseth/agreement/ClockDifferentials", "withShifts", "(Ljava/util/List;)Lcom/example/witnesseth/witnesseth/agreement/ClockDifferentials;"⟩ : MethodName) prog_3_method_2_code 2 (some (.object "com/example/witnesseth/witnesseth/agreement/ClockDifferentials")) :: ws) ({ frames := 10, cells := 4, slots := 11, locals := 215 } : Room)) (fun aa U => aa = #[.ref x, .ref g] ∧ Z.Warmed39 U.vm ∧ U.heap = h0) (fun _ _ _ _ _ => True) (fun _ U o U' => Own.End U (Q_wsh Z x v3 r1 r1t b1 r2 r2t b2 g gt l3 da kda mr el ea em h0 n0) 4 11 o U') := by
  refine MetFree.of_bodySF (plainFor_of_name pn_13) hisR ?_
  intro p e s m args below meth c s₁ Bd hml0 hP hK
  obtain ⟨rfl, hZ, hh⟩ := hP
  have hx := Bd.exec
  have hby := Bd.bytes
  have hml : c.maxLocals = 2 := hml0
  have hown : s.vm.findClass "com/example/witnesseth/witnesseth/agreement/ClockDifferentials" = some m.cls := findClass_of_methodNamed Bd.named
  have hnm := (name_of_methodNamed Bd.named Bd.method).1
  have hret := Bd.returns
  have hlocks : meth.locks = false := Bd.notSynchronized
  have X0 : Stand p l e ({ frames := 10, cells := 4, slots := 11, locals := 215 } : Room) s m #[.ref x, .ref g] below meth c s₁ [] 0 0 := Stand.of_body Bd
  have e0 : s₁.heap = h0 := by rw [← hh, Bd.state]; rfl
  have N0 := Fr.nil n0
  show Own.Go p e below (Own.End s (Q_wsh Z x v3 r1 r1t b1 r2 r2t b2 g gt l3 da kda mr el ea em h0 n0) 4 11) (s₁.setTop (entryFrame m #[.ref x, .ref g] 2))
  refine Own.Go.eq (ef_wsh m x g) ?_
  have KP : Keep h0 h0 [] := Keep.refl _ _
  refine Own.g_new X0 hx hZ hown (hw _ (List.mem_of_getElem? (i := 231) rfl)) (hw _ (List.mem_of_getElem? (i := 112) rfl)) (hw _ (List.mem_of_getElem? (i := 113) rfl)) e0 (hb hby d31_0) (by decide) (by decide) 3 rfl ?_
  intro T1 h1 u X1 e1 E1 g1 E_u D1
  have n0_u : n0 ≤ u := Nat.le_trans (Nat.le_of_eq O.1.symm) (Nat.le_trans O.2.1 (Nat.le_of_eq g1.symm))
  have sz0_u : h0.size ≤ u := Nat.le_trans KP.1 (Nat.le_of_eq g1.symm)
  replace E_x := E_x.ext E1
  replace F_x_hours := F_x_hours.ext E1
  replace F_x_differentials := F_x_differentials.ext E1
  replace F_x_shifts := F_x_shifts.ext E1
  replace I_r1 := I_r1.ext E1
  replace I_r2 := I_r2.ext E1
  replace A_g := A_g.ext E1
  replace O := O.ext E1
  replace KP := KP.ext E1
  have F_u_hours : Fld Z h1 u "com/example/witnesseth/witnesseth/agreement/ClockDifferentials" "hours" "Ljava/util/List;" .null := D1 (Or.inr (hw _ (List.mem_of_getElem? (i := 120) rfl))) (ty := (.object "java/util/List")) (by decide)
  have F_u_differentials : Fld Z h1 u "com/example/witnesseth/witnesseth/agreement/ClockDifferentials" "differentials" "Ljava/util/List;" .null := D1 (Or.inr (hw _ (List.mem_of_getElem? (i := 187) rfl))) (ty := (.object "java/util/List")) (by decide)
  have F_u_shifts : Fld Z h1 u "com/example/witnesseth/witnesseth/agreement/ClockDifferentials" "shifts" "Ljava/util/List;" .null := D1 (Or.inr (hw _ (List.mem_of_getElem? (i := 205) rfl))) (ty := (.object "java/util/List")) (by decide)
  refine Own.g_dup X1 hx (hb hby d31_3) rfl 4 rfl ?_
  refine Own.g_aloadN X1 hx (hb hby d31_4) rfl rfl 5 rfl ?_
  refine Own.g_getF X1 hx hZ hown (host := "") (Or.inl (hw _ (List.mem_of_getElem? (i := 119) rfl))) Via.refl e1 F_x_hours (hb hby d31_5) 8 rfl ?_
  intro T2 X2 e2
  refine Own.g_aloadN X2 hx (hb hby d31_8) rfl rfl 9 rfl ?_
  refine Own.g_getF X2 hx hZ hown (host := "") (Or.inl (hw _ (List.mem_of_getElem? (i := 186) rfl))) Via.refl e2 F_x_differentials (hb hby d31_9) 12 rfl ?_
  intro T3 X3 e3
  refine Own.g_aloadN X3 hx (hb hby d31_12) rfl rfl 13 rfl ?_
  refine Own.g_special X3 hx (y := (⟨"com/example/witnesseth/witnesseth/agreement/ClockDifferentials", "<init>", "(Ljava/util/List;Ljava/util/List;Ljava/util/List;)V"⟩ : MethodName)) rfl hown (mvT hZ (hw _ (List.mem_of_getElem? (i := 232) rfl))) (mvT hZ (hw _ (List.mem_of_getElem? (i := 115) rfl))) (mvT hZ (hw _ (List.mem_of_getElem? (i := 116) rfl))) (by decide) (a := u) [.ref r1, .ref r2, .ref g] (Own.back (W := 1) (rm_cdI l Z a0 hw [] u r1 r1t b1 r2 r2t b2 g gt l3 da kda mr el ea em h1 n0 O n0_u I_r1 I_r2 A_g hl3 SD AD M SEL IMel SEM E_u F_u_hours F_u_differentials F_u_shifts) hZ (hw _ (List.mem_of_getElem? (i := 116) rfl)) (hw _ (List.mem_of_getElem? (i := 113) rfl)) (by decide) (by decide)) e3 (by rw [hml]; rfl) [(.ref u)] (lenOf pd_15 rfl) rfl (Nat.le_of_ble_eq_true rfl) (hb hby d31_13) (by decide) (by decide) 16 rfl ?_
  rintro _ T4 L4 X4 ⟨rfl, N4q, K4, GQ⟩
  have N4 := Fr.app N0 N4q
  replace O := O.keep K4 (allS n0_u all0)
  replace KP := KP.trans K4 (allS (Or.inr sz0_u) all0)
  show Own.Go p e below _ (T4.setTop (mkF m 16 #[.val (.ref x), .val (.ref g)] [(.ref u)]))
  refine Own.g_ret X4 hx hret hlocks rfl (Or.inr (Or.inr (Or.inr (Or.inr ⟨rfl, rfl, rfl⟩)))) (hb hby d31_16) (by decide) (by decide) (rfl : T4.heap = T4.heap) ?_
  exact ⟨u, rfl, N4, KP, GQ⟩
set_option maxRecDepth 65536 in
set_option maxHeartbeats 40000000 in
theorem st_250 {p : Program} {l : Launch} {e : Env} {s : State} {m : MethodId} {args : Array Value} {below : List Frame} {meth : Method} {c : Code} {T0 : State} {locs : List Loc} {Z : State} {a0 : Array Value} {hh : Heap} {n0 : Nat} {Q : Option Value → Heap → List Loc → Prop} (hQ : ∀ h L, Fr n0 L → Q (some (.int 1)) h L)  (hx : p.tables.exec = Jvm.exec) (hZ : Z.Warmed39 s.vm) (hw : ∀ d ∈ tables_1, d.before a0 Z = true) (hby : c.code = code) (hml : c.maxLocals = 17) (hown : s.vm.findClass "com/example/witnesseth/witnesseth/agreement/ClockDifferentialsIsEmptyPinLaw" = some m.cls) (hret : meth.sig.returnType = (some .boolean)) (hlocks : meth.locks = false)
    (p1 p2 p3 p4 na nb nc nd : Int32) (df sh : Addr) (ya yat : Addr) (l1 : List Addr) (yb ybt : Addr) (l2 : List Addr) (yc yct : Addr) (l3 : List Addr) (yd ydt : Addr) (l4 : List Addr) (da : Addr) (kda : ClassId) (mr : Addr) (el : Addr) (ea : Addr) (em : Addr) (X0 : Stand p l e room_1 s m args below meth c T0 locs 28 172) (e0 : T0.heap = hh) (N0 : Fr n0 locs) (O : Old Z n0 hh) (A_ya : Own.AL Z hh ya yat l1) (A_yb : Own.AL Z hh yb ybt l2) (A_yc : Own.AL Z hh yc yct l3) (A_yd : Own.AL Z hh yd ydt l4)   (SD : Sta Z Z.heap "java/util/ArrayList" "DEFAULTCAPACITY_EMPTY_ELEMENTDATA" "[Ljava/lang/Object;" (.ref da)) (AD : Arv Z Z.heap da kda (.object "java/lang/Object") 0 [] .null) (M : Mir Z "[Ljava/lang/Object;" mr) (SEL : Sta Z Z.heap "java/util/ImmutableCollections" "EMPTY_LIST" "Ljava/util/ImmutableCollections$ListN;" (.ref el)) (IMel : Own.Im Z Z.heap el ea true) (SEM : Sta Z Z.heap "java/util/ImmutableCollections" "EMPTY" "Ljava/lang/Object;" (.ref em)) (hl1 : l1 = [] ∨ (∃ y1 : Addr, l1 = [y1]) ∨ (∃ y1 y2 : Addr, l1 = [y1, y2]) ∨ (∃ y1 y2 y3 : Addr, l1 = [y1, y2, y3])) (he1 : l1.isEmpty = true ↔ na = 0) (hl2 : l2 = [] ∨ (∃ y1 : Addr, l2 = [y1]) ∨ (∃ y1 y2 : Addr, l2 = [y1, y2]) ∨ (∃ y1 y2 y3 : Addr, l2 = [y1, y2, y3])) (he2 : l2.isEmpty = true ↔ nb = 0) (hl3 : l3 = [] ∨ (∃ y1 : Addr, l3 = [y1]) ∨ (∃ y1 y2 : Addr, l3 = [y1, y2]) ∨ (∃ y1 y2 y3 : Addr, l3 = [y1, y2, y3])) (he3 : l3.isEmpty = true ↔ nc = 0) (hl4 : l4 = [] ∨ (∃ y1 : Addr, l4 = [y1]) ∨ (∃ y1 y2 : Addr, l4 = [y1, y2]) ∨ (∃ y1 y2 y3 : Addr, l4 = [y1, y2, y3])) (he4 : l4.isEmpty = true ↔ nd = 0) :
    Own.Go p e below (Own.End s Q 64 320) (T0.setTop (mkF m 250 #[.val (.int p1), .val (.int p2), .val (.int p3), .val (.int p4), .val (.int na), .val (.int nb), .val (.int nc), .val (.int nd), .val (.ref df), .val (.ref sh), .val (.ref ya), .val (.ref yb), .val (.ref yc), .val (.ref yd), .unset, .unset, .unset] [])) := by
  refine Own.g_new X0 hx hZ hown (hw _ (List.mem_of_getElem? (i := 111) rfl)) (hw _ (List.mem_of_getElem? (i := 112) rfl)) (hw _ (List.mem_of_getElem? (i := 113) rfl)) e0 (hb hby at_250) (by decide) (by decide) 253 rfl ?_
  intro T1 h1 cd X1 e1 E1 g1 E_cd D1
  have ne_ya_cd : ya ≠ cd := Nat.ne_of_lt (Nat.lt_of_lt_of_le (A_ya.lt) (Nat.le_of_eq g1.symm))
  have ne_yat_cd : yat ≠ cd := Nat.ne_of_lt (Nat.lt_of_lt_of_le (A_ya.lt2) (Nat.le_of_eq g1.symm))
  have ne_yb_cd : yb ≠ cd := Nat.ne_of_lt (Nat.lt_of_lt_of_le (A_yb.lt) (Nat.le_of_eq g1.symm))
  have ne_ybt_cd : ybt ≠ cd := Nat.ne_of_lt (Nat.lt_of_lt_of_le (A_yb.lt2) (Nat.le_of_eq g1.symm))
  have ne_yc_cd : yc ≠ cd := Nat.ne_of_lt (Nat.lt_of_lt_of_le (A_yc.lt) (Nat.le_of_eq g1.symm))
  have ne_yct_cd : yct ≠ cd := Nat.ne_of_lt (Nat.lt_of_lt_of_le (A_yc.lt2) (Nat.le_of_eq g1.symm))
  have ne_yd_cd : yd ≠ cd := Nat.ne_of_lt (Nat.lt_of_lt_of_le (A_yd.lt) (Nat.le_of_eq g1.symm))
  have ne_ydt_cd : ydt ≠ cd := Nat.ne_of_lt (Nat.lt_of_lt_of_le (A_yd.lt2) (Nat.le_of_eq g1.symm))
  have n0_cd : n0 ≤ cd := Nat.le_trans (Nat.le_of_eq O.1.symm) (Nat.le_trans O.2.1 (Nat.le_of_eq g1.symm))
  replace A_ya := A_ya.ext E1
  replace A_yb := A_yb.ext E1
  replace A_yc := A_yc.ext E1
  replace A_yd := A_yd.ext E1
  replace O := O.ext E1
  have F_cd_hours : Fld Z h1 cd "com/example/witnesseth/witnesseth/agreement/ClockDifferentials" "hours" "Ljava/util/List;" .null := D1 (Or.inr (hw _ (List.mem_of_getElem? (i := 120) rfl))) (ty := (.object "java/util/List")) (by decide)
  have F_cd_differentials : Fld Z h1 cd "com/example/witnesseth/witnesseth/agreement/ClockDifferentials" "differentials" "Ljava/util/List;" .null := D1 (Or.inr (hw _ (List.mem_of_getElem? (i := 187) rfl))) (ty := (.object "java/util/List")) (by decide)
  have F_cd_shifts : Fld Z h1 cd "com/example/witnesseth/witnesseth/agreement/ClockDifferentials" "shifts" "Ljava/util/List;" .null := D1 (Or.inr (hw _ (List.mem_of_getElem? (i := 205) rfl))) (ty := (.object "java/util/List")) (by decide)
  refine Own.g_dup X1 hx (hb hby at_253) rfl 254 rfl ?_
  refine Own.g_aload X1 hx (hb hby at_254) rfl rfl 256 rfl ?_
  refine Own.g_aload X1 hx (hb hby at_256) rfl rfl 258 rfl ?_
  refine Own.g_aload X1 hx (hb hby at_258) rfl rfl 260 rfl ?_
  refine Own.g_special X1 hx (y := (⟨"com/example/witnesseth/witnesseth/agreement/ClockDifferentials", "<init>", "(Ljava/util/List;Ljava/util/List;Ljava/util/List;)V"⟩ : MethodName)) rfl hown (mvT hZ (hw _ (List.mem_of_getElem? (i := 114) rfl))) (mvT hZ (hw _ (List.mem_of_getElem? (i := 115) rfl))) (mvT hZ (hw _ (List.mem_of_getElem? (i := 116) rfl))) (by decide) (a := cd) [.ref ya, .ref yb, .ref yc] (Own.back (W := 1) (rm_cdA l Z a0 hw [] cd ya yat yb ybt yc yct l1 l2 l3 da kda mr el ea em h1 n0 O n0_cd A_ya hl1 A_yb hl2 A_yc hl3 SD AD M SEL IMel SEM E_cd F_cd_hours F_cd_differentials F_cd_shifts) hZ (hw _ (List.mem_of_getElem? (i := 116) rfl)) (hw _ (List.mem_of_getElem? (i := 113) rfl)) (by decide) (by decide)) e1 (by rw [hml]; rfl) [(.ref cd)] (lenOf pd_15 rfl) rfl (Nat.le_of_ble_eq_true rfl) (hb hby at_260) (by decide) (by decide) 263 rfl ?_
  rintro _ T2 L2 X2 ⟨rfl, N2q, K2, E_cd, r1, r1t, r2, r2t, r3, r3t, F_cd_hours, F_cd_differentials, F_cd_shifts, I_r1, I_r2, I_r3⟩
  have N2 := Fr.app N0 N2q
  replace A_yd := A_yd.keep K2 (ninS ne_yd_cd nin0) (ninS ne_ydt_cd nin0)
  replace O := O.keep K2 (allS n0_cd all0)
  show Own.Go p e below _ (T2.setTop (mkF m 263 #[.val (.int p1), .val (.int p2), .val (.int p3), .val (.int p4), .val (.int na), .val (.int nb), .val (.int nc), .val (.int nd), .val (.ref df), .val (.ref sh), .val (.ref ya), .val (.ref yb), .val (.ref yc), .val (.ref yd), .unset, .unset, .unset] [(.ref cd)]))
  refine Own.g_astore X2 hx #[.val (.int p1), .val (.int p2), .val (.int p3), .val (.int p4), .val (.int na), .val (.int nb), .val (.int nc), .val (.int nd), .val (.ref df), .val (.ref sh), .val (.ref ya), .val (.ref yb), .val (.ref yc), .val (.ref yd), .val (.ref cd), .unset, .unset] (hb hby at_263) rfl rfl 265 rfl ?_
  refine Own.g_aload X2 hx (hb hby at_265) rfl rfl 267 rfl ?_
  refine Own.g_virtual X2 hx hZ (y := (⟨"com/example/witnesseth/witnesseth/agreement/ClockDifferentials", "isEmpty", "()Z"⟩ : MethodName)) (z := (⟨"com/example/witnesseth/witnesseth/agreement/ClockDifferentials", "isEmpty", "()Z"⟩ : MethodName)) hown (mvT hZ (hw _ (List.mem_of_getElem? (i := 206) rfl))) (mvT hZ (hw _ (List.mem_of_getElem? (i := 207) rfl))) (notFace_of_selects (args := #[]) (mvT hZ (hw _ (List.mem_of_getElem? (i := 209) rfl)))) (mvT hZ (hw _ (List.mem_of_getElem? (i := 209) rfl))) (mvT hZ (hw _ (List.mem_of_getElem? (i := 208) rfl))) (by decide) (a := cd) [] (Own.back (W := 0) (rm_cdE l Z a0 hw [] cd (.ref r2) r1 r1t l1.isEmpty r3 r3t l3.isEmpty T2.heap n0 O E_cd F_cd_hours F_cd_differentials F_cd_shifts I_r1 I_r3) hZ (hw _ (List.mem_of_getElem? (i := 210) rfl)) (hw _ (List.mem_of_getElem? (i := 113) rfl)) (by decide) (by decide)) E_cd (rfl : T2.heap = T2.heap) (by rw [hml]; rfl) [] (lenOf pd_12 rfl) rfl (Nat.le_of_ble_eq_true rfl) (hb hby at_267) (by decide) (by decide) 270 rfl ?_
  rintro _ T3 L3 X3 ⟨rfl, N3q, eH3⟩
  have N3 := Fr.app N2 N3q
  show Own.Go p e below _ (T3.setTop (mkF m 270 #[.val (.int p1), .val (.int p2), .val (.int p3), .val (.int p4), .val (.int na), .val (.int nb), .val (.int nc), .val (.int nd), .val (.ref df), .val (.ref sh), .val (.ref ya), .val (.ref yb), .val (.ref yc), .val (.ref yd), .val (.ref cd), .unset, .unset] [(.int (if l1.isEmpty = true ∧ l3.isEmpty = true then 1 else 0))]))
  have hT : ∀ (Tt : State) (lt : List Loc) (Xt : Stand p l e room_1 s m args below meth c Tt lt 38 199) (et : Tt.heap = T2.heap) (Nt : Fr n0 lt) , Own.Go p e below (Own.End s Q 64 320) (Tt.setTop (mkF m 295 #[.val (.int p1), .val (.int p2), .val (.int p3), .val (.int p4), .val (.int na), .val (.int nb), .val (.int nc), .val (.int nd), .val (.ref df), .val (.ref sh), .val (.ref ya), .val (.ref yb), .val (.ref yc), .val (.ref yd), .val (.ref cd), .val (.int (1 : Int32)), .unset] [])) := by
    intro Tt lt Xt et Nt 
    refine Own.g_aload Xt hx (hb hby at_295) rfl rfl 297 rfl ?_
    refine Own.g_aload Xt hx (hb hby at_297) rfl rfl 299 rfl ?_
    refine Own.g_virtual Xt hx hZ (y := (⟨"com/example/witnesseth/witnesseth/agreement/ClockDifferentials", "withShifts", "(Ljava/util/List;)Lcom/example/witnesseth/witnesseth/agreement/ClockDifferentials;"⟩ : MethodName)) (z := (⟨"com/example/witnesseth/witnesseth/agreement/ClockDifferentials", "withShifts", "(Ljava/util/List;)Lcom/example/witnesseth/witnesseth/agreement/ClockDifferentials;"⟩ : MethodName)) hown (mvT hZ (hw _ (List.mem_of_getElem? (i := 226) rfl))) (mvT hZ (hw _ (List.mem_of_getElem? (i := 227) rfl))) (notFace_of_selects (args := #[]) (mvT hZ (hw _ (List.mem_of_getElem? (i := 229) rfl)))) (mvT hZ (hw _ (List.mem_of_getElem? (i := 229) rfl))) (mvT hZ (hw _ (List.mem_of_getElem? (i := 228) rfl))) (by decide) (a := cd) [.ref yd] (Own.back (W := 0) (rm_wsh l Z a0 hw [] cd (.ref r3) r1 r1t l1.isEmpty r2 r2t l2.isEmpty yd ydt l4 da kda mr el ea em T2.heap n0 O I_r1 I_r2 A_yd hl4 SD AD M SEL IMel SEM E_cd F_cd_hours F_cd_differentials F_cd_shifts) hZ (hw _ (List.mem_of_getElem? (i := 230) rfl)) (hw _ (List.mem_of_getElem? (i := 113) rfl)) (by decide) (by decide)) E_cd et (by rw [hml]; rfl) [] (lenOf pd_16 rfl) rfl (Nat.le_of_ble_eq_true rfl) (hb hby at_299) (by decide) (by decide) 302 rfl ?_
    rintro _ T4 L4 X4 ⟨u, rfl, N4q, K4, E_u, m1, m1t, m2, m2t, m3, m3t, F_u_hours, F_u_differentials, F_u_shifts, I_m1, I_m2, I_m3⟩
    have N4 := Fr.app Nt N4q
    replace O := O.keep K4 all0
    show Own.Go p e below _ (T4.setTop (mkF m 302 #[.val (.int p1), .val (.int p2), .val (.int p3), .val (.int p4), .val (.int na), .val (.int nb), .val (.int nc), .val (.int nd), .val (.ref df), .val (.ref sh), .val (.ref ya), .val (.ref yb), .val (.ref yc), .val (.ref yd), .val (.ref cd), .val (.int (1 : Int32)), .unset] [(.ref u)]))
    refine Own.g_virtual X4 hx hZ (y := (⟨"com/example/witnesseth/witnesseth/agreement/ClockDifferentials", "isEmpty", "()Z"⟩ : MethodName)) (z := (⟨"com/example/witnesseth/witnesseth/agreement/ClockDifferentials", "isEmpty", "()Z"⟩ : MethodName)) hown (mvT hZ (hw _ (List.mem_of_getElem? (i := 206) rfl))) (mvT hZ (hw _ (List.mem_of_getElem? (i := 207) rfl))) (notFace_of_selects (args := #[]) (mvT hZ (hw _ (List.mem_of_getElem? (i := 209) rfl)))) (mvT hZ (hw _ (List.mem_of_getElem? (i := 209) rfl))) (mvT hZ (hw _ (List.mem_of_getElem? (i := 208) rfl))) (by decide) (a := u) [] (Own.back (W := 0) (rm_cdE l Z a0 hw [] u (.ref m2) m1 m1t l1.isEmpty m3 m3t l4.isEmpty T4.heap n0 O E_u F_u_hours F_u_differentials F_u_shifts I_m1 I_m3) hZ (hw _ (List.mem_of_getElem? (i := 210) rfl)) (hw _ (List.mem_of_getElem? (i := 113) rfl)) (by decide) (by decide)) E_u (rfl : T4.heap = T4.heap) (by rw [hml]; rfl) [] (lenOf pd_12 rfl) rfl (Nat.le_of_ble_eq_true rfl) (hb hby at_302) (by decide) (by decide) 305 rfl ?_
    rintro _ T5 L5 X5 ⟨rfl, N5q, eH5⟩
    have N5 := Fr.app N4 N5q
    show Own.Go p e below _ (T5.setTop (mkF m 305 #[.val (.int p1), .val (.int p2), .val (.int p3), .val (.int p4), .val (.int na), .val (.int nb), .val (.int nc), .val (.int nd), .val (.ref df), .val (.ref sh), .val (.ref ya), .val (.ref yb), .val (.ref yc), .val (.ref yd), .val (.ref cd), .val (.int (1 : Int32)), .unset] [(.int (if l1.isEmpty = true ∧ l4.isEmpty = true then 1 else 0))]))
    refine Own.g_iload X5 hx (hb hby at_305) rfl 307 rfl ?_
    refine Own.g_if_ne X5 hx (hb hby at_307) 319 310 (by decide) rfl ?_ ?_
    · intro hq1
      rw [if_neg (fun q => hq1 (he1.mp q.1))]
      show Own.Go p e below _ (T5.setTop (mkF m 319 #[.val (.int p1), .val (.int p2), .val (.int p3), .val (.int p4), .val (.int na), .val (.int nb), .val (.int nc), .val (.int nd), .val (.ref df), .val (.ref sh), .val (.ref ya), .val (.ref yb), .val (.ref yc), .val (.ref yd), .val (.ref cd), .val (.int (1 : Int32)), .unset] [(.int (0 : Int32))]))
      refine Own.g_iconst X5 hx (0 : Int32) (hb hby at_319) rfl 320 rfl ?_
      refine Own.g_icmp_ne_f X5 hx (hb hby at_320) (by decide) 323 rfl ?_
      refine Own.g_iconst X5 hx (1 : Int32) (hb hby at_323) rfl 324 rfl ?_
      refine Own.g_goto X5 hx (hb hby at_324) 328 (by decide) ?_
      refine Own.g_istore X5 hx #[.val (.int p1), .val (.int p2), .val (.int p3), .val (.int p4), .val (.int na), .val (.int nb), .val (.int nc), .val (.int nd), .val (.ref df), .val (.ref sh), .val (.ref ya), .val (.ref yb), .val (.ref yc), .val (.ref yd), .val (.ref cd), .val (.int (1 : Int32)), .val (.int (1 : Int32))] (hb hby at_328) rfl 330 rfl ?_
      refine Own.g_iload X5 hx (hb hby at_330) rfl 332 rfl ?_
      refine Own.g_if_eq_f X5 hx (hb hby at_332) (by decide) 335 rfl ?_
      refine Own.g_iload X5 hx (hb hby at_335) rfl 337 rfl ?_
      refine Own.g_if_eq_f X5 hx (hb hby at_337) (by decide) 340 rfl ?_
      refine Own.g_iconst X5 hx (1 : Int32) (hb hby at_340) rfl 341 rfl ?_
      refine Own.g_goto X5 hx (hb hby at_341) 345 (by decide) ?_
      refine Own.g_ret X5 hx hret hlocks rfl (Or.inl ⟨rfl, by simp, _, rfl⟩) (hb hby at_345) (by decide) (by decide) eH5 ?_
      exact hQ _ _ N5
    · intro hq1
      refine Own.g_iload X5 hx (hb hby at_310) rfl 312 rfl ?_
      refine Own.g_if_ne X5 hx (hb hby at_312) 319 315 (by decide) rfl ?_ ?_
      · intro hq2
        rw [if_neg (fun q => hq2 (he4.mp q.2))]
        show Own.Go p e below _ (T5.setTop (mkF m 319 #[.val (.int p1), .val (.int p2), .val (.int p3), .val (.int p4), .val (.int na), .val (.int nb), .val (.int nc), .val (.int nd), .val (.ref df), .val (.ref sh), .val (.ref ya), .val (.ref yb), .val (.ref yc), .val (.ref yd), .val (.ref cd), .val (.int (1 : Int32)), .unset] [(.int (0 : Int32))]))
        refine Own.g_iconst X5 hx (0 : Int32) (hb hby at_319) rfl 320 rfl ?_
        refine Own.g_icmp_ne_f X5 hx (hb hby at_320) (by decide) 323 rfl ?_
        refine Own.g_iconst X5 hx (1 : Int32) (hb hby at_323) rfl 324 rfl ?_
        refine Own.g_goto X5 hx (hb hby at_324) 328 (by decide) ?_
        refine Own.g_istore X5 hx #[.val (.int p1), .val (.int p2), .val (.int p3), .val (.int p4), .val (.int na), .val (.int nb), .val (.int nc), .val (.int nd), .val (.ref df), .val (.ref sh), .val (.ref ya), .val (.ref yb), .val (.ref yc), .val (.ref yd), .val (.ref cd), .val (.int (1 : Int32)), .val (.int (1 : Int32))] (hb hby at_328) rfl 330 rfl ?_
        refine Own.g_iload X5 hx (hb hby at_330) rfl 332 rfl ?_
        refine Own.g_if_eq_f X5 hx (hb hby at_332) (by decide) 335 rfl ?_
        refine Own.g_iload X5 hx (hb hby at_335) rfl 337 rfl ?_
        refine Own.g_if_eq_f X5 hx (hb hby at_337) (by decide) 340 rfl ?_
        refine Own.g_iconst X5 hx (1 : Int32) (hb hby at_340) rfl 341 rfl ?_
        refine Own.g_goto X5 hx (hb hby at_341) 345 (by decide) ?_
        refine Own.g_ret X5 hx hret hlocks rfl (Or.inl ⟨rfl, by simp, _, rfl⟩) (hb hby at_345) (by decide) (by decide) eH5 ?_
        exact hQ _ _ N5
      · intro hq2
        rw [if_pos ⟨he1.mpr hq1, he4.mpr hq2⟩]
        show Own.Go p e below _ (T5.setTop (mkF m 315 #[.val (.int p1), .val (.int p2), .val (.int p3), .val (.int p4), .val (.int na), .val (.int nb), .val (.int nc), .val (.int nd), .val (.ref df), .val (.ref sh), .val (.ref ya), .val (.ref yb), .val (.ref yc), .val (.ref yd), .val (.ref cd), .val (.int (1 : Int32)), .unset] [(.int (1 : Int32))]))
        refine Own.g_iconst X5 hx (1 : Int32) (hb hby at_315) rfl 316 rfl ?_
        refine Own.g_goto X5 hx (hb hby at_316) 320 (by decide) ?_
        refine Own.g_icmp_ne_f X5 hx (hb hby at_320) (by decide) 323 rfl ?_
        refine Own.g_iconst X5 hx (1 : Int32) (hb hby at_323) rfl 324 rfl ?_
        refine Own.g_goto X5 hx (hb hby at_324) 328 (by decide) ?_
        refine Own.g_istore X5 hx #[.val (.int p1), .val (.int p2), .val (.int p3), .val (.int p4), .val (.int na), .val (.int nb), .val (.int nc), .val (.int nd), .val (.ref df), .val (.ref sh), .val (.ref ya), .val (.ref yb), .val (.ref yc), .val (.ref yd), .val (.ref cd), .val (.int (1 : Int32)), .val (.int (1 : Int32))] (hb hby at_328) rfl 330 rfl ?_
        refine Own.g_iload X5 hx (hb hby at_330) rfl 332 rfl ?_
        refine Own.g_if_eq_f X5 hx (hb hby at_332) (by decide) 335 rfl ?_
        refine Own.g_iload X5 hx (hb hby at_335) rfl 337 rfl ?_
        refine Own.g_if_eq_f X5 hx (hb hby at_337) (by decide) 340 rfl ?_
        refine Own.g_iconst X5 hx (1 : Int32) (hb hby at_340) rfl 341 rfl ?_
        refine Own.g_goto X5 hx (hb hby at_341) 345 (by decide) ?_
        refine Own.g_ret X5 hx hret hlocks rfl (Or.inl ⟨rfl, by simp, _, rfl⟩) (hb hby at_345) (by decide) (by decide) eH5 ?_
        exact hQ _ _ N5
  refine Own.g_iload X3 hx (hb hby at_270) rfl 272 rfl ?_
  refine Own.g_if_ne X3 hx (hb hby at_272) 284 275 (by decide) rfl ?_ ?_
  · intro hq1
    rw [if_neg (fun q => hq1 (he1.mp q.1))]
    show Own.Go p e below _ (T3.setTop (mkF m 284 #[.val (.int p1), .val (.int p2), .val (.int p3), .val (.int p4), .val (.int na), .val (.int nb), .val (.int nc), .val (.int nd), .val (.ref df), .val (.ref sh), .val (.ref ya), .val (.ref yb), .val (.ref yc), .val (.ref yd), .val (.ref cd), .unset, .unset] [(.int (0 : Int32))]))
    refine Own.g_iconst X3 hx (0 : Int32) (hb hby at_284) rfl 285 rfl ?_
    refine Own.g_icmp_ne_f X3 hx (hb hby at_285) (by decide) 288 rfl ?_
    refine Own.g_iconst X3 hx (1 : Int32) (hb hby at_288) rfl 289 rfl ?_
    refine Own.g_goto X3 hx (hb hby at_289) 293 (by decide) ?_
    refine Own.g_istore X3 hx #[.val (.int p1), .val (.int p2), .val (.int p3), .val (.int p4), .val (.int na), .val (.int nb), .val (.int nc), .val (.int nd), .val (.ref df), .val (.ref sh), .val (.ref ya), .val (.ref yb), .val (.ref yc), .val (.ref yd), .val (.ref cd), .val (.int (1 : Int32)), .unset] (hb hby at_293) rfl 295 rfl ?_
    exact hT _ _ X3 eH3 N3 
  · intro hq1
    refine Own.g_iload X3 hx (hb hby at_275) rfl 277 rfl ?_
    refine Own.g_if_ne X3 hx (hb hby at_277) 284 280 (by decide) rfl ?_ ?_
    · intro hq2
      rw [if_neg (fun q => hq2 (he3.mp q.2))]
      show Own.Go p e below _ (T3.setTop (mkF m 284 #[.val (.int p1), .val (.int p2), .val (.int p3), .val (.int p4), .val (.int na), .val (.int nb), .val (.int nc), .val (.int nd), .val (.ref df), .val (.ref sh), .val (.ref ya), .val (.ref yb), .val (.ref yc), .val (.ref yd), .val (.ref cd), .unset, .unset] [(.int (0 : Int32))]))
      refine Own.g_iconst X3 hx (0 : Int32) (hb hby at_284) rfl 285 rfl ?_
      refine Own.g_icmp_ne_f X3 hx (hb hby at_285) (by decide) 288 rfl ?_
      refine Own.g_iconst X3 hx (1 : Int32) (hb hby at_288) rfl 289 rfl ?_
      refine Own.g_goto X3 hx (hb hby at_289) 293 (by decide) ?_
      refine Own.g_istore X3 hx #[.val (.int p1), .val (.int p2), .val (.int p3), .val (.int p4), .val (.int na), .val (.int nb), .val (.int nc), .val (.int nd), .val (.ref df), .val (.ref sh), .val (.ref ya), .val (.ref yb), .val (.ref yc), .val (.ref yd), .val (.ref cd), .val (.int (1 : Int32)), .unset] (hb hby at_293) rfl 295 rfl ?_
      exact hT _ _ X3 eH3 N3 
    · intro hq2
      rw [if_pos ⟨he1.mpr hq1, he3.mpr hq2⟩]
      show Own.Go p e below _ (T3.setTop (mkF m 280 #[.val (.int p1), .val (.int p2), .val (.int p3), .val (.int p4), .val (.int na), .val (.int nb), .val (.int nc), .val (.int nd), .val (.ref df), .val (.ref sh), .val (.ref ya), .val (.ref yb), .val (.ref yc), .val (.ref yd), .val (.ref cd), .unset, .unset] [(.int (1 : Int32))]))
      refine Own.g_iconst X3 hx (1 : Int32) (hb hby at_280) rfl 281 rfl ?_
      refine Own.g_goto X3 hx (hb hby at_281) 285 (by decide) ?_
      refine Own.g_icmp_ne_f X3 hx (hb hby at_285) (by decide) 288 rfl ?_
      refine Own.g_iconst X3 hx (1 : Int32) (hb hby at_288) rfl 289 rfl ?_
      refine Own.g_goto X3 hx (hb hby at_289) 293 (by decide) ?_
      refine Own.g_istore X3 hx #[.val (.int p1), .val (.int p2), .val (.int p3), .val (.int p4), .val (.int na), .val (.int nb), .val (.int nc), .val (.int nd), .val (.ref df), .val (.ref sh), .val (.ref ya), .val (.ref yb), .val (.ref yc), .val (.ref yd), .val (.ref cd), .val (.int (1 : Int32)), .unset] (hb hby at_293) rfl 295 rfl ?_
      exact hT _ _ X3 eH3 N3 
set_option maxRecDepth 65536 in
set_option maxHeartbeats 40000000 in
theorem st_200 {p : Program} {l : Launch} {e : Env} {s : State} {m : MethodId} {args : Array Value} {below : List Frame} {meth : Method} {c : Code} {T0 : State} {locs : List Loc} {Z : State} {a0 : Array Value} {hh : Heap} {n0 : Nat} {Q : Option Value → Heap → List Loc → Prop} (hQ : ∀ h L, Fr n0 L → Q (some (.int 1)) h L)  (hx : p.tables.exec = Jvm.exec) (hZ : Z.Warmed39 s.vm) (hw : ∀ d ∈ tables_1, d.before a0 Z = true) (hby : c.code = code) (hml : c.maxLocals = 17) (hown : s.vm.findClass "com/example/witnesseth/witnesseth/agreement/ClockDifferentialsIsEmptyPinLaw" = some m.cls) (hret : meth.sig.returnType = (some .boolean)) (hlocks : meth.locks = false)
    (p1 p2 p3 p4 na nb nc nd : Int32) (df sh : Addr) (ya yat : Addr) (l1 : List Addr) (yb ybt : Addr) (l2 : List Addr) (yc yct : Addr) (l3 : List Addr) (da : Addr) (kda : ClassId) (mr : Addr) (el : Addr) (ea : Addr) (em : Addr) (X0 : Stand p l e room_1 s m args below meth c T0 locs 23 137) (e0 : T0.heap = hh) (N0 : Fr n0 locs) (O : Old Z n0 hh) (I_df : Ins Z hh df "java/lang/Object" true) (I_sh : Ins Z hh sh "java/lang/Object" true) (A_ya : Own.AL Z hh ya yat l1) (A_yb : Own.AL Z hh yb ybt l2) (A_yc : Own.AL Z hh yc yct l3)   (SD : Sta Z Z.heap "java/util/ArrayList" "DEFAULTCAPACITY_EMPTY_ELEMENTDATA" "[Ljava/lang/Object;" (.ref da)) (AD : Arv Z Z.heap da kda (.object "java/lang/Object") 0 [] .null) (M : Mir Z "[Ljava/lang/Object;" mr) (SEL : Sta Z Z.heap "java/util/ImmutableCollections" "EMPTY_LIST" "Ljava/util/ImmutableCollections$ListN;" (.ref el)) (IMel : Own.Im Z Z.heap el ea true) (SEM : Sta Z Z.heap "java/util/ImmutableCollections" "EMPTY" "Ljava/lang/Object;" (.ref em)) (ED : Exa Z Z.heap da "[Ljava/lang/Object;") (K_nd : nd = 0 ∨ nd = 1 ∨ nd = 2 ∨ nd = 3) (hl1 : l1 = [] ∨ (∃ y1 : Addr, l1 = [y1]) ∨ (∃ y1 y2 : Addr, l1 = [y1, y2]) ∨ (∃ y1 y2 y3 : Addr, l1 = [y1, y2, y3])) (he1 : l1.isEmpty = true ↔ na = 0) (hl2 : l2 = [] ∨ (∃ y1 : Addr, l2 = [y1]) ∨ (∃ y1 y2 : Addr, l2 = [y1, y2]) ∨ (∃ y1 y2 y3 : Addr, l2 = [y1, y2, y3])) (he2 : l2.isEmpty = true ↔ nb = 0) (hl3 : l3 = [] ∨ (∃ y1 : Addr, l3 = [y1]) ∨ (∃ y1 y2 : Addr, l3 = [y1, y2]) ∨ (∃ y1 y2 y3 : Addr, l3 = [y1, y2, y3])) (he3 : l3.isEmpty = true ↔ nc = 0) :
    Own.Go p e below (Own.End s Q 64 320) (T0.setTop (mkF m 200 #[.val (.int p1), .val (.int p2), .val (.int p3), .val (.int p4), .val (.int na), .val (.int nb), .val (.int nc), .val (.int nd), .val (.ref df), .val (.ref sh), .val (.ref ya), .val (.ref yb), .val (.ref yc), .unset, .unset, .unset, .unset] [])) := by
  refine Own.g_new X0 hx hZ hown (hw _ (List.mem_of_getElem? (i := 16) rfl)) (hw _ (List.mem_of_getElem? (i := 17) rfl)) (hw _ (List.mem_of_getElem? (i := 18) rfl)) e0 (hb hby at_200) (by decide) (by decide) 203 rfl ?_
  intro T1 h1 x X1 e1 E1 g1 E_x D1
  have ne_ya_x : ya ≠ x := Nat.ne_of_lt (Nat.lt_of_lt_of_le (A_ya.lt) (Nat.le_of_eq g1.symm))
  have ne_yat_x : yat ≠ x := Nat.ne_of_lt (Nat.lt_of_lt_of_le (A_ya.lt2) (Nat.le_of_eq g1.symm))
  have ne_yb_x : yb ≠ x := Nat.ne_of_lt (Nat.lt_of_lt_of_le (A_yb.lt) (Nat.le_of_eq g1.symm))
  have ne_ybt_x : ybt ≠ x := Nat.ne_of_lt (Nat.lt_of_lt_of_le (A_yb.lt2) (Nat.le_of_eq g1.symm))
  have ne_yc_x : yc ≠ x := Nat.ne_of_lt (Nat.lt_of_lt_of_le (A_yc.lt) (Nat.le_of_eq g1.symm))
  have ne_yct_x : yct ≠ x := Nat.ne_of_lt (Nat.lt_of_lt_of_le (A_yc.lt2) (Nat.le_of_eq g1.symm))
  have n0_x : n0 ≤ x := Nat.le_trans (Nat.le_of_eq O.1.symm) (Nat.le_trans O.2.1 (Nat.le_of_eq g1.symm))
  replace I_df := I_df.ext E1
  replace I_sh := I_sh.ext E1
  replace A_ya := A_ya.ext E1
  replace A_yb := A_yb.ext E1
  replace A_yc := A_yc.ext E1
  replace O := O.ext E1
  have F_x_modCount : Fld Z h1 x "java/util/AbstractList" "modCount" "I" (.int (0 : Int32)) := D1 (Or.inl (hw _ (List.mem_of_getElem? (i := 36) rfl))) (ty := .int) (by decide)
  have F_x_elementData : Fld Z h1 x "java/util/ArrayList" "elementData" "[Ljava/lang/Object;" .null := D1 (Or.inl (hw _ (List.mem_of_getElem? (i := 39) rfl))) (ty := (.array (.object "java/lang/Object"))) (by decide)
  have F_x_size : Fld Z h1 x "java/util/ArrayList" "size" "I" (.int (0 : Int32)) := D1 (Or.inl (hw _ (List.mem_of_getElem? (i := 68) rfl))) (ty := .int) (by decide)
  refine Own.g_dup X1 hx (hb hby at_203) rfl 204 rfl ?_
  refine Own.g_special X1 hx (y := (⟨"java/util/ArrayList", "<init>", "()V"⟩ : MethodName)) rfl hown (mvT hZ (hw _ (List.mem_of_getElem? (i := 19) rfl))) (mvT hZ (hw _ (List.mem_of_getElem? (i := 20) rfl))) (mvT hZ (hw _ (List.mem_of_getElem? (i := 21) rfl))) (by decide) (a := x) [] (Own.back (W := 1) (rm_ali l Z a0 hw [] x da kda h1 n0 O n0_x SD AD E_x F_x_modCount F_x_elementData F_x_size) hZ (hw _ (List.mem_of_getElem? (i := 21) rfl)) (hw _ (List.mem_of_getElem? (i := 18) rfl)) (by decide) (by decide)) e1 (by rw [hml]; rfl) [(.ref x)] (lenOf pd_0 rfl) rfl (Nat.le_of_ble_eq_true rfl) (hb hby at_204) (by decide) (by decide) 207 rfl ?_
  rintro _ T2 L2 X2 ⟨rfl, N2q, K2, E_x, F_x_modCount, F_x_elementData, F_x_size⟩
  have N2 := Fr.app N0 N2q
  replace I_df := Own.Ins.kp I_df K2
  replace I_sh := Own.Ins.kp I_sh K2
  replace A_ya := A_ya.keep K2 (ninS ne_ya_x nin0) (ninS ne_yat_x nin0)
  replace A_yb := A_yb.keep K2 (ninS ne_yb_x nin0) (ninS ne_ybt_x nin0)
  replace A_yc := A_yc.keep K2 (ninS ne_yc_x nin0) (ninS ne_yct_x nin0)
  replace O := O.keep K2 (allS n0_x all0)
  show Own.Go p e below _ (T2.setTop (mkF m 207 #[.val (.int p1), .val (.int p2), .val (.int p3), .val (.int p4), .val (.int na), .val (.int nb), .val (.int nc), .val (.int nd), .val (.ref df), .val (.ref sh), .val (.ref ya), .val (.ref yb), .val (.ref yc), .unset, .unset, .unset, .unset] [(.ref x)]))
  refine Own.g_astore X2 hx #[.val (.int p1), .val (.int p2), .val (.int p3), .val (.int p4), .val (.int na), .val (.int nb), .val (.int nc), .val (.int nd), .val (.ref df), .val (.ref sh), .val (.ref ya), .val (.ref yb), .val (.ref yc), .val (.ref x), .unset, .unset, .unset] (hb hby at_207) rfl rfl 209 rfl ?_
  rcases K_nd with rfl | rfl | rfl | rfl
  · show Own.Go p e below _ (T2.setTop (mkF m 209 #[.val (.int p1), .val (.int p2), .val (.int p3), .val (.int p4), .val (.int na), .val (.int nb), .val (.int nc), .val (.int (0 : Int32)), .val (.ref df), .val (.ref sh), .val (.ref ya), .val (.ref yb), .val (.ref yc), .val (.ref x), .unset, .unset, .unset] []))
    refine Own.g_iload X2 hx (hb hby at_209) rfl 211 rfl ?_
    refine Own.g_if_le_t X2 hx (hb hby at_211) (by decide) 222 (by decide) ?_
    refine Own.g_iload X2 hx (hb hby at_222) rfl 224 rfl ?_
    refine Own.g_iconst X2 hx (1 : Int32) (hb hby at_224) rfl 225 rfl ?_
    refine Own.g_icmp_le_t X2 hx (hb hby at_225) (by decide) 236 (by decide) ?_
    refine Own.g_iload X2 hx (hb hby at_236) rfl 238 rfl ?_
    refine Own.g_iconst X2 hx (2 : Int32) (hb hby at_238) rfl 239 rfl ?_
    refine Own.g_icmp_le_t X2 hx (hb hby at_239) (by decide) 250 (by decide) ?_
    have A_x : Own.AL Z T2.heap x da [] := ⟨E_x, F_x_size, F_x_elementData, ED.ext O.2, (fun y hy => nomatch hy), Or.inl rfl⟩
    exact st_250 hQ hx hZ hw hby hml hown hret hlocks p1 p2 p3 p4 na nb nc (0 : Int32) df sh ya yat l1 yb ybt l2 yc yct l3 x da [] da kda mr el ea em (X2.more (by decide) (by decide)) (rfl : T2.heap = T2.heap) N2 O A_ya A_yb A_yc A_x   SD AD M SEL IMel SEM hl1 he1 hl2 he2 hl3 he3 (Or.inl rfl) ⟨fun _ => rfl, fun _ => rfl⟩
  · show Own.Go p e below _ (T2.setTop (mkF m 209 #[.val (.int p1), .val (.int p2), .val (.int p3), .val (.int p4), .val (.int na), .val (.int nb), .val (.int nc), .val (.int (1 : Int32)), .val (.ref df), .val (.ref sh), .val (.ref ya), .val (.ref yb), .val (.ref yc), .val (.ref x), .unset, .unset, .unset] []))
    refine Own.g_iload X2 hx (hb hby at_209) rfl 211 rfl ?_
    refine Own.g_if_le_f X2 hx (hb hby at_211) (by decide) 214 rfl ?_
    refine Own.g_aload X2 hx (hb hby at_214) rfl rfl 216 rfl ?_
    refine Own.g_aload X2 hx (hb hby at_216) rfl rfl 218 rfl ?_
    have ltx := E_x.lt
    refine Own.g_virtual X2 hx hZ (y := (⟨"java/util/ArrayList", "add", "(Ljava/lang/Object;)Z"⟩ : MethodName)) (z := (⟨"java/util/ArrayList", "add", "(Ljava/lang/Object;)Z"⟩ : MethodName)) hown (mvT hZ (hw _ (List.mem_of_getElem? (i := 81) rfl))) (mvT hZ (hw _ (List.mem_of_getElem? (i := 82) rfl))) (notFace_of_selects (args := #[]) (mvT hZ (hw _ (List.mem_of_getElem? (i := 84) rfl)))) (mvT hZ (hw _ (List.mem_of_getElem? (i := 84) rfl))) (mvT hZ (hw _ (List.mem_of_getElem? (i := 83) rfl))) (by decide) (a := x) [.ref sh] (Own.back (W := 0) (rm_add0 l Z a0 hw [] x sh (0 : Int32) da kda T2.heap n0 O n0_x I_sh SD AD E_x F_x_modCount F_x_elementData F_x_size) hZ (hw _ (List.mem_of_getElem? (i := 85) rfl)) (hw _ (List.mem_of_getElem? (i := 18) rfl)) (by decide) (by decide)) E_x (rfl : T2.heap = T2.heap) (by rw [hml]; rfl) [] (lenOf pd_17 rfl) rfl (Nat.le_of_ble_eq_true rfl) (hb hby at_218) (by decide) (by decide) 221 rfl ?_
    rintro _ T3 L3 X3 ⟨rfl, N3q, d, k_d, K3, sz3, E_x, F_x_modCount, F_x_elementData, F_x_size, V_d, E_d, O_d⟩
    have N3 := Fr.app N2 N3q
    have ne_ya_d : ya ≠ d := Nat.ne_of_lt (Nat.lt_of_lt_of_le (A_ya.lt) sz3)
    have ne_yat_d : yat ≠ d := Nat.ne_of_lt (Nat.lt_of_lt_of_le (A_ya.lt2) sz3)
    have ne_yb_d : yb ≠ d := Nat.ne_of_lt (Nat.lt_of_lt_of_le (A_yb.lt) sz3)
    have ne_ybt_d : ybt ≠ d := Nat.ne_of_lt (Nat.lt_of_lt_of_le (A_yb.lt2) sz3)
    have ne_yc_d : yc ≠ d := Nat.ne_of_lt (Nat.lt_of_lt_of_le (A_yc.lt) sz3)
    have ne_yct_d : yct ≠ d := Nat.ne_of_lt (Nat.lt_of_lt_of_le (A_yc.lt2) sz3)
    have n0_d : n0 ≤ d := Nat.le_trans (Nat.le_of_eq O.1.symm) (Nat.le_trans O.2.1 sz3)
    have ne_x_d : x ≠ d := Nat.ne_of_lt (Nat.lt_of_lt_of_le ltx sz3)
    replace I_df := Own.Ins.kp I_df K3
    replace I_sh := Own.Ins.kp I_sh K3
    replace A_ya := A_ya.keep K3 (ninS ne_ya_x nin0) (ninS ne_yat_x nin0)
    replace A_yb := A_yb.keep K3 (ninS ne_yb_x nin0) (ninS ne_ybt_x nin0)
    replace A_yc := A_yc.keep K3 (ninS ne_yc_x nin0) (ninS ne_yct_x nin0)
    replace O := O.keep K3 (allS n0_x all0)
    show Own.Go p e below _ (T3.setTop (mkF m 221 #[.val (.int p1), .val (.int p2), .val (.int p3), .val (.int p4), .val (.int na), .val (.int nb), .val (.int nc), .val (.int (1 : Int32)), .val (.ref df), .val (.ref sh), .val (.ref ya), .val (.ref yb), .val (.ref yc), .val (.ref x), .unset, .unset, .unset] [(.int (1 : Int32))]))
    refine Own.g_pop X3 hx (hb hby at_221) rfl 222 rfl ?_
    refine Own.g_iload X3 hx (hb hby at_222) rfl 224 rfl ?_
    refine Own.g_iconst X3 hx (1 : Int32) (hb hby at_224) rfl 225 rfl ?_
    refine Own.g_icmp_le_t X3 hx (hb hby at_225) (by decide) 236 (by decide) ?_
    refine Own.g_iload X3 hx (hb hby at_236) rfl 238 rfl ?_
    refine Own.g_iconst X3 hx (2 : Int32) (hb hby at_238) rfl 239 rfl ?_
    refine Own.g_icmp_le_t X3 hx (hb hby at_239) (by decide) 250 (by decide) ?_
    have A_x : Own.AL Z T3.heap x d [sh] := ⟨E_x, F_x_size, F_x_elementData, E_d, (fun y hy => by simp only [List.mem_cons, List.mem_singleton, List.not_mem_nil, or_false, or_self] at hy; subst hy; exact I_sh), Or.inr ⟨k_d, V_d⟩⟩
    exact st_250 hQ hx hZ hw hby hml hown hret hlocks p1 p2 p3 p4 na nb nc (1 : Int32) df sh ya yat l1 yb ybt l2 yc yct l3 x d [sh] da kda mr el ea em (X3.more (by decide) (by decide)) (rfl : T3.heap = T3.heap) N3 O A_ya A_yb A_yc A_x   SD AD M SEL IMel SEM hl1 he1 hl2 he2 hl3 he3 (Or.inr (Or.inl ⟨sh, rfl⟩)) ⟨(fun q => nomatch q), (fun q => absurd q (by decide))⟩
  · show Own.Go p e below _ (T2.setTop (mkF m 209 #[.val (.int p1), .val (.int p2), .val (.int p3), .val (.int p4), .val (.int na), .val (.int nb), .val (.int nc), .val (.int (2 : Int32)), .val (.ref df), .val (.ref sh), .val (.ref ya), .val (.ref yb), .val (.ref yc), .val (.ref x), .unset, .unset, .unset] []))
    refine Own.g_iload X2 hx (hb hby at_209) rfl 211 rfl ?_
    refine Own.g_if_le_f X2 hx (hb hby at_211) (by decide) 214 rfl ?_
    refine Own.g_aload X2 hx (hb hby at_214) rfl rfl 216 rfl ?_
    refine Own.g_aload X2 hx (hb hby at_216) rfl rfl 218 rfl ?_
    have ltx := E_x.lt
    refine Own.g_virtual X2 hx hZ (y := (⟨"java/util/ArrayList", "add", "(Ljava/lang/Object;)Z"⟩ : MethodName)) (z := (⟨"java/util/ArrayList", "add", "(Ljava/lang/Object;)Z"⟩ : MethodName)) hown (mvT hZ (hw _ (List.mem_of_getElem? (i := 81) rfl))) (mvT hZ (hw _ (List.mem_of_getElem? (i := 82) rfl))) (notFace_of_selects (args := #[]) (mvT hZ (hw _ (List.mem_of_getElem? (i := 84) rfl)))) (mvT hZ (hw _ (List.mem_of_getElem? (i := 84) rfl))) (mvT hZ (hw _ (List.mem_of_getElem? (i := 83) rfl))) (by decide) (a := x) [.ref sh] (Own.back (W := 0) (rm_add0 l Z a0 hw [] x sh (0 : Int32) da kda T2.heap n0 O n0_x I_sh SD AD E_x F_x_modCount F_x_elementData F_x_size) hZ (hw _ (List.mem_of_getElem? (i := 85) rfl)) (hw _ (List.mem_of_getElem? (i := 18) rfl)) (by decide) (by decide)) E_x (rfl : T2.heap = T2.heap) (by rw [hml]; rfl) [] (lenOf pd_17 rfl) rfl (Nat.le_of_ble_eq_true rfl) (hb hby at_218) (by decide) (by decide) 221 rfl ?_
    rintro _ T4 L4 X4 ⟨rfl, N4q, d, k_d, K4, sz4, E_x, F_x_modCount, F_x_elementData, F_x_size, V_d, E_d, O_d⟩
    have N4 := Fr.app N2 N4q
    have ne_ya_d : ya ≠ d := Nat.ne_of_lt (Nat.lt_of_lt_of_le (A_ya.lt) sz4)
    have ne_yat_d : yat ≠ d := Nat.ne_of_lt (Nat.lt_of_lt_of_le (A_ya.lt2) sz4)
    have ne_yb_d : yb ≠ d := Nat.ne_of_lt (Nat.lt_of_lt_of_le (A_yb.lt) sz4)
    have ne_ybt_d : ybt ≠ d := Nat.ne_of_lt (Nat.lt_of_lt_of_le (A_yb.lt2) sz4)
    have ne_yc_d : yc ≠ d := Nat.ne_of_lt (Nat.lt_of_lt_of_le (A_yc.lt) sz4)
    have ne_yct_d : yct ≠ d := Nat.ne_of_lt (Nat.lt_of_lt_of_le (A_yc.lt2) sz4)
    have n0_d : n0 ≤ d := Nat.le_trans (Nat.le_of_eq O.1.symm) (Nat.le_trans O.2.1 sz4)
    have ne_x_d : x ≠ d := Nat.ne_of_lt (Nat.lt_of_lt_of_le ltx sz4)
    replace I_df := Own.Ins.kp I_df K4
    replace I_sh := Own.Ins.kp I_sh K4
    replace A_ya := A_ya.keep K4 (ninS ne_ya_x nin0) (ninS ne_yat_x nin0)
    replace A_yb := A_yb.keep K4 (ninS ne_yb_x nin0) (ninS ne_ybt_x nin0)
    replace A_yc := A_yc.keep K4 (ninS ne_yc_x nin0) (ninS ne_yct_x nin0)
    replace O := O.keep K4 (allS n0_x all0)
    show Own.Go p e below _ (T4.setTop (mkF m 221 #[.val (.int p1), .val (.int p2), .val (.int p3), .val (.int p4), .val (.int na), .val (.int nb), .val (.int nc), .val (.int (2 : Int32)), .val (.ref df), .val (.ref sh), .val (.ref ya), .val (.ref yb), .val (.ref yc), .val (.ref x), .unset, .unset, .unset] [(.int (1 : Int32))]))
    refine Own.g_pop X4 hx (hb hby at_221) rfl 222 rfl ?_
    refine Own.g_iload X4 hx (hb hby at_222) rfl 224 rfl ?_
    refine Own.g_iconst X4 hx (1 : Int32) (hb hby at_224) rfl 225 rfl ?_
    refine Own.g_icmp_le_f X4 hx (hb hby at_225) (by decide) 228 rfl ?_
    refine Own.g_aload X4 hx (hb hby at_228) rfl rfl 230 rfl ?_
    refine Own.g_aload X4 hx (hb hby at_230) rfl rfl 232 rfl ?_
    refine Own.g_virtual X4 hx hZ (y := (⟨"java/util/ArrayList", "add", "(Ljava/lang/Object;)Z"⟩ : MethodName)) (z := (⟨"java/util/ArrayList", "add", "(Ljava/lang/Object;)Z"⟩ : MethodName)) hown (mvT hZ (hw _ (List.mem_of_getElem? (i := 81) rfl))) (mvT hZ (hw _ (List.mem_of_getElem? (i := 82) rfl))) (notFace_of_selects (args := #[]) (mvT hZ (hw _ (List.mem_of_getElem? (i := 84) rfl)))) (mvT hZ (hw _ (List.mem_of_getElem? (i := 84) rfl))) (mvT hZ (hw _ (List.mem_of_getElem? (i := 83) rfl))) (by decide) (a := x) [.ref sh] (Own.back (W := 0) (rm_add1 l Z a0 hw [] x sh ((0 : Int32) + (1 : Int32)) d k_d sh T4.heap n0 O n0_x n0_d I_sh ne_x_d V_d O_d E_x F_x_modCount F_x_elementData F_x_size) hZ (hw _ (List.mem_of_getElem? (i := 85) rfl)) (hw _ (List.mem_of_getElem? (i := 18) rfl)) (by decide) (by decide)) E_x (rfl : T4.heap = T4.heap) (by rw [hml]; rfl) [] (lenOf pd_17 rfl) rfl (Nat.le_of_ble_eq_true rfl) (hb hby at_232) (by decide) (by decide) 235 rfl ?_
    rintro _ T5 L5 X5 ⟨rfl, N5q, K5, E_x, F_x_modCount, F_x_elementData, F_x_size, V_d⟩
    have N5 := Fr.app N4 N5q
    replace I_df := Own.Ins.kp I_df K5
    replace I_sh := Own.Ins.kp I_sh K5
    replace A_ya := A_ya.keep K5 (ninS ne_ya_x (ninS ne_ya_d nin0)) (ninS ne_yat_x (ninS ne_yat_d nin0))
    replace A_yb := A_yb.keep K5 (ninS ne_yb_x (ninS ne_yb_d nin0)) (ninS ne_ybt_x (ninS ne_ybt_d nin0))
    replace A_yc := A_yc.keep K5 (ninS ne_yc_x (ninS ne_yc_d nin0)) (ninS ne_yct_x (ninS ne_yct_d nin0))
    replace E_d := E_d.keep K5
    replace O := O.keep K5 (allS n0_x (allS n0_d all0))
    show Own.Go p e below _ (T5.setTop (mkF m 235 #[.val (.int p1), .val (.int p2), .val (.int p3), .val (.int p4), .val (.int na), .val (.int nb), .val (.int nc), .val (.int (2 : Int32)), .val (.ref df), .val (.ref sh), .val (.ref ya), .val (.ref yb), .val (.ref yc), .val (.ref x), .unset, .unset, .unset] [(.int (1 : Int32))]))
    refine Own.g_pop X5 hx (hb hby at_235) rfl 236 rfl ?_
    refine Own.g_iload X5 hx (hb hby at_236) rfl 238 rfl ?_
    refine Own.g_iconst X5 hx (2 : Int32) (hb hby at_238) rfl 239 rfl ?_
    refine Own.g_icmp_le_t X5 hx (hb hby at_239) (by decide) 250 (by decide) ?_
    have A_x : Own.AL Z T5.heap x d [sh, sh] := ⟨E_x, F_x_size, F_x_elementData, E_d, (fun y hy => by simp only [List.mem_cons, List.mem_singleton, List.not_mem_nil, or_false, or_self] at hy; subst hy; exact I_sh), Or.inr ⟨k_d, V_d⟩⟩
    exact st_250 hQ hx hZ hw hby hml hown hret hlocks p1 p2 p3 p4 na nb nc (2 : Int32) df sh ya yat l1 yb ybt l2 yc yct l3 x d [sh, sh] da kda mr el ea em (X5.more (by decide) (by decide)) (rfl : T5.heap = T5.heap) N5 O A_ya A_yb A_yc A_x   SD AD M SEL IMel SEM hl1 he1 hl2 he2 hl3 he3 (Or.inr (Or.inr (Or.inl ⟨sh, sh, rfl⟩))) ⟨(fun q => nomatch q), (fun q => absurd q (by decide))⟩
  · show Own.Go p e below _ (T2.setTop (mkF m 209 #[.val (.int p1), .val (.int p2), .val (.int p3), .val (.int p4), .val (.int na), .val (.int nb), .val (.int nc), .val (.int (3 : Int32)), .val (.ref df), .val (.ref sh), .val (.ref ya), .val (.ref yb), .val (.ref yc), .val (.ref x), .unset, .unset, .unset] []))
    refine Own.g_iload X2 hx (hb hby at_209) rfl 211 rfl ?_
    refine Own.g_if_le_f X2 hx (hb hby at_211) (by decide) 214 rfl ?_
    refine Own.g_aload X2 hx (hb hby at_214) rfl rfl 216 rfl ?_
    refine Own.g_aload X2 hx (hb hby at_216) rfl rfl 218 rfl ?_
    have ltx := E_x.lt
    refine Own.g_virtual X2 hx hZ (y := (⟨"java/util/ArrayList", "add", "(Ljava/lang/Object;)Z"⟩ : MethodName)) (z := (⟨"java/util/ArrayList", "add", "(Ljava/lang/Object;)Z"⟩ : MethodName)) hown (mvT hZ (hw _ (List.mem_of_getElem? (i := 81) rfl))) (mvT hZ (hw _ (List.mem_of_getElem? (i := 82) rfl))) (notFace_of_selects (args := #[]) (mvT hZ (hw _ (List.mem_of_getElem? (i := 84) rfl)))) (mvT hZ (hw _ (List.mem_of_getElem? (i := 84) rfl))) (mvT hZ (hw _ (List.mem_of_getElem? (i := 83) rfl))) (by decide) (a := x) [.ref sh] (Own.back (W := 0) (rm_add0 l Z a0 hw [] x sh (0 : Int32) da kda T2.heap n0 O n0_x I_sh SD AD E_x F_x_modCount F_x_elementData F_x_size) hZ (hw _ (List.mem_of_getElem? (i := 85) rfl)) (hw _ (List.mem_of_getElem? (i := 18) rfl)) (by decide) (by decide)) E_x (rfl : T2.heap = T2.heap) (by rw [hml]; rfl) [] (lenOf pd_17 rfl) rfl (Nat.le_of_ble_eq_true rfl) (hb hby at_218) (by decide) (by decide) 221 rfl ?_
    rintro _ T6 L6 X6 ⟨rfl, N6q, d, k_d, K6, sz6, E_x, F_x_modCount, F_x_elementData, F_x_size, V_d, E_d, O_d⟩
    have N6 := Fr.app N2 N6q
    have ne_ya_d : ya ≠ d := Nat.ne_of_lt (Nat.lt_of_lt_of_le (A_ya.lt) sz6)
    have ne_yat_d : yat ≠ d := Nat.ne_of_lt (Nat.lt_of_lt_of_le (A_ya.lt2) sz6)
    have ne_yb_d : yb ≠ d := Nat.ne_of_lt (Nat.lt_of_lt_of_le (A_yb.lt) sz6)
    have ne_ybt_d : ybt ≠ d := Nat.ne_of_lt (Nat.lt_of_lt_of_le (A_yb.lt2) sz6)
    have ne_yc_d : yc ≠ d := Nat.ne_of_lt (Nat.lt_of_lt_of_le (A_yc.lt) sz6)
    have ne_yct_d : yct ≠ d := Nat.ne_of_lt (Nat.lt_of_lt_of_le (A_yc.lt2) sz6)
    have n0_d : n0 ≤ d := Nat.le_trans (Nat.le_of_eq O.1.symm) (Nat.le_trans O.2.1 sz6)
    have ne_x_d : x ≠ d := Nat.ne_of_lt (Nat.lt_of_lt_of_le ltx sz6)
    replace I_df := Own.Ins.kp I_df K6
    replace I_sh := Own.Ins.kp I_sh K6
    replace A_ya := A_ya.keep K6 (ninS ne_ya_x nin0) (ninS ne_yat_x nin0)
    replace A_yb := A_yb.keep K6 (ninS ne_yb_x nin0) (ninS ne_ybt_x nin0)
    replace A_yc := A_yc.keep K6 (ninS ne_yc_x nin0) (ninS ne_yct_x nin0)
    replace O := O.keep K6 (allS n0_x all0)
    show Own.Go p e below _ (T6.setTop (mkF m 221 #[.val (.int p1), .val (.int p2), .val (.int p3), .val (.int p4), .val (.int na), .val (.int nb), .val (.int nc), .val (.int (3 : Int32)), .val (.ref df), .val (.ref sh), .val (.ref ya), .val (.ref yb), .val (.ref yc), .val (.ref x), .unset, .unset, .unset] [(.int (1 : Int32))]))
    refine Own.g_pop X6 hx (hb hby at_221) rfl 222 rfl ?_
    refine Own.g_iload X6 hx (hb hby at_222) rfl 224 rfl ?_
    refine Own.g_iconst X6 hx (1 : Int32) (hb hby at_224) rfl 225 rfl ?_
    refine Own.g_icmp_le_f X6 hx (hb hby at_225) (by decide) 228 rfl ?_
    refine Own.g_aload X6 hx (hb hby at_228) rfl rfl 230 rfl ?_
    refine Own.g_aload X6 hx (hb hby at_230) rfl rfl 232 rfl ?_
    refine Own.g_virtual X6 hx hZ (y := (⟨"java/util/ArrayList", "add", "(Ljava/lang/Object;)Z"⟩ : MethodName)) (z := (⟨"java/util/ArrayList", "add", "(Ljava/lang/Object;)Z"⟩ : MethodName)) hown (mvT hZ (hw _ (List.mem_of_getElem? (i := 81) rfl))) (mvT hZ (hw _ (List.mem_of_getElem? (i := 82) rfl))) (notFace_of_selects (args := #[]) (mvT hZ (hw _ (List.mem_of_getElem? (i := 84) rfl)))) (mvT hZ (hw _ (List.mem_of_getElem? (i := 84) rfl))) (mvT hZ (hw _ (List.mem_of_getElem? (i := 83) rfl))) (by decide) (a := x) [.ref sh] (Own.back (W := 0) (rm_add1 l Z a0 hw [] x sh ((0 : Int32) + (1 : Int32)) d k_d sh T6.heap n0 O n0_x n0_d I_sh ne_x_d V_d O_d E_x F_x_modCount F_x_elementData F_x_size) hZ (hw _ (List.mem_of_getElem? (i := 85) rfl)) (hw _ (List.mem_of_getElem? (i := 18) rfl)) (by decide) (by decide)) E_x (rfl : T6.heap = T6.heap) (by rw [hml]; rfl) [] (lenOf pd_17 rfl) rfl (Nat.le_of_ble_eq_true rfl) (hb hby at_232) (by decide) (by decide) 235 rfl ?_
    rintro _ T7 L7 X7 ⟨rfl, N7q, K7, E_x, F_x_modCount, F_x_elementData, F_x_size, V_d⟩
    have N7 := Fr.app N6 N7q
    replace I_df := Own.Ins.kp I_df K7
    replace I_sh := Own.Ins.kp I_sh K7
    replace A_ya := A_ya.keep K7 (ninS ne_ya_x (ninS ne_ya_d nin0)) (ninS ne_yat_x (ninS ne_yat_d nin0))
    replace A_yb := A_yb.keep K7 (ninS ne_yb_x (ninS ne_yb_d nin0)) (ninS ne_ybt_x (ninS ne_ybt_d nin0))
    replace A_yc := A_yc.keep K7 (ninS ne_yc_x (ninS ne_yc_d nin0)) (ninS ne_yct_x (ninS ne_yct_d nin0))
    replace E_d := E_d.keep K7
    replace O := O.keep K7 (allS n0_x (allS n0_d all0))
    show Own.Go p e below _ (T7.setTop (mkF m 235 #[.val (.int p1), .val (.int p2), .val (.int p3), .val (.int p4), .val (.int na), .val (.int nb), .val (.int nc), .val (.int (3 : Int32)), .val (.ref df), .val (.ref sh), .val (.ref ya), .val (.ref yb), .val (.ref yc), .val (.ref x), .unset, .unset, .unset] [(.int (1 : Int32))]))
    refine Own.g_pop X7 hx (hb hby at_235) rfl 236 rfl ?_
    refine Own.g_iload X7 hx (hb hby at_236) rfl 238 rfl ?_
    refine Own.g_iconst X7 hx (2 : Int32) (hb hby at_238) rfl 239 rfl ?_
    refine Own.g_icmp_le_f X7 hx (hb hby at_239) (by decide) 242 rfl ?_
    refine Own.g_aload X7 hx (hb hby at_242) rfl rfl 244 rfl ?_
    refine Own.g_aload X7 hx (hb hby at_244) rfl rfl 246 rfl ?_
    refine Own.g_virtual X7 hx hZ (y := (⟨"java/util/ArrayList", "add", "(Ljava/lang/Object;)Z"⟩ : MethodName)) (z := (⟨"java/util/ArrayList", "add", "(Ljava/lang/Object;)Z"⟩ : MethodName)) hown (mvT hZ (hw _ (List.mem_of_getElem? (i := 81) rfl))) (mvT hZ (hw _ (List.mem_of_getElem? (i := 82) rfl))) (notFace_of_selects (args := #[]) (mvT hZ (hw _ (List.mem_of_getElem? (i := 84) rfl)))) (mvT hZ (hw _ (List.mem_of_getElem? (i := 84) rfl))) (mvT hZ (hw _ (List.mem_of_getElem? (i := 83) rfl))) (by decide) (a := x) [.ref sh] (Own.back (W := 0) (rm_add2 l Z a0 hw [] x sh (((0 : Int32) + (1 : Int32)) + (1 : Int32)) d k_d sh sh T7.heap n0 O n0_x n0_d I_sh ne_x_d V_d O_d E_x F_x_modCount F_x_elementData F_x_size) hZ (hw _ (List.mem_of_getElem? (i := 85) rfl)) (hw _ (List.mem_of_getElem? (i := 18) rfl)) (by decide) (by decide)) E_x (rfl : T7.heap = T7.heap) (by rw [hml]; rfl) [] (lenOf pd_17 rfl) rfl (Nat.le_of_ble_eq_true rfl) (hb hby at_246) (by decide) (by decide) 249 rfl ?_
    rintro _ T8 L8 X8 ⟨rfl, N8q, K8, E_x, F_x_modCount, F_x_elementData, F_x_size, V_d⟩
    have N8 := Fr.app N7 N8q
    replace I_df := Own.Ins.kp I_df K8
    replace I_sh := Own.Ins.kp I_sh K8
    replace A_ya := A_ya.keep K8 (ninS ne_ya_x (ninS ne_ya_d nin0)) (ninS ne_yat_x (ninS ne_yat_d nin0))
    replace A_yb := A_yb.keep K8 (ninS ne_yb_x (ninS ne_yb_d nin0)) (ninS ne_ybt_x (ninS ne_ybt_d nin0))
    replace A_yc := A_yc.keep K8 (ninS ne_yc_x (ninS ne_yc_d nin0)) (ninS ne_yct_x (ninS ne_yct_d nin0))
    replace E_d := E_d.keep K8
    replace O := O.keep K8 (allS n0_x (allS n0_d all0))
    show Own.Go p e below _ (T8.setTop (mkF m 249 #[.val (.int p1), .val (.int p2), .val (.int p3), .val (.int p4), .val (.int na), .val (.int nb), .val (.int nc), .val (.int (3 : Int32)), .val (.ref df), .val (.ref sh), .val (.ref ya), .val (.ref yb), .val (.ref yc), .val (.ref x), .unset, .unset, .unset] [(.int (1 : Int32))]))
    refine Own.g_pop X8 hx (hb hby at_249) rfl 250 rfl ?_
    have A_x : Own.AL Z T8.heap x d [sh, sh, sh] := ⟨E_x, F_x_size, F_x_elementData, E_d, (fun y hy => by simp only [List.mem_cons, List.mem_singleton, List.not_mem_nil, or_false, or_self] at hy; subst hy; exact I_sh), Or.inr ⟨k_d, V_d⟩⟩
    exact st_250 hQ hx hZ hw hby hml hown hret hlocks p1 p2 p3 p4 na nb nc (3 : Int32) df sh ya yat l1 yb ybt l2 yc yct l3 x d [sh, sh, sh] da kda mr el ea em (X8.more (by decide) (by decide)) (rfl : T8.heap = T8.heap) N8 O A_ya A_yb A_yc A_x   SD AD M SEL IMel SEM hl1 he1 hl2 he2 hl3 he3 (Or.inr (Or.inr (Or.inr (⟨sh, sh, sh, rfl⟩)))) ⟨(fun q => nomatch q), (fun q => absurd q (by decide))⟩
set_option maxRecDepth 65536 in
set_option maxHeartbeats 40000000 in
theorem st_150 {p : Program} {l : Launch} {e : Env} {s : State} {m : MethodId} {args : Array Value} {below : List Frame} {meth : Method} {c : Code} {T0 : State} {locs : List Loc} {Z : State} {a0 : Array Value} {hh : Heap} {n0 : Nat} {Q : Option Value → Heap → List Loc → Prop} (hQ : ∀ h L, Fr n0 L → Q (some (.int 1)) h L)  (hx : p.tables.exec = Jvm.exec) (hZ : Z.Warmed39 s.vm) (hw : ∀ d ∈ tables_1, d.before a0 Z = true) (hby : c.code = code) (hml : c.maxLocals = 17) (hown : s.vm.findClass "com/example/witnesseth/witnesseth/agreement/ClockDifferentialsIsEmptyPinLaw" = some m.cls) (hret : meth.sig.returnType = (some .boolean)) (hlocks : meth.locks = false)
    (p1 p2 p3 p4 na nb nc nd : Int32) (df sh : Addr) (ya yat : Addr) (l1 : List Addr) (yb ybt : Addr) (l2 : List Addr) (da : Addr) (kda : ClassId) (mr : Addr) (el : Addr) (ea : Addr) (em : Addr) (X0 : Stand p l e room_1 s m args below meth c T0 locs 18 102) (e0 : T0.heap = hh) (N0 : Fr n0 locs) (O : Old Z n0 hh) (I_df : Ins Z hh df "java/lang/Object" true) (I_sh : Ins Z hh sh "java/lang/Object" true) (A_ya : Own.AL Z hh ya yat l1) (A_yb : Own.AL Z hh yb ybt l2)   (SD : Sta Z Z.heap "java/util/ArrayList" "DEFAULTCAPACITY_EMPTY_ELEMENTDATA" "[Ljava/lang/Object;" (.ref da)) (AD : Arv Z Z.heap da kda (.object "java/lang/Object") 0 [] .null) (M : Mir Z "[Ljava/lang/Object;" mr) (SEL : Sta Z Z.heap "java/util/ImmutableCollections" "EMPTY_LIST" "Ljava/util/ImmutableCollections$ListN;" (.ref el)) (IMel : Own.Im Z Z.heap el ea true) (SEM : Sta Z Z.heap "java/util/ImmutableCollections" "EMPTY" "Ljava/lang/Object;" (.ref em)) (ED : Exa Z Z.heap da "[Ljava/lang/Object;") (K_nc : nc = 0 ∨ nc = 1 ∨ nc = 2 ∨ nc = 3) (K_nd : nd = 0 ∨ nd = 1 ∨ nd = 2 ∨ nd = 3) (hl1 : l1 = [] ∨ (∃ y1 : Addr, l1 = [y1]) ∨ (∃ y1 y2 : Addr, l1 = [y1, y2]) ∨ (∃ y1 y2 y3 : Addr, l1 = [y1, y2, y3])) (he1 : l1.isEmpty = true ↔ na = 0) (hl2 : l2 = [] ∨ (∃ y1 : Addr, l2 = [y1]) ∨ (∃ y1 y2 : Addr, l2 = [y1, y2]) ∨ (∃ y1 y2 y3 : Addr, l2 = [y1, y2, y3])) (he2 : l2.isEmpty = true ↔ nb = 0) :
    Own.Go p e below (Own.End s Q 64 320) (T0.setTop (mkF m 150 #[.val (.int p1), .val (.int p2), .val (.int p3), .val (.int p4), .val (.int na), .val (.int nb), .val (.int nc), .val (.int nd), .val (.ref df), .val (.ref sh), .val (.ref ya), .val (.ref yb), .unset, .unset, .unset, .unset, .unset] [])) := by
  refine Own.g_new X0 hx hZ hown (hw _ (List.mem_of_getElem? (i := 16) rfl)) (hw _ (List.mem_of_getElem? (i := 17) rfl)) (hw _ (List.mem_of_getElem? (i := 18) rfl)) e0 (hb hby at_150) (by decide) (by decide) 153 rfl ?_
  intro T1 h1 x X1 e1 E1 g1 E_x D1
  have ne_ya_x : ya ≠ x := Nat.ne_of_lt (Nat.lt_of_lt_of_le (A_ya.lt) (Nat.le_of_eq g1.symm))
  have ne_yat_x : yat ≠ x := Nat.ne_of_lt (Nat.lt_of_lt_of_le (A_ya.lt2) (Nat.le_of_eq g1.symm))
  have ne_yb_x : yb ≠ x := Nat.ne_of_lt (Nat.lt_of_lt_of_le (A_yb.lt) (Nat.le_of_eq g1.symm))
  have ne_ybt_x : ybt ≠ x := Nat.ne_of_lt (Nat.lt_of_lt_of_le (A_yb.lt2) (Nat.le_of_eq g1.symm))
  have n0_x : n0 ≤ x := Nat.le_trans (Nat.le_of_eq O.1.symm) (Nat.le_trans O.2.1 (Nat.le_of_eq g1.symm))
  replace I_df := I_df.ext E1
  replace I_sh := I_sh.ext E1
  replace A_ya := A_ya.ext E1
  replace A_yb := A_yb.ext E1
  replace O := O.ext E1
  have F_x_modCount : Fld Z h1 x "java/util/AbstractList" "modCount" "I" (.int (0 : Int32)) := D1 (Or.inl (hw _ (List.mem_of_getElem? (i := 36) rfl))) (ty := .int) (by decide)
  have F_x_elementData : Fld Z h1 x "java/util/ArrayList" "elementData" "[Ljava/lang/Object;" .null := D1 (Or.inl (hw _ (List.mem_of_getElem? (i := 39) rfl))) (ty := (.array (.object "java/lang/Object"))) (by decide)
  have F_x_size : Fld Z h1 x "java/util/ArrayList" "size" "I" (.int (0 : Int32)) := D1 (Or.inl (hw _ (List.mem_of_getElem? (i := 68) rfl))) (ty := .int) (by decide)
  refine Own.g_dup X1 hx (hb hby at_153) rfl 154 rfl ?_
  refine Own.g_special X1 hx (y := (⟨"java/util/ArrayList", "<init>", "()V"⟩ : MethodName)) rfl hown (mvT hZ (hw _ (List.mem_of_getElem? (i := 19) rfl))) (mvT hZ (hw _ (List.mem_of_getElem? (i := 20) rfl))) (mvT hZ (hw _ (List.mem_of_getElem? (i := 21) rfl))) (by decide) (a := x) [] (Own.back (W := 1) (rm_ali l Z a0 hw [] x da kda h1 n0 O n0_x SD AD E_x F_x_modCount F_x_elementData F_x_size) hZ (hw _ (List.mem_of_getElem? (i := 21) rfl)) (hw _ (List.mem_of_getElem? (i := 18) rfl)) (by decide) (by decide)) e1 (by rw [hml]; rfl) [(.ref x)] (lenOf pd_0 rfl) rfl (Nat.le_of_ble_eq_true rfl) (hb hby at_154) (by decide) (by decide) 157 rfl ?_
  rintro _ T2 L2 X2 ⟨rfl, N2q, K2, E_x, F_x_modCount, F_x_elementData, F_x_size⟩
  have N2 := Fr.app N0 N2q
  replace I_df := Own.Ins.kp I_df K2
  replace I_sh := Own.Ins.kp I_sh K2
  replace A_ya := A_ya.keep K2 (ninS ne_ya_x nin0) (ninS ne_yat_x nin0)
  replace A_yb := A_yb.keep K2 (ninS ne_yb_x nin0) (ninS ne_ybt_x nin0)
  replace O := O.keep K2 (allS n0_x all0)
  show Own.Go p e below _ (T2.setTop (mkF m 157 #[.val (.int p1), .val (.int p2), .val (.int p3), .val (.int p4), .val (.int na), .val (.int nb), .val (.int nc), .val (.int nd), .val (.ref df), .val (.ref sh), .val (.ref ya), .val (.ref yb), .unset, .unset, .unset, .unset, .unset] [(.ref x)]))
  refine Own.g_astore X2 hx #[.val (.int p1), .val (.int p2), .val (.int p3), .val (.int p4), .val (.int na), .val (.int nb), .val (.int nc), .val (.int nd), .val (.ref df), .val (.ref sh), .val (.ref ya), .val (.ref yb), .val (.ref x), .unset, .unset, .unset, .unset] (hb hby at_157) rfl rfl 159 rfl ?_
  rcases K_nc with rfl | rfl | rfl | rfl
  · show Own.Go p e below _ (T2.setTop (mkF m 159 #[.val (.int p1), .val (.int p2), .val (.int p3), .val (.int p4), .val (.int na), .val (.int nb), .val (.int (0 : Int32)), .val (.int nd), .val (.ref df), .val (.ref sh), .val (.ref ya), .val (.ref yb), .val (.ref x), .unset, .unset, .unset, .unset] []))
    refine Own.g_iload X2 hx (hb hby at_159) rfl 161 rfl ?_
    refine Own.g_if_le_t X2 hx (hb hby at_161) (by decide) 172 (by decide) ?_
    refine Own.g_iload X2 hx (hb hby at_172) rfl 174 rfl ?_
    refine Own.g_iconst X2 hx (1 : Int32) (hb hby at_174) rfl 175 rfl ?_
    refine Own.g_icmp_le_t X2 hx (hb hby at_175) (by decide) 186 (by decide) ?_
    refine Own.g_iload X2 hx (hb hby at_186) rfl 188 rfl ?_
    refine Own.g_iconst X2 hx (2 : Int32) (hb hby at_188) rfl 189 rfl ?_
    refine Own.g_icmp_le_t X2 hx (hb hby at_189) (by decide) 200 (by decide) ?_
    have A_x : Own.AL Z T2.heap x da [] := ⟨E_x, F_x_size, F_x_elementData, ED.ext O.2, (fun y hy => nomatch hy), Or.inl rfl⟩
    exact st_200 hQ hx hZ hw hby hml hown hret hlocks p1 p2 p3 p4 na nb (0 : Int32) nd df sh ya yat l1 yb ybt l2 x da [] da kda mr el ea em (X2.more (by decide) (by decide)) (rfl : T2.heap = T2.heap) N2 O I_df I_sh A_ya A_yb A_x   SD AD M SEL IMel SEM ED K_nd hl1 he1 hl2 he2 (Or.inl rfl) ⟨fun _ => rfl, fun _ => rfl⟩
  · show Own.Go p e below _ (T2.setTop (mkF m 159 #[.val (.int p1), .val (.int p2), .val (.int p3), .val (.int p4), .val (.int na), .val (.int nb), .val (.int (1 : Int32)), .val (.int nd), .val (.ref df), .val (.ref sh), .val (.ref ya), .val (.ref yb), .val (.ref x), .unset, .unset, .unset, .unset] []))
    refine Own.g_iload X2 hx (hb hby at_159) rfl 161 rfl ?_
    refine Own.g_if_le_f X2 hx (hb hby at_161) (by decide) 164 rfl ?_
    refine Own.g_aload X2 hx (hb hby at_164) rfl rfl 166 rfl ?_
    refine Own.g_aload X2 hx (hb hby at_166) rfl rfl 168 rfl ?_
    have ltx := E_x.lt
    refine Own.g_virtual X2 hx hZ (y := (⟨"java/util/ArrayList", "add", "(Ljava/lang/Object;)Z"⟩ : MethodName)) (z := (⟨"java/util/ArrayList", "add", "(Ljava/lang/Object;)Z"⟩ : MethodName)) hown (mvT hZ (hw _ (List.mem_of_getElem? (i := 81) rfl))) (mvT hZ (hw _ (List.mem_of_getElem? (i := 82) rfl))) (notFace_of_selects (args := #[]) (mvT hZ (hw _ (List.mem_of_getElem? (i := 84) rfl)))) (mvT hZ (hw _ (List.mem_of_getElem? (i := 84) rfl))) (mvT hZ (hw _ (List.mem_of_getElem? (i := 83) rfl))) (by decide) (a := x) [.ref sh] (Own.back (W := 0) (rm_add0 l Z a0 hw [] x sh (0 : Int32) da kda T2.heap n0 O n0_x I_sh SD AD E_x F_x_modCount F_x_elementData F_x_size) hZ (hw _ (List.mem_of_getElem? (i := 85) rfl)) (hw _ (List.mem_of_getElem? (i := 18) rfl)) (by decide) (by decide)) E_x (rfl : T2.heap = T2.heap) (by rw [hml]; rfl) [] (lenOf pd_17 rfl) rfl (Nat.le_of_ble_eq_true rfl) (hb hby at_168) (by decide) (by decide) 171 rfl ?_
    rintro _ T3 L3 X3 ⟨rfl, N3q, d, k_d, K3, sz3, E_x, F_x_modCount, F_x_elementData, F_x_size, V_d, E_d, O_d⟩
    have N3 := Fr.app N2 N3q
    have ne_ya_d : ya ≠ d := Nat.ne_of_lt (Nat.lt_of_lt_of_le (A_ya.lt) sz3)
    have ne_yat_d : yat ≠ d := Nat.ne_of_lt (Nat.lt_of_lt_of_le (A_ya.lt2) sz3)
    have ne_yb_d : yb ≠ d := Nat.ne_of_lt (Nat.lt_of_lt_of_le (A_yb.lt) sz3)
    have ne_ybt_d : ybt ≠ d := Nat.ne_of_lt (Nat.lt_of_lt_of_le (A_yb.lt2) sz3)
    have n0_d : n0 ≤ d := Nat.le_trans (Nat.le_of_eq O.1.symm) (Nat.le_trans O.2.1 sz3)
    have ne_x_d : x ≠ d := Nat.ne_of_lt (Nat.lt_of_lt_of_le ltx sz3)
    replace I_df := Own.Ins.kp I_df K3
    replace I_sh := Own.Ins.kp I_sh K3
    replace A_ya := A_ya.keep K3 (ninS ne_ya_x nin0) (ninS ne_yat_x nin0)
    replace A_yb := A_yb.keep K3 (ninS ne_yb_x nin0) (ninS ne_ybt_x nin0)
    replace O := O.keep K3 (allS n0_x all0)
    show Own.Go p e below _ (T3.setTop (mkF m 171 #[.val (.int p1), .val (.int p2), .val (.int p3), .val (.int p4), .val (.int na), .val (.int nb), .val (.int (1 : Int32)), .val (.int nd), .val (.ref df), .val (.ref sh), .val (.ref ya), .val (.ref yb), .val (.ref x), .unset, .unset, .unset, .unset] [(.int (1 : Int32))]))
    refine Own.g_pop X3 hx (hb hby at_171) rfl 172 rfl ?_
    refine Own.g_iload X3 hx (hb hby at_172) rfl 174 rfl ?_
    refine Own.g_iconst X3 hx (1 : Int32) (hb hby at_174) rfl 175 rfl ?_
    refine Own.g_icmp_le_t X3 hx (hb hby at_175) (by decide) 186 (by decide) ?_
    refine Own.g_iload X3 hx (hb hby at_186) rfl 188 rfl ?_
    refine Own.g_iconst X3 hx (2 : Int32) (hb hby at_188) rfl 189 rfl ?_
    refine Own.g_icmp_le_t X3 hx (hb hby at_189) (by decide) 200 (by decide) ?_
    have A_x : Own.AL Z T3.heap x d [sh] := ⟨E_x, F_x_size, F_x_elementData, E_d, (fun y hy => by simp only [List.mem_cons, List.mem_singleton, List.not_mem_nil, or_false, or_self] at hy; subst hy; exact I_sh), Or.inr ⟨k_d, V_d⟩⟩
    exact st_200 hQ hx hZ hw hby hml hown hret hlocks p1 p2 p3 p4 na nb (1 : Int32) nd df sh ya yat l1 yb ybt l2 x d [sh] da kda mr el ea em (X3.more (by decide) (by decide)) (rfl : T3.heap = T3.heap) N3 O I_df I_sh A_ya A_yb A_x   SD AD M SEL IMel SEM ED K_nd hl1 he1 hl2 he2 (Or.inr (Or.inl ⟨sh, rfl⟩)) ⟨(fun q => nomatch q), (fun q => absurd q (by decide))⟩
  · show Own.Go p e below _ (T2.setTop (mkF m 159 #[.val (.int p1), .val (.int p2), .val (.int p3), .val (.int p4), .val (.int na), .val (.int nb), .val (.int (2 : Int32)), .val (.int nd), .val (.ref df), .val (.ref sh), .val (.ref ya), .val (.ref yb), .val (.ref x), .unset, .unset, .unset, .unset] []))
    refine Own.g_iload X2 hx (hb hby at_159) rfl 161 rfl ?_
    refine Own.g_if_le_f X2 hx (hb hby at_161) (by decide) 164 rfl ?_
    refine Own.g_aload X2 hx (hb hby at_164) rfl rfl 166 rfl ?_
    refine Own.g_aload X2 hx (hb hby at_166) rfl rfl 168 rfl ?_
    have ltx := E_x.lt
    refine Own.g_virtual X2 hx hZ (y := (⟨"java/util/ArrayList", "add", "(Ljava/lang/Object;)Z"⟩ : MethodName)) (z := (⟨"java/util/ArrayList", "add", "(Ljava/lang/Object;)Z"⟩ : MethodName)) hown (mvT hZ (hw _ (List.mem_of_getElem? (i := 81) rfl))) (mvT hZ (hw _ (List.mem_of_getElem? (i := 82) rfl))) (notFace_of_selects (args := #[]) (mvT hZ (hw _ (List.mem_of_getElem? (i := 84) rfl)))) (mvT hZ (hw _ (List.mem_of_getElem? (i := 84) rfl))) (mvT hZ (hw _ (List.mem_of_getElem? (i := 83) rfl))) (by decide) (a := x) [.ref sh] (Own.back (W := 0) (rm_add0 l Z a0 hw [] x sh (0 : Int32) da kda T2.heap n0 O n0_x I_sh SD AD E_x F_x_modCount F_x_elementData F_x_size) hZ (hw _ (List.mem_of_getElem? (i := 85) rfl)) (hw _ (List.mem_of_getElem? (i := 18) rfl)) (by decide) (by decide)) E_x (rfl : T2.heap = T2.heap) (by rw [hml]; rfl) [] (lenOf pd_17 rfl) rfl (Nat.le_of_ble_eq_true rfl) (hb hby at_168) (by decide) (by decide) 171 rfl ?_
    rintro _ T4 L4 X4 ⟨rfl, N4q, d, k_d, K4, sz4, E_x, F_x_modCount, F_x_elementData, F_x_size, V_d, E_d, O_d⟩
    have N4 := Fr.app N2 N4q
    have ne_ya_d : ya ≠ d := Nat.ne_of_lt (Nat.lt_of_lt_of_le (A_ya.lt) sz4)
    have ne_yat_d : yat ≠ d := Nat.ne_of_lt (Nat.lt_of_lt_of_le (A_ya.lt2) sz4)
    have ne_yb_d : yb ≠ d := Nat.ne_of_lt (Nat.lt_of_lt_of_le (A_yb.lt) sz4)
    have ne_ybt_d : ybt ≠ d := Nat.ne_of_lt (Nat.lt_of_lt_of_le (A_yb.lt2) sz4)
    have n0_d : n0 ≤ d := Nat.le_trans (Nat.le_of_eq O.1.symm) (Nat.le_trans O.2.1 sz4)
    have ne_x_d : x ≠ d := Nat.ne_of_lt (Nat.lt_of_lt_of_le ltx sz4)
    replace I_df := Own.Ins.kp I_df K4
    replace I_sh := Own.Ins.kp I_sh K4
    replace A_ya := A_ya.keep K4 (ninS ne_ya_x nin0) (ninS ne_yat_x nin0)
    replace A_yb := A_yb.keep K4 (ninS ne_yb_x nin0) (ninS ne_ybt_x nin0)
    replace O := O.keep K4 (allS n0_x all0)
    show Own.Go p e below _ (T4.setTop (mkF m 171 #[.val (.int p1), .val (.int p2), .val (.int p3), .val (.int p4), .val (.int na), .val (.int nb), .val (.int (2 : Int32)), .val (.int nd), .val (.ref df), .val (.ref sh), .val (.ref ya), .val (.ref yb), .val (.ref x), .unset, .unset, .unset, .unset] [(.int (1 : Int32))]))
    refine Own.g_pop X4 hx (hb hby at_171) rfl 172 rfl ?_
    refine Own.g_iload X4 hx (hb hby at_172) rfl 174 rfl ?_
    refine Own.g_iconst X4 hx (1 : Int32) (hb hby at_174) rfl 175 rfl ?_
    refine Own.g_icmp_le_f X4 hx (hb hby at_175) (by decide) 178 rfl ?_
    refine Own.g_aload X4 hx (hb hby at_178) rfl rfl 180 rfl ?_
    refine Own.g_aload X4 hx (hb hby at_180) rfl rfl 182 rfl ?_
    refine Own.g_virtual X4 hx hZ (y := (⟨"java/util/ArrayList", "add", "(Ljava/lang/Object;)Z"⟩ : MethodName)) (z := (⟨"java/util/ArrayList", "add", "(Ljava/lang/Object;)Z"⟩ : MethodName)) hown (mvT hZ (hw _ (List.mem_of_getElem? (i := 81) rfl))) (mvT hZ (hw _ (List.mem_of_getElem? (i := 82) rfl))) (notFace_of_selects (args := #[]) (mvT hZ (hw _ (List.mem_of_getElem? (i := 84) rfl)))) (mvT hZ (hw _ (List.mem_of_getElem? (i := 84) rfl))) (mvT hZ (hw _ (List.mem_of_getElem? (i := 83) rfl))) (by decide) (a := x) [.ref sh] (Own.back (W := 0) (rm_add1 l Z a0 hw [] x sh ((0 : Int32) + (1 : Int32)) d k_d sh T4.heap n0 O n0_x n0_d I_sh ne_x_d V_d O_d E_x F_x_modCount F_x_elementData F_x_size) hZ (hw _ (List.mem_of_getElem? (i := 85) rfl)) (hw _ (List.mem_of_getElem? (i := 18) rfl)) (by decide) (by decide)) E_x (rfl : T4.heap = T4.heap) (by rw [hml]; rfl) [] (lenOf pd_17 rfl) rfl (Nat.le_of_ble_eq_true rfl) (hb hby at_182) (by decide) (by decide) 185 rfl ?_
    rintro _ T5 L5 X5 ⟨rfl, N5q, K5, E_x, F_x_modCount, F_x_elementData, F_x_size, V_d⟩
    have N5 := Fr.app N4 N5q
    replace I_df := Own.Ins.kp I_df K5
    replace I_sh := Own.Ins.kp I_sh K5
    replace A_ya := A_ya.keep K5 (ninS ne_ya_x (ninS ne_ya_d nin0)) (ninS ne_yat_x (ninS ne_yat_d nin0))
    replace A_yb := A_yb.keep K5 (ninS ne_yb_x (ninS ne_yb_d nin0)) (ninS ne_ybt_x (ninS ne_ybt_d nin0))
    replace E_d := E_d.keep K5
    replace O := O.keep K5 (allS n0_x (allS n0_d all0))
    show Own.Go p e below _ (T5.setTop (mkF m 185 #[.val (.int p1), .val (.int p2), .val (.int p3), .val (.int p4), .val (.int na), .val (.int nb), .val (.int (2 : Int32)), .val (.int nd), .val (.ref df), .val (.ref sh), .val (.ref ya), .val (.ref yb), .val (.ref x), .unset, .unset, .unset, .unset] [(.int (1 : Int32))]))
    refine Own.g_pop X5 hx (hb hby at_185) rfl 186 rfl ?_
    refine Own.g_iload X5 hx (hb hby at_186) rfl 188 rfl ?_
    refine Own.g_iconst X5 hx (2 : Int32) (hb hby at_188) rfl 189 rfl ?_
    refine Own.g_icmp_le_t X5 hx (hb hby at_189) (by decide) 200 (by decide) ?_
    have A_x : Own.AL Z T5.heap x d [sh, sh] := ⟨E_x, F_x_size, F_x_elementData, E_d, (fun y hy => by simp only [List.mem_cons, List.mem_singleton, List.not_mem_nil, or_false, or_self] at hy; subst hy; exact I_sh), Or.inr ⟨k_d, V_d⟩⟩
    exact st_200 hQ hx hZ hw hby hml hown hret hlocks p1 p2 p3 p4 na nb (2 : Int32) nd df sh ya yat l1 yb ybt l2 x d [sh, sh] da kda mr el ea em (X5.more (by decide) (by decide)) (rfl : T5.heap = T5.heap) N5 O I_df I_sh A_ya A_yb A_x   SD AD M SEL IMel SEM ED K_nd hl1 he1 hl2 he2 (Or.inr (Or.inr (Or.inl ⟨sh, sh, rfl⟩))) ⟨(fun q => nomatch q), (fun q => absurd q (by decide))⟩
  · show Own.Go p e below _ (T2.setTop (mkF m 159 #[.val (.int p1), .val (.int p2), .val (.int p3), .val (.int p4), .val (.int na), .val (.int nb), .val (.int (3 : Int32)), .val (.int nd), .val (.ref df), .val (.ref sh), .val (.ref ya), .val (.ref yb), .val (.ref x), .unset, .unset, .unset, .unset] []))
    refine Own.g_iload X2 hx (hb hby at_159) rfl 161 rfl ?_
    refine Own.g_if_le_f X2 hx (hb hby at_161) (by decide) 164 rfl ?_
    refine Own.g_aload X2 hx (hb hby at_164) rfl rfl 166 rfl ?_
    refine Own.g_aload X2 hx (hb hby at_166) rfl rfl 168 rfl ?_
    have ltx := E_x.lt
    refine Own.g_virtual X2 hx hZ (y := (⟨"java/util/ArrayList", "add", "(Ljava/lang/Object;)Z"⟩ : MethodName)) (z := (⟨"java/util/ArrayList", "add", "(Ljava/lang/Object;)Z"⟩ : MethodName)) hown (mvT hZ (hw _ (List.mem_of_getElem? (i := 81) rfl))) (mvT hZ (hw _ (List.mem_of_getElem? (i := 82) rfl))) (notFace_of_selects (args := #[]) (mvT hZ (hw _ (List.mem_of_getElem? (i := 84) rfl)))) (mvT hZ (hw _ (List.mem_of_getElem? (i := 84) rfl))) (mvT hZ (hw _ (List.mem_of_getElem? (i := 83) rfl))) (by decide) (a := x) [.ref sh] (Own.back (W := 0) (rm_add0 l Z a0 hw [] x sh (0 : Int32) da kda T2.heap n0 O n0_x I_sh SD AD E_x F_x_modCount F_x_elementData F_x_size) hZ (hw _ (List.mem_of_getElem? (i := 85) rfl)) (hw _ (List.mem_of_getElem? (i := 18) rfl)) (by decide) (by decide)) E_x (rfl : T2.heap = T2.heap) (by rw [hml]; rfl) [] (lenOf pd_17 rfl) rfl (Nat.le_of_ble_eq_true rfl) (hb hby at_168) (by decide) (by decide) 171 rfl ?_
    rintro _ T6 L6 X6 ⟨rfl, N6q, d, k_d, K6, sz6, E_x, F_x_modCount, F_x_elementData, F_x_size, V_d, E_d, O_d⟩
    have N6 := Fr.app N2 N6q
    have ne_ya_d : ya ≠ d := Nat.ne_of_lt (Nat.lt_of_lt_of_le (A_ya.lt) sz6)
    have ne_yat_d : yat ≠ d := Nat.ne_of_lt (Nat.lt_of_lt_of_le (A_ya.lt2) sz6)
    have ne_yb_d : yb ≠ d := Nat.ne_of_lt (Nat.lt_of_lt_of_le (A_yb.lt) sz6)
    have ne_ybt_d : ybt ≠ d := Nat.ne_of_lt (Nat.lt_of_lt_of_le (A_yb.lt2) sz6)
    have n0_d : n0 ≤ d := Nat.le_trans (Nat.le_of_eq O.1.symm) (Nat.le_trans O.2.1 sz6)
    have ne_x_d : x ≠ d := Nat.ne_of_lt (Nat.lt_of_lt_of_le ltx sz6)
    replace I_df := Own.Ins.kp I_df K6
    replace I_sh := Own.Ins.kp I_sh K6
    replace A_ya := A_ya.keep K6 (ninS ne_ya_x nin0) (ninS ne_yat_x nin0)
    replace A_yb := A_yb.keep K6 (ninS ne_yb_x nin0) (ninS ne_ybt_x nin0)
    replace O := O.keep K6 (allS n0_x all0)
    show Own.Go p e below _ (T6.setTop (mkF m 171 #[.val (.int p1), .val (.int p2), .val (.int p3), .val (.int p4), .val (.int na), .val (.int nb), .val (.int (3 : Int32)), .val (.int nd), .val (.ref df), .val (.ref sh), .val (.ref ya), .val (.ref yb), .val (.ref x), .unset, .unset, .unset, .unset] [(.int (1 : Int32))]))
    refine Own.g_pop X6 hx (hb hby at_171) rfl 172 rfl ?_
    refine Own.g_iload X6 hx (hb hby at_172) rfl 174 rfl ?_
    refine Own.g_iconst X6 hx (1 : Int32) (hb hby at_174) rfl 175 rfl ?_
    refine Own.g_icmp_le_f X6 hx (hb hby at_175) (by decide) 178 rfl ?_
    refine Own.g_aload X6 hx (hb hby at_178) rfl rfl 180 rfl ?_
    refine Own.g_aload X6 hx (hb hby at_180) rfl rfl 182 rfl ?_
    refine Own.g_virtual X6 hx hZ (y := (⟨"java/util/ArrayList", "add", "(Ljava/lang/Object;)Z"⟩ : MethodName)) (z := (⟨"java/util/ArrayList", "add", "(Ljava/lang/Object;)Z"⟩ : MethodName)) hown (mvT hZ (hw _ (List.mem_of_getElem? (i := 81) rfl))) (mvT hZ (hw _ (List.mem_of_getElem? (i := 82) rfl))) (notFace_of_selects (args := #[]) (mvT hZ (hw _ (List.mem_of_getElem? (i := 84) rfl)))) (mvT hZ (hw _ (List.mem_of_getElem? (i := 84) rfl))) (mvT hZ (hw _ (List.mem_of_getElem? (i := 83) rfl))) (by decide) (a := x) [.ref sh] (Own.back (W := 0) (rm_add1 l Z a0 hw [] x sh ((0 : Int32) + (1 : Int32)) d k_d sh T6.heap n0 O n0_x n0_d I_sh ne_x_d V_d O_d E_x F_x_modCount F_x_elementData F_x_size) hZ (hw _ (List.mem_of_getElem? (i := 85) rfl)) (hw _ (List.mem_of_getElem? (i := 18) rfl)) (by decide) (by decide)) E_x (rfl : T6.heap = T6.heap) (by rw [hml]; rfl) [] (lenOf pd_17 rfl) rfl (Nat.le_of_ble_eq_true rfl) (hb hby at_182) (by decide) (by decide) 185 rfl ?_
    rintro _ T7 L7 X7 ⟨rfl, N7q, K7, E_x, F_x_modCount, F_x_elementData, F_x_size, V_d⟩
    have N7 := Fr.app N6 N7q
    replace I_df := Own.Ins.kp I_df K7
    replace I_sh := Own.Ins.kp I_sh K7
    replace A_ya := A_ya.keep K7 (ninS ne_ya_x (ninS ne_ya_d nin0)) (ninS ne_yat_x (ninS ne_yat_d nin0))
    replace A_yb := A_yb.keep K7 (ninS ne_yb_x (ninS ne_yb_d nin0)) (ninS ne_ybt_x (ninS ne_ybt_d nin0))
    replace E_d := E_d.keep K7
    replace O := O.keep K7 (allS n0_x (allS n0_d all0))
    show Own.Go p e below _ (T7.setTop (mkF m 185 #[.val (.int p1), .val (.int p2), .val (.int p3), .val (.int p4), .val (.int na), .val (.int nb), .val (.int (3 : Int32)), .val (.int nd), .val (.ref df), .val (.ref sh), .val (.ref ya), .val (.ref yb), .val (.ref x), .unset, .unset, .unset, .unset] [(.int (1 : Int32))]))
    refine Own.g_pop X7 hx (hb hby at_185) rfl 186 rfl ?_
    refine Own.g_iload X7 hx (hb hby at_186) rfl 188 rfl ?_
    refine Own.g_iconst X7 hx (2 : Int32) (hb hby at_188) rfl 189 rfl ?_
    refine Own.g_icmp_le_f X7 hx (hb hby at_189) (by decide) 192 rfl ?_
    refine Own.g_aload X7 hx (hb hby at_192) rfl rfl 194 rfl ?_
    refine Own.g_aload X7 hx (hb hby at_194) rfl rfl 196 rfl ?_
    refine Own.g_virtual X7 hx hZ (y := (⟨"java/util/ArrayList", "add", "(Ljava/lang/Object;)Z"⟩ : MethodName)) (z := (⟨"java/util/ArrayList", "add", "(Ljava/lang/Object;)Z"⟩ : MethodName)) hown (mvT hZ (hw _ (List.mem_of_getElem? (i := 81) rfl))) (mvT hZ (hw _ (List.mem_of_getElem? (i := 82) rfl))) (notFace_of_selects (args := #[]) (mvT hZ (hw _ (List.mem_of_getElem? (i := 84) rfl)))) (mvT hZ (hw _ (List.mem_of_getElem? (i := 84) rfl))) (mvT hZ (hw _ (List.mem_of_getElem? (i := 83) rfl))) (by decide) (a := x) [.ref sh] (Own.back (W := 0) (rm_add2 l Z a0 hw [] x sh (((0 : Int32) + (1 : Int32)) + (1 : Int32)) d k_d sh sh T7.heap n0 O n0_x n0_d I_sh ne_x_d V_d O_d E_x F_x_modCount F_x_elementData F_x_size) hZ (hw _ (List.mem_of_getElem? (i := 85) rfl)) (hw _ (List.mem_of_getElem? (i := 18) rfl)) (by decide) (by decide)) E_x (rfl : T7.heap = T7.heap) (by rw [hml]; rfl) [] (lenOf pd_17 rfl) rfl (Nat.le_of_ble_eq_true rfl) (hb hby at_196) (by decide) (by decide) 199 rfl ?_
    rintro _ T8 L8 X8 ⟨rfl, N8q, K8, E_x, F_x_modCount, F_x_elementData, F_x_size, V_d⟩
    have N8 := Fr.app N7 N8q
    replace I_df := Own.Ins.kp I_df K8
    replace I_sh := Own.Ins.kp I_sh K8
    replace A_ya := A_ya.keep K8 (ninS ne_ya_x (ninS ne_ya_d nin0)) (ninS ne_yat_x (ninS ne_yat_d nin0))
    replace A_yb := A_yb.keep K8 (ninS ne_yb_x (ninS ne_yb_d nin0)) (ninS ne_ybt_x (ninS ne_ybt_d nin0))
    replace E_d := E_d.keep K8
    replace O := O.keep K8 (allS n0_x (allS n0_d all0))
    show Own.Go p e below _ (T8.setTop (mkF m 199 #[.val (.int p1), .val (.int p2), .val (.int p3), .val (.int p4), .val (.int na), .val (.int nb), .val (.int (3 : Int32)), .val (.int nd), .val (.ref df), .val (.ref sh), .val (.ref ya), .val (.ref yb), .val (.ref x), .unset, .unset, .unset, .unset] [(.int (1 : Int32))]))
    refine Own.g_pop X8 hx (hb hby at_199) rfl 200 rfl ?_
    have A_x : Own.AL Z T8.heap x d [sh, sh, sh] := ⟨E_x, F_x_size, F_x_elementData, E_d, (fun y hy => by simp only [List.mem_cons, List.mem_singleton, List.not_mem_nil, or_false, or_self] at hy; subst hy; exact I_sh), Or.inr ⟨k_d, V_d⟩⟩
    exact st_200 hQ hx hZ hw hby hml hown hret hlocks p1 p2 p3 p4 na nb (3 : Int32) nd df sh ya yat l1 yb ybt l2 x d [sh, sh, sh] da kda mr el ea em (X8.more (by decide) (by decide)) (rfl : T8.heap = T8.heap) N8 O I_df I_sh A_ya A_yb A_x   SD AD M SEL IMel SEM ED K_nd hl1 he1 hl2 he2 (Or.inr (Or.inr (Or.inr (⟨sh, sh, sh, rfl⟩)))) ⟨(fun q => nomatch q), (fun q => absurd q (by decide))⟩
set_option maxRecDepth 65536 in
set_option maxHeartbeats 40000000 in
theorem st_100 {p : Program} {l : Launch} {e : Env} {s : State} {m : MethodId} {args : Array Value} {below : List Frame} {meth : Method} {c : Code} {T0 : State} {locs : List Loc} {Z : State} {a0 : Array Value} {hh : Heap} {n0 : Nat} {Q : Option Value → Heap → List Loc → Prop} (hQ : ∀ h L, Fr n0 L → Q (some (.int 1)) h L)  (hx : p.tables.exec = Jvm.exec) (hZ : Z.Warmed39 s.vm) (hw : ∀ d ∈ tables_1, d.before a0 Z = true) (hby : c.code = code) (hml : c.maxLocals = 17) (hown : s.vm.findClass "com/example/witnesseth/witnesseth/agreement/ClockDifferentialsIsEmptyPinLaw" = some m.cls) (hret : meth.sig.returnType = (some .boolean)) (hlocks : meth.locks = false)
    (p1 p2 p3 p4 na nb nc nd : Int32) (df sh : Addr) (ya yat : Addr) (l1 : List Addr) (da : Addr) (kda : ClassId) (mr : Addr) (el : Addr) (ea : Addr) (em : Addr) (X0 : Stand p l e room_1 s m args below meth c T0 locs 13 67) (e0 : T0.heap = hh) (N0 : Fr n0 locs) (O : Old Z n0 hh) (I_df : Ins Z hh df "java/lang/Object" true) (I_sh : Ins Z hh sh "java/lang/Object" true) (A_ya : Own.AL Z hh ya yat l1)   (SD : Sta Z Z.heap "java/util/ArrayList" "DEFAULTCAPACITY_EMPTY_ELEMENTDATA" "[Ljava/lang/Object;" (.ref da)) (AD : Arv Z Z.heap da kda (.object "java/lang/Object") 0 [] .null) (M : Mir Z "[Ljava/lang/Object;" mr) (SEL : Sta Z Z.heap "java/util/ImmutableCollections" "EMPTY_LIST" "Ljava/util/ImmutableCollections$ListN;" (.ref el)) (IMel : Own.Im Z Z.heap el ea true) (SEM : Sta Z Z.heap "java/util/ImmutableCollections" "EMPTY" "Ljava/lang/Object;" (.ref em)) (ED : Exa Z Z.heap da "[Ljava/lang/Object;") (K_nb : nb = 0 ∨ nb = 1 ∨ nb = 2 ∨ nb = 3) (K_nc : nc = 0 ∨ nc = 1 ∨ nc = 2 ∨ nc = 3) (K_nd : nd = 0 ∨ nd = 1 ∨ nd = 2 ∨ nd = 3) (hl1 : l1 = [] ∨ (∃ y1 : Addr, l1 = [y1]) ∨ (∃ y1 y2 : Addr, l1 = [y1, y2]) ∨ (∃ y1 y2 y3 : Addr, l1 = [y1, y2, y3])) (he1 : l1.isEmpty = true ↔ na = 0) :
    Own.Go p e below (Own.End s Q 64 320) (T0.setTop (mkF m 100 #[.val (.int p1), .val (.int p2), .val (.int p3), .val (.int p4), .val (.int na), .val (.int nb), .val (.int nc), .val (.int nd), .val (.ref df), .val (.ref sh), .val (.ref ya), .unset, .unset, .unset, .unset, .unset, .unset] [])) := by
  refine Own.g_new X0 hx hZ hown (hw _ (List.mem_of_getElem? (i := 16) rfl)) (hw _ (List.mem_of_getElem? (i := 17) rfl)) (hw _ (List.mem_of_getElem? (i := 18) rfl)) e0 (hb hby at_100) (by decide) (by decide) 103 rfl ?_
  intro T1 h1 x X1 e1 E1 g1 E_x D1
  have ne_ya_x : ya ≠ x := Nat.ne_of_lt (Nat.lt_of_lt_of_le (A_ya.lt) (Nat.le_of_eq g1.symm))
  have ne_yat_x : yat ≠ x := Nat.ne_of_lt (Nat.lt_of_lt_of_le (A_ya.lt2) (Nat.le_of_eq g1.symm))
  have n0_x : n0 ≤ x := Nat.le_trans (Nat.le_of_eq O.1.symm) (Nat.le_trans O.2.1 (Nat.le_of_eq g1.symm))
  replace I_df := I_df.ext E1
  replace I_sh := I_sh.ext E1
  replace A_ya := A_ya.ext E1
  replace O := O.ext E1
  have F_x_modCount : Fld Z h1 x "java/util/AbstractList" "modCount" "I" (.int (0 : Int32)) := D1 (Or.inl (hw _ (List.mem_of_getElem? (i := 36) rfl))) (ty := .int) (by decide)
  have F_x_elementData : Fld Z h1 x "java/util/ArrayList" "elementData" "[Ljava/lang/Object;" .null := D1 (Or.inl (hw _ (List.mem_of_getElem? (i := 39) rfl))) (ty := (.array (.object "java/lang/Object"))) (by decide)
  have F_x_size : Fld Z h1 x "java/util/ArrayList" "size" "I" (.int (0 : Int32)) := D1 (Or.inl (hw _ (List.mem_of_getElem? (i := 68) rfl))) (ty := .int) (by decide)
  refine Own.g_dup X1 hx (hb hby at_103) rfl 104 rfl ?_
  refine Own.g_special X1 hx (y := (⟨"java/util/ArrayList", "<init>", "()V"⟩ : MethodName)) rfl hown (mvT hZ (hw _ (List.mem_of_getElem? (i := 19) rfl))) (mvT hZ (hw _ (List.mem_of_getElem? (i := 20) rfl))) (mvT hZ (hw _ (List.mem_of_getElem? (i := 21) rfl))) (by decide) (a := x) [] (Own.back (W := 1) (rm_ali l Z a0 hw [] x da kda h1 n0 O n0_x SD AD E_x F_x_modCount F_x_elementData F_x_size) hZ (hw _ (List.mem_of_getElem? (i := 21) rfl)) (hw _ (List.mem_of_getElem? (i := 18) rfl)) (by decide) (by decide)) e1 (by rw [hml]; rfl) [(.ref x)] (lenOf pd_0 rfl) rfl (Nat.le_of_ble_eq_true rfl) (hb hby at_104) (by decide) (by decide) 107 rfl ?_
  rintro _ T2 L2 X2 ⟨rfl, N2q, K2, E_x, F_x_modCount, F_x_elementData, F_x_size⟩
  have N2 := Fr.app N0 N2q
  replace I_df := Own.Ins.kp I_df K2
  replace I_sh := Own.Ins.kp I_sh K2
  replace A_ya := A_ya.keep K2 (ninS ne_ya_x nin0) (ninS ne_yat_x nin0)
  replace O := O.keep K2 (allS n0_x all0)
  show Own.Go p e below _ (T2.setTop (mkF m 107 #[.val (.int p1), .val (.int p2), .val (.int p3), .val (.int p4), .val (.int na), .val (.int nb), .val (.int nc), .val (.int nd), .val (.ref df), .val (.ref sh), .val (.ref ya), .unset, .unset, .unset, .unset, .unset, .unset] [(.ref x)]))
  refine Own.g_astore X2 hx #[.val (.int p1), .val (.int p2), .val (.int p3), .val (.int p4), .val (.int na), .val (.int nb), .val (.int nc), .val (.int nd), .val (.ref df), .val (.ref sh), .val (.ref ya), .val (.ref x), .unset, .unset, .unset, .unset, .unset] (hb hby at_107) rfl rfl 109 rfl ?_
  rcases K_nb with rfl | rfl | rfl | rfl
  · show Own.Go p e below _ (T2.setTop (mkF m 109 #[.val (.int p1), .val (.int p2), .val (.int p3), .val (.int p4), .val (.int na), .val (.int (0 : Int32)), .val (.int nc), .val (.int nd), .val (.ref df), .val (.ref sh), .val (.ref ya), .val (.ref x), .unset, .unset, .unset, .unset, .unset] []))
    refine Own.g_iload X2 hx (hb hby at_109) rfl 111 rfl ?_
    refine Own.g_if_le_t X2 hx (hb hby at_111) (by decide) 122 (by decide) ?_
    refine Own.g_iload X2 hx (hb hby at_122) rfl 124 rfl ?_
    refine Own.g_iconst X2 hx (1 : Int32) (hb hby at_124) rfl 125 rfl ?_
    refine Own.g_icmp_le_t X2 hx (hb hby at_125) (by decide) 136 (by decide) ?_
    refine Own.g_iload X2 hx (hb hby at_136) rfl 138 rfl ?_
    refine Own.g_iconst X2 hx (2 : Int32) (hb hby at_138) rfl 139 rfl ?_
    refine Own.g_icmp_le_t X2 hx (hb hby at_139) (by decide) 150 (by decide) ?_
    have A_x : Own.AL Z T2.heap x da [] := ⟨E_x, F_x_size, F_x_elementData, ED.ext O.2, (fun y hy => nomatch hy), Or.inl rfl⟩
    exact st_150 hQ hx hZ hw hby hml hown hret hlocks p1 p2 p3 p4 na (0 : Int32) nc nd df sh ya yat l1 x da [] da kda mr el ea em (X2.more (by decide) (by decide)) (rfl : T2.heap = T2.heap) N2 O I_df I_sh A_ya A_x   SD AD M SEL IMel SEM ED K_nc K_nd hl1 he1 (Or.inl rfl) ⟨fun _ => rfl, fun _ => rfl⟩
  · show Own.Go p e below _ (T2.setTop (mkF m 109 #[.val (.int p1), .val (.int p2), .val (.int p3), .val (.int p4), .val (.int na), .val (.int (1 : Int32)), .val (.int nc), .val (.int nd), .val (.ref df), .val (.ref sh), .val (.ref ya), .val (.ref x), .unset, .unset, .unset, .unset, .unset] []))
    refine Own.g_iload X2 hx (hb hby at_109) rfl 111 rfl ?_
    refine Own.g_if_le_f X2 hx (hb hby at_111) (by decide) 114 rfl ?_
    refine Own.g_aload X2 hx (hb hby at_114) rfl rfl 116 rfl ?_
    refine Own.g_aload X2 hx (hb hby at_116) rfl rfl 118 rfl ?_
    have ltx := E_x.lt
    refine Own.g_virtual X2 hx hZ (y := (⟨"java/util/ArrayList", "add", "(Ljava/lang/Object;)Z"⟩ : MethodName)) (z := (⟨"java/util/ArrayList", "add", "(Ljava/lang/Object;)Z"⟩ : MethodName)) hown (mvT hZ (hw _ (List.mem_of_getElem? (i := 81) rfl))) (mvT hZ (hw _ (List.mem_of_getElem? (i := 82) rfl))) (notFace_of_selects (args := #[]) (mvT hZ (hw _ (List.mem_of_getElem? (i := 84) rfl)))) (mvT hZ (hw _ (List.mem_of_getElem? (i := 84) rfl))) (mvT hZ (hw _ (List.mem_of_getElem? (i := 83) rfl))) (by decide) (a := x) [.ref df] (Own.back (W := 0) (rm_add0 l Z a0 hw [] x df (0 : Int32) da kda T2.heap n0 O n0_x I_df SD AD E_x F_x_modCount F_x_elementData F_x_size) hZ (hw _ (List.mem_of_getElem? (i := 85) rfl)) (hw _ (List.mem_of_getElem? (i := 18) rfl)) (by decide) (by decide)) E_x (rfl : T2.heap = T2.heap) (by rw [hml]; rfl) [] (lenOf pd_17 rfl) rfl (Nat.le_of_ble_eq_true rfl) (hb hby at_118) (by decide) (by decide) 121 rfl ?_
    rintro _ T3 L3 X3 ⟨rfl, N3q, d, k_d, K3, sz3, E_x, F_x_modCount, F_x_elementData, F_x_size, V_d, E_d, O_d⟩
    have N3 := Fr.app N2 N3q
    have ne_ya_d : ya ≠ d := Nat.ne_of_lt (Nat.lt_of_lt_of_le (A_ya.lt) sz3)
    have ne_yat_d : yat ≠ d := Nat.ne_of_lt (Nat.lt_of_lt_of_le (A_ya.lt2) sz3)
    have n0_d : n0 ≤ d := Nat.le_trans (Nat.le_of_eq O.1.symm) (Nat.le_trans O.2.1 sz3)
    have ne_x_d : x ≠ d := Nat.ne_of_lt (Nat.lt_of_lt_of_le ltx sz3)
    replace I_df := Own.Ins.kp I_df K3
    replace I_sh := Own.Ins.kp I_sh K3
    replace A_ya := A_ya.keep K3 (ninS ne_ya_x nin0) (ninS ne_yat_x nin0)
    replace O := O.keep K3 (allS n0_x all0)
    show Own.Go p e below _ (T3.setTop (mkF m 121 #[.val (.int p1), .val (.int p2), .val (.int p3), .val (.int p4), .val (.int na), .val (.int (1 : Int32)), .val (.int nc), .val (.int nd), .val (.ref df), .val (.ref sh), .val (.ref ya), .val (.ref x), .unset, .unset, .unset, .unset, .unset] [(.int (1 : Int32))]))
    refine Own.g_pop X3 hx (hb hby at_121) rfl 122 rfl ?_
    refine Own.g_iload X3 hx (hb hby at_122) rfl 124 rfl ?_
    refine Own.g_iconst X3 hx (1 : Int32) (hb hby at_124) rfl 125 rfl ?_
    refine Own.g_icmp_le_t X3 hx (hb hby at_125) (by decide) 136 (by decide) ?_
    refine Own.g_iload X3 hx (hb hby at_136) rfl 138 rfl ?_
    refine Own.g_iconst X3 hx (2 : Int32) (hb hby at_138) rfl 139 rfl ?_
    refine Own.g_icmp_le_t X3 hx (hb hby at_139) (by decide) 150 (by decide) ?_
    have A_x : Own.AL Z T3.heap x d [df] := ⟨E_x, F_x_size, F_x_elementData, E_d, (fun y hy => by simp only [List.mem_cons, List.mem_singleton, List.not_mem_nil, or_false, or_self] at hy; subst hy; exact I_df), Or.inr ⟨k_d, V_d⟩⟩
    exact st_150 hQ hx hZ hw hby hml hown hret hlocks p1 p2 p3 p4 na (1 : Int32) nc nd df sh ya yat l1 x d [df] da kda mr el ea em (X3.more (by decide) (by decide)) (rfl : T3.heap = T3.heap) N3 O I_df I_sh A_ya A_x   SD AD M SEL IMel SEM ED K_nc K_nd hl1 he1 (Or.inr (Or.inl ⟨df, rfl⟩)) ⟨(fun q => nomatch q), (fun q => absurd q (by decide))⟩
  · show Own.Go p e below _ (T2.setTop (mkF m 109 #[.val (.int p1), .val (.int p2), .val (.int p3), .val (.int p4), .val (.int na), .val (.int (2 : Int32)), .val (.int nc), .val (.int nd), .val (.ref df), .val (.ref sh), .val (.ref ya), .val (.ref x), .unset, .unset, .unset, .unset, .unset] []))
    refine Own.g_iload X2 hx (hb hby at_109) rfl 111 rfl ?_
    refine Own.g_if_le_f X2 hx (hb hby at_111) (by decide) 114 rfl ?_
    refine Own.g_aload X2 hx (hb hby at_114) rfl rfl 116 rfl ?_
    refine Own.g_aload X2 hx (hb hby at_116) rfl rfl 118 rfl ?_
    have ltx := E_x.lt
    refine Own.g_virtual X2 hx hZ (y := (⟨"java/util/ArrayList", "add", "(Ljava/lang/Object;)Z"⟩ : MethodName)) (z := (⟨"java/util/ArrayList", "add", "(Ljava/lang/Object;)Z"⟩ : MethodName)) hown (mvT hZ (hw _ (List.mem_of_getElem? (i := 81) rfl))) (mvT hZ (hw _ (List.mem_of_getElem? (i := 82) rfl))) (notFace_of_selects (args := #[]) (mvT hZ (hw _ (List.mem_of_getElem? (i := 84) rfl)))) (mvT hZ (hw _ (List.mem_of_getElem? (i := 84) rfl))) (mvT hZ (hw _ (List.mem_of_getElem? (i := 83) rfl))) (by decide) (a := x) [.ref df] (Own.back (W := 0) (rm_add0 l Z a0 hw [] x df (0 : Int32) da kda T2.heap n0 O n0_x I_df SD AD E_x F_x_modCount F_x_elementData F_x_size) hZ (hw _ (List.mem_of_getElem? (i := 85) rfl)) (hw _ (List.mem_of_getElem? (i := 18) rfl)) (by decide) (by decide)) E_x (rfl : T2.heap = T2.heap) (by rw [hml]; rfl) [] (lenOf pd_17 rfl) rfl (Nat.le_of_ble_eq_true rfl) (hb hby at_118) (by decide) (by decide) 121 rfl ?_
    rintro _ T4 L4 X4 ⟨rfl, N4q, d, k_d, K4, sz4, E_x, F_x_modCount, F_x_elementData, F_x_size, V_d, E_d, O_d⟩
    have N4 := Fr.app N2 N4q
    have ne_ya_d : ya ≠ d := Nat.ne_of_lt (Nat.lt_of_lt_of_le (A_ya.lt) sz4)
    have ne_yat_d : yat ≠ d := Nat.ne_of_lt (Nat.lt_of_lt_of_le (A_ya.lt2) sz4)
    have n0_d : n0 ≤ d := Nat.le_trans (Nat.le_of_eq O.1.symm) (Nat.le_trans O.2.1 sz4)
    have ne_x_d : x ≠ d := Nat.ne_of_lt (Nat.lt_of_lt_of_le ltx sz4)
    replace I_df := Own.Ins.kp I_df K4
    replace I_sh := Own.Ins.kp I_sh K4
    replace A_ya := A_ya.keep K4 (ninS ne_ya_x nin0) (ninS ne_yat_x nin0)
    replace O := O.keep K4 (allS n0_x all0)
    show Own.Go p e below _ (T4.setTop (mkF m 121 #[.val (.int p1), .val (.int p2), .val (.int p3), .val (.int p4), .val (.int na), .val (.int (2 : Int32)), .val (.int nc), .val (.int nd), .val (.ref df), .val (.ref sh), .val (.ref ya), .val (.ref x), .unset, .unset, .unset, .unset, .unset] [(.int (1 : Int32))]))
    refine Own.g_pop X4 hx (hb hby at_121) rfl 122 rfl ?_
    refine Own.g_iload X4 hx (hb hby at_122) rfl 124 rfl ?_
    refine Own.g_iconst X4 hx (1 : Int32) (hb hby at_124) rfl 125 rfl ?_
    refine Own.g_icmp_le_f X4 hx (hb hby at_125) (by decide) 128 rfl ?_
    refine Own.g_aload X4 hx (hb hby at_128) rfl rfl 130 rfl ?_
    refine Own.g_aload X4 hx (hb hby at_130) rfl rfl 132 rfl ?_
    refine Own.g_virtual X4 hx hZ (y := (⟨"java/util/ArrayList", "add", "(Ljava/lang/Object;)Z"⟩ : MethodName)) (z := (⟨"java/util/ArrayList", "add", "(Ljava/lang/Object;)Z"⟩ : MethodName)) hown (mvT hZ (hw _ (List.mem_of_getElem? (i := 81) rfl))) (mvT hZ (hw _ (List.mem_of_getElem? (i := 82) rfl))) (notFace_of_selects (args := #[]) (mvT hZ (hw _ (List.mem_of_getElem? (i := 84) rfl)))) (mvT hZ (hw _ (List.mem_of_getElem? (i := 84) rfl))) (mvT hZ (hw _ (List.mem_of_getElem? (i := 83) rfl))) (by decide) (a := x) [.ref df] (Own.back (W := 0) (rm_add1 l Z a0 hw [] x df ((0 : Int32) + (1 : Int32)) d k_d df T4.heap n0 O n0_x n0_d I_df ne_x_d V_d O_d E_x F_x_modCount F_x_elementData F_x_size) hZ (hw _ (List.mem_of_getElem? (i := 85) rfl)) (hw _ (List.mem_of_getElem? (i := 18) rfl)) (by decide) (by decide)) E_x (rfl : T4.heap = T4.heap) (by rw [hml]; rfl) [] (lenOf pd_17 rfl) rfl (Nat.le_of_ble_eq_true rfl) (hb hby at_132) (by decide) (by decide) 135 rfl ?_
    rintro _ T5 L5 X5 ⟨rfl, N5q, K5, E_x, F_x_modCount, F_x_elementData, F_x_size, V_d⟩
    have N5 := Fr.app N4 N5q
    replace I_df := Own.Ins.kp I_df K5
    replace I_sh := Own.Ins.kp I_sh K5
    replace A_ya := A_ya.keep K5 (ninS ne_ya_x (ninS ne_ya_d nin0)) (ninS ne_yat_x (ninS ne_yat_d nin0))
    replace E_d := E_d.keep K5
    replace O := O.keep K5 (allS n0_x (allS n0_d all0))
    show Own.Go p e below _ (T5.setTop (mkF m 135 #[.val (.int p1), .val (.int p2), .val (.int p3), .val (.int p4), .val (.int na), .val (.int (2 : Int32)), .val (.int nc), .val (.int nd), .val (.ref df), .val (.ref sh), .val (.ref ya), .val (.ref x), .unset, .unset, .unset, .unset, .unset] [(.int (1 : Int32))]))
    refine Own.g_pop X5 hx (hb hby at_135) rfl 136 rfl ?_
    refine Own.g_iload X5 hx (hb hby at_136) rfl 138 rfl ?_
    refine Own.g_iconst X5 hx (2 : Int32) (hb hby at_138) rfl 139 rfl ?_
    refine Own.g_icmp_le_t X5 hx (hb hby at_139) (by decide) 150 (by decide) ?_
    have A_x : Own.AL Z T5.heap x d [df, df] := ⟨E_x, F_x_size, F_x_elementData, E_d, (fun y hy => by simp only [List.mem_cons, List.mem_singleton, List.not_mem_nil, or_false, or_self] at hy; subst hy; exact I_df), Or.inr ⟨k_d, V_d⟩⟩
    exact st_150 hQ hx hZ hw hby hml hown hret hlocks p1 p2 p3 p4 na (2 : Int32) nc nd df sh ya yat l1 x d [df, df] da kda mr el ea em (X5.more (by decide) (by decide)) (rfl : T5.heap = T5.heap) N5 O I_df I_sh A_ya A_x   SD AD M SEL IMel SEM ED K_nc K_nd hl1 he1 (Or.inr (Or.inr (Or.inl ⟨df, df, rfl⟩))) ⟨(fun q => nomatch q), (fun q => absurd q (by decide))⟩
  · show Own.Go p e below _ (T2.setTop (mkF m 109 #[.val (.int p1), .val (.int p2), .val (.int p3), .val (.int p4), .val (.int na), .val (.int (3 : Int32)), .val (.int nc), .val (.int nd), .val (.ref df), .val (.ref sh), .val (.ref ya), .val (.ref x), .unset, .unset, .unset, .unset, .unset] []))
    refine Own.g_iload X2 hx (hb hby at_109) rfl 111 rfl ?_
    refine Own.g_if_le_f X2 hx (hb hby at_111) (by decide) 114 rfl ?_
    refine Own.g_aload X2 hx (hb hby at_114) rfl rfl 116 rfl ?_
    refine Own.g_aload X2 hx (hb hby at_116) rfl rfl 118 rfl ?_
    have ltx := E_x.lt
    refine Own.g_virtual X2 hx hZ (y := (⟨"java/util/ArrayList", "add", "(Ljava/lang/Object;)Z"⟩ : MethodName)) (z := (⟨"java/util/ArrayList", "add", "(Ljava/lang/Object;)Z"⟩ : MethodName)) hown (mvT hZ (hw _ (List.mem_of_getElem? (i := 81) rfl))) (mvT hZ (hw _ (List.mem_of_getElem? (i := 82) rfl))) (notFace_of_selects (args := #[]) (mvT hZ (hw _ (List.mem_of_getElem? (i := 84) rfl)))) (mvT hZ (hw _ (List.mem_of_getElem? (i := 84) rfl))) (mvT hZ (hw _ (List.mem_of_getElem? (i := 83) rfl))) (by decide) (a := x) [.ref df] (Own.back (W := 0) (rm_add0 l Z a0 hw [] x df (0 : Int32) da kda T2.heap n0 O n0_x I_df SD AD E_x F_x_modCount F_x_elementData F_x_size) hZ (hw _ (List.mem_of_getElem? (i := 85) rfl)) (hw _ (List.mem_of_getElem? (i := 18) rfl)) (by decide) (by decide)) E_x (rfl : T2.heap = T2.heap) (by rw [hml]; rfl) [] (lenOf pd_17 rfl) rfl (Nat.le_of_ble_eq_true rfl) (hb hby at_118) (by decide) (by decide) 121 rfl ?_
    rintro _ T6 L6 X6 ⟨rfl, N6q, d, k_d, K6, sz6, E_x, F_x_modCount, F_x_elementData, F_x_size, V_d, E_d, O_d⟩
    have N6 := Fr.app N2 N6q
    have ne_ya_d : ya ≠ d := Nat.ne_of_lt (Nat.lt_of_lt_of_le (A_ya.lt) sz6)
    have ne_yat_d : yat ≠ d := Nat.ne_of_lt (Nat.lt_of_lt_of_le (A_ya.lt2) sz6)
    have n0_d : n0 ≤ d := Nat.le_trans (Nat.le_of_eq O.1.symm) (Nat.le_trans O.2.1 sz6)
    have ne_x_d : x ≠ d := Nat.ne_of_lt (Nat.lt_of_lt_of_le ltx sz6)
    replace I_df := Own.Ins.kp I_df K6
    replace I_sh := Own.Ins.kp I_sh K6
    replace A_ya := A_ya.keep K6 (ninS ne_ya_x nin0) (ninS ne_yat_x nin0)
    replace O := O.keep K6 (allS n0_x all0)
    show Own.Go p e below _ (T6.setTop (mkF m 121 #[.val (.int p1), .val (.int p2), .val (.int p3), .val (.int p4), .val (.int na), .val (.int (3 : Int32)), .val (.int nc), .val (.int nd), .val (.ref df), .val (.ref sh), .val (.ref ya), .val (.ref x), .unset, .unset, .unset, .unset, .unset] [(.int (1 : Int32))]))
    refine Own.g_pop X6 hx (hb hby at_121) rfl 122 rfl ?_
    refine Own.g_iload X6 hx (hb hby at_122) rfl 124 rfl ?_
    refine Own.g_iconst X6 hx (1 : Int32) (hb hby at_124) rfl 125 rfl ?_
    refine Own.g_icmp_le_f X6 hx (hb hby at_125) (by decide) 128 rfl ?_
    refine Own.g_aload X6 hx (hb hby at_128) rfl rfl 130 rfl ?_
    refine Own.g_aload X6 hx (hb hby at_130) rfl rfl 132 rfl ?_
    refine Own.g_virtual X6 hx hZ (y := (⟨"java/util/ArrayList", "add", "(Ljava/lang/Object;)Z"⟩ : MethodName)) (z := (⟨"java/util/ArrayList", "add", "(Ljava/lang/Object;)Z"⟩ : MethodName)) hown (mvT hZ (hw _ (List.mem_of_getElem? (i := 81) rfl))) (mvT hZ (hw _ (List.mem_of_getElem? (i := 82) rfl))) (notFace_of_selects (args := #[]) (mvT hZ (hw _ (List.mem_of_getElem? (i := 84) rfl)))) (mvT hZ (hw _ (List.mem_of_getElem? (i := 84) rfl))) (mvT hZ (hw _ (List.mem_of_getElem? (i := 83) rfl))) (by decide) (a := x) [.ref df] (Own.back (W := 0) (rm_add1 l Z a0 hw [] x df ((0 : Int32) + (1 : Int32)) d k_d df T6.heap n0 O n0_x n0_d I_df ne_x_d V_d O_d E_x F_x_modCount F_x_elementData F_x_size) hZ (hw _ (List.mem_of_getElem? (i := 85) rfl)) (hw _ (List.mem_of_getElem? (i := 18) rfl)) (by decide) (by decide)) E_x (rfl : T6.heap = T6.heap) (by rw [hml]; rfl) [] (lenOf pd_17 rfl) rfl (Nat.le_of_ble_eq_true rfl) (hb hby at_132) (by decide) (by decide) 135 rfl ?_
    rintro _ T7 L7 X7 ⟨rfl, N7q, K7, E_x, F_x_modCount, F_x_elementData, F_x_size, V_d⟩
    have N7 := Fr.app N6 N7q
    replace I_df := Own.Ins.kp I_df K7
    replace I_sh := Own.Ins.kp I_sh K7
    replace A_ya := A_ya.keep K7 (ninS ne_ya_x (ninS ne_ya_d nin0)) (ninS ne_yat_x (ninS ne_yat_d nin0))
    replace E_d := E_d.keep K7
    replace O := O.keep K7 (allS n0_x (allS n0_d all0))
    show Own.Go p e below _ (T7.setTop (mkF m 135 #[.val (.int p1), .val (.int p2), .val (.int p3), .val (.int p4), .val (.int na), .val (.int (3 : Int32)), .val (.int nc), .val (.int nd), .val (.ref df), .val (.ref sh), .val (.ref ya), .val (.ref x), .unset, .unset, .unset, .unset, .unset] [(.int (1 : Int32))]))
    refine Own.g_pop X7 hx (hb hby at_135) rfl 136 rfl ?_
    refine Own.g_iload X7 hx (hb hby at_136) rfl 138 rfl ?_
    refine Own.g_iconst X7 hx (2 : Int32) (hb hby at_138) rfl 139 rfl ?_
    refine Own.g_icmp_le_f X7 hx (hb hby at_139) (by decide) 142 rfl ?_
    refine Own.g_aload X7 hx (hb hby at_142) rfl rfl 144 rfl ?_
    refine Own.g_aload X7 hx (hb hby at_144) rfl rfl 146 rfl ?_
    refine Own.g_virtual X7 hx hZ (y := (⟨"java/util/ArrayList", "add", "(Ljava/lang/Object;)Z"⟩ : MethodName)) (z := (⟨"java/util/ArrayList", "add", "(Ljava/lang/Object;)Z"⟩ : MethodName)) hown (mvT hZ (hw _ (List.mem_of_getElem? (i := 81) rfl))) (mvT hZ (hw _ (List.mem_of_getElem? (i := 82) rfl))) (notFace_of_selects (args := #[]) (mvT hZ (hw _ (List.mem_of_getElem? (i := 84) rfl)))) (mvT hZ (hw _ (List.mem_of_getElem? (i := 84) rfl))) (mvT hZ (hw _ (List.mem_of_getElem? (i := 83) rfl))) (by decide) (a := x) [.ref df] (Own.back (W := 0) (rm_add2 l Z a0 hw [] x df (((0 : Int32) + (1 : Int32)) + (1 : Int32)) d k_d df df T7.heap n0 O n0_x n0_d I_df ne_x_d V_d O_d E_x F_x_modCount F_x_elementData F_x_size) hZ (hw _ (List.mem_of_getElem? (i := 85) rfl)) (hw _ (List.mem_of_getElem? (i := 18) rfl)) (by decide) (by decide)) E_x (rfl : T7.heap = T7.heap) (by rw [hml]; rfl) [] (lenOf pd_17 rfl) rfl (Nat.le_of_ble_eq_true rfl) (hb hby at_146) (by decide) (by decide) 149 rfl ?_
    rintro _ T8 L8 X8 ⟨rfl, N8q, K8, E_x, F_x_modCount, F_x_elementData, F_x_size, V_d⟩
    have N8 := Fr.app N7 N8q
    replace I_df := Own.Ins.kp I_df K8
    replace I_sh := Own.Ins.kp I_sh K8
    replace A_ya := A_ya.keep K8 (ninS ne_ya_x (ninS ne_ya_d nin0)) (ninS ne_yat_x (ninS ne_yat_d nin0))
    replace E_d := E_d.keep K8
    replace O := O.keep K8 (allS n0_x (allS n0_d all0))
    show Own.Go p e below _ (T8.setTop (mkF m 149 #[.val (.int p1), .val (.int p2), .val (.int p3), .val (.int p4), .val (.int na), .val (.int (3 : Int32)), .val (.int nc), .val (.int nd), .val (.ref df), .val (.ref sh), .val (.ref ya), .val (.ref x), .unset, .unset, .unset, .unset, .unset] [(.int (1 : Int32))]))
    refine Own.g_pop X8 hx (hb hby at_149) rfl 150 rfl ?_
    have A_x : Own.AL Z T8.heap x d [df, df, df] := ⟨E_x, F_x_size, F_x_elementData, E_d, (fun y hy => by simp only [List.mem_cons, List.mem_singleton, List.not_mem_nil, or_false, or_self] at hy; subst hy; exact I_df), Or.inr ⟨k_d, V_d⟩⟩
    exact st_150 hQ hx hZ hw hby hml hown hret hlocks p1 p2 p3 p4 na (3 : Int32) nc nd df sh ya yat l1 x d [df, df, df] da kda mr el ea em (X8.more (by decide) (by decide)) (rfl : T8.heap = T8.heap) N8 O I_df I_sh A_ya A_x   SD AD M SEL IMel SEM ED K_nc K_nd hl1 he1 (Or.inr (Or.inr (Or.inr (⟨df, df, df, rfl⟩)))) ⟨(fun q => nomatch q), (fun q => absurd q (by decide))⟩
set_option maxRecDepth 65536 in
set_option maxHeartbeats 40000000 in
theorem st_50 {p : Program} {l : Launch} {e : Env} {s : State} {m : MethodId} {args : Array Value} {below : List Frame} {meth : Method} {c : Code} {T0 : State} {locs : List Loc} {Z : State} {a0 : Array Value} {hh : Heap} {n0 : Nat} {Q : Option Value → Heap → List Loc → Prop} (hQ : ∀ h L, Fr n0 L → Q (some (.int 1)) h L)  (hx : p.tables.exec = Jvm.exec) (hZ : Z.Warmed39 s.vm) (hw : ∀ d ∈ tables_1, d.before a0 Z = true) (hby : c.code = code) (hml : c.maxLocals = 17) (hown : s.vm.findClass "com/example/witnesseth/witnesseth/agreement/ClockDifferentialsIsEmptyPinLaw" = some m.cls) (hret : meth.sig.returnType = (some .boolean)) (hlocks : meth.locks = false)
    (p1 p2 p3 p4 na nb nc nd : Int32) (df sh : Addr)  (da : Addr) (kda : ClassId) (mr : Addr) (el : Addr) (ea : Addr) (em : Addr) (X0 : Stand p l e room_1 s m args below meth c T0 locs 8 32) (e0 : T0.heap = hh) (N0 : Fr n0 locs) (O : Old Z n0 hh) (I_df : Ins Z hh df "java/lang/Object" true) (I_sh : Ins Z hh sh "java/lang/Object" true)   (SD : Sta Z Z.heap "java/util/ArrayList" "DEFAULTCAPACITY_EMPTY_ELEMENTDATA" "[Ljava/lang/Object;" (.ref da)) (AD : Arv Z Z.heap da kda (.object "java/lang/Object") 0 [] .null) (M : Mir Z "[Ljava/lang/Object;" mr) (SEL : Sta Z Z.heap "java/util/ImmutableCollections" "EMPTY_LIST" "Ljava/util/ImmutableCollections$ListN;" (.ref el)) (IMel : Own.Im Z Z.heap el ea true) (SEM : Sta Z Z.heap "java/util/ImmutableCollections" "EMPTY" "Ljava/lang/Object;" (.ref em)) (ED : Exa Z Z.heap da "[Ljava/lang/Object;") (K_na : na = 0 ∨ na = 1 ∨ na = 2 ∨ na = 3) (K_nb : nb = 0 ∨ nb = 1 ∨ nb = 2 ∨ nb = 3) (K_nc : nc = 0 ∨ nc = 1 ∨ nc = 2 ∨ nc = 3) (K_nd : nd = 0 ∨ nd = 1 ∨ nd = 2 ∨ nd = 3) :
    Own.Go p e below (Own.End s Q 64 320) (T0.setTop (mkF m 50 #[.val (.int p1), .val (.int p2), .val (.int p3), .val (.int p4), .val (.int na), .val (.int nb), .val (.int nc), .val (.int nd), .val (.ref df), .val (.ref sh), .unset, .unset, .unset, .unset, .unset, .unset, .unset] [])) := by
  refine Own.g_new X0 hx hZ hown (hw _ (List.mem_of_getElem? (i := 16) rfl)) (hw _ (List.mem_of_getElem? (i := 17) rfl)) (hw _ (List.mem_of_getElem? (i := 18) rfl)) e0 (hb hby at_50) (by decide) (by decide) 53 rfl ?_
  intro T1 h1 x X1 e1 E1 g1 E_x D1
  have n0_x : n0 ≤ x := Nat.le_trans (Nat.le_of_eq O.1.symm) (Nat.le_trans O.2.1 (Nat.le_of_eq g1.symm))
  replace I_df := I_df.ext E1
  replace I_sh := I_sh.ext E1
  replace O := O.ext E1
  have F_x_modCount : Fld Z h1 x "java/util/AbstractList" "modCount" "I" (.int (0 : Int32)) := D1 (Or.inl (hw _ (List.mem_of_getElem? (i := 36) rfl))) (ty := .int) (by decide)
  have F_x_elementData : Fld Z h1 x "java/util/ArrayList" "elementData" "[Ljava/lang/Object;" .null := D1 (Or.inl (hw _ (List.mem_of_getElem? (i := 39) rfl))) (ty := (.array (.object "java/lang/Object"))) (by decide)
  have F_x_size : Fld Z h1 x "java/util/ArrayList" "size" "I" (.int (0 : Int32)) := D1 (Or.inl (hw _ (List.mem_of_getElem? (i := 68) rfl))) (ty := .int) (by decide)
  refine Own.g_dup X1 hx (hb hby at_53) rfl 54 rfl ?_
  refine Own.g_special X1 hx (y := (⟨"java/util/ArrayList", "<init>", "()V"⟩ : MethodName)) rfl hown (mvT hZ (hw _ (List.mem_of_getElem? (i := 19) rfl))) (mvT hZ (hw _ (List.mem_of_getElem? (i := 20) rfl))) (mvT hZ (hw _ (List.mem_of_getElem? (i := 21) rfl))) (by decide) (a := x) [] (Own.back (W := 1) (rm_ali l Z a0 hw [] x da kda h1 n0 O n0_x SD AD E_x F_x_modCount F_x_elementData F_x_size) hZ (hw _ (List.mem_of_getElem? (i := 21) rfl)) (hw _ (List.mem_of_getElem? (i := 18) rfl)) (by decide) (by decide)) e1 (by rw [hml]; rfl) [(.ref x)] (lenOf pd_0 rfl) rfl (Nat.le_of_ble_eq_true rfl) (hb hby at_54) (by decide) (by decide) 57 rfl ?_
  rintro _ T2 L2 X2 ⟨rfl, N2q, K2, E_x, F_x_modCount, F_x_elementData, F_x_size⟩
  have N2 := Fr.app N0 N2q
  replace I_df := Own.Ins.kp I_df K2
  replace I_sh := Own.Ins.kp I_sh K2
  replace O := O.keep K2 (allS n0_x all0)
  show Own.Go p e below _ (T2.setTop (mkF m 57 #[.val (.int p1), .val (.int p2), .val (.int p3), .val (.int p4), .val (.int na), .val (.int nb), .val (.int nc), .val (.int nd), .val (.ref df), .val (.ref sh), .unset, .unset, .unset, .unset, .unset, .unset, .unset] [(.ref x)]))
  refine Own.g_astore X2 hx #[.val (.int p1), .val (.int p2), .val (.int p3), .val (.int p4), .val (.int na), .val (.int nb), .val (.int nc), .val (.int nd), .val (.ref df), .val (.ref sh), .val (.ref x), .unset, .unset, .unset, .unset, .unset, .unset] (hb hby at_57) rfl rfl 59 rfl ?_
  rcases K_na with rfl | rfl | rfl | rfl
  · show Own.Go p e below _ (T2.setTop (mkF m 59 #[.val (.int p1), .val (.int p2), .val (.int p3), .val (.int p4), .val (.int (0 : Int32)), .val (.int nb), .val (.int nc), .val (.int nd), .val (.ref df), .val (.ref sh), .val (.ref x), .unset, .unset, .unset, .unset, .unset, .unset] []))
    refine Own.g_iload X2 hx (hb hby at_59) rfl 61 rfl ?_
    refine Own.g_if_le_t X2 hx (hb hby at_61) (by decide) 72 (by decide) ?_
    refine Own.g_iload X2 hx (hb hby at_72) rfl 74 rfl ?_
    refine Own.g_iconst X2 hx (1 : Int32) (hb hby at_74) rfl 75 rfl ?_
    refine Own.g_icmp_le_t X2 hx (hb hby at_75) (by decide) 86 (by decide) ?_
    refine Own.g_iload X2 hx (hb hby at_86) rfl 88 rfl ?_
    refine Own.g_iconst X2 hx (2 : Int32) (hb hby at_88) rfl 89 rfl ?_
    refine Own.g_icmp_le_t X2 hx (hb hby at_89) (by decide) 100 (by decide) ?_
    have A_x : Own.AL Z T2.heap x da [] := ⟨E_x, F_x_size, F_x_elementData, ED.ext O.2, (fun y hy => nomatch hy), Or.inl rfl⟩
    exact st_100 hQ hx hZ hw hby hml hown hret hlocks p1 p2 p3 p4 (0 : Int32) nb nc nd df sh  x da [] da kda mr el ea em (X2.more (by decide) (by decide)) (rfl : T2.heap = T2.heap) N2 O I_df I_sh  A_x   SD AD M SEL IMel SEM ED K_nb K_nc K_nd  (Or.inl rfl) ⟨fun _ => rfl, fun _ => rfl⟩
  · show Own.Go p e below _ (T2.setTop (mkF m 59 #[.val (.int p1), .val (.int p2), .val (.int p3), .val (.int p4), .val (.int (1 : Int32)), .val (.int nb), .val (.int nc), .val (.int nd), .val (.ref df), .val (.ref sh), .val (.ref x), .unset, .unset, .unset, .unset, .unset, .unset] []))
    refine Own.g_iload X2 hx (hb hby at_59) rfl 61 rfl ?_
    refine Own.g_if_le_f X2 hx (hb hby at_61) (by decide) 64 rfl ?_
    refine Own.g_aload X2 hx (hb hby at_64) rfl rfl 66 rfl ?_
    refine Own.g_aload X2 hx (hb hby at_66) rfl rfl 68 rfl ?_
    have ltx := E_x.lt
    refine Own.g_virtual X2 hx hZ (y := (⟨"java/util/ArrayList", "add", "(Ljava/lang/Object;)Z"⟩ : MethodName)) (z := (⟨"java/util/ArrayList", "add", "(Ljava/lang/Object;)Z"⟩ : MethodName)) hown (mvT hZ (hw _ (List.mem_of_getElem? (i := 81) rfl))) (mvT hZ (hw _ (List.mem_of_getElem? (i := 82) rfl))) (notFace_of_selects (args := #[]) (mvT hZ (hw _ (List.mem_of_getElem? (i := 84) rfl)))) (mvT hZ (hw _ (List.mem_of_getElem? (i := 84) rfl))) (mvT hZ (hw _ (List.mem_of_getElem? (i := 83) rfl))) (by decide) (a := x) [.ref df] (Own.back (W := 0) (rm_add0 l Z a0 hw [] x df (0 : Int32) da kda T2.heap n0 O n0_x I_df SD AD E_x F_x_modCount F_x_elementData F_x_size) hZ (hw _ (List.mem_of_getElem? (i := 85) rfl)) (hw _ (List.mem_of_getElem? (i := 18) rfl)) (by decide) (by decide)) E_x (rfl : T2.heap = T2.heap) (by rw [hml]; rfl) [] (lenOf pd_17 rfl) rfl (Nat.le_of_ble_eq_true rfl) (hb hby at_68) (by decide) (by decide) 71 rfl ?_
    rintro _ T3 L3 X3 ⟨rfl, N3q, d, k_d, K3, sz3, E_x, F_x_modCount, F_x_elementData, F_x_size, V_d, E_d, O_d⟩
    have N3 := Fr.app N2 N3q
    have n0_d : n0 ≤ d := Nat.le_trans (Nat.le_of_eq O.1.symm) (Nat.le_trans O.2.1 sz3)
    have ne_x_d : x ≠ d := Nat.ne_of_lt (Nat.lt_of_lt_of_le ltx sz3)
    replace I_df := Own.Ins.kp I_df K3
    replace I_sh := Own.Ins.kp I_sh K3
    replace O := O.keep K3 (allS n0_x all0)
    show Own.Go p e below _ (T3.setTop (mkF m 71 #[.val (.int p1), .val (.int p2), .val (.int p3), .val (.int p4), .val (.int (1 : Int32)), .val (.int nb), .val (.int nc), .val (.int nd), .val (.ref df), .val (.ref sh), .val (.ref x), .unset, .unset, .unset, .unset, .unset, .unset] [(.int (1 : Int32))]))
    refine Own.g_pop X3 hx (hb hby at_71) rfl 72 rfl ?_
    refine Own.g_iload X3 hx (hb hby at_72) rfl 74 rfl ?_
    refine Own.g_iconst X3 hx (1 : Int32) (hb hby at_74) rfl 75 rfl ?_
    refine Own.g_icmp_le_t X3 hx (hb hby at_75) (by decide) 86 (by decide) ?_
    refine Own.g_iload X3 hx (hb hby at_86) rfl 88 rfl ?_
    refine Own.g_iconst X3 hx (2 : Int32) (hb hby at_88) rfl 89 rfl ?_
    refine Own.g_icmp_le_t X3 hx (hb hby at_89) (by decide) 100 (by decide) ?_
    have A_x : Own.AL Z T3.heap x d [df] := ⟨E_x, F_x_size, F_x_elementData, E_d, (fun y hy => by simp only [List.mem_cons, List.mem_singleton, List.not_mem_nil, or_false, or_self] at hy; subst hy; exact I_df), Or.inr ⟨k_d, V_d⟩⟩
    exact st_100 hQ hx hZ hw hby hml hown hret hlocks p1 p2 p3 p4 (1 : Int32) nb nc nd df sh  x d [df] da kda mr el ea em (X3.more (by decide) (by decide)) (rfl : T3.heap = T3.heap) N3 O I_df I_sh  A_x   SD AD M SEL IMel SEM ED K_nb K_nc K_nd  (Or.inr (Or.inl ⟨df, rfl⟩)) ⟨(fun q => nomatch q), (fun q => absurd q (by decide))⟩
  · show Own.Go p e below _ (T2.setTop (mkF m 59 #[.val (.int p1), .val (.int p2), .val (.int p3), .val (.int p4), .val (.int (2 : Int32)), .val (.int nb), .val (.int nc), .val (.int nd), .val (.ref df), .val (.ref sh), .val (.ref x), .unset, .unset, .unset, .unset, .unset, .unset] []))
    refine Own.g_iload X2 hx (hb hby at_59) rfl 61 rfl ?_
    refine Own.g_if_le_f X2 hx (hb hby at_61) (by decide) 64 rfl ?_
    refine Own.g_aload X2 hx (hb hby at_64) rfl rfl 66 rfl ?_
    refine Own.g_aload X2 hx (hb hby at_66) rfl rfl 68 rfl ?_
    have ltx := E_x.lt
    refine Own.g_virtual X2 hx hZ (y := (⟨"java/util/ArrayList", "add", "(Ljava/lang/Object;)Z"⟩ : MethodName)) (z := (⟨"java/util/ArrayList", "add", "(Ljava/lang/Object;)Z"⟩ : MethodName)) hown (mvT hZ (hw _ (List.mem_of_getElem? (i := 81) rfl))) (mvT hZ (hw _ (List.mem_of_getElem? (i := 82) rfl))) (notFace_of_selects (args := #[]) (mvT hZ (hw _ (List.mem_of_getElem? (i := 84) rfl)))) (mvT hZ (hw _ (List.mem_of_getElem? (i := 84) rfl))) (mvT hZ (hw _ (List.mem_of_getElem? (i := 83) rfl))) (by decide) (a := x) [.ref df] (Own.back (W := 0) (rm_add0 l Z a0 hw [] x df (0 : Int32) da kda T2.heap n0 O n0_x I_df SD AD E_x F_x_modCount F_x_elementData F_x_size) hZ (hw _ (List.mem_of_getElem? (i := 85) rfl)) (hw _ (List.mem_of_getElem? (i := 18) rfl)) (by decide) (by decide)) E_x (rfl : T2.heap = T2.heap) (by rw [hml]; rfl) [] (lenOf pd_17 rfl) rfl (Nat.le_of_ble_eq_true rfl) (hb hby at_68) (by decide) (by decide) 71 rfl ?_
    rintro _ T4 L4 X4 ⟨rfl, N4q, d, k_d, K4, sz4, E_x, F_x_modCount, F_x_elementData, F_x_size, V_d, E_d, O_d⟩
    have N4 := Fr.app N2 N4q
    have n0_d : n0 ≤ d := Nat.le_trans (Nat.le_of_eq O.1.symm) (Nat.le_trans O.2.1 sz4)
    have ne_x_d : x ≠ d := Nat.ne_of_lt (Nat.lt_of_lt_of_le ltx sz4)
    replace I_df := Own.Ins.kp I_df K4
    replace I_sh := Own.Ins.kp I_sh K4
    replace O := O.keep K4 (allS n0_x all0)
    show Own.Go p e below _ (T4.setTop (mkF m 71 #[.val (.int p1), .val (.int p2), .val (.int p3), .val (.int p4), .val (.int (2 : Int32)), .val (.int nb), .val (.int nc), .val (.int nd), .val (.ref df), .val (.ref sh), .val (.ref x), .unset, .unset, .unset, .unset, .unset, .unset] [(.int (1 : Int32))]))
    refine Own.g_pop X4 hx (hb hby at_71) rfl 72 rfl ?_
    refine Own.g_iload X4 hx (hb hby at_72) rfl 74 rfl ?_
    refine Own.g_iconst X4 hx (1 : Int32) (hb hby at_74) rfl 75 rfl ?_
    refine Own.g_icmp_le_f X4 hx (hb hby at_75) (by decide) 78 rfl ?_
    refine Own.g_aload X4 hx (hb hby at_78) rfl rfl 80 rfl ?_
    refine Own.g_aload X4 hx (hb hby at_80) rfl rfl 82 rfl ?_
    refine Own.g_virtual X4 hx hZ (y := (⟨"java/util/ArrayList", "add", "(Ljava/lang/Object;)Z"⟩ : MethodName)) (z := (⟨"java/util/ArrayList", "add", "(Ljava/lang/Object;)Z"⟩ : MethodName)) hown (mvT hZ (hw _ (List.mem_of_getElem? (i := 81) rfl))) (mvT hZ (hw _ (List.mem_of_getElem? (i := 82) rfl))) (notFace_of_selects (args := #[]) (mvT hZ (hw _ (List.mem_of_getElem? (i := 84) rfl)))) (mvT hZ (hw _ (List.mem_of_getElem? (i := 84) rfl))) (mvT hZ (hw _ (List.mem_of_getElem? (i := 83) rfl))) (by decide) (a := x) [.ref df] (Own.back (W := 0) (rm_add1 l Z a0 hw [] x df ((0 : Int32) + (1 : Int32)) d k_d df T4.heap n0 O n0_x n0_d I_df ne_x_d V_d O_d E_x F_x_modCount F_x_elementData F_x_size) hZ (hw _ (List.mem_of_getElem? (i := 85) rfl)) (hw _ (List.mem_of_getElem? (i := 18) rfl)) (by decide) (by decide)) E_x (rfl : T4.heap = T4.heap) (by rw [hml]; rfl) [] (lenOf pd_17 rfl) rfl (Nat.le_of_ble_eq_true rfl) (hb hby at_82) (by decide) (by decide) 85 rfl ?_
    rintro _ T5 L5 X5 ⟨rfl, N5q, K5, E_x, F_x_modCount, F_x_elementData, F_x_size, V_d⟩
    have N5 := Fr.app N4 N5q
    replace I_df := Own.Ins.kp I_df K5
    replace I_sh := Own.Ins.kp I_sh K5
    replace E_d := E_d.keep K5
    replace O := O.keep K5 (allS n0_x (allS n0_d all0))
    show Own.Go p e below _ (T5.setTop (mkF m 85 #[.val (.int p1), .val (.int p2), .val (.int p3), .val (.int p4), .val (.int (2 : Int32)), .val (.int nb), .val (.int nc), .val (.int nd), .val (.ref df), .val (.ref sh), .val (.ref x), .unset, .unset, .unset, .unset, .unset, .unset] [(.int (1 : Int32))]))
    refine Own.g_pop X5 hx (hb hby at_85) rfl 86 rfl ?_
    refine Own.g_iload X5 hx (hb hby at_86) rfl 88 rfl ?_
    refine Own.g_iconst X5 hx (2 : Int32) (hb hby at_88) rfl 89 rfl ?_
    refine Own.g_icmp_le_t X5 hx (hb hby at_89) (by decide) 100 (by decide) ?_
    have A_x : Own.AL Z T5.heap x d [df, df] := ⟨E_x, F_x_size, F_x_elementData, E_d, (fun y hy => by simp only [List.mem_cons, List.mem_singleton, List.not_mem_nil, or_false, or_self] at hy; subst hy; exact I_df), Or.inr ⟨k_d, V_d⟩⟩
    exact st_100 hQ hx hZ hw hby hml hown hret hlocks p1 p2 p3 p4 (2 : Int32) nb nc nd df sh  x d [df, df] da kda mr el ea em (X5.more (by decide) (by decide)) (rfl : T5.heap = T5.heap) N5 O I_df I_sh  A_x   SD AD M SEL IMel SEM ED K_nb K_nc K_nd  (Or.inr (Or.inr (Or.inl ⟨df, df, rfl⟩))) ⟨(fun q => nomatch q), (fun q => absurd q (by decide))⟩
  · show Own.Go p e below _ (T2.setTop (mkF m 59 #[.val (.int p1), .val (.int p2), .val (.int p3), .val (.int p4), .val (.int (3 : Int32)), .val (.int nb), .val (.int nc), .val (.int nd), .val (.ref df), .val (.ref sh), .val (.ref x), .unset, .unset, .unset, .unset, .unset, .unset] []))
    refine Own.g_iload X2 hx (hb hby at_59) rfl 61 rfl ?_
    refine Own.g_if_le_f X2 hx (hb hby at_61) (by decide) 64 rfl ?_
    refine Own.g_aload X2 hx (hb hby at_64) rfl rfl 66 rfl ?_
    refine Own.g_aload X2 hx (hb hby at_66) rfl rfl 68 rfl ?_
    have ltx := E_x.lt
    refine Own.g_virtual X2 hx hZ (y := (⟨"java/util/ArrayList", "add", "(Ljava/lang/Object;)Z"⟩ : MethodName)) (z := (⟨"java/util/ArrayList", "add", "(Ljava/lang/Object;)Z"⟩ : MethodName)) hown (mvT hZ (hw _ (List.mem_of_getElem? (i := 81) rfl))) (mvT hZ (hw _ (List.mem_of_getElem? (i := 82) rfl))) (notFace_of_selects (args := #[]) (mvT hZ (hw _ (List.mem_of_getElem? (i := 84) rfl)))) (mvT hZ (hw _ (List.mem_of_getElem? (i := 84) rfl))) (mvT hZ (hw _ (List.mem_of_getElem? (i := 83) rfl))) (by decide) (a := x) [.ref df] (Own.back (W := 0) (rm_add0 l Z a0 hw [] x df (0 : Int32) da kda T2.heap n0 O n0_x I_df SD AD E_x F_x_modCount F_x_elementData F_x_size) hZ (hw _ (List.mem_of_getElem? (i := 85) rfl)) (hw _ (List.mem_of_getElem? (i := 18) rfl)) (by decide) (by decide)) E_x (rfl : T2.heap = T2.heap) (by rw [hml]; rfl) [] (lenOf pd_17 rfl) rfl (Nat.le_of_ble_eq_true rfl) (hb hby at_68) (by decide) (by decide) 71 rfl ?_
    rintro _ T6 L6 X6 ⟨rfl, N6q, d, k_d, K6, sz6, E_x, F_x_modCount, F_x_elementData, F_x_size, V_d, E_d, O_d⟩
    have N6 := Fr.app N2 N6q
    have n0_d : n0 ≤ d := Nat.le_trans (Nat.le_of_eq O.1.symm) (Nat.le_trans O.2.1 sz6)
    have ne_x_d : x ≠ d := Nat.ne_of_lt (Nat.lt_of_lt_of_le ltx sz6)
    replace I_df := Own.Ins.kp I_df K6
    replace I_sh := Own.Ins.kp I_sh K6
    replace O := O.keep K6 (allS n0_x all0)
    show Own.Go p e below _ (T6.setTop (mkF m 71 #[.val (.int p1), .val (.int p2), .val (.int p3), .val (.int p4), .val (.int (3 : Int32)), .val (.int nb), .val (.int nc), .val (.int nd), .val (.ref df), .val (.ref sh), .val (.ref x), .unset, .unset, .unset, .unset, .unset, .unset] [(.int (1 : Int32))]))
    refine Own.g_pop X6 hx (hb hby at_71) rfl 72 rfl ?_
    refine Own.g_iload X6 hx (hb hby at_72) rfl 74 rfl ?_
    refine Own.g_iconst X6 hx (1 : Int32) (hb hby at_74) rfl 75 rfl ?_
    refine Own.g_icmp_le_f X6 hx (hb hby at_75) (by decide) 78 rfl ?_
    refine Own.g_aload X6 hx (hb hby at_78) rfl rfl 80 rfl ?_
    refine Own.g_aload X6 hx (hb hby at_80) rfl rfl 82 rfl ?_
    refine Own.g_virtual X6 hx hZ (y := (⟨"java/util/ArrayList", "add", "(Ljava/lang/Object;)Z"⟩ : MethodName)) (z := (⟨"java/util/ArrayList", "add", "(Ljava/lang/Object;)Z"⟩ : MethodName)) hown (mvT hZ (hw _ (List.mem_of_getElem? (i := 81) rfl))) (mvT hZ (hw _ (List.mem_of_getElem? (i := 82) rfl))) (notFace_of_selects (args := #[]) (mvT hZ (hw _ (List.mem_of_getElem? (i := 84) rfl)))) (mvT hZ (hw _ (List.mem_of_getElem? (i := 84) rfl))) (mvT hZ (hw _ (List.mem_of_getElem? (i := 83) rfl))) (by decide) (a := x) [.ref df] (Own.back (W := 0) (rm_add1 l Z a0 hw [] x df ((0 : Int32) + (1 : Int32)) d k_d df T6.heap n0 O n0_x n0_d I_df ne_x_d V_d O_d E_x F_x_modCount F_x_elementData F_x_size) hZ (hw _ (List.mem_of_getElem? (i := 85) rfl)) (hw _ (List.mem_of_getElem? (i := 18) rfl)) (by decide) (by decide)) E_x (rfl : T6.heap = T6.heap) (by rw [hml]; rfl) [] (lenOf pd_17 rfl) rfl (Nat.le_of_ble_eq_true rfl) (hb hby at_82) (by decide) (by decide) 85 rfl ?_
    rintro _ T7 L7 X7 ⟨rfl, N7q, K7, E_x, F_x_modCount, F_x_elementData, F_x_size, V_d⟩
    have N7 := Fr.app N6 N7q
    replace I_df := Own.Ins.kp I_df K7
    replace I_sh := Own.Ins.kp I_sh K7
    replace E_d := E_d.keep K7
    replace O := O.keep K7 (allS n0_x (allS n0_d all0))
    show Own.Go p e below _ (T7.setTop (mkF m 85 #[.val (.int p1), .val (.int p2), .val (.int p3), .val (.int p4), .val (.int (3 : Int32)), .val (.int nb), .val (.int nc), .val (.int nd), .val (.ref df), .val (.ref sh), .val (.ref x), .unset, .unset, .unset, .unset, .unset, .unset] [(.int (1 : Int32))]))
    refine Own.g_pop X7 hx (hb hby at_85) rfl 86 rfl ?_
    refine Own.g_iload X7 hx (hb hby at_86) rfl 88 rfl ?_
    refine Own.g_iconst X7 hx (2 : Int32) (hb hby at_88) rfl 89 rfl ?_
    refine Own.g_icmp_le_f X7 hx (hb hby at_89) (by decide) 92 rfl ?_
    refine Own.g_aload X7 hx (hb hby at_92) rfl rfl 94 rfl ?_
    refine Own.g_aload X7 hx (hb hby at_94) rfl rfl 96 rfl ?_
    refine Own.g_virtual X7 hx hZ (y := (⟨"java/util/ArrayList", "add", "(Ljava/lang/Object;)Z"⟩ : MethodName)) (z := (⟨"java/util/ArrayList", "add", "(Ljava/lang/Object;)Z"⟩ : MethodName)) hown (mvT hZ (hw _ (List.mem_of_getElem? (i := 81) rfl))) (mvT hZ (hw _ (List.mem_of_getElem? (i := 82) rfl))) (notFace_of_selects (args := #[]) (mvT hZ (hw _ (List.mem_of_getElem? (i := 84) rfl)))) (mvT hZ (hw _ (List.mem_of_getElem? (i := 84) rfl))) (mvT hZ (hw _ (List.mem_of_getElem? (i := 83) rfl))) (by decide) (a := x) [.ref df] (Own.back (W := 0) (rm_add2 l Z a0 hw [] x df (((0 : Int32) + (1 : Int32)) + (1 : Int32)) d k_d df df T7.heap n0 O n0_x n0_d I_df ne_x_d V_d O_d E_x F_x_modCount F_x_elementData F_x_size) hZ (hw _ (List.mem_of_getElem? (i := 85) rfl)) (hw _ (List.mem_of_getElem? (i := 18) rfl)) (by decide) (by decide)) E_x (rfl : T7.heap = T7.heap) (by rw [hml]; rfl) [] (lenOf pd_17 rfl) rfl (Nat.le_of_ble_eq_true rfl) (hb hby at_96) (by decide) (by decide) 99 rfl ?_
    rintro _ T8 L8 X8 ⟨rfl, N8q, K8, E_x, F_x_modCount, F_x_elementData, F_x_size, V_d⟩
    have N8 := Fr.app N7 N8q
    replace I_df := Own.Ins.kp I_df K8
    replace I_sh := Own.Ins.kp I_sh K8
    replace E_d := E_d.keep K8
    replace O := O.keep K8 (allS n0_x (allS n0_d all0))
    show Own.Go p e below _ (T8.setTop (mkF m 99 #[.val (.int p1), .val (.int p2), .val (.int p3), .val (.int p4), .val (.int (3 : Int32)), .val (.int nb), .val (.int nc), .val (.int nd), .val (.ref df), .val (.ref sh), .val (.ref x), .unset, .unset, .unset, .unset, .unset, .unset] [(.int (1 : Int32))]))
    refine Own.g_pop X8 hx (hb hby at_99) rfl 100 rfl ?_
    have A_x : Own.AL Z T8.heap x d [df, df, df] := ⟨E_x, F_x_size, F_x_elementData, E_d, (fun y hy => by simp only [List.mem_cons, List.mem_singleton, List.not_mem_nil, or_false, or_self] at hy; subst hy; exact I_df), Or.inr ⟨k_d, V_d⟩⟩
    exact st_100 hQ hx hZ hw hby hml hown hret hlocks p1 p2 p3 p4 (3 : Int32) nb nc nd df sh  x d [df, df, df] da kda mr el ea em (X8.more (by decide) (by decide)) (rfl : T8.heap = T8.heap) N8 O I_df I_sh  A_x   SD AD M SEL IMel SEM ED K_nb K_nc K_nd  (Or.inr (Or.inr (Or.inr (⟨df, df, df, rfl⟩)))) ⟨(fun q => nomatch q), (fun q => absurd q (by decide))⟩
theorem ef_law (m : MethodId) (x0 : Int32) (x1 : Int32) (x2 : Int32) (x3 : Int32) : entryFrame m #[.int x0, .int x1, .int x2, .int x3] maxLocals = mkF m 0 #[.val (.int x0), .val (.int x1), .val (.int x2), .val (.int x3), .unset, .unset, .unset, .unset, .unset, .unset, .unset, .unset, .unset, .unset, .unset, .unset, .unset] [] := by first | (simp [entryFrame, mkF, argsToLocals, Value.category, maxLocals]; done) | rfl
def Q_law (Z : State) (p1 : Int32) (p2 : Int32) (p3 : Int32) (p4 : Int32) (da : Addr) (kda : ClassId) (mr : Addr) (el : Addr) (ea : Addr) (em : Addr) (h0 : Heap) (n0 : Nat) (v : Option Value) (h : Heap) (L : List Loc) : Prop := v = some (.int 1) ∧ Fr n0 L
set_option maxRecDepth 65536 in
set_option maxHeartbeats 40000000 in
theorem rm_law (l : Launch) (Z : State) (a0 : Array Value) (hw : ∀ d ∈ tables_1, d.before a0 Z = true) (ws : List Jvm.Cond) (p1 : Int32) (p2 : Int32) (p3 : Int32) (p4 : Int32) (da : Addr) (kda : ClassId) (mr : Addr) (el : Addr) (ea : Addr) (em : Addr) (h0 : Heap) (n0 : Nat) (O : Old Z n0 h0) (SD : Sta Z Z.heap "java/util/ArrayList" "DEFAULTCAPACITY_EMPTY_ELEMENTDATA" "[Ljava/lang/Object;" (.ref da)) (AD : Arv Z Z.heap da kda (.object "java/lang/Object") 0 [] .null) (M : Mir Z "[Ljava/lang/Object;" mr) (SEL : Sta Z Z.heap "java/util/ImmutableCollections" "EMPTY_LIST" "Ljava/util/ImmutableCollections$ListN;" (.ref el)) (IMel : Own.Im Z Z.heap el ea true) (SEM : Sta Z Z.heap "java/util/ImmutableCollections" "EMPTY" "Ljava/lang/Object;" (.ref em)) (ED : Exa Z Z.heap da "[Ljava/lang/Object;") :
    MetFree l x (head1 (Jvm.Cond.code x code maxLocals ret :: ws) room_1) (fun aa U => aa = #[.int p1, .int p2, .int p3, .int p4] ∧ Z.Warmed39 U.vm ∧ U.heap = h0) (fun _ _ _ _ _ => True) (fun _ U o U' => Own.End U (Q_law Z p1 p2 p3 p4 da kda mr el ea em h0 n0) 64 320 o U') := by
  refine MetFree.of_bodySF (plainFor_of_name pn_14) hisR ?_
  intro p e s m args below meth c s₁ Bd hml0 hP hK
  obtain ⟨rfl, hZ, hh⟩ := hP
  have hx := Bd.exec
  have hby := Bd.bytes
  have hml : c.maxLocals = 17 := hml0
  have hown : s.vm.findClass "com/example/witnesseth/witnesseth/agreement/ClockDifferentialsIsEmptyPinLaw" = some m.cls := findClass_of_methodNamed Bd.named
  have hnm := (name_of_methodNamed Bd.named Bd.method).1
  have hret := Bd.returns
  have hlocks : meth.locks = false := Bd.notSynchronized
  have X0 : Stand p l e room_1 s m #[.int p1, .int p2, .int p3, .int p4] below meth c s₁ [] 0 0 := Stand.of_body Bd
  have e0 : s₁.heap = h0 := by rw [← hh, Bd.state]; rfl
  have N0 := Fr.nil n0
  show Own.Go p e below (Own.End s (Q_law Z p1 p2 p3 p4 da kda mr el ea em h0 n0) 64 320) (s₁.setTop (entryFrame m #[.int p1, .int p2, .int p3, .int p4] maxLocals))
  refine Own.Go.eq (ef_law m p1 p2 p3 p4) ?_
  have hQ : ∀ h L, Fr n0 L → Q_law Z p1 p2 p3 p4 da kda mr el ea em h0 n0 (some (.int 1)) h L := fun _ _ N => ⟨rfl, N⟩
  refine Own.g_iloadN X0 hx (hb hby at_0) rfl 1 rfl ?_
  refine Own.g_iconst X0 hx (3 : Int32) (hb hby at_1) rfl 2 rfl ?_
  refine Own.g_iand X0 hx (hb hby at_2) 3 rfl ?_
  refine Own.g_istore X0 hx #[.val (.int p1), .val (.int p2), .val (.int p3), .val (.int p4), .val (.int (p1 &&& (3 : Int32))), .unset, .unset, .unset, .unset, .unset, .unset, .unset, .unset, .unset, .unset, .unset, .unset] (hb hby at_3) rfl 5 rfl ?_
  obtain ⟨na, hna⟩ : ∃ z : Int32, z = (p1 &&& (3 : Int32)) := ⟨_, rfl⟩
  rw [← hna]
  have K_na : na = 0 ∨ na = 1 ∨ na = 2 ∨ na = 3 := by rw [hna]; exact Own.and3 _
  clear hna
  refine Own.g_iloadN X0 hx (hb hby at_5) rfl 6 rfl ?_
  refine Own.g_iconst X0 hx (3 : Int32) (hb hby at_6) rfl 7 rfl ?_
  refine Own.g_iand X0 hx (hb hby at_7) 8 rfl ?_
  refine Own.g_istore X0 hx #[.val (.int p1), .val (.int p2), .val (.int p3), .val (.int p4), .val (.int na), .val (.int (p2 &&& (3 : Int32))), .unset, .unset, .unset, .unset, .unset, .unset, .unset, .unset, .unset, .unset, .unset] (hb hby at_8) rfl 10 rfl ?_
  obtain ⟨nb, hnb⟩ : ∃ z : Int32, z = (p2 &&& (3 : Int32)) := ⟨_, rfl⟩
  rw [← hnb]
  have K_nb : nb = 0 ∨ nb = 1 ∨ nb = 2 ∨ nb = 3 := by rw [hnb]; exact Own.and3 _
  clear hnb
  refine Own.g_iloadN X0 hx (hb hby at_10) rfl 11 rfl ?_
  refine Own.g_iconst X0 hx (3 : Int32) (hb hby at_11) rfl 12 rfl ?_
  refine Own.g_iand X0 hx (hb hby at_12) 13 rfl ?_
  refine Own.g_istore X0 hx #[.val (.int p1), .val (.int p2), .val (.int p3), .val (.int p4), .val (.int na), .val (.int nb), .val (.int (p3 &&& (3 : Int32))), .unset, .unset, .unset, .unset, .unset, .unset, .unset, .unset, .unset, .unset] (hb hby at_13) rfl 15 rfl ?_
  obtain ⟨nc, hnc⟩ : ∃ z : Int32, z = (p3 &&& (3 : Int32)) := ⟨_, rfl⟩
  rw [← hnc]
  have K_nc : nc = 0 ∨ nc = 1 ∨ nc = 2 ∨ nc = 3 := by rw [hnc]; exact Own.and3 _
  clear hnc
  refine Own.g_iloadN X0 hx (hb hby at_15) rfl 16 rfl ?_
  refine Own.g_iconst X0 hx (3 : Int32) (hb hby at_16) rfl 17 rfl ?_
  refine Own.g_iand X0 hx (hb hby at_17) 18 rfl ?_
  refine Own.g_istore X0 hx #[.val (.int p1), .val (.int p2), .val (.int p3), .val (.int p4), .val (.int na), .val (.int nb), .val (.int nc), .val (.int (p4 &&& (3 : Int32))), .unset, .unset, .unset, .unset, .unset, .unset, .unset, .unset, .unset] (hb hby at_18) rfl 20 rfl ?_
  obtain ⟨nd, hnd⟩ : ∃ z : Int32, z = (p4 &&& (3 : Int32)) := ⟨_, rfl⟩
  rw [← hnd]
  have K_nd : nd = 0 ∨ nd = 1 ∨ nd = 2 ∨ nd = 3 := by rw [hnd]; exact Own.and3 _
  clear hnd
  refine Own.g_new X0 hx hZ hown (hw _ (List.mem_of_getElem? (i := 0) rfl)) (hw _ (List.mem_of_getElem? (i := 1) rfl)) (hw _ (List.mem_of_getElem? (i := 2) rfl)) e0 (hb hby at_20) (by decide) (by decide) 23 rfl ?_
  intro T1 h1 df X1 e1 E1 g1 E_df D1
  have n0_df : n0 ≤ df := Nat.le_trans (Nat.le_of_eq O.1.symm) (Nat.le_trans O.2.1 (Nat.le_of_eq g1.symm))
  replace O := O.ext E1
  have F_df_clause : Fld Z h1 df "com/example/witnesseth/witnesseth/agreement/Differential" "clause" "Ljava/lang/String;" .null := D1 (Or.inr (hw _ (List.mem_of_getElem? (i := 10) rfl))) (ty := (.object "java/lang/String")) (by decide)
  have F_df_perHour : Fld Z h1 df "com/example/witnesseth/witnesseth/agreement/Differential" "perHour" "Ljava/math/BigDecimal;" .null := D1 (Or.inr (hw _ (List.mem_of_getElem? (i := 12) rfl))) (ty := (.object "java/math/BigDecimal")) (by decide)
  refine Own.g_dup X1 hx (hb hby at_23) rfl 24 rfl ?_
  refine Own.g_aconstNull X1 hx (hb hby at_24) 25 rfl ?_
  refine Own.g_aconstNull X1 hx (hb hby at_25) 26 rfl ?_
  refine Own.g_special X1 hx (y := (⟨"com/example/witnesseth/witnesseth/agreement/Differential", "<init>", "(Ljava/lang/String;Ljava/math/BigDecimal;)V"⟩ : MethodName)) rfl hown (mvT hZ (hw _ (List.mem_of_getElem? (i := 3) rfl))) (mvT hZ (hw _ (List.mem_of_getElem? (i := 4) rfl))) (mvT hZ (hw _ (List.mem_of_getElem? (i := 5) rfl))) (by decide) (a := df) [.null, .null] (Own.back (W := 1) (rm_dfi l Z a0 hw [] df h1 n0 O n0_df E_df F_df_clause F_df_perHour) hZ (hw _ (List.mem_of_getElem? (i := 5) rfl)) (hw _ (List.mem_of_getElem? (i := 2) rfl)) (by decide) (by decide)) e1 (by rw [hml]; rfl) [(.ref df)] (lenOf pd_18 rfl) rfl (Nat.le_of_ble_eq_true rfl) (hb hby at_26) (by decide) (by decide) 29 rfl ?_
  rintro _ T2 L2 X2 ⟨rfl, N2q, K2, E_df⟩
  have N2 := Fr.app N0 N2q
  replace O := O.keep K2 (allS n0_df all0)
  have I_df := Ins.of_exa E_df (hw _ (List.mem_of_getElem? (i := 109) rfl))
  show Own.Go p e below _ (T2.setTop (mkF m 29 #[.val (.int p1), .val (.int p2), .val (.int p3), .val (.int p4), .val (.int na), .val (.int nb), .val (.int nc), .val (.int nd), .unset, .unset, .unset, .unset, .unset, .unset, .unset, .unset, .unset] [(.ref df)]))
  refine Own.g_astore X2 hx #[.val (.int p1), .val (.int p2), .val (.int p3), .val (.int p4), .val (.int na), .val (.int nb), .val (.int nc), .val (.int nd), .val (.ref df), .unset, .unset, .unset, .unset, .unset, .unset, .unset, .unset] (hb hby at_29) rfl rfl 31 rfl ?_
  refine Own.g_new X2 hx hZ hown (hw _ (List.mem_of_getElem? (i := 13) rfl)) (hw _ (List.mem_of_getElem? (i := 14) rfl)) (hw _ (List.mem_of_getElem? (i := 15) rfl)) (rfl : T2.heap = T2.heap) (hb hby at_31) (by decide) (by decide) 34 rfl ?_
  intro T3 h3 sh X3 e3 E3 g3 E_sh D3
  have ne_df_sh : df ≠ sh := Nat.ne_of_lt (Nat.lt_of_lt_of_le (E_df.lt) (Nat.le_of_eq g3.symm))
  have n0_sh : n0 ≤ sh := Nat.le_trans (Nat.le_of_eq O.1.symm) (Nat.le_trans O.2.1 (Nat.le_of_eq g3.symm))
  replace E_df := E_df.ext E3
  replace I_df := I_df.ext E3
  replace O := O.ext E3
  have F_sh_starts : Fld Z h3 sh "com/example/witnesseth/witnesseth/agreement/ShiftStart" "starts" "Ljava/util/List;" .null := D3 (Or.inr (hw _ (List.mem_of_getElem? (i := 74) rfl))) (ty := (.object "java/util/List")) (by decide)
  have F_sh_to : Fld Z h3 sh "com/example/witnesseth/witnesseth/agreement/ShiftStart" "to" "Ljava/time/LocalTime;" .null := D3 (Or.inr (hw _ (List.mem_of_getElem? (i := 76) rfl))) (ty := (.object "java/time/LocalTime")) (by decide)
  have F_sh_paid : Fld Z h3 sh "com/example/witnesseth/witnesseth/agreement/ShiftStart" "paid" "Lcom/example/witnesseth/witnesseth/agreement/Differential;" .null := D3 (Or.inr (hw _ (List.mem_of_getElem? (i := 78) rfl))) (ty := (.object "com/example/witnesseth/witnesseth/agreement/Differential")) (by decide)
  have F_sh_zone : Fld Z h3 sh "com/example/witnesseth/witnesseth/agreement/ShiftStart" "zone" "Ljava/time/ZoneId;" .null := D3 (Or.inr (hw _ (List.mem_of_getElem? (i := 80) rfl))) (ty := (.object "java/time/ZoneId")) (by decide)
  refine Own.g_dup X3 hx (hb hby at_34) rfl 35 rfl ?_
  refine Own.g_new X3 hx hZ hown (hw _ (List.mem_of_getElem? (i := 16) rfl)) (hw _ (List.mem_of_getElem? (i := 17) rfl)) (hw _ (List.mem_of_getElem? (i := 18) rfl)) e3 (hb hby at_35) (by decide) (by decide) 38 rfl ?_
  intro T4 h4 al X4 e4 E4 g4 E_al D4
  have ne_df_al : df ≠ al := Nat.ne_of_lt (Nat.lt_of_lt_of_le (E_df.lt) (Nat.le_of_eq g4.symm))
  have ne_sh_al : sh ≠ al := Nat.ne_of_lt (Nat.lt_of_lt_of_le (E_sh.lt) (Nat.le_of_eq g4.symm))
  have n0_al : n0 ≤ al := Nat.le_trans (Nat.le_of_eq O.1.symm) (Nat.le_trans O.2.1 (Nat.le_of_eq g4.symm))
  replace E_df := E_df.ext E4
  replace I_df := I_df.ext E4
  replace E_sh := E_sh.ext E4
  replace F_sh_starts := F_sh_starts.ext E4
  replace F_sh_to := F_sh_to.ext E4
  replace F_sh_paid := F_sh_paid.ext E4
  replace F_sh_zone := F_sh_zone.ext E4
  replace O := O.ext E4
  have F_al_modCount : Fld Z h4 al "java/util/AbstractList" "modCount" "I" (.int (0 : Int32)) := D4 (Or.inl (hw _ (List.mem_of_getElem? (i := 36) rfl))) (ty := .int) (by decide)
  have F_al_elementData : Fld Z h4 al "java/util/ArrayList" "elementData" "[Ljava/lang/Object;" .null := D4 (Or.inl (hw _ (List.mem_of_getElem? (i := 39) rfl))) (ty := (.array (.object "java/lang/Object"))) (by decide)
  have F_al_size : Fld Z h4 al "java/util/ArrayList" "size" "I" (.int (0 : Int32)) := D4 (Or.inl (hw _ (List.mem_of_getElem? (i := 68) rfl))) (ty := .int) (by decide)
  refine Own.g_dup X4 hx (hb hby at_38) rfl 39 rfl ?_
  refine Own.g_special X4 hx (y := (⟨"java/util/ArrayList", "<init>", "()V"⟩ : MethodName)) rfl hown (mvT hZ (hw _ (List.mem_of_getElem? (i := 19) rfl))) (mvT hZ (hw _ (List.mem_of_getElem? (i := 20) rfl))) (mvT hZ (hw _ (List.mem_of_getElem? (i := 21) rfl))) (by decide) (a := al) [] (Own.back (W := 3) (rm_ali l Z a0 hw [] al da kda h4 n0 O n0_al SD AD E_al F_al_modCount F_al_elementData F_al_size) hZ (hw _ (List.mem_of_getElem? (i := 21) rfl)) (hw _ (List.mem_of_getElem? (i := 18) rfl)) (by decide) (by decide)) e4 (by rw [hml]; rfl) [(.ref al), (.ref sh), (.ref sh)] (lenOf pd_0 rfl) rfl (Nat.le_of_ble_eq_true rfl) (hb hby at_39) (by decide) (by decide) 42 rfl ?_
  rintro _ T5 L5 X5 ⟨rfl, N5q, K5, E_al, F_al_modCount, F_al_elementData, F_al_size⟩
  have N5 := Fr.app N2 N5q
  replace E_df := E_df.keep K5
  replace I_df := Own.Ins.kp I_df K5
  replace E_sh := E_sh.keep K5
  replace F_sh_starts := F_sh_starts.keep K5 (ninS ne_sh_al nin0)
  replace F_sh_to := F_sh_to.keep K5 (ninS ne_sh_al nin0)
  replace F_sh_paid := F_sh_paid.keep K5 (ninS ne_sh_al nin0)
  replace F_sh_zone := F_sh_zone.keep K5 (ninS ne_sh_al nin0)
  replace O := O.keep K5 (allS n0_al all0)
  show Own.Go p e below _ (T5.setTop (mkF m 42 #[.val (.int p1), .val (.int p2), .val (.int p3), .val (.int p4), .val (.int na), .val (.int nb), .val (.int nc), .val (.int nd), .val (.ref df), .unset, .unset, .unset, .unset, .unset, .unset, .unset, .unset] [(.ref al), (.ref sh), (.ref sh)]))
  have A_al : Own.AL Z T5.heap al da [] := ⟨E_al, F_al_size, F_al_elementData, ED.ext O.2, (fun y hy => nomatch hy), Or.inl rfl⟩
  refine Own.g_aconstNull X5 hx (hb hby at_42) 43 rfl ?_
  refine Own.g_aconstNull X5 hx (hb hby at_43) 44 rfl ?_
  refine Own.g_aconstNull X5 hx (hb hby at_44) 45 rfl ?_
  refine Own.g_special X5 hx (y := (⟨"com/example/witnesseth/witnesseth/agreement/ShiftStart", "<init>", "(Ljava/util/List;Ljava/time/LocalTime;Lcom/example/witnesseth/witnesseth/agreement/Differential;Ljava/time/ZoneId;)V"⟩ : MethodName)) rfl hown (mvT hZ (hw _ (List.mem_of_getElem? (i := 40) rfl))) (mvT hZ (hw _ (List.mem_of_getElem? (i := 41) rfl))) (mvT hZ (hw _ (List.mem_of_getElem? (i := 42) rfl))) (by decide) (a := sh) [.ref al, .null, .null, .null] (Own.back (W := 1) (rm_ssi l Z a0 hw [] sh al da da kda mr el ea em T5.heap n0 O n0_sh A_al SD AD M SEL IMel SEM E_sh F_sh_starts F_sh_to F_sh_paid F_sh_zone) hZ (hw _ (List.mem_of_getElem? (i := 42) rfl)) (hw _ (List.mem_of_getElem? (i := 15) rfl)) (by decide) (by decide)) (rfl : T5.heap = T5.heap) (by rw [hml]; rfl) [(.ref sh)] (lenOf pd_19 rfl) rfl (Nat.le_of_ble_eq_true rfl) (hb hby at_45) (by decide) (by decide) 48 rfl ?_
  rintro _ T6 L6 X6 ⟨rfl, N6q, K6, E_sh⟩
  have N6 := Fr.app N5 N6q
  replace E_df := E_df.keep K6
  replace I_df := Own.Ins.kp I_df K6
  replace O := O.keep K6 (allS n0_sh all0)
  have I_sh := Ins.of_exa E_sh (hw _ (List.mem_of_getElem? (i := 110) rfl))
  show Own.Go p e below _ (T6.setTop (mkF m 48 #[.val (.int p1), .val (.int p2), .val (.int p3), .val (.int p4), .val (.int na), .val (.int nb), .val (.int nc), .val (.int nd), .val (.ref df), .unset, .unset, .unset, .unset, .unset, .unset, .unset, .unset] [(.ref sh)]))
  refine Own.g_astore X6 hx #[.val (.int p1), .val (.int p2), .val (.int p3), .val (.int p4), .val (.int na), .val (.int nb), .val (.int nc), .val (.int nd), .val (.ref df), .val (.ref sh), .unset, .unset, .unset, .unset, .unset, .unset, .unset] (hb hby at_48) rfl rfl 50 rfl ?_
  exact st_50 hQ hx hZ hw hby hml hown hret hlocks p1 p2 p3 p4 na nb nc nd df sh da kda mr el ea em (X6.more (by decide) (by decide)) (rfl : T6.heap = T6.heap) N6 O I_df I_sh   SD AD M SEL IMel SEM ED K_na K_nb K_nc K_nd
set_option maxRecDepth 65536 in
set_option maxHeartbeats 40000000 in
theorem comes_1 {Post : Tables → Env → Array Value → State → Outcome → State → Prop} (hpost : ∀ tb e args s v u, (limb_1_1.after args s (.returned v) u = true ∧ limb_1_2.after args s (.returned v) u = true ∧ True) → FrameEnd s (.returned v) u (Jvm.fieldLocs frame_1_writes args s ++ Jvm.arrayLocs frame_1_arrays args s ++ Jvm.staticLocs frame_1_statics s) 64 320 → Post tb e args s (.returned v) u) :
    ArmFor flags0 classFile x code maxLocals ret World_1 tables_1 room_1 Calls_1 rest_1 Pre_1 Post := by
  intro l hfl _ _ p e ha hc hk s m args below hf hA hF happ hP
  obtain ⟨hcalls, hrest, hpre⟩ := hP
  obtain ⟨-, -, -, hnamed, -, -, -, hat⟩ := (Spec.applies_iff hf).mp happ
  obtain ⟨hg, hn⟩ := and_e (Cond.before_iff.mp (show (Jvm.Cond.and given_1 narrow_1).before args s = true from hpre))
  obtain ⟨g0, q0⟩ := and_e hg
  obtain ⟨g1, q1⟩ := and_e q0
  obtain ⟨g2, q2⟩ := and_e q1
  obtain ⟨g3, q3⟩ := and_e q2
  obtain ⟨w0, w1, w2, w3, rfl⟩ : ∃ w0 w1 w2 w3 : Value, args = #[w0, w1, w2, w3] := by
    have hs : args.size = 4 := by simpa [Cond.value, given_1] using g0
    obtain ⟨L⟩ := args
    match L, hs with
    | [w0, w1, w2, w3], _ => exact ⟨w0, w1, w2, w3, rfl⟩
  have hw := fun d (hd : d ∈ tables_1) => atoms_spec (ws := Jvm.Cond.code x code maxLocals ret :: tables_1) hat d (List.mem_cons_of_mem _ hd)
  have hfit : Fit s := fun {y c} hc i hi => by
    obtain ⟨ha, rfl⟩ := Array.getElem?_eq_some_iff.mp hc
    have q := List.all_eq_true.mp ((Array.all_eq_true_iff_forall_mem.mp hF) _ (Array.getElem_mem ha)) i (List.mem_range.mpr hi)
    simpa [Array.getElem?_eq_getElem hi] using q
  obtain ⟨hsets, hown0⟩ := atoms_of _ (rest_1_c_eq ▸ (show rest_1_c.before _ s = true from hrest))
  obtain ⟨i0, ei0⟩ := is_v g1
  obtain rfl : w0 = (.int i0) := Option.some.inj ei0
  obtain ⟨i1, ei1⟩ := is_v g2
  obtain rfl : w1 = (.int i1) := Option.some.inj ei1
  obtain ⟨i2, ei2⟩ := is_v g3
  obtain rfl : w2 = (.int i2) := Option.some.inj ei2
  obtain ⟨i3, ei3⟩ := is_v q3
  obtain rfl : w3 = (.int i3) := Option.some.inj ei3
  obtain ⟨mc, mk, mr, mq1, mq2, mq3, mcell, mq4, mq5⟩ := hcalls.1
  have M : Mir s "[Ljava/lang/Object;" mr := ⟨mc, mk, mq1, mq2, mq3, mcell, mq4, mq5⟩
  obtain ⟨da, eda⟩ := exa_v (Cond.before_iff.mp (hsets _ (List.mem_of_getElem? (i := 7) rfl)))
  have SD : Sta s s.heap "java/util/ArrayList" "DEFAULTCAPACITY_EMPTY_ELEMENTDATA" "[Ljava/lang/Object;" (.ref da) := Sta.start eda (Or.inr ⟨(hw _ (List.mem_of_getElem? (i := 18) rfl)), (hsets _ (List.mem_of_getElem? (i := 2) rfl))⟩)
  obtain ⟨kda, AD⟩ := Own.start_arv hfit (Cond.before_iff.mp (hsets _ (List.mem_of_getElem? (i := 6) rfl))) eda (Cond.before_iff.mp (hsets _ (List.mem_of_getElem? (i := 8) rfl))) (by decide) [] rfl (fun cl hcl => trivial) .null
  have ED : Exa s s.heap da "[Ljava/lang/Object;" := Exa.start eda (Cond.before_iff.mp (hsets _ (List.mem_of_getElem? (i := 7) rfl)))
  obtain ⟨el, eel⟩ := exa_v (Cond.before_iff.mp (hsets _ (List.mem_of_getElem? (i := 11) rfl)))
  have SEL : Sta s s.heap "java/util/ImmutableCollections" "EMPTY_LIST" "Ljava/util/ImmutableCollections$ListN;" (.ref el) := Sta.start eel (Or.inl (hsets _ (List.mem_of_getElem? (i := 10) rfl)))
  have EEL : Exa s s.heap el "java/util/ImmutableCollections$ListN" := Exa.start eel (Cond.before_iff.mp (hsets _ (List.mem_of_getElem? (i := 11) rfl)))
  obtain ⟨ea, eea⟩ := arr_v (Cond.before_iff.mp (hsets _ (List.mem_of_getElem? (i := 12) rfl)))
  have FEL : Fld s s.heap el "java/util/ImmutableCollections$ListN" "elements" "[Ljava/lang/Object;" (.ref ea) := Fld.start ((fld_at eel).symm.trans eea)
  have FAN : Fld s s.heap el "java/util/ImmutableCollections$ListN" "allowNulls" "Z" (.int 0) := Fld.start ((fld_at eel).symm.trans (Own.start_int (Cond.before_iff.mp (hsets _ (List.mem_of_getElem? (i := 15) rfl)))))
  obtain ⟨kea, AEA⟩ := Own.start_arv hfit (Cond.before_iff.mp (hsets _ (List.mem_of_getElem? (i := 12) rfl))) eea (Cond.before_iff.mp (hsets _ (List.mem_of_getElem? (i := 14) rfl))) (by decide) [] rfl (fun cl hcl => trivial) .null
  have IMel : Own.Im s s.heap el ea true := Or.inr ⟨EEL, FAN, FEL, kea, 0, [], AEA, by decide⟩
  obtain ⟨em, eem⟩ := exa_v (Cond.before_iff.mp (hsets _ (List.mem_of_getElem? (i := 18) rfl)))
  have SEM : Sta s s.heap "java/util/ImmutableCollections" "EMPTY" "Ljava/lang/Object;" (.ref em) := Sta.start eem (Or.inl (hsets _ (List.mem_of_getElem? (i := 17) rfl)))
  obtain ⟨n, o, h1, h2, h3, v, L, rfl, ⟨rfl, N⟩, hq⟩ := rm_law l s _ hw tables_1 i0 i1 i2 i3 da kda mr el ea em s.heap s.heap.size (Old.start s) SD AD M SEL IMel SEM ED p e ha hc hk s m _ below hf ((Spec.applies_iff_loose hf).mp happ).1 ⟨rfl, State.Warmed39.refl s, rfl⟩ trivial
  refine ⟨n, _, h1, h2, h3, hpost _ _ _ _ _ _ ⟨Cond.after_iff.mpr rfl, Cond.after_iff.mpr (eq_i res_at (Term.int_eval (1)) rfl), trivial⟩ ⟨hq.1, hq.2.1, (hq.2.2.sift fun y hy => Or.inr (N y hy)).mono (by decide) (by decide)⟩⟩
theorem main_1_1 : Claimed_1_1 := comes_1 fun _ _ _ _ _ _ h hF => ⟨h.1, hF⟩
theorem main_1_2 : Claimed_1_2 := comes_1 fun _ _ _ _ _ _ h hF => ⟨h.2.1, hF⟩
end Jvm.Pilot.@@N@@
namespace Jvm.Pilot.@@N@@
open Jvm Jvm.ClassFile Sem Op Lib Jvm.Free Jvm.Stand Jvm.Pilot.@@N@@.Jvm.D
/-! MADE BY PROGRAM (witnessworld.py) out of the Statement's table words and the real class files: 31 classes; the members and pool entries that the words name. The judged class is class 1, her method 1. -/
namespace start1
open Jvm.ClassFile
def u (s : String) : CpInfo := .utf8 (stringToUtf16 s)
/-- a pool by its gaps: so many unusable entries, then the entry; so many at the end -/
def gap : Nat → List CpInfo → List CpInfo
  | 0, r => r
  | n + 1, r => .unusable :: gap n r
def poolList (es : List (Nat × CpInfo)) (last : Nat) : List CpInfo := es.foldr (fun e r => gap e.1 (e.2 :: r)) (gap last [])
def pool (es : List (Nat × CpInfo)) (last : Nat) : Array CpInfo := ⟨poolList es last⟩
def fileOf (pool : Array CpInfo) (this : Nat) (attrs : Array Attribute := #[]) (ms : Array MethodInfo := #[]) (fl : Nat := 33) (sup : Nat := 0) (ifs : Array Nat := #[]) (fds : Array FieldInfo := #[]) : ClassFile where
  minorVersion := 0
  majorVersion := 65
  constantPool := pool
  accessFlags := fl
  thisClass := this
  superClass := sup
  interfaces := ifs
  fields := fds
  methods := ms
  attributes := attrs
def plain (name : String) (sup : Option ClassId) : Class where
  name := name
  kind := .ordinary
  loader := none
  accessFlags := 33
  super := sup
  interfaces := #[]
  cf := none
  fields := #[]
  methods := #[]
  instanceTypes := #[]
  staticTypes := #[]
  resolved := #[]
  callSites := []
  init := .initialized
  statics := none
  mirror := none

def pool0 : Array CpInfo := pool [(5, u "<init>"), (0, u "()V"), (1, .class_ 10), (1, u "java/lang/Object"), (0, u "getClass"), (0, u "()Ljava/lang/Class;")] 111

def k0c0 : Code := { maxStack := 0, maxLocals := 1, code := object_method_1_code, exceptionTable := #[], attributes := #[] }
def k0m0 : Method := { name := "<init>", desc := "()V", sig := { parameters := [], returnType := none }, accessFlags := 1, code := some k0c0 }
def k0m1 : Method := { name := "getClass", desc := "()Ljava/lang/Class;", sig := { parameters := [], returnType := some (.object "java/lang/Class") }, accessFlags := 273, code := none }
/-- java/lang/Object -/
def k0 : Class := { plain "java/lang/Object" none with
  accessFlags := 33
  interfaces := #[]
  cf := some (fileOf pool0 8 #[] #[{ accessFlags := 1, nameIndex := 5, descriptorIndex := 6, attributes := #[] }, { accessFlags := 273, nameIndex := 11, descriptorIndex := 12, attributes := #[] }] 33 0 #[] #[])
  fields := #[]
  methods := #[k0m0, k0m1]
  instanceTypes := #[]
  staticTypes := #[]
  resolved := Array.replicate 124 none
  statics := none }

def pool1 : Array CpInfo := pool [(2, .class_ 4), (0, .nameAndType 5 6), (0, u "java/lang/Object"), (0, u "<init>"), (0, u "()V"), (0, .class_ 8), (0, u "com/example/witnesseth/witnesseth/agreement/Differential"), (0, .methodref 7 10), (0, .nameAndType 5 11), (0, u "(Ljava/lang/String;Ljava/math/BigDecimal;)V"), (0, .class_ 13), (0, u "com/example/witnesseth/witnesseth/agreement/ShiftStart"), (0, .class_ 15), (0, u "java/util/ArrayList"), (0, .methodref 14 3), (0, .methodref 12 18), (0, .nameAndType 5 19), (0, u "(Ljava/util/List;Ljava/time/LocalTime;Lcom/example/witnesseth/witnesseth/agreement/Differential;Ljava/time/ZoneId;)V"), (0, .methodref 14 21), (0, .nameAndType 22 23), (0, u "add"), (0, u "(Ljava/lang/Object;)Z"), (0, .class_ 25), (0, u "com/example/witnesseth/witnesseth/agreement/ClockDifferentials"), (0, .methodref 24 27), (0, .nameAndType 5 28), (0, u "(Ljava/util/List;Ljava/util/List;Ljava/util/List;)V"), (0, .methodref 24 30), (0, .nameAndType 31 32), (0, u "isEmpty"), (0, u "()Z"), (0, .methodref 24 34), (0, .nameAndType 35 36), (0, u "withShifts"), (0, u "(Ljava/util/List;)Lcom/example/witnesseth/witnesseth/agreement/ClockDifferentials;"), (0, .class_ 38), (0, u "com/example/witnesseth/witnesseth/agreement/ClockDifferentialsIsEmptyPinLaw"), (2, u "law"), (0, u "(IIII)Z")] 3

def k1m0 : Method := { name := "<init>", desc := "()V", sig := { parameters := [], returnType := none }, accessFlags := 1, code := none }
def k1c1 : Code := { maxStack := 6, maxLocals := 17, code := code, exceptionTable := #[], attributes := #[] }
def k1m1 : Method := { name := "law", desc := "(IIII)Z", sig := { parameters := [.int, .int, .int, .int], returnType := some .boolean }, accessFlags := 9, code := some k1c1 }
/-- com/example/witnesseth/witnesseth/agreement/ClockDifferentialsIsEmptyPinLaw -/
def k1 : Class := { plain "com/example/witnesseth/witnesseth/agreement/ClockDifferentialsIsEmptyPinLaw" (some 0) with
  accessFlags := 49
  interfaces := #[]
  cf := some (fileOf pool1 37 #[] #[{ accessFlags := 1, nameIndex := 5, descriptorIndex := 6, attributes := #[] }, { accessFlags := 9, nameIndex := 41, descriptorIndex := 42, attributes := #[] }] 49 2 #[] #[])
  fields := #[]
  methods := #[k1m0, k1m1]
  instanceTypes := #[]
  staticTypes := #[]
  resolved := Array.replicate 46 none
  statics := none }

def pool2 : Array CpInfo := pool [(1, .methodref 2 3), (0, .class_ 4), (0, .nameAndType 5 6), (0, u "java/lang/Object"), (0, u "<init>"), (0, u "()V"), (0, .fieldref 8 9), (0, .class_ 10), (0, .nameAndType 11 12), (0, u "com/example/witnesseth/witnesseth/agreement/Differential"), (0, u "clause"), (0, u "Ljava/lang/String;"), (0, .fieldref 8 14), (0, .nameAndType 15 16), (0, u "perHour"), (0, u "Ljava/math/BigDecimal;"), (0, u "(Ljava/lang/String;Ljava/math/BigDecimal;)V")] 6

def k2c0 : Code := { maxStack := 2, maxLocals := 3, code := prog_13_method_1_code, exceptionTable := #[], attributes := #[] }
def k2m0 : Method := { name := "<init>", desc := "(Ljava/lang/String;Ljava/math/BigDecimal;)V", sig := { parameters := [(.object "java/lang/String"), (.object "java/math/BigDecimal")], returnType := none }, accessFlags := 0, code := some k2c0 }
/-- com/example/witnesseth/witnesseth/agreement/Differential -/
def k2 : Class := { plain "com/example/witnesseth/witnesseth/agreement/Differential" (some 0) with
  accessFlags := 49
  interfaces := #[]
  cf := some (fileOf pool2 8 #[] #[{ accessFlags := 0, nameIndex := 5, descriptorIndex := 17, attributes := #[] }] 49 2 #[] #[{ accessFlags := 18, nameIndex := 11, descriptorIndex := 12, attributes := #[] }, { accessFlags := 18, nameIndex := 15, descriptorIndex := 16, attributes := #[] }])
  fields := #[{ name := "clause", type := (.object "java/lang/String"), accessFlags := 18, slot := 0, constantValue := 0 }, { name := "perHour", type := (.object "java/math/BigDecimal"), accessFlags := 18, slot := 1, constantValue := 0 }]
  methods := #[k2m0]
  instanceTypes := #[(.object "java/lang/String"), (.object "java/math/BigDecimal")]
  staticTypes := #[]
  resolved := Array.replicate 24 none
  statics := none }

def pool3 : Array CpInfo := pool [(1, .methodref 2 3), (0, .class_ 4), (0, .nameAndType 5 6), (0, u "java/lang/Object"), (0, u "<init>"), (0, u "()V"), (0, .interfaceMethodref 8 9), (0, .class_ 10), (0, .nameAndType 11 12), (0, u "java/util/List"), (0, u "copyOf"), (0, u "(Ljava/util/Collection;)Ljava/util/List;"), (0, .fieldref 14 15), (0, .class_ 16), (0, .nameAndType 17 18), (0, u "com/example/witnesseth/witnesseth/agreement/ShiftStart"), (0, u "starts"), (0, u "Ljava/util/List;"), (0, .fieldref 14 20), (0, .nameAndType 21 22), (0, u "to"), (0, u "Ljava/time/LocalTime;"), (0, .fieldref 14 24), (0, .nameAndType 25 26), (0, u "paid"), (0, u "Lcom/example/witnesseth/witnesseth/agreement/Differential;"), (0, .fieldref 14 28), (0, .nameAndType 29 30), (0, u "zone"), (0, u "Ljava/time/ZoneId;"), (23, .class_ 55), (0, u "com/example/witnesseth/witnesseth/agreement/ShiftStart$Started"), (5, u "(Ljava/util/List;Ljava/time/LocalTime;Lcom/example/witnesseth/witnesseth/agreement/Differential;Ljava/time/ZoneId;)V")] 12

def k3c0 : Code := { maxStack := 2, maxLocals := 5, code := prog_32_method_1_code, exceptionTable := #[], attributes := #[] }
def k3m0 : Method := { name := "<init>", desc := "(Ljava/util/List;Ljava/time/LocalTime;Lcom/example/witnesseth/witnesseth/agreement/Differential;Ljava/time/ZoneId;)V", sig := { parameters := [(.object "java/util/List"), (.object "java/time/LocalTime"), (.object "com/example/witnesseth/witnesseth/agreement/Differential"), (.object "java/time/ZoneId")], returnType := none }, accessFlags := 0, code := some k3c0 }
/-- com/example/witnesseth/witnesseth/agreement/ShiftStart -/
def k3 : Class := { plain "com/example/witnesseth/witnesseth/agreement/ShiftStart" (some 0) with
  accessFlags := 48
  interfaces := #[]
  cf := some (fileOf pool3 14 #[.nestMembers #[54]] #[{ accessFlags := 0, nameIndex := 5, descriptorIndex := 61, attributes := #[] }] 48 2 #[] #[{ accessFlags := 18, nameIndex := 17, descriptorIndex := 18, attributes := #[] }, { accessFlags := 18, nameIndex := 21, descriptorIndex := 22, attributes := #[] }, { accessFlags := 18, nameIndex := 25, descriptorIndex := 26, attributes := #[] }, { accessFlags := 18, nameIndex := 29, descriptorIndex := 30, attributes := #[] }])
  fields := #[{ name := "starts", type := (.object "java/util/List"), accessFlags := 18, slot := 0, constantValue := 0 }, { name := "to", type := (.object "java/time/LocalTime"), accessFlags := 18, slot := 1, constantValue := 0 }, { name := "paid", type := (.object "com/example/witnesseth/witnesseth/agreement/Differential"), accessFlags := 18, slot := 2, constantValue := 0 }, { name := "zone", type := (.object "java/time/ZoneId"), accessFlags := 18, slot := 3, constantValue := 0 }]
  methods := #[k3m0]
  instanceTypes := #[(.object "java/util/List"), (.object "java/time/LocalTime"), (.object "com/example/witnesseth/witnesseth/agreement/Differential"), (.object "java/time/ZoneId")]
  staticTypes := #[]
  resolved := Array.replicate 74 none
  statics := none }

def pool4 : Array CpInfo := pool [(8, .class_ 10), (1, u "java/lang/Iterable"), (24, .class_ 36), (0, u "java/lang/Object")] 25

/-- java/lang/Iterable -/
def k4 : Class := { plain "java/lang/Iterable" (some 0) with
  accessFlags := 1537
  interfaces := #[]
  cf := some (fileOf pool4 8 #[] #[] 1537 35 #[] #[])
  fields := #[]
  methods := #[]
  instanceTypes := #[]
  staticTypes := #[]
  resolved := Array.replicate 62 none
  statics := none }

def pool5 : Array CpInfo := pool [(10, .class_ 12), (1, u "java/util/Collection"), (0, u "toArray"), (16, u "()Z"), (29, .class_ 61), (0, u "java/lang/Object"), (0, .class_ 63), (0, u "java/lang/Iterable"), (2, u "isEmpty"), (3, u "()[Ljava/lang/Object;")] 44

def k5m0 : Method := { name := "isEmpty", desc := "()Z", sig := { parameters := [], returnType := some .boolean }, accessFlags := 1025, code := none }
def k5m1 : Method := { name := "toArray", desc := "()[Ljava/lang/Object;", sig := { parameters := [], returnType := some (.array (.object "java/lang/Object")) }, accessFlags := 1025, code := none }
/-- java/util/Collection -/
def k5 : Class := { plain "java/util/Collection" (some 0) with
  accessFlags := 1537
  interfaces := #[4]
  cf := some (fileOf pool5 10 #[] #[{ accessFlags := 1025, nameIndex := 66, descriptorIndex := 30, attributes := #[] }, { accessFlags := 1025, nameIndex := 13, descriptorIndex := 70, attributes := #[] }] 1537 60 #[62] #[])
  fields := #[]
  methods := #[k5m0, k5m1]
  instanceTypes := #[]
  staticTypes := #[]
  resolved := Array.replicate 115 none
  statics := none }

def pool6 : Array CpInfo := pool [(1, .methodref 2 3), (0, .class_ 4), (0, .nameAndType 5 6), (0, u "java/lang/Object"), (0, u "<init>"), (0, u "()V"), (1, .class_ 10), (1, u "java/util/AbstractCollection"), (66, .class_ 78), (0, u "java/util/Collection")] 81

def k6c0 : Code := { maxStack := 1, maxLocals := 1, code := jdk_22_method_1_code, exceptionTable := #[], attributes := #[] }
def k6m0 : Method := { name := "<init>", desc := "()V", sig := { parameters := [], returnType := none }, accessFlags := 4, code := some k6c0 }
/-- java/util/AbstractCollection -/
def k6 : Class := { plain "java/util/AbstractCollection" (some 0) with
  accessFlags := 1057
  interfaces := #[5]
  cf := some (fileOf pool6 8 #[] #[{ accessFlags := 4, nameIndex := 5, descriptorIndex := 6, attributes := #[] }] 1057 2 #[77] #[])
  fields := #[]
  methods := #[k6m0]
  instanceTypes := #[]
  staticTypes := #[]
  resolved := Array.replicate 160 none
  statics := none }

def pool7 : Array CpInfo := pool [(8, .class_ 10), (1, u "java/util/SequencedCollection"), (15, .class_ 27), (0, u "java/lang/Object"), (0, .class_ 29), (0, u "java/util/Collection")] 27

/-- java/util/SequencedCollection -/
def k7 : Class := { plain "java/util/SequencedCollection" (some 0) with
  accessFlags := 1537
  interfaces := #[5]
  cf := some (fileOf pool7 8 #[] #[] 1537 26 #[28] #[])
  fields := #[]
  methods := #[]
  instanceTypes := #[]
  staticTypes := #[]
  resolved := Array.replicate 57 none
  statics := none }

def pool8 : Array CpInfo := pool [(8, .class_ 10), (1, u "java/util/List"), (7, u "()Z"), (12, u "(Ljava/lang/Object;)V"), (16, u "<init>"), (18, u "isEmpty"), (20, u "of"), (1, .fieldref 91 92), (0, .class_ 93), (0, .nameAndType 94 95), (0, u "java/util/ImmutableCollections"), (0, u "EMPTY_LIST"), (0, u "Ljava/util/ImmutableCollections$ListN;"), (0, .class_ 97), (0, u "java/util/ImmutableCollections$List12"), (0, .methodref 96 99), (0, .nameAndType 48 31), (0, .methodref 96 101), (0, .nameAndType 48 102), (0, u "(Ljava/lang/Object;Ljava/lang/Object;)V"), (0, .class_ 104), (0, u "java/lang/Object"), (3, u "([Ljava/lang/Object;)Ljava/util/List;"), (0, .methodref 91 110), (0, .nameAndType 111 108), (0, u "listFromArray"), (0, .methodref 91 113), (0, .nameAndType 114 115), (0, u "listCopy"), (0, u "(Ljava/util/Collection;)Ljava/util/List;"), (3, u "()Ljava/util/List;"), (0, .class_ 121), (0, u "java/util/SequencedCollection"), (112, u "copyOf")] 16

def k8m0 : Method := { name := "isEmpty", desc := "()Z", sig := { parameters := [], returnType := some .boolean }, accessFlags := 1025, code := none }
def k8c1 : Code := { maxStack := 1, maxLocals := 0, code := jdk_40_method_36_code, exceptionTable := #[], attributes := #[] }
def k8m1 : Method := { name := "of", desc := "()Ljava/util/List;", sig := { parameters := [], returnType := some (.object "java/util/List") }, accessFlags := 9, code := some k8c1 }
def k8c2 : Code := { maxStack := 5, maxLocals := 2, code := jdk_40_method_47_code, exceptionTable := #[], attributes := #[] }
def k8m2 : Method := { name := "of", desc := "([Ljava/lang/Object;)Ljava/util/List;", sig := { parameters := [(.array (.object "java/lang/Object"))], returnType := some (.object "java/util/List") }, accessFlags := 137, code := some k8c2 }
def k8c3 : Code := { maxStack := 1, maxLocals := 1, code := jdk_40_method_48_code, exceptionTable := #[], attributes := #[] }
def k8m3 : Method := { name := "copyOf", desc := "(Ljava/util/Collection;)Ljava/util/List;", sig := { parameters := [(.object "java/util/Collection")], returnType := some (.object "java/util/List") }, accessFlags := 9, code := some k8c3 }
/-- java/util/List -/
def k8 : Class := { plain "java/util/List" (some 0) with
  accessFlags := 1537
  interfaces := #[7]
  cf := some (fileOf pool8 8 #[] #[{ accessFlags := 1025, nameIndex := 67, descriptorIndex := 18, attributes := #[] }, { accessFlags := 9, nameIndex := 88, descriptorIndex := 119, attributes := #[] }, { accessFlags := 137, nameIndex := 88, descriptorIndex := 108, attributes := #[] }, { accessFlags := 9, nameIndex := 234, descriptorIndex := 115, attributes := #[] }] 1537 103 #[120] #[])
  fields := #[]
  methods := #[k8m0, k8m1, k8m2, k8m3]
  instanceTypes := #[]
  staticTypes := #[]
  resolved := Array.replicate 251 none
  statics := none }

def pool9 : Array CpInfo := pool [(1, .methodref 2 3), (0, .class_ 4), (0, .nameAndType 5 6), (0, u "java/util/AbstractCollection"), (0, u "<init>"), (0, u "()V"), (0, .fieldref 8 9), (0, .class_ 10), (0, .nameAndType 11 12), (0, u "java/util/AbstractList"), (0, u "modCount"), (0, u "I"), (64, .class_ 78), (0, u "java/util/AbstractList$Itr"), (3, .class_ 83), (0, u "java/util/AbstractList$ListItr"), (9, .class_ 94), (0, u "java/util/AbstractList$RandomAccessSubList"), (3, .class_ 99), (0, u "java/util/AbstractList$SubList"), (33, .class_ 134), (0, u "java/util/List"), (73, .class_ 209), (0, u "java/util/AbstractList$SubList$1"), (0, .class_ 211), (0, u "java/util/AbstractList$RandomAccessSpliterator")] 6

def k9c0 : Code := { maxStack := 2, maxLocals := 1, code := jdk_39_method_1_code, exceptionTable := #[], attributes := #[] }
def k9m0 : Method := { name := "<init>", desc := "()V", sig := { parameters := [], returnType := none }, accessFlags := 4, code := some k9c0 }
/-- java/util/AbstractList -/
def k9 : Class := { plain "java/util/AbstractList" (some 6) with
  accessFlags := 1057
  interfaces := #[8]
  cf := some (fileOf pool9 8 #[.nestMembers #[93, 98, 208, 210, 82, 77]] #[{ accessFlags := 4, nameIndex := 5, descriptorIndex := 6, attributes := #[] }] 1057 2 #[133] #[{ accessFlags := 132, nameIndex := 11, descriptorIndex := 12, attributes := #[] }])
  fields := #[{ name := "modCount", type := .int, accessFlags := 132, slot := 0, constantValue := 0 }]
  methods := #[k9m0]
  instanceTypes := #[.int]
  staticTypes := #[]
  resolved := Array.replicate 218 none
  statics := none }

def pool10 : Array CpInfo := pool [(1, .class_ 2), (0, u "java/util/RandomAccess"), (0, .class_ 4), (0, u "java/lang/Object")] 2

/-- java/util/RandomAccess -/
def k10 : Class := { plain "java/util/RandomAccess" (some 0) with
  accessFlags := 1537
  interfaces := #[]
  cf := some (fileOf pool10 1 #[] #[] 1537 3 #[] #[])
  fields := #[]
  methods := #[]
  instanceTypes := #[]
  staticTypes := #[]
  resolved := Array.replicate 7 none
  statics := none }

def pool11 : Array CpInfo := pool [(1, .class_ 2), (0, u "java/lang/Cloneable"), (0, .class_ 4), (0, u "java/lang/Object")] 2

/-- java/lang/Cloneable -/
def k11 : Class := { plain "java/lang/Cloneable" (some 0) with
  accessFlags := 1537
  interfaces := #[]
  cf := some (fileOf pool11 1 #[] #[] 1537 3 #[] #[])
  fields := #[]
  methods := #[]
  instanceTypes := #[]
  staticTypes := #[]
  resolved := Array.replicate 7 none
  statics := none }

def pool12 : Array CpInfo := pool [(1, .class_ 2), (0, u "java/io/Serializable"), (0, .class_ 4), (0, u "java/lang/Object")] 2

/-- java/io/Serializable -/
def k12 : Class := { plain "java/io/Serializable" (some 0) with
  accessFlags := 1537
  interfaces := #[]
  cf := some (fileOf pool12 1 #[] #[] 1537 3 #[] #[])
  fields := #[]
  methods := #[]
  instanceTypes := #[]
  staticTypes := #[]
  resolved := Array.replicate 7 none
  statics := none }

def pool13 : Array CpInfo := pool [(1, .methodref 2 3), (0, .class_ 4), (0, .nameAndType 5 6), (0, u "java/util/AbstractList"), (0, u "<init>"), (0, u "()V"), (0, .class_ 8), (0, u "java/lang/Object"), (0, .fieldref 10 11), (0, .class_ 12), (0, .nameAndType 13 14), (0, u "java/util/ArrayList"), (0, u "elementData"), (0, u "[Ljava/lang/Object;"), (2, u "EMPTY_ELEMENTDATA"), (21, .fieldref 10 40), (0, .nameAndType 41 14), (0, u "DEFAULTCAPACITY_EMPTY_ELEMENTDATA"), (4, u "toArray"), (0, u "()[Ljava/lang/Object;"), (0, .fieldref 10 49), (0, .nameAndType 50 51), (0, u "size"), (0, u "I"), (6, .class_ 60), (1, u "java/util/Arrays"), (0, u "copyOf"), (1, .fieldref 10 64), (0, .nameAndType 65 51), (0, u "modCount"), (0, .methodref 58 67), (0, .nameAndType 61 68), (0, u "([Ljava/lang/Object;I)[Ljava/lang/Object;"), (0, .methodref 10 70), (0, .nameAndType 71 72), (0, u "grow"), (0, u "(I)[Ljava/lang/Object;"), (6, .methodref 80 81), (0, .class_ 82), (0, .nameAndType 83 84), (0, u "java/lang/Math"), (0, u "max"), (0, u "(II)I"), (11, u "(Ljava/lang/Object;)Z"), (32, .methodref 10 130), (0, .nameAndType 71 47), (0, .methodref 10 132), (0, .nameAndType 133 134), (0, u "add"), (0, u "(Ljava/lang/Object;[Ljava/lang/Object;I)V"), (13, .class_ 149), (0, u "java/util/List"), (23, u "()Z"), (88, .class_ 263), (0, u "java/util/ArrayList$ListItr"), (3, .class_ 268), (0, u "java/util/ArrayList$Itr"), (7, .class_ 277), (0, u "java/util/ArrayList$SubList"), (12, .class_ 291), (0, u "java/util/ArrayList$ArrayListSpliterator"), (37, .class_ 330), (0, u "java/util/RandomAccess"), (0, .class_ 332), (0, u "java/lang/Cloneable"), (0, .class_ 334), (0, u "java/io/Serializable"), (0, u "serialVersionUID"), (0, u "J"), (3, u "DEFAULT_CAPACITY"), (22, u "isEmpty"), (136, .class_ 501), (0, u "java/util/ArrayList$SubList$2"), (0, .class_ 503), (0, u "java/util/ArrayList$SubList$1")] 5

def k13c0 : Code := { maxStack := 2, maxLocals := 1, code := jdk_38_method_2_code, exceptionTable := #[], attributes := #[] }
def k13m0 : Method := { name := "<init>", desc := "()V", sig := { parameters := [], returnType := none }, accessFlags := 1, code := some k13c0 }
def k13c1 : Code := { maxStack := 4, maxLocals := 4, code := jdk_38_method_6_code, exceptionTable := #[], attributes := #[] }
def k13m1 : Method := { name := "grow", desc := "(I)[Ljava/lang/Object;", sig := { parameters := [.int], returnType := some (.array (.object "java/lang/Object")) }, accessFlags := 2, code := some k13c1 }
def k13c2 : Code := { maxStack := 3, maxLocals := 1, code := jdk_38_method_7_code, exceptionTable := #[], attributes := #[] }
def k13m2 : Method := { name := "grow", desc := "()[Ljava/lang/Object;", sig := { parameters := [], returnType := some (.array (.object "java/lang/Object")) }, accessFlags := 2, code := some k13c2 }
def k13c3 : Code := { maxStack := 1, maxLocals := 1, code := jdk_38_method_9_code, exceptionTable := #[], attributes := #[] }
def k13m3 : Method := { name := "isEmpty", desc := "()Z", sig := { parameters := [], returnType := some .boolean }, accessFlags := 1, code := some k13c3 }
def k13c4 : Code := { maxStack := 2, maxLocals := 1, code := jdk_38_method_16_code, exceptionTable := #[], attributes := #[] }
def k13m4 : Method := { name := "toArray", desc := "()[Ljava/lang/Object;", sig := { parameters := [], returnType := some (.array (.object "java/lang/Object")) }, accessFlags := 1, code := some k13c4 }
def k13c5 : Code := { maxStack := 3, maxLocals := 4, code := jdk_38_method_24_code, exceptionTable := #[], attributes := #[] }
def k13m5 : Method := { name := "add", desc := "(Ljava/lang/Object;[Ljava/lang/Object;I)V", sig := { parameters := [(.object "java/lang/Object"), (.array (.object "java/lang/Object")), .int], returnType := none }, accessFlags := 2, code := some k13c5 }
def k13c6 : Code := { maxStack := 4, maxLocals := 2, code := jdk_38_method_25_code, exceptionTable := #[], attributes := #[] }
def k13m6 : Method := { name := "add", desc := "(Ljava/lang/Object;)Z", sig := { parameters := [(.object "java/lang/Object")], returnType := some .boolean }, accessFlags := 1, code := some k13c6 }
/-- java/util/ArrayList -/
def k13 : Class := { plain "java/util/ArrayList" (some 9) with
  accessFlags := 33
  interfaces := #[8, 10, 11, 12]
  cf := some (fileOf pool13 10 #[.nestMembers #[290, 276, 500, 502, 262, 267]] #[{ accessFlags := 1, nameIndex := 5, descriptorIndex := 6, attributes := #[] }, { accessFlags := 2, nameIndex := 71, descriptorIndex := 72, attributes := #[] }, { accessFlags := 2, nameIndex := 71, descriptorIndex := 47, attributes := #[] }, { accessFlags := 1, nameIndex := 363, descriptorIndex := 173, attributes := #[] }, { accessFlags := 1, nameIndex := 46, descriptorIndex := 47, attributes := #[] }, { accessFlags := 2, nameIndex := 133, descriptorIndex := 134, attributes := #[] }, { accessFlags := 1, nameIndex := 133, descriptorIndex := 96, attributes := #[] }] 33 2 #[148, 329, 331, 333] #[{ accessFlags := 26, nameIndex := 335, descriptorIndex := 336, attributes := #[] }, { accessFlags := 26, nameIndex := 340, descriptorIndex := 51, attributes := #[] }, { accessFlags := 26, nameIndex := 17, descriptorIndex := 14, attributes := #[] }, { accessFlags := 26, nameIndex := 41, descriptorIndex := 14, attributes := #[] }, { accessFlags := 128, nameIndex := 13, descriptorIndex := 14, attributes := #[] }, { accessFlags := 2, nameIndex := 50, descriptorIndex := 51, attributes := #[] }])
  fields := #[{ name := "serialVersionUID", type := .long, accessFlags := 26, slot := 0, constantValue := 0 }, { name := "DEFAULT_CAPACITY", type := .int, accessFlags := 26, slot := 1, constantValue := 0 }, { name := "EMPTY_ELEMENTDATA", type := (.array (.object "java/lang/Object")), accessFlags := 26, slot := 2, constantValue := 0 }, { name := "DEFAULTCAPACITY_EMPTY_ELEMENTDATA", type := (.array (.object "java/lang/Object")), accessFlags := 26, slot := 3, constantValue := 0 }, { name := "elementData", type := (.array (.object "java/lang/Object")), accessFlags := 128, slot := 1, constantValue := 0 }, { name := "size", type := .int, accessFlags := 2, slot := 2, constantValue := 0 }]
  methods := #[k13m0, k13m1, k13m2, k13m3, k13m4, k13m5, k13m6]
  instanceTypes := #[.int, (.array (.object "java/lang/Object")), .int]
  staticTypes := #[.long, .int, (.array (.object "java/lang/Object")), (.array (.object "java/lang/Object"))]
  resolved := Array.replicate 509 none
  statics := some 0 }

def pool14 : Array CpInfo := pool [(2, .class_ 4), (1, u "java/lang/Object"), (0, u "<init>"), (0, u "()V"), (3, .class_ 11), (0, u "java/util/ImmutableCollections$List12"), (0, .class_ 13), (0, u "java/util/ImmutableCollections$ListN"), (0, .fieldref 12 15), (0, .nameAndType 16 17), (0, u "allowNulls"), (0, u "Z"), (0, .class_ 19), (0, u "java/util/List"), (0, .interfaceMethodref 21 22), (0, .class_ 23), (0, .nameAndType 24 25), (0, u "java/util/Collection"), (0, u "isEmpty"), (0, u "()Z"), (0, .interfaceMethodref 18 27), (0, .nameAndType 28 29), (0, u "of"), (0, u "()Ljava/util/List;"), (0, .interfaceMethodref 21 31), (0, .nameAndType 32 33), (0, u "toArray"), (0, u "()[Ljava/lang/Object;"), (0, .interfaceMethodref 18 35), (0, .nameAndType 28 36), (0, u "([Ljava/lang/Object;)Ljava/util/List;"), (0, .methodref 38 39), (0, .class_ 40), (0, .nameAndType 41 42), (0, u "java/util/Objects"), (0, u "requireNonNull"), (0, u "(Ljava/lang/Object;)Ljava/lang/Object;"), (0, .methodref 12 44), (0, .nameAndType 5 45), (0, u "([Ljava/lang/Object;Z)V"), (1, .class_ 49), (1, u "java/util/ImmutableCollections"), (0, u "$assertionsDisabled"), (5, u "[Ljava/lang/Object;"), (5, u "EMPTY_LIST"), (0, u "Ljava/util/ImmutableCollections$ListN;"), (8, u "EMPTY_LIST_NULLS"), (22, u "SALT32L"), (0, u "J"), (2, u "REVERSE"), (6, u "archivedObjects"), (2, u "EMPTY"), (0, u "Ljava/lang/Object;"), (0, .class_ 112), (0, u "java/util/ImmutableCollections$SetN"), (5, u "EMPTY_SET"), (0, u "Ljava/util/ImmutableCollections$SetN;"), (0, .class_ 121), (0, u "java/util/ImmutableCollections$MapN"), (3, u "EMPTY_MAP"), (0, u "Ljava/util/ImmutableCollections$MapN;"), (4, u "EXPAND_FACTOR"), (0, u "I"), (9, u "listCopy"), (0, u "(Ljava/util/Collection;)Ljava/util/List;"), (7, u "listFromArray"), (17, .class_ 170), (0, u "java/util/ImmutableCollections$MapN$MapNIterator"), (0, .class_ 172), (0, u "java/util/ImmutableCollections$MapN$1"), (0, .class_ 174), (0, u "java/util/ImmutableCollections$Map1"), (0, .class_ 176), (0, u "java/util/ImmutableCollections$AbstractImmutableMap"), (0, .class_ 178), (0, u "java/util/ImmutableCollections$SetN$SetNIterator"), (0, .class_ 180), (0, u "java/util/ImmutableCollections$Set12"), (0, .class_ 182), (0, u "java/util/ImmutableCollections$Set12$1"), (0, .class_ 184), (0, u "java/util/ImmutableCollections$AbstractImmutableSet"), (0, .class_ 186), (0, u "java/util/ImmutableCollections$SubList"), (0, .class_ 188), (0, u "java/util/ImmutableCollections$ListItr"), (0, .class_ 190), (0, u "java/util/ImmutableCollections$AbstractImmutableList"), (0, .class_ 192), (0, u "java/util/ImmutableCollections$AbstractImmutableCollection"), (0, .class_ 194), (0, u "java/util/ImmutableCollections$Access"), (0, .class_ 196), (0, u "java/util/ImmutableCollections$Access$1")] 16

def k14m0 : Method := { name := "<init>", desc := "()V", sig := { parameters := [], returnType := none }, accessFlags := 2, code := none }
def k14c1 : Code := { maxStack := 1, maxLocals := 2, code := jdk_56_method_3_code, exceptionTable := #[], attributes := #[] }
def k14m1 : Method := { name := "listCopy", desc := "(Ljava/util/Collection;)Ljava/util/List;", sig := { parameters := [(.object "java/util/Collection")], returnType := some (.object "java/util/List") }, accessFlags := 8, code := some k14c1 }
def k14c2 : Code := { maxStack := 4, maxLocals := 3, code := jdk_56_method_4_code, exceptionTable := #[], attributes := #[] }
def k14m2 : Method := { name := "listFromArray", desc := "([Ljava/lang/Object;)Ljava/util/List;", sig := { parameters := [(.array (.object "java/lang/Object"))], returnType := some (.object "java/util/List") }, accessFlags := 136, code := some k14c2 }
/-- java/util/ImmutableCollections -/
def k14 : Class := { plain "java/util/ImmutableCollections" (some 0) with
  accessFlags := 32
  interfaces := #[]
  cf := some (fileOf pool14 47 #[.nestMembers #[120, 169, 171, 173, 175, 111, 177, 179, 181, 183, 12, 10, 185, 187, 189, 191, 193, 195]] #[{ accessFlags := 2, nameIndex := 5, descriptorIndex := 6, attributes := #[] }, { accessFlags := 8, nameIndex := 142, descriptorIndex := 143, attributes := #[] }, { accessFlags := 136, nameIndex := 151, descriptorIndex := 36, attributes := #[] }] 32 2 #[] #[{ accessFlags := 26, nameIndex := 95, descriptorIndex := 96, attributes := #[] }, { accessFlags := 26, nameIndex := 99, descriptorIndex := 17, attributes := #[] }, { accessFlags := 10, nameIndex := 106, descriptorIndex := 56, attributes := #[] }, { accessFlags := 26, nameIndex := 109, descriptorIndex := 110, attributes := #[] }, { accessFlags := 24, nameIndex := 62, descriptorIndex := 63, attributes := #[] }, { accessFlags := 24, nameIndex := 72, descriptorIndex := 63, attributes := #[] }, { accessFlags := 24, nameIndex := 118, descriptorIndex := 119, attributes := #[] }, { accessFlags := 24, nameIndex := 125, descriptorIndex := 126, attributes := #[] }, { accessFlags := 24, nameIndex := 131, descriptorIndex := 132, attributes := #[] }, { accessFlags := 4120, nameIndex := 50, descriptorIndex := 17, attributes := #[] }])
  fields := #[{ name := "SALT32L", type := .long, accessFlags := 26, slot := 0, constantValue := 0 }, { name := "REVERSE", type := .boolean, accessFlags := 26, slot := 1, constantValue := 0 }, { name := "archivedObjects", type := (.array (.object "java/lang/Object")), accessFlags := 10, slot := 2, constantValue := 0 }, { name := "EMPTY", type := (.object "java/lang/Object"), accessFlags := 26, slot := 3, constantValue := 0 }, { name := "EMPTY_LIST", type := (.object "java/util/ImmutableCollections$ListN"), accessFlags := 24, slot := 4, constantValue := 0 }, { name := "EMPTY_LIST_NULLS", type := (.object "java/util/ImmutableCollections$ListN"), accessFlags := 24, slot := 5, constantValue := 0 }, { name := "EMPTY_SET", type := (.object "java/util/ImmutableCollections$SetN"), accessFlags := 24, slot := 6, constantValue := 0 }, { name := "EMPTY_MAP", type := (.object "java/util/ImmutableCollections$MapN"), accessFlags := 24, slot := 7, constantValue := 0 }, { name := "EXPAND_FACTOR", type := .int, accessFlags := 24, slot := 8, constantValue := 0 }, { name := "$assertionsDisabled", type := .boolean, accessFlags := 4120, slot := 9, constantValue := 0 }]
  methods := #[k14m0, k14m1, k14m2]
  instanceTypes := #[]
  staticTypes := #[.long, .boolean, (.array (.object "java/lang/Object")), (.object "java/lang/Object"), (.object "java/util/ImmutableCollections$ListN"), (.object "java/util/ImmutableCollections$ListN"), (.object "java/util/ImmutableCollections$SetN"), (.object "java/util/ImmutableCollections$MapN"), .int, .boolean]
  resolved := Array.replicate 213 none
  statics := some 1 }

def pool15 : Array CpInfo := pool [(1, .methodref 2 3), (0, .class_ 4), (0, .nameAndType 5 6), (0, u "java/util/AbstractCollection"), (0, u "<init>"), (0, u "()V"), (1, .class_ 10), (1, u "java/util/ImmutableCollections"), (2, .class_ 14), (0, u "java/util/ImmutableCollections$AbstractImmutableCollection")] 41

def k15c0 : Code := { maxStack := 1, maxLocals := 1, code := jdk_47_method_1_code, exceptionTable := #[], attributes := #[] }
def k15m0 : Method := { name := "<init>", desc := "()V", sig := { parameters := [], returnType := none }, accessFlags := 0, code := some k15c0 }
/-- java/util/ImmutableCollections$AbstractImmutableCollection -/
def k15 : Class := { plain "java/util/ImmutableCollections$AbstractImmutableCollection" (some 6) with
  accessFlags := 1056
  interfaces := #[]
  cf := some (fileOf pool15 13 #[.nestHost 8] #[{ accessFlags := 0, nameIndex := 5, descriptorIndex := 6, attributes := #[] }] 1056 2 #[] #[])
  fields := #[]
  methods := #[k15m0]
  instanceTypes := #[]
  staticTypes := #[]
  resolved := Array.replicate 56 none
  statics := none }

def pool16 : Array CpInfo := pool [(1, .methodref 2 3), (0, .class_ 4), (0, .nameAndType 5 6), (0, u "java/util/ImmutableCollections$AbstractImmutableCollection"), (0, u "<init>"), (0, u "()V"), (1, .class_ 10), (1, u "java/util/ImmutableCollections"), (3, .class_ 16), (1, u "java/util/ImmutableCollections$AbstractImmutableList"), (60, .class_ 78), (0, u "java/util/List"), (45, .class_ 125), (0, u "java/util/RandomAccess")] 70

def k16c0 : Code := { maxStack := 1, maxLocals := 1, code := jdk_46_method_1_code, exceptionTable := #[], attributes := #[] }
def k16m0 : Method := { name := "<init>", desc := "()V", sig := { parameters := [], returnType := none }, accessFlags := 0, code := some k16c0 }
/-- java/util/ImmutableCollections$AbstractImmutableList -/
def k16 : Class := { plain "java/util/ImmutableCollections$AbstractImmutableList" (some 15) with
  accessFlags := 1056
  interfaces := #[8, 10]
  cf := some (fileOf pool16 14 #[.nestHost 8] #[{ accessFlags := 0, nameIndex := 5, descriptorIndex := 6, attributes := #[] }] 1056 2 #[77, 124] #[])
  fields := #[]
  methods := #[k16m0]
  instanceTypes := #[]
  staticTypes := #[]
  resolved := Array.replicate 196 none
  statics := none }

def pool17 : Array CpInfo := pool [(1, .methodref 2 3), (0, .class_ 4), (0, .nameAndType 5 6), (0, u "java/util/ImmutableCollections$AbstractImmutableList"), (0, u "<init>"), (0, u "()V"), (0, .methodref 8 9), (0, .class_ 10), (0, .nameAndType 11 12), (0, u "java/util/Objects"), (0, u "requireNonNull"), (0, u "(Ljava/lang/Object;)Ljava/lang/Object;"), (0, .fieldref 14 15), (0, .class_ 16), (0, .nameAndType 17 18), (0, u "java/util/ImmutableCollections$List12"), (0, u "e0"), (0, u "Ljava/lang/Object;"), (0, .fieldref 20 21), (0, .class_ 22), (0, .nameAndType 23 18), (0, u "java/util/ImmutableCollections"), (0, u "EMPTY"), (0, .fieldref 14 25), (0, .nameAndType 26 18), (0, u "e1"), (43, .class_ 71), (0, u "java/io/Serializable"), (4, u "(Ljava/lang/Object;)V"), (8, u "(Ljava/lang/Object;Ljava/lang/Object;)V"), (2, u "isEmpty"), (0, u "()Z")] 35

def k17c0 : Code := { maxStack := 2, maxLocals := 2, code := jdk_44_method_1_code, exceptionTable := #[], attributes := #[] }
def k17m0 : Method := { name := "<init>", desc := "(Ljava/lang/Object;)V", sig := { parameters := [(.object "java/lang/Object")], returnType := none }, accessFlags := 0, code := some k17c0 }
def k17c1 : Code := { maxStack := 2, maxLocals := 3, code := jdk_44_method_2_code, exceptionTable := #[], attributes := #[] }
def k17m1 : Method := { name := "<init>", desc := "(Ljava/lang/Object;Ljava/lang/Object;)V", sig := { parameters := [(.object "java/lang/Object"), (.object "java/lang/Object")], returnType := none }, accessFlags := 0, code := some k17c1 }
def k17c2 : Code := { maxStack := 1, maxLocals := 1, code := jdk_44_method_4_code, exceptionTable := #[], attributes := #[] }
def k17m2 : Method := { name := "isEmpty", desc := "()Z", sig := { parameters := [], returnType := some .boolean }, accessFlags := 1, code := some k17c2 }
/-- java/util/ImmutableCollections$List12 -/
def k17 : Class := { plain "java/util/ImmutableCollections$List12" (some 16) with
  accessFlags := 48
  interfaces := #[12]
  cf := some (fileOf pool17 14 #[.nestHost 20] #[{ accessFlags := 0, nameIndex := 5, descriptorIndex := 76, attributes := #[] }, { accessFlags := 0, nameIndex := 5, descriptorIndex := 85, attributes := #[] }, { accessFlags := 1, nameIndex := 88, descriptorIndex := 89, attributes := #[] }] 48 2 #[70] #[{ accessFlags := 18, nameIndex := 17, descriptorIndex := 18, attributes := #[] }, { accessFlags := 18, nameIndex := 26, descriptorIndex := 18, attributes := #[] }])
  fields := #[{ name := "e0", type := (.object "java/lang/Object"), accessFlags := 18, slot := 0, constantValue := 0 }, { name := "e1", type := (.object "java/lang/Object"), accessFlags := 18, slot := 1, constantValue := 0 }]
  methods := #[k17m0, k17m1, k17m2]
  instanceTypes := #[(.object "java/lang/Object"), (.object "java/lang/Object")]
  staticTypes := #[]
  resolved := Array.replicate 125 none
  statics := none }

def pool18 : Array CpInfo := pool [(1, .methodref 2 3), (0, .class_ 4), (0, .nameAndType 5 6), (0, u "java/util/ImmutableCollections$AbstractImmutableList"), (0, u "<init>"), (0, u "()V"), (0, .fieldref 8 9), (0, .class_ 10), (0, .nameAndType 11 12), (0, u "java/util/ImmutableCollections$ListN"), (0, u "elements"), (0, u "[Ljava/lang/Object;"), (0, .fieldref 8 14), (0, .nameAndType 15 16), (0, u "allowNulls"), (0, u "Z"), (42, .class_ 60), (0, u "java/io/Serializable"), (4, u "([Ljava/lang/Object;Z)V"), (8, u "isEmpty"), (0, u "()Z"), (38, .class_ 115), (0, u "java/util/ImmutableCollections")] 3

def k18c0 : Code := { maxStack := 2, maxLocals := 3, code := jdk_45_method_1_code, exceptionTable := #[], attributes := #[] }
def k18m0 : Method := { name := "<init>", desc := "([Ljava/lang/Object;Z)V", sig := { parameters := [(.array (.object "java/lang/Object")), .boolean], returnType := none }, accessFlags := 2, code := some k18c0 }
def k18c1 : Code := { maxStack := 1, maxLocals := 1, code := jdk_45_method_2_code, exceptionTable := #[], attributes := #[] }
def k18m1 : Method := { name := "isEmpty", desc := "()Z", sig := { parameters := [], returnType := some .boolean }, accessFlags := 1, code := some k18c1 }
/-- java/util/ImmutableCollections$ListN -/
def k18 : Class := { plain "java/util/ImmutableCollections$ListN" (some 16) with
  accessFlags := 48
  interfaces := #[12]
  cf := some (fileOf pool18 8 #[.nestHost 114] #[{ accessFlags := 2, nameIndex := 5, descriptorIndex := 65, attributes := #[] }, { accessFlags := 1, nameIndex := 74, descriptorIndex := 75, attributes := #[] }] 48 2 #[59] #[{ accessFlags := 18, nameIndex := 11, descriptorIndex := 12, attributes := #[] }, { accessFlags := 18, nameIndex := 15, descriptorIndex := 16, attributes := #[] }])
  fields := #[{ name := "elements", type := (.array (.object "java/lang/Object")), accessFlags := 18, slot := 0, constantValue := 0 }, { name := "allowNulls", type := .boolean, accessFlags := 18, slot := 1, constantValue := 0 }]
  methods := #[k18m0, k18m1]
  instanceTypes := #[(.array (.object "java/lang/Object")), .boolean]
  staticTypes := #[]
  resolved := Array.replicate 119 none
  statics := none }

def pool19 : Array CpInfo := pool [(1, .class_ 2), (0, u "java/lang/Math"), (1, .class_ 6), (1, u "java/lang/Object"), (0, u "<init>"), (0, u "()V"), (89, .class_ 100), (1, u "java/lang/Math$RandomNumberGeneratorHolder"), (71, u "negativeZeroFloatBits"), (0, u "J"), (2, u "negativeZeroDoubleBits"), (21, u "max"), (2, u "min"), (43, u "$assertionsDisabled"), (0, u "Z"), (88, u "(II)I"), (2, u "twoToTheDoubleScaleDown"), (0, u "D"), (4, u "twoToTheDoubleScaleUp"), (9, u "E"), (3, u "PI"), (2, u "TAU"), (2, u "DEGREES_TO_RADIANS"), (0, u "RADIANS_TO_DEGREES")] 94

def k19m0 : Method := { name := "<init>", desc := "()V", sig := { parameters := [], returnType := none }, accessFlags := 2, code := none }
def k19c1 : Code := { maxStack := 2, maxLocals := 2, code := jdk_29_method_65_code, exceptionTable := #[], attributes := #[] }
def k19m1 : Method := { name := "max", desc := "(II)I", sig := { parameters := [.int, .int], returnType := some .int }, accessFlags := 9, code := some k19c1 }
def k19c2 : Code := { maxStack := 2, maxLocals := 2, code := jdk_29_method_69_code, exceptionTable := #[], attributes := #[] }
def k19m2 : Method := { name := "min", desc := "(II)I", sig := { parameters := [.int, .int], returnType := some .int }, accessFlags := 9, code := some k19c2 }
/-- java/lang/Math -/
def k19 : Class := { plain "java/lang/Math" (some 0) with
  accessFlags := 49
  interfaces := #[]
  cf := some (fileOf pool19 1 #[.nestMembers #[98]] #[{ accessFlags := 2, nameIndex := 7, descriptorIndex := 8, attributes := #[] }, { accessFlags := 9, nameIndex := 198, descriptorIndex := 335, attributes := #[] }, { accessFlags := 9, nameIndex := 201, descriptorIndex := 335, attributes := #[] }] 49 4 #[] #[{ accessFlags := 25, nameIndex := 354, descriptorIndex := 339, attributes := #[] }, { accessFlags := 25, nameIndex := 358, descriptorIndex := 339, attributes := #[] }, { accessFlags := 25, nameIndex := 361, descriptorIndex := 339, attributes := #[] }, { accessFlags := 26, nameIndex := 364, descriptorIndex := 339, attributes := #[] }, { accessFlags := 26, nameIndex := 365, descriptorIndex := 339, attributes := #[] }, { accessFlags := 26, nameIndex := 172, descriptorIndex := 173, attributes := #[] }, { accessFlags := 26, nameIndex := 176, descriptorIndex := 173, attributes := #[] }, { accessFlags := 8, nameIndex := 344, descriptorIndex := 339, attributes := #[] }, { accessFlags := 8, nameIndex := 338, descriptorIndex := 339, attributes := #[] }, { accessFlags := 4120, nameIndex := 245, descriptorIndex := 246, attributes := #[] }])
  fields := #[{ name := "E", type := .double, accessFlags := 25, slot := 0, constantValue := 0 }, { name := "PI", type := .double, accessFlags := 25, slot := 1, constantValue := 0 }, { name := "TAU", type := .double, accessFlags := 25, slot := 2, constantValue := 0 }, { name := "DEGREES_TO_RADIANS", type := .double, accessFlags := 26, slot := 3, constantValue := 0 }, { name := "RADIANS_TO_DEGREES", type := .double, accessFlags := 26, slot := 4, constantValue := 0 }, { name := "negativeZeroFloatBits", type := .long, accessFlags := 26, slot := 5, constantValue := 0 }, { name := "negativeZeroDoubleBits", type := .long, accessFlags := 26, slot := 6, constantValue := 0 }, { name := "twoToTheDoubleScaleUp", type := .double, accessFlags := 8, slot := 7, constantValue := 0 }, { name := "twoToTheDoubleScaleDown", type := .double, accessFlags := 8, slot := 8, constantValue := 0 }, { name := "$assertionsDisabled", type := .boolean, accessFlags := 4120, slot := 9, constantValue := 0 }]
  methods := #[k19m0, k19m1, k19m2]
  instanceTypes := #[]
  staticTypes := #[.double, .double, .double, .double, .double, .long, .long, .double, .double, .boolean]
  resolved := Array.replicate 460 none
  statics := none }

def pool20 : Array CpInfo := pool [(1, .class_ 2), (0, u "com/example/witnesseth/witnesseth/agreement/Differentials"), (0, .class_ 4), (0, u "java/lang/Object")] 8

/-- com/example/witnesseth/witnesseth/agreement/Differentials -/
def k20 : Class := { plain "com/example/witnesseth/witnesseth/agreement/Differentials" (some 0) with
  accessFlags := 1537
  interfaces := #[]
  cf := some (fileOf pool20 1 #[] #[] 1537 3 #[] #[])
  fields := #[]
  methods := #[]
  instanceTypes := #[]
  staticTypes := #[]
  resolved := Array.replicate 13 none
  statics := none }

def pool21 : Array CpInfo := pool [(1, .methodref 2 3), (0, .class_ 4), (0, .nameAndType 5 6), (0, u "java/lang/Object"), (0, u "<init>"), (0, u "()V"), (0, .interfaceMethodref 8 9), (0, .class_ 10), (0, .nameAndType 11 12), (0, u "java/util/List"), (0, u "copyOf"), (0, u "(Ljava/util/Collection;)Ljava/util/List;"), (0, .fieldref 14 15), (0, .class_ 16), (0, .nameAndType 17 18), (0, u "com/example/witnesseth/witnesseth/agreement/ClockDifferentials"), (0, u "hours"), (0, u "Ljava/util/List;"), (0, .fieldref 14 20), (0, .nameAndType 21 18), (0, u "differentials"), (0, .fieldref 14 23), (0, .nameAndType 24 18), (0, u "shifts"), (0, .methodref 14 26), (0, .nameAndType 5 27), (0, u "(Ljava/util/List;Ljava/util/List;Ljava/util/List;)V"), (9, u "()Z"), (14, .interfaceMethodref 8 53), (0, .nameAndType 54 37), (0, u "isEmpty"), (43, u "NONE"), (0, u "Lcom/example/witnesseth/witnesseth/agreement/ClockDifferentials;"), (0, .class_ 101), (0, u "com/example/witnesseth/witnesseth/agreement/Differentials"), (7, u "withShifts"), (0, u "(Ljava/util/List;)Lcom/example/witnesseth/witnesseth/agreement/ClockDifferentials;")] 11

def k21c0 : Code := { maxStack := 2, maxLocals := 4, code := prog_3_method_1_code, exceptionTable := #[], attributes := #[] }
def k21m0 : Method := { name := "<init>", desc := "(Ljava/util/List;Ljava/util/List;Ljava/util/List;)V", sig := { parameters := [(.object "java/util/List"), (.object "java/util/List"), (.object "java/util/List")], returnType := none }, accessFlags := 0, code := some k21c0 }
def k21c1 : Code := { maxStack := 5, maxLocals := 2, code := prog_3_method_2_code, exceptionTable := #[], attributes := #[] }
def k21m1 : Method := { name := "withShifts", desc := "(Ljava/util/List;)Lcom/example/witnesseth/witnesseth/agreement/ClockDifferentials;", sig := { parameters := [(.object "java/util/List")], returnType := some (.object "com/example/witnesseth/witnesseth/agreement/ClockDifferentials") }, accessFlags := 0, code := some k21c1 }
def k21c2 : Code := { maxStack := 1, maxLocals := 1, code := prog_3_method_4_code, exceptionTable := #[], attributes := #[] }
def k21m2 : Method := { name := "isEmpty", desc := "()Z", sig := { parameters := [], returnType := some .boolean }, accessFlags := 0, code := some k21c2 }
/-- com/example/witnesseth/witnesseth/agreement/ClockDifferentials -/
def k21 : Class := { plain "com/example/witnesseth/witnesseth/agreement/ClockDifferentials" (some 0) with
  accessFlags := 48
  interfaces := #[20]
  cf := some (fileOf pool21 14 #[] #[{ accessFlags := 0, nameIndex := 5, descriptorIndex := 27, attributes := #[] }, { accessFlags := 0, nameIndex := 109, descriptorIndex := 110, attributes := #[] }, { accessFlags := 0, nameIndex := 54, descriptorIndex := 37, attributes := #[] }] 48 2 #[100] #[{ accessFlags := 24, nameIndex := 98, descriptorIndex := 99, attributes := #[] }, { accessFlags := 18, nameIndex := 17, descriptorIndex := 18, attributes := #[] }, { accessFlags := 18, nameIndex := 21, descriptorIndex := 18, attributes := #[] }, { accessFlags := 18, nameIndex := 24, descriptorIndex := 18, attributes := #[] }])
  fields := #[{ name := "NONE", type := (.object "com/example/witnesseth/witnesseth/agreement/ClockDifferentials"), accessFlags := 24, slot := 0, constantValue := 0 }, { name := "hours", type := (.object "java/util/List"), accessFlags := 18, slot := 0, constantValue := 0 }, { name := "differentials", type := (.object "java/util/List"), accessFlags := 18, slot := 1, constantValue := 0 }, { name := "shifts", type := (.object "java/util/List"), accessFlags := 18, slot := 2, constantValue := 0 }]
  methods := #[k21m0, k21m1, k21m2]
  instanceTypes := #[(.object "java/util/List"), (.object "java/util/List"), (.object "java/util/List")]
  staticTypes := #[(.object "com/example/witnesseth/witnesseth/agreement/ClockDifferentials")]
  resolved := Array.replicate 122 none
  statics := none }

def pool22 : Array CpInfo := pool [(2, .class_ 4), (1, u "java/lang/Object"), (0, u "<init>"), (0, u "()V"), (7, .class_ 16), (1, u "java/util/Arrays"), (57, .class_ 76), (1, u "java/util/Arrays$NaturalOrder"), (9, .methodref 2 87), (0, .nameAndType 88 89), (0, u "getClass"), (0, u "()Ljava/lang/Class;"), (20, .class_ 111), (0, u "[Ljava/lang/Object;"), (1, .class_ 115), (1, u "java/util/Arrays$LegacyMergeSort"), (1, u "Z"), (32, .methodref 151 152), (0, .class_ 153), (0, .nameAndType 154 155), (0, u "java/lang/System"), (0, u "arraycopy"), (0, u "(Ljava/lang/Object;ILjava/lang/Object;II)V"), (144, .methodref 14 301), (0, .nameAndType 302 303), (0, u "copyOf"), (0, u "([Ljava/lang/Object;ILjava/lang/Class;)[Ljava/lang/Object;"), (0, .methodref 305 306), (0, .class_ 307), (0, .nameAndType 308 309), (0, u "java/lang/Math"), (0, u "min"), (0, u "(II)I"), (65, .class_ 376), (0, u "java/util/Arrays$ArrayList"), (68, u "$assertionsDisabled"), (269, u "MIN_ARRAY_SORT_GRAN"), (0, u "I"), (2, u "INSERTIONSORT_THRESHOLD"), (140, u "([Ljava/lang/Object;I)[Ljava/lang/Object;"), (114, .class_ 976), (0, u "java/util/Arrays$ArrayItr")] 52

def k22m0 : Method := { name := "<init>", desc := "()V", sig := { parameters := [], returnType := none }, accessFlags := 2, code := none }
def k22c1 : Code := { maxStack := 3, maxLocals := 2, code := jdk_65_method_119_code, exceptionTable := #[], attributes := #[] }
def k22m1 : Method := { name := "copyOf", desc := "([Ljava/lang/Object;I)[Ljava/lang/Object;", sig := { parameters := [(.array (.object "java/lang/Object")), .int], returnType := some (.array (.object "java/lang/Object")) }, accessFlags := 9, code := some k22c1 }
def k22c2 : Code := { maxStack := 6, maxLocals := 4, code := jdk_65_method_120_code, exceptionTable := #[], attributes := #[] }
def k22m2 : Method := { name := "copyOf", desc := "([Ljava/lang/Object;ILjava/lang/Class;)[Ljava/lang/Object;", sig := { parameters := [(.array (.object "java/lang/Object")), .int, (.object "java/lang/Class")], returnType := some (.array (.object "java/lang/Object")) }, accessFlags := 9, code := some k22c2 }
/-- java/util/Arrays -/
def k22 : Class := { plain "java/util/Arrays" (some 0) with
  accessFlags := 49
  interfaces := #[]
  cf := some (fileOf pool22 14 #[.nestMembers #[975, 375, 113, 74]] #[{ accessFlags := 2, nameIndex := 5, descriptorIndex := 6, attributes := #[] }, { accessFlags := 9, nameIndex := 302, descriptorIndex := 860, attributes := #[] }, { accessFlags := 9, nameIndex := 302, descriptorIndex := 303, attributes := #[] }] 49 2 #[] #[{ accessFlags := 26, nameIndex := 715, descriptorIndex := 716, attributes := #[] }, { accessFlags := 26, nameIndex := 719, descriptorIndex := 716, attributes := #[] }, { accessFlags := 4120, nameIndex := 445, descriptorIndex := 117, attributes := #[] }])
  fields := #[{ name := "MIN_ARRAY_SORT_GRAN", type := .int, accessFlags := 26, slot := 0, constantValue := 0 }, { name := "INSERTIONSORT_THRESHOLD", type := .int, accessFlags := 26, slot := 1, constantValue := 0 }, { name := "$assertionsDisabled", type := .boolean, accessFlags := 4120, slot := 2, constantValue := 0 }]
  methods := #[k22m0, k22m1, k22m2]
  instanceTypes := #[]
  staticTypes := #[.int, .int, .boolean]
  resolved := Array.replicate 1029 none
  statics := none }

def pool23 : Array CpInfo := pool [(2, .class_ 4), (1, u "java/lang/Object"), (0, u "<init>"), (0, u "()V"), (1, .class_ 10), (1, u "java/lang/System"), (0, u "allowSecurityManager"), (0, u "I"), (16, u "cons"), (0, u "Ljava/io/Console;"), (77, .class_ 110), (1, u "java/lang/System$CallersHolder"), (43, u "initialErrStream"), (0, u "Ljava/io/PrintStream;"), (19, u "security"), (0, u "Ljava/lang/SecurityManager;"), (31, .class_ 209), (0, u "java/lang/System$1"), (7, u "props"), (0, u "Ljava/util/Properties;"), (2, u "lineSeparator"), (0, u "Ljava/lang/String;"), (96, .class_ 321), (1, u "java/lang/System$LoggerFinder"), (5, .class_ 328), (0, u "java/lang/System$Logger"), (67, u "err"), (2, u "out"), (91, u "notSupportedJnuEncoding"), (15, u "in"), (17, u "initialIn"), (0, u "Ljava/io/InputStream;"), (35, u "bootLayer"), (0, u "Ljava/lang/ModuleLayer;"), (99, .class_ 664), (0, u "java/lang/System$2"), (9, u "NEVER"), (2, u "MAYBE"), (49, u "arraycopy"), (0, u "(Ljava/lang/Object;ILjava/lang/Object;II)V"), (72, .class_ 802), (0, u "java/lang/System$Logger$Level")] 31

def k23m0 : Method := { name := "<init>", desc := "()V", sig := { parameters := [], returnType := none }, accessFlags := 2, code := none }
def k23m1 : Method := { name := "arraycopy", desc := "(Ljava/lang/Object;ILjava/lang/Object;II)V", sig := { parameters := [(.object "java/lang/Object"), .int, (.object "java/lang/Object"), .int, .int], returnType := none }, accessFlags := 265, code := none }
/-- java/lang/System -/
def k23 : Class := { plain "java/lang/System" (some 0) with
  accessFlags := 49
  interfaces := #[]
  cf := some (fileOf pool23 8 #[.nestMembers #[319, 327, 801, 108, 663, 208]] #[{ accessFlags := 2, nameIndex := 5, descriptorIndex := 6, attributes := #[] }, { accessFlags := 265, nameIndex := 727, descriptorIndex := 728, attributes := #[] }] 49 2 #[] #[{ accessFlags := 25, nameIndex := 507, descriptorIndex := 526, attributes := #[] }, { accessFlags := 25, nameIndex := 399, descriptorIndex := 155, attributes := #[] }, { accessFlags := 25, nameIndex := 396, descriptorIndex := 155, attributes := #[] }, { accessFlags := 10, nameIndex := 525, descriptorIndex := 526, attributes := #[] }, { accessFlags := 26, nameIndex := 674, descriptorIndex := 12, attributes := #[] }, { accessFlags := 26, nameIndex := 677, descriptorIndex := 12, attributes := #[] }, { accessFlags := 10, nameIndex := 11, descriptorIndex := 12, attributes := #[] }, { accessFlags := 74, nameIndex := 175, descriptorIndex := 176, attributes := #[] }, { accessFlags := 10, nameIndex := 491, descriptorIndex := 222, attributes := #[] }, { accessFlags := 74, nameIndex := 29, descriptorIndex := 30, attributes := #[] }, { accessFlags := 74, nameIndex := 154, descriptorIndex := 155, attributes := #[] }, { accessFlags := 10, nameIndex := 217, descriptorIndex := 218, attributes := #[] }, { accessFlags := 10, nameIndex := 221, descriptorIndex := 222, attributes := #[] }, { accessFlags := 8, nameIndex := 562, descriptorIndex := 563, attributes := #[] }])
  fields := #[{ name := "in", type := (.object "java/io/InputStream"), accessFlags := 25, slot := 0, constantValue := 0 }, { name := "out", type := (.object "java/io/PrintStream"), accessFlags := 25, slot := 1, constantValue := 0 }, { name := "err", type := (.object "java/io/PrintStream"), accessFlags := 25, slot := 2, constantValue := 0 }, { name := "initialIn", type := (.object "java/io/InputStream"), accessFlags := 10, slot := 3, constantValue := 0 }, { name := "NEVER", type := .int, accessFlags := 26, slot := 4, constantValue := 0 }, { name := "MAYBE", type := .int, accessFlags := 26, slot := 5, constantValue := 0 }, { name := "allowSecurityManager", type := .int, accessFlags := 10, slot := 6, constantValue := 0 }, { name := "security", type := (.object "java/lang/SecurityManager"), accessFlags := 74, slot := 7, constantValue := 0 }, { name := "notSupportedJnuEncoding", type := (.object "java/lang/String"), accessFlags := 10, slot := 8, constantValue := 0 }, { name := "cons", type := (.object "java/io/Console"), accessFlags := 74, slot := 9, constantValue := 0 }, { name := "initialErrStream", type := (.object "java/io/PrintStream"), accessFlags := 74, slot := 10, constantValue := 0 }, { name := "props", type := (.object "java/util/Properties"), accessFlags := 10, slot := 11, constantValue := 0 }, { name := "lineSeparator", type := (.object "java/lang/String"), accessFlags := 10, slot := 12, constantValue := 0 }, { name := "bootLayer", type := (.object "java/lang/ModuleLayer"), accessFlags := 8, slot := 13, constantValue := 0 }]
  methods := #[k23m0, k23m1]
  instanceTypes := #[]
  staticTypes := #[(.object "java/io/InputStream"), (.object "java/io/PrintStream"), (.object "java/io/PrintStream"), (.object "java/io/InputStream"), .int, .int, .int, (.object "java/lang/SecurityManager"), (.object "java/lang/String"), (.object "java/io/Console"), (.object "java/io/PrintStream"), (.object "java/util/Properties"), (.object "java/lang/String"), (.object "java/lang/ModuleLayer")]
  resolved := Array.replicate 834 none
  statics := none }

def pool24 : Array CpInfo := pool [(2, .class_ 4), (1, u "java/lang/Object"), (0, u "<init>"), (0, u "()V"), (35, .class_ 44), (1, u "java/util/Objects"), (0, u "requireNonNull"), (0, u "(Ljava/lang/Object;)Ljava/lang/Object;")] 137

def k24m0 : Method := { name := "<init>", desc := "()V", sig := { parameters := [], returnType := none }, accessFlags := 2, code := none }
def k24c1 : Code := { maxStack := 2, maxLocals := 1, code := jdk_31_method_10_code, exceptionTable := #[], attributes := #[] }
def k24m1 : Method := { name := "requireNonNull", desc := "(Ljava/lang/Object;)Ljava/lang/Object;", sig := { parameters := [(.object "java/lang/Object")], returnType := some (.object "java/lang/Object") }, accessFlags := 9, code := some k24c1 }
/-- java/util/Objects -/
def k24 : Class := { plain "java/util/Objects" (some 0) with
  accessFlags := 49
  interfaces := #[]
  cf := some (fileOf pool24 42 #[] #[{ accessFlags := 2, nameIndex := 5, descriptorIndex := 6, attributes := #[] }, { accessFlags := 9, nameIndex := 45, descriptorIndex := 46, attributes := #[] }] 49 2 #[] #[])
  fields := #[]
  methods := #[k24m0, k24m1]
  instanceTypes := #[]
  staticTypes := #[]
  resolved := Array.replicate 184 none
  statics := none }

def pool25 : Array CpInfo := pool [(1, u "java/lang/Class"), (0, .class_ 1), (0, u "java/lang/Object"), (0, .class_ 3)] 0

/-- java/lang/Class -/
def k25 : Class := { plain "java/lang/Class" (some 0) with
  accessFlags := 33
  interfaces := #[]
  cf := some (fileOf pool25 2 #[] #[] 33 4 #[] #[])
  fields := #[]
  methods := #[]
  instanceTypes := #[]
  staticTypes := #[]
  resolved := Array.replicate 5 none
  statics := none }

/-- the primitive byte -/
def k26 : Class := { plain "byte" none with kind := .primitive 'B', accessFlags := 0x411 }
/-- [B -/
def k27 : Class := { plain "[B" (some 0) with kind := .array 26 .byte, interfaces := #[11, 12], accessFlags := 1041 }

/-- the primitive int -/
def k28 : Class := { plain "int" none with kind := .primitive 'I', accessFlags := 0x411 }
/-- [I -/
def k29 : Class := { plain "[I" (some 0) with kind := .array 28 .int, interfaces := #[11, 12], accessFlags := 1041 }

/-- [Ljava/lang/Object; -/
def k30 : Class := { plain "[Ljava/lang/Object;" (some 0) with kind := .array 0 (.object "java/lang/Object"), interfaces := #[11, 12], accessFlags := 1041, mirror := some 2 }

def heap : Heap := #[{ cls := 13, slots := #[.long 0, .int 0, .ref 5, .ref 6], vm := .statics 13 },
  { cls := 14, slots := #[.long 0, .int 0, .null, .ref 7, .ref 4, .null, .null, .null, .int 0, .int 1], vm := .statics 14 },
  { cls := 25, slots := #[], vm := .mirror 30 },
  { cls := 30, slots := #[], vm := .none },
  { cls := 18, slots := #[.ref 3, .int 0], vm := .none },
  { cls := 30, slots := #[], vm := .none },
  { cls := 30, slots := #[], vm := .none },
  { cls := 0, slots := #[], vm := .none }]
def classes : Array Class := #[k0, k1, k2, k3, k4, k5, k6, k7, k8, k9, k10, k11, k12, k13, k14, k15, k16, k17, k18, k19, k20, k21, k22, k23, k24, k25, k26, k27, k28, k29, k30]
def interned : List (Array UInt16 × Addr) := []
def slotsUsed : Nat := 16
def theMethod : MethodId := ⟨1, 1⟩
def args0 : Array Value := #[.int 1, .int 2, .int 3, .int 0]
def aboutOver (below : List Frame) : State where
  vm := { classes := classes, interned := interned.toArray }
  heap := heap
  slotsUsed := slotsUsed
  threads := #[{ frames := .invoking theMethod args0 :: below }]
def below0 : List Frame := [.native { method := ⟨0, 0⟩, args := #[] }]
def about1 : State := aboutOver below0
def p0 : Program := .bare "" "" ""
def e0 : Env := launch0.env 0 0 0
theorem w_frames : about1.frames = Frame.invoking theMethod args0 :: below0 := rfl
set_option maxRecDepth 65536 in
theorem w_args : argsFit about1.vm theMethod args0 = true := by decide +kernel
set_option maxRecDepth 65536 in
theorem w_heap : heapFits about1 = true := by decide +kernel
set_option maxRecDepth 65536 in
theorem w_runnable : about1.curStatus? = some .runnable := by decide +kernel
set_option maxRecDepth 65536 in
theorem w_alone : about1.alone = true := by decide +kernel
set_option maxRecDepth 65536 in
theorem w_named : about1.methodNamed? x = some theMethod := by decide +kernel
set_option maxRecDepth 65536 in
theorem w_hears : about1.hears theMethod below0 = true := by decide +kernel
set_option maxRecDepth 65536 in
theorem w_ripe : about1.ripe theMethod args0 below0 = true := by decide +kernel
theorem w_running : about1.status = .running := rfl
set_option maxRecDepth 65536 in
theorem w_room : about1.hasRoom e0.platform room_1 = true :=
  launch0.hasRoom_least _ room_1 (by decide +kernel) (by decide +kernel) (by decide +kernel) (by decide +kernel) (by decide +kernel) (by decide +kernel)
theorem allAtoms_all (ts : List Jvm.Cond) (a : Array Jvm.Value) (st : Jvm.State) : (allAtoms ts).before a st = ts.all (fun c => c.before a st) := by
  induction ts with
  | nil => rfl
  | cons c t ih =>
    show (Jvm.Cond.and c (allAtoms t)).before a st = _
    rw [Jvm.Cond.before_and, ih, List.all_cons]
def words1 : List Jvm.Cond := Jvm.Cond.code x code maxLocals ret :: tables_1
/-- a 'code' word, met by the world's own term for the bytes: nothing is compared byte by byte -/
theorem code_word {y : MethodName} {bytes : ByteArray} {mx : Nat} {rt : Option FieldType} {a : Array Value} {s : State} {m : MethodId} {meth : Method} {c : Code} (h1 : s.methodNamed? y = some m) (h2 : s.vm.method? m = some meth) (h3 : meth.code = some c) (h4 : c.code = bytes)
    (h5 : (c.maxLocals == mx && c.exceptionTable.isEmpty && decide (c.maxStack ≤ mostOperands) && decide (meth.sig.returnType = rt) && !meth.locks && decide (parseMethodDescriptor y.desc = some meth.sig)) = true) : (Jvm.Cond.code y bytes mx rt).before a s = true := by
  simp only [Bool.and_eq_true, beq_iff_eq, Bool.not_eq_true', decide_eq_true_eq] at h5
  obtain ⟨⟨⟨⟨⟨g1, g2⟩, g3⟩, g4⟩, g5⟩, g6⟩ := h5
  simp [Cond.before, Cond.holds, Cond.value, h1, h2, h3, h4, g1, g2, g3, g4, g5, g6]
def isCode : Jvm.Cond → Bool
  | .code _ _ _ _ => true
  | _ => false
theorem all_split {L : List Jvm.Cond} {P : Jvm.Cond → Bool} (h1 : L.all (fun c => isCode c || P c) = true) (h2 : ∀ c ∈ L.filter isCode, P c = true) : L.all P = true := by
  refine List.all_eq_true.mpr fun c hc => ?_
  have h := List.all_eq_true.mp h1 c hc
  rcases Bool.eq_false_or_eq_true (isCode c) with hi | hi
  · exact h2 c (List.mem_filter.mpr ⟨hc, hi⟩)
  · simpa [hi] using h
set_option maxRecDepth 65536 in
theorem w_c0 : (Jvm.Cond.code x code maxLocals ret).before args0 about1 = true := code_word (m := ⟨1, 1⟩) (meth := k1m1) (c := k1c1) (by decide +kernel) rfl rfl rfl (by decide +kernel)
set_option maxRecDepth 65536 in
theorem w_c1 : (Jvm.Cond.code ({ cls := "com/example/witnesseth/witnesseth/agreement/Differential", name := "<init>", desc := "(Ljava/lang/String;Ljava/math/BigDecimal;)V" } : Jvm.MethodName) prog_13_method_1_code (3 : Nat) (Option.none : Option Jvm.ClassFile.FieldType)).before args0 about1 = true := code_word (m := ⟨2, 0⟩) (meth := k2m0) (c := k2c0) (by decide +kernel) rfl rfl rfl (by decide +kernel)
set_option maxRecDepth 65536 in
theorem w_c2 : (Jvm.Cond.code ({ cls := "java/lang/Object", name := "<init>", desc := "()V" } : Jvm.MethodName) object_method_1_code (1 : Nat) (Option.none : Option Jvm.ClassFile.FieldType)).before args0 about1 = true := code_word (m := ⟨0, 0⟩) (meth := k0m0) (c := k0c0) (by decide +kernel) rfl rfl rfl (by decide +kernel)
set_option maxRecDepth 65536 in
theorem w_c3 : (Jvm.Cond.code ({ cls := "java/util/ArrayList", name := "<init>", desc := "()V" } : Jvm.MethodName) jdk_38_method_2_code (1 : Nat) (Option.none : Option Jvm.ClassFile.FieldType)).before args0 about1 = true := code_word (m := ⟨13, 0⟩) (meth := k13m0) (c := k13c0) (by decide +kernel) rfl rfl rfl (by decide +kernel)
set_option maxRecDepth 65536 in
theorem w_c4 : (Jvm.Cond.code ({ cls := "java/util/AbstractList", name := "<init>", desc := "()V" } : Jvm.MethodName) jdk_39_method_1_code (1 : Nat) (Option.none : Option Jvm.ClassFile.FieldType)).before args0 about1 = true := code_word (m := ⟨9, 0⟩) (meth := k9m0) (c := k9c0) (by decide +kernel) rfl rfl rfl (by decide +kernel)
set_option maxRecDepth 65536 in
theorem w_c5 : (Jvm.Cond.code ({ cls := "java/util/AbstractCollection", name := "<init>", desc := "()V" } : Jvm.MethodName) jdk_22_method_1_code (1 : Nat) (Option.none : Option Jvm.ClassFile.FieldType)).before args0 about1 = true := code_word (m := ⟨6, 0⟩) (meth := k6m0) (c := k6c0) (by decide +kernel) rfl rfl rfl (by decide +kernel)
set_option maxRecDepth 65536 in
theorem w_c6 : (Jvm.Cond.code ({ cls := "com/example/witnesseth/witnesseth/agreement/ShiftStart", name := "<init>", desc := "(Ljava/util/List;Ljava/time/LocalTime;Lcom/example/witnesseth/witnesseth/agreement/Differential;Ljava/time/ZoneId;)V" } : Jvm.MethodName) prog_32_method_1_code (5 : Nat) (Option.none : Option Jvm.ClassFile.FieldType)).before args0 about1 = true := code_word (m := ⟨3, 0⟩) (meth := k3m0) (c := k3c0) (by decide +kernel) rfl rfl rfl (by decide +kernel)
set_option maxRecDepth 65536 in
theorem w_c7 : (Jvm.Cond.code ({ cls := "java/util/List", name := "copyOf", desc := "(Ljava/util/Collection;)Ljava/util/List;" } : Jvm.MethodName) jdk_40_method_48_code (1 : Nat) (Option.some (Jvm.ClassFile.FieldType.object "java/util/List"))).before args0 about1 = true := code_word (m := ⟨8, 3⟩) (meth := k8m3) (c := k8c3) (by decide +kernel) rfl rfl rfl (by decide +kernel)
set_option maxRecDepth 65536 in
theorem w_c8 : (Jvm.Cond.code ({ cls := "java/util/ImmutableCollections", name := "listCopy", desc := "(Ljava/util/Collection;)Ljava/util/List;" } : Jvm.MethodName) jdk_56_method_3_code (2 : Nat) (Option.some (Jvm.ClassFile.FieldType.object "java/util/List"))).before args0 about1 = true := code_word (m := ⟨14, 1⟩) (meth := k14m1) (c := k14c1) (by decide +kernel) rfl rfl rfl (by decide +kernel)
set_option maxRecDepth 65536 in
theorem w_c9 : (Jvm.Cond.code ({ cls := "java/util/ArrayList", name := "isEmpty", desc := "()Z" } : Jvm.MethodName) jdk_38_method_9_code (1 : Nat) (Option.some Jvm.ClassFile.FieldType.boolean)).before args0 about1 = true := code_word (m := ⟨13, 3⟩) (meth := k13m3) (c := k13c3) (by decide +kernel) rfl rfl rfl (by decide +kernel)
set_option maxRecDepth 65536 in
theorem w_c10 : (Jvm.Cond.code ({ cls := "java/util/List", name := "of", desc := "()Ljava/util/List;" } : Jvm.MethodName) jdk_40_method_36_code (0 : Nat) (Option.some (Jvm.ClassFile.FieldType.object "java/util/List"))).before args0 about1 = true := code_word (m := ⟨8, 1⟩) (meth := k8m1) (c := k8c1) (by decide +kernel) rfl rfl rfl (by decide +kernel)
set_option maxRecDepth 65536 in
theorem w_c11 : (Jvm.Cond.code ({ cls := "java/util/ArrayList", name := "add", desc := "(Ljava/lang/Object;)Z" } : Jvm.MethodName) jdk_38_method_25_code (2 : Nat) (Option.some Jvm.ClassFile.FieldType.boolean)).before args0 about1 = true := code_word (m := ⟨13, 6⟩) (meth := k13m6) (c := k13c6) (by decide +kernel) rfl rfl rfl (by decide +kernel)
set_option maxRecDepth 65536 in
theorem w_c12 : (Jvm.Cond.code ({ cls := "java/util/ArrayList", name := "add", desc := "(Ljava/lang/Object;[Ljava/lang/Object;I)V" } : Jvm.MethodName) jdk_38_method_24_code (4 : Nat) (Option.none : Option Jvm.ClassFile.FieldType)).before args0 about1 = true := code_word (m := ⟨13, 5⟩) (meth := k13m5) (c := k13c5) (by decide +kernel) rfl rfl rfl (by decide +kernel)
set_option maxRecDepth 65536 in
theorem w_c13 : (Jvm.Cond.code ({ cls := "java/util/ArrayList", name := "grow", desc := "()[Ljava/lang/Object;" } : Jvm.MethodName) jdk_38_method_7_code (1 : Nat) (Option.some (Jvm.ClassFile.FieldType.array (Jvm.ClassFile.FieldType.object "java/lang/Object")))).before args0 about1 = true := code_word (m := ⟨13, 2⟩) (meth := k13m2) (c := k13c2) (by decide +kernel) rfl rfl rfl (by decide +kernel)
set_option maxRecDepth 65536 in
theorem w_c14 : (Jvm.Cond.code ({ cls := "java/util/ArrayList", name := "grow", desc := "(I)[Ljava/lang/Object;" } : Jvm.MethodName) jdk_38_method_6_code (4 : Nat) (Option.some (Jvm.ClassFile.FieldType.array (Jvm.ClassFile.FieldType.object "java/lang/Object")))).before args0 about1 = true := code_word (m := ⟨13, 1⟩) (meth := k13m1) (c := k13c1) (by decide +kernel) rfl rfl rfl (by decide +kernel)
set_option maxRecDepth 65536 in
theorem w_c15 : (Jvm.Cond.code ({ cls := "java/lang/Math", name := "max", desc := "(II)I" } : Jvm.MethodName) jdk_29_method_65_code (2 : Nat) (Option.some Jvm.ClassFile.FieldType.int)).before args0 about1 = true := code_word (m := ⟨19, 1⟩) (meth := k19m1) (c := k19c1) (by decide +kernel) rfl rfl rfl (by decide +kernel)
set_option maxRecDepth 65536 in
theorem w_c16 : (Jvm.Cond.code ({ cls := "com/example/witnesseth/witnesseth/agreement/ClockDifferentials", name := "<init>", desc := "(Ljava/util/List;Ljava/util/List;Ljava/util/List;)V" } : Jvm.MethodName) prog_3_method_1_code (4 : Nat) (Option.none : Option Jvm.ClassFile.FieldType)).before args0 about1 = true := code_word (m := ⟨21, 0⟩) (meth := k21m0) (c := k21c0) (by decide +kernel) rfl rfl rfl (by decide +kernel)
set_option maxRecDepth 65536 in
theorem w_c17 : (Jvm.Cond.code ({ cls := "java/util/ArrayList", name := "toArray", desc := "()[Ljava/lang/Object;" } : Jvm.MethodName) jdk_38_method_16_code (1 : Nat) (Option.some (Jvm.ClassFile.FieldType.array (Jvm.ClassFile.FieldType.object "java/lang/Object")))).before args0 about1 = true := code_word (m := ⟨13, 4⟩) (meth := k13m4) (c := k13c4) (by decide +kernel) rfl rfl rfl (by decide +kernel)
set_option maxRecDepth 65536 in
theorem w_c18 : (Jvm.Cond.code ({ cls := "java/util/Arrays", name := "copyOf", desc := "([Ljava/lang/Object;I)[Ljava/lang/Object;" } : Jvm.MethodName) jdk_65_method_119_code (2 : Nat) (Option.some (Jvm.ClassFile.FieldType.array (Jvm.ClassFile.FieldType.object "java/lang/Object")))).before args0 about1 = true := code_word (m := ⟨22, 1⟩) (meth := k22m1) (c := k22c1) (by decide +kernel) rfl rfl rfl (by decide +kernel)
set_option maxRecDepth 65536 in
theorem w_c19 : (Jvm.Cond.code ({ cls := "java/util/Arrays", name := "copyOf", desc := "([Ljava/lang/Object;ILjava/lang/Class;)[Ljava/lang/Object;" } : Jvm.MethodName) jdk_65_method_120_code (4 : Nat) (Option.some (Jvm.ClassFile.FieldType.array (Jvm.ClassFile.FieldType.object "java/lang/Object")))).before args0 about1 = true := code_word (m := ⟨22, 2⟩) (meth := k22m2) (c := k22c2) (by decide +kernel) rfl rfl rfl (by decide +kernel)
set_option maxRecDepth 65536 in
theorem w_c20 : (Jvm.Cond.code ({ cls := "java/lang/Math", name := "min", desc := "(II)I" } : Jvm.MethodName) jdk_29_method_69_code (2 : Nat) (Option.some Jvm.ClassFile.FieldType.int)).before args0 about1 = true := code_word (m := ⟨19, 2⟩) (meth := k19m2) (c := k19c2) (by decide +kernel) rfl rfl rfl (by decide +kernel)
set_option maxRecDepth 65536 in
theorem w_c21 : (Jvm.Cond.code ({ cls := "java/util/List", name := "of", desc := "([Ljava/lang/Object;)Ljava/util/List;" } : Jvm.MethodName) jdk_40_method_47_code (2 : Nat) (Option.some (Jvm.ClassFile.FieldType.object "java/util/List"))).before args0 about1 = true := code_word (m := ⟨8, 2⟩) (meth := k8m2) (c := k8c2) (by decide +kernel) rfl rfl rfl (by decide +kernel)
set_option maxRecDepth 65536 in
theorem w_c22 : (Jvm.Cond.code ({ cls := "java/util/ImmutableCollections", name := "listFromArray", desc := "([Ljava/lang/Object;)Ljava/util/List;" } : Jvm.MethodName) jdk_56_method_4_code (3 : Nat) (Option.some (Jvm.ClassFile.FieldType.object "java/util/List"))).before args0 about1 = true := code_word (m := ⟨14, 2⟩) (meth := k14m2) (c := k14c2) (by decide +kernel) rfl rfl rfl (by decide +kernel)
set_option maxRecDepth 65536 in
theorem w_c23 : (Jvm.Cond.code ({ cls := "java/util/Objects", name := "requireNonNull", desc := "(Ljava/lang/Object;)Ljava/lang/Object;" } : Jvm.MethodName) jdk_31_method_10_code (1 : Nat) (Option.some (Jvm.ClassFile.FieldType.object "java/lang/Object"))).before args0 about1 = true := code_word (m := ⟨24, 1⟩) (meth := k24m1) (c := k24c1) (by decide +kernel) rfl rfl rfl (by decide +kernel)
set_option maxRecDepth 65536 in
theorem w_c24 : (Jvm.Cond.code ({ cls := "java/util/ImmutableCollections$ListN", name := "<init>", desc := "([Ljava/lang/Object;Z)V" } : Jvm.MethodName) jdk_45_method_1_code (3 : Nat) (Option.none : Option Jvm.ClassFile.FieldType)).before args0 about1 = true := code_word (m := ⟨18, 0⟩) (meth := k18m0) (c := k18c0) (by decide +kernel) rfl rfl rfl (by decide +kernel)
set_option maxRecDepth 65536 in
theorem w_c25 : (Jvm.Cond.code ({ cls := "java/util/ImmutableCollections$AbstractImmutableList", name := "<init>", desc := "()V" } : Jvm.MethodName) jdk_46_method_1_code (1 : Nat) (Option.none : Option Jvm.ClassFile.FieldType)).before args0 about1 = true := code_word (m := ⟨16, 0⟩) (meth := k16m0) (c := k16c0) (by decide +kernel) rfl rfl rfl (by decide +kernel)
set_option maxRecDepth 65536 in
theorem w_c26 : (Jvm.Cond.code ({ cls := "java/util/ImmutableCollections$AbstractImmutableCollection", name := "<init>", desc := "()V" } : Jvm.MethodName) jdk_47_method_1_code (1 : Nat) (Option.none : Option Jvm.ClassFile.FieldType)).before args0 about1 = true := code_word (m := ⟨15, 0⟩) (meth := k15m0) (c := k15c0) (by decide +kernel) rfl rfl rfl (by decide +kernel)
set_option maxRecDepth 65536 in
theorem w_c27 : (Jvm.Cond.code ({ cls := "java/util/ImmutableCollections$List12", name := "<init>", desc := "(Ljava/lang/Object;Ljava/lang/Object;)V" } : Jvm.MethodName) jdk_44_method_2_code (3 : Nat) (Option.none : Option Jvm.ClassFile.FieldType)).before args0 about1 = true := code_word (m := ⟨17, 1⟩) (meth := k17m1) (c := k17c1) (by decide +kernel) rfl rfl rfl (by decide +kernel)
set_option maxRecDepth 65536 in
theorem w_c28 : (Jvm.Cond.code ({ cls := "com/example/witnesseth/witnesseth/agreement/ClockDifferentials", name := "isEmpty", desc := "()Z" } : Jvm.MethodName) prog_3_method_4_code (1 : Nat) (Option.some Jvm.ClassFile.FieldType.boolean)).before args0 about1 = true := code_word (m := ⟨21, 2⟩) (meth := k21m2) (c := k21c2) (by decide +kernel) rfl rfl rfl (by decide +kernel)
set_option maxRecDepth 65536 in
theorem w_c29 : (Jvm.Cond.code ({ cls := "java/util/ImmutableCollections$ListN", name := "isEmpty", desc := "()Z" } : Jvm.MethodName) jdk_45_method_2_code (1 : Nat) (Option.some Jvm.ClassFile.FieldType.boolean)).before args0 about1 = true := code_word (m := ⟨18, 1⟩) (meth := k18m1) (c := k18c1) (by decide +kernel) rfl rfl rfl (by decide +kernel)
set_option maxRecDepth 65536 in
theorem w_c30 : (Jvm.Cond.code ({ cls := "java/util/ImmutableCollections$List12", name := "isEmpty", desc := "()Z" } : Jvm.MethodName) jdk_44_method_4_code (1 : Nat) (Option.some Jvm.ClassFile.FieldType.boolean)).before args0 about1 = true := code_word (m := ⟨17, 2⟩) (meth := k17m2) (c := k17c2) (by decide +kernel) rfl rfl rfl (by decide +kernel)
set_option maxRecDepth 65536 in
theorem w_c31 : (Jvm.Cond.code ({ cls := "com/example/witnesseth/witnesseth/agreement/ClockDifferentials", name := "withShifts", desc := "(Ljava/util/List;)Lcom/example/witnesseth/witnesseth/agreement/ClockDifferentials;" } : Jvm.MethodName) prog_3_method_2_code (2 : Nat) (Option.some (Jvm.ClassFile.FieldType.object "com/example/witnesseth/witnesseth/agreement/ClockDifferentials"))).before args0 about1 = true := code_word (m := ⟨21, 1⟩) (meth := k21m1) (c := k21c1) (by decide +kernel) rfl rfl rfl (by decide +kernel)
set_option maxRecDepth 65536 in
theorem w_c32 : (Jvm.Cond.code ({ cls := "java/util/ImmutableCollections$List12", name := "<init>", desc := "(Ljava/lang/Object;)V" } : Jvm.MethodName) jdk_44_method_1_code (2 : Nat) (Option.none : Option Jvm.ClassFile.FieldType)).before args0 about1 = true := code_word (m := ⟨17, 0⟩) (meth := k17m0) (c := k17c0) (by decide +kernel) rfl rfl rfl (by decide +kernel)
def codes1 : List Jvm.Cond := [Jvm.Cond.code x code maxLocals ret, Jvm.Cond.code ({ cls := "com/example/witnesseth/witnesseth/agreement/Differential", name := "<init>", desc := "(Ljava/lang/String;Ljava/math/BigDecimal;)V" } : Jvm.MethodName) prog_13_method_1_code (3 : Nat) (Option.none : Option Jvm.ClassFile.FieldType), Jvm.Cond.code ({ cls := "java/lang/Object", name := "<init>", desc := "()V" } : Jvm.MethodName) object_method_1_code (1 : Nat) (Option.none : Option Jvm.ClassFile.FieldType), Jvm.Cond.code ({ cls := "java/util/ArrayList", name := "<init>", desc := "()V" } : Jvm.MethodName) jdk_38_method_2_code (1 : Nat) (Option.none : Option Jvm.ClassFile.FieldType), Jvm.Cond.code ({ cls := "java/util/AbstractList", name := "<init>", desc := "()V" } : Jvm.MethodName) jdk_39_method_1_code (1 : Nat) (Option.none : Option Jvm.ClassFile.FieldType), Jvm.Cond.code ({ cls := "java/util/AbstractCollection", name := "<init>", desc := "()V" } : Jvm.MethodName) jdk_22_method_1_code (1 : Nat) (Option.none : Option Jvm.ClassFile.FieldType), Jvm.Cond.code ({ cls := "com/example/witnesseth/witnesseth/agreement/ShiftStart", name := "<init>", desc := "(Ljava/util/List;Ljava/time/LocalTime;Lcom/example/witnesseth/witnesseth/agreement/Differential;Ljava/time/ZoneId;)V" } : Jvm.MethodName) prog_32_method_1_code (5 : Nat) (Option.none : Option Jvm.ClassFile.FieldType), Jvm.Cond.code ({ cls := "java/util/List", name := "copyOf", desc := "(Ljava/util/Collection;)Ljava/util/List;" } : Jvm.MethodName) jdk_40_method_48_code (1 : Nat) (Option.some (Jvm.ClassFile.FieldType.object "java/util/List")), Jvm.Cond.code ({ cls := "java/util/ImmutableCollections", name := "listCopy", desc := "(Ljava/util/Collection;)Ljava/util/List;" } : Jvm.MethodName) jdk_56_method_3_code (2 : Nat) (Option.some (Jvm.ClassFile.FieldType.object "java/util/List")), Jvm.Cond.code ({ cls := "java/util/ArrayList", name := "isEmpty", desc := "()Z" } : Jvm.MethodName) jdk_38_method_9_code (1 : Nat) (Option.some Jvm.ClassFile.FieldType.boolean), Jvm.Cond.code ({ cls := "java/util/List", name := "of", desc := "()Ljava/util/List;" } : Jvm.MethodName) jdk_40_method_36_code (0 : Nat) (Option.some (Jvm.ClassFile.FieldType.object "java/util/List")), Jvm.Cond.code ({ cls := "java/util/ArrayList", name := "add", desc := "(Ljava/lang/Object;)Z" } : Jvm.MethodName) jdk_38_method_25_code (2 : Nat) (Option.some Jvm.ClassFile.FieldType.boolean), Jvm.Cond.code ({ cls := "java/util/ArrayList", name := "add", desc := "(Ljava/lang/Object;[Ljava/lang/Object;I)V" } : Jvm.MethodName) jdk_38_method_24_code (4 : Nat) (Option.none : Option Jvm.ClassFile.FieldType), Jvm.Cond.code ({ cls := "java/util/ArrayList", name := "grow", desc := "()[Ljava/lang/Object;" } : Jvm.MethodName) jdk_38_method_7_code (1 : Nat) (Option.some (Jvm.ClassFile.FieldType.array (Jvm.ClassFile.FieldType.object "java/lang/Object"))), Jvm.Cond.code ({ cls := "java/util/ArrayList", name := "grow", desc := "(I)[Ljava/lang/Object;" } : Jvm.MethodName) jdk_38_method_6_code (4 : Nat) (Option.some (Jvm.ClassFile.FieldType.array (Jvm.ClassFile.FieldType.object "java/lang/Object"))), Jvm.Cond.code ({ cls := "java/lang/Math", name := "max", desc := "(II)I" } : Jvm.MethodName) jdk_29_method_65_code (2 : Nat) (Option.some Jvm.ClassFile.FieldType.int), Jvm.Cond.code ({ cls := "com/example/witnesseth/witnesseth/agreement/ClockDifferentials", name := "<init>", desc := "(Ljava/util/List;Ljava/util/List;Ljava/util/List;)V" } : Jvm.MethodName) prog_3_method_1_code (4 : Nat) (Option.none : Option Jvm.ClassFile.FieldType), Jvm.Cond.code ({ cls := "java/util/ArrayList", name := "toArray", desc := "()[Ljava/lang/Object;" } : Jvm.MethodName) jdk_38_method_16_code (1 : Nat) (Option.some (Jvm.ClassFile.FieldType.array (Jvm.ClassFile.FieldType.object "java/lang/Object"))), Jvm.Cond.code ({ cls := "java/util/Arrays", name := "copyOf", desc := "([Ljava/lang/Object;I)[Ljava/lang/Object;" } : Jvm.MethodName) jdk_65_method_119_code (2 : Nat) (Option.some (Jvm.ClassFile.FieldType.array (Jvm.ClassFile.FieldType.object "java/lang/Object"))), Jvm.Cond.code ({ cls := "java/util/Arrays", name := "copyOf", desc := "([Ljava/lang/Object;ILjava/lang/Class;)[Ljava/lang/Object;" } : Jvm.MethodName) jdk_65_method_120_code (4 : Nat) (Option.some (Jvm.ClassFile.FieldType.array (Jvm.ClassFile.FieldType.object "java/lang/Object"))), Jvm.Cond.code ({ cls := "java/lang/Math", name := "min", desc := "(II)I" } : Jvm.MethodName) jdk_29_method_69_code (2 : Nat) (Option.some Jvm.ClassFile.FieldType.int), Jvm.Cond.code ({ cls := "java/util/List", name := "of", desc := "([Ljava/lang/Object;)Ljava/util/List;" } : Jvm.MethodName) jdk_40_method_47_code (2 : Nat) (Option.some (Jvm.ClassFile.FieldType.object "java/util/List")), Jvm.Cond.code ({ cls := "java/util/ImmutableCollections", name := "listFromArray", desc := "([Ljava/lang/Object;)Ljava/util/List;" } : Jvm.MethodName) jdk_56_method_4_code (3 : Nat) (Option.some (Jvm.ClassFile.FieldType.object "java/util/List")), Jvm.Cond.code ({ cls := "java/util/Objects", name := "requireNonNull", desc := "(Ljava/lang/Object;)Ljava/lang/Object;" } : Jvm.MethodName) jdk_31_method_10_code (1 : Nat) (Option.some (Jvm.ClassFile.FieldType.object "java/lang/Object")), Jvm.Cond.code ({ cls := "java/util/ImmutableCollections$ListN", name := "<init>", desc := "([Ljava/lang/Object;Z)V" } : Jvm.MethodName) jdk_45_method_1_code (3 : Nat) (Option.none : Option Jvm.ClassFile.FieldType), Jvm.Cond.code ({ cls := "java/util/ImmutableCollections$AbstractImmutableList", name := "<init>", desc := "()V" } : Jvm.MethodName) jdk_46_method_1_code (1 : Nat) (Option.none : Option Jvm.ClassFile.FieldType), Jvm.Cond.code ({ cls := "java/util/ImmutableCollections$AbstractImmutableCollection", name := "<init>", desc := "()V" } : Jvm.MethodName) jdk_47_method_1_code (1 : Nat) (Option.none : Option Jvm.ClassFile.FieldType), Jvm.Cond.code ({ cls := "java/util/ImmutableCollections$List12", name := "<init>", desc := "(Ljava/lang/Object;Ljava/lang/Object;)V" } : Jvm.MethodName) jdk_44_method_2_code (3 : Nat) (Option.none : Option Jvm.ClassFile.FieldType), Jvm.Cond.code ({ cls := "com/example/witnesseth/witnesseth/agreement/ClockDifferentials", name := "isEmpty", desc := "()Z" } : Jvm.MethodName) prog_3_method_4_code (1 : Nat) (Option.some Jvm.ClassFile.FieldType.boolean), Jvm.Cond.code ({ cls := "java/util/ImmutableCollections$ListN", name := "isEmpty", desc := "()Z" } : Jvm.MethodName) jdk_45_method_2_code (1 : Nat) (Option.some Jvm.ClassFile.FieldType.boolean), Jvm.Cond.code ({ cls := "java/util/ImmutableCollections$List12", name := "isEmpty", desc := "()Z" } : Jvm.MethodName) jdk_44_method_4_code (1 : Nat) (Option.some Jvm.ClassFile.FieldType.boolean), Jvm.Cond.code ({ cls := "com/example/witnesseth/witnesseth/agreement/ClockDifferentials", name := "withShifts", desc := "(Ljava/util/List;)Lcom/example/witnesseth/witnesseth/agreement/ClockDifferentials;" } : Jvm.MethodName) prog_3_method_2_code (2 : Nat) (Option.some (Jvm.ClassFile.FieldType.object "com/example/witnesseth/witnesseth/agreement/ClockDifferentials")), Jvm.Cond.code ({ cls := "java/util/ImmutableCollections$List12", name := "<init>", desc := "(Ljava/lang/Object;)V" } : Jvm.MethodName) jdk_44_method_1_code (2 : Nat) (Option.none : Option Jvm.ClassFile.FieldType)]
set_option maxRecDepth 65536 in
theorem codes_eq : words1.filter isCode = codes1 := rfl
theorem w_codes : ∀ c ∈ words1.filter isCode, c.before args0 about1 = true := by
  rw [codes_eq]
  intro c hc
  simp only [codes1, List.mem_cons, List.not_mem_nil, or_false] at hc
  rcases hc with rfl | rfl | rfl | rfl | rfl | rfl | rfl | rfl | rfl | rfl | rfl | rfl | rfl | rfl | rfl | rfl | rfl | rfl | rfl | rfl | rfl | rfl | rfl | rfl | rfl | rfl | rfl | rfl | rfl | rfl | rfl | rfl | rfl
  · exact w_c0
  · exact w_c1
  · exact w_c2
  · exact w_c3
  · exact w_c4
  · exact w_c5
  · exact w_c6
  · exact w_c7
  · exact w_c8
  · exact w_c9
  · exact w_c10
  · exact w_c11
  · exact w_c12
  · exact w_c13
  · exact w_c14
  · exact w_c15
  · exact w_c16
  · exact w_c17
  · exact w_c18
  · exact w_c19
  · exact w_c20
  · exact w_c21
  · exact w_c22
  · exact w_c23
  · exact w_c24
  · exact w_c25
  · exact w_c26
  · exact w_c27
  · exact w_c28
  · exact w_c29
  · exact w_c30
  · exact w_c31
  · exact w_c32
set_option maxRecDepth 65536 in
theorem w_t1 : (words1.take 24).all (fun c => isCode c || c.before args0 about1) = true := by decide +kernel
set_option maxRecDepth 65536 in
theorem w_t2 : ((words1.drop 24).take 24).all (fun c => isCode c || c.before args0 about1) = true := by decide +kernel
set_option maxRecDepth 65536 in
theorem w_t3 : (((words1.drop 24).drop 24).take 24).all (fun c => isCode c || c.before args0 about1) = true := by decide +kernel
set_option maxRecDepth 65536 in
theorem w_t4 : ((((words1.drop 24).drop 24).drop 24).take 24).all (fun c => isCode c || c.before args0 about1) = true := by decide +kernel
set_option maxRecDepth 65536 in
theorem w_t5 : (((((words1.drop 24).drop 24).drop 24).drop 24).take 24).all (fun c => isCode c || c.before args0 about1) = true := by decide +kernel
set_option maxRecDepth 65536 in
theorem w_t6 : ((((((words1.drop 24).drop 24).drop 24).drop 24).drop 24).take 24).all (fun c => isCode c || c.before args0 about1) = true := by decide +kernel
set_option maxRecDepth 65536 in
theorem w_t7 : (((((((words1.drop 24).drop 24).drop 24).drop 24).drop 24).drop 24).take 24).all (fun c => isCode c || c.before args0 about1) = true := by decide +kernel
set_option maxRecDepth 65536 in
theorem w_t8 : ((((((((words1.drop 24).drop 24).drop 24).drop 24).drop 24).drop 24).drop 24).take 24).all (fun c => isCode c || c.before args0 about1) = true := by decide +kernel
set_option maxRecDepth 65536 in
theorem w_t9 : (((((((((words1.drop 24).drop 24).drop 24).drop 24).drop 24).drop 24).drop 24).drop 24).take 24).all (fun c => isCode c || c.before args0 about1) = true := by decide +kernel
set_option maxRecDepth 65536 in
theorem w_t10 : ((((((((((words1.drop 24).drop 24).drop 24).drop 24).drop 24).drop 24).drop 24).drop 24).drop 24).take 24).all (fun c => isCode c || c.before args0 about1) = true := by decide +kernel
set_option maxRecDepth 65536 in
theorem w_t11 : ((((((((((words1.drop 24).drop 24).drop 24).drop 24).drop 24).drop 24).drop 24).drop 24).drop 24).drop 24).all (fun c => isCode c || c.before args0 about1) = true := by decide +kernel
theorem w_tables : (allAtoms (Jvm.Cond.code x code maxLocals ret :: tables_1)).before args0 about1 = true := by
  rw [allAtoms_all]
  show words1.all (fun c => c.before args0 about1) = true
  refine all_split ?_ w_codes
  rw [← List.take_append_drop 24 words1, List.all_append, w_t1, ← List.take_append_drop 24 (words1.drop 24), List.all_append, w_t2, ← List.take_append_drop 24 ((words1.drop 24).drop 24), List.all_append, w_t3, ← List.take_append_drop 24 (((words1.drop 24).drop 24).drop 24), List.all_append, w_t4, ← List.take_append_drop 24 ((((words1.drop 24).drop 24).drop 24).drop 24), List.all_append, w_t5, ← List.take_append_drop 24 (((((words1.drop 24).drop 24).drop 24).drop 24).drop 24), List.all_append, w_t6, ← List.take_append_drop 24 ((((((words1.drop 24).drop 24).drop 24).drop 24).drop 24).drop 24), List.all_append, w_t7, ← List.take_append_drop 24 (((((((words1.drop 24).drop 24).drop 24).drop 24).drop 24).drop 24).drop 24), List.all_append, w_t8, ← List.take_append_drop 24 ((((((((words1.drop 24).drop 24).drop 24).drop 24).drop 24).drop 24).drop 24).drop 24), List.all_append, w_t9, ← List.take_append_drop 24 (((((((((words1.drop 24).drop 24).drop 24).drop 24).drop 24).drop 24).drop 24).drop 24).drop 24), List.all_append, w_t10, w_t11]
  rfl
set_option maxRecDepth 65536 in
theorem w_rest : rest_1_c.before args0 about1 = true := by decide +kernel
set_option maxRecDepth 65536 in
theorem w_case : (Jvm.Cond.and given_1 narrow_1).before args0 about1 = true := by decide +kernel
theorem w_applies : (headSpec (Jvm.Cond.code x code maxLocals ret :: tables_1) room_1).applies x e0.platform about1 = true :=
  (Spec.applies_iff w_frames).mpr ⟨w_running, w_runnable, w_alone, w_named, w_hears, w_ripe, w_room, w_tables⟩
theorem atStart : AtStart classFile x code maxLocals ret World_1 tables_1 room_1 Calls_1 rest_1 Pre_1 launch0 p0 e0 about1 theMethod args0 below0 :=
  ⟨lists_1, trivial, launch0.admits_env _ _ _, launch0.least_env, fairChoices_fair.cas, fairChoices_fair.clock, w_frames, w_args, w_heap, w_applies, ⟨⟨30, k30, 2, by decide +kernel, rfl, rfl, _, rfl, rfl⟩, trivial⟩, w_rest, w_case⟩
end start1
theorem witness_1 : WitnessClaimed_1 := ⟨start1.p0, start1.e0, start1.about1, start1.theMethod, start1.args0, start1.below0, start1.atStart⟩
end Jvm.Pilot.@@N@@
