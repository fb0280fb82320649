import JvmDerived
import JvmDerived.Pilot.@@N@@Statement
import JvmDerived.Pilot.@@N@@Code
set_option linter.unusedVariables false
set_option linter.unusedSimpArgs false
namespace Jvm.Own
open Jvm Sem ClassFile Op Lib Jvm.Stand Jvm.Free Jvm.LawKit Jvm.RoadKit
/-- the run from S ends well: it returns with P -/
def Go (p : Program) (e : Env) (below : List Frame) (P : Outcome → State → Prop) (S : State) : Prop := ∃ s₂ o, Steps p.tables e below S s₂ ∧ s₂.status = .running ∧ Ended s₂ below o ∧ P o s₂
section Steps
variable {p : Program} {l : Launch} {e : Env} {R : Room} {s : State} {m : MethodId} {args : Array Value} {below : List Frame} {meth : Method} {c : Code} {T : State} {locs : List Loc} {cells slots : Nat} {P : Outcome → State → Prop} {pc : Nat} {Ls : Array Slot} {st : List Value}
theorem Go.mv {S S' : State} (k : ∀ target, Steps p.tables e below S' target → Steps p.tables e below S target) (g : Go p e below P S') : Go p e below P S := by
  obtain ⟨s2, o, h1, h2⟩ := g
  exact ⟨s2, o, k _ h1, h2⟩
theorem Go.tr {S S' : State} (k : Steps p.tables e below S S') (g : Go p e below P S') : Go p e below P S := Go.mv (fun _ h => k.trans h) g
theorem Go.eq {S : State} {g g' : JFrame} (q : g = g') (k : Go p e below P (S.setTop g')) : Go p e below P (S.setTop g) := q ▸ k
theorem g_iload (X : Stand p l e R s m args below meth c T locs cells slots) (hx : p.tables.exec = Jvm.exec) {k : Nat} {v : Int32} (hd : decode c.code pc = .ok (.iload k, 2)) (hl : Ls[k]? = some (.val (.int v))) (pc' : Nat) (hp : pc + 2 = pc') (K : Go p e below P (T.setTop (mkF m pc' Ls (.int v :: st)))) : Go p e below P (T.setTop (mkF m pc Ls st)) := by
  subst hp; exact Go.mv (fun _ h => XS.iload X.here hx rfl hd hl h) K
theorem g_iloadN (X : Stand p l e R s m args below meth c T locs cells slots) (hx : p.tables.exec = Jvm.exec) {k : Fin 4} {v : Int32} (hd : decode c.code pc = .ok (.iload_n k, 1)) (hl : Ls[k.val]? = some (.val (.int v))) (pc' : Nat) (hp : pc + 1 = pc') (K : Go p e below P (T.setTop (mkF m pc' Ls (.int v :: st)))) : Go p e below P (T.setTop (mkF m pc Ls st)) := by
  subst hp; exact Go.mv (fun _ h => XS.iloadN X.here hx rfl hd hl h) K
theorem g_istore (X : Stand p l e R s m args below meth c T locs cells slots) (hx : p.tables.exec = Jvm.exec) {k : Nat} {v : Int32} (l' : Array Slot) (hd : decode c.code pc = .ok (.istore k, 2)) (hl : storeLocals Ls k (.int v) = some l') (pc' : Nat) (hp : pc + 2 = pc') (K : Go p e below P (T.setTop (mkF m pc' l' st))) : Go p e below P (T.setTop (mkF m pc Ls (.int v :: st))) := by
  subst hp; exact Go.mv (fun _ h => XS.istore X.here hx rfl hd rfl hl h) K
theorem g_istoreN (X : Stand p l e R s m args below meth c T locs cells slots) (hx : p.tables.exec = Jvm.exec) {k : Fin 4} {v : Int32} (l' : Array Slot) (hd : decode c.code pc = .ok (.istore_n k, 1)) (hl : storeLocals Ls k.val (.int v) = some l') (pc' : Nat) (hp : pc + 1 = pc') (K : Go p e below P (T.setTop (mkF m pc' l' st))) : Go p e below P (T.setTop (mkF m pc Ls (.int v :: st))) := by
  subst hp; exact Go.mv (fun _ h => XS.istoreN X.here hx rfl hd rfl hl h) K
theorem g_lload (X : Stand p l e R s m args below meth c T locs cells slots) (hx : p.tables.exec = Jvm.exec) {k : Nat} {v : Int64} (hd : decode c.code pc = .ok (.lload k, 2)) (hl : Ls[k]? = some (.val (.long v))) (pc' : Nat) (hp : pc + 2 = pc') (K : Go p e below P (T.setTop (mkF m pc' Ls (.long v :: st)))) : Go p e below P (T.setTop (mkF m pc Ls st)) := by
  subst hp; exact Go.mv (fun _ h => XS.lload X.here hx rfl hd hl h) K
theorem g_lloadN (X : Stand p l e R s m args below meth c T locs cells slots) (hx : p.tables.exec = Jvm.exec) {k : Fin 4} {v : Int64} (hd : decode c.code pc = .ok (.lload_n k, 1)) (hl : Ls[k.val]? = some (.val (.long v))) (pc' : Nat) (hp : pc + 1 = pc') (K : Go p e below P (T.setTop (mkF m pc' Ls (.long v :: st)))) : Go p e below P (T.setTop (mkF m pc Ls st)) := by
  subst hp; exact Go.mv (fun _ h => XS.lloadN X.here hx rfl hd hl h) K
theorem g_lstore (X : Stand p l e R s m args below meth c T locs cells slots) (hx : p.tables.exec = Jvm.exec) {k : Nat} {v : Int64} (l' : Array Slot) (hd : decode c.code pc = .ok (.lstore k, 2)) (hl : storeLocals Ls k (.long v) = some l') (pc' : Nat) (hp : pc + 2 = pc') (K : Go p e below P (T.setTop (mkF m pc' l' st))) : Go p e below P (T.setTop (mkF m pc Ls (.long v :: st))) := by
  subst hp; exact Go.mv (fun _ h => XS.lstore X.here hx rfl hd rfl hl h) K
theorem g_lstoreN (X : Stand p l e R s m args below meth c T locs cells slots) (hx : p.tables.exec = Jvm.exec) {k : Fin 4} {v : Int64} (l' : Array Slot) (hd : decode c.code pc = .ok (.lstore_n k, 1)) (hl : storeLocals Ls k.val (.long v) = some l') (pc' : Nat) (hp : pc + 1 = pc') (K : Go p e below P (T.setTop (mkF m pc' l' st))) : Go p e below P (T.setTop (mkF m pc Ls (.long v :: st))) := by
  subst hp; exact Go.mv (fun _ h => XS.lstoreN X.here hx rfl hd rfl hl h) K
theorem g_aload (X : Stand p l e R s m args below meth c T locs cells slots) (hx : p.tables.exec = Jvm.exec) {k : Nat} {v : Value} (hd : decode c.code pc = .ok (.aload k, 2)) (hl : Ls[k]? = some (.val v)) (hv : v.isRef = true) (pc' : Nat) (hp : pc + 2 = pc') (K : Go p e below P (T.setTop (mkF m pc' Ls (v :: st)))) : Go p e below P (T.setTop (mkF m pc Ls st)) := by
  subst hp; exact Go.mv (fun _ h => XS.aload X.here hx rfl hd hl hv h) K
theorem g_aloadN (X : Stand p l e R s m args below meth c T locs cells slots) (hx : p.tables.exec = Jvm.exec) {k : Fin 4} {v : Value} (hd : decode c.code pc = .ok (.aload_n k, 1)) (hl : Ls[k.val]? = some (.val v)) (hv : v.isRef = true) (pc' : Nat) (hp : pc + 1 = pc') (K : Go p e below P (T.setTop (mkF m pc' Ls (v :: st)))) : Go p e below P (T.setTop (mkF m pc Ls st)) := by
  subst hp; exact Go.mv (fun _ h => XS.aloadN X.here hx rfl hd hl hv h) K
theorem g_astore (X : Stand p l e R s m args below meth c T locs cells slots) (hx : p.tables.exec = Jvm.exec) {k : Nat} {v : Value} (l' : Array Slot) (hd : decode c.code pc = .ok (.astore k, 2)) (hv : v.isRef = true) (hl : storeLocals Ls k v = some l') (pc' : Nat) (hp : pc + 2 = pc') (K : Go p e below P (T.setTop (mkF m pc' l' st))) : Go p e below P (T.setTop (mkF m pc Ls (v :: st))) := by
  subst hp; exact Go.mv (fun _ h => XS.astore X.here hx rfl hd rfl hv hl h) K
theorem g_astoreN (X : Stand p l e R s m args below meth c T locs cells slots) (hx : p.tables.exec = Jvm.exec) {k : Fin 4} {v : Value} (l' : Array Slot) (hd : decode c.code pc = .ok (.astore_n k, 1)) (hv : v.isRef = true) (hl : storeLocals Ls k.val v = some l') (pc' : Nat) (hp : pc + 1 = pc') (K : Go p e below P (T.setTop (mkF m pc' l' st))) : Go p e below P (T.setTop (mkF m pc Ls (v :: st))) := by
  subst hp; exact Go.mv (fun _ h => XS.astoreN X.here hx rfl hd rfl hv hl h) K
theorem g_iconst (X : Stand p l e R s m args below meth c T locs cells slots) (hx : p.tables.exec = Jvm.exec) {i : Int} (v : Int32) (hd : decode c.code pc = .ok (.iconst i, 1)) (hv : Int32.ofInt i = v) (pc' : Nat) (hp : pc + 1 = pc') (K : Go p e below P (T.setTop (mkF m pc' Ls (.int v :: st)))) : Go p e below P (T.setTop (mkF m pc Ls st)) := by
  subst hp hv; exact Go.mv (fun _ h => XS.iconst X.here hx rfl hd h) K
theorem g_bipush (X : Stand p l e R s m args below meth c T locs cells slots) (hx : p.tables.exec = Jvm.exec) {i : Int} (v : Int32) (hd : decode c.code pc = .ok (.bipush i, 2)) (hv : (Int8.ofInt i).toInt32 = v) (pc' : Nat) (hp : pc + 2 = pc') (K : Go p e below P (T.setTop (mkF m pc' Ls (.int v :: st)))) : Go p e below P (T.setTop (mkF m pc Ls st)) := by
  subst hp hv; exact Go.mv (fun _ h => XS.bipush X.here hx rfl hd h) K
theorem g_sipush (X : Stand p l e R s m args below meth c T locs cells slots) (hx : p.tables.exec = Jvm.exec) {i : Int} (v : Int32) (hd : decode c.code pc = .ok (.sipush i, 3)) (hv : (Int16.ofInt i).toInt32 = v) (pc' : Nat) (hp : pc + 3 = pc') (K : Go p e below P (T.setTop (mkF m pc' Ls (.int v :: st)))) : Go p e below P (T.setTop (mkF m pc Ls st)) := by
  subst hp hv; exact Go.mv (fun _ h => XS.sipush X.here hx rfl hd h) K
theorem g_lconst (X : Stand p l e R s m args below meth c T locs cells slots) (hx : p.tables.exec = Jvm.exec) {k : Fin 2} (v : Int64) (hd : decode c.code pc = .ok (.lconst k, 1)) (hv : Int64.ofNat k = v) (pc' : Nat) (hp : pc + 1 = pc') (K : Go p e below P (T.setTop (mkF m pc' Ls (.long v :: st)))) : Go p e below P (T.setTop (mkF m pc Ls st)) := by
  subst hp hv; exact Go.mv (fun _ h => XS.lconst X.here hx rfl hd h) K
theorem g_aconstNull (X : Stand p l e R s m args below meth c T locs cells slots) (hx : p.tables.exec = Jvm.exec)  (hd : decode c.code pc = .ok (.aconst_null, 1))  (pc' : Nat) (hp : pc + 1 = pc') (K : Go p e below P (T.setTop (mkF m pc' Ls (.null :: st)))) : Go p e below P (T.setTop (mkF m pc Ls st)) := by
  subst hp; exact Go.mv (fun _ h => XS.aconstNull X.here hx rfl hd  h) K
theorem g_iadd (X : Stand p l e R s m args below meth c T locs cells slots) (hx : p.tables.exec = Jvm.exec) {x y : Int32} (hd : decode c.code pc = .ok (.iadd, 1))  (pc' : Nat) (hp : pc + 1 = pc') (K : Go p e below P (T.setTop (mkF m pc' Ls (.int (x + y) :: st)))) : Go p e below P (T.setTop (mkF m pc Ls (.int y :: .int x :: st))) := by
  subst hp; exact Go.mv (fun _ h => XS.iadd X.here hx rfl hd rfl h) K
theorem g_ladd (X : Stand p l e R s m args below meth c T locs cells slots) (hx : p.tables.exec = Jvm.exec) {x y : Int64} (hd : decode c.code pc = .ok (.ladd, 1))  (pc' : Nat) (hp : pc + 1 = pc') (K : Go p e below P (T.setTop (mkF m pc' Ls (.long (x + y) :: st)))) : Go p e below P (T.setTop (mkF m pc Ls (.long y :: .long x :: st))) := by
  subst hp; exact Go.mv (fun _ h => XS.ladd X.here hx rfl hd rfl h) K
theorem g_isub (X : Stand p l e R s m args below meth c T locs cells slots) (hx : p.tables.exec = Jvm.exec) {x y : Int32} (hd : decode c.code pc = .ok (.isub, 1))  (pc' : Nat) (hp : pc + 1 = pc') (K : Go p e below P (T.setTop (mkF m pc' Ls (.int (x - y) :: st)))) : Go p e below P (T.setTop (mkF m pc Ls (.int y :: .int x :: st))) := by
  subst hp; exact Go.mv (fun _ h => XS.isub X.here hx rfl hd rfl h) K
theorem g_lsub (X : Stand p l e R s m args below meth c T locs cells slots) (hx : p.tables.exec = Jvm.exec) {x y : Int64} (hd : decode c.code pc = .ok (.lsub, 1))  (pc' : Nat) (hp : pc + 1 = pc') (K : Go p e below P (T.setTop (mkF m pc' Ls (.long (x - y) :: st)))) : Go p e below P (T.setTop (mkF m pc Ls (.long y :: .long x :: st))) := by
  subst hp; exact Go.mv (fun _ h => XS.lsub X.here hx rfl hd rfl h) K
theorem g_imul (X : Stand p l e R s m args below meth c T locs cells slots) (hx : p.tables.exec = Jvm.exec) {x y : Int32} (hd : decode c.code pc = .ok (.imul, 1))  (pc' : Nat) (hp : pc + 1 = pc') (K : Go p e below P (T.setTop (mkF m pc' Ls (.int (x * y) :: st)))) : Go p e below P (T.setTop (mkF m pc Ls (.int y :: .int x :: st))) := by
  subst hp; exact Go.mv (fun _ h => XS.imul X.here hx rfl hd rfl h) K
theorem g_lmul (X : Stand p l e R s m args below meth c T locs cells slots) (hx : p.tables.exec = Jvm.exec) {x y : Int64} (hd : decode c.code pc = .ok (.lmul, 1))  (pc' : Nat) (hp : pc + 1 = pc') (K : Go p e below P (T.setTop (mkF m pc' Ls (.long (x * y) :: st)))) : Go p e below P (T.setTop (mkF m pc Ls (.long y :: .long x :: st))) := by
  subst hp; exact Go.mv (fun _ h => XS.lmul X.here hx rfl hd rfl h) K
theorem g_iand (X : Stand p l e R s m args below meth c T locs cells slots) (hx : p.tables.exec = Jvm.exec) {x y : Int32} (hd : decode c.code pc = .ok (.iand, 1))  (pc' : Nat) (hp : pc + 1 = pc') (K : Go p e below P (T.setTop (mkF m pc' Ls (.int (x &&& y) :: st)))) : Go p e below P (T.setTop (mkF m pc Ls (.int y :: .int x :: st))) := by
  subst hp; exact Go.mv (fun _ h => XS.iand X.here hx rfl hd rfl h) K
theorem g_land (X : Stand p l e R s m args below meth c T locs cells slots) (hx : p.tables.exec = Jvm.exec) {x y : Int64} (hd : decode c.code pc = .ok (.land, 1))  (pc' : Nat) (hp : pc + 1 = pc') (K : Go p e below P (T.setTop (mkF m pc' Ls (.long (x &&& y) :: st)))) : Go p e below P (T.setTop (mkF m pc Ls (.long y :: .long x :: st))) := by
  subst hp; exact Go.mv (fun _ h => XS.land X.here hx rfl hd rfl h) K
theorem g_ior (X : Stand p l e R s m args below meth c T locs cells slots) (hx : p.tables.exec = Jvm.exec) {x y : Int32} (hd : decode c.code pc = .ok (.ior, 1))  (pc' : Nat) (hp : pc + 1 = pc') (K : Go p e below P (T.setTop (mkF m pc' Ls (.int (x ||| y) :: st)))) : Go p e below P (T.setTop (mkF m pc Ls (.int y :: .int x :: st))) := by
  subst hp; exact Go.mv (fun _ h => XS.ior X.here hx rfl hd rfl h) K
theorem g_lor (X : Stand p l e R s m args below meth c T locs cells slots) (hx : p.tables.exec = Jvm.exec) {x y : Int64} (hd : decode c.code pc = .ok (.lor, 1))  (pc' : Nat) (hp : pc + 1 = pc') (K : Go p e below P (T.setTop (mkF m pc' Ls (.long (x ||| y) :: st)))) : Go p e below P (T.setTop (mkF m pc Ls (.long y :: .long x :: st))) := by
  subst hp; exact Go.mv (fun _ h => XS.lor X.here hx rfl hd rfl h) K
theorem g_ixor (X : Stand p l e R s m args below meth c T locs cells slots) (hx : p.tables.exec = Jvm.exec) {x y : Int32} (hd : decode c.code pc = .ok (.ixor, 1))  (pc' : Nat) (hp : pc + 1 = pc') (K : Go p e below P (T.setTop (mkF m pc' Ls (.int (x ^^^ y) :: st)))) : Go p e below P (T.setTop (mkF m pc Ls (.int y :: .int x :: st))) := by
  subst hp; exact Go.mv (fun _ h => XS.ixor X.here hx rfl hd rfl h) K
theorem g_lxor (X : Stand p l e R s m args below meth c T locs cells slots) (hx : p.tables.exec = Jvm.exec) {x y : Int64} (hd : decode c.code pc = .ok (.lxor, 1))  (pc' : Nat) (hp : pc + 1 = pc') (K : Go p e below P (T.setTop (mkF m pc' Ls (.long (x ^^^ y) :: st)))) : Go p e below P (T.setTop (mkF m pc Ls (.long y :: .long x :: st))) := by
  subst hp; exact Go.mv (fun _ h => XS.lxor X.here hx rfl hd rfl h) K
theorem g_ishl (X : Stand p l e R s m args below meth c T locs cells slots) (hx : p.tables.exec = Jvm.exec) {x y : Int32} (hd : decode c.code pc = .ok (.ishl, 1))  (pc' : Nat) (hp : pc + 1 = pc') (K : Go p e below P (T.setTop (mkF m pc' Ls (.int (x <<< (y &&& 31)) :: st)))) : Go p e below P (T.setTop (mkF m pc Ls (.int y :: .int x :: st))) := by
  subst hp; exact Go.mv (fun _ h => XS.ishl X.here hx rfl hd rfl h) K
theorem g_ishr (X : Stand p l e R s m args below meth c T locs cells slots) (hx : p.tables.exec = Jvm.exec) {x y : Int32} (hd : decode c.code pc = .ok (.ishr, 1))  (pc' : Nat) (hp : pc + 1 = pc') (K : Go p e below P (T.setTop (mkF m pc' Ls (.int (x >>> (y &&& 31)) :: st)))) : Go p e below P (T.setTop (mkF m pc Ls (.int y :: .int x :: st))) := by
  subst hp; exact Go.mv (fun _ h => XS.ishr X.here hx rfl hd rfl h) K
theorem g_iushr (X : Stand p l e R s m args below meth c T locs cells slots) (hx : p.tables.exec = Jvm.exec) {x y : Int32} (hd : decode c.code pc = .ok (.iushr, 1))  (pc' : Nat) (hp : pc + 1 = pc') (K : Go p e below P (T.setTop (mkF m pc' Ls (.int ((x.toUInt32 >>> (y &&& 31).toUInt32).toInt32) :: st)))) : Go p e below P (T.setTop (mkF m pc Ls (.int y :: .int x :: st))) := by
  subst hp; exact Go.mv (fun _ h => XS.iushr X.here hx rfl hd rfl h) K
theorem g_lshl (X : Stand p l e R s m args below meth c T locs cells slots) (hx : p.tables.exec = Jvm.exec) {x : Int64} {y : Int32} (hd : decode c.code pc = .ok (.lshl, 1))  (pc' : Nat) (hp : pc + 1 = pc') (K : Go p e below P (T.setTop (mkF m pc' Ls (.long (x <<< (y &&& 0x3f).toInt64) :: st)))) : Go p e below P (T.setTop (mkF m pc Ls (.int y :: .long x :: st))) := by
  subst hp; exact Go.mv (fun _ h => XS.lshl X.here hx rfl hd rfl h) K
theorem g_lushr (X : Stand p l e R s m args below meth c T locs cells slots) (hx : p.tables.exec = Jvm.exec) {x : Int64} {y : Int32} (hd : decode c.code pc = .ok (.lushr, 1))  (pc' : Nat) (hp : pc + 1 = pc') (K : Go p e below P (T.setTop (mkF m pc' Ls (.long ((x.toUInt64 >>> (y &&& 0x3f).toInt64.toUInt64).toInt64) :: st)))) : Go p e below P (T.setTop (mkF m pc Ls (.int y :: .long x :: st))) := by
  subst hp; exact Go.mv (fun _ h => XS.lushr X.here hx rfl hd rfl h) K
theorem g_ineg (X : Stand p l e R s m args below meth c T locs cells slots) (hx : p.tables.exec = Jvm.exec) {x : Int32} (hd : decode c.code pc = .ok (.ineg, 1))  (pc' : Nat) (hp : pc + 1 = pc') (K : Go p e below P (T.setTop (mkF m pc' Ls (.int (-x) :: st)))) : Go p e below P (T.setTop (mkF m pc Ls (.int x :: st))) := by
  subst hp; exact Go.mv (fun _ h => XS.ineg X.here hx rfl hd rfl h) K
theorem g_lneg (X : Stand p l e R s m args below meth c T locs cells slots) (hx : p.tables.exec = Jvm.exec) {x : Int64} (hd : decode c.code pc = .ok (.lneg, 1))  (pc' : Nat) (hp : pc + 1 = pc') (K : Go p e below P (T.setTop (mkF m pc' Ls (.long (-x) :: st)))) : Go p e below P (T.setTop (mkF m pc Ls (.long x :: st))) := by
  subst hp; exact Go.mv (fun _ h => XS.lneg X.here hx rfl hd rfl h) K
theorem g_i2l (X : Stand p l e R s m args below meth c T locs cells slots) (hx : p.tables.exec = Jvm.exec) {x : Int32} (hd : decode c.code pc = .ok (.i2l, 1))  (pc' : Nat) (hp : pc + 1 = pc') (K : Go p e below P (T.setTop (mkF m pc' Ls (.long (x.toInt64) :: st)))) : Go p e below P (T.setTop (mkF m pc Ls (.int x :: st))) := by
  subst hp; exact Go.mv (fun _ h => XS.i2l X.here hx rfl hd rfl h) K
theorem g_l2i (X : Stand p l e R s m args below meth c T locs cells slots) (hx : p.tables.exec = Jvm.exec) {x : Int64} (hd : decode c.code pc = .ok (.l2i, 1))  (pc' : Nat) (hp : pc + 1 = pc') (K : Go p e below P (T.setTop (mkF m pc' Ls (.int (x.toInt32) :: st)))) : Go p e below P (T.setTop (mkF m pc Ls (.long x :: st))) := by
  subst hp; exact Go.mv (fun _ h => XS.l2i X.here hx rfl hd rfl h) K
theorem g_i2b (X : Stand p l e R s m args below meth c T locs cells slots) (hx : p.tables.exec = Jvm.exec) {x : Int32} (hd : decode c.code pc = .ok (.i2b, 1))  (pc' : Nat) (hp : pc + 1 = pc') (K : Go p e below P (T.setTop (mkF m pc' Ls (.int (x.toInt8.toInt32) :: st)))) : Go p e below P (T.setTop (mkF m pc Ls (.int x :: st))) := by
  subst hp; exact Go.mv (fun _ h => XS.i2b X.here hx rfl hd rfl h) K
theorem g_i2s (X : Stand p l e R s m args below meth c T locs cells slots) (hx : p.tables.exec = Jvm.exec) {x : Int32} (hd : decode c.code pc = .ok (.i2s, 1))  (pc' : Nat) (hp : pc + 1 = pc') (K : Go p e below P (T.setTop (mkF m pc' Ls (.int (x.toInt16.toInt32) :: st)))) : Go p e below P (T.setTop (mkF m pc Ls (.int x :: st))) := by
  subst hp; exact Go.mv (fun _ h => XS.i2s X.here hx rfl hd rfl h) K
theorem g_i2c (X : Stand p l e R s m args below meth c T locs cells slots) (hx : p.tables.exec = Jvm.exec) {x : Int32} (hd : decode c.code pc = .ok (.i2c, 1))  (pc' : Nat) (hp : pc + 1 = pc') (K : Go p e below P (T.setTop (mkF m pc' Ls (.int (x.toUInt32.toUInt16.toUInt32.toInt32) :: st)))) : Go p e below P (T.setTop (mkF m pc Ls (.int x :: st))) := by
  subst hp; exact Go.mv (fun _ h => XS.i2c X.here hx rfl hd rfl h) K
theorem g_lcmp (X : Stand p l e R s m args below meth c T locs cells slots) (hx : p.tables.exec = Jvm.exec) {x y : Int64} (hd : decode c.code pc = .ok (.lcmp, 1))  (pc' : Nat) (hp : pc + 1 = pc') (K : Go p e below P (T.setTop (mkF m pc' Ls (.int (lcmpW x y) :: st)))) : Go p e below P (T.setTop (mkF m pc Ls (.long y :: .long x :: st))) := by
  subst hp; exact Go.mv (fun _ h => XS.lcmp X.here hx rfl hd rfl h) K
theorem g_idiv (X : Stand p l e R s m args below meth c T locs cells slots) (hx : p.tables.exec = Jvm.exec) {x y : Int32} (hd : decode c.code pc = .ok (.idiv, 1)) (hy : y ≠ 0) (pc' : Nat) (hp : pc + 1 = pc') (K : Go p e below P (T.setTop (mkF m pc' Ls (.int (x / y) :: st)))) : Go p e below P (T.setTop (mkF m pc Ls (.int y :: .int x :: st))) := by
  subst hp; exact Go.mv (fun _ h => XS.idiv X.here hx rfl hd rfl hy h) K
theorem g_ldiv (X : Stand p l e R s m args below meth c T locs cells slots) (hx : p.tables.exec = Jvm.exec) {x y : Int64} (hd : decode c.code pc = .ok (.ldiv, 1)) (hy : y ≠ 0) (pc' : Nat) (hp : pc + 1 = pc') (K : Go p e below P (T.setTop (mkF m pc' Ls (.long (x / y) :: st)))) : Go p e below P (T.setTop (mkF m pc Ls (.long y :: .long x :: st))) := by
  subst hp; exact Go.mv (fun _ h => XS.ldiv X.here hx rfl hd rfl hy h) K
theorem g_irem (X : Stand p l e R s m args below meth c T locs cells slots) (hx : p.tables.exec = Jvm.exec) {x y : Int32} (hd : decode c.code pc = .ok (.irem, 1)) (hy : y ≠ 0) (pc' : Nat) (hp : pc + 1 = pc') (K : Go p e below P (T.setTop (mkF m pc' Ls (.int (x % y) :: st)))) : Go p e below P (T.setTop (mkF m pc Ls (.int y :: .int x :: st))) := by
  subst hp; exact Go.mv (fun _ h => iremM X hx rfl hd rfl hy h) K
theorem lrem_eq_mod (x y : Int64) : x - (x / y) * y = x % y := by
  apply Int64.toInt_inj.mp
  have h1 := Int64.le_toInt (x % y)
  have h2 := Int64.toInt_lt (x % y)
  rw [Int64.toInt_sub, Int64.toInt_mul, Int64.toInt_div, Int.bmod_mul_bmod, Int.sub_bmod_bmod, Int.mul_comm (x.toInt.tdiv y.toInt), ← Int.tmod_def, ← Int64.toInt_mod]
  exact Int.bmod_eq_of_le_mul_two (by omega) (by omega)
theorem g_lrem (X : Stand p l e R s m args below meth c T locs cells slots) (hx : p.tables.exec = Jvm.exec) {x y : Int64} (hd : decode c.code pc = .ok (.lrem, 1)) (hy : y ≠ 0) (pc' : Nat) (hp : pc + 1 = pc') (K : Go p e below P (T.setTop (mkF m pc' Ls (.long (x % y) :: st)))) : Go p e below P (T.setTop (mkF m pc Ls (.long y :: .long x :: st))) := by
  subst hp; rw [← lrem_eq_mod] at K; exact Go.mv (fun _ h => XS.lrem X.here hx rfl hd rfl hy h) K
theorem g_dup (X : Stand p l e R s m args below meth c T locs cells slots) (hx : p.tables.exec = Jvm.exec) {x : Value} (hd : decode c.code pc = .ok (.dup, 1)) (hc : x.category = 1) (pc' : Nat) (hp : pc + 1 = pc') (K : Go p e below P (T.setTop (mkF m pc' Ls (x :: x :: st)))) : Go p e below P (T.setTop (mkF m pc Ls (x :: st))) := by
  subst hp; exact Go.mv (fun _ h => XS.dup X.here hx rfl hd rfl hc h) K
theorem g_pop (X : Stand p l e R s m args below meth c T locs cells slots) (hx : p.tables.exec = Jvm.exec) {x : Value} (hd : decode c.code pc = .ok (.pop, 1)) (hc : x.category = 1) (pc' : Nat) (hp : pc + 1 = pc') (K : Go p e below P (T.setTop (mkF m pc' Ls st))) : Go p e below P (T.setTop (mkF m pc Ls (x :: st))) := by
  subst hp; exact Go.mv (fun _ h => XS.pop X.here hx rfl hd rfl hc h) K
theorem g_dupX1 (X : Stand p l e R s m args below meth c T locs cells slots) (hx : p.tables.exec = Jvm.exec) {x y : Value} (hd : decode c.code pc = .ok (.dup_x1, 1)) (hc : x.category = 1) (hc2 : y.category = 1) (pc' : Nat) (hp : pc + 1 = pc') (K : Go p e below P (T.setTop (mkF m pc' Ls (x :: y :: x :: st)))) : Go p e below P (T.setTop (mkF m pc Ls (x :: y :: st))) := by
  subst hp; exact Go.mv (fun _ h => XS.dupX1 X.here hx rfl hd rfl hc hc2 h) K
theorem g_iinc (X : Stand p l e R s m args below meth c T locs cells slots) (hx : p.tables.exec = Jvm.exec) {k : Nat} {cst : Int} {x : Int32} (l' : Array Slot) (hd : decode c.code pc = .ok (.iinc k cst, 3)) (hl : Ls[k]? = some (.val (.int x))) (hl' : storeLocals Ls k (.int (x + Int32.ofInt cst)) = some l') (pc' : Nat) (hp : pc + 3 = pc') (K : Go p e below P (T.setTop (mkF m pc' l' st))) : Go p e below P (T.setTop (mkF m pc Ls st)) := by
  subst hp; exact Go.mv (fun _ h => XS.iinc X.here hx rfl hd hl hl' h) K
theorem g_goto (X : Stand p l e R s m args below meth c T locs cells slots) (hx : p.tables.exec = Jvm.exec) {o : Int} (hd : decode c.code pc = .ok (.goto o, 3)) (pc' : Nat) (hp : ((pc : Int) + o).toNat = pc' ∧ 0 ≤ (pc : Int) + o) (K : Go p e below P (T.setTop (mkF m pc' Ls st))) : Go p e below P (T.setTop (mkF m pc Ls st)) :=
  Go.mv (fun _ h => XS.goto X.here hx rfl (pc0 := pc) (pc' := pc') rfl hd hp.2 hp.1 h) K
theorem g_icmp_lt_t (X : Stand p l e R s m args below meth c T locs cells slots) (hx : p.tables.exec = Jvm.exec) {x y : Int32} {o : Int} (hd : decode c.code pc = .ok (.if_icmp .lt o, 3)) (h : x < y) (pc' : Nat) (hp : ((pc : Int) + o).toNat = pc' ∧ 0 ≤ (pc : Int) + o) (K : Go p e below P (T.setTop (mkF m pc' Ls st))) : Go p e below P (T.setTop (mkF m pc Ls (.int y :: .int x :: st))) :=
  Go.mv (fun _ q => XS.icmpYes X.here hx rfl (pc0 := pc) (pc' := pc') rfl hd rfl (tlt h).1 hp.2 hp.1 q) K
theorem g_icmp_lt_f (X : Stand p l e R s m args below meth c T locs cells slots) (hx : p.tables.exec = Jvm.exec) {x y : Int32} {o : Int} (hd : decode c.code pc = .ok (.if_icmp .lt o, 3)) (h : ¬ x < y) (pc' : Nat) (hp : pc + 3 = pc') (K : Go p e below P (T.setTop (mkF m pc' Ls st))) : Go p e below P (T.setTop (mkF m pc Ls (.int y :: .int x :: st))) := by
  subst hp; exact Go.mv (fun _ q => XS.icmpNo X.here hx rfl hd rfl (flt h).1 q) K
theorem g_icmp_lt (X : Stand p l e R s m args below meth c T locs cells slots) (hx : p.tables.exec = Jvm.exec) {x y : Int32} {o : Int} (hd : decode c.code pc = .ok (.if_icmp .lt o, 3)) (pcT pcF : Nat) (hT : ((pc : Int) + o).toNat = pcT ∧ 0 ≤ (pc : Int) + o) (hF : pc + 3 = pcF) (KT : (x < y) → Go p e below P (T.setTop (mkF m pcT Ls st))) (KF : (¬ x < y) → Go p e below P (T.setTop (mkF m pcF Ls st))) : Go p e below P (T.setTop (mkF m pc Ls (.int y :: .int x :: st))) := by
  by_cases h : x < y
  · exact g_icmp_lt_t X hx hd h _ hT (KT h)
  · exact g_icmp_lt_f X hx hd h _ hF (KF h)
theorem g_if_lt_t (X : Stand p l e R s m args below meth c T locs cells slots) (hx : p.tables.exec = Jvm.exec) {x : Int32} {o : Int} (hd : decode c.code pc = .ok (.ifCond .lt o, 3)) (h : x < 0) (pc' : Nat) (hp : ((pc : Int) + o).toNat = pc' ∧ 0 ≤ (pc : Int) + o) (K : Go p e below P (T.setTop (mkF m pc' Ls st))) : Go p e below P (T.setTop (mkF m pc Ls (.int x :: st))) :=
  Go.mv (fun _ q => XS.ifYes X.here hx rfl (pc0 := pc) (pc' := pc') rfl hd rfl ((if0 _ _).trans (tlt h).1) hp.2 hp.1 q) K
theorem g_if_lt_f (X : Stand p l e R s m args below meth c T locs cells slots) (hx : p.tables.exec = Jvm.exec) {x : Int32} {o : Int} (hd : decode c.code pc = .ok (.ifCond .lt o, 3)) (h : ¬ x < 0) (pc' : Nat) (hp : pc + 3 = pc') (K : Go p e below P (T.setTop (mkF m pc' Ls st))) : Go p e below P (T.setTop (mkF m pc Ls (.int x :: st))) := by
  subst hp; exact Go.mv (fun _ q => XS.ifNo X.here hx rfl hd rfl ((if0 _ _).trans (flt h).1) q) K
theorem g_if_lt (X : Stand p l e R s m args below meth c T locs cells slots) (hx : p.tables.exec = Jvm.exec) {x : Int32} {o : Int} (hd : decode c.code pc = .ok (.ifCond .lt o, 3)) (pcT pcF : Nat) (hT : ((pc : Int) + o).toNat = pcT ∧ 0 ≤ (pc : Int) + o) (hF : pc + 3 = pcF) (KT : (x < 0) → Go p e below P (T.setTop (mkF m pcT Ls st))) (KF : (¬ x < 0) → Go p e below P (T.setTop (mkF m pcF Ls st))) : Go p e below P (T.setTop (mkF m pc Ls (.int x :: st))) := by
  by_cases h : x < 0
  · exact g_if_lt_t X hx hd h _ hT (KT h)
  · exact g_if_lt_f X hx hd h _ hF (KF h)
theorem g_icmp_ge_t (X : Stand p l e R s m args below meth c T locs cells slots) (hx : p.tables.exec = Jvm.exec) {x y : Int32} {o : Int} (hd : decode c.code pc = .ok (.if_icmp .ge o, 3)) (h : ¬ x < y) (pc' : Nat) (hp : ((pc : Int) + o).toNat = pc' ∧ 0 ≤ (pc : Int) + o) (K : Go p e below P (T.setTop (mkF m pc' Ls st))) : Go p e below P (T.setTop (mkF m pc Ls (.int y :: .int x :: st))) :=
  Go.mv (fun _ q => XS.icmpYes X.here hx rfl (pc0 := pc) (pc' := pc') rfl hd rfl (flt h).2.1 hp.2 hp.1 q) K
theorem g_icmp_ge_f (X : Stand p l e R s m args below meth c T locs cells slots) (hx : p.tables.exec = Jvm.exec) {x y : Int32} {o : Int} (hd : decode c.code pc = .ok (.if_icmp .ge o, 3)) (h : x < y) (pc' : Nat) (hp : pc + 3 = pc') (K : Go p e below P (T.setTop (mkF m pc' Ls st))) : Go p e below P (T.setTop (mkF m pc Ls (.int y :: .int x :: st))) := by
  subst hp; exact Go.mv (fun _ q => XS.icmpNo X.here hx rfl hd rfl (tlt h).2.1 q) K
theorem g_icmp_ge (X : Stand p l e R s m args below meth c T locs cells slots) (hx : p.tables.exec = Jvm.exec) {x y : Int32} {o : Int} (hd : decode c.code pc = .ok (.if_icmp .ge o, 3)) (pcT pcF : Nat) (hT : ((pc : Int) + o).toNat = pcT ∧ 0 ≤ (pc : Int) + o) (hF : pc + 3 = pcF) (KT : (¬ x < y) → Go p e below P (T.setTop (mkF m pcT Ls st))) (KF : (x < y) → Go p e below P (T.setTop (mkF m pcF Ls st))) : Go p e below P (T.setTop (mkF m pc Ls (.int y :: .int x :: st))) := by
  by_cases h : x < y
  · exact g_icmp_ge_f X hx hd h _ hF (KF h)
  · exact g_icmp_ge_t X hx hd h _ hT (KT h)
theorem g_if_ge_t (X : Stand p l e R s m args below meth c T locs cells slots) (hx : p.tables.exec = Jvm.exec) {x : Int32} {o : Int} (hd : decode c.code pc = .ok (.ifCond .ge o, 3)) (h : ¬ x < 0) (pc' : Nat) (hp : ((pc : Int) + o).toNat = pc' ∧ 0 ≤ (pc : Int) + o) (K : Go p e below P (T.setTop (mkF m pc' Ls st))) : Go p e below P (T.setTop (mkF m pc Ls (.int x :: st))) :=
  Go.mv (fun _ q => XS.ifYes X.here hx rfl (pc0 := pc) (pc' := pc') rfl hd rfl ((if0 _ _).trans (flt h).2.1) hp.2 hp.1 q) K
theorem g_if_ge_f (X : Stand p l e R s m args below meth c T locs cells slots) (hx : p.tables.exec = Jvm.exec) {x : Int32} {o : Int} (hd : decode c.code pc = .ok (.ifCond .ge o, 3)) (h : x < 0) (pc' : Nat) (hp : pc + 3 = pc') (K : Go p e below P (T.setTop (mkF m pc' Ls st))) : Go p e below P (T.setTop (mkF m pc Ls (.int x :: st))) := by
  subst hp; exact Go.mv (fun _ q => XS.ifNo X.here hx rfl hd rfl ((if0 _ _).trans (tlt h).2.1) q) K
theorem g_if_ge (X : Stand p l e R s m args below meth c T locs cells slots) (hx : p.tables.exec = Jvm.exec) {x : Int32} {o : Int} (hd : decode c.code pc = .ok (.ifCond .ge o, 3)) (pcT pcF : Nat) (hT : ((pc : Int) + o).toNat = pcT ∧ 0 ≤ (pc : Int) + o) (hF : pc + 3 = pcF) (KT : (¬ x < 0) → Go p e below P (T.setTop (mkF m pcT Ls st))) (KF : (x < 0) → Go p e below P (T.setTop (mkF m pcF Ls st))) : Go p e below P (T.setTop (mkF m pc Ls (.int x :: st))) := by
  by_cases h : x < 0
  · exact g_if_ge_f X hx hd h _ hF (KF h)
  · exact g_if_ge_t X hx hd h _ hT (KT h)
theorem g_icmp_gt_t (X : Stand p l e R s m args below meth c T locs cells slots) (hx : p.tables.exec = Jvm.exec) {x y : Int32} {o : Int} (hd : decode c.code pc = .ok (.if_icmp .gt o, 3)) (h : y < x) (pc' : Nat) (hp : ((pc : Int) + o).toNat = pc' ∧ 0 ≤ (pc : Int) + o) (K : Go p e below P (T.setTop (mkF m pc' Ls st))) : Go p e below P (T.setTop (mkF m pc Ls (.int y :: .int x :: st))) :=
  Go.mv (fun _ q => XS.icmpYes X.here hx rfl (pc0 := pc) (pc' := pc') rfl hd rfl (tlt h).2.2.1 hp.2 hp.1 q) K
theorem g_icmp_gt_f (X : Stand p l e R s m args below meth c T locs cells slots) (hx : p.tables.exec = Jvm.exec) {x y : Int32} {o : Int} (hd : decode c.code pc = .ok (.if_icmp .gt o, 3)) (h : ¬ y < x) (pc' : Nat) (hp : pc + 3 = pc') (K : Go p e below P (T.setTop (mkF m pc' Ls st))) : Go p e below P (T.setTop (mkF m pc Ls (.int y :: .int x :: st))) := by
  subst hp; exact Go.mv (fun _ q => XS.icmpNo X.here hx rfl hd rfl (flt h).2.2.1 q) K
theorem g_icmp_gt (X : Stand p l e R s m args below meth c T locs cells slots) (hx : p.tables.exec = Jvm.exec) {x y : Int32} {o : Int} (hd : decode c.code pc = .ok (.if_icmp .gt o, 3)) (pcT pcF : Nat) (hT : ((pc : Int) + o).toNat = pcT ∧ 0 ≤ (pc : Int) + o) (hF : pc + 3 = pcF) (KT : (y < x) → Go p e below P (T.setTop (mkF m pcT Ls st))) (KF : (¬ y < x) → Go p e below P (T.setTop (mkF m pcF Ls st))) : Go p e below P (T.setTop (mkF m pc Ls (.int y :: .int x :: st))) := by
  by_cases h : y < x
  · exact g_icmp_gt_t X hx hd h _ hT (KT h)
  · exact g_icmp_gt_f X hx hd h _ hF (KF h)
theorem g_if_gt_t (X : Stand p l e R s m args below meth c T locs cells slots) (hx : p.tables.exec = Jvm.exec) {x : Int32} {o : Int} (hd : decode c.code pc = .ok (.ifCond .gt o, 3)) (h : 0 < x) (pc' : Nat) (hp : ((pc : Int) + o).toNat = pc' ∧ 0 ≤ (pc : Int) + o) (K : Go p e below P (T.setTop (mkF m pc' Ls st))) : Go p e below P (T.setTop (mkF m pc Ls (.int x :: st))) :=
  Go.mv (fun _ q => XS.ifYes X.here hx rfl (pc0 := pc) (pc' := pc') rfl hd rfl ((if0 _ _).trans (tlt h).2.2.1) hp.2 hp.1 q) K
theorem g_if_gt_f (X : Stand p l e R s m args below meth c T locs cells slots) (hx : p.tables.exec = Jvm.exec) {x : Int32} {o : Int} (hd : decode c.code pc = .ok (.ifCond .gt o, 3)) (h : ¬ 0 < x) (pc' : Nat) (hp : pc + 3 = pc') (K : Go p e below P (T.setTop (mkF m pc' Ls st))) : Go p e below P (T.setTop (mkF m pc Ls (.int x :: st))) := by
  subst hp; exact Go.mv (fun _ q => XS.ifNo X.here hx rfl hd rfl ((if0 _ _).trans (flt h).2.2.1) q) K
theorem g_if_gt (X : Stand p l e R s m args below meth c T locs cells slots) (hx : p.tables.exec = Jvm.exec) {x : Int32} {o : Int} (hd : decode c.code pc = .ok (.ifCond .gt o, 3)) (pcT pcF : Nat) (hT : ((pc : Int) + o).toNat = pcT ∧ 0 ≤ (pc : Int) + o) (hF : pc + 3 = pcF) (KT : (0 < x) → Go p e below P (T.setTop (mkF m pcT Ls st))) (KF : (¬ 0 < x) → Go p e below P (T.setTop (mkF m pcF Ls st))) : Go p e below P (T.setTop (mkF m pc Ls (.int x :: st))) := by
  by_cases h : 0 < x
  · exact g_if_gt_t X hx hd h _ hT (KT h)
  · exact g_if_gt_f X hx hd h _ hF (KF h)
theorem g_icmp_le_t (X : Stand p l e R s m args below meth c T locs cells slots) (hx : p.tables.exec = Jvm.exec) {x y : Int32} {o : Int} (hd : decode c.code pc = .ok (.if_icmp .le o, 3)) (h : ¬ y < x) (pc' : Nat) (hp : ((pc : Int) + o).toNat = pc' ∧ 0 ≤ (pc : Int) + o) (K : Go p e below P (T.setTop (mkF m pc' Ls st))) : Go p e below P (T.setTop (mkF m pc Ls (.int y :: .int x :: st))) :=
  Go.mv (fun _ q => XS.icmpYes X.here hx rfl (pc0 := pc) (pc' := pc') rfl hd rfl (flt h).2.2.2 hp.2 hp.1 q) K
theorem g_icmp_le_f (X : Stand p l e R s m args below meth c T locs cells slots) (hx : p.tables.exec = Jvm.exec) {x y : Int32} {o : Int} (hd : decode c.code pc = .ok (.if_icmp .le o, 3)) (h : y < x) (pc' : Nat) (hp : pc + 3 = pc') (K : Go p e below P (T.setTop (mkF m pc' Ls st))) : Go p e below P (T.setTop (mkF m pc Ls (.int y :: .int x :: st))) := by
  subst hp; exact Go.mv (fun _ q => XS.icmpNo X.here hx rfl hd rfl (tlt h).2.2.2 q) K
theorem g_icmp_le (X : Stand p l e R s m args below meth c T locs cells slots) (hx : p.tables.exec = Jvm.exec) {x y : Int32} {o : Int} (hd : decode c.code pc = .ok (.if_icmp .le o, 3)) (pcT pcF : Nat) (hT : ((pc : Int) + o).toNat = pcT ∧ 0 ≤ (pc : Int) + o) (hF : pc + 3 = pcF) (KT : (¬ y < x) → Go p e below P (T.setTop (mkF m pcT Ls st))) (KF : (y < x) → Go p e below P (T.setTop (mkF m pcF Ls st))) : Go p e below P (T.setTop (mkF m pc Ls (.int y :: .int x :: st))) := by
  by_cases h : y < x
  · exact g_icmp_le_f X hx hd h _ hF (KF h)
  · exact g_icmp_le_t X hx hd h _ hT (KT h)
theorem g_if_le_t (X : Stand p l e R s m args below meth c T locs cells slots) (hx : p.tables.exec = Jvm.exec) {x : Int32} {o : Int} (hd : decode c.code pc = .ok (.ifCond .le o, 3)) (h : ¬ 0 < x) (pc' : Nat) (hp : ((pc : Int) + o).toNat = pc' ∧ 0 ≤ (pc : Int) + o) (K : Go p e below P (T.setTop (mkF m pc' Ls st))) : Go p e below P (T.setTop (mkF m pc Ls (.int x :: st))) :=
  Go.mv (fun _ q => XS.ifYes X.here hx rfl (pc0 := pc) (pc' := pc') rfl hd rfl ((if0 _ _).trans (flt h).2.2.2) hp.2 hp.1 q) K
theorem g_if_le_f (X : Stand p l e R s m args below meth c T locs cells slots) (hx : p.tables.exec = Jvm.exec) {x : Int32} {o : Int} (hd : decode c.code pc = .ok (.ifCond .le o, 3)) (h : 0 < x) (pc' : Nat) (hp : pc + 3 = pc') (K : Go p e below P (T.setTop (mkF m pc' Ls st))) : Go p e below P (T.setTop (mkF m pc Ls (.int x :: st))) := by
  subst hp; exact Go.mv (fun _ q => XS.ifNo X.here hx rfl hd rfl ((if0 _ _).trans (tlt h).2.2.2) q) K
theorem g_if_le (X : Stand p l e R s m args below meth c T locs cells slots) (hx : p.tables.exec = Jvm.exec) {x : Int32} {o : Int} (hd : decode c.code pc = .ok (.ifCond .le o, 3)) (pcT pcF : Nat) (hT : ((pc : Int) + o).toNat = pcT ∧ 0 ≤ (pc : Int) + o) (hF : pc + 3 = pcF) (KT : (¬ 0 < x) → Go p e below P (T.setTop (mkF m pcT Ls st))) (KF : (0 < x) → Go p e below P (T.setTop (mkF m pcF Ls st))) : Go p e below P (T.setTop (mkF m pc Ls (.int x :: st))) := by
  by_cases h : 0 < x
  · exact g_if_le_f X hx hd h _ hF (KF h)
  · exact g_if_le_t X hx hd h _ hT (KT h)
theorem g_icmp_eq_t (X : Stand p l e R s m args below meth c T locs cells slots) (hx : p.tables.exec = Jvm.exec) {x y : Int32} {o : Int} (hd : decode c.code pc = .ok (.if_icmp .eq o, 3)) (h : x = y) (pc' : Nat) (hp : ((pc : Int) + o).toNat = pc' ∧ 0 ≤ (pc : Int) + o) (K : Go p e below P (T.setTop (mkF m pc' Ls st))) : Go p e below P (T.setTop (mkF m pc Ls (.int y :: .int x :: st))) :=
  Go.mv (fun _ q => XS.icmpYes X.here hx rfl (pc0 := pc) (pc' := pc') rfl hd rfl (teq h).1 hp.2 hp.1 q) K
theorem g_icmp_eq_f (X : Stand p l e R s m args below meth c T locs cells slots) (hx : p.tables.exec = Jvm.exec) {x y : Int32} {o : Int} (hd : decode c.code pc = .ok (.if_icmp .eq o, 3)) (h : ¬ x = y) (pc' : Nat) (hp : pc + 3 = pc') (K : Go p e below P (T.setTop (mkF m pc' Ls st))) : Go p e below P (T.setTop (mkF m pc Ls (.int y :: .int x :: st))) := by
  subst hp; exact Go.mv (fun _ q => XS.icmpNo X.here hx rfl hd rfl (feq h).1 q) K
theorem g_icmp_eq (X : Stand p l e R s m args below meth c T locs cells slots) (hx : p.tables.exec = Jvm.exec) {x y : Int32} {o : Int} (hd : decode c.code pc = .ok (.if_icmp .eq o, 3)) (pcT pcF : Nat) (hT : ((pc : Int) + o).toNat = pcT ∧ 0 ≤ (pc : Int) + o) (hF : pc + 3 = pcF) (KT : (x = y) → Go p e below P (T.setTop (mkF m pcT Ls st))) (KF : (¬ x = y) → Go p e below P (T.setTop (mkF m pcF Ls st))) : Go p e below P (T.setTop (mkF m pc Ls (.int y :: .int x :: st))) := by
  by_cases h : x = y
  · exact g_icmp_eq_t X hx hd h _ hT (KT h)
  · exact g_icmp_eq_f X hx hd h _ hF (KF h)
theorem g_if_eq_t (X : Stand p l e R s m args below meth c T locs cells slots) (hx : p.tables.exec = Jvm.exec) {x : Int32} {o : Int} (hd : decode c.code pc = .ok (.ifCond .eq o, 3)) (h : x = 0) (pc' : Nat) (hp : ((pc : Int) + o).toNat = pc' ∧ 0 ≤ (pc : Int) + o) (K : Go p e below P (T.setTop (mkF m pc' Ls st))) : Go p e below P (T.setTop (mkF m pc Ls (.int x :: st))) :=
  Go.mv (fun _ q => XS.ifYes X.here hx rfl (pc0 := pc) (pc' := pc') rfl hd rfl ((if0 _ _).trans (teq h).1) hp.2 hp.1 q) K
theorem g_if_eq_f (X : Stand p l e R s m args below meth c T locs cells slots) (hx : p.tables.exec = Jvm.exec) {x : Int32} {o : Int} (hd : decode c.code pc = .ok (.ifCond .eq o, 3)) (h : ¬ x = 0) (pc' : Nat) (hp : pc + 3 = pc') (K : Go p e below P (T.setTop (mkF m pc' Ls st))) : Go p e below P (T.setTop (mkF m pc Ls (.int x :: st))) := by
  subst hp; exact Go.mv (fun _ q => XS.ifNo X.here hx rfl hd rfl ((if0 _ _).trans (feq h).1) q) K
theorem g_if_eq (X : Stand p l e R s m args below meth c T locs cells slots) (hx : p.tables.exec = Jvm.exec) {x : Int32} {o : Int} (hd : decode c.code pc = .ok (.ifCond .eq o, 3)) (pcT pcF : Nat) (hT : ((pc : Int) + o).toNat = pcT ∧ 0 ≤ (pc : Int) + o) (hF : pc + 3 = pcF) (KT : (x = 0) → Go p e below P (T.setTop (mkF m pcT Ls st))) (KF : (¬ x = 0) → Go p e below P (T.setTop (mkF m pcF Ls st))) : Go p e below P (T.setTop (mkF m pc Ls (.int x :: st))) := by
  by_cases h : x = 0
  · exact g_if_eq_t X hx hd h _ hT (KT h)
  · exact g_if_eq_f X hx hd h _ hF (KF h)
theorem g_icmp_ne_t (X : Stand p l e R s m args below meth c T locs cells slots) (hx : p.tables.exec = Jvm.exec) {x y : Int32} {o : Int} (hd : decode c.code pc = .ok (.if_icmp .ne o, 3)) (h : ¬ x = y) (pc' : Nat) (hp : ((pc : Int) + o).toNat = pc' ∧ 0 ≤ (pc : Int) + o) (K : Go p e below P (T.setTop (mkF m pc' Ls st))) : Go p e below P (T.setTop (mkF m pc Ls (.int y :: .int x :: st))) :=
  Go.mv (fun _ q => XS.icmpYes X.here hx rfl (pc0 := pc) (pc' := pc') rfl hd rfl (feq h).2 hp.2 hp.1 q) K
theorem g_icmp_ne_f (X : Stand p l e R s m args below meth c T locs cells slots) (hx : p.tables.exec = Jvm.exec) {x y : Int32} {o : Int} (hd : decode c.code pc = .ok (.if_icmp .ne o, 3)) (h : x = y) (pc' : Nat) (hp : pc + 3 = pc') (K : Go p e below P (T.setTop (mkF m pc' Ls st))) : Go p e below P (T.setTop (mkF m pc Ls (.int y :: .int x :: st))) := by
  subst hp; exact Go.mv (fun _ q => XS.icmpNo X.here hx rfl hd rfl (teq h).2 q) K
theorem g_icmp_ne (X : Stand p l e R s m args below meth c T locs cells slots) (hx : p.tables.exec = Jvm.exec) {x y : Int32} {o : Int} (hd : decode c.code pc = .ok (.if_icmp .ne o, 3)) (pcT pcF : Nat) (hT : ((pc : Int) + o).toNat = pcT ∧ 0 ≤ (pc : Int) + o) (hF : pc + 3 = pcF) (KT : (¬ x = y) → Go p e below P (T.setTop (mkF m pcT Ls st))) (KF : (x = y) → Go p e below P (T.setTop (mkF m pcF Ls st))) : Go p e below P (T.setTop (mkF m pc Ls (.int y :: .int x :: st))) := by
  by_cases h : x = y
  · exact g_icmp_ne_f X hx hd h _ hF (KF h)
  · exact g_icmp_ne_t X hx hd h _ hT (KT h)
theorem g_if_ne_t (X : Stand p l e R s m args below meth c T locs cells slots) (hx : p.tables.exec = Jvm.exec) {x : Int32} {o : Int} (hd : decode c.code pc = .ok (.ifCond .ne o, 3)) (h : ¬ x = 0) (pc' : Nat) (hp : ((pc : Int) + o).toNat = pc' ∧ 0 ≤ (pc : Int) + o) (K : Go p e below P (T.setTop (mkF m pc' Ls st))) : Go p e below P (T.setTop (mkF m pc Ls (.int x :: st))) :=
  Go.mv (fun _ q => XS.ifYes X.here hx rfl (pc0 := pc) (pc' := pc') rfl hd rfl ((if0 _ _).trans (feq h).2) hp.2 hp.1 q) K
theorem g_if_ne_f (X : Stand p l e R s m args below meth c T locs cells slots) (hx : p.tables.exec = Jvm.exec) {x : Int32} {o : Int} (hd : decode c.code pc = .ok (.ifCond .ne o, 3)) (h : x = 0) (pc' : Nat) (hp : pc + 3 = pc') (K : Go p e below P (T.setTop (mkF m pc' Ls st))) : Go p e below P (T.setTop (mkF m pc Ls (.int x :: st))) := by
  subst hp; exact Go.mv (fun _ q => XS.ifNo X.here hx rfl hd rfl ((if0 _ _).trans (teq h).2) q) K
theorem g_if_ne (X : Stand p l e R s m args below meth c T locs cells slots) (hx : p.tables.exec = Jvm.exec) {x : Int32} {o : Int} (hd : decode c.code pc = .ok (.ifCond .ne o, 3)) (pcT pcF : Nat) (hT : ((pc : Int) + o).toNat = pcT ∧ 0 ≤ (pc : Int) + o) (hF : pc + 3 = pcF) (KT : (¬ x = 0) → Go p e below P (T.setTop (mkF m pcT Ls st))) (KF : (x = 0) → Go p e below P (T.setTop (mkF m pcF Ls st))) : Go p e below P (T.setTop (mkF m pc Ls (.int x :: st))) := by
  by_cases h : x = 0
  · exact g_if_ne_f X hx hd h _ hF (KF h)
  · exact g_if_ne_t X hx hd h _ hT (KT h)
theorem g_ifnull_t (X : Stand p l e R s m args below meth c T locs cells slots) (hx : p.tables.exec = Jvm.exec)  {o : Int} (hd : decode c.code pc = .ok (.ifnull o, 3)) (pc' : Nat) (hp : ((pc : Int) + o).toNat = pc' ∧ 0 ≤ (pc : Int) + o) (K : Go p e below P (T.setTop (mkF m pc' Ls st))) : Go p e below P (T.setTop (mkF m pc Ls (.null :: st))) :=
  Go.mv (fun _ q => XS.ifnullYes X.here hx rfl (pc0 := pc) (pc' := pc') rfl hd rfl hp.2 hp.1 q) K
theorem g_ifnull_f (X : Stand p l e R s m args below meth c T locs cells slots) (hx : p.tables.exec = Jvm.exec) {b : Addr} {o : Int} (hd : decode c.code pc = .ok (.ifnull o, 3)) (pc' : Nat) (hp : pc + 3 = pc') (K : Go p e below P (T.setTop (mkF m pc' Ls st))) : Go p e below P (T.setTop (mkF m pc Ls (.ref b :: st))) := by
  subst hp; exact Go.mv (fun _ q => XS.ifnullNo X.here hx rfl hd rfl q) K
theorem g_ifnonnull_t (X : Stand p l e R s m args below meth c T locs cells slots) (hx : p.tables.exec = Jvm.exec) {b : Addr} {o : Int} (hd : decode c.code pc = .ok (.ifnonnull o, 3)) (pc' : Nat) (hp : ((pc : Int) + o).toNat = pc' ∧ 0 ≤ (pc : Int) + o) (K : Go p e below P (T.setTop (mkF m pc' Ls st))) : Go p e below P (T.setTop (mkF m pc Ls (.ref b :: st))) :=
  Go.mv (fun _ q => XS.ifnonnullYes X.here hx rfl (pc0 := pc) (pc' := pc') rfl hd rfl hp.2 hp.1 q) K
theorem g_ifnonnull_f (X : Stand p l e R s m args below meth c T locs cells slots) (hx : p.tables.exec = Jvm.exec)  {o : Int} (hd : decode c.code pc = .ok (.ifnonnull o, 3)) (pc' : Nat) (hp : pc + 3 = pc') (K : Go p e below P (T.setTop (mkF m pc' Ls st))) : Go p e below P (T.setTop (mkF m pc Ls (.null :: st))) := by
  subst hp; exact Go.mv (fun _ q => XS.ifnonnullNo X.here hx rfl hd rfl q) K
theorem g_acmp (X : Stand p l e R s m args below meth c T locs cells slots) (hx : p.tables.exec = Jvm.exec) {cd : ACond} {x y : Value} (h1 : x.isRef = true) (h2 : y.isRef = true) {o : Int} (hd : decode c.code pc = .ok (.if_acmp cd o, 3)) (same : Bool) (hq : decide (x = y) = same) (pc' : Nat) (hp : (pc' = if acV cd same = true then ((pc : Int) + o).toNat else pc + 3) ∧ 0 ≤ (pc : Int) + o) (K : Go p e below P (T.setTop (mkF m pc' Ls st))) : Go p e below P (T.setTop (mkF m pc Ls (y :: x :: st))) :=
  Go.mv (fun _ q => Jvm.RoadKit.acmp (g := mkF m pc Ls (y :: x :: st)) X hx rfl h1 h2 (pc0 := pc) (pc' := pc') (same := same) rfl hd rfl hq hp.2 hp.1 q) K
end Steps
section Laws
variable {p : Program} {l : Launch} {e : Env} {R : Room} {s : State} {m : MethodId} {args : Array Value} {below : List Frame} {meth : Method} {c : Code} {T : State} {locs : List Loc} {cells slots : Nat} {P : Outcome → State → Prop} {pc : Nat} {Ls : Array Slot} {st : List Value} {Z : State} {a0 : Array Value} {h : Heap}
theorem g_getF (X : Stand p l e R s m args below meth c T locs cells slots) (hx : p.tables.exec = Jvm.exec) (hZ : Z.Warmed39 s.vm) {own R0 O n d host : String} {index : Nat} (hown : s.vm.findClass own = some m.cls) (w : (Cond.fieldLink own index R0 n d).before a0 Z = true ∨ (Cond.fieldLinkNest own index R0 n d host).before a0 Z = true) (via : Via Z R0 O n d)
    (eT : T.heap = h) {a : Addr} {v : Value} (F : Fld Z h a O n d v) (hd : decode c.code pc = .ok (.getfield index, 3)) (pc' : Nat) (hp : pc + 3 = pc')
    (K : ∀ T', Stand p l e R s m args below meth c T' locs cells slots → T'.heap = h → Go p e below P (T'.setTop (mkF m pc' Ls (v :: st)))) : Go p e below P (T.setTop (mkF m pc Ls (.ref a :: st))) := by
  subst hp
  obtain ⟨T', X', e', k⟩ := getF X hx hZ hown w via eT F (g := mkF m pc Ls (.ref a :: st)) rfl rfl hd
  exact Go.mv k (K T' X' e')
theorem g_putF (X : Stand p l e R s m args below meth c T locs cells slots) (hx : p.tables.exec = Jvm.exec) (hZ : Z.Warmed39 s.vm) {own R0 O n d host C : String} {index kk : Nat} {ty : FieldType} (hown : s.vm.findClass own = some m.cls) (w : (Cond.fieldLink own index R0 n d).before a0 Z = true ∨ (Cond.fieldLinkNest own index R0 n d host).before a0 Z = true) (via : Via Z R0 O n d)
    (eT : T.heap = h) {a : Addr} {v old : Value} (F : Fld Z h a O n d old) (E : Exa Z h a C) (L : (Cond.lays C O n d).before a0 Z = true ∨ ((Cond.laysFinal C O n d).before a0 Z = true ∧ own = O ∧ meth.name = "<init>")) (wi : (Cond.instantiable C kk).before a0 Z = true)
    (hty : parseFieldDescriptor d = some ty) (hn : narrow ty v = v) (hf : fits ty v = true) (hd : decode c.code pc = .ok (.putfield index, 3)) (pc' : Nat) (hp : pc + 3 = pc')
    (K : ∀ T' h', Stand p l e R s m args below meth c T' (locs ++ [⟨a, Jvm.RoadKit.slotOf Z O n d⟩]) cells slots → T'.heap = h' → Wr h h' a (Jvm.RoadKit.slotOf Z O n d) v → Fld Z h' a O n d v → Exa Z h' a C → Go p e below P (T'.setTop (mkF m pc' Ls st))) : Go p e below P (T.setTop (mkF m pc Ls (v :: .ref a :: st))) := by
  subst hp
  obtain ⟨T', h', X', e', W, k⟩ := putF X hx hZ hown w via eT F E L wi hty hn hf (g := mkF m pc Ls (v :: .ref a :: st)) rfl rfl hd
  exact Go.mv k (K T' h' X' e' W (F.same W) (E.wr W))
theorem g_getS (X : Stand p l e R s m args below meth c T locs cells slots) (hx : p.tables.exec = Jvm.exec) (hZ : Z.Warmed39 s.vm) {own R0 O n d host : String} {index : Nat} (hown : s.vm.findClass own = some m.cls) (w : (Cond.fieldLink own index R0 n d).before a0 Z = true ∨ (Cond.fieldLinkNest own index R0 n d host).before a0 Z = true) (via : Via Z R0 O n d)
    (eT : T.heap = h) {v : Value} (F : Sta Z h O n d v) (hd : decode c.code pc = .ok (.getstatic index, 3)) (pc' : Nat) (hp : pc + 3 = pc')
    (K : ∀ T', Stand p l e R s m args below meth c T' locs cells slots → T'.heap = h → Go p e below P (T'.setTop (mkF m pc' Ls (v :: st)))) : Go p e below P (T.setTop (mkF m pc Ls st)) := by
  subst hp
  obtain ⟨T', X', e', k⟩ := getS2 X hx hZ hown w via eT F (g := mkF m pc Ls st) rfl hd
  exact Go.mv k (K T' X' e')
theorem g_new (X : Stand p l e R s m args below meth c T locs cells slots) (hx : p.tables.exec = Jvm.exec) (hZ : Z.Warmed39 s.vm) {own C : String} {index n : Nat} (hown : s.vm.findClass own = some m.cls) (w : (Cond.classLink own index C).before a0 Z = true) (wi : (Cond.instantiable C n).before a0 Z = true) (wz : (Cond.initialized C).before a0 Z = true) (eT : T.heap = h)
    (hd : decode c.code pc = .ok (.new index, 3)) (hc : cells + 1 ≤ R.cells) (hl : slots + n ≤ R.slots) (pc' : Nat) (hp : pc + 3 = pc')
    (K : ∀ T' h' b, Stand p l e R s m args below meth c T' locs (cells + 1) (slots + n) → T'.heap = h' → Ext h h' → b = h.size → Exa Z h' b C → (∀ {O nm d : String} {ty : FieldType}, Laid Z a0 C O nm d → parseFieldDescriptor d = some ty → Fld Z h' b O nm d (defaultValue ty)) → Go p e below P (T'.setTop (mkF m pc' Ls (.ref b :: st)))) : Go p e below P (T.setTop (mkF m pc Ls st)) := by
  subst hp
  obtain ⟨T', h', X', e', E, A, D, -, k⟩ := newO X hx hZ hown w wi wz eT (g := mkF m pc Ls st) rfl hd hc hl
  exact Go.mv k (K T' h' h.size X' e' E rfl A D)
theorem g_initO (X : Stand p l e R s m args below meth c T locs cells slots) (hx : p.tables.exec = Jvm.exec) (hZ : Z.Warmed39 s.vm) {own : String} {idx : Nat} (hown : s.vm.findClass own = some m.cls) (w1 : (Cond.methodLink own idx Lib.objectInit).before a0 Z = true) (w2 : (Cond.instanceMethod Lib.objectInit).before a0 Z = true)
    (w3 : (Cond.code Lib.objectInit ⟨#[0xb1]⟩ 1 none).before a0 Z = true) (eT : T.heap = h) (hsize : Ls.size = c.maxLocals) {a : Addr} (hd : decode c.code pc = .ok (.invokespecial idx, 3)) (hf : 1 ≤ R.frames) {W : Nat} (hW : (st.map fun v => v.category).sum ≤ W) (hl : W + 12 ≤ R.locals) (pc' : Nat) (hp : pc + 3 = pc')
    (K : ∀ T', Stand p l e R s m args below meth c T' locs cells slots → T'.heap = h → Go p e below P (T'.setTop (mkF m pc' Ls st))) : Go p e below P (T.setTop (mkF m pc Ls (.ref a :: st))) := by
  subst hp
  obtain ⟨T', X', e', k⟩ := initO X hx hZ hown w1 w2 w3 eT (g := mkF m pc Ls (.ref a :: st)) rfl hsize rfl hd hf (W := W) (by show 2 * 0 + _ ≤ _; omega) hl
  exact Go.mv k (K T' X' e')
theorem g_newP (X : Stand p l e R s m args below meth c T locs cells slots) (hx : p.tables.exec = Jvm.exec) (hZ : Z.Warmed39 s.vm) {aty : ArrayType} (w : (Cond.arrayClass (newarray.typeOf aty)).before a0 Z = true) (eT : T.heap = h) (hd : decode c.code pc = .ok (.newarray aty, 2)) {n : Int32}
    (hn : ¬ n < 0) (cap : Nat) (hcap : n.toNatClampNeg ≤ cap) (hb : cap * 8 ≤ 536870912) (hc : cells + 1 ≤ R.cells) (hl : slots + cap ≤ R.slots) (pc' : Nat) (hp : pc + 2 = pc') (ty : FieldType) (hty : newarray.typeOf aty = ty) (vs : List Value) (hvs : ∀ i, vs.getD i (defaultValue ty) = defaultValue ty)
    (K : ∀ T' h' b k, Stand p l e R s m args below meth c T' locs (cells + 1) (slots + cap) → T'.heap = h' → Ext h h' → b = h.size → Arv Z h' b k ty n vs (defaultValue ty) → Go p e below P (T'.setTop (mkF m pc' Ls (.ref b :: st)))) : Go p e below P (T.setTop (mkF m pc Ls (.int n :: st))) := by
  subst hp hty
  obtain ⟨T', h', cA, X', e', E, A, k⟩ := newP X hx hZ w eT (g := mkF m pc Ls (.int n :: st)) rfl hd rfl hn hcap hb hc hl
  exact Go.mv k (K T' h' h.size cA X' e' E rfl ((Arv.new A hn).pad (fun i => by rw [hvs]; simp)))
theorem g_newR (X : Stand p l e R s m args below meth c T locs cells slots) (hx : p.tables.exec = Jvm.exec) (hZ : Z.Warmed39 s.vm) {own C : String} {index : Nat} (hown : s.vm.findClass own = some m.cls) (w1 : (Cond.classLink own index C).before a0 Z = true) (w2 : (Cond.arrayOver (.object C)).before a0 Z = true) (eT : T.heap = h) (hd : decode c.code pc = .ok (.anewarray index, 3)) {n : Int32}
    (hn : ¬ n < 0) (cap : Nat) (hcap : n.toNatClampNeg ≤ cap) (hb : cap * 8 ≤ 536870912) (hc : cells + 1 ≤ R.cells) (hl : slots + cap ≤ R.slots) (pc' : Nat) (hp : pc + 3 = pc') (vs : List Value) (hvs : ∀ i, vs.getD i Value.null = Value.null)
    (K : ∀ T' h' b k, Stand p l e R s m args below meth c T' locs (cells + 1) (slots + cap) → T'.heap = h' → Ext h h' → b = h.size → Arv Z h' b k (.object C) n vs .null → Ovr Z k C → Go p e below P (T'.setTop (mkF m pc' Ls (.ref b :: st)))) : Go p e below P (T.setTop (mkF m pc Ls (.int n :: st))) := by
  subst hp
  obtain ⟨T', h', cA, X', e', E, A, O, k⟩ := newR X hx hZ hown w1 w2 eT (g := mkF m pc Ls (.int n :: st)) rfl hd rfl hn hcap hb hc hl
  exact Go.mv k (K T' h' h.size cA X' e' E rfl ((Arv.new A hn).pad (fun i => by show _ = _; rw [show defaultValue (.object C) = Value.null from rfl, hvs]; simp)) O)
theorem set_pad {vs : List Value} {n : Nat} {dv : Value} : ∀ i, vs.getD i dv = vs.getD i dv := fun _ => rfl
theorem g_stC (X : Stand p l e R s m args below meth c T locs cells slots) (hx : p.tables.exec = Jvm.exec) (hZ : Z.Warmed39 s.vm) (eT : T.heap = h) {a : Addr} {k : ClassId} {z : Int32} {vs : List Value} {dv : Value} (V : Arv Z h a k .char z vs dv) {j : Int32} {x : Int32} (x' : Int32) (hxx : nar .char x = x') (hj : ¬ j < 0 ∧ j < z) (i : Nat) (hji : j.toNatClampNeg = i) (hi : i < vs.length) (vs' : List Value) (hvs : vs.set i (.int x') = vs') (hd : decode c.code pc = .ok (.castore, 1)) (pc' : Nat) (hp : pc + 1 = pc')
    (K : ∀ T' h', Stand p l e R s m args below meth c T' (locs ++ [⟨a, j.toNatClampNeg⟩]) cells slots → T'.heap = h' → Wr h h' a j.toNatClampNeg (.int x') → Arv Z h' a k .char z vs' dv → Go p e below P (T'.setTop (mkF m pc' Ls st))) : Go p e below P (T.setTop (mkF m pc Ls (.int x :: .int j :: .ref a :: st))) := by
  subst hp hxx hvs
  obtain ⟨cl, A, q1, S, N, H, G⟩ := V
  obtain ⟨T', h', X', e', W, kk⟩ := stC X hx hZ eT A (j := j) (inb_of S hj) (g := mkF m pc Ls (.int x :: .int j :: .ref a :: st)) rfl rfl hd
  exact Go.mv kk (K T' h' X' e' W (Arv.set A q1 S N H G (fits_nar_char _) W i hji hi))
theorem g_stB (X : Stand p l e R s m args below meth c T locs cells slots) (hx : p.tables.exec = Jvm.exec) (hZ : Z.Warmed39 s.vm) (eT : T.heap = h) {a : Addr} {k : ClassId} {z : Int32} {vs : List Value} {dv : Value} (V : Arv Z h a k .byte z vs dv) {j : Int32} {x : Int32} (x' : Int32) (hxx : nar .byte x = x') (hj : ¬ j < 0 ∧ j < z) (i : Nat) (hji : j.toNatClampNeg = i) (hi : i < vs.length) (vs' : List Value) (hvs : vs.set i (.int x') = vs') (hd : decode c.code pc = .ok (.bastore, 1)) (pc' : Nat) (hp : pc + 1 = pc')
    (K : ∀ T' h', Stand p l e R s m args below meth c T' (locs ++ [⟨a, j.toNatClampNeg⟩]) cells slots → T'.heap = h' → Wr h h' a j.toNatClampNeg (.int x') → Arv Z h' a k .byte z vs' dv → Go p e below P (T'.setTop (mkF m pc' Ls st))) : Go p e below P (T.setTop (mkF m pc Ls (.int x :: .int j :: .ref a :: st))) := by
  subst hp hxx hvs
  obtain ⟨cl, A, q1, S, N, H, G⟩ := V
  obtain ⟨T', h', X', e', W, kk⟩ := stB X hx hZ eT A (j := j) (inb_of S hj) (g := mkF m pc Ls (.int x :: .int j :: .ref a :: st)) rfl rfl hd
  exact Go.mv kk (K T' h' X' e' W (Arv.set A q1 S N H G (fits_nar_byte _) W i hji hi))
theorem g_stZ (X : Stand p l e R s m args below meth c T locs cells slots) (hx : p.tables.exec = Jvm.exec) (hZ : Z.Warmed39 s.vm) (eT : T.heap = h) {a : Addr} {k : ClassId} {z : Int32} {vs : List Value} {dv : Value} (V : Arv Z h a k .boolean z vs dv) {j : Int32} {x : Int32} (x' : Int32) (hxx : nar .boolean x = x') (hj : ¬ j < 0 ∧ j < z) (i : Nat) (hji : j.toNatClampNeg = i) (hi : i < vs.length) (vs' : List Value) (hvs : vs.set i (.int x') = vs') (hd : decode c.code pc = .ok (.bastore, 1)) (pc' : Nat) (hp : pc + 1 = pc')
    (K : ∀ T' h', Stand p l e R s m args below meth c T' (locs ++ [⟨a, j.toNatClampNeg⟩]) cells slots → T'.heap = h' → Wr h h' a j.toNatClampNeg (.int x') → Arv Z h' a k .boolean z vs' dv → Go p e below P (T'.setTop (mkF m pc' Ls st))) : Go p e below P (T.setTop (mkF m pc Ls (.int x :: .int j :: .ref a :: st))) := by
  subst hp hxx hvs
  obtain ⟨cl, A, q1, S, N, H, G⟩ := V
  obtain ⟨T', h', X', e', W, kk⟩ := stZ X hx hZ eT A (j := j) (inb_of S hj) (g := mkF m pc Ls (.int x :: .int j :: .ref a :: st)) rfl rfl hd
  exact Go.mv kk (K T' h' X' e' W (Arv.set A q1 S N H G (fits_nar_bool _) W i hji hi))
theorem g_stI (X : Stand p l e R s m args below meth c T locs cells slots) (hx : p.tables.exec = Jvm.exec) (hZ : Z.Warmed39 s.vm) (eT : T.heap = h) {a : Addr} {k : ClassId} {z : Int32} {vs : List Value} {dv : Value} (V : Arv Z h a k .int z vs dv) {j : Int32} {x : Int32} (x' : Int32) (hxx : x = x') (hj : ¬ j < 0 ∧ j < z) (i : Nat) (hji : j.toNatClampNeg = i) (hi : i < vs.length) (vs' : List Value) (hvs : vs.set i (.int x') = vs') (hd : decode c.code pc = .ok (.iastore, 1)) (pc' : Nat) (hp : pc + 1 = pc')
    (K : ∀ T' h', Stand p l e R s m args below meth c T' (locs ++ [⟨a, j.toNatClampNeg⟩]) cells slots → T'.heap = h' → Wr h h' a j.toNatClampNeg (.int x') → Arv Z h' a k .int z vs' dv → Go p e below P (T'.setTop (mkF m pc' Ls st))) : Go p e below P (T.setTop (mkF m pc Ls (.int x :: .int j :: .ref a :: st))) := by
  subst hp hxx hvs
  obtain ⟨cl, A, q1, S, N, H, G⟩ := V
  obtain ⟨T', h', X', e', W, kk⟩ := stI X hx hZ eT A (j := j) (inb_of S hj) (g := mkF m pc Ls (.int x :: .int j :: .ref a :: st)) rfl rfl hd
  exact Go.mv kk (K T' h' X' e' W (Arv.set A q1 S N H G (rfl) W i hji hi))
theorem g_stJ (X : Stand p l e R s m args below meth c T locs cells slots) (hx : p.tables.exec = Jvm.exec) (hZ : Z.Warmed39 s.vm) (eT : T.heap = h) {a : Addr} {k : ClassId} {z : Int32} {vs : List Value} {dv : Value} (V : Arv Z h a k .long z vs dv) {j : Int32} {x : Int64} (x' : Int64) (hxx : x = x') (hj : ¬ j < 0 ∧ j < z) (i : Nat) (hji : j.toNatClampNeg = i) (hi : i < vs.length) (vs' : List Value) (hvs : vs.set i (.long x') = vs') (hd : decode c.code pc = .ok (.lastore, 1)) (pc' : Nat) (hp : pc + 1 = pc')
    (K : ∀ T' h', Stand p l e R s m args below meth c T' (locs ++ [⟨a, j.toNatClampNeg⟩]) cells slots → T'.heap = h' → Wr h h' a j.toNatClampNeg (.long x') → Arv Z h' a k .long z vs' dv → Go p e below P (T'.setTop (mkF m pc' Ls st))) : Go p e below P (T.setTop (mkF m pc Ls (.long x :: .int j :: .ref a :: st))) := by
  subst hp hxx hvs
  obtain ⟨cl, A, q1, S, N, H, G⟩ := V
  obtain ⟨T', h', X', e', W, kk⟩ := stJ X hx hZ eT A (j := j) (inb_of S hj) (g := mkF m pc Ls (.long x :: .int j :: .ref a :: st)) rfl rfl hd
  exact Go.mv kk (K T' h' X' e' W (Arv.set A q1 S N H G (rfl) W i hji hi))
theorem g_stR (X : Stand p l e R s m args below meth c T locs cells slots) (hx : p.tables.exec = Jvm.exec) (hZ : Z.Warmed39 s.vm) (eT : T.heap = h) {a : Addr} {k : ClassId} {z : Int32} {C : String} {vs : List Value} {dv : Value} (V : Arv Z h a k (.object C) z vs dv) {j : Int32} {x : Value} (hr : x.isRef = true) (hs : Sto Z h a x) (hj : ¬ j < 0 ∧ j < z) (i : Nat) (hji : j.toNatClampNeg = i) (hi : i < vs.length) (vs' : List Value) (hvs : vs.set i x = vs') (hd : decode c.code pc = .ok (.aastore, 1)) (pc' : Nat) (hp : pc + 1 = pc')
    (K : ∀ T' h', Stand p l e R s m args below meth c T' (locs ++ [⟨a, j.toNatClampNeg⟩]) cells slots → T'.heap = h' → Wr h h' a j.toNatClampNeg x → Arv Z h' a k (.object C) z vs' dv → Go p e below P (T'.setTop (mkF m pc' Ls st))) : Go p e below P (T.setTop (mkF m pc Ls (x :: .int j :: .ref a :: st))) := by
  subst hp hvs
  obtain ⟨cl, A, q1, S, N, H, G⟩ := V
  obtain ⟨T', h', X', e', W, kk⟩ := stR X hx hZ eT A (j := j) (inb_of S hj) rfl hs (g := mkF m pc Ls (x :: .int j :: .ref a :: st)) rfl rfl hd
  exact Go.mv kk (K T' h' X' e' W (Arv.set A q1 S N H G (by rcases ref_cases hr with rfl | ⟨_, rfl⟩ <;> rfl) W i hji hi))
theorem g_alen (X : Stand p l e R s m args below meth c T locs cells slots) (hx : p.tables.exec = Jvm.exec) (hZ : Z.Warmed39 s.vm) (eT : T.heap = h) {a : Addr} {k : ClassId} {ty : FieldType} {z : Int32} {vs : List Value} {dv : Value} (V : Arv Z h a k ty z vs dv) (hd : decode c.code pc = .ok (.arraylength, 1)) (pc' : Nat) (hp : pc + 1 = pc')
    (K : Go p e below P (T.setTop (mkF m pc' Ls (.int z :: st)))) : Go p e below P (T.setTop (mkF m pc Ls (.ref a :: st))) := by
  subst hp
  obtain ⟨cl, A, q1, S, N, H, G⟩ := V
  refine Go.mv (X.arraylength hx (by rw [eT]; exact A.1) (State.isArrayOf_alike hZ.alike A.2.1) (g := mkF m pc Ls (.ref a :: st)) rfl rfl hd) ?_
  rw [len_of S N]; exact K
theorem g_ldC (X : Stand p l e R s m args below meth c T locs cells slots) (hx : p.tables.exec = Jvm.exec) (hZ : Z.Warmed39 s.vm) (eT : T.heap = h) {a : Addr} {k : ClassId} {z : Int32} {vs : List Value} {dv : Value} (V : Arv Z h a k .char z vs dv) {j : Int32} (hj : ¬ j < 0 ∧ j < z) (v : Int32) (hv : vs.getD j.toNatClampNeg dv = .int v) (hd : decode c.code pc = .ok (.caload, 1)) (pc' : Nat) (hp : pc + 1 = pc')
    (K : Go p e below P (T.setTop (mkF m pc' Ls (.int v :: st)))) : Go p e below P (T.setTop (mkF m pc Ls (.int j :: .ref a :: st))) := by
  subst hp
  obtain ⟨cl, A, q1, S, N, H, G⟩ := V
  exact Go.mv (X.caload hx (j := j) (v := .int v) (by rw [eT]; exact A.1) (State.isArrayOf_alike hZ.alike A.2.1)  A.2.2 (inb_of S hj) (H.at (inb_of S hj) hv) (g := mkF m pc Ls (.int j :: .ref a :: st)) rfl rfl hd) K
theorem g_ldB (X : Stand p l e R s m args below meth c T locs cells slots) (hx : p.tables.exec = Jvm.exec) (hZ : Z.Warmed39 s.vm) (eT : T.heap = h) {a : Addr} {k : ClassId} {z : Int32} {vs : List Value} {dv : Value} (V : Arv Z h a k .byte z vs dv) {j : Int32} (hj : ¬ j < 0 ∧ j < z) (v : Int32) (hv : vs.getD j.toNatClampNeg dv = .int v) (hd : decode c.code pc = .ok (.baload, 1)) (pc' : Nat) (hp : pc + 1 = pc')
    (K : Go p e below P (T.setTop (mkF m pc' Ls (.int v :: st)))) : Go p e below P (T.setTop (mkF m pc Ls (.int j :: .ref a :: st))) := by
  subst hp
  obtain ⟨cl, A, q1, S, N, H, G⟩ := V
  exact Go.mv (X.baloadBytes hx (j := j) (v := .int v) (by rw [eT]; exact A.1) (State.isArrayOf_alike hZ.alike A.2.1)  A.2.2 (inb_of S hj) (H.at (inb_of S hj) hv) (g := mkF m pc Ls (.int j :: .ref a :: st)) rfl rfl hd) K
theorem g_ldI (X : Stand p l e R s m args below meth c T locs cells slots) (hx : p.tables.exec = Jvm.exec) (hZ : Z.Warmed39 s.vm) (eT : T.heap = h) {a : Addr} {k : ClassId} {z : Int32} {vs : List Value} {dv : Value} (V : Arv Z h a k .int z vs dv) {j : Int32} (hj : ¬ j < 0 ∧ j < z) (v : Int32) (hv : vs.getD j.toNatClampNeg dv = .int v) (hd : decode c.code pc = .ok (.iaload, 1)) (pc' : Nat) (hp : pc + 1 = pc')
    (K : Go p e below P (T.setTop (mkF m pc' Ls (.int v :: st)))) : Go p e below P (T.setTop (mkF m pc Ls (.int j :: .ref a :: st))) := by
  subst hp
  obtain ⟨cl, A, q1, S, N, H, G⟩ := V
  exact Go.mv (X.iaload hx (j := j) (v := .int v) (by rw [eT]; exact A.1) (State.isArrayOf_alike hZ.alike A.2.1)  A.2.2 (inb_of S hj) (H.at (inb_of S hj) hv) (g := mkF m pc Ls (.int j :: .ref a :: st)) rfl rfl hd) K
theorem g_ldJ (X : Stand p l e R s m args below meth c T locs cells slots) (hx : p.tables.exec = Jvm.exec) (hZ : Z.Warmed39 s.vm) (eT : T.heap = h) {a : Addr} {k : ClassId} {z : Int32} {vs : List Value} {dv : Value} (V : Arv Z h a k .long z vs dv) {j : Int32} (hj : ¬ j < 0 ∧ j < z) (v : Int64) (hv : vs.getD j.toNatClampNeg dv = .long v) (hd : decode c.code pc = .ok (.laload, 1)) (pc' : Nat) (hp : pc + 1 = pc')
    (K : Go p e below P (T.setTop (mkF m pc' Ls (.long v :: st)))) : Go p e below P (T.setTop (mkF m pc Ls (.int j :: .ref a :: st))) := by
  subst hp
  obtain ⟨cl, A, q1, S, N, H, G⟩ := V
  exact Go.mv (X.laload hx (j := j) (v := .long v) (by rw [eT]; exact A.1) (State.isArrayOf_alike hZ.alike A.2.1)  A.2.2 (inb_of S hj) (H.at (inb_of S hj) hv) (g := mkF m pc Ls (.int j :: .ref a :: st)) rfl rfl hd) K
theorem g_ldR (X : Stand p l e R s m args below meth c T locs cells slots) (hx : p.tables.exec = Jvm.exec) (hZ : Z.Warmed39 s.vm) (eT : T.heap = h) {a : Addr} {k : ClassId} {z : Int32} {C : String} {vs : List Value} {dv : Value} (V : Arv Z h a k (.object C) z vs dv) {j : Int32} (hj : ¬ j < 0 ∧ j < z) (v : Value) (hv : vs.getD j.toNatClampNeg dv = v) (hd : decode c.code pc = .ok (.aaload, 1)) (pc' : Nat) (hp : pc + 1 = pc')
    (K : Go p e below P (T.setTop (mkF m pc' Ls (v :: st)))) : Go p e below P (T.setTop (mkF m pc Ls (.int j :: .ref a :: st))) := by
  subst hp
  obtain ⟨cl, A, q1, S, N, H, G⟩ := V
  exact Go.mv (X.aaload hx (j := j) (v := v) (by rw [eT]; exact A.1) (State.isArrayOf_alike hZ.alike A.2.1) rfl A.2.2 (inb_of S hj) (H.at (inb_of S hj) hv) (g := mkF m pc Ls (.int j :: .ref a :: st)) rfl rfl hd) K
theorem g_castY (X : Stand p l e R s m args below meth c T locs cells slots) (hx : p.tables.exec = Jvm.exec) (hZ : Z.Warmed39 s.vm) {own K0 : String} {index : Nat} (hown : s.vm.findClass own = some m.cls) (w : (Cond.classLink own index K0).before a0 Z = true) (eT : T.heap = h) {a : Addr} (F : Ins Z h a K0 true) (hd : decode c.code pc = .ok (.checkcast index, 3)) (pc' : Nat) (hp : pc + 3 = pc')
    (K : ∀ T', Stand p l e R s m args below meth c T' locs cells slots → T'.heap = h → Go p e below P (T'.setTop (mkF m pc' Ls (.ref a :: st)))) : Go p e below P (T.setTop (mkF m pc Ls (.ref a :: st))) := by
  subst hp
  obtain ⟨T', X', e', k⟩ := castY X hx hZ hown w eT F (g := mkF m pc Ls (.ref a :: st)) rfl rfl hd
  exact Go.mv k (K T' X' e')
theorem g_instY (X : Stand p l e R s m args below meth c T locs cells slots) (hx : p.tables.exec = Jvm.exec) (hZ : Z.Warmed39 s.vm) {own K0 : String} {index : Nat} (hown : s.vm.findClass own = some m.cls) (w : (Cond.classLink own index K0).before a0 Z = true) (eT : T.heap = h) {a : Addr} (F : Ins Z h a K0 true) (hd : decode c.code pc = .ok (.instanceof index, 3)) (pc' : Nat) (hp : pc + 3 = pc')
    (K : ∀ T', Stand p l e R s m args below meth c T' locs cells slots → T'.heap = h → Go p e below P (T'.setTop (mkF m pc' Ls (.int 1 :: st)))) : Go p e below P (T.setTop (mkF m pc Ls (.ref a :: st))) := by
  subst hp
  obtain ⟨T', X', e', k⟩ := instY X hx hZ hown w eT F (g := mkF m pc Ls (.ref a :: st)) rfl rfl hd
  exact Go.mv k (K T' X' e')
/-- a static call by a payer of the house's form -/
theorem g_callS (X : Stand p l e R s m args below meth c T locs cells slots) (hx : p.tables.exec = Jvm.exec) {own : String} {index : Nat} {y : MethodName} {bytes : ByteArray} {maxL : Nat} {ret : Option FieldType}
    (hown : s.vm.findClass own = some m.cls) (hlink : (Cond.methodLink own index y).before args s = true) (hstat : (Cond.static y).before args s = true) (hinit : (Cond.initialized y.cls).before args s = true)
    (hcode : (Cond.code y bytes maxL ret).before args s = true) (hy : y.cls ≠ "java/lang/invoke/MethodHandle" ∧ y.cls ≠ "java/lang/invoke/VarHandle")
    {W rc rs : Nat} (argsL : List Value) {Q : Option Value → Heap → List Loc → Prop} (hK : Back l R p e below s args y 3 W (fun A a => a = argsL.toArray ∧ A.U.heap = h ∧ A.cells + rc ≤ R.cells ∧ A.slots + rs ≤ R.slots) (fun A _ v B => ∃ L, Q v B.U.heap L ∧ B.locs = A.locs ++ L ∧ B.cells = A.cells + rc ∧ B.slots = A.slots + rs))
    (eT : T.heap = h) (hsize : Ls.size = c.maxLocals) (rest : List Value) (hlen : ∀ sig, parseMethodDescriptor y.desc = some sig → argsL.length = sig.parameters.length)
    (hstack : st = argsL.reverse ++ rest) (hW : (rest.map fun v => v.category).sum ≤ W) (hd : decode c.code pc = .ok (.invokestatic index, 3)) (hc : cells + rc ≤ R.cells) (hl : slots + rs ≤ R.slots) (pc' : Nat) (hp : pc + 3 = pc')
    (K : ∀ v T' L, Stand p l e R s m args below meth c T' (locs ++ L) (cells + rc) (slots + rs) → Q v T'.heap L → Go p e below P (T'.setTop (mkF m pc' Ls (v.toList ++ rest)))) : Go p e below P (T.setTop (mkF m pc Ls st)) := by
  subst hp
  obtain ⟨v, vm, ⟨T', L', k', n'⟩, -, X', ⟨Lc, hQ, l1, y1, z1⟩, k⟩ := Jvm.LawKit.callS X hx (y := y) hown hlink hstat hinit hcode hy hK (g := mkF m pc Ls st) rfl hsize (argsL := argsL) (rest := rest) hlen hstack (by show 2 * 0 + _ ≤ _; omega) hd (fun _ _ => ⟨rfl, eT, hc, hl⟩)
  dsimp only [Pt.U, Pt.locs, Pt.cells, Pt.slots] at X' l1 y1 z1 k hQ
  subst l1 y1 z1
  exact Go.mv k (K v T' Lc X' hQ)
theorem g_special (X : Stand p l e R s m args below meth c T locs cells slots) (hx : p.tables.exec = Jvm.exec) {own : String} {index : Nat} {y : MethodName} (hy1 : y.name = "<init>")
    (hown : s.vm.findClass own = some m.cls) (hlink : (Cond.methodLink own index y).before args s = true) (hinst : (Cond.instanceMethod y).before args s = true)
    {bytes : ByteArray} {maxL : Nat} (hcode : (Cond.code y bytes maxL none).before args s = true) (hy : y.cls ≠ "java/lang/invoke/MethodHandle" ∧ y.cls ≠ "java/lang/invoke/VarHandle")
    {W rc rs : Nat} {a : Addr} (argsL : List Value) {Q : Option Value → Heap → List Loc → Prop} (hK : Back l R p e below s args y 3 W (fun A b => b = (.ref a :: argsL).toArray ∧ A.U.heap = h ∧ A.cells + rc ≤ R.cells ∧ A.slots + rs ≤ R.slots) (fun A _ v B => ∃ L, Q v B.U.heap L ∧ B.locs = A.locs ++ L ∧ B.cells = A.cells + rc ∧ B.slots = A.slots + rs))
    (eT : T.heap = h) (hsize : Ls.size = c.maxLocals) (rest : List Value) (hlen : ∀ sig, parseMethodDescriptor y.desc = some sig → argsL.length = sig.parameters.length)
    (hstack : st = argsL.reverse ++ .ref a :: rest) (hW : (rest.map fun v => v.category).sum ≤ W) (hd : decode c.code pc = .ok (.invokespecial index, 3)) (hc : cells + rc ≤ R.cells) (hl : slots + rs ≤ R.slots) (pc' : Nat) (hp : pc + 3 = pc')
    (K : ∀ v T' L, Stand p l e R s m args below meth c T' (locs ++ L) (cells + rc) (slots + rs) → Q v T'.heap L → Go p e below P (T'.setTop (mkF m pc' Ls (v.toList ++ rest)))) : Go p e below P (T.setTop (mkF m pc Ls st)) := by
  subst hp
  obtain ⟨v, vm, ⟨T', L', k', n'⟩, -, X', ⟨Lc, hQ, l1, y1, z1⟩, k⟩ := X.specialBack hx (y := y) hy1 hown hlink hinst hcode hy hK (g := mkF m pc Ls st) rfl hsize (Steps.refl _) (a := a) (argsL := argsL) (rest := rest) hlen hstack (by show 2 * 0 + _ ≤ _; omega) hd (fun _ _ => ⟨rfl, eT, hc, hl⟩)
  dsimp only [Pt.U, Pt.locs, Pt.cells, Pt.slots] at X' l1 y1 z1 k hQ
  subst l1 y1 z1
  exact Go.tr k (K v T' Lc X' hQ)
theorem g_virtual (X : Stand p l e R s m args below meth c T locs cells slots) (hx : p.tables.exec = Jvm.exec) (hZ : Z.Warmed39 s.vm) {own C : String} {index : Nat} {y z : MethodName}
    (hown : s.vm.findClass own = some m.cls) (hlink : (Cond.methodLink own index y).before args s = true) (hdecl : (Cond.declares y).before args s = true) (hnf : NotFace s y)
    (hsel : (Cond.selects C y z).before args s = true) (hinst : (Cond.instanceMethod z).before args s = true) (hy : y.cls ≠ "java/lang/invoke/MethodHandle" ∧ y.cls ≠ "java/lang/invoke/VarHandle")
    {W rc rs : Nat} {a : Addr} (argsL : List Value) {Q : Option Value → Heap → List Loc → Prop} (hK : Back l R p e below s args z 3 W (fun A b => b = (.ref a :: argsL).toArray ∧ A.U.heap = h ∧ A.cells + rc ≤ R.cells ∧ A.slots + rs ≤ R.slots) (fun A _ v B => ∃ L, Q v B.U.heap L ∧ B.locs = A.locs ++ L ∧ B.cells = A.cells + rc ∧ B.slots = A.slots + rs))
    (E : Exa Z h a C) (eT : T.heap = h) (hsize : Ls.size = c.maxLocals) (rest : List Value) (hlen : ∀ sig, parseMethodDescriptor y.desc = some sig → argsL.length = sig.parameters.length)
    (hstack : st = argsL.reverse ++ .ref a :: rest) (hW : (rest.map fun v => v.category).sum ≤ W) (hd : decode c.code pc = .ok (.invokevirtual index, 3)) (hc : cells + rc ≤ R.cells) (hl : slots + rs ≤ R.slots) (pc' : Nat) (hp : pc + 3 = pc')
    (K : ∀ v T' L, Stand p l e R s m args below meth c T' (locs ++ L) (cells + rc) (slots + rs) → Q v T'.heap L → Go p e below P (T'.setTop (mkF m pc' Ls (v.toList ++ rest)))) : Go p e below P (T.setTop (mkF m pc Ls st)) := by
  subst hp
  obtain ⟨cq, kq, qa, qb, qc⟩ := isOf hZ eT E
  obtain ⟨v, vm, ⟨T', L', k', n'⟩, -, X', ⟨Lc, hQ, l1, y1, z1⟩, k⟩ := X.virtualBack hx (y := y) (z := z) hown hlink hdecl hnf hsel hinst hy hK qa qc (g := mkF m pc Ls st) rfl hsize (Steps.refl _) (argsL := argsL) (rest := rest) hlen hstack (by show 2 * 0 + _ ≤ _; omega) hd (fun _ _ => ⟨rfl, eT, hc, hl⟩)
  dsimp only [Pt.U, Pt.locs, Pt.cells, Pt.slots] at X' l1 y1 z1 k hQ
  subst l1 y1 z1
  exact Go.tr k (K v T' Lc X' hQ)
theorem g_private (X : Stand p l e R s m args below meth c T locs cells slots) (hx : p.tables.exec = Jvm.exec) (hZ : Z.Warmed39 s.vm) {own C : String} {index : Nat} {y : MethodName} {bytes : ByteArray} {maxL : Nat} {ret : Option FieldType}
    (hown : s.vm.findClass own = some m.cls) (hlink : (Cond.methodLink own index y).before args s = true) (hinst : (Cond.instanceMethod y).before args s = true) (hsel : (Cond.selects y.cls y y).before args s = true)
    (hpriv : (Cond.privateMethod y).before a0 Z = true) (hcode : (Cond.code y bytes maxL ret).before args s = true) (hy : y.cls ≠ "java/lang/invoke/MethodHandle" ∧ y.cls ≠ "java/lang/invoke/VarHandle")
    {W rc rs : Nat} {a : Addr} (argsL : List Value) {Q : Option Value → Heap → List Loc → Prop} (hK : Back l R p e below s args y 3 W (fun A b => b = (.ref a :: argsL).toArray ∧ A.U.heap = h ∧ A.cells + rc ≤ R.cells ∧ A.slots + rs ≤ R.slots) (fun A _ v B => ∃ L, Q v B.U.heap L ∧ B.locs = A.locs ++ L ∧ B.cells = A.cells + rc ∧ B.slots = A.slots + rs))
    (E : Exa Z h a C) (eT : T.heap = h) (hsize : Ls.size = c.maxLocals) (rest : List Value) (hlen : ∀ sig, parseMethodDescriptor y.desc = some sig → argsL.length = sig.parameters.length)
    (hstack : st = argsL.reverse ++ .ref a :: rest) (hW : (rest.map fun v => v.category).sum ≤ W) (hd : decode c.code pc = .ok (.invokevirtual index, 3)) (hc : cells + rc ≤ R.cells) (hl : slots + rs ≤ R.slots) (pc' : Nat) (hp : pc + 3 = pc')
    (K : ∀ v T' L, Stand p l e R s m args below meth c T' (locs ++ L) (cells + rc) (slots + rs) → Q v T'.heap L → Go p e below P (T'.setTop (mkF m pc' Ls (v.toList ++ rest)))) : Go p e below P (T.setTop (mkF m pc Ls st)) := by
  subst hp
  obtain ⟨cq, q1, q2⟩ := E.cell
  obtain ⟨v, vm, ⟨T', L', k', n'⟩, -, X', ⟨Lc, hQ, l1, y1, z1⟩, k⟩ := X.privateBack hx (y := y) hown hlink hinst hsel (Cond.privateMethod_at (mvP hZ hpriv (args := #[]))) hcode hy hK (g := mkF m pc Ls st) rfl hsize (Steps.refl _) (a := a) (by rw [eT]; exact q1) q2 (argsL := argsL) (rest := rest) hlen hstack (by show 2 * 0 + _ ≤ _; omega) hd (fun _ _ => ⟨rfl, eT, hc, hl⟩)
  dsimp only [Pt.U, Pt.locs, Pt.cells, Pt.slots] at X' l1 y1 z1 k hQ
  subst l1 y1 z1
  exact Go.tr k (K v T' Lc X' hQ)
/-- the end of a body: what it owes -/
def End (s : State) (Q : Option Value → Heap → List Loc → Prop) (C N : Nat) (o : Outcome) (t : State) : Prop := ∃ v L, o = .returned v ∧ Q v t.heap L ∧ FrameEnd s o t L C N
theorem g_ret (X : Stand p l e R s m args below meth c T locs cells slots) (hx : p.tables.exec = Jvm.exec) {t : FieldType} {v : Value} {i : Instr} (hret : meth.sig.returnType = some t) (hlocks : meth.locks = false) (hn : narrow t v = v)
    (hi : (i = .ireturn ∧ (t = .int ∨ t = .boolean ∨ t = .byte ∨ t = .char ∨ t = .short) ∧ ∃ z, v = .int z) ∨ (i = .lreturn ∧ t = .long ∧ ∃ z, v = .long z) ∨ (i = .dreturn ∧ t = .double ∧ ∃ z, v = .double z) ∨ (i = .freturn ∧ t = .float ∧ ∃ z, v = .float z) ∨ (i = .areturn ∧ t.isReference = true ∧ v.isRef = true))
    (hd : decode c.code pc = .ok (i, 1)) {Q : Option Value → Heap → List Loc → Prop} {C N : Nat} (hC : cells ≤ C) (hN : slots ≤ N) (eT : T.heap = h) (hQ : Q (some v) h locs) : Go p e below (End s Q C N) (T.setTop (mkF m pc Ls (v :: st))) := by
  obtain ⟨fs, hr, hrun, hended, hW, hsame⟩ := X.leave (v := some v) (fun h => by rw [hret] at h; cases h) hlocks
  exact ⟨_, _, retOut X hx hret hn hi hd hr, hrun, hended, _, _, rfl, by show Q _ T.heap _; rw [eT]; exact hQ, ⟨_, rfl⟩, hW, hsame.mono hC hN⟩
theorem g_retV (X : Stand p l e R s m args below meth c T locs cells slots) (hx : p.tables.exec = Jvm.exec) (hret : meth.sig.returnType = none) (hlocks : meth.locks = false)
    (hd : decode c.code pc = .ok (.return_, 1)) {Q : Option Value → Heap → List Loc → Prop} {C N : Nat} (hC : cells ≤ C) (hN : slots ≤ N) (eT : T.heap = h) (hQ : Q none h locs) : Go p e below (End s Q C N) (T.setTop (mkF m pc Ls [])) := by
  obtain ⟨fs, hr, hrun, hended, hW, hsame⟩ := X.leave (v := none) (fun _ => rfl) hlocks
  exact ⟨_, _, X.returnOut hx hret hd hr, hrun, hended, _, _, rfl, by show Q _ T.heap _; rw [eT]; exact hQ, ⟨_, rfl⟩, hW, hsame.mono hC hN⟩
end Laws
end Jvm.Own
namespace Jvm.Own
open Jvm Sem ClassFile Op Lib Jvm.Stand Jvm.Free Jvm.LawKit Jvm.RoadKit
theorem isref {v : Value} (h : v.isRef = true) : v = .null ∨ ∃ a, v = .ref a := by
  cases v <;> first | exact Or.inl rfl | exact Or.inr ⟨_, rfl⟩ | exact nomatch h
theorem mask255 (x : Int32) : (x &&& 255) = Int32.ofNat (x &&& 255).toBitVec.toNat ∧ (x &&& 255).toBitVec.toNat < 256 := by
  constructor
  · apply Int32.toBitVec_inj.mp
    show _ = BitVec.ofNat 32 _
    rw [BitVec.ofNat_toNat]; simp
  · simp only [Int32.toBitVec_and, BitVec.toNat_and]
    exact Nat.lt_succ_of_le Nat.and_le_right
theorem lat255 (x : Int32) : ¬ (x &&& 255) < 0 ∧ ¬ (255 : Int32) < (x &&& 255) := by
  have t : ∀ k : Fin 256, ¬ (Int32.ofNat k.val) < 0 ∧ ¬ (255 : Int32) < (Int32.ofNat k.val) := by decide +kernel
  obtain ⟨e, h⟩ := mask255 x
  rw [e]
  exact t ⟨_, h⟩
theorem c255 (x : Int32) : (x &&& 255).toUInt32.toUInt16.toUInt32.toInt32 = x &&& 255 := i2c_mask x
theorem nar255 (x : Int32) : nar .char (x &&& 255) = x &&& 255 := i2c_mask x
theorem narc255 (x : Int32) : nar .char ((x &&& 255).toUInt32.toUInt16.toUInt32.toInt32) = x &&& 255 := by rw [c255]; exact nar255 x
theorem mem1 {P : Int32 → Prop} {a : Int32} (ha : P a) : ∀ c ∈ ([a] : List Int32), P c := fun c hc => by cases List.mem_singleton.mp hc; exact ha
theorem mem2 {P : Int32 → Prop} {a b : Int32} (ha : P a) (hb : P b) : ∀ c ∈ ([a, b] : List Int32), P c := fun c hc => by
  simp only [List.mem_cons, List.not_mem_nil, or_false] at hc
  rcases hc with rfl | rfl
  · exact ha
  · exact hb
/-- a contract's payer -/
theorem back {p : Program} {l : Launch} {e : Env} {R : Room} {s : State} {args : Array Value} {below : List Frame} {Z : State} {a0 : Array Value} {h : Heap} {y : MethodName} {bytes : ByteArray} {maxL : Nat} {ret : Option FieldType} {rm : Room} {len W : Nat} {as' : Array Value} {Q : Option Value → Heap → List Loc → Prop}
    (hM : MetFree l y (head1 [Cond.code y bytes maxL ret] rm) (fun a U => a = as' ∧ Z.Warmed39 U.vm ∧ U.heap = h) (fun _ _ _ _ _ => True) (fun _ U o U' => End U Q rm.cells rm.slots o U'))
    (hZ : Z.Warmed39 s.vm) (wc : (Cond.code y bytes maxL ret).before a0 Z = true) (wz : (Cond.initialized y.cls).before a0 Z = true) (hf : rm.frames + 1 ≤ R.frames) (hl : W + (maxL + 11) + rm.locals ≤ R.locals) :
    Back l R p e below s args y len W (fun A a => a = as' ∧ A.U.heap = h ∧ A.cells + rm.cells ≤ R.cells ∧ A.slots + rm.slots ≤ R.slots)
      (fun A _ v B => ∃ L, Q v B.U.heap L ∧ B.locs = A.locs ++ L ∧ B.cells = A.cells + rm.cells ∧ B.slots = A.slots + rm.slots) := backOf (Q := Q) hM hZ wc wz hf hl
end Jvm.Own
namespace Jvm.Own
open Jvm Sem ClassFile Op Lib Jvm.Stand Jvm.Free Jvm.LawKit Jvm.RoadKit
/-- what equals leaves -/
def QEq (h : Heap) (cs ds : List Int32) (v : Option Value) (h' : Heap) (L : List Loc) : Prop := ((v = some (.int 1) ∧ cs = ds) ∨ (v = some (.int 0) ∧ ¬ cs = ds)) ∧ L = [] ∧ h' = h
/-- a value, the heap as it was -/
def QVal (h : Heap) (r : Value) (v : Option Value) (h' : Heap) (L : List Loc) : Prop := v = some r ∧ L = [] ∧ h' = h
section Start
variable {s : State} {args : Array Value}
theorem start_len {t : Term} {a : Addr} {cl : Cell} {n : Int32} (h : (Cond.eq (Term.length t) (Term.int n)).value args s none s [] = some true) (ht : t.eval args s none [] s = some (.ref a)) (hc : s.heap[a]? = some cl) : cl.slots.size < 2 ^ 31 ∧ cl.slots.size.toInt32 = n := by
  obtain ⟨x, y, e1, e2, -, -⟩ := cmp_v (Or.inl h)
  obtain ⟨a', c', q1, q2, rfl⟩ := Term.length_spec e1
  cases ht.symm.trans q1
  cases hc.symm.trans (State.arrayAt?_spec q2).1
  have e3 := gotT (Cond.eq_ints e1 (Term.int_eval n)) h
  refine ⟨?_, e3⟩
  simp only [Term.eval, ht, q2, Option.bind_eq_bind, Option.bind_some] at e1
  split at e1
  · assumption
  · cases e1
theorem start_elem {t u : Term} {a : Addr} {cl : Cell} {i : Int32} {v : Value} (h : (Cond.eq (Term.elem t (Term.int i)) u).value args s none s [] = some true) (ht : t.eval args s none [] s = some (.ref a)) (hc : s.heap[a]? = some cl) (hu : u.eval args s none [] s = some v) : cl.slots[i.toNatClampNeg]? = some v := by
  obtain ⟨x, y, e1, e2, -, -⟩ := cmp_v (Or.inl h)
  cases hu.symm.trans e2
  have e3 := (elem_in e1 ht (Term.int_eval i) hc).2
  have e4 : x = v := by
    simp only [Cond.value, e1, e2] at h
    cases x <;> cases v <;> simp_all
  rw [e3, e4]
theorem start_int {t : Term} {n : Int32} (h : (Cond.eq t (Term.int n)).value args s none s [] = some true) : t.eval args s none [] s = some (.int n) := by
  obtain ⟨x, y, e1, e2, -, -⟩ := cmp_v (Or.inl h)
  cases (Term.int_eval n).symm.trans e2
  simp only [Cond.value, e1, e2] at h
  cases x <;> simp_all
theorem start_arv (hf : Fit s) {t : Term} {a : Addr} {ty : FieldType} (ha : (Cond.arrayOf t ty).value args s none s [] = some true) (ht : t.eval args s none [] s = some (.ref a)) {n : Int32} (hl : (Cond.eq (Term.length t) (Term.int n)).value args s none s [] = some true) (hn : ¬ n < 0) (vs : List Value) (hvl : n.toNatClampNeg = vs.length)
    (H : ∀ cl, s.heap[a]? = some cl → HasL cl 0 vs) (dv : Value) : ∃ k, Arv s s.heap a k ty n vs dv := by
  obtain ⟨cl, A⟩ := Arr.start ht ha
  obtain ⟨q1, q2⟩ := start_len hl ht A.1
  exact ⟨_, Arv.start hf A q1 q2 hn hvl (H cl A.1)⟩
theorem start_all {t : Term} {a : Addr} {cl : Cell} {n v : Int32} (h : (Cond.all t (Cond.or (Cond.le (Term.int n) (Term.index 0)) (Cond.eq (Term.elem t (Term.index 0)) (Term.int v)))).value args s none s [] = some true) {N : Int32} (hl : (Cond.eq (Term.length t) (Term.int N)).value args s none s [] = some true) (ht : t.eval args s none [] s = some (.ref a)) (hc : s.heap[a]? = some cl) (i : Nat) (ht' : t.eval args s none [i] s = some (.ref a)) (hiN : i < N.toNatClampNeg) (hn : ¬ n ≤ i.toInt32) (hv : i.toInt32.toNatClampNeg = i) (hi0 : ¬ i.toInt32 < 0) : cl.slots[i]? = some (.int v) := by
  obtain ⟨b1, b2⟩ := start_len hl ht hc
  have hi : i < cl.slots.size := by
    rw [← b2] at hiN
    have e : (cl.slots.size.toInt32).toNatClampNeg = cl.slots.size := by show (Int32.ofNat cl.slots.size).toInt.toNat = _; rw [Int32.toInt_ofNat_of_lt b1]; rfl
    rwa [e] at hiN
  have ha : s.arrayAt? a = some cl := by
    obtain ⟨x, y, e1, e2, -, -⟩ := cmp_v (Or.inl hl)
    obtain ⟨a', c', q1, q2, -⟩ := Term.length_spec e1
    cases ht.symm.trans q1
    cases hc.symm.trans (State.arrayAt?_spec q2).1
    exact q2
  simp only [Cond.value, ht, ha] at h
  have key : ∀ (l : List Nat) (f : Nat → Option Bool) (acc : Option Bool), l.foldl (fun acc i => match acc with | some true => f i | x => x) acc = some true → acc = some true ∧ ∀ i ∈ l, f i = some true := by
    intro l f
    induction l with
    | nil => intro acc h; exact ⟨h, fun _ hi => by cases hi⟩
    | cons j r ih =>
      intro acc h
      rw [List.foldl_cons] at h
      obtain ⟨h1, h2⟩ := ih _ h
      cases acc with
      | none => cases h1
      | some b =>
        cases b
        · cases h1
        · exact ⟨rfl, fun i hi => by rcases List.mem_cons.mp hi with rfl | hi; exact h1; exact h2 i hi⟩
  have q := (key _ _ _ h).2 i (List.mem_range.mpr hi)
  simp [Term.eval, hn, ht', ha] at q
  rw [if_neg hi0, hv] at q
  cases hs : cl.slots[i]? with
  | none => rw [hs] at q; cases q
  | some x => rw [hs] at q; cases x <;> simp at q; rw [q]
end Start
section Copy
variable {p : Program} {l : Launch} {e : Env} {R : Room} {s : State} {m : MethodId} {args : Array Value} {below : List Frame} {meth : Method} {c : Code} {T : State} {locs : List Loc} {cells slots : Nat} {P : Outcome → State → Prop} {pc : Nat} {Ls : Array Slot} {st : List Value} {Z : State} {a0 : Array Value} {h : Heap}
theorem g_cpA (X : Stand p l e R s m args below meth c T locs cells slots) (hx : p.tables.exec = Jvm.exec) (hZ : Z.Warmed39 s.vm) {own : String} {index : Nat} (hown : s.vm.findClass own = some m.cls)
    (w1 : (Cond.methodLink own index Jvm.Stand.acN).before a0 Z = true) (w2 : (Cond.native Jvm.Stand.acN).before a0 Z = true) (w3 : (Cond.static Jvm.Stand.acN).before a0 Z = true) (w4 : (Cond.initialized "java/lang/System").before a0 Z = true) (eT : T.heap = h)
    {a b : Addr} {k k' : ClassId} {ty ty' : FieldType} {z z' sp dp nn : Int32} {vs vd : List Value} {dv dd : Value} (A : Arv Z h a k ty z vs dv) (B : Arv Z h b k' ty' z' vd dd) (us : List Value) (hty : (ty = ty' ∧ refKind ty = false) ∨ (refKind ty = true ∧ refKind ty' = true ∧ StoL Z h b us))
    (h1 : ¬ sp < 0) (h2 : ¬ dp < 0) (h3 : ¬ nn < 0) (h4 : sp.toNatClampNeg + nn.toNatClampNeg ≤ z.toNatClampNeg) (h5 : dp.toNatClampNeg + nn.toNatClampNeg ≤ z'.toNatClampNeg)
    (hus : us = (List.range nn.toNatClampNeg).map fun i => vs.getD (sp.toNatClampNeg + i) dv) (hl : dp.toNatClampNeg + nn.toNatClampNeg ≤ vd.length) {n0 : Nat} (N : Fr n0 locs) (ge : n0 ≤ b) (vd' : List Value) (hvd : vd.take dp.toNatClampNeg ++ us ++ vd.drop (dp.toNatClampNeg + nn.toNatClampNeg) = vd')
    (hsize : Ls.size = c.maxLocals) (hd : decode c.code pc = .ok (.invokestatic index, 3)) (hf : 1 ≤ R.frames) {W : Nat} (hW : (st.map fun v => v.category).sum ≤ W) (hlo : W + (nativeFrameWords "java/lang/System" "arraycopy" 5 + 11) ≤ R.locals) (pc' : Nat) (hp : pc + 3 = pc')
    (K : ∀ T' h' L, Stand p l e R s m args below meth c T' L cells slots → T'.heap = h' → Fr n0 L → Keep h h' [b] → Arv Z h' b k' ty' z' vd' dd → Go p e below P (T'.setTop (mkF m pc' Ls st))) : Go p e below P (T.setTop (mkF m pc Ls (.int nn :: .int dp :: .ref b :: .int sp :: .ref a :: st))) := by
  subst hp hvd
  obtain ⟨T', h', L, X', e', N', K', V', k⟩ := cpA X hx hZ hown w1 w2 w3 w4 eT A B hty h1 h2 h3 h4 h5 hus hl N ge (g := mkF m pc Ls (.int nn :: .int dp :: .ref b :: .int sp :: .ref a :: st)) rfl hsize (rest := st) rfl hd hf (W := W) (by show 2 * 0 + _ ≤ _; omega) hlo
  exact Go.mv k (K T' h' L X' e' N' K' V')
end Copy
section Clone
variable {p : Program} {l : Launch} {e : Env} {R : Room} {s : State} {m : MethodId} {args : Array Value} {below : List Frame} {meth : Method} {c : Code} {T : State} {locs : List Loc} {cells slots : Nat} {P : Outcome → State → Prop} {pc : Nat} {Ls : Array Slot} {st : List Value} {Z : State} {a0 : Array Value} {h : Heap}
theorem g_clone (X : Stand p l e R s m args below meth c T locs cells slots) (hx : p.tables.exec = Jvm.exec) (hZ : Z.Warmed39 s.vm) {own ad : String} {index : Nat} (hown : s.vm.findClass own = some m.cls)
    (w1 : (Cond.methodLink own index ⟨ad, "clone", "()Ljava/lang/Object;"⟩).before a0 Z = true) (w2 : (Cond.sameMethod ad "java/lang/Object" "clone" "()Ljava/lang/Object;").before a0 Z = true) (w3 : (Cond.native ⟨"java/lang/Object", "clone", "()Ljava/lang/Object;"⟩).before a0 Z = true)
    (w4 : (Cond.instanceMethod ⟨"java/lang/Object", "clone", "()Ljava/lang/Object;"⟩).before a0 Z = true) (w5 : (Cond.selects ad ⟨ad, "clone", "()Ljava/lang/Object;"⟩ ⟨"java/lang/Object", "clone", "()Ljava/lang/Object;"⟩).before a0 Z = true) (w6 : (Cond.castable ad "java/lang/Cloneable").before a0 Z = true)
    (eT : T.heap = h) {a : Addr} {ty : FieldType} {k : ClassId} {z : Int32} {vs : List Value} {dv : Value} (F : Arv Z h a k ty z vs dv) (E : Exa Z h a ad) (hsize : Ls.size = c.maxLocals) (hd : decode c.code pc = .ok (.invokevirtual index, 3))
    (hf : 1 ≤ R.frames) {W : Nat} (cap : Nat) (hW : (st.map fun v => v.category).sum ≤ W) (hl : W + 14 ≤ R.locals) (hcap : z.toNatClampNeg ≤ cap) (hc : cells + 1 ≤ R.cells) (hsl : slots + cap ≤ R.slots) (pc' : Nat) (hp : pc + 3 = pc')
    (K : ∀ T' h' b, Stand p l e R s m args below meth c T' locs (cells + 1) (slots + cap) → T'.heap = h' → Ext h h' → b = h.size → Arv Z h' b k ty z vs dv → Exa Z h' b ad → Go p e below P (T'.setTop (mkF m pc' Ls (.ref b :: st)))) : Go p e below P (T.setTop (mkF m pc Ls (.ref a :: st))) := by
  subst hp
  obtain ⟨T', h', X', e', E', V', A', k'⟩ := cloneH X hx hZ hown w1 w2 w3 w4 w5 w6 eT F.arh E (g := mkF m pc Ls (.ref a :: st)) rfl hsize rfl hd hf (W := W) (cap := cap) (by show 2 * 0 + _ ≤ _; omega) hl hcap hc hsl
  exact Go.mv k' (K T' h' h.size X' e' E' rfl V' A')
theorem g_ldcI (X : Stand p l e R s m args below meth c T locs cells slots) (hx : p.tables.exec = Jvm.exec) {own : String} {index : Nat} {v : Int32} (hown : s.vm.findClass own = some m.cls) (hconst : (Cond.constant own index v).before args s = true) (hd : decode c.code pc = .ok (.ldc index, 2)) (pc' : Nat) (hp : pc + 2 = pc')
    (K : Go p e below P (T.setTop (mkF m pc' Ls (.int v :: st)))) : Go p e below P (T.setTop (mkF m pc Ls st)) := by
  subst hp
  exact Go.mv (fun t q => X.ldcInt hx hown hconst (g := mkF m pc Ls st) rfl hd t q) K
theorem g_ldc2J (X : Stand p l e R s m args below meth c T locs cells slots) (hx : p.tables.exec = Jvm.exec) {own : String} {index : Nat} {v : Int64} (hown : s.vm.findClass own = some m.cls) (hconst : (Cond.constantLong own index v).before args s = true) (hd : decode c.code pc = .ok (.ldc2_w index, 3)) (pc' : Nat) (hp : pc + 3 = pc')
    (K : Go p e below P (T.setTop (mkF m pc' Ls (.long v :: st)))) : Go p e below P (T.setTop (mkF m pc Ls st)) := by
  subst hp
  exact Go.mv (fun t q => X.ldc2Long hx hown hconst (g := mkF m pc Ls st) rfl hd t q) K
theorem g_instNo (X : Stand p l e R s m args below meth c T locs cells slots) (hx : p.tables.exec = Jvm.exec) (hZ : Z.Warmed39 s.vm) {own K0 C : String} {index : Nat} (hown : s.vm.findClass own = some m.cls) (w : (Cond.classLink own index K0).before a0 Z = true) (eT : T.heap = h) {a : Addr} (E : Exa Z h a C) (F : ∃ c t, Z.vm.findClass C = some c ∧ Z.vm.findClass K0 = some t ∧ Z.vm.assignable c t = false) (hd : decode c.code pc = .ok (.instanceof index, 3)) (pc' : Nat) (hp : pc + 3 = pc')
    (K : ∀ T', Stand p l e R s m args below meth c T' locs cells slots → T'.heap = h → Go p e below P (T'.setTop (mkF m pc' Ls (.int 0 :: st)))) : Go p e below P (T.setTop (mkF m pc Ls (.ref a :: st))) := by
  subst hp
  obtain ⟨T', X', e', k⟩ := instNo X hx hZ hown w eT E F (g := mkF m pc Ls (.ref a :: st)) rfl rfl hd
  exact Go.mv k (K T' X' e')
theorem g_instNull (X : Stand p l e R s m args below meth c T locs cells slots) (hx : p.tables.exec = Jvm.exec) {index : Nat} (hd : decode c.code pc = .ok (.instanceof index, 3)) (pc' : Nat) (hp : pc + 3 = pc')
    (K : Go p e below P (T.setTop (mkF m pc' Ls (.int 0 :: st)))) : Go p e below P (T.setTop (mkF m pc Ls (.null :: st))) := by
  subst hp
  exact Go.mv (fun t q => X.instanceofNull hx (g := mkF m pc Ls (.null :: st)) rfl rfl hd t q) K
/-- an object of C (whose superclass is Object) is no K -/
theorem notSub {C O K0 : String} {n : Nat} (w : (Cond.superclass C O).before a0 Z = true) (wo : (Cond.noSuperclass O).before a0 Z = true) (wk : (Cond.instantiable K0 n).before a0 Z = true) (hn : C ≠ K0) (ho : O ≠ K0) : ∃ c t, Z.vm.findClass C = some c ∧ Z.vm.findClass K0 = some t ∧ Z.vm.assignable c t = false := by
  obtain ⟨t, k', g0, g2, g5, g7, -⟩ := Cond.instantiable_spec wk
  obtain ⟨c, h0⟩ := found_sup w
  obtain ⟨p0, k, kp, h1, h2, h3, h4, h5, -, h7⟩ := Cond.superclass_spec h0 w
  obtain ⟨cO, kO, i1, i2, i3, -, -⟩ := Cond.noSuperclass_spec wo
  cases h1.symm.trans i1
  have ne := ids_ne h0 g0 hn
  have ne2 := ids_ne h1 g0 ho
  have g8 : k'.isInterface = false := by cases hq : k'.isInterface <;> simp [hq] at g7 ⊢
  refine ⟨c, t, h0, g0, ?_⟩
  show Z.vm.assignableAux (255 + 1) c t = false
  have n3 : ∀ fuel, Z.vm.isSubclassAux fuel c t = false := fun fuel => by
    cases fuel with
    | zero => rfl
    | succ f =>
      have : Z.vm.isSubclassAux f p0 t = false := by
        cases f with
        | zero => rfl
        | succ f => simp [Vm.isSubclassAux, ne2, i2, i3]
      simp [Vm.isSubclassAux, ne, h2, h4, this]
  simp [Vm.assignableAux, ne, h2, g2, h5, g5, g8, Vm.isSubclass, n3]
end Clone
end Jvm.Own
namespace Jvm.Own
open Jvm Sem ClassFile Op Lib Jvm.Stand Jvm.Free Jvm.LawKit Jvm.RoadKit
/-- a sign of Latin-1 -/
abbrev Lat (x : Int32) : Prop := ¬ x < 0 ∧ ¬ (255 : Int32) < x
theorem Lat.nat {x : Int32} (h : Lat x) : ∃ k : Fin 256, x = Int32.ofNat k.val := by
  obtain ⟨h1, h2⟩ := h
  rw [Int32.lt_iff_toInt_lt] at h1 h2
  have e0 : (0 : Int32).toInt = 0 := rfl
  have e1 : (255 : Int32).toInt = 255 := rfl
  refine ⟨⟨x.toInt.toNat, by omega⟩, ?_⟩
  rw [← Int32.toInt_inj]
  show x.toInt = (Int32.ofNat x.toInt.toNat).toInt
  rw [Int32.toInt_ofNat_of_lt (by omega)]; omega
theorem lat_case {P : Int32 → Prop} (t : ∀ k : Fin 256, P (Int32.ofNat k.val)) {x : Int32} (h : Lat x) : P x := by
  obtain ⟨k, rfl⟩ := h.nat; exact t k
theorem lat255c (x : Int32) : Lat ((x &&& 255).toUInt32.toUInt16.toUInt32.toInt32) := by rw [c255]; exact lat255 x
theorem nar_lat {x : Int32} (h : Lat x) : nar .char x = x := lat_case (P := fun x => nar .char x = x) (by decide +kernel) h
theorem i2c_lat {x : Int32} (h : Lat x) : x.toUInt32.toUInt16.toUInt32.toInt32 = x := nar_lat h
theorem narrow_lat {x : Int32} (h : Lat x) : narrow .char (.int x) = .int x := congrArg Value.int (nar_lat h)
theorem lo_lat {x : Int32} (h : Lat x) : x.toInt8.toInt32 &&& 255 = x := lat_case (P := fun x => x.toInt8.toInt32 &&& 255 = x) (by decide +kernel) h
theorem narrow_if (P : Prop) [Decidable P] : narrow .boolean (.int (if P then 1 else 0)) = .int (if P then 1 else 0) := by split <;> rfl
theorem lat_up {cs : List Int32} (h : ∀ c ∈ cs, Lat c) : ∀ c ∈ cs, ¬ c < 0 ∧ ¬ (65535 : Int32) < c := fun c hc => ⟨(h c hc).1, fun q => (h c hc).2 (by rw [Int32.lt_iff_toInt_lt] at q ⊢; have e1 : (65535 : Int32).toInt = 65535 := rfl; have e2 : (255 : Int32).toInt = 255 := rfl; omega)⟩
theorem lat_xor1 (a b : Int32) (h : Lat a) : Lat ((a ^^^ (b &&& 1)).toUInt32.toUInt16.toUInt32.toInt32) := by
  have t : ∀ k : Fin 256, Lat ((Int32.ofNat k.val ^^^ 0).toUInt32.toUInt16.toUInt32.toInt32) ∧ Lat ((Int32.ofNat k.val ^^^ 1).toUInt32.toUInt16.toUInt32.toInt32) := by decide +kernel
  obtain ⟨k, rfl⟩ := h.nat
  rcases and_one b with e | e <;> rw [e]
  · exact (t k).1
  · exact (t k).2
theorem len12 (x : Int32) : (1 : Int32) + (x &&& 1) = 1 ∨ (1 : Int32) + (x &&& 1) = 2 := by
  rcases and_one x with e | e <;> rw [e]
  · exact Or.inl rfl
  · exact Or.inr rfl
theorem if1_ne {P : Prop} [Decidable P] (h : ¬ (if P then (1 : Int32) else 0) = 0) : P := by
  by_cases q : P
  · exact q
  · rw [if_neg q] at h; exact absurd rfl h
theorem if1_eq {P : Prop} [Decidable P] (h : (if P then (1 : Int32) else 0) = 0) : ¬ P := fun q => by rw [if_pos q] at h; exact absurd h (by decide)
end Jvm.Own
namespace Jvm.Own
open Jvm Sem ClassFile Op Lib Jvm.Stand Jvm.Free Jvm.LawKit Jvm.RoadKit
theorem nar_b (x : Int32) : nar .byte x.toInt8.toInt32 = x.toInt8.toInt32 := by show x.toInt8.toInt32.toInt8.toInt32 = _; rw [Int8.toInt8_toInt32]
end Jvm.Own
namespace Jvm.Own
open Jvm Sem ClassFile Op Lib Jvm.Stand Jvm.Free Jvm.LawKit Jvm.RoadKit
theorem mask31 (x : Int32) : ¬ (x &&& 2147483647) < 0 := fun q => absurd ((XT.and_neg32 x 2147483647).mp q).2 (by decide)
theorem mod_lt (x m : Int32) (hx : ¬ x < 0) (hm : 0 < m.toInt) : 0 ≤ (x % m).toInt ∧ (x % m).toInt < m.toInt := by
  rw [Int32.lt_iff_toInt_lt] at hx
  have e0 : (0 : Int32).toInt = 0 := rfl
  rw [Int32.toInt_mod]
  exact ⟨Int.tmod_nonneg _ (by omega), Int.tmod_lt_of_pos _ hm⟩
theorem mod3 (x : Int32) : (x &&& 2147483647) % 3 = 0 ∨ (x &&& 2147483647) % 3 = 1 ∨ (x &&& 2147483647) % 3 = 2 := by
  obtain ⟨h1, h2⟩ := mod_lt (x &&& 2147483647) 3 (mask31 x) (by decide)
  generalize (x &&& 2147483647) % 3 = y at *
  have e3 : (3 : Int32).toInt = 3 := rfl
  have : y.toInt = 0 ∨ y.toInt = 1 ∨ y.toInt = 2 := by omega
  rcases this with h | h | h
  · exact Or.inl (Int32.toInt_inj.mp (h.trans rfl))
  · exact Or.inr (Or.inl (Int32.toInt_inj.mp (h.trans rfl)))
  · exact Or.inr (Or.inr (Int32.toInt_inj.mp (h.trans rfl)))
theorem mod5 (x : Int32) : (x &&& 2147483647) % 5 = 0 ∨ (x &&& 2147483647) % 5 = 1 ∨ (x &&& 2147483647) % 5 = 2 ∨ (x &&& 2147483647) % 5 = 3 ∨ (x &&& 2147483647) % 5 = 4 := by
  obtain ⟨h1, h2⟩ := mod_lt (x &&& 2147483647) 5 (mask31 x) (by decide)
  generalize (x &&& 2147483647) % 5 = y at *
  have e3 : (5 : Int32).toInt = 5 := rfl
  have : y.toInt = 0 ∨ y.toInt = 1 ∨ y.toInt = 2 ∨ y.toInt = 3 ∨ y.toInt = 4 := by omega
  rcases this with h | h | h | h | h
  · exact Or.inl (Int32.toInt_inj.mp (h.trans rfl))
  · exact Or.inr (Or.inl (Int32.toInt_inj.mp (h.trans rfl)))
  · exact Or.inr (Or.inr (Or.inl (Int32.toInt_inj.mp (h.trans rfl))))
  · exact Or.inr (Or.inr (Or.inr (Or.inl (Int32.toInt_inj.mp (h.trans rfl)))))
  · exact Or.inr (Or.inr (Or.inr (Or.inr (Int32.toInt_inj.mp (h.trans rfl)))))
end Jvm.Own
namespace Jvm.Own
open Jvm Sem ClassFile Op Lib Jvm.Stand Jvm.Free Jvm.LawKit Jvm.RoadKit
theorem mem3 {P : Int32 → Prop} {a b c : Int32} (ha : P a) (hb : P b) (hc : P c) : ∀ x ∈ ([a, b, c] : List Int32), P x := fun x hx => by
  simp only [List.mem_cons, List.not_mem_nil, or_false] at hx
  rcases hx with rfl | rfl | rfl
  · exact ha
  · exact hb
  · exact hc
theorem mem4 {P : Int32 → Prop} {a b c d : Int32} (ha : P a) (hb : P b) (hc : P c) (hd : P d) : ∀ x ∈ ([a, b, c, d] : List Int32), P x := fun x hx => by
  simp only [List.mem_cons, List.not_mem_nil, or_false] at hx
  rcases hx with rfl | rfl | rfl | rfl
  · exact ha
  · exact hb
  · exact hc
  · exact hd
theorem and3 (x : Int32) : x &&& 3 = 0 ∨ x &&& 3 = 1 ∨ x &&& 3 = 2 ∨ x &&& 3 = 3 := by
  have h : (x &&& 3).toBitVec.toNat < 4 := by
    simp only [Int32.toBitVec_and, BitVec.toNat_and]
    exact Nat.lt_succ_of_le Nat.and_le_right
  have e : (x &&& 3) = Int32.ofNat (x &&& 3).toBitVec.toNat := by
    apply Int32.toBitVec_inj.mp
    show _ = BitVec.ofNat 32 _
    rw [BitVec.ofNat_toNat]; simp
  have t : ∀ k : Fin 4, Int32.ofNat k.val = 0 ∨ Int32.ofNat k.val = 1 ∨ Int32.ofNat k.val = 2 ∨ Int32.ofNat k.val = 3 := by decide
  rw [e]; exact t ⟨_, h⟩
end Jvm.Own
namespace Jvm.Own
open Jvm Sem ClassFile Op Lib Jvm.Stand Jvm.Free Jvm.LawKit Jvm.RoadKit
section Wide
variable {p : Program} {l : Launch} {e : Env} {R : Room} {s : State} {m : MethodId} {args : Array Value} {below : List Frame} {meth : Method} {c : Code} {T : State} {locs : List Loc} {cells slots : Nat} {P : Outcome → State → Prop} {pc : Nat} {Ls : Array Slot} {st : List Value} {Z : State} {a0 : Array Value} {h : Heap} {EL : List (String × Nat)} {vm : Vm}
/-- the end of a body that may intern -/
def EndW (Z : State) (EL : List (String × Nat)) (s : State) (Q : Option Value → Heap → List Loc → Prop) (C N : Nat) (o : Outcome) (t : State) : Prop := ∃ v L, o = .returned v ∧ Q v t.heap L ∧ CHr Z EL s.vm s.heap t.vm t.heap ∧ ReturnedEndW s o t L C N
theorem w_ret (X : Stand p l e R (s.setVm vm) m args below meth c T locs cells slots) (hx : p.tables.exec = Jvm.exec) (hZ : Z.Warmed39 (s.setVm vm).vm) (hEL : EW Z a0 EL) {k0 : Nat} (hS : s.Since vm k0) (hk : k0 ≤ h.size) (CR : CHr Z EL s.vm s.heap vm h) {t : FieldType} {v : Value} {i : Instr} (hret : meth.sig.returnType = some t) (hlocks : meth.locks = false) (hn : narrow t v = v)
    (hi : (i = .ireturn ∧ (t = .int ∨ t = .boolean ∨ t = .byte ∨ t = .char ∨ t = .short) ∧ ∃ z, v = .int z) ∨ (i = .lreturn ∧ t = .long ∧ ∃ z, v = .long z) ∨ (i = .dreturn ∧ t = .double ∧ ∃ z, v = .double z) ∨ (i = .freturn ∧ t = .float ∧ ∃ z, v = .float z) ∨ (i = .areturn ∧ t.isReference = true ∧ v.isRef = true))
    (hd : decode c.code pc = .ok (i, 1)) {Q : Option Value → Heap → List Loc → Prop} {C N : Nat} (hC : cells ≤ C) (hN : slots ≤ N) (eT : T.heap = h) (hQ : Q (some v) h locs) : Go p e below (EndW Z EL s Q C N) (T.setTop (mkF m pc Ls (v :: st))) := by
  obtain ⟨fs, hr, hrun, hended, hE⟩ := X.leaveW hS (by rw [eT]; exact hk) (v := some v) (fun h => by rw [hret] at h; cases h) hlocks
  refine ⟨_, _, retOut X hx hret hn hi hd hr, hrun, hended, _, _, rfl, by show Q _ T.heap _; rw [eT]; exact hQ, ?_, hE.1, hE.2.1, hE.2.2.1, hE.2.2.2.mono hC hN⟩
  show CHr Z EL s.vm s.heap T.vm T.heap
  rw [eT]; exact CR.trans (CHv.at X hZ hEL CR.1)
theorem w_retV (X : Stand p l e R (s.setVm vm) m args below meth c T locs cells slots) (hx : p.tables.exec = Jvm.exec) (hZ : Z.Warmed39 (s.setVm vm).vm) (hEL : EW Z a0 EL) {k0 : Nat} (hS : s.Since vm k0) (hk : k0 ≤ h.size) (CR : CHr Z EL s.vm s.heap vm h) (hret : meth.sig.returnType = none) (hlocks : meth.locks = false)
    (hd : decode c.code pc = .ok (.return_, 1)) {Q : Option Value → Heap → List Loc → Prop} {C N : Nat} (hC : cells ≤ C) (hN : slots ≤ N) (eT : T.heap = h) (hQ : Q none h locs) : Go p e below (EndW Z EL s Q C N) (T.setTop (mkF m pc Ls [])) := by
  obtain ⟨fs, hr, hrun, hended, hE⟩ := X.leaveW hS (by rw [eT]; exact hk) (v := none) (fun _ => rfl) hlocks
  refine ⟨_, _, X.returnOut hx hret hd hr, hrun, hended, _, _, rfl, by show Q _ T.heap _; rw [eT]; exact hQ, ?_, hE.1, hE.2.1, hE.2.2.1, hE.2.2.2.mono hC hN⟩
  show CHr Z EL s.vm s.heap T.vm T.heap
  rw [eT]; exact CR.trans (CHv.at X hZ hEL CR.1)
theorem w_ldc (X : Stand p l e R (s.setVm vm) m args below meth c T locs cells slots) (hx : p.tables.exec = Jvm.exec) (hZ : Z.Warmed39 (s.setVm vm).vm) {own text : String} {index : Nat} (hown : (s.setVm vm).vm.findClass own = some m.cls) (w : (Cond.stringLink own index text).before a0 Z = true) (wS : ∀ a ∈ Bundle.stringAtoms, a.before a0 Z = true)
    (eT : T.heap = h) {k0 : Nat} (hS : s.Since vm k0) (hk : k0 ≤ h.size) (hEL : EW Z a0 EL) (hmem : (own, index) ∈ EL) (H : CHv Z EL vm h) (vs : List Value) (z : Int32) (ht : (∀ c ∈ text.toList, c.toNat < 256) ∧ text.toList.map (fun c => Value.int (Jvm.Lit.byteI c.toNat.toUInt16)) = vs) (hz : ¬ z < 0) (hl : z.toNatClampNeg = vs.length)
    (hd : decode c.code pc = .ok (.ldc index, 2)) (n : Nat) (hn : 4 * text.toList.length ≤ n) (hbig : n ≤ 536870912) (hc : cells + 2 ≤ R.cells) (hl' : slots + (n + 4) ≤ R.slots) (pc' : Nat) (hp : pc + 2 = pc')
    (K : ∀ a T' h' k1 b k, Stand p l e R (s.setVm T'.vm) m args below meth c T' locs (cells + 2) (slots + (n + 4)) → T'.heap = h' → Ext h h' → s.Since T'.vm k1 → k1 ≤ h'.size → Z.Warmed39 (s.setVm T'.vm).vm → (s.setVm T'.vm).vm.findClass own = some m.cls →
      Exa Z h' a "java/lang/String" → Fld Z h' a "java/lang/String" "coder" "B" (.int 0) → Fld Z h' a "java/lang/String" "value" "[B" (.ref b) → Arv Z h' b k .byte z vs (.int 0) → CHr Z EL vm h T'.vm h' → (∀ x, Safe Z EL T'.vm h' x → x ≠ a ∧ x ≠ b) → Go p e below P (T'.setTop (mkF m pc' Ls (.ref a :: st)))) : Go p e below P (T.setTop (mkF m pc Ls st)) := by
  subst hp
  obtain ⟨a, T', h', k1, b, k, X', e', E, hS', hk', hZ', hown', A, F1, F2, V, -, -, CR, -, hs, stp⟩ := ldcCH X hx hZ hown w wS eT hS hk hEL hmem H ht hz hl (g := mkF m pc Ls st) rfl hd hn hbig hc hl'
  exact Go.mv stp (K a T' h' k1 b k X' e' E hS' hk' hZ' hown' A F1 F2 V CR hs)
theorem w_special (X : Stand p l e R (s.setVm vm) m args below meth c T locs cells slots) (hx : p.tables.exec = Jvm.exec) (hZ : Z.Warmed39 (s.setVm vm).vm) {own : String} {index : Nat} {y : MethodName} (hy1 : y.name = "<init>")
    (hown : (s.setVm vm).vm.findClass own = some m.cls) (hlink : (Cond.methodLink own index y).before args (s.setVm vm) = true) (hinst : (Cond.instanceMethod y).before args (s.setVm vm) = true)
    {bytes : ByteArray} {maxL : Nat} (hcode : (Cond.code y bytes maxL none).before args (s.setVm vm) = true) (hy : y.cls ≠ "java/lang/invoke/MethodHandle" ∧ y.cls ≠ "java/lang/invoke/VarHandle")
    {W rc rs : Nat} {a : Addr} (argsL : List Value) {Q : Option Value → Heap → List Loc → Prop} (hK : BackS l R p e below (s.setVm vm) args y 3 W (fun A b => b = (.ref a :: argsL).toArray ∧ A.U.heap = h ∧ A.cells + rc ≤ R.cells ∧ A.slots + rs ≤ R.slots) (fun A _ v B => ∃ L, Q v B.U.heap L ∧ B.locs = A.locs ++ L ∧ B.cells = A.cells + rc ∧ B.slots = A.slots + rs ∧ CHr Z EL vm h B.U.vm B.U.heap))
    (eT : T.heap = h) {k0 : Nat} (hS : s.Since vm k0) (hk : k0 ≤ h.size) (hsize : Ls.size = c.maxLocals) (rest : List Value) (hlen : ∀ sig, parseMethodDescriptor y.desc = some sig → argsL.length = sig.parameters.length)
    (hstack : st = argsL.reverse ++ .ref a :: rest) (hW : (rest.map fun v => v.category).sum ≤ W) (hd : decode c.code pc = .ok (.invokespecial index, 3)) (hc : cells + rc ≤ R.cells) (hl : slots + rs ≤ R.slots) (pc' : Nat) (hp : pc + 3 = pc')
    (K : ∀ v T' L, Stand p l e R (s.setVm T'.vm) m args below meth c T' (locs ++ L) (cells + rc) (slots + rs) → s.Since T'.vm T'.heap.size → Z.Warmed39 (s.setVm T'.vm).vm → (s.setVm T'.vm).vm.findClass own = some m.cls → CHr Z EL vm h T'.vm T'.heap → Q v T'.heap L → Go p e below P (T'.setTop (mkF m pc' Ls (v.toList ++ rest)))) : Go p e below P (T.setTop (mkF m pc Ls st)) := by
  subst hp
  obtain ⟨v, vm1, ⟨T', L', k', n'⟩, -, X', hS2, hgr, ⟨Lc, hQ, l1, y1, z1, CR⟩, k⟩ := X.specialBackS hx (y := y) hy1 hown hlink hinst hcode hy hK (g := mkF m pc Ls st) rfl hsize (Steps.refl _) (a := a) (argsL := argsL) (rest := rest) hlen hstack (by show 2 * 0 + _ ≤ _; omega) hd (fun _ _ => ⟨rfl, eT, hc, hl⟩)
  dsimp only [Pt.U, Pt.locs, Pt.cells, Pt.slots] at X' l1 y1 z1 k hQ hS2 hgr CR
  subst l1 y1 z1
  obtain ⟨X2, q1, q2, q3⟩ := rebS hS hk X' hS2 (by rw [← eT]; exact hgr) hZ hown
  exact Go.tr k (K v T' Lc X2 q1 q2 q3 CR hQ)
theorem w_callS (X : Stand p l e R (s.setVm vm) m args below meth c T locs cells slots) (hx : p.tables.exec = Jvm.exec) (hZ : Z.Warmed39 (s.setVm vm).vm) {own : String} {index : Nat} {y : MethodName} {bytes : ByteArray} {maxL : Nat} {ret : Option FieldType}
    (hown : (s.setVm vm).vm.findClass own = some m.cls) (hlink : (Cond.methodLink own index y).before args (s.setVm vm) = true) (hstat : (Cond.static y).before args (s.setVm vm) = true) (hinit : (Cond.initialized y.cls).before args (s.setVm vm) = true)
    (hcode : (Cond.code y bytes maxL ret).before args (s.setVm vm) = true) (hy : y.cls ≠ "java/lang/invoke/MethodHandle" ∧ y.cls ≠ "java/lang/invoke/VarHandle")
    {W rc rs : Nat} (argsL : List Value) {Q : Option Value → Heap → List Loc → Prop} (hK : BackS l R p e below (s.setVm vm) args y 3 W (fun A b => b = argsL.toArray ∧ A.U.heap = h ∧ A.cells + rc ≤ R.cells ∧ A.slots + rs ≤ R.slots) (fun A _ v B => ∃ L, Q v B.U.heap L ∧ B.locs = A.locs ++ L ∧ B.cells = A.cells + rc ∧ B.slots = A.slots + rs ∧ CHr Z EL vm h B.U.vm B.U.heap))
    (eT : T.heap = h) {k0 : Nat} (hS : s.Since vm k0) (hk : k0 ≤ h.size) (hsize : Ls.size = c.maxLocals) (rest : List Value) (hlen : ∀ sig, parseMethodDescriptor y.desc = some sig → argsL.length = sig.parameters.length)
    (hstack : st = argsL.reverse ++ rest) (hW : (rest.map fun v => v.category).sum ≤ W) (hd : decode c.code pc = .ok (.invokestatic index, 3)) (hc : cells + rc ≤ R.cells) (hl : slots + rs ≤ R.slots) (pc' : Nat) (hp : pc + 3 = pc')
    (K : ∀ v T' L, Stand p l e R (s.setVm T'.vm) m args below meth c T' (locs ++ L) (cells + rc) (slots + rs) → s.Since T'.vm T'.heap.size → Z.Warmed39 (s.setVm T'.vm).vm → (s.setVm T'.vm).vm.findClass own = some m.cls → CHr Z EL vm h T'.vm T'.heap → Q v T'.heap L → Go p e below P (T'.setTop (mkF m pc' Ls (v.toList ++ rest)))) : Go p e below P (T.setTop (mkF m pc Ls st)) := by
  subst hp
  obtain ⟨v, vm1, ⟨T', L', k', n'⟩, -, X', hS2, hgr, ⟨Lc, hQ, l1, y1, z1, CR⟩, k⟩ := callSS X hx (y := y) hown hlink hstat hinit hcode hy hK (g := mkF m pc Ls st) rfl hsize (argsL := argsL) (rest := rest) hlen hstack (by show 2 * 0 + _ ≤ _; omega) hd (fun _ _ => ⟨rfl, eT, hc, hl⟩)
  dsimp only [Pt.U, Pt.locs, Pt.cells, Pt.slots] at X' l1 y1 z1 k hQ hS2 hgr CR
  subst l1 y1 z1
  obtain ⟨X2, q1, q2, q3⟩ := rebS hS hk X' hS2 (by rw [← eT]; exact hgr) hZ hown
  exact Go.tr k (K v T' Lc X2 q1 q2 q3 CR hQ)
theorem w_virtual (X : Stand p l e R (s.setVm vm) m args below meth c T locs cells slots) (hx : p.tables.exec = Jvm.exec) (hZ : Z.Warmed39 (s.setVm vm).vm) {own C : String} {index : Nat} {y z : MethodName}
    (hown : (s.setVm vm).vm.findClass own = some m.cls) (hlink : (Cond.methodLink own index y).before args (s.setVm vm) = true) (hdecl : (Cond.declares y).before args (s.setVm vm) = true) (hnf : NotFace (s.setVm vm) y)
    (hsel : (Cond.selects C y z).before args (s.setVm vm) = true) (hinst : (Cond.instanceMethod z).before args (s.setVm vm) = true) (hy : y.cls ≠ "java/lang/invoke/MethodHandle" ∧ y.cls ≠ "java/lang/invoke/VarHandle")
    {W rc rs : Nat} {a : Addr} (argsL : List Value) {Q : Option Value → Heap → List Loc → Prop} (hK : BackS l R p e below (s.setVm vm) args z 3 W (fun A b => b = (.ref a :: argsL).toArray ∧ A.U.heap = h ∧ A.cells + rc ≤ R.cells ∧ A.slots + rs ≤ R.slots) (fun A _ v B => ∃ L, Q v B.U.heap L ∧ B.locs = A.locs ++ L ∧ B.cells = A.cells + rc ∧ B.slots = A.slots + rs ∧ CHr Z EL vm h B.U.vm B.U.heap))
    (E : Exa Z h a C) (eT : T.heap = h) {k0 : Nat} (hS : s.Since vm k0) (hk : k0 ≤ h.size) (hsize : Ls.size = c.maxLocals) (rest : List Value) (hlen : ∀ sig, parseMethodDescriptor y.desc = some sig → argsL.length = sig.parameters.length)
    (hstack : st = argsL.reverse ++ .ref a :: rest) (hW : (rest.map fun v => v.category).sum ≤ W) (hd : decode c.code pc = .ok (.invokevirtual index, 3)) (hc : cells + rc ≤ R.cells) (hl : slots + rs ≤ R.slots) (pc' : Nat) (hp : pc + 3 = pc')
    (K : ∀ v T' L, Stand p l e R (s.setVm T'.vm) m args below meth c T' (locs ++ L) (cells + rc) (slots + rs) → s.Since T'.vm T'.heap.size → Z.Warmed39 (s.setVm T'.vm).vm → (s.setVm T'.vm).vm.findClass own = some m.cls → CHr Z EL vm h T'.vm T'.heap → Q v T'.heap L → Go p e below P (T'.setTop (mkF m pc' Ls (v.toList ++ rest)))) : Go p e below P (T.setTop (mkF m pc Ls st)) := by
  subst hp
  obtain ⟨cq, kq, qa, qb, qc⟩ := isOf hZ eT E
  obtain ⟨v, vm1, ⟨T', L', k', n'⟩, -, X', hS2, hgr, ⟨Lc, hQ, l1, y1, z1, CR⟩, k⟩ := X.virtualBackS hx (y := y) (z := z) hown hlink hdecl hnf hsel hinst hy hK qa qc (g := mkF m pc Ls st) rfl hsize (Steps.refl _) (argsL := argsL) (rest := rest) hlen hstack (by show 2 * 0 + _ ≤ _; omega) hd (fun _ _ => ⟨rfl, eT, hc, hl⟩)
  dsimp only [Pt.U, Pt.locs, Pt.cells, Pt.slots] at X' l1 y1 z1 k hQ hS2 hgr CR
  subst l1 y1 z1
  obtain ⟨X2, q1, q2, q3⟩ := rebS hS hk X' hS2 (by rw [← eT]; exact hgr) hZ hown
  exact Go.tr k (K v T' Lc X2 q1 q2 q3 CR hQ)
theorem backW {y : MethodName} {bytes : ByteArray} {maxL : Nat} {ret : Option FieldType} {rm : Room} {len W : Nat} {as' : Array Value} {Q : Option Value → Heap → List Loc → Prop} {SF : List Addr}
    (hM : MetFree l y (head1 [Cond.code y bytes maxL ret] rm) (fun a U => a = as' ∧ Z.Warmed39 U.vm ∧ U.heap = h ∧ CHv Z EL U.vm h ∧ ∀ x ∈ SF, Safe Z EL U.vm h x) (fun _ _ _ _ _ => True) (fun _ U o U' => EndW Z EL U Q rm.cells rm.slots o U'))
    (hZ : Z.Warmed39 (s.setVm vm).vm) (wc : (Cond.code y bytes maxL ret).before a0 Z = true) (wz : (Cond.initialized y.cls).before a0 Z = true) (hf : rm.frames + 1 ≤ R.frames) (hl : W + (maxL + 11) + rm.locals ≤ R.locals) (hEL : EW Z a0 EL) (H : CHv Z EL vm h) (hSF : ∀ x ∈ SF, x < h.size ∧ Safe Z EL vm h x) :
    BackS l R p e below (s.setVm vm) args y len W (fun A a => a = as' ∧ A.U.heap = h ∧ A.cells + rm.cells ≤ R.cells ∧ A.slots + rm.slots ≤ R.slots)
      (fun A _ v B => ∃ L, Q v B.U.heap L ∧ B.locs = A.locs ++ L ∧ B.cells = A.cells + rm.cells ∧ B.slots = A.slots + rm.slots ∧ CHr Z EL vm h B.U.vm B.U.heap) :=
  BackS.of_freeW (bytes := bytes) (maxL := maxL) (ret := ret) (E := fun _ first o t L k n => k = rm.cells ∧ n = rm.slots ∧ (∃ v, o = .returned v ∧ Q v t.heap L) ∧ CHr Z EL first.vm first.heap t.vm t.heap) hM hf hl
    (fun m meth c A a Y hp => have hU : Z.Warmed39 A.U.vm := wtrans (s := s.setVm vm) hZ Y.warmed
      ⟨by show (Cond.and _ .tt).before a A.U = true; rw [Cond.before_and, mv hU wc]; rfl, mv hU wc, mv hU wz, hp.2.2.1, hp.2.2.2⟩)
    (fun m meth c A a g mk Y hp => ⟨hp.1, wtrans (s := s.setVm vm) hZ Y.warmed, hp.2.1, (CHv.at Y hZ hEL H).1, fun x hx => (CHv.at Y hZ hEL H).safe (hSF x hx).1 (hSF x hx).2⟩) (fun _ _ _ _ _ _ _ _ _ => trivial)
    (fun _ _ _ _ ⟨v, L, h1, h2, h3, h4⟩ => ⟨L, _, _, h4, rfl, rfl, ⟨v, h1, h2⟩, h3⟩)
    (fun m meth c A a g mk v t L k n Y hp _ _ ⟨e1, e2, ⟨v', e3, e4⟩, e5⟩ => by
      cases e3; subst e1 e2
      refine ⟨L, e4, rfl, rfl, rfl, (CHv.at Y hZ hEL H).trans ?_⟩
      rw [← hp.2.1]; exact e5)
end Wide
end Jvm.Own
namespace Jvm.Own
open Jvm Sem ClassFile Op Lib Jvm.Stand Jvm.Free Jvm.LawKit Jvm.RoadKit
def Ch (x : Int32) : Prop := ¬ x < 0 ∧ ¬ (65535 : Int32) < x
theorem Ch.lt {x : Int32} (h : Ch x) : x.toBitVec.toNat < 65536 := by
  obtain ⟨h1, h2⟩ := h
  rw [Int32.lt_iff_toInt_lt] at h1 h2
  have e1 : (0 : Int32).toInt = 0 := rfl
  have e2 : (65535 : Int32).toInt = 65535 := rfl
  rw [e1] at h1; rw [e2] at h2
  have e : x.toInt = x.toBitVec.toInt := rfl
  rw [e, BitVec.toInt_eq_toNat_cond] at h1 h2
  have := x.toBitVec.isLt
  split at h1 <;> omega
theorem Ch.of {x : Int32} (h : x.toBitVec.toNat < 65536) : Ch x := by
  have e : x.toInt = x.toBitVec.toInt := rfl
  have e3 : x.toBitVec.toInt = x.toBitVec.toNat := by rw [BitVec.toInt_eq_toNat_cond, if_pos (by omega)]
  constructor <;> rw [Int32.lt_iff_toInt_lt, e, e3]
  · show ¬ ((x.toBitVec.toNat : Int) < 0); omega
  · show ¬ ((65535 : Int) < x.toBitVec.toNat); omega
theorem i2c_nat (x : Int32) : (x.toUInt32.toUInt16.toUInt32.toInt32).toBitVec.toNat = x.toBitVec.toNat % 65536 := by
  show ((x.toBitVec.setWidth 16).setWidth 32).toNat = _
  rw [BitVec.toNat_setWidth, BitVec.toNat_setWidth]; omega
theorem i2c_Ch (x : Int32) : Ch (x.toUInt32.toUInt16.toUInt32.toInt32) := Ch.of (by rw [i2c_nat]; omega)
theorem int32_ext {x y : Int32} (h : x.toBitVec.toNat = y.toBitVec.toNat) : x = y := Int32.toBitVec_inj.mp (BitVec.eq_of_toNat_eq h)
theorem i2c_ch {x : Int32} (h : Ch x) : x.toUInt32.toUInt16.toUInt32.toInt32 = x := int32_ext (by rw [i2c_nat]; have := h.lt; omega)
theorem b8_nat (x : Int32) : (x.toInt8.toInt32 &&& 255).toBitVec.toNat = x.toBitVec.toNat % 256 := by
  have e : (x.toInt8.toInt32 &&& 255).toBitVec = (x.toBitVec.setWidth 8).signExtend 32 &&& 255#32 := by rw [Int32.toBitVec_and, Int8.toBitVec_toInt32, Int32.toBitVec_toInt8, BitVec.signExtend_eq_setWidth_of_le x.toBitVec (show 8 ≤ 32 by decide)]; rfl
  rw [e]
  rw [BitVec.toNat_and, BitVec.toNat_signExtend]
  show (_ &&& 2 ^ 8 - 1) = _
  rw [Nat.and_two_pow_sub_one_eq_mod, BitVec.toNat_setWidth, BitVec.toNat_setWidth]
  have := x.toBitVec.isLt
  split <;> omega
theorem shr8_nat {x : Int32} (h : Ch x) : (x >>> ((8 : Int32) &&& 31)).toBitVec.toNat = x.toBitVec.toNat / 256 := by
  have hl := h.lt
  show (x.toBitVec.sshiftRight 8).toNat = _
  have hm : x.toBitVec.msb = false := by rw [BitVec.msb_eq_decide]; simp; omega
  rw [BitVec.sshiftRight_eq_of_msb_false hm, BitVec.toNat_ushiftRight, Nat.shiftRight_eq_div_pow]
theorem shr0 (x : Int32) : (x >>> ((0 : Int32) &&& 31)) = x := by
  apply int32_ext
  show (x.toBitVec.sshiftRight 0).toNat = _
  simp
theorem getput {x : Int32} (h : Ch x) : (((((x >>> ((0 : Int32) &&& 31)).toInt8.toInt32) &&& 255) <<< ((0 : Int32) &&& 31)) ||| ((((x >>> ((8 : Int32) &&& 31)).toInt8.toInt32) &&& 255) <<< ((8 : Int32) &&& 31))).toUInt32.toUInt16.toUInt32.toInt32 = x := by
  apply int32_ext
  rw [i2c_nat]
  have hl := h.lt
  have eA : ((((x >>> ((0 : Int32) &&& 31)).toInt8.toInt32) &&& 255) <<< ((0 : Int32) &&& 31)).toBitVec.toNat = x.toBitVec.toNat % 256 := by
    have e : ∀ y : Int32, (y <<< ((0 : Int32) &&& 31)) = y := fun y => by
      apply int32_ext
      show (y.toBitVec <<< 0).toNat = _
      simp
    rw [e, shr0, b8_nat]
  have eB : ((((x >>> ((8 : Int32) &&& 31)).toInt8.toInt32) &&& 255) <<< ((8 : Int32) &&& 31)).toBitVec.toNat = (x.toBitVec.toNat / 256 % 256) <<< 8 := by
    have e : ∀ y : Int32, (y <<< ((8 : Int32) &&& 31)).toBitVec.toNat = (y.toBitVec.toNat <<< 8) % 2 ^ 32 := fun y => by
      show (y.toBitVec <<< 8).toNat = _
      rw [BitVec.toNat_shiftLeft]
    rw [e, b8_nat, shr8_nat h]
    rw [Nat.shiftLeft_eq]; omega
  show (BitVec.toNat (_ ||| _)) % 65536 = _
  rw [BitVec.toNat_or, eA, eB, Nat.or_comm, ← Nat.shiftLeft_add_eq_or_of_lt (i := 8) (by omega), Nat.shiftLeft_eq]
  omega
def icmp (x y : Int32) : Int32 := if x < y then -1 else if x = y then 0 else 1
def sgn (x : Int32) : Int32 := if x < 0 then -1 else if 0 < x then 1 else 0
abbrev HL (a b : Int32) : Prop := (¬ a < 55296 ∧ ¬ (56319 : Int32) < a) ∧ (¬ b < 56320 ∧ ¬ (57343 : Int32) < b)
abbrev HS (a b : Int32) : Prop := (¬ a < 55296 ∧ a < 56320) ∧ (¬ b < 56320 ∧ b < 57344)
def cpx (a b : Int32) : Int32 := ((a - 55296) <<< ((10 : Int32) &&& 31)) + (b - 56320) + 65536
def cpy (a b : Int32) : Int32 := (a <<< ((10 : Int32) &&& 31)) + b + (-56613888)
def cpv (a b : Int32) : Int32 := if HS a b then cpy a b else a
theorem lt_i {x y : Int32} : x < y ↔ x.toInt < y.toInt := Int32.lt_iff_toInt_lt
theorem HS_iff (a b : Int32) : HS a b ↔ HL a b := by
  unfold HS HL
  simp only [lt_i]
  have e1 : (56319 : Int32).toInt = 56319 := rfl
  have e2 : (56320 : Int32).toInt = 56320 := rfl
  have e3 : (57343 : Int32).toInt = 57343 := rfl
  have e4 : (57344 : Int32).toInt = 57344 := rfl
  rw [e1, e2, e3, e4]
  omega
theorem shl10 (a : Int32) : (a <<< ((10 : Int32) &&& 31)).toBitVec.toNat = (a.toBitVec.toNat * 1024) % 2 ^ 32 := by
  show (a.toBitVec <<< 10).toNat = _
  rw [BitVec.toNat_shiftLeft, Nat.shiftLeft_eq]
theorem cpx_cpy (a b : Int32) : cpx a b = cpy a b := by
  apply int32_ext
  unfold cpx cpy
  rw [Int32.toBitVec_add, Int32.toBitVec_add, Int32.toBitVec_add, Int32.toBitVec_add, BitVec.toNat_add, BitVec.toNat_add, BitVec.toNat_add, BitVec.toNat_add, shl10, shl10, Int32.toBitVec_sub, Int32.toBitVec_sub, BitVec.toNat_sub, BitVec.toNat_sub]
  have e1 : (55296 : Int32).toBitVec.toNat = 55296 := rfl
  have e2 : (56320 : Int32).toBitVec.toNat = 56320 := rfl
  have e3 : (65536 : Int32).toBitVec.toNat = 65536 := rfl
  have e4 : (-56613888 : Int32).toBitVec.toNat = 4238353408 := rfl
  rw [e1, e2, e3, e4]
  have := a.toBitVec.isLt
  have := b.toBitVec.isLt
  omega
theorem cp_nat {a : Int32} (h : ¬ a < 0) : a.toBitVec.toNat < 2 ^ 31 ∧ a.toInt = a.toBitVec.toNat := by
  rw [lt_i] at h
  have e : a.toInt = a.toBitVec.toInt := rfl
  have e1 : (0 : Int32).toInt = 0 := rfl
  rw [e1, e] at h
  rw [e]
  rw [BitVec.toInt_eq_toNat_cond] at h ⊢
  have := a.toBitVec.isLt
  split at h <;> constructor <;> omega
theorem nn_of {a k : Int32} (h : ¬ a < k) (hk : ¬ k < 0) : ¬ a < 0 := by
  rw [lt_i] at *
  have e1 : (0 : Int32).toInt = 0 := rfl
  omega
theorem cpx_big {a b : Int32} (h : HL a b) : ¬ cpx a b < 65536 := by
  obtain ⟨⟨h1, h2⟩, h3, h4⟩ := h
  obtain ⟨n1, m1⟩ := cp_nat (nn_of h1 (by decide))
  obtain ⟨n2, m2⟩ := cp_nat (nn_of h3 (by decide))
  rw [lt_i] at *
  have e1 : (55296 : Int32).toInt = 55296 := rfl
  have e2 : (56320 : Int32).toInt = 56320 := rfl
  have e3 : (56319 : Int32).toInt = 56319 := rfl
  have e4 : (57343 : Int32).toInt = 57343 := rfl
  have e5 : (65536 : Int32).toInt = 65536 := rfl
  rw [e1, m1] at h1; rw [e3, m1] at h2; rw [e2, m2] at h3; rw [e4, m2] at h4
  have en : (cpx a b).toBitVec.toNat = (a.toBitVec.toNat - 55296) * 1024 + (b.toBitVec.toNat - 56320) + 65536 := by
    unfold cpx
    rw [Int32.toBitVec_add, Int32.toBitVec_add, BitVec.toNat_add, BitVec.toNat_add, shl10, Int32.toBitVec_sub, Int32.toBitVec_sub, BitVec.toNat_sub, BitVec.toNat_sub]
    have e1 : (55296 : Int32).toBitVec.toNat = 55296 := rfl
    have e2 : (56320 : Int32).toBitVec.toNat = 56320 := rfl
    have e3 : (65536 : Int32).toBitVec.toNat = 65536 := rfl
    rw [e1, e2, e3]
    omega
  have e : (cpx a b).toInt = (cpx a b).toBitVec.toInt := rfl
  rw [e, BitVec.toInt_eq_toNat_cond, en, if_pos (by omega), e5]
  omega
theorem Ch.small {a : Int32} (h : Ch a) : a < 65536 := by
  have := h.2
  rw [lt_i] at *
  have e1 : (65535 : Int32).toInt = 65535 := rfl
  have e2 : (65536 : Int32).toInt = 65536 := rfl
  omega
def cmpL : List Int32 → List Int32 → Int32
  | [], ds => icmp 0 (Int32.ofNat ds.length)
  | cs, [] => icmp (Int32.ofNat cs.length) 0
  | [a], [c] => if a = c then icmp 1 1 else icmp a c
  | [a], [c, d] => if a = cpv c d then icmp 1 2 else icmp a (cpv c d)
  | [a, b], [c] => if cpv a b = c then icmp 2 1 else icmp (cpv a b) c
  | [a, b], [c, d] => if cpv a b = cpv c d then (if cpv a b < 65536 then (if b = d then icmp 2 2 else icmp b d) else icmp 2 2) else icmp (cpv a b) (cpv c d)
  | _, _ => 0
def p0 : List Int32 → Int32 | [] => 0 | [_] => 1 | a :: b :: _ => if HL a b then 1 else 2
def p1 : List Int32 → Int32 | [] => 0 | [a] => a | a :: b :: _ => if HL a b then cpx a b else a
def p2 : List Int32 → Int32 | a :: b :: _ => if HL a b then 0 else b | _ => 0
def expV (x0 x1 x2 y0 y1 y2 : Int32) : Int32 :=
  if ¬ (if y0 < x0 then y0 else x0) < 1 ∧ ¬ x1 = y1 then (if x1 < y1 then -1 else 1) else if ¬ (if y0 < x0 then y0 else x0) < 2 ∧ ¬ x2 = y2 then (if x2 < y2 then -1 else 1) else if x0 < y0 then -1 else if y0 < x0 then 1 else 0
def Shp (cs : List Int32) : Prop := cs = [] ∨ (∃ a, cs = [a] ∧ Ch a) ∨ (∃ a b, cs = [a, b] ∧ Ch a ∧ Ch b)
theorem cpv_eq (a b : Int32) : cpv a b = if HL a b then cpx a b else a := by
  unfold cpv; rw [cpx_cpy]; simp only [HS_iff]
theorem asym {x y : Int32} (h : ¬ x = y) : (x < y ↔ ¬ y < x) := by
  rw [lt_i, lt_i]
  have : x.toInt ≠ y.toInt := fun q => h (Int32.toInt_inj.mp q)
  omega
theorem icmp_ne {x y : Int32} (h : ¬ x = y) : icmp x y = if x < y then -1 else 1 := by unfold icmp; rw [if_neg h]
theorem sgn_pm (P : Prop) [Decidable P] : sgn (if P then -1 else 1) = if P then -1 else 1 := by split <;> decide
theorem neg_pm {x y : Int32} (h : ¬ x = y) : (if y < x then (-1 : Int32) else 1) = -(if x < y then -1 else 1) := by
  have := asym h
  by_cases q : x < y
  · rw [if_pos q, if_neg (this.mp q)]; decide
  · rw [if_neg q, if_pos (Decidable.not_not.mp fun r => q (this.mpr r))]
theorem fin_ne {x y : Int32} (q : ¬ x = y) : sgn (icmp x y) = (if x < y then -1 else 1) ∧ sgn (icmp y x) = -(if x < y then -1 else 1) := by
  rw [icmp_ne q, icmp_ne (Ne.symm q), sgn_pm, sgn_pm, neg_pm q]; exact ⟨rfl, rfl⟩
section E
variable {x0 x1 x2 y0 y1 y2 : Int32}
theorem E1 (n : ¬ (if y0 < x0 then y0 else x0) < 1) (q : ¬ x1 = y1) : expV x0 x1 x2 y0 y1 y2 = if x1 < y1 then -1 else 1 := if_pos ⟨n, q⟩
theorem E2 (n : ¬ (if y0 < x0 then y0 else x0) < 2) (q : x1 = y1) (w : ¬ x2 = y2) : expV x0 x1 x2 y0 y1 y2 = if x2 < y2 then -1 else 1 := (if_neg fun z => z.2 q).trans (if_pos ⟨n, w⟩)
theorem E3 (q : x1 = y1) (w : x2 = y2) : expV x0 x1 x2 y0 y1 y2 = if x0 < y0 then -1 else if y0 < x0 then 1 else 0 := (if_neg fun z => z.2 q).trans (if_neg fun z => z.2 w)
theorem E4 (n : (if y0 < x0 then y0 else x0) < 1) (n' : (if y0 < x0 then y0 else x0) < 2) : expV x0 x1 x2 y0 y1 y2 = if x0 < y0 then -1 else if y0 < x0 then 1 else 0 := (if_neg fun z => z.1 n).trans (if_neg fun z => z.1 n')
theorem E5 (q : x1 = y1) (n : (if y0 < x0 then y0 else x0) < 2) : expV x0 x1 x2 y0 y1 y2 = if x0 < y0 then -1 else if y0 < x0 then 1 else 0 := (if_neg fun z => z.2 q).trans (if_neg fun z => z.1 n)
end E
theorem p0_12 (a b : Int32) : p0 [a, b] = 1 ∨ p0 [a, b] = 2 := by simp only [p0]; split <;> simp
theorem p1_eq (a b : Int32) : p1 [a, b] = cpv a b := (cpv_eq a b).symm
theorem p_HL {a b : Int32} (h : HL a b) : p0 [a, b] = 1 ∧ p1 [a, b] = cpx a b ∧ p2 [a, b] = 0 := ⟨if_pos h, if_pos h, if_pos h⟩
theorem p_nHL {a b : Int32} (h : ¬ HL a b) : p0 [a, b] = 2 ∧ p1 [a, b] = a ∧ p2 [a, b] = b := ⟨if_neg h, if_neg h, if_neg h⟩
theorem s0 (a : Int32) : p0 [a] = 1 := rfl
theorem s1 (a : Int32) : p1 [a] = a := rfl
theorem s2 (a : Int32) : p2 [a] = 0 := rfl
theorem z0 : p0 [] = 0 := rfl
theorem plain (cs ds : List Int32) (hc : Shp cs) (hd : Shp ds) : sgn (cmpL cs ds) = expV (p0 cs) (p1 cs) (p2 cs) (p0 ds) (p1 ds) (p2 ds) ∧ sgn (cmpL ds cs) = - expV (p0 cs) (p1 cs) (p2 cs) (p0 ds) (p1 ds) (p2 ds) := by
  rcases hc with rfl | ⟨a, rfl, ha⟩ | ⟨a, b, rfl, ha, hb⟩ <;> rcases hd with rfl | ⟨c, rfl, hc⟩ | ⟨c, d, rfl, hc, hd⟩
  · decide
  · rw [z0, s0, E4 (by decide) (by decide)]; exact ⟨rfl, rfl⟩
  · rcases p0_12 c d with h0 | h0 <;> rw [z0, h0, E4 (by decide) (by decide)] <;> exact ⟨rfl, rfl⟩
  · rw [z0, s0, E4 (by decide) (by decide)]; exact ⟨rfl, rfl⟩
  · by_cases q : a = c
    · subst q
      rw [E3 rfl rfl, s0, show cmpL [a] [a] = icmp 1 1 from if_pos rfl]; exact ⟨rfl, rfl⟩
    · rw [s0, s0, s1, s1, E1 (by decide) q, show cmpL [a] [c] = icmp a c from if_neg q, show cmpL [c] [a] = icmp c a from if_neg (Ne.symm q)]; exact fin_ne q
  · by_cases q : a = cpv c d
    · have hn : ¬ HL c d := fun r => by rw [cpv_eq, if_pos r] at q; exact cpx_big r (q ▸ ha.small)
      obtain ⟨e0, e1, e2⟩ := p_nHL hn
      rw [s0, s1, e0, E5 (q.trans (p1_eq c d).symm) (by decide), show cmpL [a] [c, d] = icmp 1 2 from if_pos q, show cmpL [c, d] [a] = icmp 2 1 from if_pos q.symm]; exact ⟨rfl, rfl⟩
    · rw [s0, s1, E1 (by rcases p0_12 c d with h0 | h0 <;> rw [h0] <;> decide) (by rw [p1_eq]; exact q), p1_eq, show cmpL [a] [c, d] = icmp a (cpv c d) from if_neg q, show cmpL [c, d] [a] = icmp (cpv c d) a from if_neg (Ne.symm q)]; exact fin_ne q
  · rcases p0_12 a b with h0 | h0 <;> rw [z0, h0, E4 (by decide) (by decide)] <;> exact ⟨rfl, rfl⟩
  · by_cases q : cpv a b = c
    · have hn : ¬ HL a b := fun r => by rw [cpv_eq, if_pos r] at q; exact cpx_big r (q ▸ hc.small)
      obtain ⟨e0, e1, e2⟩ := p_nHL hn
      rw [s0, s1, e0, E5 ((p1_eq a b).trans q) (by decide), show cmpL [a, b] [c] = icmp 2 1 from if_pos q, show cmpL [c] [a, b] = icmp 1 2 from if_pos q.symm]; exact ⟨rfl, rfl⟩
    · rw [s0, s1, E1 (by rcases p0_12 a b with h0 | h0 <;> rw [h0] <;> decide) (by rw [p1_eq]; exact q), p1_eq, show cmpL [a, b] [c] = icmp (cpv a b) c from if_neg q, show cmpL [c] [a, b] = icmp c (cpv a b) from if_neg (Ne.symm q)]; exact fin_ne q
  · by_cases q : cpv a b = cpv c d
    · by_cases r1 : HL a b <;> by_cases r2 : HL c d
      · obtain ⟨e0, e1, e2⟩ := p_HL r1
        obtain ⟨f0, f1, f2⟩ := p_HL r2
        have big : ¬ cpv a b < 65536 := by rw [cpv_eq, if_pos r1]; exact cpx_big r1
        rw [E5 (by rw [p1_eq, p1_eq]; exact q) (by rw [e0, f0]; decide), e0, f0, show cmpL [a, b] [c, d] = icmp 2 2 from (if_pos q).trans (if_neg big), show cmpL [c, d] [a, b] = icmp 2 2 from (if_pos q.symm).trans (if_neg (q ▸ big))]; exact ⟨rfl, rfl⟩
      · rw [cpv_eq, cpv_eq, if_pos r1, if_neg r2] at q
        exact absurd hc.small (q ▸ cpx_big r1)
      · rw [cpv_eq, cpv_eq, if_neg r1, if_pos r2] at q
        exact absurd ha.small (q ▸ cpx_big r2)
      · obtain ⟨e0, e1, e2⟩ := p_nHL r1
        obtain ⟨f0, f1, f2⟩ := p_nHL r2
        have sm : cpv a b < 65536 := by rw [cpv_eq, if_neg r1]; exact ha.small
        have sm' : cpv c d < 65536 := q ▸ sm
        by_cases w : b = d
        · rw [E3 (by rw [p1_eq, p1_eq]; exact q) (by rw [e2, f2]; exact w), e0, f0, show cmpL [a, b] [c, d] = icmp 2 2 from (if_pos q).trans ((if_pos sm).trans (if_pos w)), show cmpL [c, d] [a, b] = icmp 2 2 from (if_pos q.symm).trans ((if_pos sm').trans (if_pos w.symm))]; exact ⟨rfl, rfl⟩
        · rw [E2 (by rw [e0, f0]; decide) (by rw [p1_eq, p1_eq]; exact q) (by rw [e2, f2]; exact w), e2, f2, show cmpL [a, b] [c, d] = icmp b d from (if_pos q).trans ((if_pos sm).trans (if_neg w)), show cmpL [c, d] [a, b] = icmp d b from (if_pos q.symm).trans ((if_pos sm').trans (if_neg (Ne.symm w)))]; exact fin_ne w
    · rw [E1 (by rcases p0_12 a b with h0 | h0 <;> rcases p0_12 c d with h1 | h1 <;> rw [h0, h1] <;> decide) (by rw [p1_eq, p1_eq]; exact q), p1_eq, p1_eq, show cmpL [a, b] [c, d] = icmp (cpv a b) (cpv c d) from if_neg q, show cmpL [c, d] [a, b] = icmp (cpv c d) (cpv a b) from if_neg (Ne.symm q)]; exact fin_ne q

theorem narrow_ch {x : Int32} (h : Ch x) : narrow .char (.int x) = .int x := congrArg Value.int (i2c_ch h)
theorem nar_ch {x : Int32} (h : Ch x) : nar .char x = x := i2c_ch h
theorem Lat.ch {x : Int32} (h : Lat x) : Ch x := ⟨h.1, fun q => h.2 (by rw [lt_i] at *; have e1 : (255 : Int32).toInt = 255 := rfl; have e2 : (65535 : Int32).toInt = 65535 := rfl; omega)⟩
theorem ch_lat {x : Int32} (h : Ch x) (q : ¬ (255 : Int32) < x) : Lat x := ⟨h.1, q⟩
theorem cpv_lat {a b : Int32} (h : Lat a) : cpv a b = a := if_neg fun q => h.2 (by have := q.1.1; rw [lt_i] at *; have e1 : (255 : Int32).toInt = 255 := rfl; have e2 : (55296 : Int32).toInt = 55296 := rfl; omega)
def mkL (n a b : Int32) : List Int32 := if n = 0 then [] else if n = 1 then [a] else [a, b]
theorem mkL_0 (a b : Int32) : mkL 0 a b = [] := if_pos rfl
theorem mkL_1 (a b : Int32) : mkL 1 a b = [a] := (if_neg (by decide)).trans (if_pos rfl)
theorem mkL_2 (a b : Int32) : mkL 2 a b = [a, b] := (if_neg (by decide)).trans (if_neg (by decide))
theorem mkL_shp {n a b : Int32} (ha : Ch a) (hb : Ch b) : Shp (mkL n a b) := by
  unfold mkL
  split
  · exact Or.inl rfl
  · split
    · exact Or.inr (Or.inl ⟨a, rfl, ha⟩)
    · exact Or.inr (Or.inr ⟨a, b, rfl, ha, hb⟩)
theorem and3_mod3 (x : Int32) : (x &&& 3) % 3 = 0 ∨ (x &&& 3) % 3 = 1 ∨ (x &&& 3) % 3 = 2 := by
  rcases and3 x with h | h | h | h <;> rw [h] <;> decide
/-- the bytes of a text of two bytes a sign -/
def utf : List Int32 → List Value
  | [] => []
  | c :: r => .int ((c >>> ((0 : Int32) &&& 31)).toInt8.toInt32) :: .int ((c >>> ((8 : Int32) &&& 31)).toInt8.toInt32) :: utf r
section ST
variable {Z : State} {h h' : Heap} {b t a : Addr} {cs : List Int32} {sl : Nat} {v : Value} {ws : List Addr}
/-- a String b with its array t and its signs cs, in either coding -/
def ST (Z : State) (h : Heap) (b t : Addr) (cs : List Int32) : Prop := Exa Z h b "java/lang/String" ∧ Fld Z h b "java/lang/String" "value" "[B" (.ref t) ∧ ((Fld Z h b "java/lang/String" "coder" "B" (.int 0) ∧ (∀ c ∈ cs, Lat c) ∧ ∃ k : ClassId, Arv Z h t k .byte (Int32.ofNat cs.length) ((cs.map (fun c => c.toInt8.toInt32)).map Value.int) (.int 0)) ∨ (Fld Z h b "java/lang/String" "coder" "B" (.int 1) ∧ ∃ k : ClassId, Arv Z h t k .byte (Int32.ofNat (2 * cs.length)) (utf cs) (.int 0)))
theorem ST.lt (F : ST Z h b t cs) : b < h.size := F.1.lt
theorem ST.lt2 (F : ST Z h b t cs) : t < h.size := by
  obtain ⟨-, -, ⟨-, -, k, F⟩ | ⟨-, k, F⟩⟩ := F <;> exact F.lt
theorem ST.ext (F : ST Z h b t cs) (E : Ext h h') : ST Z h' b t cs := by
  obtain ⟨f1, f2, ⟨f3, f4, k, f5⟩ | ⟨f3, k, f5⟩⟩ := F
  · exact ⟨f1.ext E, f2.ext E, Or.inl ⟨f3.ext E, f4, k, f5.ext E⟩⟩
  · exact ⟨f1.ext E, f2.ext E, Or.inr ⟨f3.ext E, k, f5.ext E⟩⟩
theorem ST.keep (F : ST Z h b t cs) (K : Keep h h' ws) (q : b ∉ ws) (q2 : t ∉ ws) : ST Z h' b t cs := by
  obtain ⟨f1, f2, ⟨f3, f4, k, f5⟩ | ⟨f3, k, f5⟩⟩ := F
  · exact ⟨f1.keep K, f2.keep K q, Or.inl ⟨f3.keep K q, f4, k, f5.keep K q2⟩⟩
  · exact ⟨f1.keep K, f2.keep K q, Or.inr ⟨f3.keep K q, k, f5.keep K q2⟩⟩
theorem ST.wr (F : ST Z h b t cs) (W : Wr h h' a sl v) (q : b ≠ a) (q2 : t ≠ a) : ST Z h' b t cs := F.keep (Keep.of_wr W) (ninS q nin0) (ninS q2 nin0)
end ST
end Jvm.Own
namespace Jvm.Pilot.@@N@@
open Jvm Jvm.ClassFile Sem Op Lib Jvm.Free Jvm.Stand Jvm.LawKit Jvm.RoadKit Bundle Jvm.Pilot.@@N@@.Jvm.D
theorem d1_0 : decode method_3_code 0 = .ok (.iload_n 0, 1) := by decide +kernel
theorem d1_1 : decode method_3_code 1 = .ok (.bipush 16, 2) := by decide +kernel
theorem d1_3 : decode method_3_code 3 = .ok (.iushr, 1) := by decide +kernel
theorem d1_4 : decode method_3_code 4 = .ok (.iconst 3, 1) := by decide +kernel
theorem d1_5 : decode method_3_code 5 = .ok (.iand, 1) := by decide +kernel
theorem d1_6 : decode method_3_code 6 = .ok (.istore_n 1, 1) := by decide +kernel
theorem d1_7 : decode method_3_code 7 = .ok (.iload_n 1, 1) := by decide +kernel
theorem d1_8 : decode method_3_code 8 = .ok (.ifCond .ne 13, 3) := by decide +kernel
theorem d1_11 : decode method_3_code 11 = .ok (.ldc 35, 2) := by decide +kernel
theorem d1_13 : decode method_3_code 13 = .ok (.iload_n 0, 1) := by decide +kernel
theorem d1_14 : decode method_3_code 14 = .ok (.sipush 1023, 3) := by decide +kernel
theorem d1_17 : decode method_3_code 17 = .ok (.iand, 1) := by decide +kernel
theorem d1_18 : decode method_3_code 18 = .ok (.ior, 1) := by decide +kernel
theorem d1_19 : decode method_3_code 19 = .ok (.i2c, 1) := by decide +kernel
theorem d1_20 : decode method_3_code 20 = .ok (.ireturn, 1) := by decide +kernel
theorem d1_21 : decode method_3_code 21 = .ok (.iload_n 1, 1) := by decide +kernel
theorem d1_22 : decode method_3_code 22 = .ok (.iconst 1, 1) := by decide +kernel
theorem d1_23 : decode method_3_code 23 = .ok (.if_icmp .ne 13, 3) := by decide +kernel
theorem d1_26 : decode method_3_code 26 = .ok (.ldc 36, 2) := by decide +kernel
theorem d1_28 : decode method_3_code 28 = .ok (.iload_n 0, 1) := by decide +kernel
theorem d1_29 : decode method_3_code 29 = .ok (.sipush 1023, 3) := by decide +kernel
theorem d1_32 : decode method_3_code 32 = .ok (.iand, 1) := by decide +kernel
theorem d1_33 : decode method_3_code 33 = .ok (.ior, 1) := by decide +kernel
theorem d1_34 : decode method_3_code 34 = .ok (.i2c, 1) := by decide +kernel
theorem d1_35 : decode method_3_code 35 = .ok (.ireturn, 1) := by decide +kernel
theorem d1_36 : decode method_3_code 36 = .ok (.iload_n 0, 1) := by decide +kernel
theorem d1_37 : decode method_3_code 37 = .ok (.ldc 37, 2) := by decide +kernel
theorem d1_39 : decode method_3_code 39 = .ok (.iand, 1) := by decide +kernel
theorem d1_40 : decode method_3_code 40 = .ok (.i2c, 1) := by decide +kernel
theorem d1_41 : decode method_3_code 41 = .ok (.ireturn, 1) := by decide +kernel
theorem d2_0 : decode method_4_code 0 = .ok (.iload_n 2, 1) := by decide +kernel
theorem d2_1 : decode method_4_code 1 = .ok (.ifCond .ne 14, 3) := by decide +kernel
theorem d2_4 : decode method_4_code 4 = .ok (.new 38, 3) := by decide +kernel
theorem d2_7 : decode method_4_code 7 = .ok (.dup, 1) := by decide +kernel
theorem d2_8 : decode method_4_code 8 = .ok (.iconst 0, 1) := by decide +kernel
theorem d2_9 : decode method_4_code 9 = .ok (.newarray .char, 2) := by decide +kernel
theorem d2_11 : decode method_4_code 11 = .ok (.invokespecial 40, 3) := by decide +kernel
theorem d2_14 : decode method_4_code 14 = .ok (.areturn, 1) := by decide +kernel
theorem d2_15 : decode method_4_code 15 = .ok (.iload_n 2, 1) := by decide +kernel
theorem d2_16 : decode method_4_code 16 = .ok (.iconst 1, 1) := by decide +kernel
theorem d2_17 : decode method_4_code 17 = .ok (.if_icmp .ne 18, 3) := by decide +kernel
theorem d2_20 : decode method_4_code 20 = .ok (.new 38, 3) := by decide +kernel
theorem d2_23 : decode method_4_code 23 = .ok (.dup, 1) := by decide +kernel
theorem d2_24 : decode method_4_code 24 = .ok (.iconst 1, 1) := by decide +kernel
theorem d2_25 : decode method_4_code 25 = .ok (.newarray .char, 2) := by decide +kernel
theorem d2_27 : decode method_4_code 27 = .ok (.dup, 1) := by decide +kernel
theorem d2_28 : decode method_4_code 28 = .ok (.iconst 0, 1) := by decide +kernel
theorem d2_29 : decode method_4_code 29 = .ok (.iload_n 0, 1) := by decide +kernel
theorem d2_30 : decode method_4_code 30 = .ok (.castore, 1) := by decide +kernel
theorem d2_31 : decode method_4_code 31 = .ok (.invokespecial 40, 3) := by decide +kernel
theorem d2_34 : decode method_4_code 34 = .ok (.areturn, 1) := by decide +kernel
theorem d2_35 : decode method_4_code 35 = .ok (.new 38, 3) := by decide +kernel
theorem d2_38 : decode method_4_code 38 = .ok (.dup, 1) := by decide +kernel
theorem d2_39 : decode method_4_code 39 = .ok (.iconst 2, 1) := by decide +kernel
theorem d2_40 : decode method_4_code 40 = .ok (.newarray .char, 2) := by decide +kernel
theorem d2_42 : decode method_4_code 42 = .ok (.dup, 1) := by decide +kernel
theorem d2_43 : decode method_4_code 43 = .ok (.iconst 0, 1) := by decide +kernel
theorem d2_44 : decode method_4_code 44 = .ok (.iload_n 0, 1) := by decide +kernel
theorem d2_45 : decode method_4_code 45 = .ok (.castore, 1) := by decide +kernel
theorem d2_46 : decode method_4_code 46 = .ok (.dup, 1) := by decide +kernel
theorem d2_47 : decode method_4_code 47 = .ok (.iconst 1, 1) := by decide +kernel
theorem d2_48 : decode method_4_code 48 = .ok (.iload_n 1, 1) := by decide +kernel
theorem d2_49 : decode method_4_code 49 = .ok (.castore, 1) := by decide +kernel
theorem d2_50 : decode method_4_code 50 = .ok (.invokespecial 40, 3) := by decide +kernel
theorem d2_53 : decode method_4_code 53 = .ok (.areturn, 1) := by decide +kernel
theorem d3_0 : decode jdk_42_method_3_code 0 = .ok (.aload_n 0, 1) := by decide +kernel
theorem d3_1 : decode jdk_42_method_3_code 1 = .ok (.aload_n 1, 1) := by decide +kernel
theorem d3_2 : decode jdk_42_method_3_code 2 = .ok (.iconst 0, 1) := by decide +kernel
theorem d3_3 : decode jdk_42_method_3_code 3 = .ok (.aload_n 1, 1) := by decide +kernel
theorem d3_4 : decode jdk_42_method_3_code 4 = .ok (.arraylength, 1) := by decide +kernel
theorem d3_5 : decode jdk_42_method_3_code 5 = .ok (.aconst_null, 1) := by decide +kernel
theorem d3_6 : decode jdk_42_method_3_code 6 = .ok (.invokespecial 27, 3) := by decide +kernel
theorem d3_9 : decode jdk_42_method_3_code 9 = .ok (.return_, 1) := by decide +kernel
theorem d4_0 : decode jdk_42_method_149_code 0 = .ok (.aload_n 0, 1) := by decide +kernel
theorem d4_1 : decode jdk_42_method_149_code 1 = .ok (.invokespecial 1, 3) := by decide +kernel
theorem d4_4 : decode jdk_42_method_149_code 4 = .ok (.iload_n 3, 1) := by decide +kernel
theorem d4_5 : decode jdk_42_method_149_code 5 = .ok (.ifCond .ne 22, 3) := by decide +kernel
theorem d4_8 : decode jdk_42_method_149_code 8 = .ok (.aload_n 0, 1) := by decide +kernel
theorem d4_9 : decode jdk_42_method_149_code 9 = .ok (.ldc 7, 2) := by decide +kernel
theorem d4_11 : decode jdk_42_method_149_code 11 = .ok (.getfield 9, 3) := by decide +kernel
theorem d4_14 : decode jdk_42_method_149_code 14 = .ok (.putfield 9, 3) := by decide +kernel
theorem d4_17 : decode jdk_42_method_149_code 17 = .ok (.aload_n 0, 1) := by decide +kernel
theorem d4_18 : decode jdk_42_method_149_code 18 = .ok (.ldc 7, 2) := by decide +kernel
theorem d4_20 : decode jdk_42_method_149_code 20 = .ok (.getfield 15, 3) := by decide +kernel
theorem d4_23 : decode jdk_42_method_149_code 23 = .ok (.putfield 15, 3) := by decide +kernel
theorem d4_26 : decode jdk_42_method_149_code 26 = .ok (.return_, 1) := by decide +kernel
theorem d4_27 : decode jdk_42_method_149_code 27 = .ok (.getstatic 38, 3) := by decide +kernel
theorem d4_30 : decode jdk_42_method_149_code 30 = .ok (.ifCond .eq 28, 3) := by decide +kernel
theorem d4_33 : decode jdk_42_method_149_code 33 = .ok (.aload_n 1, 1) := by decide +kernel
theorem d4_34 : decode jdk_42_method_149_code 34 = .ok (.iload_n 2, 1) := by decide +kernel
theorem d4_35 : decode jdk_42_method_149_code 35 = .ok (.iload_n 3, 1) := by decide +kernel
theorem d4_36 : decode jdk_42_method_149_code 36 = .ok (.invokestatic 177, 3) := by decide +kernel
theorem d4_39 : decode jdk_42_method_149_code 39 = .ok (.astore 5, 2) := by decide +kernel
theorem d4_41 : decode jdk_42_method_149_code 41 = .ok (.aload_n 0, 1) := by decide +kernel
theorem d4_42 : decode jdk_42_method_149_code 42 = .ok (.aload 5, 2) := by decide +kernel
theorem d4_44 : decode jdk_42_method_149_code 44 = .ok (.iload_n 3, 1) := by decide +kernel
theorem d4_45 : decode jdk_42_method_149_code 45 = .ok (.invokestatic 47, 3) := by decide +kernel
theorem d4_48 : decode jdk_42_method_149_code 48 = .ok (.putfield 15, 3) := by decide +kernel
theorem d4_51 : decode jdk_42_method_149_code 51 = .ok (.aload_n 0, 1) := by decide +kernel
theorem d4_52 : decode jdk_42_method_149_code 52 = .ok (.aload 5, 2) := by decide +kernel
theorem d4_54 : decode jdk_42_method_149_code 54 = .ok (.putfield 9, 3) := by decide +kernel
theorem d4_57 : decode jdk_42_method_149_code 57 = .ok (.return_, 1) := by decide +kernel
theorem d6_0 : decode method_7_code 0 = .ok (.iconst 3, 1) := by decide +kernel
theorem d6_1 : decode method_7_code 1 = .ok (.newarray .int, 2) := by decide +kernel
theorem d6_3 : decode method_7_code 3 = .ok (.astore_n 3, 1) := by decide +kernel
theorem d6_4 : decode method_7_code 4 = .ok (.iload_n 2, 1) := by decide +kernel
theorem d6_5 : decode method_7_code 5 = .ok (.ifCond .ne 5, 3) := by decide +kernel
theorem d6_8 : decode method_7_code 8 = .ok (.aload_n 3, 1) := by decide +kernel
theorem d6_9 : decode method_7_code 9 = .ok (.areturn, 1) := by decide +kernel
theorem d6_10 : decode method_7_code 10 = .ok (.iload_n 2, 1) := by decide +kernel
theorem d6_11 : decode method_7_code 11 = .ok (.iconst 1, 1) := by decide +kernel
theorem d6_12 : decode method_7_code 12 = .ok (.if_icmp .ne 13, 3) := by decide +kernel
theorem d6_15 : decode method_7_code 15 = .ok (.aload_n 3, 1) := by decide +kernel
theorem d6_16 : decode method_7_code 16 = .ok (.iconst 0, 1) := by decide +kernel
theorem d6_17 : decode method_7_code 17 = .ok (.iconst 1, 1) := by decide +kernel
theorem d6_18 : decode method_7_code 18 = .ok (.iastore, 1) := by decide +kernel
theorem d6_19 : decode method_7_code 19 = .ok (.aload_n 3, 1) := by decide +kernel
theorem d6_20 : decode method_7_code 20 = .ok (.iconst 1, 1) := by decide +kernel
theorem d6_21 : decode method_7_code 21 = .ok (.iload_n 0, 1) := by decide +kernel
theorem d6_22 : decode method_7_code 22 = .ok (.iastore, 1) := by decide +kernel
theorem d6_23 : decode method_7_code 23 = .ok (.aload_n 3, 1) := by decide +kernel
theorem d6_24 : decode method_7_code 24 = .ok (.areturn, 1) := by decide +kernel
theorem d6_25 : decode method_7_code 25 = .ok (.iload_n 0, 1) := by decide +kernel
theorem d6_26 : decode method_7_code 26 = .ok (.invokestatic 45, 3) := by decide +kernel
theorem d6_29 : decode method_7_code 29 = .ok (.ifCond .eq 34, 3) := by decide +kernel
theorem d6_32 : decode method_7_code 32 = .ok (.iload_n 1, 1) := by decide +kernel
theorem d6_33 : decode method_7_code 33 = .ok (.invokestatic 49, 3) := by decide +kernel
theorem d6_36 : decode method_7_code 36 = .ok (.ifCond .eq 27, 3) := by decide +kernel
theorem d6_39 : decode method_7_code 39 = .ok (.aload_n 3, 1) := by decide +kernel
theorem d6_40 : decode method_7_code 40 = .ok (.iconst 0, 1) := by decide +kernel
theorem d6_41 : decode method_7_code 41 = .ok (.iconst 1, 1) := by decide +kernel
theorem d6_42 : decode method_7_code 42 = .ok (.iastore, 1) := by decide +kernel
theorem d6_43 : decode method_7_code 43 = .ok (.aload_n 3, 1) := by decide +kernel
theorem d6_44 : decode method_7_code 44 = .ok (.iconst 1, 1) := by decide +kernel
theorem d6_45 : decode method_7_code 45 = .ok (.iload_n 0, 1) := by decide +kernel
theorem d6_46 : decode method_7_code 46 = .ok (.ldc 35, 2) := by decide +kernel
theorem d6_48 : decode method_7_code 48 = .ok (.isub, 1) := by decide +kernel
theorem d6_49 : decode method_7_code 49 = .ok (.bipush 10, 2) := by decide +kernel
theorem d6_51 : decode method_7_code 51 = .ok (.ishl, 1) := by decide +kernel
theorem d6_52 : decode method_7_code 52 = .ok (.iload_n 1, 1) := by decide +kernel
theorem d6_53 : decode method_7_code 53 = .ok (.ldc 36, 2) := by decide +kernel
theorem d6_55 : decode method_7_code 55 = .ok (.isub, 1) := by decide +kernel
theorem d6_56 : decode method_7_code 56 = .ok (.iadd, 1) := by decide +kernel
theorem d6_57 : decode method_7_code 57 = .ok (.ldc 52, 2) := by decide +kernel
theorem d6_59 : decode method_7_code 59 = .ok (.iadd, 1) := by decide +kernel
theorem d6_60 : decode method_7_code 60 = .ok (.iastore, 1) := by decide +kernel
theorem d6_61 : decode method_7_code 61 = .ok (.aload_n 3, 1) := by decide +kernel
theorem d6_62 : decode method_7_code 62 = .ok (.areturn, 1) := by decide +kernel
theorem d6_63 : decode method_7_code 63 = .ok (.aload_n 3, 1) := by decide +kernel
theorem d6_64 : decode method_7_code 64 = .ok (.iconst 0, 1) := by decide +kernel
theorem d6_65 : decode method_7_code 65 = .ok (.iconst 2, 1) := by decide +kernel
theorem d6_66 : decode method_7_code 66 = .ok (.iastore, 1) := by decide +kernel
theorem d6_67 : decode method_7_code 67 = .ok (.aload_n 3, 1) := by decide +kernel
theorem d6_68 : decode method_7_code 68 = .ok (.iconst 1, 1) := by decide +kernel
theorem d6_69 : decode method_7_code 69 = .ok (.iload_n 0, 1) := by decide +kernel
theorem d6_70 : decode method_7_code 70 = .ok (.iastore, 1) := by decide +kernel
theorem d6_71 : decode method_7_code 71 = .ok (.aload_n 3, 1) := by decide +kernel
theorem d6_72 : decode method_7_code 72 = .ok (.iconst 2, 1) := by decide +kernel
theorem d6_73 : decode method_7_code 73 = .ok (.iload_n 1, 1) := by decide +kernel
theorem d6_74 : decode method_7_code 74 = .ok (.iastore, 1) := by decide +kernel
theorem d6_75 : decode method_7_code 75 = .ok (.aload_n 3, 1) := by decide +kernel
theorem d6_76 : decode method_7_code 76 = .ok (.areturn, 1) := by decide +kernel
theorem d7_0 : decode method_8_code 0 = .ok (.aload_n 0, 1) := by decide +kernel
theorem d7_1 : decode method_8_code 1 = .ok (.iconst 0, 1) := by decide +kernel
theorem d7_2 : decode method_8_code 2 = .ok (.iaload, 1) := by decide +kernel
theorem d7_3 : decode method_8_code 3 = .ok (.aload_n 1, 1) := by decide +kernel
theorem d7_4 : decode method_8_code 4 = .ok (.iconst 0, 1) := by decide +kernel
theorem d7_5 : decode method_8_code 5 = .ok (.iaload, 1) := by decide +kernel
theorem d7_6 : decode method_8_code 6 = .ok (.invokestatic 53, 3) := by decide +kernel
theorem d7_9 : decode method_8_code 9 = .ok (.istore_n 2, 1) := by decide +kernel
theorem d7_10 : decode method_8_code 10 = .ok (.iload_n 2, 1) := by decide +kernel
theorem d7_11 : decode method_8_code 11 = .ok (.iconst 1, 1) := by decide +kernel
theorem d7_12 : decode method_8_code 12 = .ok (.if_icmp .lt 27, 3) := by decide +kernel
theorem d7_15 : decode method_8_code 15 = .ok (.aload_n 0, 1) := by decide +kernel
theorem d7_16 : decode method_8_code 16 = .ok (.iconst 1, 1) := by decide +kernel
theorem d7_17 : decode method_8_code 17 = .ok (.iaload, 1) := by decide +kernel
theorem d7_18 : decode method_8_code 18 = .ok (.aload_n 1, 1) := by decide +kernel
theorem d7_19 : decode method_8_code 19 = .ok (.iconst 1, 1) := by decide +kernel
theorem d7_20 : decode method_8_code 20 = .ok (.iaload, 1) := by decide +kernel
theorem d7_21 : decode method_8_code 21 = .ok (.if_icmp .eq 18, 3) := by decide +kernel
theorem d7_24 : decode method_8_code 24 = .ok (.aload_n 0, 1) := by decide +kernel
theorem d7_25 : decode method_8_code 25 = .ok (.iconst 1, 1) := by decide +kernel
theorem d7_26 : decode method_8_code 26 = .ok (.iaload, 1) := by decide +kernel
theorem d7_27 : decode method_8_code 27 = .ok (.aload_n 1, 1) := by decide +kernel
theorem d7_28 : decode method_8_code 28 = .ok (.iconst 1, 1) := by decide +kernel
theorem d7_29 : decode method_8_code 29 = .ok (.iaload, 1) := by decide +kernel
theorem d7_30 : decode method_8_code 30 = .ok (.if_icmp .ge 7, 3) := by decide +kernel
theorem d7_33 : decode method_8_code 33 = .ok (.iconst (-1), 1) := by decide +kernel
theorem d7_34 : decode method_8_code 34 = .ok (.goto 4, 3) := by decide +kernel
theorem d7_37 : decode method_8_code 37 = .ok (.iconst 1, 1) := by decide +kernel
theorem d7_38 : decode method_8_code 38 = .ok (.ireturn, 1) := by decide +kernel
theorem d7_39 : decode method_8_code 39 = .ok (.iload_n 2, 1) := by decide +kernel
theorem d7_40 : decode method_8_code 40 = .ok (.iconst 2, 1) := by decide +kernel
theorem d7_41 : decode method_8_code 41 = .ok (.if_icmp .lt 27, 3) := by decide +kernel
theorem d7_44 : decode method_8_code 44 = .ok (.aload_n 0, 1) := by decide +kernel
theorem d7_45 : decode method_8_code 45 = .ok (.iconst 2, 1) := by decide +kernel
theorem d7_46 : decode method_8_code 46 = .ok (.iaload, 1) := by decide +kernel
theorem d7_47 : decode method_8_code 47 = .ok (.aload_n 1, 1) := by decide +kernel
theorem d7_48 : decode method_8_code 48 = .ok (.iconst 2, 1) := by decide +kernel
theorem d7_49 : decode method_8_code 49 = .ok (.iaload, 1) := by decide +kernel
theorem d7_50 : decode method_8_code 50 = .ok (.if_icmp .eq 18, 3) := by decide +kernel
theorem d7_53 : decode method_8_code 53 = .ok (.aload_n 0, 1) := by decide +kernel
theorem d7_54 : decode method_8_code 54 = .ok (.iconst 2, 1) := by decide +kernel
theorem d7_55 : decode method_8_code 55 = .ok (.iaload, 1) := by decide +kernel
theorem d7_56 : decode method_8_code 56 = .ok (.aload_n 1, 1) := by decide +kernel
theorem d7_57 : decode method_8_code 57 = .ok (.iconst 2, 1) := by decide +kernel
theorem d7_58 : decode method_8_code 58 = .ok (.iaload, 1) := by decide +kernel
theorem d7_59 : decode method_8_code 59 = .ok (.if_icmp .ge 7, 3) := by decide +kernel
theorem d7_62 : decode method_8_code 62 = .ok (.iconst (-1), 1) := by decide +kernel
theorem d7_63 : decode method_8_code 63 = .ok (.goto 4, 3) := by decide +kernel
theorem d7_66 : decode method_8_code 66 = .ok (.iconst 1, 1) := by decide +kernel
theorem d7_67 : decode method_8_code 67 = .ok (.ireturn, 1) := by decide +kernel
theorem d7_68 : decode method_8_code 68 = .ok (.aload_n 0, 1) := by decide +kernel
theorem d7_69 : decode method_8_code 69 = .ok (.iconst 0, 1) := by decide +kernel
theorem d7_70 : decode method_8_code 70 = .ok (.iaload, 1) := by decide +kernel
theorem d7_71 : decode method_8_code 71 = .ok (.aload_n 1, 1) := by decide +kernel
theorem d7_72 : decode method_8_code 72 = .ok (.iconst 0, 1) := by decide +kernel
theorem d7_73 : decode method_8_code 73 = .ok (.iaload, 1) := by decide +kernel
theorem d7_74 : decode method_8_code 74 = .ok (.if_icmp .ge 5, 3) := by decide +kernel
theorem d7_77 : decode method_8_code 77 = .ok (.iconst (-1), 1) := by decide +kernel
theorem d7_78 : decode method_8_code 78 = .ok (.ireturn, 1) := by decide +kernel
theorem d7_79 : decode method_8_code 79 = .ok (.aload_n 0, 1) := by decide +kernel
theorem d7_80 : decode method_8_code 80 = .ok (.iconst 0, 1) := by decide +kernel
theorem d7_81 : decode method_8_code 81 = .ok (.iaload, 1) := by decide +kernel
theorem d7_82 : decode method_8_code 82 = .ok (.aload_n 1, 1) := by decide +kernel
theorem d7_83 : decode method_8_code 83 = .ok (.iconst 0, 1) := by decide +kernel
theorem d7_84 : decode method_8_code 84 = .ok (.iaload, 1) := by decide +kernel
theorem d7_85 : decode method_8_code 85 = .ok (.if_icmp .le 5, 3) := by decide +kernel
theorem d7_88 : decode method_8_code 88 = .ok (.iconst 1, 1) := by decide +kernel
theorem d7_89 : decode method_8_code 89 = .ok (.ireturn, 1) := by decide +kernel
theorem d7_90 : decode method_8_code 90 = .ok (.iconst 0, 1) := by decide +kernel
theorem d7_91 : decode method_8_code 91 = .ok (.ireturn, 1) := by decide +kernel
theorem d8_0 : decode jdk_29_method_69_code 0 = .ok (.iload_n 0, 1) := by decide +kernel
theorem d8_1 : decode jdk_29_method_69_code 1 = .ok (.iload_n 1, 1) := by decide +kernel
theorem d8_2 : decode jdk_29_method_69_code 2 = .ok (.if_icmp .gt 7, 3) := by decide +kernel
theorem d8_5 : decode jdk_29_method_69_code 5 = .ok (.iload_n 0, 1) := by decide +kernel
theorem d8_6 : decode jdk_29_method_69_code 6 = .ok (.goto 4, 3) := by decide +kernel
theorem d8_9 : decode jdk_29_method_69_code 9 = .ok (.iload_n 1, 1) := by decide +kernel
theorem d8_10 : decode jdk_29_method_69_code 10 = .ok (.ireturn, 1) := by decide +kernel
theorem d9_0 : decode prog_1_method_2_code 0 = .ok (.aload_n 0, 1) := by decide +kernel
theorem d9_1 : decode prog_1_method_2_code 1 = .ok (.invokevirtual 7, 3) := by decide +kernel
theorem d9_4 : decode prog_1_method_2_code 4 = .ok (.aload_n 1, 1) := by decide +kernel
theorem d9_5 : decode prog_1_method_2_code 5 = .ok (.invokevirtual 7, 3) := by decide +kernel
theorem d9_8 : decode prog_1_method_2_code 8 = .ok (.invokestatic 13, 3) := by decide +kernel
theorem d9_11 : decode prog_1_method_2_code 11 = .ok (.istore_n 2, 1) := by decide +kernel
theorem d9_12 : decode prog_1_method_2_code 12 = .ok (.iconst 0, 1) := by decide +kernel
theorem d9_13 : decode prog_1_method_2_code 13 = .ok (.istore_n 3, 1) := by decide +kernel
theorem d9_14 : decode prog_1_method_2_code 14 = .ok (.iload_n 3, 1) := by decide +kernel
theorem d9_15 : decode prog_1_method_2_code 15 = .ok (.iload_n 2, 1) := by decide +kernel
theorem d9_16 : decode prog_1_method_2_code 16 = .ok (.if_icmp .ge 43, 3) := by decide +kernel
theorem d9_19 : decode prog_1_method_2_code 19 = .ok (.aload_n 0, 1) := by decide +kernel
theorem d9_20 : decode prog_1_method_2_code 20 = .ok (.iload_n 3, 1) := by decide +kernel
theorem d9_21 : decode prog_1_method_2_code 21 = .ok (.invokevirtual 19, 3) := by decide +kernel
theorem d9_24 : decode prog_1_method_2_code 24 = .ok (.istore 4, 2) := by decide +kernel
theorem d9_26 : decode prog_1_method_2_code 26 = .ok (.aload_n 1, 1) := by decide +kernel
theorem d9_27 : decode prog_1_method_2_code 27 = .ok (.iload_n 3, 1) := by decide +kernel
theorem d9_28 : decode prog_1_method_2_code 28 = .ok (.invokevirtual 19, 3) := by decide +kernel
theorem d9_31 : decode prog_1_method_2_code 31 = .ok (.istore 5, 2) := by decide +kernel
theorem d9_33 : decode prog_1_method_2_code 33 = .ok (.iload 4, 2) := by decide +kernel
theorem d9_35 : decode prog_1_method_2_code 35 = .ok (.iload 5, 2) := by decide +kernel
theorem d9_37 : decode prog_1_method_2_code 37 = .ok (.if_icmp .eq 11, 3) := by decide +kernel
theorem d9_40 : decode prog_1_method_2_code 40 = .ok (.iload 4, 2) := by decide +kernel
theorem d9_42 : decode prog_1_method_2_code 42 = .ok (.iload 5, 2) := by decide +kernel
theorem d9_44 : decode prog_1_method_2_code 44 = .ok (.invokestatic 23, 3) := by decide +kernel
theorem d9_47 : decode prog_1_method_2_code 47 = .ok (.ireturn, 1) := by decide +kernel
theorem d9_48 : decode prog_1_method_2_code 48 = .ok (.iload_n 3, 1) := by decide +kernel
theorem d9_49 : decode prog_1_method_2_code 49 = .ok (.iload 4, 2) := by decide +kernel
theorem d9_51 : decode prog_1_method_2_code 51 = .ok (.invokestatic 28, 3) := by decide +kernel
theorem d9_54 : decode prog_1_method_2_code 54 = .ok (.iadd, 1) := by decide +kernel
theorem d9_55 : decode prog_1_method_2_code 55 = .ok (.istore_n 3, 1) := by decide +kernel
theorem d9_56 : decode prog_1_method_2_code 56 = .ok (.goto (-42), 3) := by decide +kernel
theorem d9_59 : decode prog_1_method_2_code 59 = .ok (.aload_n 0, 1) := by decide +kernel
theorem d9_60 : decode prog_1_method_2_code 60 = .ok (.invokevirtual 7, 3) := by decide +kernel
theorem d9_63 : decode prog_1_method_2_code 63 = .ok (.aload_n 1, 1) := by decide +kernel
theorem d9_64 : decode prog_1_method_2_code 64 = .ok (.invokevirtual 7, 3) := by decide +kernel
theorem d9_67 : decode prog_1_method_2_code 67 = .ok (.invokestatic 23, 3) := by decide +kernel
theorem d9_70 : decode prog_1_method_2_code 70 = .ok (.ireturn, 1) := by decide +kernel
theorem d10_0 : decode jdk_42_method_54_code 0 = .ok (.aload_n 0, 1) := by decide +kernel
theorem d10_1 : decode jdk_42_method_54_code 1 = .ok (.getfield 9, 3) := by decide +kernel
theorem d10_4 : decode jdk_42_method_54_code 4 = .ok (.arraylength, 1) := by decide +kernel
theorem d10_5 : decode jdk_42_method_54_code 5 = .ok (.aload_n 0, 1) := by decide +kernel
theorem d10_6 : decode jdk_42_method_54_code 6 = .ok (.invokevirtual 335, 3) := by decide +kernel
theorem d10_9 : decode jdk_42_method_54_code 9 = .ok (.ishr, 1) := by decide +kernel
theorem d10_10 : decode jdk_42_method_54_code 10 = .ok (.ireturn, 1) := by decide +kernel
theorem d11_0 : decode jdk_42_method_152_code 0 = .ok (.getstatic 38, 3) := by decide +kernel
theorem d11_3 : decode jdk_42_method_152_code 3 = .ok (.ifCond .eq 10, 3) := by decide +kernel
theorem d11_6 : decode jdk_42_method_152_code 6 = .ok (.aload_n 0, 1) := by decide +kernel
theorem d11_7 : decode jdk_42_method_152_code 7 = .ok (.getfield 15, 3) := by decide +kernel
theorem d11_10 : decode jdk_42_method_152_code 10 = .ok (.goto 4, 3) := by decide +kernel
theorem d11_14 : decode jdk_42_method_152_code 14 = .ok (.ireturn, 1) := by decide +kernel
theorem d12_0 : decode jdk_33_method_40_code 0 = .ok (.iload_n 0, 1) := by decide +kernel
theorem d12_1 : decode jdk_33_method_40_code 1 = .ok (.iload_n 1, 1) := by decide +kernel
theorem d12_2 : decode jdk_33_method_40_code 2 = .ok (.if_icmp .ge 7, 3) := by decide +kernel
theorem d12_5 : decode jdk_33_method_40_code 5 = .ok (.iconst (-1), 1) := by decide +kernel
theorem d12_6 : decode jdk_33_method_40_code 6 = .ok (.goto 13, 3) := by decide +kernel
theorem d12_9 : decode jdk_33_method_40_code 9 = .ok (.iload_n 0, 1) := by decide +kernel
theorem d12_10 : decode jdk_33_method_40_code 10 = .ok (.iload_n 1, 1) := by decide +kernel
theorem d12_11 : decode jdk_33_method_40_code 11 = .ok (.if_icmp .ne 7, 3) := by decide +kernel
theorem d12_14 : decode jdk_33_method_40_code 14 = .ok (.iconst 0, 1) := by decide +kernel
theorem d12_15 : decode jdk_33_method_40_code 15 = .ok (.goto 4, 3) := by decide +kernel
theorem d12_18 : decode jdk_33_method_40_code 18 = .ok (.iconst 1, 1) := by decide +kernel
theorem d12_19 : decode jdk_33_method_40_code 19 = .ok (.ireturn, 1) := by decide +kernel
theorem d13_0 : decode method_9_code 0 = .ok (.iload_n 0, 1) := by decide +kernel
theorem d13_1 : decode method_9_code 1 = .ok (.ifCond .ge 5, 3) := by decide +kernel
theorem d13_4 : decode method_9_code 4 = .ok (.iconst (-1), 1) := by decide +kernel
theorem d13_5 : decode method_9_code 5 = .ok (.ireturn, 1) := by decide +kernel
theorem d13_6 : decode method_9_code 6 = .ok (.iload_n 0, 1) := by decide +kernel
theorem d13_7 : decode method_9_code 7 = .ok (.ifCond .le 5, 3) := by decide +kernel
theorem d13_10 : decode method_9_code 10 = .ok (.iconst 1, 1) := by decide +kernel
theorem d13_11 : decode method_9_code 11 = .ok (.ireturn, 1) := by decide +kernel
theorem d13_12 : decode method_9_code 12 = .ok (.iconst 0, 1) := by decide +kernel
theorem d13_13 : decode method_9_code 13 = .ok (.ireturn, 1) := by decide +kernel
theorem d14_0 : decode jdk_52_method_16_code 0 = .ok (.iload_n 2, 1) := by decide +kernel
theorem d14_1 : decode jdk_52_method_16_code 1 = .ok (.newarray .byte, 2) := by decide +kernel
theorem d14_3 : decode jdk_52_method_16_code 3 = .ok (.astore_n 3, 1) := by decide +kernel
theorem d14_4 : decode jdk_52_method_16_code 4 = .ok (.aload_n 0, 1) := by decide +kernel
theorem d14_5 : decode jdk_52_method_16_code 5 = .ok (.iload_n 1, 1) := by decide +kernel
theorem d14_6 : decode jdk_52_method_16_code 6 = .ok (.aload_n 3, 1) := by decide +kernel
theorem d14_7 : decode jdk_52_method_16_code 7 = .ok (.iconst 0, 1) := by decide +kernel
theorem d14_8 : decode jdk_52_method_16_code 8 = .ok (.iload_n 2, 1) := by decide +kernel
theorem d14_9 : decode jdk_52_method_16_code 9 = .ok (.invokestatic 115, 3) := by decide +kernel
theorem d14_12 : decode jdk_52_method_16_code 12 = .ok (.istore 4, 2) := by decide +kernel
theorem d14_14 : decode jdk_52_method_16_code 14 = .ok (.iload 4, 2) := by decide +kernel
theorem d14_16 : decode jdk_52_method_16_code 16 = .ok (.iload_n 2, 1) := by decide +kernel
theorem d14_17 : decode jdk_52_method_16_code 17 = .ok (.if_icmp .eq 40, 3) := by decide +kernel
theorem d14_20 : decode jdk_52_method_16_code 20 = .ok (.aload_n 0, 1) := by decide +kernel
theorem d14_21 : decode jdk_52_method_16_code 21 = .ok (.iload_n 1, 1) := by decide +kernel
theorem d14_22 : decode jdk_52_method_16_code 22 = .ok (.iload_n 2, 1) := by decide +kernel
theorem d14_23 : decode jdk_52_method_16_code 23 = .ok (.invokestatic 119, 3) := by decide +kernel
theorem d14_26 : decode jdk_52_method_16_code 26 = .ok (.astore 5, 2) := by decide +kernel
theorem d14_28 : decode jdk_52_method_16_code 28 = .ok (.aload 5, 2) := by decide +kernel
theorem d14_30 : decode jdk_52_method_16_code 30 = .ok (.iload 4, 2) := by decide +kernel
theorem d14_32 : decode jdk_52_method_16_code 32 = .ok (.invokestatic 71, 3) := by decide +kernel
theorem d14_35 : decode jdk_52_method_16_code 35 = .ok (.sipush 255, 3) := by decide +kernel
theorem d14_38 : decode jdk_52_method_16_code 38 = .ok (.if_icmp .gt 16, 3) := by decide +kernel
theorem d14_54 : decode jdk_52_method_16_code 54 = .ok (.aload 5, 2) := by decide +kernel
theorem d14_56 : decode jdk_52_method_16_code 56 = .ok (.areturn, 1) := by decide +kernel
theorem d14_57 : decode jdk_52_method_16_code 57 = .ok (.aload_n 3, 1) := by decide +kernel
theorem d14_58 : decode jdk_52_method_16_code 58 = .ok (.areturn, 1) := by decide +kernel
theorem d15_0 : decode jdk_52_method_21_code 0 = .ok (.iconst 0, 1) := by decide +kernel
theorem d15_1 : decode jdk_52_method_21_code 1 = .ok (.istore 5, 2) := by decide +kernel
theorem d15_3 : decode jdk_52_method_21_code 3 = .ok (.iload 5, 2) := by decide +kernel
theorem d15_5 : decode jdk_52_method_21_code 5 = .ok (.iload 4, 2) := by decide +kernel
theorem d15_7 : decode jdk_52_method_21_code 7 = .ok (.if_icmp .ge 37, 3) := by decide +kernel
theorem d15_10 : decode jdk_52_method_21_code 10 = .ok (.aload_n 0, 1) := by decide +kernel
theorem d15_11 : decode jdk_52_method_21_code 11 = .ok (.iload_n 1, 1) := by decide +kernel
theorem d15_12 : decode jdk_52_method_21_code 12 = .ok (.caload, 1) := by decide +kernel
theorem d15_13 : decode jdk_52_method_21_code 13 = .ok (.istore 6, 2) := by decide +kernel
theorem d15_15 : decode jdk_52_method_21_code 15 = .ok (.iload 6, 2) := by decide +kernel
theorem d15_17 : decode jdk_52_method_21_code 17 = .ok (.sipush 255, 3) := by decide +kernel
theorem d15_20 : decode jdk_52_method_21_code 20 = .ok (.if_icmp .le 6, 3) := by decide +kernel
theorem d15_23 : decode jdk_52_method_21_code 23 = .ok (.iload 5, 2) := by decide +kernel
theorem d15_25 : decode jdk_52_method_21_code 25 = .ok (.ireturn, 1) := by decide +kernel
theorem d15_26 : decode jdk_52_method_21_code 26 = .ok (.aload_n 2, 1) := by decide +kernel
theorem d15_27 : decode jdk_52_method_21_code 27 = .ok (.iload_n 3, 1) := by decide +kernel
theorem d15_28 : decode jdk_52_method_21_code 28 = .ok (.iload 6, 2) := by decide +kernel
theorem d15_30 : decode jdk_52_method_21_code 30 = .ok (.i2b, 1) := by decide +kernel
theorem d15_31 : decode jdk_52_method_21_code 31 = .ok (.bastore, 1) := by decide +kernel
theorem d15_32 : decode jdk_52_method_21_code 32 = .ok (.iinc 1 1, 3) := by decide +kernel
theorem d15_35 : decode jdk_52_method_21_code 35 = .ok (.iinc 3 1, 3) := by decide +kernel
theorem d15_38 : decode jdk_52_method_21_code 38 = .ok (.iinc 5 1, 3) := by decide +kernel
theorem d15_41 : decode jdk_52_method_21_code 41 = .ok (.goto (-38), 3) := by decide +kernel
theorem d15_44 : decode jdk_52_method_21_code 44 = .ok (.iload 4, 2) := by decide +kernel
theorem d15_46 : decode jdk_52_method_21_code 46 = .ok (.ireturn, 1) := by decide +kernel
theorem d16_0 : decode jdk_52_method_14_code 0 = .ok (.iload_n 2, 1) := by decide +kernel
theorem d16_1 : decode jdk_52_method_14_code 1 = .ok (.invokestatic 107, 3) := by decide +kernel
theorem d16_4 : decode jdk_52_method_14_code 4 = .ok (.astore_n 3, 1) := by decide +kernel
theorem d16_5 : decode jdk_52_method_14_code 5 = .ok (.iconst 0, 1) := by decide +kernel
theorem d16_6 : decode jdk_52_method_14_code 6 = .ok (.istore 4, 2) := by decide +kernel
theorem d16_8 : decode jdk_52_method_14_code 8 = .ok (.iload 4, 2) := by decide +kernel
theorem d16_10 : decode jdk_52_method_14_code 10 = .ok (.iload_n 2, 1) := by decide +kernel
theorem d16_11 : decode jdk_52_method_14_code 11 = .ok (.if_icmp .ge 21, 3) := by decide +kernel
theorem d16_14 : decode jdk_52_method_14_code 14 = .ok (.aload_n 3, 1) := by decide +kernel
theorem d16_15 : decode jdk_52_method_14_code 15 = .ok (.iload 4, 2) := by decide +kernel
theorem d16_17 : decode jdk_52_method_14_code 17 = .ok (.aload_n 0, 1) := by decide +kernel
theorem d16_18 : decode jdk_52_method_14_code 18 = .ok (.iload_n 1, 1) := by decide +kernel
theorem d16_19 : decode jdk_52_method_14_code 19 = .ok (.caload, 1) := by decide +kernel
theorem d16_20 : decode jdk_52_method_14_code 20 = .ok (.invokestatic 111, 3) := by decide +kernel
theorem d16_23 : decode jdk_52_method_14_code 23 = .ok (.iinc 1 1, 3) := by decide +kernel
theorem d16_26 : decode jdk_52_method_14_code 26 = .ok (.iinc 4 1, 3) := by decide +kernel
theorem d16_29 : decode jdk_52_method_14_code 29 = .ok (.goto (-21), 3) := by decide +kernel
theorem d16_32 : decode jdk_52_method_14_code 32 = .ok (.aload_n 3, 1) := by decide +kernel
theorem d16_33 : decode jdk_52_method_14_code 33 = .ok (.areturn, 1) := by decide +kernel
theorem d17_0 : decode jdk_52_method_2_code 0 = .ok (.iload_n 0, 1) := by decide +kernel
theorem d17_1 : decode jdk_52_method_2_code 1 = .ok (.invokestatic 11, 3) := by decide +kernel
theorem d17_4 : decode jdk_52_method_2_code 4 = .ok (.newarray .byte, 2) := by decide +kernel
theorem d17_6 : decode jdk_52_method_2_code 6 = .ok (.areturn, 1) := by decide +kernel
theorem d18_0 : decode jdk_52_method_3_code 0 = .ok (.iload_n 0, 1) := by decide +kernel
theorem d18_1 : decode jdk_52_method_3_code 1 = .ok (.ifCond .ge 11, 3) := by decide +kernel
theorem d18_12 : decode jdk_52_method_3_code 12 = .ok (.iload_n 0, 1) := by decide +kernel
theorem d18_13 : decode jdk_52_method_3_code 13 = .ok (.ldc 20, 2) := by decide +kernel
theorem d18_15 : decode jdk_52_method_3_code 15 = .ok (.if_icmp .lt 40, 3) := by decide +kernel
theorem d18_55 : decode jdk_52_method_3_code 55 = .ok (.iload_n 0, 1) := by decide +kernel
theorem d18_56 : decode jdk_52_method_3_code 56 = .ok (.iconst 1, 1) := by decide +kernel
theorem d18_57 : decode jdk_52_method_3_code 57 = .ok (.ishl, 1) := by decide +kernel
theorem d18_58 : decode jdk_52_method_3_code 58 = .ok (.ireturn, 1) := by decide +kernel
theorem d19_0 : decode jdk_52_method_4_code 0 = .ok (.getstatic 44, 3) := by decide +kernel
theorem d19_3 : decode jdk_52_method_4_code 3 = .ok (.ifCond .ne 25, 3) := by decide +kernel
theorem d19_28 : decode jdk_52_method_4_code 28 = .ok (.iload_n 1, 1) := by decide +kernel
theorem d19_29 : decode jdk_52_method_4_code 29 = .ok (.iconst 1, 1) := by decide +kernel
theorem d19_30 : decode jdk_52_method_4_code 30 = .ok (.ishl, 1) := by decide +kernel
theorem d19_31 : decode jdk_52_method_4_code 31 = .ok (.istore_n 1, 1) := by decide +kernel
theorem d19_32 : decode jdk_52_method_4_code 32 = .ok (.aload_n 0, 1) := by decide +kernel
theorem d19_33 : decode jdk_52_method_4_code 33 = .ok (.iload_n 1, 1) := by decide +kernel
theorem d19_34 : decode jdk_52_method_4_code 34 = .ok (.iinc 1 1, 3) := by decide +kernel
theorem d19_37 : decode jdk_52_method_4_code 37 = .ok (.iload_n 2, 1) := by decide +kernel
theorem d19_38 : decode jdk_52_method_4_code 38 = .ok (.getstatic 59, 3) := by decide +kernel
theorem d19_41 : decode jdk_52_method_4_code 41 = .ok (.ishr, 1) := by decide +kernel
theorem d19_42 : decode jdk_52_method_4_code 42 = .ok (.i2b, 1) := by decide +kernel
theorem d19_43 : decode jdk_52_method_4_code 43 = .ok (.bastore, 1) := by decide +kernel
theorem d19_44 : decode jdk_52_method_4_code 44 = .ok (.aload_n 0, 1) := by decide +kernel
theorem d19_45 : decode jdk_52_method_4_code 45 = .ok (.iload_n 1, 1) := by decide +kernel
theorem d19_46 : decode jdk_52_method_4_code 46 = .ok (.iload_n 2, 1) := by decide +kernel
theorem d19_47 : decode jdk_52_method_4_code 47 = .ok (.getstatic 63, 3) := by decide +kernel
theorem d19_50 : decode jdk_52_method_4_code 50 = .ok (.ishr, 1) := by decide +kernel
theorem d19_51 : decode jdk_52_method_4_code 51 = .ok (.i2b, 1) := by decide +kernel
theorem d19_52 : decode jdk_52_method_4_code 52 = .ok (.bastore, 1) := by decide +kernel
theorem d19_53 : decode jdk_52_method_4_code 53 = .ok (.return_, 1) := by decide +kernel
theorem d20_0 : decode jdk_52_method_5_code 0 = .ok (.getstatic 44, 3) := by decide +kernel
theorem d20_3 : decode jdk_52_method_5_code 3 = .ok (.ifCond .ne 25, 3) := by decide +kernel
theorem d20_28 : decode jdk_52_method_5_code 28 = .ok (.iload_n 1, 1) := by decide +kernel
theorem d20_29 : decode jdk_52_method_5_code 29 = .ok (.iconst 1, 1) := by decide +kernel
theorem d20_30 : decode jdk_52_method_5_code 30 = .ok (.ishl, 1) := by decide +kernel
theorem d20_31 : decode jdk_52_method_5_code 31 = .ok (.istore_n 1, 1) := by decide +kernel
theorem d20_32 : decode jdk_52_method_5_code 32 = .ok (.aload_n 0, 1) := by decide +kernel
theorem d20_33 : decode jdk_52_method_5_code 33 = .ok (.iload_n 1, 1) := by decide +kernel
theorem d20_34 : decode jdk_52_method_5_code 34 = .ok (.iinc 1 1, 3) := by decide +kernel
theorem d20_37 : decode jdk_52_method_5_code 37 = .ok (.baload, 1) := by decide +kernel
theorem d20_38 : decode jdk_52_method_5_code 38 = .ok (.sipush 255, 3) := by decide +kernel
theorem d20_41 : decode jdk_52_method_5_code 41 = .ok (.iand, 1) := by decide +kernel
theorem d20_42 : decode jdk_52_method_5_code 42 = .ok (.getstatic 59, 3) := by decide +kernel
theorem d20_45 : decode jdk_52_method_5_code 45 = .ok (.ishl, 1) := by decide +kernel
theorem d20_46 : decode jdk_52_method_5_code 46 = .ok (.aload_n 0, 1) := by decide +kernel
theorem d20_47 : decode jdk_52_method_5_code 47 = .ok (.iload_n 1, 1) := by decide +kernel
theorem d20_48 : decode jdk_52_method_5_code 48 = .ok (.baload, 1) := by decide +kernel
theorem d20_49 : decode jdk_52_method_5_code 49 = .ok (.sipush 255, 3) := by decide +kernel
theorem d20_52 : decode jdk_52_method_5_code 52 = .ok (.iand, 1) := by decide +kernel
theorem d20_53 : decode jdk_52_method_5_code 53 = .ok (.getstatic 63, 3) := by decide +kernel
theorem d20_56 : decode jdk_52_method_5_code 56 = .ok (.ishl, 1) := by decide +kernel
theorem d20_57 : decode jdk_52_method_5_code 57 = .ok (.ior, 1) := by decide +kernel
theorem d20_58 : decode jdk_52_method_5_code 58 = .ok (.i2c, 1) := by decide +kernel
theorem d20_59 : decode jdk_52_method_5_code 59 = .ok (.ireturn, 1) := by decide +kernel
theorem d21_0 : decode jdk_52_method_15_code 0 = .ok (.iload_n 1, 1) := by decide +kernel
theorem d21_1 : decode jdk_52_method_15_code 1 = .ok (.aload_n 0, 1) := by decide +kernel
theorem d21_2 : decode jdk_52_method_15_code 2 = .ok (.arraylength, 1) := by decide +kernel
theorem d21_3 : decode jdk_52_method_15_code 3 = .ok (.isub, 1) := by decide +kernel
theorem d21_4 : decode jdk_52_method_15_code 4 = .ok (.bipush 31, 2) := by decide +kernel
theorem d21_6 : decode jdk_52_method_15_code 6 = .ok (.iushr, 1) := by decide +kernel
theorem d21_7 : decode jdk_52_method_15_code 7 = .ok (.i2b, 1) := by decide +kernel
theorem d21_8 : decode jdk_52_method_15_code 8 = .ok (.ireturn, 1) := by decide +kernel
theorem d22_0 : decode method_5_code 0 = .ok (.iload_n 0, 1) := by decide +kernel
theorem d22_1 : decode method_5_code 1 = .ok (.ldc 35, 2) := by decide +kernel
theorem d22_3 : decode method_5_code 3 = .ok (.if_icmp .lt 13, 3) := by decide +kernel
theorem d22_6 : decode method_5_code 6 = .ok (.iload_n 0, 1) := by decide +kernel
theorem d22_7 : decode method_5_code 7 = .ok (.ldc 43, 2) := by decide +kernel
theorem d22_9 : decode method_5_code 9 = .ok (.if_icmp .gt 7, 3) := by decide +kernel
theorem d22_12 : decode method_5_code 12 = .ok (.iconst 1, 1) := by decide +kernel
theorem d22_13 : decode method_5_code 13 = .ok (.goto 4, 3) := by decide +kernel
theorem d22_16 : decode method_5_code 16 = .ok (.iconst 0, 1) := by decide +kernel
theorem d22_17 : decode method_5_code 17 = .ok (.ireturn, 1) := by decide +kernel
theorem d23_0 : decode method_6_code 0 = .ok (.iload_n 0, 1) := by decide +kernel
theorem d23_1 : decode method_6_code 1 = .ok (.ldc 36, 2) := by decide +kernel
theorem d23_3 : decode method_6_code 3 = .ok (.if_icmp .lt 13, 3) := by decide +kernel
theorem d23_6 : decode method_6_code 6 = .ok (.iload_n 0, 1) := by decide +kernel
theorem d23_7 : decode method_6_code 7 = .ok (.ldc 44, 2) := by decide +kernel
theorem d23_9 : decode method_6_code 9 = .ok (.if_icmp .gt 7, 3) := by decide +kernel
theorem d23_12 : decode method_6_code 12 = .ok (.iconst 1, 1) := by decide +kernel
theorem d23_13 : decode method_6_code 13 = .ok (.goto 4, 3) := by decide +kernel
theorem d23_16 : decode method_6_code 16 = .ok (.iconst 0, 1) := by decide +kernel
theorem d23_17 : decode method_6_code 17 = .ok (.ireturn, 1) := by decide +kernel
theorem d24_0 : decode jdk_42_method_57_code 0 = .ok (.aload_n 0, 1) := by decide +kernel
theorem d24_1 : decode jdk_42_method_57_code 1 = .ok (.invokevirtual 492, 3) := by decide +kernel
theorem d24_4 : decode jdk_42_method_57_code 4 = .ok (.ifCond .eq 23, 3) := by decide +kernel
theorem d24_7 : decode jdk_42_method_57_code 7 = .ok (.iload_n 1, 1) := by decide +kernel
theorem d24_8 : decode jdk_42_method_57_code 8 = .ok (.aload_n 0, 1) := by decide +kernel
theorem d24_9 : decode jdk_42_method_57_code 9 = .ok (.getfield 9, 3) := by decide +kernel
theorem d24_12 : decode jdk_42_method_57_code 12 = .ok (.arraylength, 1) := by decide +kernel
theorem d24_13 : decode jdk_42_method_57_code 13 = .ok (.invokestatic 499, 3) := by decide +kernel
theorem d24_16 : decode jdk_42_method_57_code 16 = .ok (.aload_n 0, 1) := by decide +kernel
theorem d24_17 : decode jdk_42_method_57_code 17 = .ok (.getfield 9, 3) := by decide +kernel
theorem d24_20 : decode jdk_42_method_57_code 20 = .ok (.iload_n 1, 1) := by decide +kernel
theorem d24_21 : decode jdk_42_method_57_code 21 = .ok (.baload, 1) := by decide +kernel
theorem d24_22 : decode jdk_42_method_57_code 22 = .ok (.sipush 255, 3) := by decide +kernel
theorem d24_25 : decode jdk_42_method_57_code 25 = .ok (.iand, 1) := by decide +kernel
theorem d24_26 : decode jdk_42_method_57_code 26 = .ok (.ireturn, 1) := by decide +kernel
theorem d24_27 : decode jdk_42_method_57_code 27 = .ok (.aload_n 0, 1) := by decide +kernel
theorem d24_28 : decode jdk_42_method_57_code 28 = .ok (.getfield 9, 3) := by decide +kernel
theorem d24_31 : decode jdk_42_method_57_code 31 = .ok (.arraylength, 1) := by decide +kernel
theorem d24_32 : decode jdk_42_method_57_code 32 = .ok (.iconst 1, 1) := by decide +kernel
theorem d24_33 : decode jdk_42_method_57_code 33 = .ok (.ishr, 1) := by decide +kernel
theorem d24_34 : decode jdk_42_method_57_code 34 = .ok (.istore_n 2, 1) := by decide +kernel
theorem d24_35 : decode jdk_42_method_57_code 35 = .ok (.iload_n 1, 1) := by decide +kernel
theorem d24_36 : decode jdk_42_method_57_code 36 = .ok (.iload_n 2, 1) := by decide +kernel
theorem d24_37 : decode jdk_42_method_57_code 37 = .ok (.invokestatic 499, 3) := by decide +kernel
theorem d24_40 : decode jdk_42_method_57_code 40 = .ok (.aload_n 0, 1) := by decide +kernel
theorem d24_41 : decode jdk_42_method_57_code 41 = .ok (.getfield 9, 3) := by decide +kernel
theorem d24_44 : decode jdk_42_method_57_code 44 = .ok (.iload_n 1, 1) := by decide +kernel
theorem d24_45 : decode jdk_42_method_57_code 45 = .ok (.iload_n 2, 1) := by decide +kernel
theorem d24_46 : decode jdk_42_method_57_code 46 = .ok (.invokestatic 502, 3) := by decide +kernel
theorem d24_49 : decode jdk_42_method_57_code 49 = .ok (.ireturn, 1) := by decide +kernel
theorem d25_0 : decode jdk_42_method_154_code 0 = .ok (.getstatic 38, 3) := by decide +kernel
theorem d25_3 : decode jdk_42_method_154_code 3 = .ok (.ifCond .eq 14, 3) := by decide +kernel
theorem d25_6 : decode jdk_42_method_154_code 6 = .ok (.aload_n 0, 1) := by decide +kernel
theorem d25_7 : decode jdk_42_method_154_code 7 = .ok (.getfield 15, 3) := by decide +kernel
theorem d25_10 : decode jdk_42_method_154_code 10 = .ok (.ifCond .ne 7, 3) := by decide +kernel
theorem d25_13 : decode jdk_42_method_154_code 13 = .ok (.iconst 1, 1) := by decide +kernel
theorem d25_14 : decode jdk_42_method_154_code 14 = .ok (.goto 4, 3) := by decide +kernel
theorem d25_17 : decode jdk_42_method_154_code 17 = .ok (.iconst 0, 1) := by decide +kernel
theorem d25_18 : decode jdk_42_method_154_code 18 = .ok (.ireturn, 1) := by decide +kernel
theorem d26_0 : decode jdk_42_method_155_code 0 = .ok (.iload_n 0, 1) := by decide +kernel
theorem d26_1 : decode jdk_42_method_155_code 1 = .ok (.iload_n 1, 1) := by decide +kernel
theorem d26_2 : decode jdk_42_method_155_code 2 = .ok (.getstatic 1053, 3) := by decide +kernel
theorem d26_5 : decode jdk_42_method_155_code 5 = .ok (.invokestatic 1059, 3) := by decide +kernel
theorem d26_8 : decode jdk_42_method_155_code 8 = .ok (.pop, 1) := by decide +kernel
theorem d26_9 : decode jdk_42_method_155_code 9 = .ok (.return_, 1) := by decide +kernel
theorem d27_0 : decode jdk_41_method_11_code 0 = .ok (.iload_n 0, 1) := by decide +kernel
theorem d27_1 : decode jdk_41_method_11_code 1 = .ok (.ifCond .lt 8, 3) := by decide +kernel
theorem d27_4 : decode jdk_41_method_11_code 4 = .ok (.iload_n 0, 1) := by decide +kernel
theorem d27_5 : decode jdk_41_method_11_code 5 = .ok (.iload_n 1, 1) := by decide +kernel
theorem d27_6 : decode jdk_41_method_11_code 6 = .ok (.if_icmp .lt 10, 3) := by decide +kernel
theorem d27_16 : decode jdk_41_method_11_code 16 = .ok (.iload_n 0, 1) := by decide +kernel
theorem d27_17 : decode jdk_41_method_11_code 17 = .ok (.ireturn, 1) := by decide +kernel
theorem d28_0 : decode jdk_52_method_8_code 0 = .ok (.aload_n 0, 1) := by decide +kernel
theorem d28_1 : decode jdk_52_method_8_code 1 = .ok (.iload_n 1, 1) := by decide +kernel
theorem d28_2 : decode jdk_52_method_8_code 2 = .ok (.iload_n 2, 1) := by decide +kernel
theorem d28_3 : decode jdk_52_method_8_code 3 = .ok (.iconst 0, 1) := by decide +kernel
theorem d28_4 : decode jdk_52_method_8_code 4 = .ok (.invokestatic 88, 3) := by decide +kernel
theorem d28_7 : decode jdk_52_method_8_code 7 = .ok (.ireturn, 1) := by decide +kernel
theorem d29_0 : decode jdk_52_method_7_code 0 = .ok (.getstatic 44, 3) := by decide +kernel
theorem d29_3 : decode jdk_52_method_7_code 3 = .ok (.ifCond .ne 16, 3) := by decide +kernel
theorem d29_19 : decode jdk_52_method_7_code 19 = .ok (.iload_n 3, 1) := by decide +kernel
theorem d29_20 : decode jdk_52_method_7_code 20 = .ok (.ifCond .eq 8, 3) := by decide +kernel
theorem d29_28 : decode jdk_52_method_7_code 28 = .ok (.aload_n 0, 1) := by decide +kernel
theorem d29_29 : decode jdk_52_method_7_code 29 = .ok (.iload_n 1, 1) := by decide +kernel
theorem d29_30 : decode jdk_52_method_7_code 30 = .ok (.invokestatic 71, 3) := by decide +kernel
theorem d29_33 : decode jdk_52_method_7_code 33 = .ok (.istore 4, 2) := by decide +kernel
theorem d29_35 : decode jdk_52_method_7_code 35 = .ok (.iload 4, 2) := by decide +kernel
theorem d29_37 : decode jdk_52_method_7_code 37 = .ok (.invokestatic 75, 3) := by decide +kernel
theorem d29_40 : decode jdk_52_method_7_code 40 = .ok (.ifCond .eq 43, 3) := by decide +kernel
theorem d29_43 : decode jdk_52_method_7_code 43 = .ok (.iinc 1 1, 3) := by decide +kernel
theorem d29_46 : decode jdk_52_method_7_code 46 = .ok (.iload_n 1, 1) := by decide +kernel
theorem d29_47 : decode jdk_52_method_7_code 47 = .ok (.iload_n 2, 1) := by decide +kernel
theorem d29_48 : decode jdk_52_method_7_code 48 = .ok (.if_icmp .ge 35, 3) := by decide +kernel
theorem d29_51 : decode jdk_52_method_7_code 51 = .ok (.iload_n 3, 1) := by decide +kernel
theorem d29_52 : decode jdk_52_method_7_code 52 = .ok (.ifCond .eq 8, 3) := by decide +kernel
theorem d29_60 : decode jdk_52_method_7_code 60 = .ok (.aload_n 0, 1) := by decide +kernel
theorem d29_61 : decode jdk_52_method_7_code 61 = .ok (.iload_n 1, 1) := by decide +kernel
theorem d29_62 : decode jdk_52_method_7_code 62 = .ok (.invokestatic 71, 3) := by decide +kernel
theorem d29_65 : decode jdk_52_method_7_code 65 = .ok (.istore 5, 2) := by decide +kernel
theorem d29_67 : decode jdk_52_method_7_code 67 = .ok (.iload 5, 2) := by decide +kernel
theorem d29_69 : decode jdk_52_method_7_code 69 = .ok (.invokestatic 81, 3) := by decide +kernel
theorem d29_72 : decode jdk_52_method_7_code 72 = .ok (.ifCond .eq 11, 3) := by decide +kernel
theorem d29_75 : decode jdk_52_method_7_code 75 = .ok (.iload 4, 2) := by decide +kernel
theorem d29_77 : decode jdk_52_method_7_code 77 = .ok (.iload 5, 2) := by decide +kernel
theorem d29_79 : decode jdk_52_method_7_code 79 = .ok (.invokestatic 84, 3) := by decide +kernel
theorem d29_82 : decode jdk_52_method_7_code 82 = .ok (.ireturn, 1) := by decide +kernel
theorem d29_83 : decode jdk_52_method_7_code 83 = .ok (.iload 4, 2) := by decide +kernel
theorem d29_85 : decode jdk_52_method_7_code 85 = .ok (.ireturn, 1) := by decide +kernel
theorem d30_0 : decode jdk_89_method_14_code 0 = .ok (.iload_n 0, 1) := by decide +kernel
theorem d30_1 : decode jdk_89_method_14_code 1 = .ok (.ldc 75, 2) := by decide +kernel
theorem d30_3 : decode jdk_89_method_14_code 3 = .ok (.if_icmp .lt 13, 3) := by decide +kernel
theorem d30_6 : decode jdk_89_method_14_code 6 = .ok (.iload_n 0, 1) := by decide +kernel
theorem d30_7 : decode jdk_89_method_14_code 7 = .ok (.ldc 76, 2) := by decide +kernel
theorem d30_9 : decode jdk_89_method_14_code 9 = .ok (.if_icmp .ge 7, 3) := by decide +kernel
theorem d30_12 : decode jdk_89_method_14_code 12 = .ok (.iconst 1, 1) := by decide +kernel
theorem d30_13 : decode jdk_89_method_14_code 13 = .ok (.goto 4, 3) := by decide +kernel
theorem d30_16 : decode jdk_89_method_14_code 16 = .ok (.iconst 0, 1) := by decide +kernel
theorem d30_17 : decode jdk_89_method_14_code 17 = .ok (.ireturn, 1) := by decide +kernel
theorem d31_0 : decode jdk_89_method_15_code 0 = .ok (.iload_n 0, 1) := by decide +kernel
theorem d31_1 : decode jdk_89_method_15_code 1 = .ok (.ldc 76, 2) := by decide +kernel
theorem d31_3 : decode jdk_89_method_15_code 3 = .ok (.if_icmp .lt 13, 3) := by decide +kernel
theorem d31_6 : decode jdk_89_method_15_code 6 = .ok (.iload_n 0, 1) := by decide +kernel
theorem d31_7 : decode jdk_89_method_15_code 7 = .ok (.ldc 77, 2) := by decide +kernel
theorem d31_9 : decode jdk_89_method_15_code 9 = .ok (.if_icmp .ge 7, 3) := by decide +kernel
theorem d31_12 : decode jdk_89_method_15_code 12 = .ok (.iconst 1, 1) := by decide +kernel
theorem d31_13 : decode jdk_89_method_15_code 13 = .ok (.goto 4, 3) := by decide +kernel
theorem d31_16 : decode jdk_89_method_15_code 16 = .ok (.iconst 0, 1) := by decide +kernel
theorem d31_17 : decode jdk_89_method_15_code 17 = .ok (.ireturn, 1) := by decide +kernel
theorem d32_0 : decode jdk_89_method_19_code 0 = .ok (.iload_n 0, 1) := by decide +kernel
theorem d32_1 : decode jdk_89_method_19_code 1 = .ok (.bipush 10, 2) := by decide +kernel
theorem d32_3 : decode jdk_89_method_19_code 3 = .ok (.ishl, 1) := by decide +kernel
theorem d32_4 : decode jdk_89_method_19_code 4 = .ok (.iload_n 1, 1) := by decide +kernel
theorem d32_5 : decode jdk_89_method_19_code 5 = .ok (.iadd, 1) := by decide +kernel
theorem d32_6 : decode jdk_89_method_19_code 6 = .ok (.ldc 85, 2) := by decide +kernel
theorem d32_8 : decode jdk_89_method_19_code 8 = .ok (.iadd, 1) := by decide +kernel
theorem d32_9 : decode jdk_89_method_19_code 9 = .ok (.ireturn, 1) := by decide +kernel
theorem d33_0 : decode jdk_89_method_18_code 0 = .ok (.iload_n 0, 1) := by decide +kernel
theorem d33_1 : decode jdk_89_method_18_code 1 = .ok (.ldc 73, 2) := by decide +kernel
theorem d33_3 : decode jdk_89_method_18_code 3 = .ok (.if_icmp .lt 7, 3) := by decide +kernel
theorem d33_6 : decode jdk_89_method_18_code 6 = .ok (.iconst 2, 1) := by decide +kernel
theorem d33_7 : decode jdk_89_method_18_code 7 = .ok (.goto 4, 3) := by decide +kernel
theorem d33_10 : decode jdk_89_method_18_code 10 = .ok (.iconst 1, 1) := by decide +kernel
theorem d33_11 : decode jdk_89_method_18_code 11 = .ok (.ireturn, 1) := by decide +kernel
theorem pn_0 : plainName "java/lang/String" = true := by first | (simp [plainName, overriddenIn]; done) | decide +kernel
theorem pn_1 : plainName "java/lang/Integer" = true := by first | (simp [plainName, overriddenIn]; done) | decide +kernel
theorem pn_2 : plainName "com/example/proximity/proximity/CodePointOrderComparePinLaw" = true := by first | (simp [plainName, overriddenIn]; done) | decide +kernel
theorem pn_3 : plainName "java/lang/Character" = true := by first | (simp [plainName, overriddenIn]; done) | decide +kernel
theorem pn_4 : plainName "jdk/internal/util/Preconditions" = true := by first | (simp [plainName, overriddenIn]; done) | decide +kernel
theorem pn_5 : plainName "java/lang/StringUTF16" = true := by first | (simp [plainName, overriddenIn]; done) | decide +kernel
theorem pn_6 : plainName "com/example/proximity/proximity/CodePointOrder" = true := by first | (simp [plainName, overriddenIn]; done) | decide +kernel
theorem pd_0 : parseMethodDescriptor "([CIILjava/lang/Void;)V" = some ⟨[(.array .char), .int, .int, (.object "java/lang/Void")], none⟩ := by decide +kernel
theorem pd_1 : parseMethodDescriptor "(IILjava/util/function/BiFunction;)I" = some ⟨[.int, .int, (.object "java/util/function/BiFunction")], some .int⟩ := by decide +kernel
theorem pd_2 : parseMethodDescriptor "(I)I" = some ⟨[.int], some .int⟩ := by decide +kernel
theorem pd_3 : parseMethodDescriptor "(I)[B" = some ⟨[.int], some (.array .byte)⟩ := by decide +kernel
theorem pd_4 : parseMethodDescriptor "([BII)V" = some ⟨[(.array .byte), .int, .int], none⟩ := by decide +kernel
theorem pd_5 : parseMethodDescriptor "([CI[BII)I" = some ⟨[(.array .char), .int, (.array .byte), .int, .int], some .int⟩ := by decide +kernel
theorem pd_6 : parseMethodDescriptor "([CII)[B" = some ⟨[(.array .char), .int, .int], some (.array .byte)⟩ := by decide +kernel
theorem pd_7 : parseMethodDescriptor "([BI)C" = some ⟨[(.array .byte), .int], some .char⟩ := by decide +kernel
theorem pd_8 : parseMethodDescriptor "([BI)B" = some ⟨[(.array .byte), .int], some .byte⟩ := by decide +kernel
theorem pd_9 : parseMethodDescriptor "([C)V" = some ⟨[(.array .char)], none⟩ := by decide +kernel
theorem pd_10 : parseMethodDescriptor "(C)Z" = some ⟨[.char], some .boolean⟩ := by decide +kernel
theorem pd_11 : parseMethodDescriptor "(II)I" = some ⟨[.int, .int], some .int⟩ := by decide +kernel
theorem pd_12 : parseMethodDescriptor "()B" = some ⟨[], some .byte⟩ := by decide +kernel
theorem pd_13 : parseMethodDescriptor "([BIIZ)I" = some ⟨[(.array .byte), .int, .int, .boolean], some .int⟩ := by decide +kernel
theorem pd_14 : parseMethodDescriptor "()Z" = some ⟨[], some .boolean⟩ := by decide +kernel
theorem pd_15 : parseMethodDescriptor "(II)V" = some ⟨[.int, .int], none⟩ := by decide +kernel
theorem pd_16 : parseMethodDescriptor "([BII)I" = some ⟨[(.array .byte), .int, .int], some .int⟩ := by decide +kernel
theorem pd_17 : parseMethodDescriptor "(CC)I" = some ⟨[.char, .char], some .int⟩ := by decide +kernel
theorem pd_18 : parseMethodDescriptor "()I" = some ⟨[], some .int⟩ := by decide +kernel
theorem pd_19 : parseMethodDescriptor "(CCI)Ljava/lang/String;" = some ⟨[.char, .char, .int], some (.object "java/lang/String")⟩ := by decide +kernel
theorem pd_20 : parseMethodDescriptor "(CCI)[I" = some ⟨[.char, .char, .int], some (.array .int)⟩ := by decide +kernel
theorem pd_21 : parseMethodDescriptor "([I[I)I" = some ⟨[(.array .int), (.array .int)], some .int⟩ := by decide +kernel
theorem pd_22 : parseMethodDescriptor "(Ljava/lang/String;Ljava/lang/String;)I" = some ⟨[(.object "java/lang/String"), (.object "java/lang/String")], some .int⟩ := by decide +kernel
theorem pd_23 : parseMethodDescriptor "(I)C" = some ⟨[.int], some .char⟩ := by decide +kernel
abbrev EL : List (String × Nat) := consts_1
theorem own_EL {Z : State} {a0 : Array Value} (hw : ∀ d ∈ tables_1, d.before a0 Z = true) : EW Z a0 EL := (EW.cons (hw _ (List.mem_of_getElem? (i := 22) rfl)) (by decide) EW.nil)
theorem own_wS {Z : State} {a0 : Array Value} (hw : ∀ d ∈ tables_1, d.before a0 Z = true) : ∀ a ∈ Bundle.stringAtoms, a.before a0 Z = true := fun d hd => hw d ((by decide +kernel : ∀ d ∈ Bundle.stringAtoms, d ∈ tables_1) d hd)
theorem ef_e149 (m : MethodId) (x0 : Addr) (x1 : Addr) (x2 : Int32) (x3 : Int32) : entryFrame m #[.ref x0, .ref x1, .int x2, .int x3, .null] 6 = mkF m 0 #[.val (.ref x0), .val (.ref x1), .val (.int x2), .val (.int x3), .val .null, .unset] [] := by first | (simp [entryFrame, mkF, argsToLocals, Value.category]; done) | rfl
def Q_e149 (Z : State) (x : Addr) (a : Addr) (v0 : Value) (c0 : Value) (h0 : Heap) (n0 : Nat) (v : Option Value) (h : Heap) (L : List Loc) : Prop := v = none ∧ Fr n0 L ∧ Keep h0 h [x] ∧ Exa Z h x "java/lang/String" ∧ Fld Z h x "java/lang/String" "coder" "B" (.int 0) ∧ ∃ (t : Addr) (k : ClassId), ¬ t = x ∧ Fld Z h x "java/lang/String" "value" "[B" (.ref t) ∧ Arv Z h t k .byte 0 [] (.int 0)
set_option maxRecDepth 65536 in
set_option maxHeartbeats 40000000 in
theorem rm_e149 (l : Launch) (Z : State) (a0 : Array Value) (hw : ∀ d ∈ tables_1, d.before a0 Z = true) (ws : List Jvm.Cond) (x : Addr) (a : Addr) (v0 : Value) (c0 : Value) (h0 : Heap) (n0 : Nat) (O : Old Z n0 h0) (n0_x : n0 ≤ x) (E_x : Exa Z h0 x "java/lang/String") (F_x_value : Fld Z h0 x "java/lang/String" "value" "[B" v0) (F_x_coder : Fld Z h0 x "java/lang/String" "coder" "B" c0) :
    MetFree l (⟨"java/lang/String", "<init>", "([CIILjava/lang/Void;)V"⟩ : MethodName) (head1 (Jvm.Cond.code (⟨"java/lang/String", "<init>", "([CIILjava/lang/Void;)V"⟩ : MethodName) jdk_42_method_149_code 6 none :: ws) ({ frames := 1, cells := 4, slots := 8, locals := 12 } : Room)) (fun aa U => aa = #[.ref x, .ref a, .int (0 : Int32), .int (0 : Int32), .null] ∧ Z.Warmed39 U.vm ∧ U.heap = h0 ∧ CHv Z EL U.vm h0 ∧ ∀ yy ∈ ([x] : List Addr), Safe Z EL U.vm h0 yy) (fun _ _ _ _ _ => True) (fun _ U o U' => Own.EndW Z EL U (Q_e149 Z x a v0 c0 h0 n0) 4 8 o U') := by
  refine MetFree.of_bodySF (plainFor_of_name pn_0) hisR ?_
  intro p e s m args below meth c s₁ Bd hml0 hP hK
  obtain ⟨rfl, hZ, hh, hH, hSF⟩ := hP
  have S_x : Safe Z EL s.vm h0 x := hSF _ (List.mem_of_getElem? (i := 0) rfl)
  replace hZ : Z.Warmed39 (s.setVm s.vm).vm := hZ
  have hEL := own_EL hw
  have hx := Bd.exec
  have hby := Bd.bytes
  have hml : c.maxLocals = 6 := hml0
  have hown : (s.setVm s.vm).vm.findClass "java/lang/String" = some m.cls := findClass_of_methodNamed Bd.named
  have hnm := (name_of_methodNamed Bd.named Bd.method).1
  have hret := Bd.returns
  have hlocks : meth.locks = false := Bd.notSynchronized
  have X0 : Stand p l e ({ frames := 1, cells := 4, slots := 8, locals := 12 } : Room) (s.setVm s.vm) m #[.ref x, .ref a, .int (0 : Int32), .int (0 : Int32), .null] below meth c s₁ [] 0 0 := Stand.of_body Bd
  have e0 : s₁.heap = h0 := by rw [← hh, Bd.state]; rfl
  have N0 := Fr.nil n0
  have CR : CHr Z EL s.vm s.heap s.vm h0 := by rw [hh]; exact CHr.refl hH
  have hS : s.Since s.vm h0.size := (State.WarmedH.refl s).since _
  have hk : h0.size ≤ h0.size := Nat.le_refl _
  show Own.Go p e below (Own.EndW Z EL s (Q_e149 Z x a v0 c0 h0 n0) 4 8) (s₁.setTop (entryFrame m #[.ref x, .ref a, .int (0 : Int32), .int (0 : Int32), .null] 6))
  refine Own.Go.eq (ef_e149 m x a (0 : Int32) (0 : Int32)) ?_
  have KP : Keep h0 h0 [x] := Keep.refl _ _
  refine Own.g_aloadN X0 hx (hb hby d4_0) rfl rfl 1 rfl ?_
  refine Own.g_initO X0 hx hZ hown (hw _ (List.mem_of_getElem? (i := 19) rfl)) (hw _ (List.mem_of_getElem? (i := 20) rfl)) (hw _ (List.mem_of_getElem? (i := 21) rfl)) e0 (by rw [hml]; rfl) (hb hby d4_1) (by decide) (W := 0) (Nat.le_of_ble_eq_true rfl) (by decide) 4 rfl ?_
  intro T1 X1 e1
  refine Own.g_iloadN X1 hx (hb hby d4_4) rfl 5 rfl ?_
  refine Own.g_if_ne_f X1 hx (hb hby d4_5) rfl 8 rfl ?_
  refine Own.g_aloadN X1 hx (hb hby d4_8) rfl rfl 9 rfl ?_
  refine Own.w_ldc X1 hx hZ hown (hw _ (List.mem_of_getElem? (i := 22) rfl)) (own_wS hw) e1 hS hk hEL (by decide) CR.1 [] 0 ⟨by decide, by first | rfl | decide⟩ (by decide) rfl (hb hby d4_9) 0 (by decide) (by decide) (by decide) (by decide) 11 rfl ?_
  intro la T2 h2 k2 lb k_lb X2 e2 E2 hS hk hZ hown E_la F_la_coder F_la_value V_lb C2 hne2
  replace S_x := C2.safe E_x.lt S_x
  have ne_x_la := (hne2 _ S_x).1
  have ne_la_x := Ne.symm ne_x_la
  have ne_x_lb := (hne2 _ S_x).2
  have ne_lb_x := Ne.symm ne_x_lb
  replace E_x := E_x.ext E2
  replace F_x_value := F_x_value.ext E2
  replace F_x_coder := F_x_coder.ext E2
  replace O := O.ext E2
  replace CR := CR.trans C2
  replace KP := KP.ext E2
  refine Own.g_getF X2 hx hZ hown (host := "") (Or.inl (hw _ (List.mem_of_getElem? (i := 28) rfl))) Via.refl e2 F_la_value (hb hby d4_11) 14 rfl ?_
  intro T3 X3 e3
  refine Own.g_putF X3 hx hZ hown (host := "") (Or.inl (hw _ (List.mem_of_getElem? (i := 28) rfl))) Via.refl e3 F_x_value E_x (Or.inr ⟨(hw _ (List.mem_of_getElem? (i := 24) rfl)), rfl, hnm⟩) (hw _ (List.mem_of_getElem? (i := 9) rfl)) (ty := (.array .byte)) (by decide) rfl rfl (hb hby d4_14) 17 rfl ?_
  clear F_x_value; intro T4 h4 X4 e4 W4 F_x_value Ew4
  have CR' := CR.trans (CHr.wr W4 S_x CR.1)
  replace S_x := Safe.wr W4 S_x CR.1 S_x
  replace CR := CR'
  replace hk := Nat.le_trans hk (Keep.of_wr W4).1
  replace E_x := E_x.wr W4
  replace F_x_coder := F_x_coder.other W4 (Or.inr (slot_ne (Or.inr (hw _ (List.mem_of_getElem? (i := 25) rfl))) (Or.inr (hw _ (List.mem_of_getElem? (i := 24) rfl))) (by decide) (t := .byte) (t' := (.array .byte)) (by decide) (by decide)))
  replace E_la := E_la.wr W4
  replace F_la_coder := F_la_coder.other W4 (Or.inl ne_la_x)
  replace F_la_value := F_la_value.other W4 (Or.inl ne_la_x)
  replace V_lb := V_lb.other W4 ne_lb_x
  replace O := O.wr W4 n0_x
  replace KP := KP.wr W4 (Or.inl (List.mem_of_getElem? (i := 0) rfl))
  have N4 := Fr.snoc X4 N0 n0_x
  refine Own.g_aloadN X4 hx (hb hby d4_17) rfl rfl 18 rfl ?_
  refine Own.w_ldc X4 hx hZ hown (hw _ (List.mem_of_getElem? (i := 22) rfl)) (own_wS hw) e4 hS hk hEL (by decide) CR.1 [] 0 ⟨by decide, by first | rfl | decide⟩ (by decide) rfl (hb hby d4_18) 0 (by decide) (by decide) (by decide) (by decide) 20 rfl ?_
  intro lc T5 h5 k5 ld k_ld X5 e5 E5 hS hk hZ hown E_lc F_lc_coder F_lc_value V_ld C5 hne5
  replace S_x := C5.safe E_x.lt S_x
  have ne_x_lc := (hne5 _ S_x).1
  have ne_lc_x := Ne.symm ne_x_lc
  have ne_x_ld := (hne5 _ S_x).2
  have ne_ld_x := Ne.symm ne_x_ld
  replace E_x := E_x.ext E5
  replace F_x_value := F_x_value.ext E5
  replace F_x_coder := F_x_coder.ext E5
  replace V_lb := V_lb.ext E5
  replace O := O.ext E5
  replace CR := CR.trans C5
  replace KP := KP.ext E5
  refine Own.g_getF X5 hx hZ hown (host := "") (Or.inl (hw _ (List.mem_of_getElem? (i := 29) rfl))) Via.refl e5 F_lc_coder (hb hby d4_20) 23 rfl ?_
  intro T6 X6 e6
  refine Own.g_putF X6 hx hZ hown (host := "") (Or.inl (hw _ (List.mem_of_getElem? (i := 29) rfl))) Via.refl e6 F_x_coder E_x (Or.inr ⟨(hw _ (List.mem_of_getElem? (i := 25) rfl)), rfl, hnm⟩) (hw _ (List.mem_of_getElem? (i := 9) rfl)) (ty := .byte) (by decide) rfl rfl (hb hby d4_23) 26 rfl ?_
  clear F_x_coder; intro T7 h7 X7 e7 W7 F_x_coder Ew7
  have CR' := CR.trans (CHr.wr W7 S_x CR.1)
  replace S_x := Safe.wr W7 S_x CR.1 S_x
  replace CR := CR'
  replace hk := Nat.le_trans hk (Keep.of_wr W7).1
  replace E_x := E_x.wr W7
  replace F_x_value := F_x_value.other W7 (Or.inr (slot_ne (Or.inr (hw _ (List.mem_of_getElem? (i := 24) rfl))) (Or.inr (hw _ (List.mem_of_getElem? (i := 25) rfl))) (by decide) (t := (.array .byte)) (t' := .byte) (by decide) (by decide)))
  replace V_lb := V_lb.other W7 ne_lb_x
  replace O := O.wr W7 n0_x
  replace KP := KP.wr W7 (Or.inl (List.mem_of_getElem? (i := 0) rfl))
  have N7 := Fr.snoc X7 N4 n0_x
  refine Own.w_retV X7 hx hZ hEL hS hk CR hret hlocks (hb hby d4_26) (by decide) (by decide) e7 ?_
  exact ⟨rfl, N7, KP, E_x, F_x_coder, lb, k_lb, ne_lb_x, F_x_value, V_lb⟩
theorem ef_e3 (m : MethodId) (x0 : Addr) (x1 : Addr) : entryFrame m #[.ref x0, .ref x1] 2 = mkF m 0 #[.val (.ref x0), .val (.ref x1)] [] := by first | (simp [entryFrame, mkF, argsToLocals, Value.category]; done) | rfl
def Q_e3 (Z : State) (x : Addr) (a : Addr) (ka : ClassId) (v0 : Value) (c0 : Value) (h0 : Heap) (n0 : Nat) (v : Option Value) (h : Heap) (L : List Loc) : Prop := v = none ∧ Fr n0 L ∧ Keep h0 h [x] ∧ Exa Z h x "java/lang/String" ∧ Fld Z h x "java/lang/String" "coder" "B" (.int 0) ∧ ∃ (t : Addr) (k : ClassId), ¬ t = x ∧ Fld Z h x "java/lang/String" "value" "[B" (.ref t) ∧ Arv Z h t k .byte 0 [] (.int 0)
set_option maxRecDepth 65536 in
set_option maxHeartbeats 40000000 in
theorem rm_e3 (l : Launch) (Z : State) (a0 : Array Value) (hw : ∀ d ∈ tables_1, d.before a0 Z = true) (ws : List Jvm.Cond) (x : Addr) (a : Addr) (ka : ClassId) (v0 : Value) (c0 : Value) (h0 : Heap) (n0 : Nat) (O : Old Z n0 h0) (n0_x : n0 ≤ x) (V_a : Arv Z h0 a ka .char 0 [] (.int 0)) (E_x : Exa Z h0 x "java/lang/String") (F_x_value : Fld Z h0 x "java/lang/String" "value" "[B" v0) (F_x_coder : Fld Z h0 x "java/lang/String" "coder" "B" c0) :
    MetFree l (⟨"java/lang/String", "<init>", "([C)V"⟩ : MethodName) (head1 (Jvm.Cond.code (⟨"java/lang/String", "<init>", "([C)V"⟩ : MethodName) jdk_42_method_3_code 2 none :: ws) ({ frames := 2, cells := 4, slots := 8, locals := 29 } : Room)) (fun aa U => aa = #[.ref x, .ref a] ∧ Z.Warmed39 U.vm ∧ U.heap = h0 ∧ CHv Z EL U.vm h0 ∧ ∀ yy ∈ ([x] : List Addr), Safe Z EL U.vm h0 yy) (fun _ _ _ _ _ => True) (fun _ U o U' => Own.EndW Z EL U (Q_e3 Z x a ka v0 c0 h0 n0) 4 8 o U') := by
  refine MetFree.of_bodySF (plainFor_of_name pn_0) hisR ?_
  intro p e s m args below meth c s₁ Bd hml0 hP hK
  obtain ⟨rfl, hZ, hh, hH, hSF⟩ := hP
  have S_x : Safe Z EL s.vm h0 x := hSF _ (List.mem_of_getElem? (i := 0) rfl)
  replace hZ : Z.Warmed39 (s.setVm s.vm).vm := hZ
  have hEL := own_EL hw
  have hx := Bd.exec
  have hby := Bd.bytes
  have hml : c.maxLocals = 2 := hml0
  have hown : (s.setVm s.vm).vm.findClass "java/lang/String" = some m.cls := findClass_of_methodNamed Bd.named
  have hnm := (name_of_methodNamed Bd.named Bd.method).1
  have hret := Bd.returns
  have hlocks : meth.locks = false := Bd.notSynchronized
  have X0 : Stand p l e ({ frames := 2, cells := 4, slots := 8, locals := 29 } : Room) (s.setVm s.vm) m #[.ref x, .ref a] below meth c s₁ [] 0 0 := Stand.of_body Bd
  have e0 : s₁.heap = h0 := by rw [← hh, Bd.state]; rfl
  have N0 := Fr.nil n0
  have CR : CHr Z EL s.vm s.heap s.vm h0 := by rw [hh]; exact CHr.refl hH
  have hS : s.Since s.vm h0.size := (State.WarmedH.refl s).since _
  have hk : h0.size ≤ h0.size := Nat.le_refl _
  show Own.Go p e below (Own.EndW Z EL s (Q_e3 Z x a ka v0 c0 h0 n0) 4 8) (s₁.setTop (entryFrame m #[.ref x, .ref a] 2))
  refine Own.Go.eq (ef_e3 m x a) ?_
  have KP : Keep h0 h0 [x] := Keep.refl _ _
  refine Own.g_aloadN X0 hx (hb hby d3_0) rfl rfl 1 rfl ?_
  refine Own.g_aloadN X0 hx (hb hby d3_1) rfl rfl 2 rfl ?_
  refine Own.g_iconst X0 hx (0 : Int32) (hb hby d3_2) rfl 3 rfl ?_
  refine Own.g_aloadN X0 hx (hb hby d3_3) rfl rfl 4 rfl ?_
  refine Own.g_alen X0 hx hZ e0 V_a (hb hby d3_4) 5 rfl ?_
  refine Own.g_aconstNull X0 hx (hb hby d3_5) 6 rfl ?_
  refine Own.w_special X0 hx hZ (y := (⟨"java/lang/String", "<init>", "([CIILjava/lang/Void;)V"⟩ : MethodName)) rfl hown (mvT hZ (hw _ (List.mem_of_getElem? (i := 15) rfl))) (mvT hZ (hw _ (List.mem_of_getElem? (i := 16) rfl))) (mvT hZ (hw _ (List.mem_of_getElem? (i := 18) rfl))) (by decide) (a := x) [.ref a, .int (0 : Int32), .int (0 : Int32), .null] (Own.backW (W := 0) (SF := [x]) (rm_e149 l Z a0 hw [] x a v0 c0 h0 n0 O n0_x E_x F_x_value F_x_coder) hZ (hw _ (List.mem_of_getElem? (i := 18) rfl)) (hw _ (List.mem_of_getElem? (i := 10) rfl)) (by decide) (by decide) hEL CR.1 (allS ⟨E_x.lt, S_x⟩ all0)) e0 hS hk (by rw [hml]; rfl) [] (lenOf pd_0 rfl) rfl (Nat.le_of_ble_eq_true rfl) (hb hby d3_6) (by decide) (by decide) 9 rfl ?_
  rintro _ T1 L1 X1 hS hZ hown C1 ⟨rfl, N1q, K1, GE, GC, t, k, nt, GV, GA⟩
  replace S_x := C1.safe E_x.lt S_x
  replace CR := CR.trans C1
  have hk : T1.heap.size ≤ T1.heap.size := Nat.le_refl _
  have N1 := Fr.app N0 N1q
  replace O := O.keep K1 (allS n0_x all0)
  replace KP := KP.trans K1 (allS (Or.inl (List.mem_of_getElem? (i := 0) rfl)) all0)
  refine Own.w_retV X1 hx hZ hEL hS hk CR hret hlocks (hb hby d3_9) (by decide) (by decide) (rfl : T1.heap = T1.heap) ?_
  exact ⟨rfl, N1, KP, GE, GC, t, k, nt, GV, GA⟩
theorem ef_min (m : MethodId) (x0 : Int32) (x1 : Int32) : entryFrame m #[.int x0, .int x1] 2 = mkF m 0 #[.val (.int x0), .val (.int x1)] [] := by first | (simp [entryFrame, mkF, argsToLocals, Value.category]; done) | rfl
def Q_min (Z : State) (x1 : Int32) (x2 : Int32) (h0 : Heap) (n0 : Nat) (v : Option Value) (h : Heap) (L : List Loc) : Prop := v = some (.int (if x2 < x1 then x2 else x1)) ∧ Fr n0 L ∧ h = h0
set_option maxRecDepth 65536 in
set_option maxHeartbeats 40000000 in
theorem rm_min (l : Launch) (Z : State) (a0 : Array Value) (hw : ∀ d ∈ tables_1, d.before a0 Z = true) (ws : List Jvm.Cond) (x1 : Int32) (x2 : Int32) (h0 : Heap) (n0 : Nat) (O : Old Z n0 h0)  :
    MetFree l (⟨"java/lang/Math", "min", "(II)I"⟩ : MethodName) (head1 (Jvm.Cond.code (⟨"java/lang/Math", "min", "(II)I"⟩ : MethodName) jdk_29_method_69_code 2 (some .int) :: ws) ({ frames := 0, cells := 0, slots := 0, locals := 0 } : Room)) (fun aa U => aa = #[.int x1, .int x2] ∧ Z.Warmed39 U.vm ∧ U.heap = h0) (fun _ _ _ _ _ => True) (fun _ U o U' => Own.End U (Q_min Z x1 x2 h0 n0) 0 0 o U') := by
  refine MetFree.of_bodySF (Jvm.Free.JP.mathPlain rfl (by decide +kernel)) hisR ?_
  intro p e s m args below meth c s₁ Bd hml0 hP hK
  obtain ⟨rfl, hZ, hh⟩ := hP
  have hx := Bd.exec
  have hby := Bd.bytes
  have hml : c.maxLocals = 2 := hml0
  have hown : s.vm.findClass "java/lang/Math" = some m.cls := findClass_of_methodNamed Bd.named
  have hnm := (name_of_methodNamed Bd.named Bd.method).1
  have hret := Bd.returns
  have hlocks : meth.locks = false := Bd.notSynchronized
  have X0 : Stand p l e ({ frames := 0, cells := 0, slots := 0, locals := 0 } : Room) s m #[.int x1, .int x2] below meth c s₁ [] 0 0 := Stand.of_body Bd
  have e0 : s₁.heap = h0 := by rw [← hh, Bd.state]; rfl
  have N0 := Fr.nil n0
  show Own.Go p e below (Own.End s (Q_min Z x1 x2 h0 n0) 0 0) (s₁.setTop (entryFrame m #[.int x1, .int x2] 2))
  refine Own.Go.eq (ef_min m x1 x2) ?_
  refine Own.g_iloadN X0 hx (hb hby d8_0) rfl 1 rfl ?_
  refine Own.g_iloadN X0 hx (hb hby d8_1) rfl 2 rfl ?_
  refine Own.g_icmp_gt X0 hx (hb hby d8_2) 9 5 (by decide) rfl ?_ ?_
  · intro hq1
    refine Own.g_iloadN X0 hx (hb hby d8_9) rfl 10 rfl ?_
    refine Own.g_ret X0 hx hret hlocks rfl (Or.inl ⟨rfl, by simp, _, rfl⟩) (hb hby d8_10) (by decide) (by decide) e0 ?_
    exact ⟨by rw [if_pos hq1], N0, rfl⟩
  · intro hq1
    refine Own.g_iloadN X0 hx (hb hby d8_5) rfl 6 rfl ?_
    refine Own.g_goto X0 hx (hb hby d8_6) 10 (by decide) ?_
    refine Own.g_ret X0 hx hret hlocks rfl (Or.inl ⟨rfl, by simp, _, rfl⟩) (hb hby d8_10) (by decide) (by decide) e0 ?_
    exact ⟨by rw [if_neg hq1], N0, rfl⟩
theorem ef_icm (m : MethodId) (x0 : Int32) (x1 : Int32) : entryFrame m #[.int x0, .int x1] 2 = mkF m 0 #[.val (.int x0), .val (.int x1)] [] := by first | (simp [entryFrame, mkF, argsToLocals, Value.category]; done) | rfl
def Q_icm (Z : State) (x1 : Int32) (x2 : Int32) (h0 : Heap) (n0 : Nat) (v : Option Value) (h : Heap) (L : List Loc) : Prop := v = some (.int (Own.icmp x1 x2)) ∧ Fr n0 L ∧ h = h0
set_option maxRecDepth 65536 in
set_option maxHeartbeats 40000000 in
theorem rm_icm (l : Launch) (Z : State) (a0 : Array Value) (hw : ∀ d ∈ tables_1, d.before a0 Z = true) (ws : List Jvm.Cond) (x1 : Int32) (x2 : Int32) (h0 : Heap) (n0 : Nat) (O : Old Z n0 h0)  :
    MetFree l (⟨"java/lang/Integer", "compare", "(II)I"⟩ : MethodName) (head1 (Jvm.Cond.code (⟨"java/lang/Integer", "compare", "(II)I"⟩ : MethodName) jdk_33_method_40_code 2 (some .int) :: ws) ({ frames := 0, cells := 0, slots := 0, locals := 0 } : Room)) (fun aa U => aa = #[.int x1, .int x2] ∧ Z.Warmed39 U.vm ∧ U.heap = h0) (fun _ _ _ _ _ => True) (fun _ U o U' => Own.End U (Q_icm Z x1 x2 h0 n0) 0 0 o U') := by
  refine MetFree.of_bodySF (plainFor_of_name pn_1) hisR ?_
  intro p e s m args below meth c s₁ Bd hml0 hP hK
  obtain ⟨rfl, hZ, hh⟩ := hP
  have hx := Bd.exec
  have hby := Bd.bytes
  have hml : c.maxLocals = 2 := hml0
  have hown : s.vm.findClass "java/lang/Integer" = some m.cls := findClass_of_methodNamed Bd.named
  have hnm := (name_of_methodNamed Bd.named Bd.method).1
  have hret := Bd.returns
  have hlocks : meth.locks = false := Bd.notSynchronized
  have X0 : Stand p l e ({ frames := 0, cells := 0, slots := 0, locals := 0 } : Room) s m #[.int x1, .int x2] below meth c s₁ [] 0 0 := Stand.of_body Bd
  have e0 : s₁.heap = h0 := by rw [← hh, Bd.state]; rfl
  have N0 := Fr.nil n0
  show Own.Go p e below (Own.End s (Q_icm Z x1 x2 h0 n0) 0 0) (s₁.setTop (entryFrame m #[.int x1, .int x2] 2))
  refine Own.Go.eq (ef_icm m x1 x2) ?_
  refine Own.g_iloadN X0 hx (hb hby d12_0) rfl 1 rfl ?_
  refine Own.g_iloadN X0 hx (hb hby d12_1) rfl 2 rfl ?_
  refine Own.g_icmp_ge X0 hx (hb hby d12_2) 9 5 (by decide) rfl ?_ ?_
  · intro hq1
    refine Own.g_iloadN X0 hx (hb hby d12_9) rfl 10 rfl ?_
    refine Own.g_iloadN X0 hx (hb hby d12_10) rfl 11 rfl ?_
    refine Own.g_icmp_ne X0 hx (hb hby d12_11) 18 14 (by decide) rfl ?_ ?_
    · intro hq2
      refine Own.g_iconst X0 hx (1 : Int32) (hb hby d12_18) rfl 19 rfl ?_
      refine Own.g_ret X0 hx hret hlocks rfl (Or.inl ⟨rfl, by simp, _, rfl⟩) (hb hby d12_19) (by decide) (by decide) e0 ?_
      exact ⟨by unfold Own.icmp; rw [if_neg hq1, if_neg hq2], N0, rfl⟩
    · intro hq2
      refine Own.g_iconst X0 hx (0 : Int32) (hb hby d12_14) rfl 15 rfl ?_
      refine Own.g_goto X0 hx (hb hby d12_15) 19 (by decide) ?_
      refine Own.g_ret X0 hx hret hlocks rfl (Or.inl ⟨rfl, by simp, _, rfl⟩) (hb hby d12_19) (by decide) (by decide) e0 ?_
      exact ⟨by unfold Own.icmp; rw [if_neg hq1, if_pos hq2], N0, rfl⟩
  · intro hq1
    refine Own.g_iconst X0 hx (-1 : Int32) (hb hby d12_5) rfl 6 rfl ?_
    refine Own.g_goto X0 hx (hb hby d12_6) 19 (by decide) ?_
    refine Own.g_ret X0 hx hret hlocks rfl (Or.inl ⟨rfl, by simp, _, rfl⟩) (hb hby d12_19) (by decide) (by decide) e0 ?_
    exact ⟨by unfold Own.icmp; rw [if_pos hq1], N0, rfl⟩
theorem ef_sgn (m : MethodId) (x0 : Int32) : entryFrame m #[.int x0] 1 = mkF m 0 #[.val (.int x0)] [] := by first | (simp [entryFrame, mkF, argsToLocals, Value.category]; done) | rfl
def Q_sgn (Z : State) (x1 : Int32) (h0 : Heap) (n0 : Nat) (v : Option Value) (h : Heap) (L : List Loc) : Prop := v = some (.int (Own.sgn x1)) ∧ Fr n0 L ∧ h = h0
set_option maxRecDepth 65536 in
set_option maxHeartbeats 40000000 in
theorem rm_sgn (l : Launch) (Z : State) (a0 : Array Value) (hw : ∀ d ∈ tables_1, d.before a0 Z = true) (ws : List Jvm.Cond) (x1 : Int32) (h0 : Heap) (n0 : Nat) (O : Old Z n0 h0)  :
    MetFree l (⟨"com/example/proximity/proximity/CodePointOrderComparePinLaw", "sign", "(I)I"⟩ : MethodName) (head1 (Jvm.Cond.code (⟨"com/example/proximity/proximity/CodePointOrderComparePinLaw", "sign", "(I)I"⟩ : MethodName) method_9_code 1 (some .int) :: ws) ({ frames := 0, cells := 0, slots := 0, locals := 0 } : Room)) (fun aa U => aa = #[.int x1] ∧ Z.Warmed39 U.vm ∧ U.heap = h0) (fun _ _ _ _ _ => True) (fun _ U o U' => Own.End U (Q_sgn Z x1 h0 n0) 0 0 o U') := by
  refine MetFree.of_bodySF (plainFor_of_name pn_2) hisR ?_
  intro p e s m args below meth c s₁ Bd hml0 hP hK
  obtain ⟨rfl, hZ, hh⟩ := hP
  have hx := Bd.exec
  have hby := Bd.bytes
  have hml : c.maxLocals = 1 := hml0
  have hown : s.vm.findClass "com/example/proximity/proximity/CodePointOrderComparePinLaw" = some m.cls := findClass_of_methodNamed Bd.named
  have hnm := (name_of_methodNamed Bd.named Bd.method).1
  have hret := Bd.returns
  have hlocks : meth.locks = false := Bd.notSynchronized
  have X0 : Stand p l e ({ frames := 0, cells := 0, slots := 0, locals := 0 } : Room) s m #[.int x1] below meth c s₁ [] 0 0 := Stand.of_body Bd
  have e0 : s₁.heap = h0 := by rw [← hh, Bd.state]; rfl
  have N0 := Fr.nil n0
  show Own.Go p e below (Own.End s (Q_sgn Z x1 h0 n0) 0 0) (s₁.setTop (entryFrame m #[.int x1] 1))
  refine Own.Go.eq (ef_sgn m x1) ?_
  refine Own.g_iloadN X0 hx (hb hby d13_0) rfl 1 rfl ?_
  refine Own.g_if_ge X0 hx (hb hby d13_1) 6 4 (by decide) rfl ?_ ?_
  · intro hq1
    refine Own.g_iloadN X0 hx (hb hby d13_6) rfl 7 rfl ?_
    refine Own.g_if_le X0 hx (hb hby d13_7) 12 10 (by decide) rfl ?_ ?_
    · intro hq2
      refine Own.g_iconst X0 hx (0 : Int32) (hb hby d13_12) rfl 13 rfl ?_
      refine Own.g_ret X0 hx hret hlocks rfl (Or.inl ⟨rfl, by simp, _, rfl⟩) (hb hby d13_13) (by decide) (by decide) e0 ?_
      exact ⟨by unfold Own.sgn; rw [if_neg hq1, if_neg hq2], N0, rfl⟩
    · intro hq2
      refine Own.g_iconst X0 hx (1 : Int32) (hb hby d13_10) rfl 11 rfl ?_
      refine Own.g_ret X0 hx hret hlocks rfl (Or.inl ⟨rfl, by simp, _, rfl⟩) (hb hby d13_11) (by decide) (by decide) e0 ?_
      exact ⟨by unfold Own.sgn; rw [if_neg hq1, if_pos hq2], N0, rfl⟩
  · intro hq1
    refine Own.g_iconst X0 hx (-1 : Int32) (hb hby d13_4) rfl 5 rfl ?_
    refine Own.g_ret X0 hx hret hlocks rfl (Or.inl ⟨rfl, by simp, _, rfl⟩) (hb hby d13_5) (by decide) (by decide) e0 ?_
    exact ⟨by unfold Own.sgn; rw [if_pos hq1], N0, rfl⟩
theorem ef_hgh (m : MethodId) (x0 : Int32) : entryFrame m #[.int x0] 1 = mkF m 0 #[.val (.int x0)] [] := by first | (simp [entryFrame, mkF, argsToLocals, Value.category]; done) | rfl
def Q_hgh (Z : State) (x1 : Int32) (h0 : Heap) (n0 : Nat) (v : Option Value) (h : Heap) (L : List Loc) : Prop := v = some (.int (if ¬ x1 < 55296 ∧ ¬ (56319 : Int32) < x1 then 1 else 0)) ∧ Fr n0 L ∧ h = h0
set_option maxRecDepth 65536 in
set_option maxHeartbeats 40000000 in
theorem rm_hgh (l : Launch) (Z : State) (a0 : Array Value) (hw : ∀ d ∈ tables_1, d.before a0 Z = true) (ws : List Jvm.Cond) (x1 : Int32) (h0 : Heap) (n0 : Nat) (O : Old Z n0 h0)  :
    MetFree l (⟨"com/example/proximity/proximity/CodePointOrderComparePinLaw", "high", "(C)Z"⟩ : MethodName) (head1 (Jvm.Cond.code (⟨"com/example/proximity/proximity/CodePointOrderComparePinLaw", "high", "(C)Z"⟩ : MethodName) method_5_code 1 (some .boolean) :: ws) ({ frames := 0, cells := 0, slots := 0, locals := 0 } : Room)) (fun aa U => aa = #[.int x1] ∧ Z.Warmed39 U.vm ∧ U.heap = h0) (fun _ _ _ _ _ => True) (fun _ U o U' => Own.End U (Q_hgh Z x1 h0 n0) 0 0 o U') := by
  refine MetFree.of_bodySF (plainFor_of_name pn_2) hisR ?_
  intro p e s m args below meth c s₁ Bd hml0 hP hK
  obtain ⟨rfl, hZ, hh⟩ := hP
  have hx := Bd.exec
  have hby := Bd.bytes
  have hml : c.maxLocals = 1 := hml0
  have hown : s.vm.findClass "com/example/proximity/proximity/CodePointOrderComparePinLaw" = some m.cls := findClass_of_methodNamed Bd.named
  have hnm := (name_of_methodNamed Bd.named Bd.method).1
  have hret := Bd.returns
  have hlocks : meth.locks = false := Bd.notSynchronized
  have X0 : Stand p l e ({ frames := 0, cells := 0, slots := 0, locals := 0 } : Room) s m #[.int x1] below meth c s₁ [] 0 0 := Stand.of_body Bd
  have e0 : s₁.heap = h0 := by rw [← hh, Bd.state]; rfl
  have N0 := Fr.nil n0
  show Own.Go p e below (Own.End s (Q_hgh Z x1 h0 n0) 0 0) (s₁.setTop (entryFrame m #[.int x1] 1))
  refine Own.Go.eq (ef_hgh m x1) ?_
  refine Own.g_iloadN X0 hx (hb hby d22_0) rfl 1 rfl ?_
  refine Own.g_ldcI X0 hx hown (mvT hZ (hw _ (List.mem_of_getElem? (i := 4) rfl))) (hb hby d22_1) 3 rfl ?_
  refine Own.g_icmp_lt X0 hx (hb hby d22_3) 16 6 (by decide) rfl ?_ ?_
  · intro hq1
    refine Own.g_iconst X0 hx (0 : Int32) (hb hby d22_16) rfl 17 rfl ?_
    refine Own.g_ret X0 hx hret hlocks rfl (Or.inl ⟨rfl, by simp, _, rfl⟩) (hb hby d22_17) (by decide) (by decide) e0 ?_
    exact ⟨by rw [if_neg (fun q => q.1 hq1)], N0, rfl⟩
  · intro hq1
    refine Own.g_iloadN X0 hx (hb hby d22_6) rfl 7 rfl ?_
    refine Own.g_ldcI X0 hx hown (mvT hZ (hw _ (List.mem_of_getElem? (i := 96) rfl))) (hb hby d22_7) 9 rfl ?_
    refine Own.g_icmp_gt X0 hx (hb hby d22_9) 16 12 (by decide) rfl ?_ ?_
    · intro hq2
      refine Own.g_iconst X0 hx (0 : Int32) (hb hby d22_16) rfl 17 rfl ?_
      refine Own.g_ret X0 hx hret hlocks rfl (Or.inl ⟨rfl, by simp, _, rfl⟩) (hb hby d22_17) (by decide) (by decide) e0 ?_
      exact ⟨by rw [if_neg (fun q => q.2 hq2)], N0, rfl⟩
    · intro hq2
      refine Own.g_iconst X0 hx (1 : Int32) (hb hby d22_12) rfl 13 rfl ?_
      refine Own.g_goto X0 hx (hb hby d22_13) 17 (by decide) ?_
      refine Own.g_ret X0 hx hret hlocks rfl (Or.inl ⟨rfl, by simp, _, rfl⟩) (hb hby d22_17) (by decide) (by decide) e0 ?_
      exact ⟨by rw [if_pos ⟨hq1, hq2⟩], N0, rfl⟩
theorem ef_low (m : MethodId) (x0 : Int32) : entryFrame m #[.int x0] 1 = mkF m 0 #[.val (.int x0)] [] := by first | (simp [entryFrame, mkF, argsToLocals, Value.category]; done) | rfl
def Q_low (Z : State) (x1 : Int32) (h0 : Heap) (n0 : Nat) (v : Option Value) (h : Heap) (L : List Loc) : Prop := v = some (.int (if ¬ x1 < 56320 ∧ ¬ (57343 : Int32) < x1 then 1 else 0)) ∧ Fr n0 L ∧ h = h0
set_option maxRecDepth 65536 in
set_option maxHeartbeats 40000000 in
theorem rm_low (l : Launch) (Z : State) (a0 : Array Value) (hw : ∀ d ∈ tables_1, d.before a0 Z = true) (ws : List Jvm.Cond) (x1 : Int32) (h0 : Heap) (n0 : Nat) (O : Old Z n0 h0)  :
    MetFree l (⟨"com/example/proximity/proximity/CodePointOrderComparePinLaw", "low", "(C)Z"⟩ : MethodName) (head1 (Jvm.Cond.code (⟨"com/example/proximity/proximity/CodePointOrderComparePinLaw", "low", "(C)Z"⟩ : MethodName) method_6_code 1 (some .boolean) :: ws) ({ frames := 0, cells := 0, slots := 0, locals := 0 } : Room)) (fun aa U => aa = #[.int x1] ∧ Z.Warmed39 U.vm ∧ U.heap = h0) (fun _ _ _ _ _ => True) (fun _ U o U' => Own.End U (Q_low Z x1 h0 n0) 0 0 o U') := by
  refine MetFree.of_bodySF (plainFor_of_name pn_2) hisR ?_
  intro p e s m args below meth c s₁ Bd hml0 hP hK
  obtain ⟨rfl, hZ, hh⟩ := hP
  have hx := Bd.exec
  have hby := Bd.bytes
  have hml : c.maxLocals = 1 := hml0
  have hown : s.vm.findClass "com/example/proximity/proximity/CodePointOrderComparePinLaw" = some m.cls := findClass_of_methodNamed Bd.named
  have hnm := (name_of_methodNamed Bd.named Bd.method).1
  have hret := Bd.returns
  have hlocks : meth.locks = false := Bd.notSynchronized
  have X0 : Stand p l e ({ frames := 0, cells := 0, slots := 0, locals := 0 } : Room) s m #[.int x1] below meth c s₁ [] 0 0 := Stand.of_body Bd
  have e0 : s₁.heap = h0 := by rw [← hh, Bd.state]; rfl
  have N0 := Fr.nil n0
  show Own.Go p e below (Own.End s (Q_low Z x1 h0 n0) 0 0) (s₁.setTop (entryFrame m #[.int x1] 1))
  refine Own.Go.eq (ef_low m x1) ?_
  refine Own.g_iloadN X0 hx (hb hby d23_0) rfl 1 rfl ?_
  refine Own.g_ldcI X0 hx hown (mvT hZ (hw _ (List.mem_of_getElem? (i := 100) rfl))) (hb hby d23_1) 3 rfl ?_
  refine Own.g_icmp_lt X0 hx (hb hby d23_3) 16 6 (by decide) rfl ?_ ?_
  · intro hq1
    refine Own.g_iconst X0 hx (0 : Int32) (hb hby d23_16) rfl 17 rfl ?_
    refine Own.g_ret X0 hx hret hlocks rfl (Or.inl ⟨rfl, by simp, _, rfl⟩) (hb hby d23_17) (by decide) (by decide) e0 ?_
    exact ⟨by rw [if_neg (fun q => q.1 hq1)], N0, rfl⟩
  · intro hq1
    refine Own.g_iloadN X0 hx (hb hby d23_6) rfl 7 rfl ?_
    refine Own.g_ldcI X0 hx hown (mvT hZ (hw _ (List.mem_of_getElem? (i := 102) rfl))) (hb hby d23_7) 9 rfl ?_
    refine Own.g_icmp_gt X0 hx (hb hby d23_9) 16 12 (by decide) rfl ?_ ?_
    · intro hq2
      refine Own.g_iconst X0 hx (0 : Int32) (hb hby d23_16) rfl 17 rfl ?_
      refine Own.g_ret X0 hx hret hlocks rfl (Or.inl ⟨rfl, by simp, _, rfl⟩) (hb hby d23_17) (by decide) (by decide) e0 ?_
      exact ⟨by rw [if_neg (fun q => q.2 hq2)], N0, rfl⟩
    · intro hq2
      refine Own.g_iconst X0 hx (1 : Int32) (hb hby d23_12) rfl 13 rfl ?_
      refine Own.g_goto X0 hx (hb hby d23_13) 17 (by decide) ?_
      refine Own.g_ret X0 hx hret hlocks rfl (Or.inl ⟨rfl, by simp, _, rfl⟩) (hb hby d23_17) (by decide) (by decide) e0 ?_
      exact ⟨by rw [if_pos ⟨hq1, hq2⟩], N0, rfl⟩
theorem ef_hsu (m : MethodId) (x0 : Int32) : entryFrame m #[.int x0] 1 = mkF m 0 #[.val (.int x0)] [] := by first | (simp [entryFrame, mkF, argsToLocals, Value.category]; done) | rfl
def Q_hsu (Z : State) (x1 : Int32) (h0 : Heap) (n0 : Nat) (v : Option Value) (h : Heap) (L : List Loc) : Prop := v = some (.int (if ¬ x1 < 55296 ∧ x1 < 56320 then 1 else 0)) ∧ Fr n0 L ∧ h = h0
set_option maxRecDepth 65536 in
set_option maxHeartbeats 40000000 in
theorem rm_hsu (l : Launch) (Z : State) (a0 : Array Value) (hw : ∀ d ∈ tables_1, d.before a0 Z = true) (ws : List Jvm.Cond) (x1 : Int32) (h0 : Heap) (n0 : Nat) (O : Old Z n0 h0)  :
    MetFree l (⟨"java/lang/Character", "isHighSurrogate", "(C)Z"⟩ : MethodName) (head1 (Jvm.Cond.code (⟨"java/lang/Character", "isHighSurrogate", "(C)Z"⟩ : MethodName) jdk_89_method_14_code 1 (some .boolean) :: ws) ({ frames := 0, cells := 0, slots := 0, locals := 0 } : Room)) (fun aa U => aa = #[.int x1] ∧ Z.Warmed39 U.vm ∧ U.heap = h0) (fun _ _ _ _ _ => True) (fun _ U o U' => Own.End U (Q_hsu Z x1 h0 n0) 0 0 o U') := by
  refine MetFree.of_bodySF (plainFor_of_name pn_3) hisR ?_
  intro p e s m args below meth c s₁ Bd hml0 hP hK
  obtain ⟨rfl, hZ, hh⟩ := hP
  have hx := Bd.exec
  have hby := Bd.bytes
  have hml : c.maxLocals = 1 := hml0
  have hown : s.vm.findClass "java/lang/Character" = some m.cls := findClass_of_methodNamed Bd.named
  have hnm := (name_of_methodNamed Bd.named Bd.method).1
  have hret := Bd.returns
  have hlocks : meth.locks = false := Bd.notSynchronized
  have X0 : Stand p l e ({ frames := 0, cells := 0, slots := 0, locals := 0 } : Room) s m #[.int x1] below meth c s₁ [] 0 0 := Stand.of_body Bd
  have e0 : s₁.heap = h0 := by rw [← hh, Bd.state]; rfl
  have N0 := Fr.nil n0
  show Own.Go p e below (Own.End s (Q_hsu Z x1 h0 n0) 0 0) (s₁.setTop (entryFrame m #[.int x1] 1))
  refine Own.Go.eq (ef_hsu m x1) ?_
  refine Own.g_iloadN X0 hx (hb hby d30_0) rfl 1 rfl ?_
  refine Own.g_ldcI X0 hx hown (mvT hZ (hw _ (List.mem_of_getElem? (i := 132) rfl))) (hb hby d30_1) 3 rfl ?_
  refine Own.g_icmp_lt X0 hx (hb hby d30_3) 16 6 (by decide) rfl ?_ ?_
  · intro hq1
    refine Own.g_iconst X0 hx (0 : Int32) (hb hby d30_16) rfl 17 rfl ?_
    refine Own.g_ret X0 hx hret hlocks rfl (Or.inl ⟨rfl, by simp, _, rfl⟩) (hb hby d30_17) (by decide) (by decide) e0 ?_
    exact ⟨by rw [if_neg (fun q => q.1 hq1)], N0, rfl⟩
  · intro hq1
    refine Own.g_iloadN X0 hx (hb hby d30_6) rfl 7 rfl ?_
    refine Own.g_ldcI X0 hx hown (mvT hZ (hw _ (List.mem_of_getElem? (i := 133) rfl))) (hb hby d30_7) 9 rfl ?_
    refine Own.g_icmp_ge X0 hx (hb hby d30_9) 16 12 (by decide) rfl ?_ ?_
    · intro hq2
      refine Own.g_iconst X0 hx (0 : Int32) (hb hby d30_16) rfl 17 rfl ?_
      refine Own.g_ret X0 hx hret hlocks rfl (Or.inl ⟨rfl, by simp, _, rfl⟩) (hb hby d30_17) (by decide) (by decide) e0 ?_
      exact ⟨by rw [if_neg (fun q => hq2 q.2)], N0, rfl⟩
    · intro hq2
      refine Own.g_iconst X0 hx (1 : Int32) (hb hby d30_12) rfl 13 rfl ?_
      refine Own.g_goto X0 hx (hb hby d30_13) 17 (by decide) ?_
      refine Own.g_ret X0 hx hret hlocks rfl (Or.inl ⟨rfl, by simp, _, rfl⟩) (hb hby d30_17) (by decide) (by decide) e0 ?_
      exact ⟨by rw [if_pos ⟨hq1, hq2⟩], N0, rfl⟩
theorem ef_lsu (m : MethodId) (x0 : Int32) : entryFrame m #[.int x0] 1 = mkF m 0 #[.val (.int x0)] [] := by first | (simp [entryFrame, mkF, argsToLocals, Value.category]; done) | rfl
def Q_lsu (Z : State) (x1 : Int32) (h0 : Heap) (n0 : Nat) (v : Option Value) (h : Heap) (L : List Loc) : Prop := v = some (.int (if ¬ x1 < 56320 ∧ x1 < 57344 then 1 else 0)) ∧ Fr n0 L ∧ h = h0
set_option maxRecDepth 65536 in
set_option maxHeartbeats 40000000 in
theorem rm_lsu (l : Launch) (Z : State) (a0 : Array Value) (hw : ∀ d ∈ tables_1, d.before a0 Z = true) (ws : List Jvm.Cond) (x1 : Int32) (h0 : Heap) (n0 : Nat) (O : Old Z n0 h0)  :
    MetFree l (⟨"java/lang/Character", "isLowSurrogate", "(C)Z"⟩ : MethodName) (head1 (Jvm.Cond.code (⟨"java/lang/Character", "isLowSurrogate", "(C)Z"⟩ : MethodName) jdk_89_method_15_code 1 (some .boolean) :: ws) ({ frames := 0, cells := 0, slots := 0, locals := 0 } : Room)) (fun aa U => aa = #[.int x1] ∧ Z.Warmed39 U.vm ∧ U.heap = h0) (fun _ _ _ _ _ => True) (fun _ U o U' => Own.End U (Q_lsu Z x1 h0 n0) 0 0 o U') := by
  refine MetFree.of_bodySF (plainFor_of_name pn_3) hisR ?_
  intro p e s m args below meth c s₁ Bd hml0 hP hK
  obtain ⟨rfl, hZ, hh⟩ := hP
  have hx := Bd.exec
  have hby := Bd.bytes
  have hml : c.maxLocals = 1 := hml0
  have hown : s.vm.findClass "java/lang/Character" = some m.cls := findClass_of_methodNamed Bd.named
  have hnm := (name_of_methodNamed Bd.named Bd.method).1
  have hret := Bd.returns
  have hlocks : meth.locks = false := Bd.notSynchronized
  have X0 : Stand p l e ({ frames := 0, cells := 0, slots := 0, locals := 0 } : Room) s m #[.int x1] below meth c s₁ [] 0 0 := Stand.of_body Bd
  have e0 : s₁.heap = h0 := by rw [← hh, Bd.state]; rfl
  have N0 := Fr.nil n0
  show Own.Go p e below (Own.End s (Q_lsu Z x1 h0 n0) 0 0) (s₁.setTop (entryFrame m #[.int x1] 1))
  refine Own.Go.eq (ef_lsu m x1) ?_
  refine Own.g_iloadN X0 hx (hb hby d31_0) rfl 1 rfl ?_
  refine Own.g_ldcI X0 hx hown (mvT hZ (hw _ (List.mem_of_getElem? (i := 133) rfl))) (hb hby d31_1) 3 rfl ?_
  refine Own.g_icmp_lt X0 hx (hb hby d31_3) 16 6 (by decide) rfl ?_ ?_
  · intro hq1
    refine Own.g_iconst X0 hx (0 : Int32) (hb hby d31_16) rfl 17 rfl ?_
    refine Own.g_ret X0 hx hret hlocks rfl (Or.inl ⟨rfl, by simp, _, rfl⟩) (hb hby d31_17) (by decide) (by decide) e0 ?_
    exact ⟨by rw [if_neg (fun q => q.1 hq1)], N0, rfl⟩
  · intro hq1
    refine Own.g_iloadN X0 hx (hb hby d31_6) rfl 7 rfl ?_
    refine Own.g_ldcI X0 hx hown (mvT hZ (hw _ (List.mem_of_getElem? (i := 137) rfl))) (hb hby d31_7) 9 rfl ?_
    refine Own.g_icmp_ge X0 hx (hb hby d31_9) 16 12 (by decide) rfl ?_ ?_
    · intro hq2
      refine Own.g_iconst X0 hx (0 : Int32) (hb hby d31_16) rfl 17 rfl ?_
      refine Own.g_ret X0 hx hret hlocks rfl (Or.inl ⟨rfl, by simp, _, rfl⟩) (hb hby d31_17) (by decide) (by decide) e0 ?_
      exact ⟨by rw [if_neg (fun q => hq2 q.2)], N0, rfl⟩
    · intro hq2
      refine Own.g_iconst X0 hx (1 : Int32) (hb hby d31_12) rfl 13 rfl ?_
      refine Own.g_goto X0 hx (hb hby d31_13) 17 (by decide) ?_
      refine Own.g_ret X0 hx hret hlocks rfl (Or.inl ⟨rfl, by simp, _, rfl⟩) (hb hby d31_17) (by decide) (by decide) e0 ?_
      exact ⟨by rw [if_pos ⟨hq1, hq2⟩], N0, rfl⟩
theorem ef_tcp (m : MethodId) (x0 : Int32) (x1 : Int32) : entryFrame m #[.int x0, .int x1] 2 = mkF m 0 #[.val (.int x0), .val (.int x1)] [] := by first | (simp [entryFrame, mkF, argsToLocals, Value.category]; done) | rfl
def Q_tcp (Z : State) (x1 : Int32) (x2 : Int32) (h0 : Heap) (n0 : Nat) (v : Option Value) (h : Heap) (L : List Loc) : Prop := v = some (.int (Own.cpy x1 x2)) ∧ Fr n0 L ∧ h = h0
set_option maxRecDepth 65536 in
set_option maxHeartbeats 40000000 in
theorem rm_tcp (l : Launch) (Z : State) (a0 : Array Value) (hw : ∀ d ∈ tables_1, d.before a0 Z = true) (ws : List Jvm.Cond) (x1 : Int32) (x2 : Int32) (h0 : Heap) (n0 : Nat) (O : Old Z n0 h0)  :
    MetFree l (⟨"java/lang/Character", "toCodePoint", "(CC)I"⟩ : MethodName) (head1 (Jvm.Cond.code (⟨"java/lang/Character", "toCodePoint", "(CC)I"⟩ : MethodName) jdk_89_method_19_code 2 (some .int) :: ws) ({ frames := 0, cells := 0, slots := 0, locals := 0 } : Room)) (fun aa U => aa = #[.int x1, .int x2] ∧ Z.Warmed39 U.vm ∧ U.heap = h0) (fun _ _ _ _ _ => True) (fun _ U o U' => Own.End U (Q_tcp Z x1 x2 h0 n0) 0 0 o U') := by
  refine MetFree.of_bodySF (plainFor_of_name pn_3) hisR ?_
  intro p e s m args below meth c s₁ Bd hml0 hP hK
  obtain ⟨rfl, hZ, hh⟩ := hP
  have hx := Bd.exec
  have hby := Bd.bytes
  have hml : c.maxLocals = 2 := hml0
  have hown : s.vm.findClass "java/lang/Character" = some m.cls := findClass_of_methodNamed Bd.named
  have hnm := (name_of_methodNamed Bd.named Bd.method).1
  have hret := Bd.returns
  have hlocks : meth.locks = false := Bd.notSynchronized
  have X0 : Stand p l e ({ frames := 0, cells := 0, slots := 0, locals := 0 } : Room) s m #[.int x1, .int x2] below meth c s₁ [] 0 0 := Stand.of_body Bd
  have e0 : s₁.heap = h0 := by rw [← hh, Bd.state]; rfl
  have N0 := Fr.nil n0
  show Own.Go p e below (Own.End s (Q_tcp Z x1 x2 h0 n0) 0 0) (s₁.setTop (entryFrame m #[.int x1, .int x2] 2))
  refine Own.Go.eq (ef_tcp m x1 x2) ?_
  refine Own.g_iloadN X0 hx (hb hby d32_0) rfl 1 rfl ?_
  refine Own.g_bipush X0 hx (10 : Int32) (hb hby d32_1) rfl 3 rfl ?_
  refine Own.g_ishl X0 hx (hb hby d32_3) 4 rfl ?_
  refine Own.g_iloadN X0 hx (hb hby d32_4) rfl 5 rfl ?_
  refine Own.g_iadd X0 hx (hb hby d32_5) 6 rfl ?_
  refine Own.g_ldcI X0 hx hown (mvT hZ (hw _ (List.mem_of_getElem? (i := 141) rfl))) (hb hby d32_6) 8 rfl ?_
  refine Own.g_iadd X0 hx (hb hby d32_8) 9 rfl ?_
  refine Own.g_ret X0 hx hret hlocks rfl (Or.inl ⟨rfl, by simp, _, rfl⟩) (hb hby d32_9) (by decide) (by decide) e0 ?_
  exact ⟨rfl, N0, rfl⟩
theorem ef_chc (m : MethodId) (x0 : Int32) : entryFrame m #[.int x0] 1 = mkF m 0 #[.val (.int x0)] [] := by first | (simp [entryFrame, mkF, argsToLocals, Value.category]; done) | rfl
def Q_chc (Z : State) (x1 : Int32) (h0 : Heap) (n0 : Nat) (v : Option Value) (h : Heap) (L : List Loc) : Prop := v = some (.int (if x1 < 65536 then 1 else 2)) ∧ Fr n0 L ∧ h = h0
set_option maxRecDepth 65536 in
set_option maxHeartbeats 40000000 in
theorem rm_chc (l : Launch) (Z : State) (a0 : Array Value) (hw : ∀ d ∈ tables_1, d.before a0 Z = true) (ws : List Jvm.Cond) (x1 : Int32) (h0 : Heap) (n0 : Nat) (O : Old Z n0 h0)  :
    MetFree l (⟨"java/lang/Character", "charCount", "(I)I"⟩ : MethodName) (head1 (Jvm.Cond.code (⟨"java/lang/Character", "charCount", "(I)I"⟩ : MethodName) jdk_89_method_18_code 1 (some .int) :: ws) ({ frames := 0, cells := 0, slots := 0, locals := 0 } : Room)) (fun aa U => aa = #[.int x1] ∧ Z.Warmed39 U.vm ∧ U.heap = h0) (fun _ _ _ _ _ => True) (fun _ U o U' => Own.End U (Q_chc Z x1 h0 n0) 0 0 o U') := by
  refine MetFree.of_bodySF (plainFor_of_name pn_3) hisR ?_
  intro p e s m args below meth c s₁ Bd hml0 hP hK
  obtain ⟨rfl, hZ, hh⟩ := hP
  have hx := Bd.exec
  have hby := Bd.bytes
  have hml : c.maxLocals = 1 := hml0
  have hown : s.vm.findClass "java/lang/Character" = some m.cls := findClass_of_methodNamed Bd.named
  have hnm := (name_of_methodNamed Bd.named Bd.method).1
  have hret := Bd.returns
  have hlocks : meth.locks = false := Bd.notSynchronized
  have X0 : Stand p l e ({ frames := 0, cells := 0, slots := 0, locals := 0 } : Room) s m #[.int x1] below meth c s₁ [] 0 0 := Stand.of_body Bd
  have e0 : s₁.heap = h0 := by rw [← hh, Bd.state]; rfl
  have N0 := Fr.nil n0
  show Own.Go p e below (Own.End s (Q_chc Z x1 h0 n0) 0 0) (s₁.setTop (entryFrame m #[.int x1] 1))
  refine Own.Go.eq (ef_chc m x1) ?_
  refine Own.g_iloadN X0 hx (hb hby d33_0) rfl 1 rfl ?_
  refine Own.g_ldcI X0 hx hown (mvT hZ (hw _ (List.mem_of_getElem? (i := 145) rfl))) (hb hby d33_1) 3 rfl ?_
  refine Own.g_icmp_lt X0 hx (hb hby d33_3) 10 6 (by decide) rfl ?_ ?_
  · intro hq1
    refine Own.g_iconst X0 hx (1 : Int32) (hb hby d33_10) rfl 11 rfl ?_
    refine Own.g_ret X0 hx hret hlocks rfl (Or.inl ⟨rfl, by simp, _, rfl⟩) (hb hby d33_11) (by decide) (by decide) e0 ?_
    exact ⟨by rw [if_pos hq1], N0, rfl⟩
  · intro hq1
    refine Own.g_iconst X0 hx (2 : Int32) (hb hby d33_6) rfl 7 rfl ?_
    refine Own.g_goto X0 hx (hb hby d33_7) 11 (by decide) ?_
    refine Own.g_ret X0 hx hret hlocks rfl (Or.inl ⟨rfl, by simp, _, rfl⟩) (hb hby d33_11) (by decide) (by decide) e0 ?_
    exact ⟨by rw [if_neg hq1], N0, rfl⟩
theorem ef_drw (m : MethodId) (x0 : Int32) : entryFrame m #[.int x0] 2 = mkF m 0 #[.val (.int x0), .unset] [] := by first | (simp [entryFrame, mkF, argsToLocals, Value.category]; done) | rfl
def Q_drw (Z : State) (x1 : Int32) (h0 : Heap) (n0 : Nat) (v : Option Value) (h : Heap) (L : List Loc) : Prop := ∃ r : Int32, v = some (.int r) ∧ Own.Ch r ∧ Fr n0 L ∧ h = h0
set_option maxRecDepth 65536 in
set_option maxHeartbeats 40000000 in
theorem rm_drw (l : Launch) (Z : State) (a0 : Array Value) (hw : ∀ d ∈ tables_1, d.before a0 Z = true) (ws : List Jvm.Cond) (x1 : Int32) (h0 : Heap) (n0 : Nat) (O : Old Z n0 h0)  :
    MetFree l (⟨"com/example/proximity/proximity/CodePointOrderComparePinLaw", "drawn", "(I)C"⟩ : MethodName) (head1 (Jvm.Cond.code (⟨"com/example/proximity/proximity/CodePointOrderComparePinLaw", "drawn", "(I)C"⟩ : MethodName) method_3_code 2 (some .char) :: ws) ({ frames := 0, cells := 0, slots := 0, locals := 0 } : Room)) (fun aa U => aa = #[.int x1] ∧ Z.Warmed39 U.vm ∧ U.heap = h0) (fun _ _ _ _ _ => True) (fun _ U o U' => Own.End U (Q_drw Z x1 h0 n0) 0 0 o U') := by
  refine MetFree.of_bodySF (plainFor_of_name pn_2) hisR ?_
  intro p e s m args below meth c s₁ Bd hml0 hP hK
  obtain ⟨rfl, hZ, hh⟩ := hP
  have hx := Bd.exec
  have hby := Bd.bytes
  have hml : c.maxLocals = 2 := hml0
  have hown : s.vm.findClass "com/example/proximity/proximity/CodePointOrderComparePinLaw" = some m.cls := findClass_of_methodNamed Bd.named
  have hnm := (name_of_methodNamed Bd.named Bd.method).1
  have hret := Bd.returns
  have hlocks : meth.locks = false := Bd.notSynchronized
  have X0 : Stand p l e ({ frames := 0, cells := 0, slots := 0, locals := 0 } : Room) s m #[.int x1] below meth c s₁ [] 0 0 := Stand.of_body Bd
  have e0 : s₁.heap = h0 := by rw [← hh, Bd.state]; rfl
  have N0 := Fr.nil n0
  show Own.Go p e below (Own.End s (Q_drw Z x1 h0 n0) 0 0) (s₁.setTop (entryFrame m #[.int x1] 2))
  refine Own.Go.eq (ef_drw m x1) ?_
  refine Own.g_iloadN X0 hx (hb hby d1_0) rfl 1 rfl ?_
  refine Own.g_bipush X0 hx (16 : Int32) (hb hby d1_1) rfl 3 rfl ?_
  refine Own.g_iushr X0 hx (hb hby d1_3) 4 rfl ?_
  refine Own.g_iconst X0 hx (3 : Int32) (hb hby d1_4) rfl 5 rfl ?_
  refine Own.g_iand X0 hx (hb hby d1_5) 6 rfl ?_
  refine Own.g_istoreN X0 hx #[.val (.int x1), .val (.int (((x1.toUInt32 >>> ((16 : Int32) &&& 31).toUInt32).toInt32) &&& (3 : Int32)))] (hb hby d1_6) rfl 7 rfl ?_
  obtain ⟨kk, hkk⟩ : ∃ z : Int32, z = (((x1.toUInt32 >>> ((16 : Int32) &&& 31).toUInt32).toInt32) &&& (3 : Int32)) := ⟨_, rfl⟩
  rw [← hkk]
  refine Own.g_iloadN X0 hx (hb hby d1_7) rfl 8 rfl ?_
  refine Own.g_if_ne X0 hx (hb hby d1_8) 21 11 (by decide) rfl ?_ ?_
  · intro hq1
    refine Own.g_iloadN X0 hx (hb hby d1_21) rfl 22 rfl ?_
    refine Own.g_iconst X0 hx (1 : Int32) (hb hby d1_22) rfl 23 rfl ?_
    refine Own.g_icmp_ne X0 hx (hb hby d1_23) 36 26 (by decide) rfl ?_ ?_
    · intro hq2
      refine Own.g_iloadN X0 hx (hb hby d1_36) rfl 37 rfl ?_
      refine Own.g_ldcI X0 hx hown (mvT hZ (hw _ (List.mem_of_getElem? (i := 101) rfl))) (hb hby d1_37) 39 rfl ?_
      refine Own.g_iand X0 hx (hb hby d1_39) 40 rfl ?_
      refine Own.g_i2c X0 hx (hb hby d1_40) 41 rfl ?_
      refine Own.g_ret X0 hx hret hlocks (Own.narrow_ch (Own.i2c_Ch _)) (Or.inl ⟨rfl, by simp, _, rfl⟩) (hb hby d1_41) (by decide) (by decide) e0 ?_
      exact ⟨_, rfl, Own.i2c_Ch _, N0, rfl⟩
    · intro hq2
      refine Own.g_ldcI X0 hx hown (mvT hZ (hw _ (List.mem_of_getElem? (i := 100) rfl))) (hb hby d1_26) 28 rfl ?_
      refine Own.g_iloadN X0 hx (hb hby d1_28) rfl 29 rfl ?_
      refine Own.g_sipush X0 hx (1023 : Int32) (hb hby d1_29) rfl 32 rfl ?_
      refine Own.g_iand X0 hx (hb hby d1_32) 33 rfl ?_
      refine Own.g_ior X0 hx (hb hby d1_33) 34 rfl ?_
      refine Own.g_i2c X0 hx (hb hby d1_34) 35 rfl ?_
      refine Own.g_ret X0 hx hret hlocks (Own.narrow_ch (Own.i2c_Ch _)) (Or.inl ⟨rfl, by simp, _, rfl⟩) (hb hby d1_35) (by decide) (by decide) e0 ?_
      exact ⟨_, rfl, Own.i2c_Ch _, N0, rfl⟩
  · intro hq1
    refine Own.g_ldcI X0 hx hown (mvT hZ (hw _ (List.mem_of_getElem? (i := 4) rfl))) (hb hby d1_11) 13 rfl ?_
    refine Own.g_iloadN X0 hx (hb hby d1_13) rfl 14 rfl ?_
    refine Own.g_sipush X0 hx (1023 : Int32) (hb hby d1_14) rfl 17 rfl ?_
    refine Own.g_iand X0 hx (hb hby d1_17) 18 rfl ?_
    refine Own.g_ior X0 hx (hb hby d1_18) 19 rfl ?_
    refine Own.g_i2c X0 hx (hb hby d1_19) 20 rfl ?_
    refine Own.g_ret X0 hx hret hlocks (Own.narrow_ch (Own.i2c_Ch _)) (Or.inl ⟨rfl, by simp, _, rfl⟩) (hb hby d1_20) (by decide) (by decide) e0 ?_
    exact ⟨_, rfl, Own.i2c_Ch _, N0, rfl⟩
theorem ef_pciN (m : MethodId) (x0 : Int32) (x1 : Int32) : entryFrame m #[.int x0, .int x1, .null] 3 = mkF m 0 #[.val (.int x0), .val (.int x1), .val .null] [] := by first | (simp [entryFrame, mkF, argsToLocals, Value.category]; done) | rfl
def Q_pciN (Z : State) (x1 : Int32) (x2 : Int32) (h0 : Heap) (n0 : Nat) (v : Option Value) (h : Heap) (L : List Loc) : Prop := v = some (.int x1) ∧ Fr n0 L ∧ h = h0
set_option maxRecDepth 65536 in
set_option maxHeartbeats 40000000 in
theorem rm_pciN (l : Launch) (Z : State) (a0 : Array Value) (hw : ∀ d ∈ tables_1, d.before a0 Z = true) (ws : List Jvm.Cond) (x1 : Int32) (x2 : Int32) (h0 : Heap) (n0 : Nat) (O : Old Z n0 h0) (hq1 : ¬ x1 < 0) (hq2 : x1 < x2) :
    MetFree l (⟨"jdk/internal/util/Preconditions", "checkIndex", "(IILjava/util/function/BiFunction;)I"⟩ : MethodName) (head1 (Jvm.Cond.code (⟨"jdk/internal/util/Preconditions", "checkIndex", "(IILjava/util/function/BiFunction;)I"⟩ : MethodName) jdk_41_method_11_code 3 (some .int) :: ws) ({ frames := 0, cells := 0, slots := 0, locals := 0 } : Room)) (fun aa U => aa = #[.int x1, .int x2, .null] ∧ Z.Warmed39 U.vm ∧ U.heap = h0) (fun _ _ _ _ _ => True) (fun _ U o U' => Own.End U (Q_pciN Z x1 x2 h0 n0) 0 0 o U') := by
  refine MetFree.of_bodySF (plainFor_of_name pn_4) hisR ?_
  intro p e s m args below meth c s₁ Bd hml0 hP hK
  obtain ⟨rfl, hZ, hh⟩ := hP
  have hx := Bd.exec
  have hby := Bd.bytes
  have hml : c.maxLocals = 3 := hml0
  have hown : s.vm.findClass "jdk/internal/util/Preconditions" = some m.cls := findClass_of_methodNamed Bd.named
  have hnm := (name_of_methodNamed Bd.named Bd.method).1
  have hret := Bd.returns
  have hlocks : meth.locks = false := Bd.notSynchronized
  have X0 : Stand p l e ({ frames := 0, cells := 0, slots := 0, locals := 0 } : Room) s m #[.int x1, .int x2, .null] below meth c s₁ [] 0 0 := Stand.of_body Bd
  have e0 : s₁.heap = h0 := by rw [← hh, Bd.state]; rfl
  have N0 := Fr.nil n0
  show Own.Go p e below (Own.End s (Q_pciN Z x1 x2 h0 n0) 0 0) (s₁.setTop (entryFrame m #[.int x1, .int x2, .null] 3))
  refine Own.Go.eq (ef_pciN m x1 x2) ?_
  refine Own.g_iloadN X0 hx (hb hby d27_0) rfl 1 rfl ?_
  refine Own.g_if_lt_f X0 hx (hb hby d27_1) hq1 4 rfl ?_
  refine Own.g_iloadN X0 hx (hb hby d27_4) rfl 5 rfl ?_
  refine Own.g_iloadN X0 hx (hb hby d27_5) rfl 6 rfl ?_
  refine Own.g_icmp_lt_t X0 hx (hb hby d27_6) hq2 16 (by decide) ?_
  refine Own.g_iloadN X0 hx (hb hby d27_16) rfl 17 rfl ?_
  refine Own.g_ret X0 hx hret hlocks rfl (Or.inl ⟨rfl, by simp, _, rfl⟩) (hb hby d27_17) (by decide) (by decide) e0 ?_
  exact ⟨rfl, N0, rfl⟩
theorem ef_pciR (m : MethodId) (x0 : Int32) (x1 : Int32) (x2 : Addr) : entryFrame m #[.int x0, .int x1, .ref x2] 3 = mkF m 0 #[.val (.int x0), .val (.int x1), .val (.ref x2)] [] := by first | (simp [entryFrame, mkF, argsToLocals, Value.category]; done) | rfl
def Q_pciR (Z : State) (x1 : Int32) (x2 : Int32) (gr : Addr) (h0 : Heap) (n0 : Nat) (v : Option Value) (h : Heap) (L : List Loc) : Prop := v = some (.int x1) ∧ Fr n0 L ∧ h = h0
set_option maxRecDepth 65536 in
set_option maxHeartbeats 40000000 in
theorem rm_pciR (l : Launch) (Z : State) (a0 : Array Value) (hw : ∀ d ∈ tables_1, d.before a0 Z = true) (ws : List Jvm.Cond) (x1 : Int32) (x2 : Int32) (gr : Addr) (h0 : Heap) (n0 : Nat) (O : Old Z n0 h0) (hq1 : ¬ x1 < 0) (hq2 : x1 < x2) :
    MetFree l (⟨"jdk/internal/util/Preconditions", "checkIndex", "(IILjava/util/function/BiFunction;)I"⟩ : MethodName) (head1 (Jvm.Cond.code (⟨"jdk/internal/util/Preconditions", "checkIndex", "(IILjava/util/function/BiFunction;)I"⟩ : MethodName) jdk_41_method_11_code 3 (some .int) :: ws) ({ frames := 0, cells := 0, slots := 0, locals := 0 } : Room)) (fun aa U => aa = #[.int x1, .int x2, .ref gr] ∧ Z.Warmed39 U.vm ∧ U.heap = h0) (fun _ _ _ _ _ => True) (fun _ U o U' => Own.End U (Q_pciR Z x1 x2 gr h0 n0) 0 0 o U') := by
  refine MetFree.of_bodySF (plainFor_of_name pn_4) hisR ?_
  intro p e s m args below meth c s₁ Bd hml0 hP hK
  obtain ⟨rfl, hZ, hh⟩ := hP
  have hx := Bd.exec
  have hby := Bd.bytes
  have hml : c.maxLocals = 3 := hml0
  have hown : s.vm.findClass "jdk/internal/util/Preconditions" = some m.cls := findClass_of_methodNamed Bd.named
  have hnm := (name_of_methodNamed Bd.named Bd.method).1
  have hret := Bd.returns
  have hlocks : meth.locks = false := Bd.notSynchronized
  have X0 : Stand p l e ({ frames := 0, cells := 0, slots := 0, locals := 0 } : Room) s m #[.int x1, .int x2, .ref gr] below meth c s₁ [] 0 0 := Stand.of_body Bd
  have e0 : s₁.heap = h0 := by rw [← hh, Bd.state]; rfl
  have N0 := Fr.nil n0
  show Own.Go p e below (Own.End s (Q_pciR Z x1 x2 gr h0 n0) 0 0) (s₁.setTop (entryFrame m #[.int x1, .int x2, .ref gr] 3))
  refine Own.Go.eq (ef_pciR m x1 x2 gr) ?_
  refine Own.g_iloadN X0 hx (hb hby d27_0) rfl 1 rfl ?_
  refine Own.g_if_lt_f X0 hx (hb hby d27_1) hq1 4 rfl ?_
  refine Own.g_iloadN X0 hx (hb hby d27_4) rfl 5 rfl ?_
  refine Own.g_iloadN X0 hx (hb hby d27_5) rfl 6 rfl ?_
  refine Own.g_icmp_lt_t X0 hx (hb hby d27_6) hq2 16 (by decide) ?_
  refine Own.g_iloadN X0 hx (hb hby d27_16) rfl 17 rfl ?_
  refine Own.g_ret X0 hx hret hlocks rfl (Or.inl ⟨rfl, by simp, _, rfl⟩) (hb hby d27_17) (by decide) (by decide) e0 ?_
  exact ⟨rfl, N0, rfl⟩
theorem ef_cki (m : MethodId) (x0 : Int32) (x1 : Int32) : entryFrame m #[.int x0, .int x1] 2 = mkF m 0 #[.val (.int x0), .val (.int x1)] [] := by first | (simp [entryFrame, mkF, argsToLocals, Value.category]; done) | rfl
def Q_cki (Z : State) (x1 : Int32) (x2 : Int32) (G3 : Value) (h0 : Heap) (n0 : Nat) (v : Option Value) (h : Heap) (L : List Loc) : Prop := v = none ∧ Fr n0 L ∧ h = h0
set_option maxRecDepth 65536 in
set_option maxHeartbeats 40000000 in
theorem rm_cki (l : Launch) (Z : State) (a0 : Array Value) (hw : ∀ d ∈ tables_1, d.before a0 Z = true) (ws : List Jvm.Cond) (x1 : Int32) (x2 : Int32) (G3 : Value) (h0 : Heap) (n0 : Nat) (O : Old Z n0 h0) (O4 : Sta Z Z.heap "jdk/internal/util/Preconditions" "SIOOBE_FORMATTER" "Ljava/util/function/BiFunction;" G3) (rG3 : G3.isRef = true) (hq1 : ¬ x1 < 0) (hq2 : x1 < x2) :
    MetFree l (⟨"java/lang/String", "checkIndex", "(II)V"⟩ : MethodName) (head1 (Jvm.Cond.code (⟨"java/lang/String", "checkIndex", "(II)V"⟩ : MethodName) jdk_42_method_155_code 2 none :: ws) ({ frames := 1, cells := 0, slots := 0, locals := 20 } : Room)) (fun aa U => aa = #[.int x1, .int x2] ∧ Z.Warmed39 U.vm ∧ U.heap = h0) (fun _ _ _ _ _ => True) (fun _ U o U' => Own.End U (Q_cki Z x1 x2 G3 h0 n0) 0 0 o U') := by
  refine MetFree.of_bodySF (plainFor_of_name pn_0) hisR ?_
  intro p e s m args below meth c s₁ Bd hml0 hP hK
  obtain ⟨rfl, hZ, hh⟩ := hP
  have hx := Bd.exec
  have hby := Bd.bytes
  have hml : c.maxLocals = 2 := hml0
  have hown : s.vm.findClass "java/lang/String" = some m.cls := findClass_of_methodNamed Bd.named
  have hnm := (name_of_methodNamed Bd.named Bd.method).1
  have hret := Bd.returns
  have hlocks : meth.locks = false := Bd.notSynchronized
  have X0 : Stand p l e ({ frames := 1, cells := 0, slots := 0, locals := 20 } : Room) s m #[.int x1, .int x2] below meth c s₁ [] 0 0 := Stand.of_body Bd
  have e0 : s₁.heap = h0 := by rw [← hh, Bd.state]; rfl
  have N0 := Fr.nil n0
  show Own.Go p e below (Own.End s (Q_cki Z x1 x2 G3 h0 n0) 0 0) (s₁.setTop (entryFrame m #[.int x1, .int x2] 2))
  refine Own.Go.eq (ef_cki m x1 x2) ?_
  rcases Own.isref rG3 with rfl | ⟨gr, rfl⟩
  · refine Own.g_iloadN X0 hx (hb hby d26_0) rfl 1 rfl ?_
    refine Own.g_iloadN X0 hx (hb hby d26_1) rfl 2 rfl ?_
    refine Own.g_getS X0 hx hZ hown (host := "") (Or.inl (hw _ (List.mem_of_getElem? (i := 117) rfl))) Via.refl e0 (O4.ext O.2) (hb hby d26_2) 5 rfl ?_
    intro T1 X1 e1
    refine Own.g_callS X1 hx (y := (⟨"jdk/internal/util/Preconditions", "checkIndex", "(IILjava/util/function/BiFunction;)I"⟩ : MethodName)) hown (mvT hZ (hw _ (List.mem_of_getElem? (i := 119) rfl))) (mvT hZ (hw _ (List.mem_of_getElem? (i := 120) rfl))) (mvT hZ (hw _ (List.mem_of_getElem? (i := 118) rfl))) (mvT hZ (hw _ (List.mem_of_getElem? (i := 121) rfl))) (by decide) [.int x1, .int x2, .null] (Own.back (W := 0) (rm_pciN l Z a0 hw [] x1 x2 h0 n0 O hq1 hq2) hZ (hw _ (List.mem_of_getElem? (i := 121) rfl)) (hw _ (List.mem_of_getElem? (i := 118) rfl)) (by decide) (by decide)) e1 (by rw [hml]; rfl) [] (lenOf pd_1 rfl) rfl (Nat.le_of_ble_eq_true rfl) (hb hby d26_5) (by decide) (by decide) 8 rfl ?_
    rintro _ T2 L2 X2 ⟨rfl, N2q, eH2⟩
    have N2 := Fr.app N0 N2q
    show Own.Go p e below _ (T2.setTop (mkF m 8 #[.val (.int x1), .val (.int x2)] [(.int x1)]))
    refine Own.g_pop X2 hx (hb hby d26_8) rfl 9 rfl ?_
    refine Own.g_retV X2 hx hret hlocks (hb hby d26_9) (by decide) (by decide) eH2 ?_
    exact ⟨rfl, N2, rfl⟩
  · refine Own.g_iloadN X0 hx (hb hby d26_0) rfl 1 rfl ?_
    refine Own.g_iloadN X0 hx (hb hby d26_1) rfl 2 rfl ?_
    refine Own.g_getS X0 hx hZ hown (host := "") (Or.inl (hw _ (List.mem_of_getElem? (i := 117) rfl))) Via.refl e0 (O4.ext O.2) (hb hby d26_2) 5 rfl ?_
    intro T3 X3 e3
    refine Own.g_callS X3 hx (y := (⟨"jdk/internal/util/Preconditions", "checkIndex", "(IILjava/util/function/BiFunction;)I"⟩ : MethodName)) hown (mvT hZ (hw _ (List.mem_of_getElem? (i := 119) rfl))) (mvT hZ (hw _ (List.mem_of_getElem? (i := 120) rfl))) (mvT hZ (hw _ (List.mem_of_getElem? (i := 118) rfl))) (mvT hZ (hw _ (List.mem_of_getElem? (i := 121) rfl))) (by decide) [.int x1, .int x2, .ref gr] (Own.back (W := 0) (rm_pciR l Z a0 hw [] x1 x2 gr h0 n0 O hq1 hq2) hZ (hw _ (List.mem_of_getElem? (i := 121) rfl)) (hw _ (List.mem_of_getElem? (i := 118) rfl)) (by decide) (by decide)) e3 (by rw [hml]; rfl) [] (lenOf pd_1 rfl) rfl (Nat.le_of_ble_eq_true rfl) (hb hby d26_5) (by decide) (by decide) 8 rfl ?_
    rintro _ T4 L4 X4 ⟨rfl, N4q, eH4⟩
    have N4 := Fr.app N0 N4q
    show Own.Go p e below _ (T4.setTop (mkF m 8 #[.val (.int x1), .val (.int x2)] [(.int x1)]))
    refine Own.g_pop X4 hx (hb hby d26_8) rfl 9 rfl ?_
    refine Own.g_retV X4 hx hret hlocks (hb hby d26_9) (by decide) (by decide) eH4 ?_
    exact ⟨rfl, N4, rfl⟩
theorem ef_nbl1 (m : MethodId) (x0 : Int32) : entryFrame m #[.int x0] 1 = mkF m 0 #[.val (.int x0)] [] := by first | (simp [entryFrame, mkF, argsToLocals, Value.category]; done) | rfl
def Q_nbl1 (Z : State)  (h0 : Heap) (n0 : Nat) (v : Option Value) (h : Heap) (L : List Loc) : Prop := v = some (.int 2) ∧ Fr n0 L ∧ h = h0
set_option maxRecDepth 65536 in
set_option maxHeartbeats 40000000 in
theorem rm_nbl1 (l : Launch) (Z : State) (a0 : Array Value) (hw : ∀ d ∈ tables_1, d.before a0 Z = true) (ws : List Jvm.Cond)  (h0 : Heap) (n0 : Nat) (O : Old Z n0 h0)  :
    MetFree l (⟨"java/lang/StringUTF16", "newBytesLength", "(I)I"⟩ : MethodName) (head1 (Jvm.Cond.code (⟨"java/lang/StringUTF16", "newBytesLength", "(I)I"⟩ : MethodName) jdk_52_method_3_code 1 (some .int) :: ws) ({ frames := 0, cells := 0, slots := 0, locals := 0 } : Room)) (fun aa U => aa = #[.int (1 : Int32)] ∧ Z.Warmed39 U.vm ∧ U.heap = h0) (fun _ _ _ _ _ => True) (fun _ U o U' => Own.End U (Q_nbl1 Z  h0 n0) 0 0 o U') := by
  refine MetFree.of_bodySF (plainFor_of_name pn_5) hisR ?_
  intro p e s m args below meth c s₁ Bd hml0 hP hK
  obtain ⟨rfl, hZ, hh⟩ := hP
  have hx := Bd.exec
  have hby := Bd.bytes
  have hml : c.maxLocals = 1 := hml0
  have hown : s.vm.findClass "java/lang/StringUTF16" = some m.cls := findClass_of_methodNamed Bd.named
  have hnm := (name_of_methodNamed Bd.named Bd.method).1
  have hret := Bd.returns
  have hlocks : meth.locks = false := Bd.notSynchronized
  have X0 : Stand p l e ({ frames := 0, cells := 0, slots := 0, locals := 0 } : Room) s m #[.int (1 : Int32)] below meth c s₁ [] 0 0 := Stand.of_body Bd
  have e0 : s₁.heap = h0 := by rw [← hh, Bd.state]; rfl
  have N0 := Fr.nil n0
  show Own.Go p e below (Own.End s (Q_nbl1 Z  h0 n0) 0 0) (s₁.setTop (entryFrame m #[.int (1 : Int32)] 1))
  refine Own.Go.eq (ef_nbl1 m (1 : Int32)) ?_
  refine Own.g_iloadN X0 hx (hb hby d18_0) rfl 1 rfl ?_
  refine Own.g_if_ge_t X0 hx (hb hby d18_1) (by decide) 12 (by decide) ?_
  refine Own.g_iloadN X0 hx (hb hby d18_12) rfl 13 rfl ?_
  refine Own.g_ldcI X0 hx hown (mvT hZ (hw _ (List.mem_of_getElem? (i := 80) rfl))) (hb hby d18_13) 15 rfl ?_
  refine Own.g_icmp_lt_t X0 hx (hb hby d18_15) (by decide) 55 (by decide) ?_
  refine Own.g_iloadN X0 hx (hb hby d18_55) rfl 56 rfl ?_
  refine Own.g_iconst X0 hx (1 : Int32) (hb hby d18_56) rfl 57 rfl ?_
  refine Own.g_ishl X0 hx (hb hby d18_57) 58 rfl ?_
  rw [show ((1 : Int32) <<< ((1 : Int32) &&& 31)) = (2 : Int32) from by decide]
  refine Own.g_ret X0 hx hret hlocks rfl (Or.inl ⟨rfl, by simp, _, rfl⟩) (hb hby d18_58) (by decide) (by decide) e0 ?_
  exact ⟨rfl, N0, rfl⟩
theorem ef_nbf1 (m : MethodId) (x0 : Int32) : entryFrame m #[.int x0] 1 = mkF m 0 #[.val (.int x0)] [] := by first | (simp [entryFrame, mkF, argsToLocals, Value.category]; done) | rfl
def Q_nbf1 (Z : State)  (h0 : Heap) (n0 : Nat) (v : Option Value) (h : Heap) (L : List Loc) : Prop := ∃ (r : Addr) (k : ClassId), v = some (.ref r) ∧ Fr n0 L ∧ Keep h0 h [] ∧ h0.size ≤ r ∧ Arv Z h r k .byte 2 [(.int (0 : Int32)), (.int (0 : Int32))] (.int 0)
set_option maxRecDepth 65536 in
set_option maxHeartbeats 40000000 in
theorem rm_nbf1 (l : Launch) (Z : State) (a0 : Array Value) (hw : ∀ d ∈ tables_1, d.before a0 Z = true) (ws : List Jvm.Cond)  (h0 : Heap) (n0 : Nat) (O : Old Z n0 h0)  :
    MetFree l (⟨"java/lang/StringUTF16", "newBytesFor", "(I)[B"⟩ : MethodName) (head1 (Jvm.Cond.code (⟨"java/lang/StringUTF16", "newBytesFor", "(I)[B"⟩ : MethodName) jdk_52_method_2_code 1 (some (.array .byte)) :: ws) ({ frames := 1, cells := 1, slots := 2, locals := 20 } : Room)) (fun aa U => aa = #[.int (1 : Int32)] ∧ Z.Warmed39 U.vm ∧ U.heap = h0) (fun _ _ _ _ _ => True) (fun _ U o U' => Own.End U (Q_nbf1 Z  h0 n0) 1 2 o U') := by
  refine MetFree.of_bodySF (plainFor_of_name pn_5) hisR ?_
  intro p e s m args below meth c s₁ Bd hml0 hP hK
  obtain ⟨rfl, hZ, hh⟩ := hP
  have hx := Bd.exec
  have hby := Bd.bytes
  have hml : c.maxLocals = 1 := hml0
  have hown : s.vm.findClass "java/lang/StringUTF16" = some m.cls := findClass_of_methodNamed Bd.named
  have hnm := (name_of_methodNamed Bd.named Bd.method).1
  have hret := Bd.returns
  have hlocks : meth.locks = false := Bd.notSynchronized
  have X0 : Stand p l e ({ frames := 1, cells := 1, slots := 2, locals := 20 } : Room) s m #[.int (1 : Int32)] below meth c s₁ [] 0 0 := Stand.of_body Bd
  have e0 : s₁.heap = h0 := by rw [← hh, Bd.state]; rfl
  have N0 := Fr.nil n0
  show Own.Go p e below (Own.End s (Q_nbf1 Z  h0 n0) 1 2) (s₁.setTop (entryFrame m #[.int (1 : Int32)] 1))
  refine Own.Go.eq (ef_nbf1 m (1 : Int32)) ?_
  have KP : Keep h0 h0 [] := Keep.refl _ _
  refine Own.g_iloadN X0 hx (hb hby d17_0) rfl 1 rfl ?_
  refine Own.g_callS X0 hx (y := (⟨"java/lang/StringUTF16", "newBytesLength", "(I)I"⟩ : MethodName)) hown (mvT hZ (hw _ (List.mem_of_getElem? (i := 77) rfl))) (mvT hZ (hw _ (List.mem_of_getElem? (i := 78) rfl))) (mvT hZ (hw _ (List.mem_of_getElem? (i := 66) rfl))) (mvT hZ (hw _ (List.mem_of_getElem? (i := 79) rfl))) (by decide) [.int (1 : Int32)] (Own.back (W := 0) (rm_nbl1 l Z a0 hw []  h0 n0 O ) hZ (hw _ (List.mem_of_getElem? (i := 79) rfl)) (hw _ (List.mem_of_getElem? (i := 66) rfl)) (by decide) (by decide)) e0 (by rw [hml]; rfl) [] (lenOf pd_2 rfl) rfl (Nat.le_of_ble_eq_true rfl) (hb hby d17_1) (by decide) (by decide) 4 rfl ?_
  rintro _ T1 L1 X1 ⟨rfl, N1q, eH1⟩
  have N1 := Fr.app N0 N1q
  show Own.Go p e below _ (T1.setTop (mkF m 4 #[.val (.int (1 : Int32))] [(.int (2 : Int32))]))
  refine Own.g_newP X1 hx hZ (hw _ (List.mem_of_getElem? (i := 23) rfl)) eH1 (hb hby d17_4) (by decide) 2 (by decide) (by decide) (by decide) (by decide) 6 rfl .byte rfl [(.int (0 : Int32)), (.int (0 : Int32))] (by intro i; first | rfl | (rcases i with _ | _ | _ | _ | _ | _ | _ | _ | _ | _ | _ | _ | _ | _ | _ | _ | _ | _ | _ | _ | _ | _ | _ | _ | i <;> rfl)) ?_
  intro T2 h2 r k_r X2 e2 E2 g2 V_r
  have n0_r : n0 ≤ r := Nat.le_trans (Nat.le_of_eq O.1.symm) (Nat.le_trans O.2.1 (Nat.le_of_eq g2.symm))
  have sz0_r : h0.size ≤ r := Nat.le_trans KP.1 (Nat.le_of_eq g2.symm)
  replace O := O.ext E2
  replace KP := KP.ext E2
  change Arv Z h2 r k_r .byte (2 : Int32) [(.int (0 : Int32)), (.int (0 : Int32))] (.int (0 : Int32)) at V_r
  refine Own.g_ret X2 hx hret hlocks rfl (Or.inr (Or.inr (Or.inr (Or.inr ⟨rfl, rfl, rfl⟩)))) (hb hby d17_6) (by decide) (by decide) e2 ?_
  exact ⟨r, k_r, rfl, N1, KP, sz0_r, V_r⟩
theorem ef_put10 (m : MethodId) (x0 : Addr) (x1 : Int32) (x2 : Int32) : entryFrame m #[.ref x0, .int x1, .int x2] 3 = mkF m 0 #[.val (.ref x0), .val (.int x1), .val (.int x2)] [] := by first | (simp [entryFrame, mkF, argsToLocals, Value.category]; done) | rfl
def Q_put10 (Z : State) (r : Addr) (kr : ClassId) (x1 : Int32) (z0 : Int32) (z1 : Int32) (h0 : Heap) (n0 : Nat) (v : Option Value) (h : Heap) (L : List Loc) : Prop := v = none ∧ Fr n0 L ∧ Keep h0 h [r] ∧ Arv Z h r kr .byte 2 [(.int ((x1 >>> ((0 : Int32) &&& 31)).toInt8.toInt32)), (.int ((x1 >>> ((8 : Int32) &&& 31)).toInt8.toInt32))] (.int 0)
set_option maxRecDepth 65536 in
set_option maxHeartbeats 40000000 in
theorem rm_put10 (l : Launch) (Z : State) (a0 : Array Value) (hw : ∀ d ∈ tables_1, d.before a0 Z = true) (ws : List Jvm.Cond) (r : Addr) (kr : ClassId) (x1 : Int32) (z0 : Int32) (z1 : Int32) (h0 : Heap) (n0 : Nat) (O : Old Z n0 h0) (n0_r : n0 ≤ r) (V_r : Arv Z h0 r kr .byte 2 [(.int z0), (.int z1)] (.int 0)) (SA : Sta Z Z.heap "java/lang/StringUTF16" "$assertionsDisabled" "Z" (.int 1)) (SHI : Sta Z Z.heap "java/lang/StringUTF16" "HI_BYTE_SHIFT" "I" (.int 0)) (SLO : Sta Z Z.heap "java/lang/StringUTF16" "LO_BYTE_SHIFT" "I" (.int 8)) :
    MetFree l (⟨"java/lang/StringUTF16", "putChar", "([BII)V"⟩ : MethodName) (head1 (Jvm.Cond.code (⟨"java/lang/StringUTF16", "putChar", "([BII)V"⟩ : MethodName) jdk_52_method_4_code 3 none :: ws) ({ frames := 0, cells := 0, slots := 0, locals := 0 } : Room)) (fun aa U => aa = #[.ref r, .int (0 : Int32), .int x1] ∧ Z.Warmed39 U.vm ∧ U.heap = h0) (fun _ _ _ _ _ => True) (fun _ U o U' => Own.End U (Q_put10 Z r kr x1 z0 z1 h0 n0) 0 0 o U') := by
  refine MetFree.of_bodySF (plainFor_of_name pn_5) hisR ?_
  intro p e s m args below meth c s₁ Bd hml0 hP hK
  obtain ⟨rfl, hZ, hh⟩ := hP
  have hx := Bd.exec
  have hby := Bd.bytes
  have hml : c.maxLocals = 3 := hml0
  have hown : s.vm.findClass "java/lang/StringUTF16" = some m.cls := findClass_of_methodNamed Bd.named
  have hnm := (name_of_methodNamed Bd.named Bd.method).1
  have hret := Bd.returns
  have hlocks : meth.locks = false := Bd.notSynchronized
  have X0 : Stand p l e ({ frames := 0, cells := 0, slots := 0, locals := 0 } : Room) s m #[.ref r, .int (0 : Int32), .int x1] below meth c s₁ [] 0 0 := Stand.of_body Bd
  have e0 : s₁.heap = h0 := by rw [← hh, Bd.state]; rfl
  have N0 := Fr.nil n0
  show Own.Go p e below (Own.End s (Q_put10 Z r kr x1 z0 z1 h0 n0) 0 0) (s₁.setTop (entryFrame m #[.ref r, .int (0 : Int32), .int x1] 3))
  refine Own.Go.eq (ef_put10 m r (0 : Int32) x1) ?_
  have KP : Keep h0 h0 [r] := Keep.refl _ _
  refine Own.g_getS X0 hx hZ hown (host := "") (Or.inl (hw _ (List.mem_of_getElem? (i := 84) rfl))) Via.refl e0 (SA.ext O.2) (hb hby d19_0) 3 rfl ?_
  intro T1 X1 e1
  refine Own.g_if_ne_t X1 hx (hb hby d19_3) (by decide) 28 (by decide) ?_
  refine Own.g_iloadN X1 hx (hb hby d19_28) rfl 29 rfl ?_
  refine Own.g_iconst X1 hx (1 : Int32) (hb hby d19_29) rfl 30 rfl ?_
  refine Own.g_ishl X1 hx (hb hby d19_30) 31 rfl ?_
  rw [show ((0 : Int32) <<< ((1 : Int32) &&& 31)) = (0 : Int32) from by decide]
  refine Own.g_istoreN X1 hx #[.val (.ref r), .val (.int (0 : Int32)), .val (.int x1)] (hb hby d19_31) rfl 32 rfl ?_
  refine Own.g_aloadN X1 hx (hb hby d19_32) rfl rfl 33 rfl ?_
  refine Own.g_iloadN X1 hx (hb hby d19_33) rfl 34 rfl ?_
  refine Own.g_iinc X1 hx #[.val (.ref r), .val (.int (1 : Int32)), .val (.int x1)] (hb hby d19_34) rfl rfl 37 rfl ?_
  refine Own.g_iloadN X1 hx (hb hby d19_37) rfl 38 rfl ?_
  refine Own.g_getS X1 hx hZ hown (host := "") (Or.inl (hw _ (List.mem_of_getElem? (i := 85) rfl))) Via.refl e1 (SHI.ext O.2) (hb hby d19_38) 41 rfl ?_
  intro T2 X2 e2
  refine Own.g_ishr X2 hx (hb hby d19_41) 42 rfl ?_
  refine Own.g_i2b X2 hx (hb hby d19_42) 43 rfl ?_
  refine Own.g_stB X2 hx hZ e2 V_r ((x1 >>> ((0 : Int32) &&& 31)).toInt8.toInt32) (Own.nar_b _) (by decide) 0 rfl (Nat.le_of_ble_eq_true rfl) [(.int ((x1 >>> ((0 : Int32) &&& 31)).toInt8.toInt32)), (.int z1)] rfl (hb hby d19_43) 44 rfl ?_
  clear V_r; intro T3 h3 X3 e3 W3 V_r
  replace O := O.wr W3 n0_r
  replace KP := KP.wr W3 (Or.inl (List.mem_of_getElem? (i := 0) rfl))
  have N3 := Fr.snoc X3 N0 n0_r
  refine Own.g_aloadN X3 hx (hb hby d19_44) rfl rfl 45 rfl ?_
  refine Own.g_iloadN X3 hx (hb hby d19_45) rfl 46 rfl ?_
  refine Own.g_iloadN X3 hx (hb hby d19_46) rfl 47 rfl ?_
  refine Own.g_getS X3 hx hZ hown (host := "") (Or.inl (hw _ (List.mem_of_getElem? (i := 86) rfl))) Via.refl e3 (SLO.ext O.2) (hb hby d19_47) 50 rfl ?_
  intro T4 X4 e4
  refine Own.g_ishr X4 hx (hb hby d19_50) 51 rfl ?_
  refine Own.g_i2b X4 hx (hb hby d19_51) 52 rfl ?_
  refine Own.g_stB X4 hx hZ e4 V_r ((x1 >>> ((8 : Int32) &&& 31)).toInt8.toInt32) (Own.nar_b _) (by decide) 1 rfl (Nat.le_of_ble_eq_true rfl) [(.int ((x1 >>> ((0 : Int32) &&& 31)).toInt8.toInt32)), (.int ((x1 >>> ((8 : Int32) &&& 31)).toInt8.toInt32))] rfl (hb hby d19_52) 53 rfl ?_
  clear V_r; intro T5 h5 X5 e5 W5 V_r
  replace O := O.wr W5 n0_r
  replace KP := KP.wr W5 (Or.inl (List.mem_of_getElem? (i := 0) rfl))
  have N5 := Fr.snoc X5 N3 n0_r
  refine Own.g_retV X5 hx hret hlocks (hb hby d19_53) (by decide) (by decide) e5 ?_
  exact ⟨rfl, N5, KP, V_r⟩
theorem ef_tob1 (m : MethodId) (x0 : Addr) (x1 : Int32) (x2 : Int32) : entryFrame m #[.ref x0, .int x1, .int x2] 5 = mkF m 0 #[.val (.ref x0), .val (.int x1), .val (.int x2), .unset, .unset] [] := by first | (simp [entryFrame, mkF, argsToLocals, Value.category]; done) | rfl
def Q_tob1 (Z : State) (a : Addr) (ka : ClassId) (x0 : Int32) (h0 : Heap) (n0 : Nat) (v : Option Value) (h : Heap) (L : List Loc) : Prop := ∃ (r : Addr) (k : ClassId), v = some (.ref r) ∧ Fr n0 L ∧ Keep h0 h [] ∧ h0.size ≤ r ∧ Arv Z h r k .byte 2 [(.int ((x0 >>> ((0 : Int32) &&& 31)).toInt8.toInt32)), (.int ((x0 >>> ((8 : Int32) &&& 31)).toInt8.toInt32))] (.int 0)
set_option maxRecDepth 65536 in
set_option maxHeartbeats 40000000 in
theorem rm_tob1 (l : Launch) (Z : State) (a0 : Array Value) (hw : ∀ d ∈ tables_1, d.before a0 Z = true) (ws : List Jvm.Cond) (a : Addr) (ka : ClassId) (x0 : Int32) (h0 : Heap) (n0 : Nat) (O : Old Z n0 h0) (V_a : Arv Z h0 a ka .char 1 [(.int x0)] (.int 0)) (SA : Sta Z Z.heap "java/lang/StringUTF16" "$assertionsDisabled" "Z" (.int 1)) (SHI : Sta Z Z.heap "java/lang/StringUTF16" "HI_BYTE_SHIFT" "I" (.int 0)) (SLO : Sta Z Z.heap "java/lang/StringUTF16" "LO_BYTE_SHIFT" "I" (.int 8)) :
    MetFree l (⟨"java/lang/StringUTF16", "toBytes", "([CII)[B"⟩ : MethodName) (head1 (Jvm.Cond.code (⟨"java/lang/StringUTF16", "toBytes", "([CII)[B"⟩ : MethodName) jdk_52_method_14_code 5 (some (.array .byte)) :: ws) ({ frames := 2, cells := 1, slots := 2, locals := 40 } : Room)) (fun aa U => aa = #[.ref a, .int (0 : Int32), .int (1 : Int32)] ∧ Z.Warmed39 U.vm ∧ U.heap = h0) (fun _ _ _ _ _ => True) (fun _ U o U' => Own.End U (Q_tob1 Z a ka x0 h0 n0) 1 2 o U') := by
  refine MetFree.of_bodySF (plainFor_of_name pn_5) hisR ?_
  intro p e s m args below meth c s₁ Bd hml0 hP hK
  obtain ⟨rfl, hZ, hh⟩ := hP
  have hx := Bd.exec
  have hby := Bd.bytes
  have hml : c.maxLocals = 5 := hml0
  have hown : s.vm.findClass "java/lang/StringUTF16" = some m.cls := findClass_of_methodNamed Bd.named
  have hnm := (name_of_methodNamed Bd.named Bd.method).1
  have hret := Bd.returns
  have hlocks : meth.locks = false := Bd.notSynchronized
  have X0 : Stand p l e ({ frames := 2, cells := 1, slots := 2, locals := 40 } : Room) s m #[.ref a, .int (0 : Int32), .int (1 : Int32)] below meth c s₁ [] 0 0 := Stand.of_body Bd
  have e0 : s₁.heap = h0 := by rw [← hh, Bd.state]; rfl
  have N0 := Fr.nil n0
  show Own.Go p e below (Own.End s (Q_tob1 Z a ka x0 h0 n0) 1 2) (s₁.setTop (entryFrame m #[.ref a, .int (0 : Int32), .int (1 : Int32)] 5))
  refine Own.Go.eq (ef_tob1 m a (0 : Int32) (1 : Int32)) ?_
  have KP : Keep h0 h0 [] := Keep.refl _ _
  refine Own.g_iloadN X0 hx (hb hby d16_0) rfl 1 rfl ?_
  refine Own.g_callS X0 hx (y := (⟨"java/lang/StringUTF16", "newBytesFor", "(I)[B"⟩ : MethodName)) hown (mvT hZ (hw _ (List.mem_of_getElem? (i := 74) rfl))) (mvT hZ (hw _ (List.mem_of_getElem? (i := 75) rfl))) (mvT hZ (hw _ (List.mem_of_getElem? (i := 66) rfl))) (mvT hZ (hw _ (List.mem_of_getElem? (i := 76) rfl))) (by decide) [.int (1 : Int32)] (Own.back (W := 0) (rm_nbf1 l Z a0 hw []  h0 n0 O ) hZ (hw _ (List.mem_of_getElem? (i := 76) rfl)) (hw _ (List.mem_of_getElem? (i := 66) rfl)) (by decide) (by decide)) e0 (by rw [hml]; rfl) [] (lenOf pd_3 rfl) rfl (Nat.le_of_ble_eq_true rfl) (hb hby d16_1) (by decide) (by decide) 4 rfl ?_
  rintro _ T1 L1 X1 ⟨r, k_r, rfl, N1q, K1, sz1, V_r⟩
  have N1 := Fr.app N0 N1q
  have ne_a_r : a ≠ r := Nat.ne_of_lt (Nat.lt_of_lt_of_le (V_a.lt) sz1)
  have n0_r : n0 ≤ r := Nat.le_trans (Nat.le_of_eq O.1.symm) (Nat.le_trans O.2.1 sz1)
  have sz0_r : h0.size ≤ r := Nat.le_trans KP.1 sz1
  replace V_a := V_a.keep K1 nin0
  replace O := O.keep K1 all0
  replace KP := KP.trans K1 all0
  show Own.Go p e below _ (T1.setTop (mkF m 4 #[.val (.ref a), .val (.int (0 : Int32)), .val (.int (1 : Int32)), .unset, .unset] [(.ref r)]))
  refine Own.g_astoreN X1 hx #[.val (.ref a), .val (.int (0 : Int32)), .val (.int (1 : Int32)), .val (.ref r), .unset] (hb hby d16_4) rfl rfl 5 rfl ?_
  refine Own.g_iconst X1 hx (0 : Int32) (hb hby d16_5) rfl 6 rfl ?_
  refine Own.g_istore X1 hx #[.val (.ref a), .val (.int (0 : Int32)), .val (.int (1 : Int32)), .val (.ref r), .val (.int (0 : Int32))] (hb hby d16_6) rfl 8 rfl ?_
  refine Own.g_iload X1 hx (hb hby d16_8) rfl 10 rfl ?_
  refine Own.g_iloadN X1 hx (hb hby d16_10) rfl 11 rfl ?_
  refine Own.g_icmp_ge_f X1 hx (hb hby d16_11) (by decide) 14 rfl ?_
  refine Own.g_aloadN X1 hx (hb hby d16_14) rfl rfl 15 rfl ?_
  refine Own.g_iload X1 hx (hb hby d16_15) rfl 17 rfl ?_
  refine Own.g_aloadN X1 hx (hb hby d16_17) rfl rfl 18 rfl ?_
  refine Own.g_iloadN X1 hx (hb hby d16_18) rfl 19 rfl ?_
  refine Own.g_ldC X1 hx hZ (rfl : T1.heap = T1.heap) V_a (by decide) x0 rfl (hb hby d16_19) 20 rfl ?_
  refine Own.g_callS X1 hx (y := (⟨"java/lang/StringUTF16", "putChar", "([BII)V"⟩ : MethodName)) hown (mvT hZ (hw _ (List.mem_of_getElem? (i := 81) rfl))) (mvT hZ (hw _ (List.mem_of_getElem? (i := 82) rfl))) (mvT hZ (hw _ (List.mem_of_getElem? (i := 66) rfl))) (mvT hZ (hw _ (List.mem_of_getElem? (i := 83) rfl))) (by decide) [.ref r, .int (0 : Int32), .int x0] (Own.back (W := 0) (rm_put10 l Z a0 hw [] r k_r x0 (0 : Int32) (0 : Int32) T1.heap n0 O n0_r V_r SA SHI SLO) hZ (hw _ (List.mem_of_getElem? (i := 83) rfl)) (hw _ (List.mem_of_getElem? (i := 66) rfl)) (by decide) (by decide)) (rfl : T1.heap = T1.heap) (by rw [hml]; rfl) [] (lenOf pd_4 rfl) rfl (Nat.le_of_ble_eq_true rfl) (hb hby d16_20) (by decide) (by decide) 23 rfl ?_
  rintro _ T2 L2 X2 ⟨rfl, N2q, K2, V_r⟩
  have N2 := Fr.app N1 N2q
  replace V_a := V_a.keep K2 (ninS ne_a_r nin0)
  replace O := O.keep K2 (allS n0_r all0)
  replace KP := KP.trans K2 (allS (Or.inr sz0_r) all0)
  show Own.Go p e below _ (T2.setTop (mkF m 23 #[.val (.ref a), .val (.int (0 : Int32)), .val (.int (1 : Int32)), .val (.ref r), .val (.int (0 : Int32))] []))
  refine Own.g_iinc X2 hx #[.val (.ref a), .val (.int (1 : Int32)), .val (.int (1 : Int32)), .val (.ref r), .val (.int (0 : Int32))] (hb hby d16_23) rfl rfl 26 rfl ?_
  refine Own.g_iinc X2 hx #[.val (.ref a), .val (.int (1 : Int32)), .val (.int (1 : Int32)), .val (.ref r), .val (.int (1 : Int32))] (hb hby d16_26) rfl rfl 29 rfl ?_
  refine Own.g_goto X2 hx (hb hby d16_29) 8 (by decide) ?_
  refine Own.g_iload X2 hx (hb hby d16_8) rfl 10 rfl ?_
  refine Own.g_iloadN X2 hx (hb hby d16_10) rfl 11 rfl ?_
  refine Own.g_icmp_ge_t X2 hx (hb hby d16_11) (by decide) 32 (by decide) ?_
  refine Own.g_aloadN X2 hx (hb hby d16_32) rfl rfl 33 rfl ?_
  refine Own.g_ret X2 hx hret hlocks rfl (Or.inr (Or.inr (Or.inr (Or.inr ⟨rfl, rfl, rfl⟩)))) (hb hby d16_33) (by decide) (by decide) (rfl : T2.heap = T2.heap) ?_
  exact ⟨r, k_r, rfl, N2, KP, sz0_r, V_r⟩
theorem ef_gch10 (m : MethodId) (x0 : Addr) (x1 : Int32) : entryFrame m #[.ref x0, .int x1] 2 = mkF m 0 #[.val (.ref x0), .val (.int x1)] [] := by first | (simp [entryFrame, mkF, argsToLocals, Value.category]; done) | rfl
def Q_gch10 (Z : State) (r : Addr) (kr : ClassId) (x0 : Int32) (h0 : Heap) (n0 : Nat) (v : Option Value) (h : Heap) (L : List Loc) : Prop := v = some (.int x0) ∧ Fr n0 L ∧ h = h0
set_option maxRecDepth 65536 in
set_option maxHeartbeats 40000000 in
theorem rm_gch10 (l : Launch) (Z : State) (a0 : Array Value) (hw : ∀ d ∈ tables_1, d.before a0 Z = true) (ws : List Jvm.Cond) (r : Addr) (kr : ClassId) (x0 : Int32) (h0 : Heap) (n0 : Nat) (O : Old Z n0 h0) (V_r : Arv Z h0 r kr .byte 2 [(.int ((x0 >>> ((0 : Int32) &&& 31)).toInt8.toInt32)), (.int ((x0 >>> ((8 : Int32) &&& 31)).toInt8.toInt32))] (.int 0)) (C_x0 : Own.Ch x0) (SA : Sta Z Z.heap "java/lang/StringUTF16" "$assertionsDisabled" "Z" (.int 1)) (SHI : Sta Z Z.heap "java/lang/StringUTF16" "HI_BYTE_SHIFT" "I" (.int 0)) (SLO : Sta Z Z.heap "java/lang/StringUTF16" "LO_BYTE_SHIFT" "I" (.int 8)) :
    MetFree l (⟨"java/lang/StringUTF16", "getChar", "([BI)C"⟩ : MethodName) (head1 (Jvm.Cond.code (⟨"java/lang/StringUTF16", "getChar", "([BI)C"⟩ : MethodName) jdk_52_method_5_code 2 (some .char) :: ws) ({ frames := 0, cells := 0, slots := 0, locals := 0 } : Room)) (fun aa U => aa = #[.ref r, .int (0 : Int32)] ∧ Z.Warmed39 U.vm ∧ U.heap = h0) (fun _ _ _ _ _ => True) (fun _ U o U' => Own.End U (Q_gch10 Z r kr x0 h0 n0) 0 0 o U') := by
  refine MetFree.of_bodySF (plainFor_of_name pn_5) hisR ?_
  intro p e s m args below meth c s₁ Bd hml0 hP hK
  obtain ⟨rfl, hZ, hh⟩ := hP
  have hx := Bd.exec
  have hby := Bd.bytes
  have hml : c.maxLocals = 2 := hml0
  have hown : s.vm.findClass "java/lang/StringUTF16" = some m.cls := findClass_of_methodNamed Bd.named
  have hnm := (name_of_methodNamed Bd.named Bd.method).1
  have hret := Bd.returns
  have hlocks : meth.locks = false := Bd.notSynchronized
  have X0 : Stand p l e ({ frames := 0, cells := 0, slots := 0, locals := 0 } : Room) s m #[.ref r, .int (0 : Int32)] below meth c s₁ [] 0 0 := Stand.of_body Bd
  have e0 : s₁.heap = h0 := by rw [← hh, Bd.state]; rfl
  have N0 := Fr.nil n0
  show Own.Go p e below (Own.End s (Q_gch10 Z r kr x0 h0 n0) 0 0) (s₁.setTop (entryFrame m #[.ref r, .int (0 : Int32)] 2))
  refine Own.Go.eq (ef_gch10 m r (0 : Int32)) ?_
  refine Own.g_getS X0 hx hZ hown (host := "") (Or.inl (hw _ (List.mem_of_getElem? (i := 84) rfl))) Via.refl e0 (SA.ext O.2) (hb hby d20_0) 3 rfl ?_
  intro T1 X1 e1
  refine Own.g_if_ne_t X1 hx (hb hby d20_3) (by decide) 28 (by decide) ?_
  refine Own.g_iloadN X1 hx (hb hby d20_28) rfl 29 rfl ?_
  refine Own.g_iconst X1 hx (1 : Int32) (hb hby d20_29) rfl 30 rfl ?_
  refine Own.g_ishl X1 hx (hb hby d20_30) 31 rfl ?_
  rw [show ((0 : Int32) <<< ((1 : Int32) &&& 31)) = (0 : Int32) from by decide]
  refine Own.g_istoreN X1 hx #[.val (.ref r), .val (.int (0 : Int32))] (hb hby d20_31) rfl 32 rfl ?_
  refine Own.g_aloadN X1 hx (hb hby d20_32) rfl rfl 33 rfl ?_
  refine Own.g_iloadN X1 hx (hb hby d20_33) rfl 34 rfl ?_
  refine Own.g_iinc X1 hx #[.val (.ref r), .val (.int (1 : Int32))] (hb hby d20_34) rfl rfl 37 rfl ?_
  refine Own.g_ldB X1 hx hZ e1 V_r (by decide) ((x0 >>> ((0 : Int32) &&& 31)).toInt8.toInt32) rfl (hb hby d20_37) 38 rfl ?_
  refine Own.g_sipush X1 hx (255 : Int32) (hb hby d20_38) rfl 41 rfl ?_
  refine Own.g_iand X1 hx (hb hby d20_41) 42 rfl ?_
  refine Own.g_getS X1 hx hZ hown (host := "") (Or.inl (hw _ (List.mem_of_getElem? (i := 85) rfl))) Via.refl e1 (SHI.ext O.2) (hb hby d20_42) 45 rfl ?_
  intro T2 X2 e2
  refine Own.g_ishl X2 hx (hb hby d20_45) 46 rfl ?_
  refine Own.g_aloadN X2 hx (hb hby d20_46) rfl rfl 47 rfl ?_
  refine Own.g_iloadN X2 hx (hb hby d20_47) rfl 48 rfl ?_
  refine Own.g_ldB X2 hx hZ e2 V_r (by decide) ((x0 >>> ((8 : Int32) &&& 31)).toInt8.toInt32) rfl (hb hby d20_48) 49 rfl ?_
  refine Own.g_sipush X2 hx (255 : Int32) (hb hby d20_49) rfl 52 rfl ?_
  refine Own.g_iand X2 hx (hb hby d20_52) 53 rfl ?_
  refine Own.g_getS X2 hx hZ hown (host := "") (Or.inl (hw _ (List.mem_of_getElem? (i := 86) rfl))) Via.refl e2 (SLO.ext O.2) (hb hby d20_53) 56 rfl ?_
  intro T3 X3 e3
  refine Own.g_ishl X3 hx (hb hby d20_56) 57 rfl ?_
  refine Own.g_ior X3 hx (hb hby d20_57) 58 rfl ?_
  refine Own.g_i2c X3 hx (hb hby d20_58) 59 rfl ?_
  rw [Own.getput C_x0]
  show Own.Go p e below _ (T3.setTop (mkF m 59 #[.val (.ref r), .val (.int (1 : Int32))] [(.int x0)]))
  refine Own.g_ret X3 hx hret hlocks (Own.narrow_ch C_x0) (Or.inl ⟨rfl, by simp, _, rfl⟩) (hb hby d20_59) (by decide) (by decide) e3 ?_
  exact ⟨rfl, N0, rfl⟩
theorem ef_nbl2 (m : MethodId) (x0 : Int32) : entryFrame m #[.int x0] 1 = mkF m 0 #[.val (.int x0)] [] := by first | (simp [entryFrame, mkF, argsToLocals, Value.category]; done) | rfl
def Q_nbl2 (Z : State)  (h0 : Heap) (n0 : Nat) (v : Option Value) (h : Heap) (L : List Loc) : Prop := v = some (.int 4) ∧ Fr n0 L ∧ h = h0
set_option maxRecDepth 65536 in
set_option maxHeartbeats 40000000 in
theorem rm_nbl2 (l : Launch) (Z : State) (a0 : Array Value) (hw : ∀ d ∈ tables_1, d.before a0 Z = true) (ws : List Jvm.Cond)  (h0 : Heap) (n0 : Nat) (O : Old Z n0 h0)  :
    MetFree l (⟨"java/lang/StringUTF16", "newBytesLength", "(I)I"⟩ : MethodName) (head1 (Jvm.Cond.code (⟨"java/lang/StringUTF16", "newBytesLength", "(I)I"⟩ : MethodName) jdk_52_method_3_code 1 (some .int) :: ws) ({ frames := 0, cells := 0, slots := 0, locals := 0 } : Room)) (fun aa U => aa = #[.int (2 : Int32)] ∧ Z.Warmed39 U.vm ∧ U.heap = h0) (fun _ _ _ _ _ => True) (fun _ U o U' => Own.End U (Q_nbl2 Z  h0 n0) 0 0 o U') := by
  refine MetFree.of_bodySF (plainFor_of_name pn_5) hisR ?_
  intro p e s m args below meth c s₁ Bd hml0 hP hK
  obtain ⟨rfl, hZ, hh⟩ := hP
  have hx := Bd.exec
  have hby := Bd.bytes
  have hml : c.maxLocals = 1 := hml0
  have hown : s.vm.findClass "java/lang/StringUTF16" = some m.cls := findClass_of_methodNamed Bd.named
  have hnm := (name_of_methodNamed Bd.named Bd.method).1
  have hret := Bd.returns
  have hlocks : meth.locks = false := Bd.notSynchronized
  have X0 : Stand p l e ({ frames := 0, cells := 0, slots := 0, locals := 0 } : Room) s m #[.int (2 : Int32)] below meth c s₁ [] 0 0 := Stand.of_body Bd
  have e0 : s₁.heap = h0 := by rw [← hh, Bd.state]; rfl
  have N0 := Fr.nil n0
  show Own.Go p e below (Own.End s (Q_nbl2 Z  h0 n0) 0 0) (s₁.setTop (entryFrame m #[.int (2 : Int32)] 1))
  refine Own.Go.eq (ef_nbl2 m (2 : Int32)) ?_
  refine Own.g_iloadN X0 hx (hb hby d18_0) rfl 1 rfl ?_
  refine Own.g_if_ge_t X0 hx (hb hby d18_1) (by decide) 12 (by decide) ?_
  refine Own.g_iloadN X0 hx (hb hby d18_12) rfl 13 rfl ?_
  refine Own.g_ldcI X0 hx hown (mvT hZ (hw _ (List.mem_of_getElem? (i := 80) rfl))) (hb hby d18_13) 15 rfl ?_
  refine Own.g_icmp_lt_t X0 hx (hb hby d18_15) (by decide) 55 (by decide) ?_
  refine Own.g_iloadN X0 hx (hb hby d18_55) rfl 56 rfl ?_
  refine Own.g_iconst X0 hx (1 : Int32) (hb hby d18_56) rfl 57 rfl ?_
  refine Own.g_ishl X0 hx (hb hby d18_57) 58 rfl ?_
  rw [show ((2 : Int32) <<< ((1 : Int32) &&& 31)) = (4 : Int32) from by decide]
  refine Own.g_ret X0 hx hret hlocks rfl (Or.inl ⟨rfl, by simp, _, rfl⟩) (hb hby d18_58) (by decide) (by decide) e0 ?_
  exact ⟨rfl, N0, rfl⟩
theorem ef_nbf2 (m : MethodId) (x0 : Int32) : entryFrame m #[.int x0] 1 = mkF m 0 #[.val (.int x0)] [] := by first | (simp [entryFrame, mkF, argsToLocals, Value.category]; done) | rfl
def Q_nbf2 (Z : State)  (h0 : Heap) (n0 : Nat) (v : Option Value) (h : Heap) (L : List Loc) : Prop := ∃ (r : Addr) (k : ClassId), v = some (.ref r) ∧ Fr n0 L ∧ Keep h0 h [] ∧ h0.size ≤ r ∧ Arv Z h r k .byte 4 [(.int (0 : Int32)), (.int (0 : Int32)), (.int (0 : Int32)), (.int (0 : Int32))] (.int 0)
set_option maxRecDepth 65536 in
set_option maxHeartbeats 40000000 in
theorem rm_nbf2 (l : Launch) (Z : State) (a0 : Array Value) (hw : ∀ d ∈ tables_1, d.before a0 Z = true) (ws : List Jvm.Cond)  (h0 : Heap) (n0 : Nat) (O : Old Z n0 h0)  :
    MetFree l (⟨"java/lang/StringUTF16", "newBytesFor", "(I)[B"⟩ : MethodName) (head1 (Jvm.Cond.code (⟨"java/lang/StringUTF16", "newBytesFor", "(I)[B"⟩ : MethodName) jdk_52_method_2_code 1 (some (.array .byte)) :: ws) ({ frames := 1, cells := 1, slots := 4, locals := 20 } : Room)) (fun aa U => aa = #[.int (2 : Int32)] ∧ Z.Warmed39 U.vm ∧ U.heap = h0) (fun _ _ _ _ _ => True) (fun _ U o U' => Own.End U (Q_nbf2 Z  h0 n0) 1 4 o U') := by
  refine MetFree.of_bodySF (plainFor_of_name pn_5) hisR ?_
  intro p e s m args below meth c s₁ Bd hml0 hP hK
  obtain ⟨rfl, hZ, hh⟩ := hP
  have hx := Bd.exec
  have hby := Bd.bytes
  have hml : c.maxLocals = 1 := hml0
  have hown : s.vm.findClass "java/lang/StringUTF16" = some m.cls := findClass_of_methodNamed Bd.named
  have hnm := (name_of_methodNamed Bd.named Bd.method).1
  have hret := Bd.returns
  have hlocks : meth.locks = false := Bd.notSynchronized
  have X0 : Stand p l e ({ frames := 1, cells := 1, slots := 4, locals := 20 } : Room) s m #[.int (2 : Int32)] below meth c s₁ [] 0 0 := Stand.of_body Bd
  have e0 : s₁.heap = h0 := by rw [← hh, Bd.state]; rfl
  have N0 := Fr.nil n0
  show Own.Go p e below (Own.End s (Q_nbf2 Z  h0 n0) 1 4) (s₁.setTop (entryFrame m #[.int (2 : Int32)] 1))
  refine Own.Go.eq (ef_nbf2 m (2 : Int32)) ?_
  have KP : Keep h0 h0 [] := Keep.refl _ _
  refine Own.g_iloadN X0 hx (hb hby d17_0) rfl 1 rfl ?_
  refine Own.g_callS X0 hx (y := (⟨"java/lang/StringUTF16", "newBytesLength", "(I)I"⟩ : MethodName)) hown (mvT hZ (hw _ (List.mem_of_getElem? (i := 77) rfl))) (mvT hZ (hw _ (List.mem_of_getElem? (i := 78) rfl))) (mvT hZ (hw _ (List.mem_of_getElem? (i := 66) rfl))) (mvT hZ (hw _ (List.mem_of_getElem? (i := 79) rfl))) (by decide) [.int (2 : Int32)] (Own.back (W := 0) (rm_nbl2 l Z a0 hw []  h0 n0 O ) hZ (hw _ (List.mem_of_getElem? (i := 79) rfl)) (hw _ (List.mem_of_getElem? (i := 66) rfl)) (by decide) (by decide)) e0 (by rw [hml]; rfl) [] (lenOf pd_2 rfl) rfl (Nat.le_of_ble_eq_true rfl) (hb hby d17_1) (by decide) (by decide) 4 rfl ?_
  rintro _ T1 L1 X1 ⟨rfl, N1q, eH1⟩
  have N1 := Fr.app N0 N1q
  show Own.Go p e below _ (T1.setTop (mkF m 4 #[.val (.int (2 : Int32))] [(.int (4 : Int32))]))
  refine Own.g_newP X1 hx hZ (hw _ (List.mem_of_getElem? (i := 23) rfl)) eH1 (hb hby d17_4) (by decide) 4 (by decide) (by decide) (by decide) (by decide) 6 rfl .byte rfl [(.int (0 : Int32)), (.int (0 : Int32)), (.int (0 : Int32)), (.int (0 : Int32))] (by intro i; first | rfl | (rcases i with _ | _ | _ | _ | _ | _ | _ | _ | _ | _ | _ | _ | _ | _ | _ | _ | _ | _ | _ | _ | _ | _ | _ | _ | i <;> rfl)) ?_
  intro T2 h2 r k_r X2 e2 E2 g2 V_r
  have n0_r : n0 ≤ r := Nat.le_trans (Nat.le_of_eq O.1.symm) (Nat.le_trans O.2.1 (Nat.le_of_eq g2.symm))
  have sz0_r : h0.size ≤ r := Nat.le_trans KP.1 (Nat.le_of_eq g2.symm)
  replace O := O.ext E2
  replace KP := KP.ext E2
  change Arv Z h2 r k_r .byte (4 : Int32) [(.int (0 : Int32)), (.int (0 : Int32)), (.int (0 : Int32)), (.int (0 : Int32))] (.int (0 : Int32)) at V_r
  refine Own.g_ret X2 hx hret hlocks rfl (Or.inr (Or.inr (Or.inr (Or.inr ⟨rfl, rfl, rfl⟩)))) (hb hby d17_6) (by decide) (by decide) e2 ?_
  exact ⟨r, k_r, rfl, N1, KP, sz0_r, V_r⟩
theorem ef_put20 (m : MethodId) (x0 : Addr) (x1 : Int32) (x2 : Int32) : entryFrame m #[.ref x0, .int x1, .int x2] 3 = mkF m 0 #[.val (.ref x0), .val (.int x1), .val (.int x2)] [] := by first | (simp [entryFrame, mkF, argsToLocals, Value.category]; done) | rfl
def Q_put20 (Z : State) (r : Addr) (kr : ClassId) (x1 : Int32) (z0 : Int32) (z1 : Int32) (z2 : Int32) (z3 : Int32) (h0 : Heap) (n0 : Nat) (v : Option Value) (h : Heap) (L : List Loc) : Prop := v = none ∧ Fr n0 L ∧ Keep h0 h [r] ∧ Arv Z h r kr .byte 4 [(.int ((x1 >>> ((0 : Int32) &&& 31)).toInt8.toInt32)), (.int ((x1 >>> ((8 : Int32) &&& 31)).toInt8.toInt32)), (.int z2), (.int z3)] (.int 0)
set_option maxRecDepth 65536 in
set_option maxHeartbeats 40000000 in
theorem rm_put20 (l : Launch) (Z : State) (a0 : Array Value) (hw : ∀ d ∈ tables_1, d.before a0 Z = true) (ws : List Jvm.Cond) (r : Addr) (kr : ClassId) (x1 : Int32) (z0 : Int32) (z1 : Int32) (z2 : Int32) (z3 : Int32) (h0 : Heap) (n0 : Nat) (O : Old Z n0 h0) (n0_r : n0 ≤ r) (V_r : Arv Z h0 r kr .byte 4 [(.int z0), (.int z1), (.int z2), (.int z3)] (.int 0)) (SA : Sta Z Z.heap "java/lang/StringUTF16" "$assertionsDisabled" "Z" (.int 1)) (SHI : Sta Z Z.heap "java/lang/StringUTF16" "HI_BYTE_SHIFT" "I" (.int 0)) (SLO : Sta Z Z.heap "java/lang/StringUTF16" "LO_BYTE_SHIFT" "I" (.int 8)) :
    MetFree l (⟨"java/lang/StringUTF16", "putChar", "([BII)V"⟩ : MethodName) (head1 (Jvm.Cond.code (⟨"java/lang/StringUTF16", "putChar", "([BII)V"⟩ : MethodName) jdk_52_method_4_code 3 none :: ws) ({ frames := 0, cells := 0, slots := 0, locals := 0 } : Room)) (fun aa U => aa = #[.ref r, .int (0 : Int32), .int x1] ∧ Z.Warmed39 U.vm ∧ U.heap = h0) (fun _ _ _ _ _ => True) (fun _ U o U' => Own.End U (Q_put20 Z r kr x1 z0 z1 z2 z3 h0 n0) 0 0 o U') := by
  refine MetFree.of_bodySF (plainFor_of_name pn_5) hisR ?_
  intro p e s m args below meth c s₁ Bd hml0 hP hK
  obtain ⟨rfl, hZ, hh⟩ := hP
  have hx := Bd.exec
  have hby := Bd.bytes
  have hml : c.maxLocals = 3 := hml0
  have hown : s.vm.findClass "java/lang/StringUTF16" = some m.cls := findClass_of_methodNamed Bd.named
  have hnm := (name_of_methodNamed Bd.named Bd.method).1
  have hret := Bd.returns
  have hlocks : meth.locks = false := Bd.notSynchronized
  have X0 : Stand p l e ({ frames := 0, cells := 0, slots := 0, locals := 0 } : Room) s m #[.ref r, .int (0 : Int32), .int x1] below meth c s₁ [] 0 0 := Stand.of_body Bd
  have e0 : s₁.heap = h0 := by rw [← hh, Bd.state]; rfl
  have N0 := Fr.nil n0
  show Own.Go p e below (Own.End s (Q_put20 Z r kr x1 z0 z1 z2 z3 h0 n0) 0 0) (s₁.setTop (entryFrame m #[.ref r, .int (0 : Int32), .int x1] 3))
  refine Own.Go.eq (ef_put20 m r (0 : Int32) x1) ?_
  have KP : Keep h0 h0 [r] := Keep.refl _ _
  refine Own.g_getS X0 hx hZ hown (host := "") (Or.inl (hw _ (List.mem_of_getElem? (i := 84) rfl))) Via.refl e0 (SA.ext O.2) (hb hby d19_0) 3 rfl ?_
  intro T1 X1 e1
  refine Own.g_if_ne_t X1 hx (hb hby d19_3) (by decide) 28 (by decide) ?_
  refine Own.g_iloadN X1 hx (hb hby d19_28) rfl 29 rfl ?_
  refine Own.g_iconst X1 hx (1 : Int32) (hb hby d19_29) rfl 30 rfl ?_
  refine Own.g_ishl X1 hx (hb hby d19_30) 31 rfl ?_
  rw [show ((0 : Int32) <<< ((1 : Int32) &&& 31)) = (0 : Int32) from by decide]
  refine Own.g_istoreN X1 hx #[.val (.ref r), .val (.int (0 : Int32)), .val (.int x1)] (hb hby d19_31) rfl 32 rfl ?_
  refine Own.g_aloadN X1 hx (hb hby d19_32) rfl rfl 33 rfl ?_
  refine Own.g_iloadN X1 hx (hb hby d19_33) rfl 34 rfl ?_
  refine Own.g_iinc X1 hx #[.val (.ref r), .val (.int (1 : Int32)), .val (.int x1)] (hb hby d19_34) rfl rfl 37 rfl ?_
  refine Own.g_iloadN X1 hx (hb hby d19_37) rfl 38 rfl ?_
  refine Own.g_getS X1 hx hZ hown (host := "") (Or.inl (hw _ (List.mem_of_getElem? (i := 85) rfl))) Via.refl e1 (SHI.ext O.2) (hb hby d19_38) 41 rfl ?_
  intro T2 X2 e2
  refine Own.g_ishr X2 hx (hb hby d19_41) 42 rfl ?_
  refine Own.g_i2b X2 hx (hb hby d19_42) 43 rfl ?_
  refine Own.g_stB X2 hx hZ e2 V_r ((x1 >>> ((0 : Int32) &&& 31)).toInt8.toInt32) (Own.nar_b _) (by decide) 0 rfl (Nat.le_of_ble_eq_true rfl) [(.int ((x1 >>> ((0 : Int32) &&& 31)).toInt8.toInt32)), (.int z1), (.int z2), (.int z3)] rfl (hb hby d19_43) 44 rfl ?_
  clear V_r; intro T3 h3 X3 e3 W3 V_r
  replace O := O.wr W3 n0_r
  replace KP := KP.wr W3 (Or.inl (List.mem_of_getElem? (i := 0) rfl))
  have N3 := Fr.snoc X3 N0 n0_r
  refine Own.g_aloadN X3 hx (hb hby d19_44) rfl rfl 45 rfl ?_
  refine Own.g_iloadN X3 hx (hb hby d19_45) rfl 46 rfl ?_
  refine Own.g_iloadN X3 hx (hb hby d19_46) rfl 47 rfl ?_
  refine Own.g_getS X3 hx hZ hown (host := "") (Or.inl (hw _ (List.mem_of_getElem? (i := 86) rfl))) Via.refl e3 (SLO.ext O.2) (hb hby d19_47) 50 rfl ?_
  intro T4 X4 e4
  refine Own.g_ishr X4 hx (hb hby d19_50) 51 rfl ?_
  refine Own.g_i2b X4 hx (hb hby d19_51) 52 rfl ?_
  refine Own.g_stB X4 hx hZ e4 V_r ((x1 >>> ((8 : Int32) &&& 31)).toInt8.toInt32) (Own.nar_b _) (by decide) 1 rfl (Nat.le_of_ble_eq_true rfl) [(.int ((x1 >>> ((0 : Int32) &&& 31)).toInt8.toInt32)), (.int ((x1 >>> ((8 : Int32) &&& 31)).toInt8.toInt32)), (.int z2), (.int z3)] rfl (hb hby d19_52) 53 rfl ?_
  clear V_r; intro T5 h5 X5 e5 W5 V_r
  replace O := O.wr W5 n0_r
  replace KP := KP.wr W5 (Or.inl (List.mem_of_getElem? (i := 0) rfl))
  have N5 := Fr.snoc X5 N3 n0_r
  refine Own.g_retV X5 hx hret hlocks (hb hby d19_53) (by decide) (by decide) e5 ?_
  exact ⟨rfl, N5, KP, V_r⟩
theorem ef_put21 (m : MethodId) (x0 : Addr) (x1 : Int32) (x2 : Int32) : entryFrame m #[.ref x0, .int x1, .int x2] 3 = mkF m 0 #[.val (.ref x0), .val (.int x1), .val (.int x2)] [] := by first | (simp [entryFrame, mkF, argsToLocals, Value.category]; done) | rfl
def Q_put21 (Z : State) (r : Addr) (kr : ClassId) (x1 : Int32) (z0 : Int32) (z1 : Int32) (z2 : Int32) (z3 : Int32) (h0 : Heap) (n0 : Nat) (v : Option Value) (h : Heap) (L : List Loc) : Prop := v = none ∧ Fr n0 L ∧ Keep h0 h [r] ∧ Arv Z h r kr .byte 4 [(.int z0), (.int z1), (.int ((x1 >>> ((0 : Int32) &&& 31)).toInt8.toInt32)), (.int ((x1 >>> ((8 : Int32) &&& 31)).toInt8.toInt32))] (.int 0)
set_option maxRecDepth 65536 in
set_option maxHeartbeats 40000000 in
theorem rm_put21 (l : Launch) (Z : State) (a0 : Array Value) (hw : ∀ d ∈ tables_1, d.before a0 Z = true) (ws : List Jvm.Cond) (r : Addr) (kr : ClassId) (x1 : Int32) (z0 : Int32) (z1 : Int32) (z2 : Int32) (z3 : Int32) (h0 : Heap) (n0 : Nat) (O : Old Z n0 h0) (n0_r : n0 ≤ r) (V_r : Arv Z h0 r kr .byte 4 [(.int z0), (.int z1), (.int z2), (.int z3)] (.int 0)) (SA : Sta Z Z.heap "java/lang/StringUTF16" "$assertionsDisabled" "Z" (.int 1)) (SHI : Sta Z Z.heap "java/lang/StringUTF16" "HI_BYTE_SHIFT" "I" (.int 0)) (SLO : Sta Z Z.heap "java/lang/StringUTF16" "LO_BYTE_SHIFT" "I" (.int 8)) :
    MetFree l (⟨"java/lang/StringUTF16", "putChar", "([BII)V"⟩ : MethodName) (head1 (Jvm.Cond.code (⟨"java/lang/StringUTF16", "putChar", "([BII)V"⟩ : MethodName) jdk_52_method_4_code 3 none :: ws) ({ frames := 0, cells := 0, slots := 0, locals := 0 } : Room)) (fun aa U => aa = #[.ref r, .int (1 : Int32), .int x1] ∧ Z.Warmed39 U.vm ∧ U.heap = h0) (fun _ _ _ _ _ => True) (fun _ U o U' => Own.End U (Q_put21 Z r kr x1 z0 z1 z2 z3 h0 n0) 0 0 o U') := by
  refine MetFree.of_bodySF (plainFor_of_name pn_5) hisR ?_
  intro p e s m args below meth c s₁ Bd hml0 hP hK
  obtain ⟨rfl, hZ, hh⟩ := hP
  have hx := Bd.exec
  have hby := Bd.bytes
  have hml : c.maxLocals = 3 := hml0
  have hown : s.vm.findClass "java/lang/StringUTF16" = some m.cls := findClass_of_methodNamed Bd.named
  have hnm := (name_of_methodNamed Bd.named Bd.method).1
  have hret := Bd.returns
  have hlocks : meth.locks = false := Bd.notSynchronized
  have X0 : Stand p l e ({ frames := 0, cells := 0, slots := 0, locals := 0 } : Room) s m #[.ref r, .int (1 : Int32), .int x1] below meth c s₁ [] 0 0 := Stand.of_body Bd
  have e0 : s₁.heap = h0 := by rw [← hh, Bd.state]; rfl
  have N0 := Fr.nil n0
  show Own.Go p e below (Own.End s (Q_put21 Z r kr x1 z0 z1 z2 z3 h0 n0) 0 0) (s₁.setTop (entryFrame m #[.ref r, .int (1 : Int32), .int x1] 3))
  refine Own.Go.eq (ef_put21 m r (1 : Int32) x1) ?_
  have KP : Keep h0 h0 [r] := Keep.refl _ _
  refine Own.g_getS X0 hx hZ hown (host := "") (Or.inl (hw _ (List.mem_of_getElem? (i := 84) rfl))) Via.refl e0 (SA.ext O.2) (hb hby d19_0) 3 rfl ?_
  intro T1 X1 e1
  refine Own.g_if_ne_t X1 hx (hb hby d19_3) (by decide) 28 (by decide) ?_
  refine Own.g_iloadN X1 hx (hb hby d19_28) rfl 29 rfl ?_
  refine Own.g_iconst X1 hx (1 : Int32) (hb hby d19_29) rfl 30 rfl ?_
  refine Own.g_ishl X1 hx (hb hby d19_30) 31 rfl ?_
  rw [show ((1 : Int32) <<< ((1 : Int32) &&& 31)) = (2 : Int32) from by decide]
  refine Own.g_istoreN X1 hx #[.val (.ref r), .val (.int (2 : Int32)), .val (.int x1)] (hb hby d19_31) rfl 32 rfl ?_
  refine Own.g_aloadN X1 hx (hb hby d19_32) rfl rfl 33 rfl ?_
  refine Own.g_iloadN X1 hx (hb hby d19_33) rfl 34 rfl ?_
  refine Own.g_iinc X1 hx #[.val (.ref r), .val (.int (3 : Int32)), .val (.int x1)] (hb hby d19_34) rfl rfl 37 rfl ?_
  refine Own.g_iloadN X1 hx (hb hby d19_37) rfl 38 rfl ?_
  refine Own.g_getS X1 hx hZ hown (host := "") (Or.inl (hw _ (List.mem_of_getElem? (i := 85) rfl))) Via.refl e1 (SHI.ext O.2) (hb hby d19_38) 41 rfl ?_
  intro T2 X2 e2
  refine Own.g_ishr X2 hx (hb hby d19_41) 42 rfl ?_
  refine Own.g_i2b X2 hx (hb hby d19_42) 43 rfl ?_
  refine Own.g_stB X2 hx hZ e2 V_r ((x1 >>> ((0 : Int32) &&& 31)).toInt8.toInt32) (Own.nar_b _) (by decide) 2 rfl (Nat.le_of_ble_eq_true rfl) [(.int z0), (.int z1), (.int ((x1 >>> ((0 : Int32) &&& 31)).toInt8.toInt32)), (.int z3)] rfl (hb hby d19_43) 44 rfl ?_
  clear V_r; intro T3 h3 X3 e3 W3 V_r
  replace O := O.wr W3 n0_r
  replace KP := KP.wr W3 (Or.inl (List.mem_of_getElem? (i := 0) rfl))
  have N3 := Fr.snoc X3 N0 n0_r
  refine Own.g_aloadN X3 hx (hb hby d19_44) rfl rfl 45 rfl ?_
  refine Own.g_iloadN X3 hx (hb hby d19_45) rfl 46 rfl ?_
  refine Own.g_iloadN X3 hx (hb hby d19_46) rfl 47 rfl ?_
  refine Own.g_getS X3 hx hZ hown (host := "") (Or.inl (hw _ (List.mem_of_getElem? (i := 86) rfl))) Via.refl e3 (SLO.ext O.2) (hb hby d19_47) 50 rfl ?_
  intro T4 X4 e4
  refine Own.g_ishr X4 hx (hb hby d19_50) 51 rfl ?_
  refine Own.g_i2b X4 hx (hb hby d19_51) 52 rfl ?_
  refine Own.g_stB X4 hx hZ e4 V_r ((x1 >>> ((8 : Int32) &&& 31)).toInt8.toInt32) (Own.nar_b _) (by decide) 3 rfl (Nat.le_of_ble_eq_true rfl) [(.int z0), (.int z1), (.int ((x1 >>> ((0 : Int32) &&& 31)).toInt8.toInt32)), (.int ((x1 >>> ((8 : Int32) &&& 31)).toInt8.toInt32))] rfl (hb hby d19_52) 53 rfl ?_
  clear V_r; intro T5 h5 X5 e5 W5 V_r
  replace O := O.wr W5 n0_r
  replace KP := KP.wr W5 (Or.inl (List.mem_of_getElem? (i := 0) rfl))
  have N5 := Fr.snoc X5 N3 n0_r
  refine Own.g_retV X5 hx hret hlocks (hb hby d19_53) (by decide) (by decide) e5 ?_
  exact ⟨rfl, N5, KP, V_r⟩
theorem ef_tob2 (m : MethodId) (x0 : Addr) (x1 : Int32) (x2 : Int32) : entryFrame m #[.ref x0, .int x1, .int x2] 5 = mkF m 0 #[.val (.ref x0), .val (.int x1), .val (.int x2), .unset, .unset] [] := by first | (simp [entryFrame, mkF, argsToLocals, Value.category]; done) | rfl
def Q_tob2 (Z : State) (a : Addr) (ka : ClassId) (x0 : Int32) (x1 : Int32) (h0 : Heap) (n0 : Nat) (v : Option Value) (h : Heap) (L : List Loc) : Prop := ∃ (r : Addr) (k : ClassId), v = some (.ref r) ∧ Fr n0 L ∧ Keep h0 h [] ∧ h0.size ≤ r ∧ Arv Z h r k .byte 4 [(.int ((x0 >>> ((0 : Int32) &&& 31)).toInt8.toInt32)), (.int ((x0 >>> ((8 : Int32) &&& 31)).toInt8.toInt32)), (.int ((x1 >>> ((0 : Int32) &&& 31)).toInt8.toInt32)), (.int ((x1 >>> ((8 : Int32) &&& 31)).toInt8.toInt32))] (.int 0)
set_option maxRecDepth 65536 in
set_option maxHeartbeats 40000000 in
theorem rm_tob2 (l : Launch) (Z : State) (a0 : Array Value) (hw : ∀ d ∈ tables_1, d.before a0 Z = true) (ws : List Jvm.Cond) (a : Addr) (ka : ClassId) (x0 : Int32) (x1 : Int32) (h0 : Heap) (n0 : Nat) (O : Old Z n0 h0) (V_a : Arv Z h0 a ka .char 2 [(.int x0), (.int x1)] (.int 0)) (SA : Sta Z Z.heap "java/lang/StringUTF16" "$assertionsDisabled" "Z" (.int 1)) (SHI : Sta Z Z.heap "java/lang/StringUTF16" "HI_BYTE_SHIFT" "I" (.int 0)) (SLO : Sta Z Z.heap "java/lang/StringUTF16" "LO_BYTE_SHIFT" "I" (.int 8)) :
    MetFree l (⟨"java/lang/StringUTF16", "toBytes", "([CII)[B"⟩ : MethodName) (head1 (Jvm.Cond.code (⟨"java/lang/StringUTF16", "toBytes", "([CII)[B"⟩ : MethodName) jdk_52_method_14_code 5 (some (.array .byte)) :: ws) ({ frames := 2, cells := 1, slots := 4, locals := 40 } : Room)) (fun aa U => aa = #[.ref a, .int (0 : Int32), .int (2 : Int32)] ∧ Z.Warmed39 U.vm ∧ U.heap = h0) (fun _ _ _ _ _ => True) (fun _ U o U' => Own.End U (Q_tob2 Z a ka x0 x1 h0 n0) 1 4 o U') := by
  refine MetFree.of_bodySF (plainFor_of_name pn_5) hisR ?_
  intro p e s m args below meth c s₁ Bd hml0 hP hK
  obtain ⟨rfl, hZ, hh⟩ := hP
  have hx := Bd.exec
  have hby := Bd.bytes
  have hml : c.maxLocals = 5 := hml0
  have hown : s.vm.findClass "java/lang/StringUTF16" = some m.cls := findClass_of_methodNamed Bd.named
  have hnm := (name_of_methodNamed Bd.named Bd.method).1
  have hret := Bd.returns
  have hlocks : meth.locks = false := Bd.notSynchronized
  have X0 : Stand p l e ({ frames := 2, cells := 1, slots := 4, locals := 40 } : Room) s m #[.ref a, .int (0 : Int32), .int (2 : Int32)] below meth c s₁ [] 0 0 := Stand.of_body Bd
  have e0 : s₁.heap = h0 := by rw [← hh, Bd.state]; rfl
  have N0 := Fr.nil n0
  show Own.Go p e below (Own.End s (Q_tob2 Z a ka x0 x1 h0 n0) 1 4) (s₁.setTop (entryFrame m #[.ref a, .int (0 : Int32), .int (2 : Int32)] 5))
  refine Own.Go.eq (ef_tob2 m a (0 : Int32) (2 : Int32)) ?_
  have KP : Keep h0 h0 [] := Keep.refl _ _
  refine Own.g_iloadN X0 hx (hb hby d16_0) rfl 1 rfl ?_
  refine Own.g_callS X0 hx (y := (⟨"java/lang/StringUTF16", "newBytesFor", "(I)[B"⟩ : MethodName)) hown (mvT hZ (hw _ (List.mem_of_getElem? (i := 74) rfl))) (mvT hZ (hw _ (List.mem_of_getElem? (i := 75) rfl))) (mvT hZ (hw _ (List.mem_of_getElem? (i := 66) rfl))) (mvT hZ (hw _ (List.mem_of_getElem? (i := 76) rfl))) (by decide) [.int (2 : Int32)] (Own.back (W := 0) (rm_nbf2 l Z a0 hw []  h0 n0 O ) hZ (hw _ (List.mem_of_getElem? (i := 76) rfl)) (hw _ (List.mem_of_getElem? (i := 66) rfl)) (by decide) (by decide)) e0 (by rw [hml]; rfl) [] (lenOf pd_3 rfl) rfl (Nat.le_of_ble_eq_true rfl) (hb hby d16_1) (by decide) (by decide) 4 rfl ?_
  rintro _ T1 L1 X1 ⟨r, k_r, rfl, N1q, K1, sz1, V_r⟩
  have N1 := Fr.app N0 N1q
  have ne_a_r : a ≠ r := Nat.ne_of_lt (Nat.lt_of_lt_of_le (V_a.lt) sz1)
  have n0_r : n0 ≤ r := Nat.le_trans (Nat.le_of_eq O.1.symm) (Nat.le_trans O.2.1 sz1)
  have sz0_r : h0.size ≤ r := Nat.le_trans KP.1 sz1
  replace V_a := V_a.keep K1 nin0
  replace O := O.keep K1 all0
  replace KP := KP.trans K1 all0
  show Own.Go p e below _ (T1.setTop (mkF m 4 #[.val (.ref a), .val (.int (0 : Int32)), .val (.int (2 : Int32)), .unset, .unset] [(.ref r)]))
  refine Own.g_astoreN X1 hx #[.val (.ref a), .val (.int (0 : Int32)), .val (.int (2 : Int32)), .val (.ref r), .unset] (hb hby d16_4) rfl rfl 5 rfl ?_
  refine Own.g_iconst X1 hx (0 : Int32) (hb hby d16_5) rfl 6 rfl ?_
  refine Own.g_istore X1 hx #[.val (.ref a), .val (.int (0 : Int32)), .val (.int (2 : Int32)), .val (.ref r), .val (.int (0 : Int32))] (hb hby d16_6) rfl 8 rfl ?_
  refine Own.g_iload X1 hx (hb hby d16_8) rfl 10 rfl ?_
  refine Own.g_iloadN X1 hx (hb hby d16_10) rfl 11 rfl ?_
  refine Own.g_icmp_ge_f X1 hx (hb hby d16_11) (by decide) 14 rfl ?_
  refine Own.g_aloadN X1 hx (hb hby d16_14) rfl rfl 15 rfl ?_
  refine Own.g_iload X1 hx (hb hby d16_15) rfl 17 rfl ?_
  refine Own.g_aloadN X1 hx (hb hby d16_17) rfl rfl 18 rfl ?_
  refine Own.g_iloadN X1 hx (hb hby d16_18) rfl 19 rfl ?_
  refine Own.g_ldC X1 hx hZ (rfl : T1.heap = T1.heap) V_a (by decide) x0 rfl (hb hby d16_19) 20 rfl ?_
  refine Own.g_callS X1 hx (y := (⟨"java/lang/StringUTF16", "putChar", "([BII)V"⟩ : MethodName)) hown (mvT hZ (hw _ (List.mem_of_getElem? (i := 81) rfl))) (mvT hZ (hw _ (List.mem_of_getElem? (i := 82) rfl))) (mvT hZ (hw _ (List.mem_of_getElem? (i := 66) rfl))) (mvT hZ (hw _ (List.mem_of_getElem? (i := 83) rfl))) (by decide) [.ref r, .int (0 : Int32), .int x0] (Own.back (W := 0) (rm_put20 l Z a0 hw [] r k_r x0 (0 : Int32) (0 : Int32) (0 : Int32) (0 : Int32) T1.heap n0 O n0_r V_r SA SHI SLO) hZ (hw _ (List.mem_of_getElem? (i := 83) rfl)) (hw _ (List.mem_of_getElem? (i := 66) rfl)) (by decide) (by decide)) (rfl : T1.heap = T1.heap) (by rw [hml]; rfl) [] (lenOf pd_4 rfl) rfl (Nat.le_of_ble_eq_true rfl) (hb hby d16_20) (by decide) (by decide) 23 rfl ?_
  rintro _ T2 L2 X2 ⟨rfl, N2q, K2, V_r⟩
  have N2 := Fr.app N1 N2q
  replace V_a := V_a.keep K2 (ninS ne_a_r nin0)
  replace O := O.keep K2 (allS n0_r all0)
  replace KP := KP.trans K2 (allS (Or.inr sz0_r) all0)
  show Own.Go p e below _ (T2.setTop (mkF m 23 #[.val (.ref a), .val (.int (0 : Int32)), .val (.int (2 : Int32)), .val (.ref r), .val (.int (0 : Int32))] []))
  refine Own.g_iinc X2 hx #[.val (.ref a), .val (.int (1 : Int32)), .val (.int (2 : Int32)), .val (.ref r), .val (.int (0 : Int32))] (hb hby d16_23) rfl rfl 26 rfl ?_
  refine Own.g_iinc X2 hx #[.val (.ref a), .val (.int (1 : Int32)), .val (.int (2 : Int32)), .val (.ref r), .val (.int (1 : Int32))] (hb hby d16_26) rfl rfl 29 rfl ?_
  refine Own.g_goto X2 hx (hb hby d16_29) 8 (by decide) ?_
  refine Own.g_iload X2 hx (hb hby d16_8) rfl 10 rfl ?_
  refine Own.g_iloadN X2 hx (hb hby d16_10) rfl 11 rfl ?_
  refine Own.g_icmp_ge_f X2 hx (hb hby d16_11) (by decide) 14 rfl ?_
  refine Own.g_aloadN X2 hx (hb hby d16_14) rfl rfl 15 rfl ?_
  refine Own.g_iload X2 hx (hb hby d16_15) rfl 17 rfl ?_
  refine Own.g_aloadN X2 hx (hb hby d16_17) rfl rfl 18 rfl ?_
  refine Own.g_iloadN X2 hx (hb hby d16_18) rfl 19 rfl ?_
  refine Own.g_ldC X2 hx hZ (rfl : T2.heap = T2.heap) V_a (by decide) x1 rfl (hb hby d16_19) 20 rfl ?_
  refine Own.g_callS X2 hx (y := (⟨"java/lang/StringUTF16", "putChar", "([BII)V"⟩ : MethodName)) hown (mvT hZ (hw _ (List.mem_of_getElem? (i := 81) rfl))) (mvT hZ (hw _ (List.mem_of_getElem? (i := 82) rfl))) (mvT hZ (hw _ (List.mem_of_getElem? (i := 66) rfl))) (mvT hZ (hw _ (List.mem_of_getElem? (i := 83) rfl))) (by decide) [.ref r, .int (1 : Int32), .int x1] (Own.back (W := 0) (rm_put21 l Z a0 hw [] r k_r x1 ((x0 >>> ((0 : Int32) &&& 31)).toInt8.toInt32) ((x0 >>> ((8 : Int32) &&& 31)).toInt8.toInt32) (0 : Int32) (0 : Int32) T2.heap n0 O n0_r V_r SA SHI SLO) hZ (hw _ (List.mem_of_getElem? (i := 83) rfl)) (hw _ (List.mem_of_getElem? (i := 66) rfl)) (by decide) (by decide)) (rfl : T2.heap = T2.heap) (by rw [hml]; rfl) [] (lenOf pd_4 rfl) rfl (Nat.le_of_ble_eq_true rfl) (hb hby d16_20) (by decide) (by decide) 23 rfl ?_
  rintro _ T3 L3 X3 ⟨rfl, N3q, K3, V_r⟩
  have N3 := Fr.app N2 N3q
  replace V_a := V_a.keep K3 (ninS ne_a_r nin0)
  replace O := O.keep K3 (allS n0_r all0)
  replace KP := KP.trans K3 (allS (Or.inr sz0_r) all0)
  show Own.Go p e below _ (T3.setTop (mkF m 23 #[.val (.ref a), .val (.int (1 : Int32)), .val (.int (2 : Int32)), .val (.ref r), .val (.int (1 : Int32))] []))
  refine Own.g_iinc X3 hx #[.val (.ref a), .val (.int (2 : Int32)), .val (.int (2 : Int32)), .val (.ref r), .val (.int (1 : Int32))] (hb hby d16_23) rfl rfl 26 rfl ?_
  refine Own.g_iinc X3 hx #[.val (.ref a), .val (.int (2 : Int32)), .val (.int (2 : Int32)), .val (.ref r), .val (.int (2 : Int32))] (hb hby d16_26) rfl rfl 29 rfl ?_
  refine Own.g_goto X3 hx (hb hby d16_29) 8 (by decide) ?_
  refine Own.g_iload X3 hx (hb hby d16_8) rfl 10 rfl ?_
  refine Own.g_iloadN X3 hx (hb hby d16_10) rfl 11 rfl ?_
  refine Own.g_icmp_ge_t X3 hx (hb hby d16_11) (by decide) 32 (by decide) ?_
  refine Own.g_aloadN X3 hx (hb hby d16_32) rfl rfl 33 rfl ?_
  refine Own.g_ret X3 hx hret hlocks rfl (Or.inr (Or.inr (Or.inr (Or.inr ⟨rfl, rfl, rfl⟩)))) (hb hby d16_33) (by decide) (by decide) (rfl : T3.heap = T3.heap) ?_
  exact ⟨r, k_r, rfl, N3, KP, sz0_r, V_r⟩
theorem ef_gch20 (m : MethodId) (x0 : Addr) (x1 : Int32) : entryFrame m #[.ref x0, .int x1] 2 = mkF m 0 #[.val (.ref x0), .val (.int x1)] [] := by first | (simp [entryFrame, mkF, argsToLocals, Value.category]; done) | rfl
def Q_gch20 (Z : State) (r : Addr) (kr : ClassId) (x0 : Int32) (x1 : Int32) (h0 : Heap) (n0 : Nat) (v : Option Value) (h : Heap) (L : List Loc) : Prop := v = some (.int x0) ∧ Fr n0 L ∧ h = h0
set_option maxRecDepth 65536 in
set_option maxHeartbeats 40000000 in
theorem rm_gch20 (l : Launch) (Z : State) (a0 : Array Value) (hw : ∀ d ∈ tables_1, d.before a0 Z = true) (ws : List Jvm.Cond) (r : Addr) (kr : ClassId) (x0 : Int32) (x1 : Int32) (h0 : Heap) (n0 : Nat) (O : Old Z n0 h0) (V_r : Arv Z h0 r kr .byte 4 [(.int ((x0 >>> ((0 : Int32) &&& 31)).toInt8.toInt32)), (.int ((x0 >>> ((8 : Int32) &&& 31)).toInt8.toInt32)), (.int ((x1 >>> ((0 : Int32) &&& 31)).toInt8.toInt32)), (.int ((x1 >>> ((8 : Int32) &&& 31)).toInt8.toInt32))] (.int 0)) (C_x0 : Own.Ch x0) (C_x1 : Own.Ch x1) (SA : Sta Z Z.heap "java/lang/StringUTF16" "$assertionsDisabled" "Z" (.int 1)) (SHI : Sta Z Z.heap "java/lang/StringUTF16" "HI_BYTE_SHIFT" "I" (.int 0)) (SLO : Sta Z Z.heap "java/lang/StringUTF16" "LO_BYTE_SHIFT" "I" (.int 8)) :
    MetFree l (⟨"java/lang/StringUTF16", "getChar", "([BI)C"⟩ : MethodName) (head1 (Jvm.Cond.code (⟨"java/lang/StringUTF16", "getChar", "([BI)C"⟩ : MethodName) jdk_52_method_5_code 2 (some .char) :: ws) ({ frames := 0, cells := 0, slots := 0, locals := 0 } : Room)) (fun aa U => aa = #[.ref r, .int (0 : Int32)] ∧ Z.Warmed39 U.vm ∧ U.heap = h0) (fun _ _ _ _ _ => True) (fun _ U o U' => Own.End U (Q_gch20 Z r kr x0 x1 h0 n0) 0 0 o U') := by
  refine MetFree.of_bodySF (plainFor_of_name pn_5) hisR ?_
  intro p e s m args below meth c s₁ Bd hml0 hP hK
  obtain ⟨rfl, hZ, hh⟩ := hP
  have hx := Bd.exec
  have hby := Bd.bytes
  have hml : c.maxLocals = 2 := hml0
  have hown : s.vm.findClass "java/lang/StringUTF16" = some m.cls := findClass_of_methodNamed Bd.named
  have hnm := (name_of_methodNamed Bd.named Bd.method).1
  have hret := Bd.returns
  have hlocks : meth.locks = false := Bd.notSynchronized
  have X0 : Stand p l e ({ frames := 0, cells := 0, slots := 0, locals := 0 } : Room) s m #[.ref r, .int (0 : Int32)] below meth c s₁ [] 0 0 := Stand.of_body Bd
  have e0 : s₁.heap = h0 := by rw [← hh, Bd.state]; rfl
  have N0 := Fr.nil n0
  show Own.Go p e below (Own.End s (Q_gch20 Z r kr x0 x1 h0 n0) 0 0) (s₁.setTop (entryFrame m #[.ref r, .int (0 : Int32)] 2))
  refine Own.Go.eq (ef_gch20 m r (0 : Int32)) ?_
  refine Own.g_getS X0 hx hZ hown (host := "") (Or.inl (hw _ (List.mem_of_getElem? (i := 84) rfl))) Via.refl e0 (SA.ext O.2) (hb hby d20_0) 3 rfl ?_
  intro T1 X1 e1
  refine Own.g_if_ne_t X1 hx (hb hby d20_3) (by decide) 28 (by decide) ?_
  refine Own.g_iloadN X1 hx (hb hby d20_28) rfl 29 rfl ?_
  refine Own.g_iconst X1 hx (1 : Int32) (hb hby d20_29) rfl 30 rfl ?_
  refine Own.g_ishl X1 hx (hb hby d20_30) 31 rfl ?_
  rw [show ((0 : Int32) <<< ((1 : Int32) &&& 31)) = (0 : Int32) from by decide]
  refine Own.g_istoreN X1 hx #[.val (.ref r), .val (.int (0 : Int32))] (hb hby d20_31) rfl 32 rfl ?_
  refine Own.g_aloadN X1 hx (hb hby d20_32) rfl rfl 33 rfl ?_
  refine Own.g_iloadN X1 hx (hb hby d20_33) rfl 34 rfl ?_
  refine Own.g_iinc X1 hx #[.val (.ref r), .val (.int (1 : Int32))] (hb hby d20_34) rfl rfl 37 rfl ?_
  refine Own.g_ldB X1 hx hZ e1 V_r (by decide) ((x0 >>> ((0 : Int32) &&& 31)).toInt8.toInt32) rfl (hb hby d20_37) 38 rfl ?_
  refine Own.g_sipush X1 hx (255 : Int32) (hb hby d20_38) rfl 41 rfl ?_
  refine Own.g_iand X1 hx (hb hby d20_41) 42 rfl ?_
  refine Own.g_getS X1 hx hZ hown (host := "") (Or.inl (hw _ (List.mem_of_getElem? (i := 85) rfl))) Via.refl e1 (SHI.ext O.2) (hb hby d20_42) 45 rfl ?_
  intro T2 X2 e2
  refine Own.g_ishl X2 hx (hb hby d20_45) 46 rfl ?_
  refine Own.g_aloadN X2 hx (hb hby d20_46) rfl rfl 47 rfl ?_
  refine Own.g_iloadN X2 hx (hb hby d20_47) rfl 48 rfl ?_
  refine Own.g_ldB X2 hx hZ e2 V_r (by decide) ((x0 >>> ((8 : Int32) &&& 31)).toInt8.toInt32) rfl (hb hby d20_48) 49 rfl ?_
  refine Own.g_sipush X2 hx (255 : Int32) (hb hby d20_49) rfl 52 rfl ?_
  refine Own.g_iand X2 hx (hb hby d20_52) 53 rfl ?_
  refine Own.g_getS X2 hx hZ hown (host := "") (Or.inl (hw _ (List.mem_of_getElem? (i := 86) rfl))) Via.refl e2 (SLO.ext O.2) (hb hby d20_53) 56 rfl ?_
  intro T3 X3 e3
  refine Own.g_ishl X3 hx (hb hby d20_56) 57 rfl ?_
  refine Own.g_ior X3 hx (hb hby d20_57) 58 rfl ?_
  refine Own.g_i2c X3 hx (hb hby d20_58) 59 rfl ?_
  rw [Own.getput C_x0]
  show Own.Go p e below _ (T3.setTop (mkF m 59 #[.val (.ref r), .val (.int (1 : Int32))] [(.int x0)]))
  refine Own.g_ret X3 hx hret hlocks (Own.narrow_ch C_x0) (Or.inl ⟨rfl, by simp, _, rfl⟩) (hb hby d20_59) (by decide) (by decide) e3 ?_
  exact ⟨rfl, N0, rfl⟩
theorem ef_gch21 (m : MethodId) (x0 : Addr) (x1 : Int32) : entryFrame m #[.ref x0, .int x1] 2 = mkF m 0 #[.val (.ref x0), .val (.int x1)] [] := by first | (simp [entryFrame, mkF, argsToLocals, Value.category]; done) | rfl
def Q_gch21 (Z : State) (r : Addr) (kr : ClassId) (x0 : Int32) (x1 : Int32) (h0 : Heap) (n0 : Nat) (v : Option Value) (h : Heap) (L : List Loc) : Prop := v = some (.int x1) ∧ Fr n0 L ∧ h = h0
set_option maxRecDepth 65536 in
set_option maxHeartbeats 40000000 in
theorem rm_gch21 (l : Launch) (Z : State) (a0 : Array Value) (hw : ∀ d ∈ tables_1, d.before a0 Z = true) (ws : List Jvm.Cond) (r : Addr) (kr : ClassId) (x0 : Int32) (x1 : Int32) (h0 : Heap) (n0 : Nat) (O : Old Z n0 h0) (V_r : Arv Z h0 r kr .byte 4 [(.int ((x0 >>> ((0 : Int32) &&& 31)).toInt8.toInt32)), (.int ((x0 >>> ((8 : Int32) &&& 31)).toInt8.toInt32)), (.int ((x1 >>> ((0 : Int32) &&& 31)).toInt8.toInt32)), (.int ((x1 >>> ((8 : Int32) &&& 31)).toInt8.toInt32))] (.int 0)) (C_x0 : Own.Ch x0) (C_x1 : Own.Ch x1) (SA : Sta Z Z.heap "java/lang/StringUTF16" "$assertionsDisabled" "Z" (.int 1)) (SHI : Sta Z Z.heap "java/lang/StringUTF16" "HI_BYTE_SHIFT" "I" (.int 0)) (SLO : Sta Z Z.heap "java/lang/StringUTF16" "LO_BYTE_SHIFT" "I" (.int 8)) :
    MetFree l (⟨"java/lang/StringUTF16", "getChar", "([BI)C"⟩ : MethodName) (head1 (Jvm.Cond.code (⟨"java/lang/StringUTF16", "getChar", "([BI)C"⟩ : MethodName) jdk_52_method_5_code 2 (some .char) :: ws) ({ frames := 0, cells := 0, slots := 0, locals := 0 } : Room)) (fun aa U => aa = #[.ref r, .int (1 : Int32)] ∧ Z.Warmed39 U.vm ∧ U.heap = h0) (fun _ _ _ _ _ => True) (fun _ U o U' => Own.End U (Q_gch21 Z r kr x0 x1 h0 n0) 0 0 o U') := by
  refine MetFree.of_bodySF (plainFor_of_name pn_5) hisR ?_
  intro p e s m args below meth c s₁ Bd hml0 hP hK
  obtain ⟨rfl, hZ, hh⟩ := hP
  have hx := Bd.exec
  have hby := Bd.bytes
  have hml : c.maxLocals = 2 := hml0
  have hown : s.vm.findClass "java/lang/StringUTF16" = some m.cls := findClass_of_methodNamed Bd.named
  have hnm := (name_of_methodNamed Bd.named Bd.method).1
  have hret := Bd.returns
  have hlocks : meth.locks = false := Bd.notSynchronized
  have X0 : Stand p l e ({ frames := 0, cells := 0, slots := 0, locals := 0 } : Room) s m #[.ref r, .int (1 : Int32)] below meth c s₁ [] 0 0 := Stand.of_body Bd
  have e0 : s₁.heap = h0 := by rw [← hh, Bd.state]; rfl
  have N0 := Fr.nil n0
  show Own.Go p e below (Own.End s (Q_gch21 Z r kr x0 x1 h0 n0) 0 0) (s₁.setTop (entryFrame m #[.ref r, .int (1 : Int32)] 2))
  refine Own.Go.eq (ef_gch21 m r (1 : Int32)) ?_
  refine Own.g_getS X0 hx hZ hown (host := "") (Or.inl (hw _ (List.mem_of_getElem? (i := 84) rfl))) Via.refl e0 (SA.ext O.2) (hb hby d20_0) 3 rfl ?_
  intro T1 X1 e1
  refine Own.g_if_ne_t X1 hx (hb hby d20_3) (by decide) 28 (by decide) ?_
  refine Own.g_iloadN X1 hx (hb hby d20_28) rfl 29 rfl ?_
  refine Own.g_iconst X1 hx (1 : Int32) (hb hby d20_29) rfl 30 rfl ?_
  refine Own.g_ishl X1 hx (hb hby d20_30) 31 rfl ?_
  rw [show ((1 : Int32) <<< ((1 : Int32) &&& 31)) = (2 : Int32) from by decide]
  refine Own.g_istoreN X1 hx #[.val (.ref r), .val (.int (2 : Int32))] (hb hby d20_31) rfl 32 rfl ?_
  refine Own.g_aloadN X1 hx (hb hby d20_32) rfl rfl 33 rfl ?_
  refine Own.g_iloadN X1 hx (hb hby d20_33) rfl 34 rfl ?_
  refine Own.g_iinc X1 hx #[.val (.ref r), .val (.int (3 : Int32))] (hb hby d20_34) rfl rfl 37 rfl ?_
  refine Own.g_ldB X1 hx hZ e1 V_r (by decide) ((x1 >>> ((0 : Int32) &&& 31)).toInt8.toInt32) rfl (hb hby d20_37) 38 rfl ?_
  refine Own.g_sipush X1 hx (255 : Int32) (hb hby d20_38) rfl 41 rfl ?_
  refine Own.g_iand X1 hx (hb hby d20_41) 42 rfl ?_
  refine Own.g_getS X1 hx hZ hown (host := "") (Or.inl (hw _ (List.mem_of_getElem? (i := 85) rfl))) Via.refl e1 (SHI.ext O.2) (hb hby d20_42) 45 rfl ?_
  intro T2 X2 e2
  refine Own.g_ishl X2 hx (hb hby d20_45) 46 rfl ?_
  refine Own.g_aloadN X2 hx (hb hby d20_46) rfl rfl 47 rfl ?_
  refine Own.g_iloadN X2 hx (hb hby d20_47) rfl 48 rfl ?_
  refine Own.g_ldB X2 hx hZ e2 V_r (by decide) ((x1 >>> ((8 : Int32) &&& 31)).toInt8.toInt32) rfl (hb hby d20_48) 49 rfl ?_
  refine Own.g_sipush X2 hx (255 : Int32) (hb hby d20_49) rfl 52 rfl ?_
  refine Own.g_iand X2 hx (hb hby d20_52) 53 rfl ?_
  refine Own.g_getS X2 hx hZ hown (host := "") (Or.inl (hw _ (List.mem_of_getElem? (i := 86) rfl))) Via.refl e2 (SLO.ext O.2) (hb hby d20_53) 56 rfl ?_
  intro T3 X3 e3
  refine Own.g_ishl X3 hx (hb hby d20_56) 57 rfl ?_
  refine Own.g_ior X3 hx (hb hby d20_57) 58 rfl ?_
  refine Own.g_i2c X3 hx (hb hby d20_58) 59 rfl ?_
  rw [Own.getput C_x1]
  show Own.Go p e below _ (T3.setTop (mkF m 59 #[.val (.ref r), .val (.int (3 : Int32))] [(.int x1)]))
  refine Own.g_ret X3 hx hret hlocks (Own.narrow_ch C_x1) (Or.inl ⟨rfl, by simp, _, rfl⟩) (hb hby d20_59) (by decide) (by decide) e3 ?_
  exact ⟨rfl, N0, rfl⟩
theorem ef_cp5_10 (m : MethodId) (x0 : Addr) (x1 : Int32) (x2 : Addr) (x3 : Int32) (x4 : Int32) : entryFrame m #[.ref x0, .int x1, .ref x2, .int x3, .int x4] 7 = mkF m 0 #[.val (.ref x0), .val (.int x1), .val (.ref x2), .val (.int x3), .val (.int x4), .unset, .unset] [] := by first | (simp [entryFrame, mkF, argsToLocals, Value.category]; done) | rfl
def Q_cp5_10 (Z : State) (a : Addr) (ka : ClassId) (u : Addr) (ku : ClassId) (x0 : Int32) (h0 : Heap) (n0 : Nat) (v : Option Value) (h : Heap) (L : List Loc) : Prop := v = some (.int 0) ∧ Fr n0 L ∧ Keep h0 h [u] ∧ Arv Z h u ku .byte 1 [(.int (0 : Int32))] (.int 0)
set_option maxRecDepth 65536 in
set_option maxHeartbeats 40000000 in
theorem rm_cp5_10 (l : Launch) (Z : State) (a0 : Array Value) (hw : ∀ d ∈ tables_1, d.before a0 Z = true) (ws : List Jvm.Cond) (a : Addr) (ka : ClassId) (u : Addr) (ku : ClassId) (x0 : Int32) (h0 : Heap) (n0 : Nat) (O : Old Z n0 h0) (n0_u : n0 ≤ u) (ne_a_u : a ≠ u) (V_a : Arv Z h0 a ka .char 1 [(.int x0)] (.int 0)) (V_u : Arv Z h0 u ku .byte 1 [(.int (0 : Int32))] (.int 0)) (hk_ : (255 : Int32) < x0) :
    MetFree l (⟨"java/lang/StringUTF16", "compress", "([CI[BII)I"⟩ : MethodName) (head1 (Jvm.Cond.code (⟨"java/lang/StringUTF16", "compress", "([CI[BII)I"⟩ : MethodName) jdk_52_method_21_code 7 (some .int) :: ws) ({ frames := 0, cells := 0, slots := 0, locals := 0 } : Room)) (fun aa U => aa = #[.ref a, .int (0 : Int32), .ref u, .int (0 : Int32), .int (1 : Int32)] ∧ Z.Warmed39 U.vm ∧ U.heap = h0) (fun _ _ _ _ _ => True) (fun _ U o U' => Own.End U (Q_cp5_10 Z a ka u ku x0 h0 n0) 0 0 o U') := by
  refine MetFree.of_bodySF (plainFor_of_name pn_5) hisR ?_
  intro p e s m args below meth c s₁ Bd hml0 hP hK
  obtain ⟨rfl, hZ, hh⟩ := hP
  have hx := Bd.exec
  have hby := Bd.bytes
  have hml : c.maxLocals = 7 := hml0
  have hown : s.vm.findClass "java/lang/StringUTF16" = some m.cls := findClass_of_methodNamed Bd.named
  have hnm := (name_of_methodNamed Bd.named Bd.method).1
  have hret := Bd.returns
  have hlocks : meth.locks = false := Bd.notSynchronized
  have X0 : Stand p l e ({ frames := 0, cells := 0, slots := 0, locals := 0 } : Room) s m #[.ref a, .int (0 : Int32), .ref u, .int (0 : Int32), .int (1 : Int32)] below meth c s₁ [] 0 0 := Stand.of_body Bd
  have e0 : s₁.heap = h0 := by rw [← hh, Bd.state]; rfl
  have N0 := Fr.nil n0
  show Own.Go p e below (Own.End s (Q_cp5_10 Z a ka u ku x0 h0 n0) 0 0) (s₁.setTop (entryFrame m #[.ref a, .int (0 : Int32), .ref u, .int (0 : Int32), .int (1 : Int32)] 7))
  refine Own.Go.eq (ef_cp5_10 m a (0 : Int32) u (0 : Int32) (1 : Int32)) ?_
  have KP : Keep h0 h0 [u] := Keep.refl _ _
  refine Own.g_iconst X0 hx (0 : Int32) (hb hby d15_0) rfl 1 rfl ?_
  refine Own.g_istore X0 hx #[.val (.ref a), .val (.int (0 : Int32)), .val (.ref u), .val (.int (0 : Int32)), .val (.int (1 : Int32)), .val (.int (0 : Int32)), .unset] (hb hby d15_1) rfl 3 rfl ?_
  refine Own.g_iload X0 hx (hb hby d15_3) rfl 5 rfl ?_
  refine Own.g_iload X0 hx (hb hby d15_5) rfl 7 rfl ?_
  refine Own.g_icmp_ge_f X0 hx (hb hby d15_7) (by decide) 10 rfl ?_
  refine Own.g_aloadN X0 hx (hb hby d15_10) rfl rfl 11 rfl ?_
  refine Own.g_iloadN X0 hx (hb hby d15_11) rfl 12 rfl ?_
  refine Own.g_ldC X0 hx hZ e0 V_a (by decide) x0 rfl (hb hby d15_12) 13 rfl ?_
  refine Own.g_istore X0 hx #[.val (.ref a), .val (.int (0 : Int32)), .val (.ref u), .val (.int (0 : Int32)), .val (.int (1 : Int32)), .val (.int (0 : Int32)), .val (.int x0)] (hb hby d15_13) rfl 15 rfl ?_
  refine Own.g_iload X0 hx (hb hby d15_15) rfl 17 rfl ?_
  refine Own.g_sipush X0 hx (255 : Int32) (hb hby d15_17) rfl 20 rfl ?_
  refine Own.g_icmp_le_f X0 hx (hb hby d15_20) hk_ 23 rfl ?_
  refine Own.g_iload X0 hx (hb hby d15_23) rfl 25 rfl ?_
  refine Own.g_ret X0 hx hret hlocks rfl (Or.inl ⟨rfl, by simp, _, rfl⟩) (hb hby d15_25) (by decide) (by decide) e0 ?_
  exact ⟨rfl, N0, KP, V_u⟩
theorem ef_cp3_10 (m : MethodId) (x0 : Addr) (x1 : Int32) (x2 : Int32) : entryFrame m #[.ref x0, .int x1, .int x2] 6 = mkF m 0 #[.val (.ref x0), .val (.int x1), .val (.int x2), .unset, .unset, .unset] [] := by first | (simp [entryFrame, mkF, argsToLocals, Value.category]; done) | rfl
def Q_cp3_10 (Z : State) (a : Addr) (ka : ClassId) (x0 : Int32) (h0 : Heap) (n0 : Nat) (v : Option Value) (h : Heap) (L : List Loc) : Prop := ∃ (r : Addr) (k : ClassId), v = some (.ref r) ∧ Fr n0 L ∧ Keep h0 h [] ∧ h0.size ≤ r ∧ Arv Z h r k .byte 2 [(.int ((x0 >>> ((0 : Int32) &&& 31)).toInt8.toInt32)), (.int ((x0 >>> ((8 : Int32) &&& 31)).toInt8.toInt32))] (.int 0)
set_option maxRecDepth 65536 in
set_option maxHeartbeats 40000000 in
theorem rm_cp3_10 (l : Launch) (Z : State) (a0 : Array Value) (hw : ∀ d ∈ tables_1, d.before a0 Z = true) (ws : List Jvm.Cond) (a : Addr) (ka : ClassId) (x0 : Int32) (h0 : Heap) (n0 : Nat) (O : Old Z n0 h0) (V_a : Arv Z h0 a ka .char 1 [(.int x0)] (.int 0)) (C_x0 : Own.Ch x0) (hk_ : (255 : Int32) < x0) (SA : Sta Z Z.heap "java/lang/StringUTF16" "$assertionsDisabled" "Z" (.int 1)) (SHI : Sta Z Z.heap "java/lang/StringUTF16" "HI_BYTE_SHIFT" "I" (.int 0)) (SLO : Sta Z Z.heap "java/lang/StringUTF16" "LO_BYTE_SHIFT" "I" (.int 8)) :
    MetFree l (⟨"java/lang/StringUTF16", "compress", "([CII)[B"⟩ : MethodName) (head1 (Jvm.Cond.code (⟨"java/lang/StringUTF16", "compress", "([CII)[B"⟩ : MethodName) jdk_52_method_16_code 6 (some (.array .byte)) :: ws) ({ frames := 3, cells := 2, slots := 3, locals := 64 } : Room)) (fun aa U => aa = #[.ref a, .int (0 : Int32), .int (1 : Int32)] ∧ Z.Warmed39 U.vm ∧ U.heap = h0) (fun _ _ _ _ _ => True) (fun _ U o U' => Own.End U (Q_cp3_10 Z a ka x0 h0 n0) 2 3 o U') := by
  refine MetFree.of_bodySF (plainFor_of_name pn_5) hisR ?_
  intro p e s m args below meth c s₁ Bd hml0 hP hK
  obtain ⟨rfl, hZ, hh⟩ := hP
  have hx := Bd.exec
  have hby := Bd.bytes
  have hml : c.maxLocals = 6 := hml0
  have hown : s.vm.findClass "java/lang/StringUTF16" = some m.cls := findClass_of_methodNamed Bd.named
  have hnm := (name_of_methodNamed Bd.named Bd.method).1
  have hret := Bd.returns
  have hlocks : meth.locks = false := Bd.notSynchronized
  have X0 : Stand p l e ({ frames := 3, cells := 2, slots := 3, locals := 64 } : Room) s m #[.ref a, .int (0 : Int32), .int (1 : Int32)] below meth c s₁ [] 0 0 := Stand.of_body Bd
  have e0 : s₁.heap = h0 := by rw [← hh, Bd.state]; rfl
  have N0 := Fr.nil n0
  show Own.Go p e below (Own.End s (Q_cp3_10 Z a ka x0 h0 n0) 2 3) (s₁.setTop (entryFrame m #[.ref a, .int (0 : Int32), .int (1 : Int32)] 6))
  refine Own.Go.eq (ef_cp3_10 m a (0 : Int32) (1 : Int32)) ?_
  have KP : Keep h0 h0 [] := Keep.refl _ _
  refine Own.g_iloadN X0 hx (hb hby d14_0) rfl 1 rfl ?_
  refine Own.g_newP X0 hx hZ (hw _ (List.mem_of_getElem? (i := 23) rfl)) e0 (hb hby d14_1) (by decide) 1 (by decide) (by decide) (by decide) (by decide) 3 rfl .byte rfl [(.int (0 : Int32))] (by intro i; first | rfl | (rcases i with _ | _ | _ | _ | _ | _ | _ | _ | _ | _ | _ | _ | _ | _ | _ | _ | _ | _ | _ | _ | _ | _ | _ | _ | i <;> rfl)) ?_
  intro T1 h1 u k_u X1 e1 E1 g1 V_u
  have ne_a_u : a ≠ u := Nat.ne_of_lt (Nat.lt_of_lt_of_le (V_a.lt) (Nat.le_of_eq g1.symm))
  have n0_u : n0 ≤ u := Nat.le_trans (Nat.le_of_eq O.1.symm) (Nat.le_trans O.2.1 (Nat.le_of_eq g1.symm))
  have sz0_u : h0.size ≤ u := Nat.le_trans KP.1 (Nat.le_of_eq g1.symm)
  replace V_a := V_a.ext E1
  replace O := O.ext E1
  replace KP := KP.ext E1
  change Arv Z h1 u k_u .byte (1 : Int32) [(.int (0 : Int32))] (.int (0 : Int32)) at V_u
  refine Own.g_astoreN X1 hx #[.val (.ref a), .val (.int (0 : Int32)), .val (.int (1 : Int32)), .val (.ref u), .unset, .unset] (hb hby d14_3) rfl rfl 4 rfl ?_
  refine Own.g_aloadN X1 hx (hb hby d14_4) rfl rfl 5 rfl ?_
  refine Own.g_iloadN X1 hx (hb hby d14_5) rfl 6 rfl ?_
  refine Own.g_aloadN X1 hx (hb hby d14_6) rfl rfl 7 rfl ?_
  refine Own.g_iconst X1 hx (0 : Int32) (hb hby d14_7) rfl 8 rfl ?_
  refine Own.g_iloadN X1 hx (hb hby d14_8) rfl 9 rfl ?_
  refine Own.g_callS X1 hx (y := (⟨"java/lang/StringUTF16", "compress", "([CI[BII)I"⟩ : MethodName)) hown (mvT hZ (hw _ (List.mem_of_getElem? (i := 68) rfl))) (mvT hZ (hw _ (List.mem_of_getElem? (i := 69) rfl))) (mvT hZ (hw _ (List.mem_of_getElem? (i := 66) rfl))) (mvT hZ (hw _ (List.mem_of_getElem? (i := 70) rfl))) (by decide) [.ref a, .int (0 : Int32), .ref u, .int (0 : Int32), .int (1 : Int32)] (Own.back (W := 0) (rm_cp5_10 l Z a0 hw [] a ka u k_u x0 h1 n0 O n0_u ne_a_u V_a V_u hk_) hZ (hw _ (List.mem_of_getElem? (i := 70) rfl)) (hw _ (List.mem_of_getElem? (i := 66) rfl)) (by decide) (by decide)) e1 (by rw [hml]; rfl) [] (lenOf pd_5 rfl) rfl (Nat.le_of_ble_eq_true rfl) (hb hby d14_9) (by decide) (by decide) 12 rfl ?_
  rintro _ T2 L2 X2 ⟨rfl, N2q, K2, V_u⟩
  have N2 := Fr.app N0 N2q
  replace V_a := V_a.keep K2 (ninS ne_a_u nin0)
  replace O := O.keep K2 (allS n0_u all0)
  replace KP := KP.trans K2 (allS (Or.inr sz0_u) all0)
  show Own.Go p e below _ (T2.setTop (mkF m 12 #[.val (.ref a), .val (.int (0 : Int32)), .val (.int (1 : Int32)), .val (.ref u), .unset, .unset] [(.int (0 : Int32))]))
  refine Own.g_istore X2 hx #[.val (.ref a), .val (.int (0 : Int32)), .val (.int (1 : Int32)), .val (.ref u), .val (.int (0 : Int32)), .unset] (hb hby d14_12) rfl 14 rfl ?_
  refine Own.g_iload X2 hx (hb hby d14_14) rfl 16 rfl ?_
  refine Own.g_iloadN X2 hx (hb hby d14_16) rfl 17 rfl ?_
  refine Own.g_icmp_eq_f X2 hx (hb hby d14_17) (by decide) 20 rfl ?_
  refine Own.g_aloadN X2 hx (hb hby d14_20) rfl rfl 21 rfl ?_
  refine Own.g_iloadN X2 hx (hb hby d14_21) rfl 22 rfl ?_
  refine Own.g_iloadN X2 hx (hb hby d14_22) rfl 23 rfl ?_
  refine Own.g_callS X2 hx (y := (⟨"java/lang/StringUTF16", "toBytes", "([CII)[B"⟩ : MethodName)) hown (mvT hZ (hw _ (List.mem_of_getElem? (i := 71) rfl))) (mvT hZ (hw _ (List.mem_of_getElem? (i := 72) rfl))) (mvT hZ (hw _ (List.mem_of_getElem? (i := 66) rfl))) (mvT hZ (hw _ (List.mem_of_getElem? (i := 73) rfl))) (by decide) [.ref a, .int (0 : Int32), .int (1 : Int32)] (Own.back (W := 0) (rm_tob1 l Z a0 hw [] a ka x0 T2.heap n0 O V_a SA SHI SLO) hZ (hw _ (List.mem_of_getElem? (i := 73) rfl)) (hw _ (List.mem_of_getElem? (i := 66) rfl)) (by decide) (by decide)) (rfl : T2.heap = T2.heap) (by rw [hml]; rfl) [] (lenOf pd_6 rfl) rfl (Nat.le_of_ble_eq_true rfl) (hb hby d14_23) (by decide) (by decide) 26 rfl ?_
  rintro _ T3 L3 X3 ⟨r, k_r, rfl, N3q, K3, sz3, V_r⟩
  have N3 := Fr.app N2 N3q
  have ne_a_r : a ≠ r := Nat.ne_of_lt (Nat.lt_of_lt_of_le (V_a.lt) sz3)
  have ne_u_r : u ≠ r := Nat.ne_of_lt (Nat.lt_of_lt_of_le (V_u.lt) sz3)
  have n0_r : n0 ≤ r := Nat.le_trans (Nat.le_of_eq O.1.symm) (Nat.le_trans O.2.1 sz3)
  have sz0_r : h0.size ≤ r := Nat.le_trans KP.1 sz3
  replace O := O.keep K3 all0
  replace KP := KP.trans K3 all0
  show Own.Go p e below _ (T3.setTop (mkF m 26 #[.val (.ref a), .val (.int (0 : Int32)), .val (.int (1 : Int32)), .val (.ref u), .val (.int (0 : Int32)), .unset] [(.ref r)]))
  refine Own.g_astore X3 hx #[.val (.ref a), .val (.int (0 : Int32)), .val (.int (1 : Int32)), .val (.ref u), .val (.int (0 : Int32)), .val (.ref r)] (hb hby d14_26) rfl rfl 28 rfl ?_
  refine Own.g_aload X3 hx (hb hby d14_28) rfl rfl 30 rfl ?_
  refine Own.g_iload X3 hx (hb hby d14_30) rfl 32 rfl ?_
  refine Own.g_callS X3 hx (y := (⟨"java/lang/StringUTF16", "getChar", "([BI)C"⟩ : MethodName)) hown (mvT hZ (hw _ (List.mem_of_getElem? (i := 87) rfl))) (mvT hZ (hw _ (List.mem_of_getElem? (i := 88) rfl))) (mvT hZ (hw _ (List.mem_of_getElem? (i := 66) rfl))) (mvT hZ (hw _ (List.mem_of_getElem? (i := 89) rfl))) (by decide) [.ref r, .int (0 : Int32)] (Own.back (W := 0) (rm_gch10 l Z a0 hw [] r k_r x0 T3.heap n0 O V_r C_x0 SA SHI SLO) hZ (hw _ (List.mem_of_getElem? (i := 89) rfl)) (hw _ (List.mem_of_getElem? (i := 66) rfl)) (by decide) (by decide)) (rfl : T3.heap = T3.heap) (by rw [hml]; rfl) [] (lenOf pd_7 rfl) rfl (Nat.le_of_ble_eq_true rfl) (hb hby d14_32) (by decide) (by decide) 35 rfl ?_
  rintro _ T4 L4 X4 ⟨rfl, N4q, eH4⟩
  have N4 := Fr.app N3 N4q
  show Own.Go p e below _ (T4.setTop (mkF m 35 #[.val (.ref a), .val (.int (0 : Int32)), .val (.int (1 : Int32)), .val (.ref u), .val (.int (0 : Int32)), .val (.ref r)] [(.int x0)]))
  refine Own.g_sipush X4 hx (255 : Int32) (hb hby d14_35) rfl 38 rfl ?_
  refine Own.g_icmp_gt_t X4 hx (hb hby d14_38) hk_ 54 (by decide) ?_
  refine Own.g_aload X4 hx (hb hby d14_54) rfl rfl 56 rfl ?_
  refine Own.g_ret X4 hx hret hlocks rfl (Or.inr (Or.inr (Or.inr (Or.inr ⟨rfl, rfl, rfl⟩)))) (hb hby d14_56) (by decide) (by decide) eH4 ?_
  exact ⟨r, k_r, rfl, N4, KP, sz0_r, V_r⟩
theorem ef_cfa10 (m : MethodId) (x0 : Addr) (x1 : Int32) : entryFrame m #[.ref x0, .int x1] 2 = mkF m 0 #[.val (.ref x0), .val (.int x1)] [] := by first | (simp [entryFrame, mkF, argsToLocals, Value.category]; done) | rfl
def Q_cfa10 (Z : State) (r : Addr) (kr : ClassId) (vs : List Value) (h0 : Heap) (n0 : Nat) (v : Option Value) (h : Heap) (L : List Loc) : Prop := v = some (.int 1) ∧ Fr n0 L ∧ h = h0
set_option maxRecDepth 65536 in
set_option maxHeartbeats 40000000 in
theorem rm_cfa10 (l : Launch) (Z : State) (a0 : Array Value) (hw : ∀ d ∈ tables_1, d.before a0 Z = true) (ws : List Jvm.Cond) (r : Addr) (kr : ClassId) (vs : List Value) (h0 : Heap) (n0 : Nat) (O : Old Z n0 h0) (V_r : Arv Z h0 r kr .byte 2 vs (.int 0)) :
    MetFree l (⟨"java/lang/StringUTF16", "coderFromArrayLen", "([BI)B"⟩ : MethodName) (head1 (Jvm.Cond.code (⟨"java/lang/StringUTF16", "coderFromArrayLen", "([BI)B"⟩ : MethodName) jdk_52_method_15_code 2 (some .byte) :: ws) ({ frames := 0, cells := 0, slots := 0, locals := 0 } : Room)) (fun aa U => aa = #[.ref r, .int (1 : Int32)] ∧ Z.Warmed39 U.vm ∧ U.heap = h0) (fun _ _ _ _ _ => True) (fun _ U o U' => Own.End U (Q_cfa10 Z r kr vs h0 n0) 0 0 o U') := by
  refine MetFree.of_bodySF (plainFor_of_name pn_5) hisR ?_
  intro p e s m args below meth c s₁ Bd hml0 hP hK
  obtain ⟨rfl, hZ, hh⟩ := hP
  have hx := Bd.exec
  have hby := Bd.bytes
  have hml : c.maxLocals = 2 := hml0
  have hown : s.vm.findClass "java/lang/StringUTF16" = some m.cls := findClass_of_methodNamed Bd.named
  have hnm := (name_of_methodNamed Bd.named Bd.method).1
  have hret := Bd.returns
  have hlocks : meth.locks = false := Bd.notSynchronized
  have X0 : Stand p l e ({ frames := 0, cells := 0, slots := 0, locals := 0 } : Room) s m #[.ref r, .int (1 : Int32)] below meth c s₁ [] 0 0 := Stand.of_body Bd
  have e0 : s₁.heap = h0 := by rw [← hh, Bd.state]; rfl
  have N0 := Fr.nil n0
  show Own.Go p e below (Own.End s (Q_cfa10 Z r kr vs h0 n0) 0 0) (s₁.setTop (entryFrame m #[.ref r, .int (1 : Int32)] 2))
  refine Own.Go.eq (ef_cfa10 m r (1 : Int32)) ?_
  refine Own.g_iloadN X0 hx (hb hby d21_0) rfl 1 rfl ?_
  refine Own.g_aloadN X0 hx (hb hby d21_1) rfl rfl 2 rfl ?_
  refine Own.g_alen X0 hx hZ e0 V_r (hb hby d21_2) 3 rfl ?_
  refine Own.g_isub X0 hx (hb hby d21_3) 4 rfl ?_
  rw [show ((1 : Int32) - (2 : Int32)) = (-1 : Int32) from by decide]
  refine Own.g_bipush X0 hx (31 : Int32) (hb hby d21_4) rfl 6 rfl ?_
  refine Own.g_iushr X0 hx (hb hby d21_6) 7 rfl ?_
  rw [show (((-1 : Int32).toUInt32 >>> ((31 : Int32) &&& 31).toUInt32).toInt32) = (1 : Int32) from by decide]
  refine Own.g_i2b X0 hx (hb hby d21_7) 8 rfl ?_
  rw [show ((1 : Int32).toInt8.toInt32) = (1 : Int32) from by decide]
  refine Own.g_ret X0 hx hret hlocks rfl (Or.inl ⟨rfl, by simp, _, rfl⟩) (hb hby d21_8) (by decide) (by decide) e0 ?_
  exact ⟨rfl, N0, rfl⟩
theorem ef_i4_10 (m : MethodId) (x0 : Addr) (x1 : Addr) (x2 : Int32) (x3 : Int32) : entryFrame m #[.ref x0, .ref x1, .int x2, .int x3, .null] 6 = mkF m 0 #[.val (.ref x0), .val (.ref x1), .val (.int x2), .val (.int x3), .val .null, .unset] [] := by first | (simp [entryFrame, mkF, argsToLocals, Value.category]; done) | rfl
def Q_i4_10 (Z : State) (x : Addr) (a : Addr) (ka : ClassId) (x0 : Int32) (G1 : Int32) (v0 : Value) (c0 : Value) (h0 : Heap) (n0 : Nat) (v : Option Value) (h : Heap) (L : List Loc) : Prop := v = none ∧ Fr n0 L ∧ Keep h0 h [x] ∧ Exa Z h x "java/lang/String" ∧ Fld Z h x "java/lang/String" "coder" "B" (.int 1) ∧ ∃ (r : Addr) (k : ClassId), h0.size ≤ r ∧ Fld Z h x "java/lang/String" "value" "[B" (.ref r) ∧ Arv Z h r k .byte 2 [(.int ((x0 >>> ((0 : Int32) &&& 31)).toInt8.toInt32)), (.int ((x0 >>> ((8 : Int32) &&& 31)).toInt8.toInt32))] (.int 0)
set_option maxRecDepth 65536 in
set_option maxHeartbeats 40000000 in
theorem rm_i4_10 (l : Launch) (Z : State) (a0 : Array Value) (hw : ∀ d ∈ tables_1, d.before a0 Z = true) (ws : List Jvm.Cond) (x : Addr) (a : Addr) (ka : ClassId) (x0 : Int32) (G1 : Int32) (v0 : Value) (c0 : Value) (h0 : Heap) (n0 : Nat) (O : Old Z n0 h0) (n0_x : n0 ≤ x) (ne_a_x : a ≠ x) (V_a : Arv Z h0 a ka .char 1 [(.int x0)] (.int 0)) (C_x0 : Own.Ch x0) (hk_ : (255 : Int32) < x0) (SA : Sta Z Z.heap "java/lang/StringUTF16" "$assertionsDisabled" "Z" (.int 1)) (SHI : Sta Z Z.heap "java/lang/StringUTF16" "HI_BYTE_SHIFT" "I" (.int 0)) (SLO : Sta Z Z.heap "java/lang/StringUTF16" "LO_BYTE_SHIFT" "I" (.int 8)) (O2 : Sta Z Z.heap "java/lang/String" "COMPACT_STRINGS" "Z" (.int G1)) (P5 : ¬ (G1 = (0 : Int32))) (E_x : Exa Z h0 x "java/lang/String") (F_x_value : Fld Z h0 x "java/lang/String" "value" "[B" v0) (F_x_coder : Fld Z h0 x "java/lang/String" "coder" "B" c0) :
    MetFree l (⟨"java/lang/String", "<init>", "([CIILjava/lang/Void;)V"⟩ : MethodName) (head1 (Jvm.Cond.code (⟨"java/lang/String", "<init>", "([CIILjava/lang/Void;)V"⟩ : MethodName) jdk_42_method_149_code 6 none :: ws) ({ frames := 4, cells := 2, slots := 3, locals := 90 } : Room)) (fun aa U => aa = #[.ref x, .ref a, .int (0 : Int32), .int (1 : Int32), .null] ∧ Z.Warmed39 U.vm ∧ U.heap = h0) (fun _ _ _ _ _ => True) (fun _ U o U' => Own.End U (Q_i4_10 Z x a ka x0 G1 v0 c0 h0 n0) 2 3 o U') := by
  refine MetFree.of_bodySF (plainFor_of_name pn_0) hisR ?_
  intro p e s m args below meth c s₁ Bd hml0 hP hK
  obtain ⟨rfl, hZ, hh⟩ := hP
  have hx := Bd.exec
  have hby := Bd.bytes
  have hml : c.maxLocals = 6 := hml0
  have hown : s.vm.findClass "java/lang/String" = some m.cls := findClass_of_methodNamed Bd.named
  have hnm := (name_of_methodNamed Bd.named Bd.method).1
  have hret := Bd.returns
  have hlocks : meth.locks = false := Bd.notSynchronized
  have X0 : Stand p l e ({ frames := 4, cells := 2, slots := 3, locals := 90 } : Room) s m #[.ref x, .ref a, .int (0 : Int32), .int (1 : Int32), .null] below meth c s₁ [] 0 0 := Stand.of_body Bd
  have e0 : s₁.heap = h0 := by rw [← hh, Bd.state]; rfl
  have N0 := Fr.nil n0
  show Own.Go p e below (Own.End s (Q_i4_10 Z x a ka x0 G1 v0 c0 h0 n0) 2 3) (s₁.setTop (entryFrame m #[.ref x, .ref a, .int (0 : Int32), .int (1 : Int32), .null] 6))
  refine Own.Go.eq (ef_i4_10 m x a (0 : Int32) (1 : Int32)) ?_
  have KP : Keep h0 h0 [x] := Keep.refl _ _
  refine Own.g_aloadN X0 hx (hb hby d4_0) rfl rfl 1 rfl ?_
  refine Own.g_initO X0 hx hZ hown (hw _ (List.mem_of_getElem? (i := 19) rfl)) (hw _ (List.mem_of_getElem? (i := 20) rfl)) (hw _ (List.mem_of_getElem? (i := 21) rfl)) e0 (by rw [hml]; rfl) (hb hby d4_1) (by decide) (W := 0) (Nat.le_of_ble_eq_true rfl) (by decide) 4 rfl ?_
  intro T1 X1 e1
  refine Own.g_iloadN X1 hx (hb hby d4_4) rfl 5 rfl ?_
  refine Own.g_if_ne_t X1 hx (hb hby d4_5) (by decide) 27 (by decide) ?_
  refine Own.g_getS X1 hx hZ hown (host := "") (Or.inl (hw _ (List.mem_of_getElem? (i := 55) rfl))) Via.refl e1 (O2.ext O.2) (hb hby d4_27) 30 rfl ?_
  intro T2 X2 e2
  refine Own.g_if_eq_f X2 hx (hb hby d4_30) P5 33 rfl ?_
  refine Own.g_aloadN X2 hx (hb hby d4_33) rfl rfl 34 rfl ?_
  refine Own.g_iloadN X2 hx (hb hby d4_34) rfl 35 rfl ?_
  refine Own.g_iloadN X2 hx (hb hby d4_35) rfl 36 rfl ?_
  refine Own.g_callS X2 hx (y := (⟨"java/lang/StringUTF16", "compress", "([CII)[B"⟩ : MethodName)) hown (mvT hZ (hw _ (List.mem_of_getElem? (i := 64) rfl))) (mvT hZ (hw _ (List.mem_of_getElem? (i := 65) rfl))) (mvT hZ (hw _ (List.mem_of_getElem? (i := 66) rfl))) (mvT hZ (hw _ (List.mem_of_getElem? (i := 67) rfl))) (by decide) [.ref a, .int (0 : Int32), .int (1 : Int32)] (Own.back (W := 0) (rm_cp3_10 l Z a0 hw [] a ka x0 h0 n0 O V_a C_x0 hk_ SA SHI SLO) hZ (hw _ (List.mem_of_getElem? (i := 67) rfl)) (hw _ (List.mem_of_getElem? (i := 66) rfl)) (by decide) (by decide)) e2 (by rw [hml]; rfl) [] (lenOf pd_6 rfl) rfl (Nat.le_of_ble_eq_true rfl) (hb hby d4_36) (by decide) (by decide) 39 rfl ?_
  rintro _ T3 L3 X3 ⟨r, k_r, rfl, N3q, K3, sz3, V_r⟩
  have N3 := Fr.app N0 N3q
  have ne_x_r : x ≠ r := Nat.ne_of_lt (Nat.lt_of_lt_of_le (E_x.lt) sz3)
  have n0_r : n0 ≤ r := Nat.le_trans (Nat.le_of_eq O.1.symm) (Nat.le_trans O.2.1 sz3)
  have sz0_r : h0.size ≤ r := Nat.le_trans KP.1 sz3
  replace E_x := E_x.keep K3
  replace F_x_value := F_x_value.keep K3 nin0
  replace F_x_coder := F_x_coder.keep K3 nin0
  replace O := O.keep K3 all0
  replace KP := KP.trans K3 all0
  show Own.Go p e below _ (T3.setTop (mkF m 39 #[.val (.ref x), .val (.ref a), .val (.int (0 : Int32)), .val (.int (1 : Int32)), .val .null, .unset] [(.ref r)]))
  refine Own.g_astore X3 hx #[.val (.ref x), .val (.ref a), .val (.int (0 : Int32)), .val (.int (1 : Int32)), .val .null, .val (.ref r)] (hb hby d4_39) rfl rfl 41 rfl ?_
  refine Own.g_aloadN X3 hx (hb hby d4_41) rfl rfl 42 rfl ?_
  refine Own.g_aload X3 hx (hb hby d4_42) rfl rfl 44 rfl ?_
  refine Own.g_iloadN X3 hx (hb hby d4_44) rfl 45 rfl ?_
  have ne_r_x := Ne.symm ne_x_r
  refine Own.g_callS X3 hx (y := (⟨"java/lang/StringUTF16", "coderFromArrayLen", "([BI)B"⟩ : MethodName)) hown (mvT hZ (hw _ (List.mem_of_getElem? (i := 90) rfl))) (mvT hZ (hw _ (List.mem_of_getElem? (i := 91) rfl))) (mvT hZ (hw _ (List.mem_of_getElem? (i := 66) rfl))) (mvT hZ (hw _ (List.mem_of_getElem? (i := 92) rfl))) (by decide) [.ref r, .int (1 : Int32)] (Own.back (W := 1) (rm_cfa10 l Z a0 hw [] r k_r [(.int ((x0 >>> ((0 : Int32) &&& 31)).toInt8.toInt32)), (.int ((x0 >>> ((8 : Int32) &&& 31)).toInt8.toInt32))] T3.heap n0 O V_r) hZ (hw _ (List.mem_of_getElem? (i := 92) rfl)) (hw _ (List.mem_of_getElem? (i := 66) rfl)) (by decide) (by decide)) (rfl : T3.heap = T3.heap) (by rw [hml]; rfl) [(.ref x)] (lenOf pd_8 rfl) rfl (Nat.le_of_ble_eq_true rfl) (hb hby d4_45) (by decide) (by decide) 48 rfl ?_
  rintro _ T4 L4 X4 ⟨rfl, N4q, eH4⟩
  have N4 := Fr.app N3 N4q
  show Own.Go p e below _ (T4.setTop (mkF m 48 #[.val (.ref x), .val (.ref a), .val (.int (0 : Int32)), .val (.int (1 : Int32)), .val .null, .val (.ref r)] [(.int (1 : Int32)), (.ref x)]))
  refine Own.g_putF X4 hx hZ hown (host := "") (Or.inl (hw _ (List.mem_of_getElem? (i := 29) rfl))) Via.refl eH4 F_x_coder E_x (Or.inr ⟨(hw _ (List.mem_of_getElem? (i := 25) rfl)), rfl, hnm⟩) (hw _ (List.mem_of_getElem? (i := 9) rfl)) (ty := .byte) (by decide) rfl rfl (hb hby d4_48) 51 rfl ?_
  clear F_x_coder; intro T5 h5 X5 e5 W5 F_x_coder Ew5
  replace E_x := E_x.wr W5
  replace F_x_value := F_x_value.other W5 (Or.inr (slot_ne (Or.inr (hw _ (List.mem_of_getElem? (i := 24) rfl))) (Or.inr (hw _ (List.mem_of_getElem? (i := 25) rfl))) (by decide) (t := (.array .byte)) (t' := .byte) (by decide) (by decide)))
  replace V_r := V_r.other W5 (Ne.symm ne_x_r)
  replace O := O.wr W5 n0_x
  replace KP := KP.wr W5 (Or.inl (List.mem_of_getElem? (i := 0) rfl))
  have N5 := Fr.snoc X5 N4 n0_x
  refine Own.g_aloadN X5 hx (hb hby d4_51) rfl rfl 52 rfl ?_
  refine Own.g_aload X5 hx (hb hby d4_52) rfl rfl 54 rfl ?_
  refine Own.g_putF X5 hx hZ hown (host := "") (Or.inl (hw _ (List.mem_of_getElem? (i := 28) rfl))) Via.refl e5 F_x_value E_x (Or.inr ⟨(hw _ (List.mem_of_getElem? (i := 24) rfl)), rfl, hnm⟩) (hw _ (List.mem_of_getElem? (i := 9) rfl)) (ty := (.array .byte)) (by decide) rfl rfl (hb hby d4_54) 57 rfl ?_
  clear F_x_value; intro T6 h6 X6 e6 W6 F_x_value Ew6
  replace E_x := E_x.wr W6
  replace F_x_coder := F_x_coder.other W6 (Or.inr (slot_ne (Or.inr (hw _ (List.mem_of_getElem? (i := 25) rfl))) (Or.inr (hw _ (List.mem_of_getElem? (i := 24) rfl))) (by decide) (t := .byte) (t' := (.array .byte)) (by decide) (by decide)))
  replace V_r := V_r.other W6 (Ne.symm ne_x_r)
  replace O := O.wr W6 n0_x
  replace KP := KP.wr W6 (Or.inl (List.mem_of_getElem? (i := 0) rfl))
  have N6 := Fr.snoc X6 N5 n0_x
  refine Own.g_retV X6 hx hret hlocks (hb hby d4_57) (by decide) (by decide) e6 ?_
  exact ⟨rfl, N6, KP, E_x, F_x_coder, r, k_r, sz0_r, F_x_value, V_r⟩
theorem ef_i3_10 (m : MethodId) (x0 : Addr) (x1 : Addr) : entryFrame m #[.ref x0, .ref x1] 2 = mkF m 0 #[.val (.ref x0), .val (.ref x1)] [] := by first | (simp [entryFrame, mkF, argsToLocals, Value.category]; done) | rfl
def Q_i3_10 (Z : State) (x : Addr) (a : Addr) (ka : ClassId) (x0 : Int32) (G1 : Int32) (v0 : Value) (c0 : Value) (h0 : Heap) (n0 : Nat) (v : Option Value) (h : Heap) (L : List Loc) : Prop := v = none ∧ Fr n0 L ∧ Keep h0 h [x] ∧ Exa Z h x "java/lang/String" ∧ Fld Z h x "java/lang/String" "coder" "B" (.int 1) ∧ ∃ (r : Addr) (k : ClassId), h0.size ≤ r ∧ Fld Z h x "java/lang/String" "value" "[B" (.ref r) ∧ Arv Z h r k .byte 2 [(.int ((x0 >>> ((0 : Int32) &&& 31)).toInt8.toInt32)), (.int ((x0 >>> ((8 : Int32) &&& 31)).toInt8.toInt32))] (.int 0)
set_option maxRecDepth 65536 in
set_option maxHeartbeats 40000000 in
theorem rm_i3_10 (l : Launch) (Z : State) (a0 : Array Value) (hw : ∀ d ∈ tables_1, d.before a0 Z = true) (ws : List Jvm.Cond) (x : Addr) (a : Addr) (ka : ClassId) (x0 : Int32) (G1 : Int32) (v0 : Value) (c0 : Value) (h0 : Heap) (n0 : Nat) (O : Old Z n0 h0) (n0_x : n0 ≤ x) (ne_a_x : a ≠ x) (V_a : Arv Z h0 a ka .char 1 [(.int x0)] (.int 0)) (C_x0 : Own.Ch x0) (hk_ : (255 : Int32) < x0) (SA : Sta Z Z.heap "java/lang/StringUTF16" "$assertionsDisabled" "Z" (.int 1)) (SHI : Sta Z Z.heap "java/lang/StringUTF16" "HI_BYTE_SHIFT" "I" (.int 0)) (SLO : Sta Z Z.heap "java/lang/StringUTF16" "LO_BYTE_SHIFT" "I" (.int 8)) (O2 : Sta Z Z.heap "java/lang/String" "COMPACT_STRINGS" "Z" (.int G1)) (P5 : ¬ (G1 = (0 : Int32))) (E_x : Exa Z h0 x "java/lang/String") (F_x_value : Fld Z h0 x "java/lang/String" "value" "[B" v0) (F_x_coder : Fld Z h0 x "java/lang/String" "coder" "B" c0) :
    MetFree l (⟨"java/lang/String", "<init>", "([C)V"⟩ : MethodName) (head1 (Jvm.Cond.code (⟨"java/lang/String", "<init>", "([C)V"⟩ : MethodName) jdk_42_method_3_code 2 none :: ws) ({ frames := 5, cells := 2, slots := 3, locals := 112 } : Room)) (fun aa U => aa = #[.ref x, .ref a] ∧ Z.Warmed39 U.vm ∧ U.heap = h0) (fun _ _ _ _ _ => True) (fun _ U o U' => Own.End U (Q_i3_10 Z x a ka x0 G1 v0 c0 h0 n0) 2 3 o U') := by
  refine MetFree.of_bodySF (plainFor_of_name pn_0) hisR ?_
  intro p e s m args below meth c s₁ Bd hml0 hP hK
  obtain ⟨rfl, hZ, hh⟩ := hP
  have hx := Bd.exec
  have hby := Bd.bytes
  have hml : c.maxLocals = 2 := hml0
  have hown : s.vm.findClass "java/lang/String" = some m.cls := findClass_of_methodNamed Bd.named
  have hnm := (name_of_methodNamed Bd.named Bd.method).1
  have hret := Bd.returns
  have hlocks : meth.locks = false := Bd.notSynchronized
  have X0 : Stand p l e ({ frames := 5, cells := 2, slots := 3, locals := 112 } : Room) s m #[.ref x, .ref a] below meth c s₁ [] 0 0 := Stand.of_body Bd
  have e0 : s₁.heap = h0 := by rw [← hh, Bd.state]; rfl
  have N0 := Fr.nil n0
  show Own.Go p e below (Own.End s (Q_i3_10 Z x a ka x0 G1 v0 c0 h0 n0) 2 3) (s₁.setTop (entryFrame m #[.ref x, .ref a] 2))
  refine Own.Go.eq (ef_i3_10 m x a) ?_
  have KP : Keep h0 h0 [x] := Keep.refl _ _
  refine Own.g_aloadN X0 hx (hb hby d3_0) rfl rfl 1 rfl ?_
  refine Own.g_aloadN X0 hx (hb hby d3_1) rfl rfl 2 rfl ?_
  refine Own.g_iconst X0 hx (0 : Int32) (hb hby d3_2) rfl 3 rfl ?_
  refine Own.g_aloadN X0 hx (hb hby d3_3) rfl rfl 4 rfl ?_
  refine Own.g_alen X0 hx hZ e0 V_a (hb hby d3_4) 5 rfl ?_
  refine Own.g_aconstNull X0 hx (hb hby d3_5) 6 rfl ?_
  refine Own.g_special X0 hx (y := (⟨"java/lang/String", "<init>", "([CIILjava/lang/Void;)V"⟩ : MethodName)) rfl hown (mvT hZ (hw _ (List.mem_of_getElem? (i := 15) rfl))) (mvT hZ (hw _ (List.mem_of_getElem? (i := 16) rfl))) (mvT hZ (hw _ (List.mem_of_getElem? (i := 18) rfl))) (by decide) (a := x) [.ref a, .int (0 : Int32), .int (1 : Int32), .null] (Own.back (W := 0) (rm_i4_10 l Z a0 hw [] x a ka x0 G1 v0 c0 h0 n0 O n0_x ne_a_x V_a C_x0 hk_ SA SHI SLO O2 P5 E_x F_x_value F_x_coder) hZ (hw _ (List.mem_of_getElem? (i := 18) rfl)) (hw _ (List.mem_of_getElem? (i := 10) rfl)) (by decide) (by decide)) e0 (by rw [hml]; rfl) [] (lenOf pd_0 rfl) rfl (Nat.le_of_ble_eq_true rfl) (hb hby d3_6) (by decide) (by decide) 9 rfl ?_
  rintro _ T1 L1 X1 ⟨rfl, N1q, K1, GE, GC, r, k_r, sz1, GV, GA⟩
  have N1 := Fr.app N0 N1q
  have szr := Nat.le_trans KP.1 sz1
  replace O := O.keep K1 (allS n0_x all0)
  replace KP := KP.trans K1 (allS (Or.inl (List.mem_of_getElem? (i := 0) rfl)) all0)
  show Own.Go p e below _ (T1.setTop (mkF m 9 #[.val (.ref x), .val (.ref a)] []))
  refine Own.g_retV X1 hx hret hlocks (hb hby d3_9) (by decide) (by decide) (rfl : T1.heap = T1.heap) ?_
  exact ⟨rfl, N1, KP, GE, GC, r, k_r, szr, GV, GA⟩
theorem ef_cp5_11 (m : MethodId) (x0 : Addr) (x1 : Int32) (x2 : Addr) (x3 : Int32) (x4 : Int32) : entryFrame m #[.ref x0, .int x1, .ref x2, .int x3, .int x4] 7 = mkF m 0 #[.val (.ref x0), .val (.int x1), .val (.ref x2), .val (.int x3), .val (.int x4), .unset, .unset] [] := by first | (simp [entryFrame, mkF, argsToLocals, Value.category]; done) | rfl
def Q_cp5_11 (Z : State) (a : Addr) (ka : ClassId) (u : Addr) (ku : ClassId) (x0 : Int32) (h0 : Heap) (n0 : Nat) (v : Option Value) (h : Heap) (L : List Loc) : Prop := v = some (.int 1) ∧ Fr n0 L ∧ Keep h0 h [u] ∧ Arv Z h u ku .byte 1 [(.int (x0.toInt8.toInt32))] (.int 0)
set_option maxRecDepth 65536 in
set_option maxHeartbeats 40000000 in
theorem rm_cp5_11 (l : Launch) (Z : State) (a0 : Array Value) (hw : ∀ d ∈ tables_1, d.before a0 Z = true) (ws : List Jvm.Cond) (a : Addr) (ka : ClassId) (u : Addr) (ku : ClassId) (x0 : Int32) (h0 : Heap) (n0 : Nat) (O : Old Z n0 h0) (n0_u : n0 ≤ u) (ne_a_u : a ≠ u) (V_a : Arv Z h0 a ka .char 1 [(.int x0)] (.int 0)) (V_u : Arv Z h0 u ku .byte 1 [(.int (0 : Int32))] (.int 0)) (L_x0 : Own.Lat x0) :
    MetFree l (⟨"java/lang/StringUTF16", "compress", "([CI[BII)I"⟩ : MethodName) (head1 (Jvm.Cond.code (⟨"java/lang/StringUTF16", "compress", "([CI[BII)I"⟩ : MethodName) jdk_52_method_21_code 7 (some .int) :: ws) ({ frames := 0, cells := 0, slots := 0, locals := 0 } : Room)) (fun aa U => aa = #[.ref a, .int (0 : Int32), .ref u, .int (0 : Int32), .int (1 : Int32)] ∧ Z.Warmed39 U.vm ∧ U.heap = h0) (fun _ _ _ _ _ => True) (fun _ U o U' => Own.End U (Q_cp5_11 Z a ka u ku x0 h0 n0) 0 0 o U') := by
  refine MetFree.of_bodySF (plainFor_of_name pn_5) hisR ?_
  intro p e s m args below meth c s₁ Bd hml0 hP hK
  obtain ⟨rfl, hZ, hh⟩ := hP
  have hx := Bd.exec
  have hby := Bd.bytes
  have hml : c.maxLocals = 7 := hml0
  have hown : s.vm.findClass "java/lang/StringUTF16" = some m.cls := findClass_of_methodNamed Bd.named
  have hnm := (name_of_methodNamed Bd.named Bd.method).1
  have hret := Bd.returns
  have hlocks : meth.locks = false := Bd.notSynchronized
  have X0 : Stand p l e ({ frames := 0, cells := 0, slots := 0, locals := 0 } : Room) s m #[.ref a, .int (0 : Int32), .ref u, .int (0 : Int32), .int (1 : Int32)] below meth c s₁ [] 0 0 := Stand.of_body Bd
  have e0 : s₁.heap = h0 := by rw [← hh, Bd.state]; rfl
  have N0 := Fr.nil n0
  show Own.Go p e below (Own.End s (Q_cp5_11 Z a ka u ku x0 h0 n0) 0 0) (s₁.setTop (entryFrame m #[.ref a, .int (0 : Int32), .ref u, .int (0 : Int32), .int (1 : Int32)] 7))
  refine Own.Go.eq (ef_cp5_11 m a (0 : Int32) u (0 : Int32) (1 : Int32)) ?_
  have KP : Keep h0 h0 [u] := Keep.refl _ _
  refine Own.g_iconst X0 hx (0 : Int32) (hb hby d15_0) rfl 1 rfl ?_
  refine Own.g_istore X0 hx #[.val (.ref a), .val (.int (0 : Int32)), .val (.ref u), .val (.int (0 : Int32)), .val (.int (1 : Int32)), .val (.int (0 : Int32)), .unset] (hb hby d15_1) rfl 3 rfl ?_
  refine Own.g_iload X0 hx (hb hby d15_3) rfl 5 rfl ?_
  refine Own.g_iload X0 hx (hb hby d15_5) rfl 7 rfl ?_
  refine Own.g_icmp_ge_f X0 hx (hb hby d15_7) (by decide) 10 rfl ?_
  refine Own.g_aloadN X0 hx (hb hby d15_10) rfl rfl 11 rfl ?_
  refine Own.g_iloadN X0 hx (hb hby d15_11) rfl 12 rfl ?_
  refine Own.g_ldC X0 hx hZ e0 V_a (by decide) x0 rfl (hb hby d15_12) 13 rfl ?_
  refine Own.g_istore X0 hx #[.val (.ref a), .val (.int (0 : Int32)), .val (.ref u), .val (.int (0 : Int32)), .val (.int (1 : Int32)), .val (.int (0 : Int32)), .val (.int x0)] (hb hby d15_13) rfl 15 rfl ?_
  refine Own.g_iload X0 hx (hb hby d15_15) rfl 17 rfl ?_
  refine Own.g_sipush X0 hx (255 : Int32) (hb hby d15_17) rfl 20 rfl ?_
  refine Own.g_icmp_le_t X0 hx (hb hby d15_20) L_x0.2 26 (by decide) ?_
  refine Own.g_aloadN X0 hx (hb hby d15_26) rfl rfl 27 rfl ?_
  refine Own.g_iloadN X0 hx (hb hby d15_27) rfl 28 rfl ?_
  refine Own.g_iload X0 hx (hb hby d15_28) rfl 30 rfl ?_
  refine Own.g_i2b X0 hx (hb hby d15_30) 31 rfl ?_
  refine Own.g_stB X0 hx hZ e0 V_u (x0.toInt8.toInt32) (Own.nar_b _) (by decide) 0 rfl (Nat.le_of_ble_eq_true rfl) [(.int (x0.toInt8.toInt32))] rfl (hb hby d15_31) 32 rfl ?_
  clear V_u; intro T1 h1 X1 e1 W1 V_u
  replace V_a := V_a.other W1 ne_a_u
  replace O := O.wr W1 n0_u
  replace KP := KP.wr W1 (Or.inl (List.mem_of_getElem? (i := 0) rfl))
  have N1 := Fr.snoc X1 N0 n0_u
  refine Own.g_iinc X1 hx #[.val (.ref a), .val (.int (1 : Int32)), .val (.ref u), .val (.int (0 : Int32)), .val (.int (1 : Int32)), .val (.int (0 : Int32)), .val (.int x0)] (hb hby d15_32) rfl rfl 35 rfl ?_
  refine Own.g_iinc X1 hx #[.val (.ref a), .val (.int (1 : Int32)), .val (.ref u), .val (.int (1 : Int32)), .val (.int (1 : Int32)), .val (.int (0 : Int32)), .val (.int x0)] (hb hby d15_35) rfl rfl 38 rfl ?_
  refine Own.g_iinc X1 hx #[.val (.ref a), .val (.int (1 : Int32)), .val (.ref u), .val (.int (1 : Int32)), .val (.int (1 : Int32)), .val (.int (1 : Int32)), .val (.int x0)] (hb hby d15_38) rfl rfl 41 rfl ?_
  refine Own.g_goto X1 hx (hb hby d15_41) 3 (by decide) ?_
  refine Own.g_iload X1 hx (hb hby d15_3) rfl 5 rfl ?_
  refine Own.g_iload X1 hx (hb hby d15_5) rfl 7 rfl ?_
  refine Own.g_icmp_ge_t X1 hx (hb hby d15_7) (by decide) 44 (by decide) ?_
  refine Own.g_iload X1 hx (hb hby d15_44) rfl 46 rfl ?_
  refine Own.g_ret X1 hx hret hlocks rfl (Or.inl ⟨rfl, by simp, _, rfl⟩) (hb hby d15_46) (by decide) (by decide) e1 ?_
  exact ⟨rfl, N1, KP, V_u⟩
theorem ef_cp3_11 (m : MethodId) (x0 : Addr) (x1 : Int32) (x2 : Int32) : entryFrame m #[.ref x0, .int x1, .int x2] 6 = mkF m 0 #[.val (.ref x0), .val (.int x1), .val (.int x2), .unset, .unset, .unset] [] := by first | (simp [entryFrame, mkF, argsToLocals, Value.category]; done) | rfl
def Q_cp3_11 (Z : State) (a : Addr) (ka : ClassId) (x0 : Int32) (h0 : Heap) (n0 : Nat) (v : Option Value) (h : Heap) (L : List Loc) : Prop := ∃ (r : Addr) (k : ClassId), v = some (.ref r) ∧ Fr n0 L ∧ Keep h0 h [] ∧ h0.size ≤ r ∧ Arv Z h r k .byte 1 [(.int (x0.toInt8.toInt32))] (.int 0)
set_option maxRecDepth 65536 in
set_option maxHeartbeats 40000000 in
theorem rm_cp3_11 (l : Launch) (Z : State) (a0 : Array Value) (hw : ∀ d ∈ tables_1, d.before a0 Z = true) (ws : List Jvm.Cond) (a : Addr) (ka : ClassId) (x0 : Int32) (h0 : Heap) (n0 : Nat) (O : Old Z n0 h0) (V_a : Arv Z h0 a ka .char 1 [(.int x0)] (.int 0)) (C_x0 : Own.Ch x0) (L_x0 : Own.Lat x0) (SA : Sta Z Z.heap "java/lang/StringUTF16" "$assertionsDisabled" "Z" (.int 1)) (SHI : Sta Z Z.heap "java/lang/StringUTF16" "HI_BYTE_SHIFT" "I" (.int 0)) (SLO : Sta Z Z.heap "java/lang/StringUTF16" "LO_BYTE_SHIFT" "I" (.int 8)) :
    MetFree l (⟨"java/lang/StringUTF16", "compress", "([CII)[B"⟩ : MethodName) (head1 (Jvm.Cond.code (⟨"java/lang/StringUTF16", "compress", "([CII)[B"⟩ : MethodName) jdk_52_method_16_code 6 (some (.array .byte)) :: ws) ({ frames := 3, cells := 1, slots := 1, locals := 64 } : Room)) (fun aa U => aa = #[.ref a, .int (0 : Int32), .int (1 : Int32)] ∧ Z.Warmed39 U.vm ∧ U.heap = h0) (fun _ _ _ _ _ => True) (fun _ U o U' => Own.End U (Q_cp3_11 Z a ka x0 h0 n0) 1 1 o U') := by
  refine MetFree.of_bodySF (plainFor_of_name pn_5) hisR ?_
  intro p e s m args below meth c s₁ Bd hml0 hP hK
  obtain ⟨rfl, hZ, hh⟩ := hP
  have hx := Bd.exec
  have hby := Bd.bytes
  have hml : c.maxLocals = 6 := hml0
  have hown : s.vm.findClass "java/lang/StringUTF16" = some m.cls := findClass_of_methodNamed Bd.named
  have hnm := (name_of_methodNamed Bd.named Bd.method).1
  have hret := Bd.returns
  have hlocks : meth.locks = false := Bd.notSynchronized
  have X0 : Stand p l e ({ frames := 3, cells := 1, slots := 1, locals := 64 } : Room) s m #[.ref a, .int (0 : Int32), .int (1 : Int32)] below meth c s₁ [] 0 0 := Stand.of_body Bd
  have e0 : s₁.heap = h0 := by rw [← hh, Bd.state]; rfl
  have N0 := Fr.nil n0
  show Own.Go p e below (Own.End s (Q_cp3_11 Z a ka x0 h0 n0) 1 1) (s₁.setTop (entryFrame m #[.ref a, .int (0 : Int32), .int (1 : Int32)] 6))
  refine Own.Go.eq (ef_cp3_11 m a (0 : Int32) (1 : Int32)) ?_
  have KP : Keep h0 h0 [] := Keep.refl _ _
  refine Own.g_iloadN X0 hx (hb hby d14_0) rfl 1 rfl ?_
  refine Own.g_newP X0 hx hZ (hw _ (List.mem_of_getElem? (i := 23) rfl)) e0 (hb hby d14_1) (by decide) 1 (by decide) (by decide) (by decide) (by decide) 3 rfl .byte rfl [(.int (0 : Int32))] (by intro i; first | rfl | (rcases i with _ | _ | _ | _ | _ | _ | _ | _ | _ | _ | _ | _ | _ | _ | _ | _ | _ | _ | _ | _ | _ | _ | _ | _ | i <;> rfl)) ?_
  intro T1 h1 u k_u X1 e1 E1 g1 V_u
  have ne_a_u : a ≠ u := Nat.ne_of_lt (Nat.lt_of_lt_of_le (V_a.lt) (Nat.le_of_eq g1.symm))
  have n0_u : n0 ≤ u := Nat.le_trans (Nat.le_of_eq O.1.symm) (Nat.le_trans O.2.1 (Nat.le_of_eq g1.symm))
  have sz0_u : h0.size ≤ u := Nat.le_trans KP.1 (Nat.le_of_eq g1.symm)
  replace V_a := V_a.ext E1
  replace O := O.ext E1
  replace KP := KP.ext E1
  change Arv Z h1 u k_u .byte (1 : Int32) [(.int (0 : Int32))] (.int (0 : Int32)) at V_u
  refine Own.g_astoreN X1 hx #[.val (.ref a), .val (.int (0 : Int32)), .val (.int (1 : Int32)), .val (.ref u), .unset, .unset] (hb hby d14_3) rfl rfl 4 rfl ?_
  refine Own.g_aloadN X1 hx (hb hby d14_4) rfl rfl 5 rfl ?_
  refine Own.g_iloadN X1 hx (hb hby d14_5) rfl 6 rfl ?_
  refine Own.g_aloadN X1 hx (hb hby d14_6) rfl rfl 7 rfl ?_
  refine Own.g_iconst X1 hx (0 : Int32) (hb hby d14_7) rfl 8 rfl ?_
  refine Own.g_iloadN X1 hx (hb hby d14_8) rfl 9 rfl ?_
  refine Own.g_callS X1 hx (y := (⟨"java/lang/StringUTF16", "compress", "([CI[BII)I"⟩ : MethodName)) hown (mvT hZ (hw _ (List.mem_of_getElem? (i := 68) rfl))) (mvT hZ (hw _ (List.mem_of_getElem? (i := 69) rfl))) (mvT hZ (hw _ (List.mem_of_getElem? (i := 66) rfl))) (mvT hZ (hw _ (List.mem_of_getElem? (i := 70) rfl))) (by decide) [.ref a, .int (0 : Int32), .ref u, .int (0 : Int32), .int (1 : Int32)] (Own.back (W := 0) (rm_cp5_11 l Z a0 hw [] a ka u k_u x0 h1 n0 O n0_u ne_a_u V_a V_u L_x0) hZ (hw _ (List.mem_of_getElem? (i := 70) rfl)) (hw _ (List.mem_of_getElem? (i := 66) rfl)) (by decide) (by decide)) e1 (by rw [hml]; rfl) [] (lenOf pd_5 rfl) rfl (Nat.le_of_ble_eq_true rfl) (hb hby d14_9) (by decide) (by decide) 12 rfl ?_
  rintro _ T2 L2 X2 ⟨rfl, N2q, K2, V_u⟩
  have N2 := Fr.app N0 N2q
  replace V_a := V_a.keep K2 (ninS ne_a_u nin0)
  replace O := O.keep K2 (allS n0_u all0)
  replace KP := KP.trans K2 (allS (Or.inr sz0_u) all0)
  show Own.Go p e below _ (T2.setTop (mkF m 12 #[.val (.ref a), .val (.int (0 : Int32)), .val (.int (1 : Int32)), .val (.ref u), .unset, .unset] [(.int (1 : Int32))]))
  refine Own.g_istore X2 hx #[.val (.ref a), .val (.int (0 : Int32)), .val (.int (1 : Int32)), .val (.ref u), .val (.int (1 : Int32)), .unset] (hb hby d14_12) rfl 14 rfl ?_
  refine Own.g_iload X2 hx (hb hby d14_14) rfl 16 rfl ?_
  refine Own.g_iloadN X2 hx (hb hby d14_16) rfl 17 rfl ?_
  refine Own.g_icmp_eq_t X2 hx (hb hby d14_17) rfl 57 (by decide) ?_
  refine Own.g_aloadN X2 hx (hb hby d14_57) rfl rfl 58 rfl ?_
  refine Own.g_ret X2 hx hret hlocks rfl (Or.inr (Or.inr (Or.inr (Or.inr ⟨rfl, rfl, rfl⟩)))) (hb hby d14_58) (by decide) (by decide) (rfl : T2.heap = T2.heap) ?_
  exact ⟨u, k_u, rfl, N2, KP, sz0_u, V_u⟩
theorem ef_cfa11 (m : MethodId) (x0 : Addr) (x1 : Int32) : entryFrame m #[.ref x0, .int x1] 2 = mkF m 0 #[.val (.ref x0), .val (.int x1)] [] := by first | (simp [entryFrame, mkF, argsToLocals, Value.category]; done) | rfl
def Q_cfa11 (Z : State) (r : Addr) (kr : ClassId) (vs : List Value) (h0 : Heap) (n0 : Nat) (v : Option Value) (h : Heap) (L : List Loc) : Prop := v = some (.int 0) ∧ Fr n0 L ∧ h = h0
set_option maxRecDepth 65536 in
set_option maxHeartbeats 40000000 in
theorem rm_cfa11 (l : Launch) (Z : State) (a0 : Array Value) (hw : ∀ d ∈ tables_1, d.before a0 Z = true) (ws : List Jvm.Cond) (r : Addr) (kr : ClassId) (vs : List Value) (h0 : Heap) (n0 : Nat) (O : Old Z n0 h0) (V_r : Arv Z h0 r kr .byte 1 vs (.int 0)) :
    MetFree l (⟨"java/lang/StringUTF16", "coderFromArrayLen", "([BI)B"⟩ : MethodName) (head1 (Jvm.Cond.code (⟨"java/lang/StringUTF16", "coderFromArrayLen", "([BI)B"⟩ : MethodName) jdk_52_method_15_code 2 (some .byte) :: ws) ({ frames := 0, cells := 0, slots := 0, locals := 0 } : Room)) (fun aa U => aa = #[.ref r, .int (1 : Int32)] ∧ Z.Warmed39 U.vm ∧ U.heap = h0) (fun _ _ _ _ _ => True) (fun _ U o U' => Own.End U (Q_cfa11 Z r kr vs h0 n0) 0 0 o U') := by
  refine MetFree.of_bodySF (plainFor_of_name pn_5) hisR ?_
  intro p e s m args below meth c s₁ Bd hml0 hP hK
  obtain ⟨rfl, hZ, hh⟩ := hP
  have hx := Bd.exec
  have hby := Bd.bytes
  have hml : c.maxLocals = 2 := hml0
  have hown : s.vm.findClass "java/lang/StringUTF16" = some m.cls := findClass_of_methodNamed Bd.named
  have hnm := (name_of_methodNamed Bd.named Bd.method).1
  have hret := Bd.returns
  have hlocks : meth.locks = false := Bd.notSynchronized
  have X0 : Stand p l e ({ frames := 0, cells := 0, slots := 0, locals := 0 } : Room) s m #[.ref r, .int (1 : Int32)] below meth c s₁ [] 0 0 := Stand.of_body Bd
  have e0 : s₁.heap = h0 := by rw [← hh, Bd.state]; rfl
  have N0 := Fr.nil n0
  show Own.Go p e below (Own.End s (Q_cfa11 Z r kr vs h0 n0) 0 0) (s₁.setTop (entryFrame m #[.ref r, .int (1 : Int32)] 2))
  refine Own.Go.eq (ef_cfa11 m r (1 : Int32)) ?_
  refine Own.g_iloadN X0 hx (hb hby d21_0) rfl 1 rfl ?_
  refine Own.g_aloadN X0 hx (hb hby d21_1) rfl rfl 2 rfl ?_
  refine Own.g_alen X0 hx hZ e0 V_r (hb hby d21_2) 3 rfl ?_
  refine Own.g_isub X0 hx (hb hby d21_3) 4 rfl ?_
  rw [show ((1 : Int32) - (1 : Int32)) = (0 : Int32) from by decide]
  refine Own.g_bipush X0 hx (31 : Int32) (hb hby d21_4) rfl 6 rfl ?_
  refine Own.g_iushr X0 hx (hb hby d21_6) 7 rfl ?_
  rw [show (((0 : Int32).toUInt32 >>> ((31 : Int32) &&& 31).toUInt32).toInt32) = (0 : Int32) from by decide]
  refine Own.g_i2b X0 hx (hb hby d21_7) 8 rfl ?_
  rw [show ((0 : Int32).toInt8.toInt32) = (0 : Int32) from by decide]
  refine Own.g_ret X0 hx hret hlocks rfl (Or.inl ⟨rfl, by simp, _, rfl⟩) (hb hby d21_8) (by decide) (by decide) e0 ?_
  exact ⟨rfl, N0, rfl⟩
theorem ef_i4_11 (m : MethodId) (x0 : Addr) (x1 : Addr) (x2 : Int32) (x3 : Int32) : entryFrame m #[.ref x0, .ref x1, .int x2, .int x3, .null] 6 = mkF m 0 #[.val (.ref x0), .val (.ref x1), .val (.int x2), .val (.int x3), .val .null, .unset] [] := by first | (simp [entryFrame, mkF, argsToLocals, Value.category]; done) | rfl
def Q_i4_11 (Z : State) (x : Addr) (a : Addr) (ka : ClassId) (x0 : Int32) (G1 : Int32) (v0 : Value) (c0 : Value) (h0 : Heap) (n0 : Nat) (v : Option Value) (h : Heap) (L : List Loc) : Prop := v = none ∧ Fr n0 L ∧ Keep h0 h [x] ∧ Exa Z h x "java/lang/String" ∧ Fld Z h x "java/lang/String" "coder" "B" (.int 0) ∧ ∃ (r : Addr) (k : ClassId), h0.size ≤ r ∧ Fld Z h x "java/lang/String" "value" "[B" (.ref r) ∧ Arv Z h r k .byte 1 [(.int (x0.toInt8.toInt32))] (.int 0)
set_option maxRecDepth 65536 in
set_option maxHeartbeats 40000000 in
theorem rm_i4_11 (l : Launch) (Z : State) (a0 : Array Value) (hw : ∀ d ∈ tables_1, d.before a0 Z = true) (ws : List Jvm.Cond) (x : Addr) (a : Addr) (ka : ClassId) (x0 : Int32) (G1 : Int32) (v0 : Value) (c0 : Value) (h0 : Heap) (n0 : Nat) (O : Old Z n0 h0) (n0_x : n0 ≤ x) (ne_a_x : a ≠ x) (V_a : Arv Z h0 a ka .char 1 [(.int x0)] (.int 0)) (C_x0 : Own.Ch x0) (L_x0 : Own.Lat x0) (SA : Sta Z Z.heap "java/lang/StringUTF16" "$assertionsDisabled" "Z" (.int 1)) (SHI : Sta Z Z.heap "java/lang/StringUTF16" "HI_BYTE_SHIFT" "I" (.int 0)) (SLO : Sta Z Z.heap "java/lang/StringUTF16" "LO_BYTE_SHIFT" "I" (.int 8)) (O2 : Sta Z Z.heap "java/lang/String" "COMPACT_STRINGS" "Z" (.int G1)) (P5 : ¬ (G1 = (0 : Int32))) (E_x : Exa Z h0 x "java/lang/String") (F_x_value : Fld Z h0 x "java/lang/String" "value" "[B" v0) (F_x_coder : Fld Z h0 x "java/lang/String" "coder" "B" c0) :
    MetFree l (⟨"java/lang/String", "<init>", "([CIILjava/lang/Void;)V"⟩ : MethodName) (head1 (Jvm.Cond.code (⟨"java/lang/String", "<init>", "([CIILjava/lang/Void;)V"⟩ : MethodName) jdk_42_method_149_code 6 none :: ws) ({ frames := 4, cells := 1, slots := 1, locals := 90 } : Room)) (fun aa U => aa = #[.ref x, .ref a, .int (0 : Int32), .int (1 : Int32), .null] ∧ Z.Warmed39 U.vm ∧ U.heap = h0) (fun _ _ _ _ _ => True) (fun _ U o U' => Own.End U (Q_i4_11 Z x a ka x0 G1 v0 c0 h0 n0) 1 1 o U') := by
  refine MetFree.of_bodySF (plainFor_of_name pn_0) hisR ?_
  intro p e s m args below meth c s₁ Bd hml0 hP hK
  obtain ⟨rfl, hZ, hh⟩ := hP
  have hx := Bd.exec
  have hby := Bd.bytes
  have hml : c.maxLocals = 6 := hml0
  have hown : s.vm.findClass "java/lang/String" = some m.cls := findClass_of_methodNamed Bd.named
  have hnm := (name_of_methodNamed Bd.named Bd.method).1
  have hret := Bd.returns
  have hlocks : meth.locks = false := Bd.notSynchronized
  have X0 : Stand p l e ({ frames := 4, cells := 1, slots := 1, locals := 90 } : Room) s m #[.ref x, .ref a, .int (0 : Int32), .int (1 : Int32), .null] below meth c s₁ [] 0 0 := Stand.of_body Bd
  have e0 : s₁.heap = h0 := by rw [← hh, Bd.state]; rfl
  have N0 := Fr.nil n0
  show Own.Go p e below (Own.End s (Q_i4_11 Z x a ka x0 G1 v0 c0 h0 n0) 1 1) (s₁.setTop (entryFrame m #[.ref x, .ref a, .int (0 : Int32), .int (1 : Int32), .null] 6))
  refine Own.Go.eq (ef_i4_11 m x a (0 : Int32) (1 : Int32)) ?_
  have KP : Keep h0 h0 [x] := Keep.refl _ _
  refine Own.g_aloadN X0 hx (hb hby d4_0) rfl rfl 1 rfl ?_
  refine Own.g_initO X0 hx hZ hown (hw _ (List.mem_of_getElem? (i := 19) rfl)) (hw _ (List.mem_of_getElem? (i := 20) rfl)) (hw _ (List.mem_of_getElem? (i := 21) rfl)) e0 (by rw [hml]; rfl) (hb hby d4_1) (by decide) (W := 0) (Nat.le_of_ble_eq_true rfl) (by decide) 4 rfl ?_
  intro T1 X1 e1
  refine Own.g_iloadN X1 hx (hb hby d4_4) rfl 5 rfl ?_
  refine Own.g_if_ne_t X1 hx (hb hby d4_5) (by decide) 27 (by decide) ?_
  refine Own.g_getS X1 hx hZ hown (host := "") (Or.inl (hw _ (List.mem_of_getElem? (i := 55) rfl))) Via.refl e1 (O2.ext O.2) (hb hby d4_27) 30 rfl ?_
  intro T2 X2 e2
  refine Own.g_if_eq_f X2 hx (hb hby d4_30) P5 33 rfl ?_
  refine Own.g_aloadN X2 hx (hb hby d4_33) rfl rfl 34 rfl ?_
  refine Own.g_iloadN X2 hx (hb hby d4_34) rfl 35 rfl ?_
  refine Own.g_iloadN X2 hx (hb hby d4_35) rfl 36 rfl ?_
  refine Own.g_callS X2 hx (y := (⟨"java/lang/StringUTF16", "compress", "([CII)[B"⟩ : MethodName)) hown (mvT hZ (hw _ (List.mem_of_getElem? (i := 64) rfl))) (mvT hZ (hw _ (List.mem_of_getElem? (i := 65) rfl))) (mvT hZ (hw _ (List.mem_of_getElem? (i := 66) rfl))) (mvT hZ (hw _ (List.mem_of_getElem? (i := 67) rfl))) (by decide) [.ref a, .int (0 : Int32), .int (1 : Int32)] (Own.back (W := 0) (rm_cp3_11 l Z a0 hw [] a ka x0 h0 n0 O V_a C_x0 L_x0 SA SHI SLO) hZ (hw _ (List.mem_of_getElem? (i := 67) rfl)) (hw _ (List.mem_of_getElem? (i := 66) rfl)) (by decide) (by decide)) e2 (by rw [hml]; rfl) [] (lenOf pd_6 rfl) rfl (Nat.le_of_ble_eq_true rfl) (hb hby d4_36) (by decide) (by decide) 39 rfl ?_
  rintro _ T3 L3 X3 ⟨r, k_r, rfl, N3q, K3, sz3, V_r⟩
  have N3 := Fr.app N0 N3q
  have ne_x_r : x ≠ r := Nat.ne_of_lt (Nat.lt_of_lt_of_le (E_x.lt) sz3)
  have n0_r : n0 ≤ r := Nat.le_trans (Nat.le_of_eq O.1.symm) (Nat.le_trans O.2.1 sz3)
  have sz0_r : h0.size ≤ r := Nat.le_trans KP.1 sz3
  replace E_x := E_x.keep K3
  replace F_x_value := F_x_value.keep K3 nin0
  replace F_x_coder := F_x_coder.keep K3 nin0
  replace O := O.keep K3 all0
  replace KP := KP.trans K3 all0
  show Own.Go p e below _ (T3.setTop (mkF m 39 #[.val (.ref x), .val (.ref a), .val (.int (0 : Int32)), .val (.int (1 : Int32)), .val .null, .unset] [(.ref r)]))
  refine Own.g_astore X3 hx #[.val (.ref x), .val (.ref a), .val (.int (0 : Int32)), .val (.int (1 : Int32)), .val .null, .val (.ref r)] (hb hby d4_39) rfl rfl 41 rfl ?_
  refine Own.g_aloadN X3 hx (hb hby d4_41) rfl rfl 42 rfl ?_
  refine Own.g_aload X3 hx (hb hby d4_42) rfl rfl 44 rfl ?_
  refine Own.g_iloadN X3 hx (hb hby d4_44) rfl 45 rfl ?_
  have ne_r_x := Ne.symm ne_x_r
  refine Own.g_callS X3 hx (y := (⟨"java/lang/StringUTF16", "coderFromArrayLen", "([BI)B"⟩ : MethodName)) hown (mvT hZ (hw _ (List.mem_of_getElem? (i := 90) rfl))) (mvT hZ (hw _ (List.mem_of_getElem? (i := 91) rfl))) (mvT hZ (hw _ (List.mem_of_getElem? (i := 66) rfl))) (mvT hZ (hw _ (List.mem_of_getElem? (i := 92) rfl))) (by decide) [.ref r, .int (1 : Int32)] (Own.back (W := 1) (rm_cfa11 l Z a0 hw [] r k_r [(.int (x0.toInt8.toInt32))] T3.heap n0 O V_r) hZ (hw _ (List.mem_of_getElem? (i := 92) rfl)) (hw _ (List.mem_of_getElem? (i := 66) rfl)) (by decide) (by decide)) (rfl : T3.heap = T3.heap) (by rw [hml]; rfl) [(.ref x)] (lenOf pd_8 rfl) rfl (Nat.le_of_ble_eq_true rfl) (hb hby d4_45) (by decide) (by decide) 48 rfl ?_
  rintro _ T4 L4 X4 ⟨rfl, N4q, eH4⟩
  have N4 := Fr.app N3 N4q
  show Own.Go p e below _ (T4.setTop (mkF m 48 #[.val (.ref x), .val (.ref a), .val (.int (0 : Int32)), .val (.int (1 : Int32)), .val .null, .val (.ref r)] [(.int (0 : Int32)), (.ref x)]))
  refine Own.g_putF X4 hx hZ hown (host := "") (Or.inl (hw _ (List.mem_of_getElem? (i := 29) rfl))) Via.refl eH4 F_x_coder E_x (Or.inr ⟨(hw _ (List.mem_of_getElem? (i := 25) rfl)), rfl, hnm⟩) (hw _ (List.mem_of_getElem? (i := 9) rfl)) (ty := .byte) (by decide) rfl rfl (hb hby d4_48) 51 rfl ?_
  clear F_x_coder; intro T5 h5 X5 e5 W5 F_x_coder Ew5
  replace E_x := E_x.wr W5
  replace F_x_value := F_x_value.other W5 (Or.inr (slot_ne (Or.inr (hw _ (List.mem_of_getElem? (i := 24) rfl))) (Or.inr (hw _ (List.mem_of_getElem? (i := 25) rfl))) (by decide) (t := (.array .byte)) (t' := .byte) (by decide) (by decide)))
  replace V_r := V_r.other W5 (Ne.symm ne_x_r)
  replace O := O.wr W5 n0_x
  replace KP := KP.wr W5 (Or.inl (List.mem_of_getElem? (i := 0) rfl))
  have N5 := Fr.snoc X5 N4 n0_x
  refine Own.g_aloadN X5 hx (hb hby d4_51) rfl rfl 52 rfl ?_
  refine Own.g_aload X5 hx (hb hby d4_52) rfl rfl 54 rfl ?_
  refine Own.g_putF X5 hx hZ hown (host := "") (Or.inl (hw _ (List.mem_of_getElem? (i := 28) rfl))) Via.refl e5 F_x_value E_x (Or.inr ⟨(hw _ (List.mem_of_getElem? (i := 24) rfl)), rfl, hnm⟩) (hw _ (List.mem_of_getElem? (i := 9) rfl)) (ty := (.array .byte)) (by decide) rfl rfl (hb hby d4_54) 57 rfl ?_
  clear F_x_value; intro T6 h6 X6 e6 W6 F_x_value Ew6
  replace E_x := E_x.wr W6
  replace F_x_coder := F_x_coder.other W6 (Or.inr (slot_ne (Or.inr (hw _ (List.mem_of_getElem? (i := 25) rfl))) (Or.inr (hw _ (List.mem_of_getElem? (i := 24) rfl))) (by decide) (t := .byte) (t' := (.array .byte)) (by decide) (by decide)))
  replace V_r := V_r.other W6 (Ne.symm ne_x_r)
  replace O := O.wr W6 n0_x
  replace KP := KP.wr W6 (Or.inl (List.mem_of_getElem? (i := 0) rfl))
  have N6 := Fr.snoc X6 N5 n0_x
  refine Own.g_retV X6 hx hret hlocks (hb hby d4_57) (by decide) (by decide) e6 ?_
  exact ⟨rfl, N6, KP, E_x, F_x_coder, r, k_r, sz0_r, F_x_value, V_r⟩
theorem ef_i3_11 (m : MethodId) (x0 : Addr) (x1 : Addr) : entryFrame m #[.ref x0, .ref x1] 2 = mkF m 0 #[.val (.ref x0), .val (.ref x1)] [] := by first | (simp [entryFrame, mkF, argsToLocals, Value.category]; done) | rfl
def Q_i3_11 (Z : State) (x : Addr) (a : Addr) (ka : ClassId) (x0 : Int32) (G1 : Int32) (v0 : Value) (c0 : Value) (h0 : Heap) (n0 : Nat) (v : Option Value) (h : Heap) (L : List Loc) : Prop := v = none ∧ Fr n0 L ∧ Keep h0 h [x] ∧ Exa Z h x "java/lang/String" ∧ Fld Z h x "java/lang/String" "coder" "B" (.int 0) ∧ ∃ (r : Addr) (k : ClassId), h0.size ≤ r ∧ Fld Z h x "java/lang/String" "value" "[B" (.ref r) ∧ Arv Z h r k .byte 1 [(.int (x0.toInt8.toInt32))] (.int 0)
set_option maxRecDepth 65536 in
set_option maxHeartbeats 40000000 in
theorem rm_i3_11 (l : Launch) (Z : State) (a0 : Array Value) (hw : ∀ d ∈ tables_1, d.before a0 Z = true) (ws : List Jvm.Cond) (x : Addr) (a : Addr) (ka : ClassId) (x0 : Int32) (G1 : Int32) (v0 : Value) (c0 : Value) (h0 : Heap) (n0 : Nat) (O : Old Z n0 h0) (n0_x : n0 ≤ x) (ne_a_x : a ≠ x) (V_a : Arv Z h0 a ka .char 1 [(.int x0)] (.int 0)) (C_x0 : Own.Ch x0) (L_x0 : Own.Lat x0) (SA : Sta Z Z.heap "java/lang/StringUTF16" "$assertionsDisabled" "Z" (.int 1)) (SHI : Sta Z Z.heap "java/lang/StringUTF16" "HI_BYTE_SHIFT" "I" (.int 0)) (SLO : Sta Z Z.heap "java/lang/StringUTF16" "LO_BYTE_SHIFT" "I" (.int 8)) (O2 : Sta Z Z.heap "java/lang/String" "COMPACT_STRINGS" "Z" (.int G1)) (P5 : ¬ (G1 = (0 : Int32))) (E_x : Exa Z h0 x "java/lang/String") (F_x_value : Fld Z h0 x "java/lang/String" "value" "[B" v0) (F_x_coder : Fld Z h0 x "java/lang/String" "coder" "B" c0) :
    MetFree l (⟨"java/lang/String", "<init>", "([C)V"⟩ : MethodName) (head1 (Jvm.Cond.code (⟨"java/lang/String", "<init>", "([C)V"⟩ : MethodName) jdk_42_method_3_code 2 none :: ws) ({ frames := 5, cells := 1, slots := 1, locals := 112 } : Room)) (fun aa U => aa = #[.ref x, .ref a] ∧ Z.Warmed39 U.vm ∧ U.heap = h0) (fun _ _ _ _ _ => True) (fun _ U o U' => Own.End U (Q_i3_11 Z x a ka x0 G1 v0 c0 h0 n0) 1 1 o U') := by
  refine MetFree.of_bodySF (plainFor_of_name pn_0) hisR ?_
  intro p e s m args below meth c s₁ Bd hml0 hP hK
  obtain ⟨rfl, hZ, hh⟩ := hP
  have hx := Bd.exec
  have hby := Bd.bytes
  have hml : c.maxLocals = 2 := hml0
  have hown : s.vm.findClass "java/lang/String" = some m.cls := findClass_of_methodNamed Bd.named
  have hnm := (name_of_methodNamed Bd.named Bd.method).1
  have hret := Bd.returns
  have hlocks : meth.locks = false := Bd.notSynchronized
  have X0 : Stand p l e ({ frames := 5, cells := 1, slots := 1, locals := 112 } : Room) s m #[.ref x, .ref a] below meth c s₁ [] 0 0 := Stand.of_body Bd
  have e0 : s₁.heap = h0 := by rw [← hh, Bd.state]; rfl
  have N0 := Fr.nil n0
  show Own.Go p e below (Own.End s (Q_i3_11 Z x a ka x0 G1 v0 c0 h0 n0) 1 1) (s₁.setTop (entryFrame m #[.ref x, .ref a] 2))
  refine Own.Go.eq (ef_i3_11 m x a) ?_
  have KP : Keep h0 h0 [x] := Keep.refl _ _
  refine Own.g_aloadN X0 hx (hb hby d3_0) rfl rfl 1 rfl ?_
  refine Own.g_aloadN X0 hx (hb hby d3_1) rfl rfl 2 rfl ?_
  refine Own.g_iconst X0 hx (0 : Int32) (hb hby d3_2) rfl 3 rfl ?_
  refine Own.g_aloadN X0 hx (hb hby d3_3) rfl rfl 4 rfl ?_
  refine Own.g_alen X0 hx hZ e0 V_a (hb hby d3_4) 5 rfl ?_
  refine Own.g_aconstNull X0 hx (hb hby d3_5) 6 rfl ?_
  refine Own.g_special X0 hx (y := (⟨"java/lang/String", "<init>", "([CIILjava/lang/Void;)V"⟩ : MethodName)) rfl hown (mvT hZ (hw _ (List.mem_of_getElem? (i := 15) rfl))) (mvT hZ (hw _ (List.mem_of_getElem? (i := 16) rfl))) (mvT hZ (hw _ (List.mem_of_getElem? (i := 18) rfl))) (by decide) (a := x) [.ref a, .int (0 : Int32), .int (1 : Int32), .null] (Own.back (W := 0) (rm_i4_11 l Z a0 hw [] x a ka x0 G1 v0 c0 h0 n0 O n0_x ne_a_x V_a C_x0 L_x0 SA SHI SLO O2 P5 E_x F_x_value F_x_coder) hZ (hw _ (List.mem_of_getElem? (i := 18) rfl)) (hw _ (List.mem_of_getElem? (i := 10) rfl)) (by decide) (by decide)) e0 (by rw [hml]; rfl) [] (lenOf pd_0 rfl) rfl (Nat.le_of_ble_eq_true rfl) (hb hby d3_6) (by decide) (by decide) 9 rfl ?_
  rintro _ T1 L1 X1 ⟨rfl, N1q, K1, GE, GC, r, k_r, sz1, GV, GA⟩
  have N1 := Fr.app N0 N1q
  have szr := Nat.le_trans KP.1 sz1
  replace O := O.keep K1 (allS n0_x all0)
  replace KP := KP.trans K1 (allS (Or.inl (List.mem_of_getElem? (i := 0) rfl)) all0)
  show Own.Go p e below _ (T1.setTop (mkF m 9 #[.val (.ref x), .val (.ref a)] []))
  refine Own.g_retV X1 hx hret hlocks (hb hby d3_9) (by decide) (by decide) (rfl : T1.heap = T1.heap) ?_
  exact ⟨rfl, N1, KP, GE, GC, r, k_r, szr, GV, GA⟩
theorem ef_cp5_20 (m : MethodId) (x0 : Addr) (x1 : Int32) (x2 : Addr) (x3 : Int32) (x4 : Int32) : entryFrame m #[.ref x0, .int x1, .ref x2, .int x3, .int x4] 7 = mkF m 0 #[.val (.ref x0), .val (.int x1), .val (.ref x2), .val (.int x3), .val (.int x4), .unset, .unset] [] := by first | (simp [entryFrame, mkF, argsToLocals, Value.category]; done) | rfl
def Q_cp5_20 (Z : State) (a : Addr) (ka : ClassId) (u : Addr) (ku : ClassId) (x0 : Int32) (x1 : Int32) (h0 : Heap) (n0 : Nat) (v : Option Value) (h : Heap) (L : List Loc) : Prop := v = some (.int 0) ∧ Fr n0 L ∧ Keep h0 h [u] ∧ Arv Z h u ku .byte 2 [(.int (0 : Int32)), (.int (0 : Int32))] (.int 0)
set_option maxRecDepth 65536 in
set_option maxHeartbeats 40000000 in
theorem rm_cp5_20 (l : Launch) (Z : State) (a0 : Array Value) (hw : ∀ d ∈ tables_1, d.before a0 Z = true) (ws : List Jvm.Cond) (a : Addr) (ka : ClassId) (u : Addr) (ku : ClassId) (x0 : Int32) (x1 : Int32) (h0 : Heap) (n0 : Nat) (O : Old Z n0 h0) (n0_u : n0 ≤ u) (ne_a_u : a ≠ u) (V_a : Arv Z h0 a ka .char 2 [(.int x0), (.int x1)] (.int 0)) (V_u : Arv Z h0 u ku .byte 2 [(.int (0 : Int32)), (.int (0 : Int32))] (.int 0)) (hk_ : (255 : Int32) < x0) :
    MetFree l (⟨"java/lang/StringUTF16", "compress", "([CI[BII)I"⟩ : MethodName) (head1 (Jvm.Cond.code (⟨"java/lang/StringUTF16", "compress", "([CI[BII)I"⟩ : MethodName) jdk_52_method_21_code 7 (some .int) :: ws) ({ frames := 0, cells := 0, slots := 0, locals := 0 } : Room)) (fun aa U => aa = #[.ref a, .int (0 : Int32), .ref u, .int (0 : Int32), .int (2 : Int32)] ∧ Z.Warmed39 U.vm ∧ U.heap = h0) (fun _ _ _ _ _ => True) (fun _ U o U' => Own.End U (Q_cp5_20 Z a ka u ku x0 x1 h0 n0) 0 0 o U') := by
  refine MetFree.of_bodySF (plainFor_of_name pn_5) hisR ?_
  intro p e s m args below meth c s₁ Bd hml0 hP hK
  obtain ⟨rfl, hZ, hh⟩ := hP
  have hx := Bd.exec
  have hby := Bd.bytes
  have hml : c.maxLocals = 7 := hml0
  have hown : s.vm.findClass "java/lang/StringUTF16" = some m.cls := findClass_of_methodNamed Bd.named
  have hnm := (name_of_methodNamed Bd.named Bd.method).1
  have hret := Bd.returns
  have hlocks : meth.locks = false := Bd.notSynchronized
  have X0 : Stand p l e ({ frames := 0, cells := 0, slots := 0, locals := 0 } : Room) s m #[.ref a, .int (0 : Int32), .ref u, .int (0 : Int32), .int (2 : Int32)] below meth c s₁ [] 0 0 := Stand.of_body Bd
  have e0 : s₁.heap = h0 := by rw [← hh, Bd.state]; rfl
  have N0 := Fr.nil n0
  show Own.Go p e below (Own.End s (Q_cp5_20 Z a ka u ku x0 x1 h0 n0) 0 0) (s₁.setTop (entryFrame m #[.ref a, .int (0 : Int32), .ref u, .int (0 : Int32), .int (2 : Int32)] 7))
  refine Own.Go.eq (ef_cp5_20 m a (0 : Int32) u (0 : Int32) (2 : Int32)) ?_
  have KP : Keep h0 h0 [u] := Keep.refl _ _
  refine Own.g_iconst X0 hx (0 : Int32) (hb hby d15_0) rfl 1 rfl ?_
  refine Own.g_istore X0 hx #[.val (.ref a), .val (.int (0 : Int32)), .val (.ref u), .val (.int (0 : Int32)), .val (.int (2 : Int32)), .val (.int (0 : Int32)), .unset] (hb hby d15_1) rfl 3 rfl ?_
  refine Own.g_iload X0 hx (hb hby d15_3) rfl 5 rfl ?_
  refine Own.g_iload X0 hx (hb hby d15_5) rfl 7 rfl ?_
  refine Own.g_icmp_ge_f X0 hx (hb hby d15_7) (by decide) 10 rfl ?_
  refine Own.g_aloadN X0 hx (hb hby d15_10) rfl rfl 11 rfl ?_
  refine Own.g_iloadN X0 hx (hb hby d15_11) rfl 12 rfl ?_
  refine Own.g_ldC X0 hx hZ e0 V_a (by decide) x0 rfl (hb hby d15_12) 13 rfl ?_
  refine Own.g_istore X0 hx #[.val (.ref a), .val (.int (0 : Int32)), .val (.ref u), .val (.int (0 : Int32)), .val (.int (2 : Int32)), .val (.int (0 : Int32)), .val (.int x0)] (hb hby d15_13) rfl 15 rfl ?_
  refine Own.g_iload X0 hx (hb hby d15_15) rfl 17 rfl ?_
  refine Own.g_sipush X0 hx (255 : Int32) (hb hby d15_17) rfl 20 rfl ?_
  refine Own.g_icmp_le_f X0 hx (hb hby d15_20) hk_ 23 rfl ?_
  refine Own.g_iload X0 hx (hb hby d15_23) rfl 25 rfl ?_
  refine Own.g_ret X0 hx hret hlocks rfl (Or.inl ⟨rfl, by simp, _, rfl⟩) (hb hby d15_25) (by decide) (by decide) e0 ?_
  exact ⟨rfl, N0, KP, V_u⟩
theorem ef_cp3_20 (m : MethodId) (x0 : Addr) (x1 : Int32) (x2 : Int32) : entryFrame m #[.ref x0, .int x1, .int x2] 6 = mkF m 0 #[.val (.ref x0), .val (.int x1), .val (.int x2), .unset, .unset, .unset] [] := by first | (simp [entryFrame, mkF, argsToLocals, Value.category]; done) | rfl
def Q_cp3_20 (Z : State) (a : Addr) (ka : ClassId) (x0 : Int32) (x1 : Int32) (h0 : Heap) (n0 : Nat) (v : Option Value) (h : Heap) (L : List Loc) : Prop := ∃ (r : Addr) (k : ClassId), v = some (.ref r) ∧ Fr n0 L ∧ Keep h0 h [] ∧ h0.size ≤ r ∧ Arv Z h r k .byte 4 [(.int ((x0 >>> ((0 : Int32) &&& 31)).toInt8.toInt32)), (.int ((x0 >>> ((8 : Int32) &&& 31)).toInt8.toInt32)), (.int ((x1 >>> ((0 : Int32) &&& 31)).toInt8.toInt32)), (.int ((x1 >>> ((8 : Int32) &&& 31)).toInt8.toInt32))] (.int 0)
set_option maxRecDepth 65536 in
set_option maxHeartbeats 40000000 in
theorem rm_cp3_20 (l : Launch) (Z : State) (a0 : Array Value) (hw : ∀ d ∈ tables_1, d.before a0 Z = true) (ws : List Jvm.Cond) (a : Addr) (ka : ClassId) (x0 : Int32) (x1 : Int32) (h0 : Heap) (n0 : Nat) (O : Old Z n0 h0) (V_a : Arv Z h0 a ka .char 2 [(.int x0), (.int x1)] (.int 0)) (C_x0 : Own.Ch x0) (C_x1 : Own.Ch x1) (hk_ : (255 : Int32) < x0) (SA : Sta Z Z.heap "java/lang/StringUTF16" "$assertionsDisabled" "Z" (.int 1)) (SHI : Sta Z Z.heap "java/lang/StringUTF16" "HI_BYTE_SHIFT" "I" (.int 0)) (SLO : Sta Z Z.heap "java/lang/StringUTF16" "LO_BYTE_SHIFT" "I" (.int 8)) :
    MetFree l (⟨"java/lang/StringUTF16", "compress", "([CII)[B"⟩ : MethodName) (head1 (Jvm.Cond.code (⟨"java/lang/StringUTF16", "compress", "([CII)[B"⟩ : MethodName) jdk_52_method_16_code 6 (some (.array .byte)) :: ws) ({ frames := 3, cells := 2, slots := 6, locals := 64 } : Room)) (fun aa U => aa = #[.ref a, .int (0 : Int32), .int (2 : Int32)] ∧ Z.Warmed39 U.vm ∧ U.heap = h0) (fun _ _ _ _ _ => True) (fun _ U o U' => Own.End U (Q_cp3_20 Z a ka x0 x1 h0 n0) 2 6 o U') := by
  refine MetFree.of_bodySF (plainFor_of_name pn_5) hisR ?_
  intro p e s m args below meth c s₁ Bd hml0 hP hK
  obtain ⟨rfl, hZ, hh⟩ := hP
  have hx := Bd.exec
  have hby := Bd.bytes
  have hml : c.maxLocals = 6 := hml0
  have hown : s.vm.findClass "java/lang/StringUTF16" = some m.cls := findClass_of_methodNamed Bd.named
  have hnm := (name_of_methodNamed Bd.named Bd.method).1
  have hret := Bd.returns
  have hlocks : meth.locks = false := Bd.notSynchronized
  have X0 : Stand p l e ({ frames := 3, cells := 2, slots := 6, locals := 64 } : Room) s m #[.ref a, .int (0 : Int32), .int (2 : Int32)] below meth c s₁ [] 0 0 := Stand.of_body Bd
  have e0 : s₁.heap = h0 := by rw [← hh, Bd.state]; rfl
  have N0 := Fr.nil n0
  show Own.Go p e below (Own.End s (Q_cp3_20 Z a ka x0 x1 h0 n0) 2 6) (s₁.setTop (entryFrame m #[.ref a, .int (0 : Int32), .int (2 : Int32)] 6))
  refine Own.Go.eq (ef_cp3_20 m a (0 : Int32) (2 : Int32)) ?_
  have KP : Keep h0 h0 [] := Keep.refl _ _
  refine Own.g_iloadN X0 hx (hb hby d14_0) rfl 1 rfl ?_
  refine Own.g_newP X0 hx hZ (hw _ (List.mem_of_getElem? (i := 23) rfl)) e0 (hb hby d14_1) (by decide) 2 (by decide) (by decide) (by decide) (by decide) 3 rfl .byte rfl [(.int (0 : Int32)), (.int (0 : Int32))] (by intro i; first | rfl | (rcases i with _ | _ | _ | _ | _ | _ | _ | _ | _ | _ | _ | _ | _ | _ | _ | _ | _ | _ | _ | _ | _ | _ | _ | _ | i <;> rfl)) ?_
  intro T1 h1 u k_u X1 e1 E1 g1 V_u
  have ne_a_u : a ≠ u := Nat.ne_of_lt (Nat.lt_of_lt_of_le (V_a.lt) (Nat.le_of_eq g1.symm))
  have n0_u : n0 ≤ u := Nat.le_trans (Nat.le_of_eq O.1.symm) (Nat.le_trans O.2.1 (Nat.le_of_eq g1.symm))
  have sz0_u : h0.size ≤ u := Nat.le_trans KP.1 (Nat.le_of_eq g1.symm)
  replace V_a := V_a.ext E1
  replace O := O.ext E1
  replace KP := KP.ext E1
  change Arv Z h1 u k_u .byte (2 : Int32) [(.int (0 : Int32)), (.int (0 : Int32))] (.int (0 : Int32)) at V_u
  refine Own.g_astoreN X1 hx #[.val (.ref a), .val (.int (0 : Int32)), .val (.int (2 : Int32)), .val (.ref u), .unset, .unset] (hb hby d14_3) rfl rfl 4 rfl ?_
  refine Own.g_aloadN X1 hx (hb hby d14_4) rfl rfl 5 rfl ?_
  refine Own.g_iloadN X1 hx (hb hby d14_5) rfl 6 rfl ?_
  refine Own.g_aloadN X1 hx (hb hby d14_6) rfl rfl 7 rfl ?_
  refine Own.g_iconst X1 hx (0 : Int32) (hb hby d14_7) rfl 8 rfl ?_
  refine Own.g_iloadN X1 hx (hb hby d14_8) rfl 9 rfl ?_
  refine Own.g_callS X1 hx (y := (⟨"java/lang/StringUTF16", "compress", "([CI[BII)I"⟩ : MethodName)) hown (mvT hZ (hw _ (List.mem_of_getElem? (i := 68) rfl))) (mvT hZ (hw _ (List.mem_of_getElem? (i := 69) rfl))) (mvT hZ (hw _ (List.mem_of_getElem? (i := 66) rfl))) (mvT hZ (hw _ (List.mem_of_getElem? (i := 70) rfl))) (by decide) [.ref a, .int (0 : Int32), .ref u, .int (0 : Int32), .int (2 : Int32)] (Own.back (W := 0) (rm_cp5_20 l Z a0 hw [] a ka u k_u x0 x1 h1 n0 O n0_u ne_a_u V_a V_u hk_) hZ (hw _ (List.mem_of_getElem? (i := 70) rfl)) (hw _ (List.mem_of_getElem? (i := 66) rfl)) (by decide) (by decide)) e1 (by rw [hml]; rfl) [] (lenOf pd_5 rfl) rfl (Nat.le_of_ble_eq_true rfl) (hb hby d14_9) (by decide) (by decide) 12 rfl ?_
  rintro _ T2 L2 X2 ⟨rfl, N2q, K2, V_u⟩
  have N2 := Fr.app N0 N2q
  replace V_a := V_a.keep K2 (ninS ne_a_u nin0)
  replace O := O.keep K2 (allS n0_u all0)
  replace KP := KP.trans K2 (allS (Or.inr sz0_u) all0)
  show Own.Go p e below _ (T2.setTop (mkF m 12 #[.val (.ref a), .val (.int (0 : Int32)), .val (.int (2 : Int32)), .val (.ref u), .unset, .unset] [(.int (0 : Int32))]))
  refine Own.g_istore X2 hx #[.val (.ref a), .val (.int (0 : Int32)), .val (.int (2 : Int32)), .val (.ref u), .val (.int (0 : Int32)), .unset] (hb hby d14_12) rfl 14 rfl ?_
  refine Own.g_iload X2 hx (hb hby d14_14) rfl 16 rfl ?_
  refine Own.g_iloadN X2 hx (hb hby d14_16) rfl 17 rfl ?_
  refine Own.g_icmp_eq_f X2 hx (hb hby d14_17) (by decide) 20 rfl ?_
  refine Own.g_aloadN X2 hx (hb hby d14_20) rfl rfl 21 rfl ?_
  refine Own.g_iloadN X2 hx (hb hby d14_21) rfl 22 rfl ?_
  refine Own.g_iloadN X2 hx (hb hby d14_22) rfl 23 rfl ?_
  refine Own.g_callS X2 hx (y := (⟨"java/lang/StringUTF16", "toBytes", "([CII)[B"⟩ : MethodName)) hown (mvT hZ (hw _ (List.mem_of_getElem? (i := 71) rfl))) (mvT hZ (hw _ (List.mem_of_getElem? (i := 72) rfl))) (mvT hZ (hw _ (List.mem_of_getElem? (i := 66) rfl))) (mvT hZ (hw _ (List.mem_of_getElem? (i := 73) rfl))) (by decide) [.ref a, .int (0 : Int32), .int (2 : Int32)] (Own.back (W := 0) (rm_tob2 l Z a0 hw [] a ka x0 x1 T2.heap n0 O V_a SA SHI SLO) hZ (hw _ (List.mem_of_getElem? (i := 73) rfl)) (hw _ (List.mem_of_getElem? (i := 66) rfl)) (by decide) (by decide)) (rfl : T2.heap = T2.heap) (by rw [hml]; rfl) [] (lenOf pd_6 rfl) rfl (Nat.le_of_ble_eq_true rfl) (hb hby d14_23) (by decide) (by decide) 26 rfl ?_
  rintro _ T3 L3 X3 ⟨r, k_r, rfl, N3q, K3, sz3, V_r⟩
  have N3 := Fr.app N2 N3q
  have ne_a_r : a ≠ r := Nat.ne_of_lt (Nat.lt_of_lt_of_le (V_a.lt) sz3)
  have ne_u_r : u ≠ r := Nat.ne_of_lt (Nat.lt_of_lt_of_le (V_u.lt) sz3)
  have n0_r : n0 ≤ r := Nat.le_trans (Nat.le_of_eq O.1.symm) (Nat.le_trans O.2.1 sz3)
  have sz0_r : h0.size ≤ r := Nat.le_trans KP.1 sz3
  replace O := O.keep K3 all0
  replace KP := KP.trans K3 all0
  show Own.Go p e below _ (T3.setTop (mkF m 26 #[.val (.ref a), .val (.int (0 : Int32)), .val (.int (2 : Int32)), .val (.ref u), .val (.int (0 : Int32)), .unset] [(.ref r)]))
  refine Own.g_astore X3 hx #[.val (.ref a), .val (.int (0 : Int32)), .val (.int (2 : Int32)), .val (.ref u), .val (.int (0 : Int32)), .val (.ref r)] (hb hby d14_26) rfl rfl 28 rfl ?_
  refine Own.g_aload X3 hx (hb hby d14_28) rfl rfl 30 rfl ?_
  refine Own.g_iload X3 hx (hb hby d14_30) rfl 32 rfl ?_
  refine Own.g_callS X3 hx (y := (⟨"java/lang/StringUTF16", "getChar", "([BI)C"⟩ : MethodName)) hown (mvT hZ (hw _ (List.mem_of_getElem? (i := 87) rfl))) (mvT hZ (hw _ (List.mem_of_getElem? (i := 88) rfl))) (mvT hZ (hw _ (List.mem_of_getElem? (i := 66) rfl))) (mvT hZ (hw _ (List.mem_of_getElem? (i := 89) rfl))) (by decide) [.ref r, .int (0 : Int32)] (Own.back (W := 0) (rm_gch20 l Z a0 hw [] r k_r x0 x1 T3.heap n0 O V_r C_x0 C_x1 SA SHI SLO) hZ (hw _ (List.mem_of_getElem? (i := 89) rfl)) (hw _ (List.mem_of_getElem? (i := 66) rfl)) (by decide) (by decide)) (rfl : T3.heap = T3.heap) (by rw [hml]; rfl) [] (lenOf pd_7 rfl) rfl (Nat.le_of_ble_eq_true rfl) (hb hby d14_32) (by decide) (by decide) 35 rfl ?_
  rintro _ T4 L4 X4 ⟨rfl, N4q, eH4⟩
  have N4 := Fr.app N3 N4q
  show Own.Go p e below _ (T4.setTop (mkF m 35 #[.val (.ref a), .val (.int (0 : Int32)), .val (.int (2 : Int32)), .val (.ref u), .val (.int (0 : Int32)), .val (.ref r)] [(.int x0)]))
  refine Own.g_sipush X4 hx (255 : Int32) (hb hby d14_35) rfl 38 rfl ?_
  refine Own.g_icmp_gt_t X4 hx (hb hby d14_38) hk_ 54 (by decide) ?_
  refine Own.g_aload X4 hx (hb hby d14_54) rfl rfl 56 rfl ?_
  refine Own.g_ret X4 hx hret hlocks rfl (Or.inr (Or.inr (Or.inr (Or.inr ⟨rfl, rfl, rfl⟩)))) (hb hby d14_56) (by decide) (by decide) eH4 ?_
  exact ⟨r, k_r, rfl, N4, KP, sz0_r, V_r⟩
theorem ef_cfa20 (m : MethodId) (x0 : Addr) (x1 : Int32) : entryFrame m #[.ref x0, .int x1] 2 = mkF m 0 #[.val (.ref x0), .val (.int x1)] [] := by first | (simp [entryFrame, mkF, argsToLocals, Value.category]; done) | rfl
def Q_cfa20 (Z : State) (r : Addr) (kr : ClassId) (vs : List Value) (h0 : Heap) (n0 : Nat) (v : Option Value) (h : Heap) (L : List Loc) : Prop := v = some (.int 1) ∧ Fr n0 L ∧ h = h0
set_option maxRecDepth 65536 in
set_option maxHeartbeats 40000000 in
theorem rm_cfa20 (l : Launch) (Z : State) (a0 : Array Value) (hw : ∀ d ∈ tables_1, d.before a0 Z = true) (ws : List Jvm.Cond) (r : Addr) (kr : ClassId) (vs : List Value) (h0 : Heap) (n0 : Nat) (O : Old Z n0 h0) (V_r : Arv Z h0 r kr .byte 4 vs (.int 0)) :
    MetFree l (⟨"java/lang/StringUTF16", "coderFromArrayLen", "([BI)B"⟩ : MethodName) (head1 (Jvm.Cond.code (⟨"java/lang/StringUTF16", "coderFromArrayLen", "([BI)B"⟩ : MethodName) jdk_52_method_15_code 2 (some .byte) :: ws) ({ frames := 0, cells := 0, slots := 0, locals := 0 } : Room)) (fun aa U => aa = #[.ref r, .int (2 : Int32)] ∧ Z.Warmed39 U.vm ∧ U.heap = h0) (fun _ _ _ _ _ => True) (fun _ U o U' => Own.End U (Q_cfa20 Z r kr vs h0 n0) 0 0 o U') := by
  refine MetFree.of_bodySF (plainFor_of_name pn_5) hisR ?_
  intro p e s m args below meth c s₁ Bd hml0 hP hK
  obtain ⟨rfl, hZ, hh⟩ := hP
  have hx := Bd.exec
  have hby := Bd.bytes
  have hml : c.maxLocals = 2 := hml0
  have hown : s.vm.findClass "java/lang/StringUTF16" = some m.cls := findClass_of_methodNamed Bd.named
  have hnm := (name_of_methodNamed Bd.named Bd.method).1
  have hret := Bd.returns
  have hlocks : meth.locks = false := Bd.notSynchronized
  have X0 : Stand p l e ({ frames := 0, cells := 0, slots := 0, locals := 0 } : Room) s m #[.ref r, .int (2 : Int32)] below meth c s₁ [] 0 0 := Stand.of_body Bd
  have e0 : s₁.heap = h0 := by rw [← hh, Bd.state]; rfl
  have N0 := Fr.nil n0
  show Own.Go p e below (Own.End s (Q_cfa20 Z r kr vs h0 n0) 0 0) (s₁.setTop (entryFrame m #[.ref r, .int (2 : Int32)] 2))
  refine Own.Go.eq (ef_cfa20 m r (2 : Int32)) ?_
  refine Own.g_iloadN X0 hx (hb hby d21_0) rfl 1 rfl ?_
  refine Own.g_aloadN X0 hx (hb hby d21_1) rfl rfl 2 rfl ?_
  refine Own.g_alen X0 hx hZ e0 V_r (hb hby d21_2) 3 rfl ?_
  refine Own.g_isub X0 hx (hb hby d21_3) 4 rfl ?_
  rw [show ((2 : Int32) - (4 : Int32)) = (-2 : Int32) from by decide]
  refine Own.g_bipush X0 hx (31 : Int32) (hb hby d21_4) rfl 6 rfl ?_
  refine Own.g_iushr X0 hx (hb hby d21_6) 7 rfl ?_
  rw [show (((-2 : Int32).toUInt32 >>> ((31 : Int32) &&& 31).toUInt32).toInt32) = (1 : Int32) from by decide]
  refine Own.g_i2b X0 hx (hb hby d21_7) 8 rfl ?_
  rw [show ((1 : Int32).toInt8.toInt32) = (1 : Int32) from by decide]
  refine Own.g_ret X0 hx hret hlocks rfl (Or.inl ⟨rfl, by simp, _, rfl⟩) (hb hby d21_8) (by decide) (by decide) e0 ?_
  exact ⟨rfl, N0, rfl⟩
theorem ef_i4_20 (m : MethodId) (x0 : Addr) (x1 : Addr) (x2 : Int32) (x3 : Int32) : entryFrame m #[.ref x0, .ref x1, .int x2, .int x3, .null] 6 = mkF m 0 #[.val (.ref x0), .val (.ref x1), .val (.int x2), .val (.int x3), .val .null, .unset] [] := by first | (simp [entryFrame, mkF, argsToLocals, Value.category]; done) | rfl
def Q_i4_20 (Z : State) (x : Addr) (a : Addr) (ka : ClassId) (x0 : Int32) (x1 : Int32) (G1 : Int32) (v0 : Value) (c0 : Value) (h0 : Heap) (n0 : Nat) (v : Option Value) (h : Heap) (L : List Loc) : Prop := v = none ∧ Fr n0 L ∧ Keep h0 h [x] ∧ Exa Z h x "java/lang/String" ∧ Fld Z h x "java/lang/String" "coder" "B" (.int 1) ∧ ∃ (r : Addr) (k : ClassId), h0.size ≤ r ∧ Fld Z h x "java/lang/String" "value" "[B" (.ref r) ∧ Arv Z h r k .byte 4 [(.int ((x0 >>> ((0 : Int32) &&& 31)).toInt8.toInt32)), (.int ((x0 >>> ((8 : Int32) &&& 31)).toInt8.toInt32)), (.int ((x1 >>> ((0 : Int32) &&& 31)).toInt8.toInt32)), (.int ((x1 >>> ((8 : Int32) &&& 31)).toInt8.toInt32))] (.int 0)
set_option maxRecDepth 65536 in
set_option maxHeartbeats 40000000 in
theorem rm_i4_20 (l : Launch) (Z : State) (a0 : Array Value) (hw : ∀ d ∈ tables_1, d.before a0 Z = true) (ws : List Jvm.Cond) (x : Addr) (a : Addr) (ka : ClassId) (x0 : Int32) (x1 : Int32) (G1 : Int32) (v0 : Value) (c0 : Value) (h0 : Heap) (n0 : Nat) (O : Old Z n0 h0) (n0_x : n0 ≤ x) (ne_a_x : a ≠ x) (V_a : Arv Z h0 a ka .char 2 [(.int x0), (.int x1)] (.int 0)) (C_x0 : Own.Ch x0) (C_x1 : Own.Ch x1) (hk_ : (255 : Int32) < x0) (SA : Sta Z Z.heap "java/lang/StringUTF16" "$assertionsDisabled" "Z" (.int 1)) (SHI : Sta Z Z.heap "java/lang/StringUTF16" "HI_BYTE_SHIFT" "I" (.int 0)) (SLO : Sta Z Z.heap "java/lang/StringUTF16" "LO_BYTE_SHIFT" "I" (.int 8)) (O2 : Sta Z Z.heap "java/lang/String" "COMPACT_STRINGS" "Z" (.int G1)) (P5 : ¬ (G1 = (0 : Int32))) (E_x : Exa Z h0 x "java/lang/String") (F_x_value : Fld Z h0 x "java/lang/String" "value" "[B" v0) (F_x_coder : Fld Z h0 x "java/lang/String" "coder" "B" c0) :
    MetFree l (⟨"java/lang/String", "<init>", "([CIILjava/lang/Void;)V"⟩ : MethodName) (head1 (Jvm.Cond.code (⟨"java/lang/String", "<init>", "([CIILjava/lang/Void;)V"⟩ : MethodName) jdk_42_method_149_code 6 none :: ws) ({ frames := 4, cells := 2, slots := 6, locals := 90 } : Room)) (fun aa U => aa = #[.ref x, .ref a, .int (0 : Int32), .int (2 : Int32), .null] ∧ Z.Warmed39 U.vm ∧ U.heap = h0) (fun _ _ _ _ _ => True) (fun _ U o U' => Own.End U (Q_i4_20 Z x a ka x0 x1 G1 v0 c0 h0 n0) 2 6 o U') := by
  refine MetFree.of_bodySF (plainFor_of_name pn_0) hisR ?_
  intro p e s m args below meth c s₁ Bd hml0 hP hK
  obtain ⟨rfl, hZ, hh⟩ := hP
  have hx := Bd.exec
  have hby := Bd.bytes
  have hml : c.maxLocals = 6 := hml0
  have hown : s.vm.findClass "java/lang/String" = some m.cls := findClass_of_methodNamed Bd.named
  have hnm := (name_of_methodNamed Bd.named Bd.method).1
  have hret := Bd.returns
  have hlocks : meth.locks = false := Bd.notSynchronized
  have X0 : Stand p l e ({ frames := 4, cells := 2, slots := 6, locals := 90 } : Room) s m #[.ref x, .ref a, .int (0 : Int32), .int (2 : Int32), .null] below meth c s₁ [] 0 0 := Stand.of_body Bd
  have e0 : s₁.heap = h0 := by rw [← hh, Bd.state]; rfl
  have N0 := Fr.nil n0
  show Own.Go p e below (Own.End s (Q_i4_20 Z x a ka x0 x1 G1 v0 c0 h0 n0) 2 6) (s₁.setTop (entryFrame m #[.ref x, .ref a, .int (0 : Int32), .int (2 : Int32), .null] 6))
  refine Own.Go.eq (ef_i4_20 m x a (0 : Int32) (2 : Int32)) ?_
  have KP : Keep h0 h0 [x] := Keep.refl _ _
  refine Own.g_aloadN X0 hx (hb hby d4_0) rfl rfl 1 rfl ?_
  refine Own.g_initO X0 hx hZ hown (hw _ (List.mem_of_getElem? (i := 19) rfl)) (hw _ (List.mem_of_getElem? (i := 20) rfl)) (hw _ (List.mem_of_getElem? (i := 21) rfl)) e0 (by rw [hml]; rfl) (hb hby d4_1) (by decide) (W := 0) (Nat.le_of_ble_eq_true rfl) (by decide) 4 rfl ?_
  intro T1 X1 e1
  refine Own.g_iloadN X1 hx (hb hby d4_4) rfl 5 rfl ?_
  refine Own.g_if_ne_t X1 hx (hb hby d4_5) (by decide) 27 (by decide) ?_
  refine Own.g_getS X1 hx hZ hown (host := "") (Or.inl (hw _ (List.mem_of_getElem? (i := 55) rfl))) Via.refl e1 (O2.ext O.2) (hb hby d4_27) 30 rfl ?_
  intro T2 X2 e2
  refine Own.g_if_eq_f X2 hx (hb hby d4_30) P5 33 rfl ?_
  refine Own.g_aloadN X2 hx (hb hby d4_33) rfl rfl 34 rfl ?_
  refine Own.g_iloadN X2 hx (hb hby d4_34) rfl 35 rfl ?_
  refine Own.g_iloadN X2 hx (hb hby d4_35) rfl 36 rfl ?_
  refine Own.g_callS X2 hx (y := (⟨"java/lang/StringUTF16", "compress", "([CII)[B"⟩ : MethodName)) hown (mvT hZ (hw _ (List.mem_of_getElem? (i := 64) rfl))) (mvT hZ (hw _ (List.mem_of_getElem? (i := 65) rfl))) (mvT hZ (hw _ (List.mem_of_getElem? (i := 66) rfl))) (mvT hZ (hw _ (List.mem_of_getElem? (i := 67) rfl))) (by decide) [.ref a, .int (0 : Int32), .int (2 : Int32)] (Own.back (W := 0) (rm_cp3_20 l Z a0 hw [] a ka x0 x1 h0 n0 O V_a C_x0 C_x1 hk_ SA SHI SLO) hZ (hw _ (List.mem_of_getElem? (i := 67) rfl)) (hw _ (List.mem_of_getElem? (i := 66) rfl)) (by decide) (by decide)) e2 (by rw [hml]; rfl) [] (lenOf pd_6 rfl) rfl (Nat.le_of_ble_eq_true rfl) (hb hby d4_36) (by decide) (by decide) 39 rfl ?_
  rintro _ T3 L3 X3 ⟨r, k_r, rfl, N3q, K3, sz3, V_r⟩
  have N3 := Fr.app N0 N3q
  have ne_x_r : x ≠ r := Nat.ne_of_lt (Nat.lt_of_lt_of_le (E_x.lt) sz3)
  have n0_r : n0 ≤ r := Nat.le_trans (Nat.le_of_eq O.1.symm) (Nat.le_trans O.2.1 sz3)
  have sz0_r : h0.size ≤ r := Nat.le_trans KP.1 sz3
  replace E_x := E_x.keep K3
  replace F_x_value := F_x_value.keep K3 nin0
  replace F_x_coder := F_x_coder.keep K3 nin0
  replace O := O.keep K3 all0
  replace KP := KP.trans K3 all0
  show Own.Go p e below _ (T3.setTop (mkF m 39 #[.val (.ref x), .val (.ref a), .val (.int (0 : Int32)), .val (.int (2 : Int32)), .val .null, .unset] [(.ref r)]))
  refine Own.g_astore X3 hx #[.val (.ref x), .val (.ref a), .val (.int (0 : Int32)), .val (.int (2 : Int32)), .val .null, .val (.ref r)] (hb hby d4_39) rfl rfl 41 rfl ?_
  refine Own.g_aloadN X3 hx (hb hby d4_41) rfl rfl 42 rfl ?_
  refine Own.g_aload X3 hx (hb hby d4_42) rfl rfl 44 rfl ?_
  refine Own.g_iloadN X3 hx (hb hby d4_44) rfl 45 rfl ?_
  have ne_r_x := Ne.symm ne_x_r
  refine Own.g_callS X3 hx (y := (⟨"java/lang/StringUTF16", "coderFromArrayLen", "([BI)B"⟩ : MethodName)) hown (mvT hZ (hw _ (List.mem_of_getElem? (i := 90) rfl))) (mvT hZ (hw _ (List.mem_of_getElem? (i := 91) rfl))) (mvT hZ (hw _ (List.mem_of_getElem? (i := 66) rfl))) (mvT hZ (hw _ (List.mem_of_getElem? (i := 92) rfl))) (by decide) [.ref r, .int (2 : Int32)] (Own.back (W := 1) (rm_cfa20 l Z a0 hw [] r k_r [(.int ((x0 >>> ((0 : Int32) &&& 31)).toInt8.toInt32)), (.int ((x0 >>> ((8 : Int32) &&& 31)).toInt8.toInt32)), (.int ((x1 >>> ((0 : Int32) &&& 31)).toInt8.toInt32)), (.int ((x1 >>> ((8 : Int32) &&& 31)).toInt8.toInt32))] T3.heap n0 O V_r) hZ (hw _ (List.mem_of_getElem? (i := 92) rfl)) (hw _ (List.mem_of_getElem? (i := 66) rfl)) (by decide) (by decide)) (rfl : T3.heap = T3.heap) (by rw [hml]; rfl) [(.ref x)] (lenOf pd_8 rfl) rfl (Nat.le_of_ble_eq_true rfl) (hb hby d4_45) (by decide) (by decide) 48 rfl ?_
  rintro _ T4 L4 X4 ⟨rfl, N4q, eH4⟩
  have N4 := Fr.app N3 N4q
  show Own.Go p e below _ (T4.setTop (mkF m 48 #[.val (.ref x), .val (.ref a), .val (.int (0 : Int32)), .val (.int (2 : Int32)), .val .null, .val (.ref r)] [(.int (1 : Int32)), (.ref x)]))
  refine Own.g_putF X4 hx hZ hown (host := "") (Or.inl (hw _ (List.mem_of_getElem? (i := 29) rfl))) Via.refl eH4 F_x_coder E_x (Or.inr ⟨(hw _ (List.mem_of_getElem? (i := 25) rfl)), rfl, hnm⟩) (hw _ (List.mem_of_getElem? (i := 9) rfl)) (ty := .byte) (by decide) rfl rfl (hb hby d4_48) 51 rfl ?_
  clear F_x_coder; intro T5 h5 X5 e5 W5 F_x_coder Ew5
  replace E_x := E_x.wr W5
  replace F_x_value := F_x_value.other W5 (Or.inr (slot_ne (Or.inr (hw _ (List.mem_of_getElem? (i := 24) rfl))) (Or.inr (hw _ (List.mem_of_getElem? (i := 25) rfl))) (by decide) (t := (.array .byte)) (t' := .byte) (by decide) (by decide)))
  replace V_r := V_r.other W5 (Ne.symm ne_x_r)
  replace O := O.wr W5 n0_x
  replace KP := KP.wr W5 (Or.inl (List.mem_of_getElem? (i := 0) rfl))
  have N5 := Fr.snoc X5 N4 n0_x
  refine Own.g_aloadN X5 hx (hb hby d4_51) rfl rfl 52 rfl ?_
  refine Own.g_aload X5 hx (hb hby d4_52) rfl rfl 54 rfl ?_
  refine Own.g_putF X5 hx hZ hown (host := "") (Or.inl (hw _ (List.mem_of_getElem? (i := 28) rfl))) Via.refl e5 F_x_value E_x (Or.inr ⟨(hw _ (List.mem_of_getElem? (i := 24) rfl)), rfl, hnm⟩) (hw _ (List.mem_of_getElem? (i := 9) rfl)) (ty := (.array .byte)) (by decide) rfl rfl (hb hby d4_54) 57 rfl ?_
  clear F_x_value; intro T6 h6 X6 e6 W6 F_x_value Ew6
  replace E_x := E_x.wr W6
  replace F_x_coder := F_x_coder.other W6 (Or.inr (slot_ne (Or.inr (hw _ (List.mem_of_getElem? (i := 25) rfl))) (Or.inr (hw _ (List.mem_of_getElem? (i := 24) rfl))) (by decide) (t := .byte) (t' := (.array .byte)) (by decide) (by decide)))
  replace V_r := V_r.other W6 (Ne.symm ne_x_r)
  replace O := O.wr W6 n0_x
  replace KP := KP.wr W6 (Or.inl (List.mem_of_getElem? (i := 0) rfl))
  have N6 := Fr.snoc X6 N5 n0_x
  refine Own.g_retV X6 hx hret hlocks (hb hby d4_57) (by decide) (by decide) e6 ?_
  exact ⟨rfl, N6, KP, E_x, F_x_coder, r, k_r, sz0_r, F_x_value, V_r⟩
theorem ef_i3_20 (m : MethodId) (x0 : Addr) (x1 : Addr) : entryFrame m #[.ref x0, .ref x1] 2 = mkF m 0 #[.val (.ref x0), .val (.ref x1)] [] := by first | (simp [entryFrame, mkF, argsToLocals, Value.category]; done) | rfl
def Q_i3_20 (Z : State) (x : Addr) (a : Addr) (ka : ClassId) (x0 : Int32) (x1 : Int32) (G1 : Int32) (v0 : Value) (c0 : Value) (h0 : Heap) (n0 : Nat) (v : Option Value) (h : Heap) (L : List Loc) : Prop := v = none ∧ Fr n0 L ∧ Keep h0 h [x] ∧ Exa Z h x "java/lang/String" ∧ Fld Z h x "java/lang/String" "coder" "B" (.int 1) ∧ ∃ (r : Addr) (k : ClassId), h0.size ≤ r ∧ Fld Z h x "java/lang/String" "value" "[B" (.ref r) ∧ Arv Z h r k .byte 4 [(.int ((x0 >>> ((0 : Int32) &&& 31)).toInt8.toInt32)), (.int ((x0 >>> ((8 : Int32) &&& 31)).toInt8.toInt32)), (.int ((x1 >>> ((0 : Int32) &&& 31)).toInt8.toInt32)), (.int ((x1 >>> ((8 : Int32) &&& 31)).toInt8.toInt32))] (.int 0)
set_option maxRecDepth 65536 in
set_option maxHeartbeats 40000000 in
theorem rm_i3_20 (l : Launch) (Z : State) (a0 : Array Value) (hw : ∀ d ∈ tables_1, d.before a0 Z = true) (ws : List Jvm.Cond) (x : Addr) (a : Addr) (ka : ClassId) (x0 : Int32) (x1 : Int32) (G1 : Int32) (v0 : Value) (c0 : Value) (h0 : Heap) (n0 : Nat) (O : Old Z n0 h0) (n0_x : n0 ≤ x) (ne_a_x : a ≠ x) (V_a : Arv Z h0 a ka .char 2 [(.int x0), (.int x1)] (.int 0)) (C_x0 : Own.Ch x0) (C_x1 : Own.Ch x1) (hk_ : (255 : Int32) < x0) (SA : Sta Z Z.heap "java/lang/StringUTF16" "$assertionsDisabled" "Z" (.int 1)) (SHI : Sta Z Z.heap "java/lang/StringUTF16" "HI_BYTE_SHIFT" "I" (.int 0)) (SLO : Sta Z Z.heap "java/lang/StringUTF16" "LO_BYTE_SHIFT" "I" (.int 8)) (O2 : Sta Z Z.heap "java/lang/String" "COMPACT_STRINGS" "Z" (.int G1)) (P5 : ¬ (G1 = (0 : Int32))) (E_x : Exa Z h0 x "java/lang/String") (F_x_value : Fld Z h0 x "java/lang/String" "value" "[B" v0) (F_x_coder : Fld Z h0 x "java/lang/String" "coder" "B" c0) :
    MetFree l (⟨"java/lang/String", "<init>", "([C)V"⟩ : MethodName) (head1 (Jvm.Cond.code (⟨"java/lang/String", "<init>", "([C)V"⟩ : MethodName) jdk_42_method_3_code 2 none :: ws) ({ frames := 5, cells := 2, slots := 6, locals := 112 } : Room)) (fun aa U => aa = #[.ref x, .ref a] ∧ Z.Warmed39 U.vm ∧ U.heap = h0) (fun _ _ _ _ _ => True) (fun _ U o U' => Own.End U (Q_i3_20 Z x a ka x0 x1 G1 v0 c0 h0 n0) 2 6 o U') := by
  refine MetFree.of_bodySF (plainFor_of_name pn_0) hisR ?_
  intro p e s m args below meth c s₁ Bd hml0 hP hK
  obtain ⟨rfl, hZ, hh⟩ := hP
  have hx := Bd.exec
  have hby := Bd.bytes
  have hml : c.maxLocals = 2 := hml0
  have hown : s.vm.findClass "java/lang/String" = some m.cls := findClass_of_methodNamed Bd.named
  have hnm := (name_of_methodNamed Bd.named Bd.method).1
  have hret := Bd.returns
  have hlocks : meth.locks = false := Bd.notSynchronized
  have X0 : Stand p l e ({ frames := 5, cells := 2, slots := 6, locals := 112 } : Room) s m #[.ref x, .ref a] below meth c s₁ [] 0 0 := Stand.of_body Bd
  have e0 : s₁.heap = h0 := by rw [← hh, Bd.state]; rfl
  have N0 := Fr.nil n0
  show Own.Go p e below (Own.End s (Q_i3_20 Z x a ka x0 x1 G1 v0 c0 h0 n0) 2 6) (s₁.setTop (entryFrame m #[.ref x, .ref a] 2))
  refine Own.Go.eq (ef_i3_20 m x a) ?_
  have KP : Keep h0 h0 [x] := Keep.refl _ _
  refine Own.g_aloadN X0 hx (hb hby d3_0) rfl rfl 1 rfl ?_
  refine Own.g_aloadN X0 hx (hb hby d3_1) rfl rfl 2 rfl ?_
  refine Own.g_iconst X0 hx (0 : Int32) (hb hby d3_2) rfl 3 rfl ?_
  refine Own.g_aloadN X0 hx (hb hby d3_3) rfl rfl 4 rfl ?_
  refine Own.g_alen X0 hx hZ e0 V_a (hb hby d3_4) 5 rfl ?_
  refine Own.g_aconstNull X0 hx (hb hby d3_5) 6 rfl ?_
  refine Own.g_special X0 hx (y := (⟨"java/lang/String", "<init>", "([CIILjava/lang/Void;)V"⟩ : MethodName)) rfl hown (mvT hZ (hw _ (List.mem_of_getElem? (i := 15) rfl))) (mvT hZ (hw _ (List.mem_of_getElem? (i := 16) rfl))) (mvT hZ (hw _ (List.mem_of_getElem? (i := 18) rfl))) (by decide) (a := x) [.ref a, .int (0 : Int32), .int (2 : Int32), .null] (Own.back (W := 0) (rm_i4_20 l Z a0 hw [] x a ka x0 x1 G1 v0 c0 h0 n0 O n0_x ne_a_x V_a C_x0 C_x1 hk_ SA SHI SLO O2 P5 E_x F_x_value F_x_coder) hZ (hw _ (List.mem_of_getElem? (i := 18) rfl)) (hw _ (List.mem_of_getElem? (i := 10) rfl)) (by decide) (by decide)) e0 (by rw [hml]; rfl) [] (lenOf pd_0 rfl) rfl (Nat.le_of_ble_eq_true rfl) (hb hby d3_6) (by decide) (by decide) 9 rfl ?_
  rintro _ T1 L1 X1 ⟨rfl, N1q, K1, GE, GC, r, k_r, sz1, GV, GA⟩
  have N1 := Fr.app N0 N1q
  have szr := Nat.le_trans KP.1 sz1
  replace O := O.keep K1 (allS n0_x all0)
  replace KP := KP.trans K1 (allS (Or.inl (List.mem_of_getElem? (i := 0) rfl)) all0)
  show Own.Go p e below _ (T1.setTop (mkF m 9 #[.val (.ref x), .val (.ref a)] []))
  refine Own.g_retV X1 hx hret hlocks (hb hby d3_9) (by decide) (by decide) (rfl : T1.heap = T1.heap) ?_
  exact ⟨rfl, N1, KP, GE, GC, r, k_r, szr, GV, GA⟩
theorem ef_cp5_21 (m : MethodId) (x0 : Addr) (x1 : Int32) (x2 : Addr) (x3 : Int32) (x4 : Int32) : entryFrame m #[.ref x0, .int x1, .ref x2, .int x3, .int x4] 7 = mkF m 0 #[.val (.ref x0), .val (.int x1), .val (.ref x2), .val (.int x3), .val (.int x4), .unset, .unset] [] := by first | (simp [entryFrame, mkF, argsToLocals, Value.category]; done) | rfl
def Q_cp5_21 (Z : State) (a : Addr) (ka : ClassId) (u : Addr) (ku : ClassId) (x0 : Int32) (x1 : Int32) (h0 : Heap) (n0 : Nat) (v : Option Value) (h : Heap) (L : List Loc) : Prop := v = some (.int 1) ∧ Fr n0 L ∧ Keep h0 h [u] ∧ Arv Z h u ku .byte 2 [(.int (x0.toInt8.toInt32)), (.int (0 : Int32))] (.int 0)
set_option maxRecDepth 65536 in
set_option maxHeartbeats 40000000 in
theorem rm_cp5_21 (l : Launch) (Z : State) (a0 : Array Value) (hw : ∀ d ∈ tables_1, d.before a0 Z = true) (ws : List Jvm.Cond) (a : Addr) (ka : ClassId) (u : Addr) (ku : ClassId) (x0 : Int32) (x1 : Int32) (h0 : Heap) (n0 : Nat) (O : Old Z n0 h0) (n0_u : n0 ≤ u) (ne_a_u : a ≠ u) (V_a : Arv Z h0 a ka .char 2 [(.int x0), (.int x1)] (.int 0)) (V_u : Arv Z h0 u ku .byte 2 [(.int (0 : Int32)), (.int (0 : Int32))] (.int 0)) (L_x0 : Own.Lat x0) (hk_ : (255 : Int32) < x1) :
    MetFree l (⟨"java/lang/StringUTF16", "compress", "([CI[BII)I"⟩ : MethodName) (head1 (Jvm.Cond.code (⟨"java/lang/StringUTF16", "compress", "([CI[BII)I"⟩ : MethodName) jdk_52_method_21_code 7 (some .int) :: ws) ({ frames := 0, cells := 0, slots := 0, locals := 0 } : Room)) (fun aa U => aa = #[.ref a, .int (0 : Int32), .ref u, .int (0 : Int32), .int (2 : Int32)] ∧ Z.Warmed39 U.vm ∧ U.heap = h0) (fun _ _ _ _ _ => True) (fun _ U o U' => Own.End U (Q_cp5_21 Z a ka u ku x0 x1 h0 n0) 0 0 o U') := by
  refine MetFree.of_bodySF (plainFor_of_name pn_5) hisR ?_
  intro p e s m args below meth c s₁ Bd hml0 hP hK
  obtain ⟨rfl, hZ, hh⟩ := hP
  have hx := Bd.exec
  have hby := Bd.bytes
  have hml : c.maxLocals = 7 := hml0
  have hown : s.vm.findClass "java/lang/StringUTF16" = some m.cls := findClass_of_methodNamed Bd.named
  have hnm := (name_of_methodNamed Bd.named Bd.method).1
  have hret := Bd.returns
  have hlocks : meth.locks = false := Bd.notSynchronized
  have X0 : Stand p l e ({ frames := 0, cells := 0, slots := 0, locals := 0 } : Room) s m #[.ref a, .int (0 : Int32), .ref u, .int (0 : Int32), .int (2 : Int32)] below meth c s₁ [] 0 0 := Stand.of_body Bd
  have e0 : s₁.heap = h0 := by rw [← hh, Bd.state]; rfl
  have N0 := Fr.nil n0
  show Own.Go p e below (Own.End s (Q_cp5_21 Z a ka u ku x0 x1 h0 n0) 0 0) (s₁.setTop (entryFrame m #[.ref a, .int (0 : Int32), .ref u, .int (0 : Int32), .int (2 : Int32)] 7))
  refine Own.Go.eq (ef_cp5_21 m a (0 : Int32) u (0 : Int32) (2 : Int32)) ?_
  have KP : Keep h0 h0 [u] := Keep.refl _ _
  refine Own.g_iconst X0 hx (0 : Int32) (hb hby d15_0) rfl 1 rfl ?_
  refine Own.g_istore X0 hx #[.val (.ref a), .val (.int (0 : Int32)), .val (.ref u), .val (.int (0 : Int32)), .val (.int (2 : Int32)), .val (.int (0 : Int32)), .unset] (hb hby d15_1) rfl 3 rfl ?_
  refine Own.g_iload X0 hx (hb hby d15_3) rfl 5 rfl ?_
  refine Own.g_iload X0 hx (hb hby d15_5) rfl 7 rfl ?_
  refine Own.g_icmp_ge_f X0 hx (hb hby d15_7) (by decide) 10 rfl ?_
  refine Own.g_aloadN X0 hx (hb hby d15_10) rfl rfl 11 rfl ?_
  refine Own.g_iloadN X0 hx (hb hby d15_11) rfl 12 rfl ?_
  refine Own.g_ldC X0 hx hZ e0 V_a (by decide) x0 rfl (hb hby d15_12) 13 rfl ?_
  refine Own.g_istore X0 hx #[.val (.ref a), .val (.int (0 : Int32)), .val (.ref u), .val (.int (0 : Int32)), .val (.int (2 : Int32)), .val (.int (0 : Int32)), .val (.int x0)] (hb hby d15_13) rfl 15 rfl ?_
  refine Own.g_iload X0 hx (hb hby d15_15) rfl 17 rfl ?_
  refine Own.g_sipush X0 hx (255 : Int32) (hb hby d15_17) rfl 20 rfl ?_
  refine Own.g_icmp_le_t X0 hx (hb hby d15_20) L_x0.2 26 (by decide) ?_
  refine Own.g_aloadN X0 hx (hb hby d15_26) rfl rfl 27 rfl ?_
  refine Own.g_iloadN X0 hx (hb hby d15_27) rfl 28 rfl ?_
  refine Own.g_iload X0 hx (hb hby d15_28) rfl 30 rfl ?_
  refine Own.g_i2b X0 hx (hb hby d15_30) 31 rfl ?_
  refine Own.g_stB X0 hx hZ e0 V_u (x0.toInt8.toInt32) (Own.nar_b _) (by decide) 0 rfl (Nat.le_of_ble_eq_true rfl) [(.int (x0.toInt8.toInt32)), (.int (0 : Int32))] rfl (hb hby d15_31) 32 rfl ?_
  clear V_u; intro T1 h1 X1 e1 W1 V_u
  replace V_a := V_a.other W1 ne_a_u
  replace O := O.wr W1 n0_u
  replace KP := KP.wr W1 (Or.inl (List.mem_of_getElem? (i := 0) rfl))
  have N1 := Fr.snoc X1 N0 n0_u
  refine Own.g_iinc X1 hx #[.val (.ref a), .val (.int (1 : Int32)), .val (.ref u), .val (.int (0 : Int32)), .val (.int (2 : Int32)), .val (.int (0 : Int32)), .val (.int x0)] (hb hby d15_32) rfl rfl 35 rfl ?_
  refine Own.g_iinc X1 hx #[.val (.ref a), .val (.int (1 : Int32)), .val (.ref u), .val (.int (1 : Int32)), .val (.int (2 : Int32)), .val (.int (0 : Int32)), .val (.int x0)] (hb hby d15_35) rfl rfl 38 rfl ?_
  refine Own.g_iinc X1 hx #[.val (.ref a), .val (.int (1 : Int32)), .val (.ref u), .val (.int (1 : Int32)), .val (.int (2 : Int32)), .val (.int (1 : Int32)), .val (.int x0)] (hb hby d15_38) rfl rfl 41 rfl ?_
  refine Own.g_goto X1 hx (hb hby d15_41) 3 (by decide) ?_
  refine Own.g_iload X1 hx (hb hby d15_3) rfl 5 rfl ?_
  refine Own.g_iload X1 hx (hb hby d15_5) rfl 7 rfl ?_
  refine Own.g_icmp_ge_f X1 hx (hb hby d15_7) (by decide) 10 rfl ?_
  refine Own.g_aloadN X1 hx (hb hby d15_10) rfl rfl 11 rfl ?_
  refine Own.g_iloadN X1 hx (hb hby d15_11) rfl 12 rfl ?_
  refine Own.g_ldC X1 hx hZ e1 V_a (by decide) x1 rfl (hb hby d15_12) 13 rfl ?_
  refine Own.g_istore X1 hx #[.val (.ref a), .val (.int (1 : Int32)), .val (.ref u), .val (.int (1 : Int32)), .val (.int (2 : Int32)), .val (.int (1 : Int32)), .val (.int x1)] (hb hby d15_13) rfl 15 rfl ?_
  refine Own.g_iload X1 hx (hb hby d15_15) rfl 17 rfl ?_
  refine Own.g_sipush X1 hx (255 : Int32) (hb hby d15_17) rfl 20 rfl ?_
  refine Own.g_icmp_le_f X1 hx (hb hby d15_20) hk_ 23 rfl ?_
  refine Own.g_iload X1 hx (hb hby d15_23) rfl 25 rfl ?_
  refine Own.g_ret X1 hx hret hlocks rfl (Or.inl ⟨rfl, by simp, _, rfl⟩) (hb hby d15_25) (by decide) (by decide) e1 ?_
  exact ⟨rfl, N1, KP, V_u⟩
theorem ef_cp3_21 (m : MethodId) (x0 : Addr) (x1 : Int32) (x2 : Int32) : entryFrame m #[.ref x0, .int x1, .int x2] 6 = mkF m 0 #[.val (.ref x0), .val (.int x1), .val (.int x2), .unset, .unset, .unset] [] := by first | (simp [entryFrame, mkF, argsToLocals, Value.category]; done) | rfl
def Q_cp3_21 (Z : State) (a : Addr) (ka : ClassId) (x0 : Int32) (x1 : Int32) (h0 : Heap) (n0 : Nat) (v : Option Value) (h : Heap) (L : List Loc) : Prop := ∃ (r : Addr) (k : ClassId), v = some (.ref r) ∧ Fr n0 L ∧ Keep h0 h [] ∧ h0.size ≤ r ∧ Arv Z h r k .byte 4 [(.int ((x0 >>> ((0 : Int32) &&& 31)).toInt8.toInt32)), (.int ((x0 >>> ((8 : Int32) &&& 31)).toInt8.toInt32)), (.int ((x1 >>> ((0 : Int32) &&& 31)).toInt8.toInt32)), (.int ((x1 >>> ((8 : Int32) &&& 31)).toInt8.toInt32))] (.int 0)
set_option maxRecDepth 65536 in
set_option maxHeartbeats 40000000 in
theorem rm_cp3_21 (l : Launch) (Z : State) (a0 : Array Value) (hw : ∀ d ∈ tables_1, d.before a0 Z = true) (ws : List Jvm.Cond) (a : Addr) (ka : ClassId) (x0 : Int32) (x1 : Int32) (h0 : Heap) (n0 : Nat) (O : Old Z n0 h0) (V_a : Arv Z h0 a ka .char 2 [(.int x0), (.int x1)] (.int 0)) (C_x0 : Own.Ch x0) (C_x1 : Own.Ch x1) (L_x0 : Own.Lat x0) (hk_ : (255 : Int32) < x1) (SA : Sta Z Z.heap "java/lang/StringUTF16" "$assertionsDisabled" "Z" (.int 1)) (SHI : Sta Z Z.heap "java/lang/StringUTF16" "HI_BYTE_SHIFT" "I" (.int 0)) (SLO : Sta Z Z.heap "java/lang/StringUTF16" "LO_BYTE_SHIFT" "I" (.int 8)) :
    MetFree l (⟨"java/lang/StringUTF16", "compress", "([CII)[B"⟩ : MethodName) (head1 (Jvm.Cond.code (⟨"java/lang/StringUTF16", "compress", "([CII)[B"⟩ : MethodName) jdk_52_method_16_code 6 (some (.array .byte)) :: ws) ({ frames := 3, cells := 2, slots := 6, locals := 64 } : Room)) (fun aa U => aa = #[.ref a, .int (0 : Int32), .int (2 : Int32)] ∧ Z.Warmed39 U.vm ∧ U.heap = h0) (fun _ _ _ _ _ => True) (fun _ U o U' => Own.End U (Q_cp3_21 Z a ka x0 x1 h0 n0) 2 6 o U') := by
  refine MetFree.of_bodySF (plainFor_of_name pn_5) hisR ?_
  intro p e s m args below meth c s₁ Bd hml0 hP hK
  obtain ⟨rfl, hZ, hh⟩ := hP
  have hx := Bd.exec
  have hby := Bd.bytes
  have hml : c.maxLocals = 6 := hml0
  have hown : s.vm.findClass "java/lang/StringUTF16" = some m.cls := findClass_of_methodNamed Bd.named
  have hnm := (name_of_methodNamed Bd.named Bd.method).1
  have hret := Bd.returns
  have hlocks : meth.locks = false := Bd.notSynchronized
  have X0 : Stand p l e ({ frames := 3, cells := 2, slots := 6, locals := 64 } : Room) s m #[.ref a, .int (0 : Int32), .int (2 : Int32)] below meth c s₁ [] 0 0 := Stand.of_body Bd
  have e0 : s₁.heap = h0 := by rw [← hh, Bd.state]; rfl
  have N0 := Fr.nil n0
  show Own.Go p e below (Own.End s (Q_cp3_21 Z a ka x0 x1 h0 n0) 2 6) (s₁.setTop (entryFrame m #[.ref a, .int (0 : Int32), .int (2 : Int32)] 6))
  refine Own.Go.eq (ef_cp3_21 m a (0 : Int32) (2 : Int32)) ?_
  have KP : Keep h0 h0 [] := Keep.refl _ _
  refine Own.g_iloadN X0 hx (hb hby d14_0) rfl 1 rfl ?_
  refine Own.g_newP X0 hx hZ (hw _ (List.mem_of_getElem? (i := 23) rfl)) e0 (hb hby d14_1) (by decide) 2 (by decide) (by decide) (by decide) (by decide) 3 rfl .byte rfl [(.int (0 : Int32)), (.int (0 : Int32))] (by intro i; first | rfl | (rcases i with _ | _ | _ | _ | _ | _ | _ | _ | _ | _ | _ | _ | _ | _ | _ | _ | _ | _ | _ | _ | _ | _ | _ | _ | i <;> rfl)) ?_
  intro T1 h1 u k_u X1 e1 E1 g1 V_u
  have ne_a_u : a ≠ u := Nat.ne_of_lt (Nat.lt_of_lt_of_le (V_a.lt) (Nat.le_of_eq g1.symm))
  have n0_u : n0 ≤ u := Nat.le_trans (Nat.le_of_eq O.1.symm) (Nat.le_trans O.2.1 (Nat.le_of_eq g1.symm))
  have sz0_u : h0.size ≤ u := Nat.le_trans KP.1 (Nat.le_of_eq g1.symm)
  replace V_a := V_a.ext E1
  replace O := O.ext E1
  replace KP := KP.ext E1
  change Arv Z h1 u k_u .byte (2 : Int32) [(.int (0 : Int32)), (.int (0 : Int32))] (.int (0 : Int32)) at V_u
  refine Own.g_astoreN X1 hx #[.val (.ref a), .val (.int (0 : Int32)), .val (.int (2 : Int32)), .val (.ref u), .unset, .unset] (hb hby d14_3) rfl rfl 4 rfl ?_
  refine Own.g_aloadN X1 hx (hb hby d14_4) rfl rfl 5 rfl ?_
  refine Own.g_iloadN X1 hx (hb hby d14_5) rfl 6 rfl ?_
  refine Own.g_aloadN X1 hx (hb hby d14_6) rfl rfl 7 rfl ?_
  refine Own.g_iconst X1 hx (0 : Int32) (hb hby d14_7) rfl 8 rfl ?_
  refine Own.g_iloadN X1 hx (hb hby d14_8) rfl 9 rfl ?_
  refine Own.g_callS X1 hx (y := (⟨"java/lang/StringUTF16", "compress", "([CI[BII)I"⟩ : MethodName)) hown (mvT hZ (hw _ (List.mem_of_getElem? (i := 68) rfl))) (mvT hZ (hw _ (List.mem_of_getElem? (i := 69) rfl))) (mvT hZ (hw _ (List.mem_of_getElem? (i := 66) rfl))) (mvT hZ (hw _ (List.mem_of_getElem? (i := 70) rfl))) (by decide) [.ref a, .int (0 : Int32), .ref u, .int (0 : Int32), .int (2 : Int32)] (Own.back (W := 0) (rm_cp5_21 l Z a0 hw [] a ka u k_u x0 x1 h1 n0 O n0_u ne_a_u V_a V_u L_x0 hk_) hZ (hw _ (List.mem_of_getElem? (i := 70) rfl)) (hw _ (List.mem_of_getElem? (i := 66) rfl)) (by decide) (by decide)) e1 (by rw [hml]; rfl) [] (lenOf pd_5 rfl) rfl (Nat.le_of_ble_eq_true rfl) (hb hby d14_9) (by decide) (by decide) 12 rfl ?_
  rintro _ T2 L2 X2 ⟨rfl, N2q, K2, V_u⟩
  have N2 := Fr.app N0 N2q
  replace V_a := V_a.keep K2 (ninS ne_a_u nin0)
  replace O := O.keep K2 (allS n0_u all0)
  replace KP := KP.trans K2 (allS (Or.inr sz0_u) all0)
  show Own.Go p e below _ (T2.setTop (mkF m 12 #[.val (.ref a), .val (.int (0 : Int32)), .val (.int (2 : Int32)), .val (.ref u), .unset, .unset] [(.int (1 : Int32))]))
  refine Own.g_istore X2 hx #[.val (.ref a), .val (.int (0 : Int32)), .val (.int (2 : Int32)), .val (.ref u), .val (.int (1 : Int32)), .unset] (hb hby d14_12) rfl 14 rfl ?_
  refine Own.g_iload X2 hx (hb hby d14_14) rfl 16 rfl ?_
  refine Own.g_iloadN X2 hx (hb hby d14_16) rfl 17 rfl ?_
  refine Own.g_icmp_eq_f X2 hx (hb hby d14_17) (by decide) 20 rfl ?_
  refine Own.g_aloadN X2 hx (hb hby d14_20) rfl rfl 21 rfl ?_
  refine Own.g_iloadN X2 hx (hb hby d14_21) rfl 22 rfl ?_
  refine Own.g_iloadN X2 hx (hb hby d14_22) rfl 23 rfl ?_
  refine Own.g_callS X2 hx (y := (⟨"java/lang/StringUTF16", "toBytes", "([CII)[B"⟩ : MethodName)) hown (mvT hZ (hw _ (List.mem_of_getElem? (i := 71) rfl))) (mvT hZ (hw _ (List.mem_of_getElem? (i := 72) rfl))) (mvT hZ (hw _ (List.mem_of_getElem? (i := 66) rfl))) (mvT hZ (hw _ (List.mem_of_getElem? (i := 73) rfl))) (by decide) [.ref a, .int (0 : Int32), .int (2 : Int32)] (Own.back (W := 0) (rm_tob2 l Z a0 hw [] a ka x0 x1 T2.heap n0 O V_a SA SHI SLO) hZ (hw _ (List.mem_of_getElem? (i := 73) rfl)) (hw _ (List.mem_of_getElem? (i := 66) rfl)) (by decide) (by decide)) (rfl : T2.heap = T2.heap) (by rw [hml]; rfl) [] (lenOf pd_6 rfl) rfl (Nat.le_of_ble_eq_true rfl) (hb hby d14_23) (by decide) (by decide) 26 rfl ?_
  rintro _ T3 L3 X3 ⟨r, k_r, rfl, N3q, K3, sz3, V_r⟩
  have N3 := Fr.app N2 N3q
  have ne_a_r : a ≠ r := Nat.ne_of_lt (Nat.lt_of_lt_of_le (V_a.lt) sz3)
  have ne_u_r : u ≠ r := Nat.ne_of_lt (Nat.lt_of_lt_of_le (V_u.lt) sz3)
  have n0_r : n0 ≤ r := Nat.le_trans (Nat.le_of_eq O.1.symm) (Nat.le_trans O.2.1 sz3)
  have sz0_r : h0.size ≤ r := Nat.le_trans KP.1 sz3
  replace O := O.keep K3 all0
  replace KP := KP.trans K3 all0
  show Own.Go p e below _ (T3.setTop (mkF m 26 #[.val (.ref a), .val (.int (0 : Int32)), .val (.int (2 : Int32)), .val (.ref u), .val (.int (1 : Int32)), .unset] [(.ref r)]))
  refine Own.g_astore X3 hx #[.val (.ref a), .val (.int (0 : Int32)), .val (.int (2 : Int32)), .val (.ref u), .val (.int (1 : Int32)), .val (.ref r)] (hb hby d14_26) rfl rfl 28 rfl ?_
  refine Own.g_aload X3 hx (hb hby d14_28) rfl rfl 30 rfl ?_
  refine Own.g_iload X3 hx (hb hby d14_30) rfl 32 rfl ?_
  refine Own.g_callS X3 hx (y := (⟨"java/lang/StringUTF16", "getChar", "([BI)C"⟩ : MethodName)) hown (mvT hZ (hw _ (List.mem_of_getElem? (i := 87) rfl))) (mvT hZ (hw _ (List.mem_of_getElem? (i := 88) rfl))) (mvT hZ (hw _ (List.mem_of_getElem? (i := 66) rfl))) (mvT hZ (hw _ (List.mem_of_getElem? (i := 89) rfl))) (by decide) [.ref r, .int (1 : Int32)] (Own.back (W := 0) (rm_gch21 l Z a0 hw [] r k_r x0 x1 T3.heap n0 O V_r C_x0 C_x1 SA SHI SLO) hZ (hw _ (List.mem_of_getElem? (i := 89) rfl)) (hw _ (List.mem_of_getElem? (i := 66) rfl)) (by decide) (by decide)) (rfl : T3.heap = T3.heap) (by rw [hml]; rfl) [] (lenOf pd_7 rfl) rfl (Nat.le_of_ble_eq_true rfl) (hb hby d14_32) (by decide) (by decide) 35 rfl ?_
  rintro _ T4 L4 X4 ⟨rfl, N4q, eH4⟩
  have N4 := Fr.app N3 N4q
  show Own.Go p e below _ (T4.setTop (mkF m 35 #[.val (.ref a), .val (.int (0 : Int32)), .val (.int (2 : Int32)), .val (.ref u), .val (.int (1 : Int32)), .val (.ref r)] [(.int x1)]))
  refine Own.g_sipush X4 hx (255 : Int32) (hb hby d14_35) rfl 38 rfl ?_
  refine Own.g_icmp_gt_t X4 hx (hb hby d14_38) hk_ 54 (by decide) ?_
  refine Own.g_aload X4 hx (hb hby d14_54) rfl rfl 56 rfl ?_
  refine Own.g_ret X4 hx hret hlocks rfl (Or.inr (Or.inr (Or.inr (Or.inr ⟨rfl, rfl, rfl⟩)))) (hb hby d14_56) (by decide) (by decide) eH4 ?_
  exact ⟨r, k_r, rfl, N4, KP, sz0_r, V_r⟩
theorem ef_i4_21 (m : MethodId) (x0 : Addr) (x1 : Addr) (x2 : Int32) (x3 : Int32) : entryFrame m #[.ref x0, .ref x1, .int x2, .int x3, .null] 6 = mkF m 0 #[.val (.ref x0), .val (.ref x1), .val (.int x2), .val (.int x3), .val .null, .unset] [] := by first | (simp [entryFrame, mkF, argsToLocals, Value.category]; done) | rfl
def Q_i4_21 (Z : State) (x : Addr) (a : Addr) (ka : ClassId) (x0 : Int32) (x1 : Int32) (G1 : Int32) (v0 : Value) (c0 : Value) (h0 : Heap) (n0 : Nat) (v : Option Value) (h : Heap) (L : List Loc) : Prop := v = none ∧ Fr n0 L ∧ Keep h0 h [x] ∧ Exa Z h x "java/lang/String" ∧ Fld Z h x "java/lang/String" "coder" "B" (.int 1) ∧ ∃ (r : Addr) (k : ClassId), h0.size ≤ r ∧ Fld Z h x "java/lang/String" "value" "[B" (.ref r) ∧ Arv Z h r k .byte 4 [(.int ((x0 >>> ((0 : Int32) &&& 31)).toInt8.toInt32)), (.int ((x0 >>> ((8 : Int32) &&& 31)).toInt8.toInt32)), (.int ((x1 >>> ((0 : Int32) &&& 31)).toInt8.toInt32)), (.int ((x1 >>> ((8 : Int32) &&& 31)).toInt8.toInt32))] (.int 0)
set_option maxRecDepth 65536 in
set_option maxHeartbeats 40000000 in
theorem rm_i4_21 (l : Launch) (Z : State) (a0 : Array Value) (hw : ∀ d ∈ tables_1, d.before a0 Z = true) (ws : List Jvm.Cond) (x : Addr) (a : Addr) (ka : ClassId) (x0 : Int32) (x1 : Int32) (G1 : Int32) (v0 : Value) (c0 : Value) (h0 : Heap) (n0 : Nat) (O : Old Z n0 h0) (n0_x : n0 ≤ x) (ne_a_x : a ≠ x) (V_a : Arv Z h0 a ka .char 2 [(.int x0), (.int x1)] (.int 0)) (C_x0 : Own.Ch x0) (C_x1 : Own.Ch x1) (L_x0 : Own.Lat x0) (hk_ : (255 : Int32) < x1) (SA : Sta Z Z.heap "java/lang/StringUTF16" "$assertionsDisabled" "Z" (.int 1)) (SHI : Sta Z Z.heap "java/lang/StringUTF16" "HI_BYTE_SHIFT" "I" (.int 0)) (SLO : Sta Z Z.heap "java/lang/StringUTF16" "LO_BYTE_SHIFT" "I" (.int 8)) (O2 : Sta Z Z.heap "java/lang/String" "COMPACT_STRINGS" "Z" (.int G1)) (P5 : ¬ (G1 = (0 : Int32))) (E_x : Exa Z h0 x "java/lang/String") (F_x_value : Fld Z h0 x "java/lang/String" "value" "[B" v0) (F_x_coder : Fld Z h0 x "java/lang/String" "coder" "B" c0) :
    MetFree l (⟨"java/lang/String", "<init>", "([CIILjava/lang/Void;)V"⟩ : MethodName) (head1 (Jvm.Cond.code (⟨"java/lang/String", "<init>", "([CIILjava/lang/Void;)V"⟩ : MethodName) jdk_42_method_149_code 6 none :: ws) ({ frames := 4, cells := 2, slots := 6, locals := 90 } : Room)) (fun aa U => aa = #[.ref x, .ref a, .int (0 : Int32), .int (2 : Int32), .null] ∧ Z.Warmed39 U.vm ∧ U.heap = h0) (fun _ _ _ _ _ => True) (fun _ U o U' => Own.End U (Q_i4_21 Z x a ka x0 x1 G1 v0 c0 h0 n0) 2 6 o U') := by
  refine MetFree.of_bodySF (plainFor_of_name pn_0) hisR ?_
  intro p e s m args below meth c s₁ Bd hml0 hP hK
  obtain ⟨rfl, hZ, hh⟩ := hP
  have hx := Bd.exec
  have hby := Bd.bytes
  have hml : c.maxLocals = 6 := hml0
  have hown : s.vm.findClass "java/lang/String" = some m.cls := findClass_of_methodNamed Bd.named
  have hnm := (name_of_methodNamed Bd.named Bd.method).1
  have hret := Bd.returns
  have hlocks : meth.locks = false := Bd.notSynchronized
  have X0 : Stand p l e ({ frames := 4, cells := 2, slots := 6, locals := 90 } : Room) s m #[.ref x, .ref a, .int (0 : Int32), .int (2 : Int32), .null] below meth c s₁ [] 0 0 := Stand.of_body Bd
  have e0 : s₁.heap = h0 := by rw [← hh, Bd.state]; rfl
  have N0 := Fr.nil n0
  show Own.Go p e below (Own.End s (Q_i4_21 Z x a ka x0 x1 G1 v0 c0 h0 n0) 2 6) (s₁.setTop (entryFrame m #[.ref x, .ref a, .int (0 : Int32), .int (2 : Int32), .null] 6))
  refine Own.Go.eq (ef_i4_21 m x a (0 : Int32) (2 : Int32)) ?_
  have KP : Keep h0 h0 [x] := Keep.refl _ _
  refine Own.g_aloadN X0 hx (hb hby d4_0) rfl rfl 1 rfl ?_
  refine Own.g_initO X0 hx hZ hown (hw _ (List.mem_of_getElem? (i := 19) rfl)) (hw _ (List.mem_of_getElem? (i := 20) rfl)) (hw _ (List.mem_of_getElem? (i := 21) rfl)) e0 (by rw [hml]; rfl) (hb hby d4_1) (by decide) (W := 0) (Nat.le_of_ble_eq_true rfl) (by decide) 4 rfl ?_
  intro T1 X1 e1
  refine Own.g_iloadN X1 hx (hb hby d4_4) rfl 5 rfl ?_
  refine Own.g_if_ne_t X1 hx (hb hby d4_5) (by decide) 27 (by decide) ?_
  refine Own.g_getS X1 hx hZ hown (host := "") (Or.inl (hw _ (List.mem_of_getElem? (i := 55) rfl))) Via.refl e1 (O2.ext O.2) (hb hby d4_27) 30 rfl ?_
  intro T2 X2 e2
  refine Own.g_if_eq_f X2 hx (hb hby d4_30) P5 33 rfl ?_
  refine Own.g_aloadN X2 hx (hb hby d4_33) rfl rfl 34 rfl ?_
  refine Own.g_iloadN X2 hx (hb hby d4_34) rfl 35 rfl ?_
  refine Own.g_iloadN X2 hx (hb hby d4_35) rfl 36 rfl ?_
  refine Own.g_callS X2 hx (y := (⟨"java/lang/StringUTF16", "compress", "([CII)[B"⟩ : MethodName)) hown (mvT hZ (hw _ (List.mem_of_getElem? (i := 64) rfl))) (mvT hZ (hw _ (List.mem_of_getElem? (i := 65) rfl))) (mvT hZ (hw _ (List.mem_of_getElem? (i := 66) rfl))) (mvT hZ (hw _ (List.mem_of_getElem? (i := 67) rfl))) (by decide) [.ref a, .int (0 : Int32), .int (2 : Int32)] (Own.back (W := 0) (rm_cp3_21 l Z a0 hw [] a ka x0 x1 h0 n0 O V_a C_x0 C_x1 L_x0 hk_ SA SHI SLO) hZ (hw _ (List.mem_of_getElem? (i := 67) rfl)) (hw _ (List.mem_of_getElem? (i := 66) rfl)) (by decide) (by decide)) e2 (by rw [hml]; rfl) [] (lenOf pd_6 rfl) rfl (Nat.le_of_ble_eq_true rfl) (hb hby d4_36) (by decide) (by decide) 39 rfl ?_
  rintro _ T3 L3 X3 ⟨r, k_r, rfl, N3q, K3, sz3, V_r⟩
  have N3 := Fr.app N0 N3q
  have ne_x_r : x ≠ r := Nat.ne_of_lt (Nat.lt_of_lt_of_le (E_x.lt) sz3)
  have n0_r : n0 ≤ r := Nat.le_trans (Nat.le_of_eq O.1.symm) (Nat.le_trans O.2.1 sz3)
  have sz0_r : h0.size ≤ r := Nat.le_trans KP.1 sz3
  replace E_x := E_x.keep K3
  replace F_x_value := F_x_value.keep K3 nin0
  replace F_x_coder := F_x_coder.keep K3 nin0
  replace O := O.keep K3 all0
  replace KP := KP.trans K3 all0
  show Own.Go p e below _ (T3.setTop (mkF m 39 #[.val (.ref x), .val (.ref a), .val (.int (0 : Int32)), .val (.int (2 : Int32)), .val .null, .unset] [(.ref r)]))
  refine Own.g_astore X3 hx #[.val (.ref x), .val (.ref a), .val (.int (0 : Int32)), .val (.int (2 : Int32)), .val .null, .val (.ref r)] (hb hby d4_39) rfl rfl 41 rfl ?_
  refine Own.g_aloadN X3 hx (hb hby d4_41) rfl rfl 42 rfl ?_
  refine Own.g_aload X3 hx (hb hby d4_42) rfl rfl 44 rfl ?_
  refine Own.g_iloadN X3 hx (hb hby d4_44) rfl 45 rfl ?_
  have ne_r_x := Ne.symm ne_x_r
  refine Own.g_callS X3 hx (y := (⟨"java/lang/StringUTF16", "coderFromArrayLen", "([BI)B"⟩ : MethodName)) hown (mvT hZ (hw _ (List.mem_of_getElem? (i := 90) rfl))) (mvT hZ (hw _ (List.mem_of_getElem? (i := 91) rfl))) (mvT hZ (hw _ (List.mem_of_getElem? (i := 66) rfl))) (mvT hZ (hw _ (List.mem_of_getElem? (i := 92) rfl))) (by decide) [.ref r, .int (2 : Int32)] (Own.back (W := 1) (rm_cfa20 l Z a0 hw [] r k_r [(.int ((x0 >>> ((0 : Int32) &&& 31)).toInt8.toInt32)), (.int ((x0 >>> ((8 : Int32) &&& 31)).toInt8.toInt32)), (.int ((x1 >>> ((0 : Int32) &&& 31)).toInt8.toInt32)), (.int ((x1 >>> ((8 : Int32) &&& 31)).toInt8.toInt32))] T3.heap n0 O V_r) hZ (hw _ (List.mem_of_getElem? (i := 92) rfl)) (hw _ (List.mem_of_getElem? (i := 66) rfl)) (by decide) (by decide)) (rfl : T3.heap = T3.heap) (by rw [hml]; rfl) [(.ref x)] (lenOf pd_8 rfl) rfl (Nat.le_of_ble_eq_true rfl) (hb hby d4_45) (by decide) (by decide) 48 rfl ?_
  rintro _ T4 L4 X4 ⟨rfl, N4q, eH4⟩
  have N4 := Fr.app N3 N4q
  show Own.Go p e below _ (T4.setTop (mkF m 48 #[.val (.ref x), .val (.ref a), .val (.int (0 : Int32)), .val (.int (2 : Int32)), .val .null, .val (.ref r)] [(.int (1 : Int32)), (.ref x)]))
  refine Own.g_putF X4 hx hZ hown (host := "") (Or.inl (hw _ (List.mem_of_getElem? (i := 29) rfl))) Via.refl eH4 F_x_coder E_x (Or.inr ⟨(hw _ (List.mem_of_getElem? (i := 25) rfl)), rfl, hnm⟩) (hw _ (List.mem_of_getElem? (i := 9) rfl)) (ty := .byte) (by decide) rfl rfl (hb hby d4_48) 51 rfl ?_
  clear F_x_coder; intro T5 h5 X5 e5 W5 F_x_coder Ew5
  replace E_x := E_x.wr W5
  replace F_x_value := F_x_value.other W5 (Or.inr (slot_ne (Or.inr (hw _ (List.mem_of_getElem? (i := 24) rfl))) (Or.inr (hw _ (List.mem_of_getElem? (i := 25) rfl))) (by decide) (t := (.array .byte)) (t' := .byte) (by decide) (by decide)))
  replace V_r := V_r.other W5 (Ne.symm ne_x_r)
  replace O := O.wr W5 n0_x
  replace KP := KP.wr W5 (Or.inl (List.mem_of_getElem? (i := 0) rfl))
  have N5 := Fr.snoc X5 N4 n0_x
  refine Own.g_aloadN X5 hx (hb hby d4_51) rfl rfl 52 rfl ?_
  refine Own.g_aload X5 hx (hb hby d4_52) rfl rfl 54 rfl ?_
  refine Own.g_putF X5 hx hZ hown (host := "") (Or.inl (hw _ (List.mem_of_getElem? (i := 28) rfl))) Via.refl e5 F_x_value E_x (Or.inr ⟨(hw _ (List.mem_of_getElem? (i := 24) rfl)), rfl, hnm⟩) (hw _ (List.mem_of_getElem? (i := 9) rfl)) (ty := (.array .byte)) (by decide) rfl rfl (hb hby d4_54) 57 rfl ?_
  clear F_x_value; intro T6 h6 X6 e6 W6 F_x_value Ew6
  replace E_x := E_x.wr W6
  replace F_x_coder := F_x_coder.other W6 (Or.inr (slot_ne (Or.inr (hw _ (List.mem_of_getElem? (i := 25) rfl))) (Or.inr (hw _ (List.mem_of_getElem? (i := 24) rfl))) (by decide) (t := .byte) (t' := (.array .byte)) (by decide) (by decide)))
  replace V_r := V_r.other W6 (Ne.symm ne_x_r)
  replace O := O.wr W6 n0_x
  replace KP := KP.wr W6 (Or.inl (List.mem_of_getElem? (i := 0) rfl))
  have N6 := Fr.snoc X6 N5 n0_x
  refine Own.g_retV X6 hx hret hlocks (hb hby d4_57) (by decide) (by decide) e6 ?_
  exact ⟨rfl, N6, KP, E_x, F_x_coder, r, k_r, sz0_r, F_x_value, V_r⟩
theorem ef_i3_21 (m : MethodId) (x0 : Addr) (x1 : Addr) : entryFrame m #[.ref x0, .ref x1] 2 = mkF m 0 #[.val (.ref x0), .val (.ref x1)] [] := by first | (simp [entryFrame, mkF, argsToLocals, Value.category]; done) | rfl
def Q_i3_21 (Z : State) (x : Addr) (a : Addr) (ka : ClassId) (x0 : Int32) (x1 : Int32) (G1 : Int32) (v0 : Value) (c0 : Value) (h0 : Heap) (n0 : Nat) (v : Option Value) (h : Heap) (L : List Loc) : Prop := v = none ∧ Fr n0 L ∧ Keep h0 h [x] ∧ Exa Z h x "java/lang/String" ∧ Fld Z h x "java/lang/String" "coder" "B" (.int 1) ∧ ∃ (r : Addr) (k : ClassId), h0.size ≤ r ∧ Fld Z h x "java/lang/String" "value" "[B" (.ref r) ∧ Arv Z h r k .byte 4 [(.int ((x0 >>> ((0 : Int32) &&& 31)).toInt8.toInt32)), (.int ((x0 >>> ((8 : Int32) &&& 31)).toInt8.toInt32)), (.int ((x1 >>> ((0 : Int32) &&& 31)).toInt8.toInt32)), (.int ((x1 >>> ((8 : Int32) &&& 31)).toInt8.toInt32))] (.int 0)
set_option maxRecDepth 65536 in
set_option maxHeartbeats 40000000 in
theorem rm_i3_21 (l : Launch) (Z : State) (a0 : Array Value) (hw : ∀ d ∈ tables_1, d.before a0 Z = true) (ws : List Jvm.Cond) (x : Addr) (a : Addr) (ka : ClassId) (x0 : Int32) (x1 : Int32) (G1 : Int32) (v0 : Value) (c0 : Value) (h0 : Heap) (n0 : Nat) (O : Old Z n0 h0) (n0_x : n0 ≤ x) (ne_a_x : a ≠ x) (V_a : Arv Z h0 a ka .char 2 [(.int x0), (.int x1)] (.int 0)) (C_x0 : Own.Ch x0) (C_x1 : Own.Ch x1) (L_x0 : Own.Lat x0) (hk_ : (255 : Int32) < x1) (SA : Sta Z Z.heap "java/lang/StringUTF16" "$assertionsDisabled" "Z" (.int 1)) (SHI : Sta Z Z.heap "java/lang/StringUTF16" "HI_BYTE_SHIFT" "I" (.int 0)) (SLO : Sta Z Z.heap "java/lang/StringUTF16" "LO_BYTE_SHIFT" "I" (.int 8)) (O2 : Sta Z Z.heap "java/lang/String" "COMPACT_STRINGS" "Z" (.int G1)) (P5 : ¬ (G1 = (0 : Int32))) (E_x : Exa Z h0 x "java/lang/String") (F_x_value : Fld Z h0 x "java/lang/String" "value" "[B" v0) (F_x_coder : Fld Z h0 x "java/lang/String" "coder" "B" c0) :
    MetFree l (⟨"java/lang/String", "<init>", "([C)V"⟩ : MethodName) (head1 (Jvm.Cond.code (⟨"java/lang/String", "<init>", "([C)V"⟩ : MethodName) jdk_42_method_3_code 2 none :: ws) ({ frames := 5, cells := 2, slots := 6, locals := 112 } : Room)) (fun aa U => aa = #[.ref x, .ref a] ∧ Z.Warmed39 U.vm ∧ U.heap = h0) (fun _ _ _ _ _ => True) (fun _ U o U' => Own.End U (Q_i3_21 Z x a ka x0 x1 G1 v0 c0 h0 n0) 2 6 o U') := by
  refine MetFree.of_bodySF (plainFor_of_name pn_0) hisR ?_
  intro p e s m args below meth c s₁ Bd hml0 hP hK
  obtain ⟨rfl, hZ, hh⟩ := hP
  have hx := Bd.exec
  have hby := Bd.bytes
  have hml : c.maxLocals = 2 := hml0
  have hown : s.vm.findClass "java/lang/String" = some m.cls := findClass_of_methodNamed Bd.named
  have hnm := (name_of_methodNamed Bd.named Bd.method).1
  have hret := Bd.returns
  have hlocks : meth.locks = false := Bd.notSynchronized
  have X0 : Stand p l e ({ frames := 5, cells := 2, slots := 6, locals := 112 } : Room) s m #[.ref x, .ref a] below meth c s₁ [] 0 0 := Stand.of_body Bd
  have e0 : s₁.heap = h0 := by rw [← hh, Bd.state]; rfl
  have N0 := Fr.nil n0
  show Own.Go p e below (Own.End s (Q_i3_21 Z x a ka x0 x1 G1 v0 c0 h0 n0) 2 6) (s₁.setTop (entryFrame m #[.ref x, .ref a] 2))
  refine Own.Go.eq (ef_i3_21 m x a) ?_
  have KP : Keep h0 h0 [x] := Keep.refl _ _
  refine Own.g_aloadN X0 hx (hb hby d3_0) rfl rfl 1 rfl ?_
  refine Own.g_aloadN X0 hx (hb hby d3_1) rfl rfl 2 rfl ?_
  refine Own.g_iconst X0 hx (0 : Int32) (hb hby d3_2) rfl 3 rfl ?_
  refine Own.g_aloadN X0 hx (hb hby d3_3) rfl rfl 4 rfl ?_
  refine Own.g_alen X0 hx hZ e0 V_a (hb hby d3_4) 5 rfl ?_
  refine Own.g_aconstNull X0 hx (hb hby d3_5) 6 rfl ?_
  refine Own.g_special X0 hx (y := (⟨"java/lang/String", "<init>", "([CIILjava/lang/Void;)V"⟩ : MethodName)) rfl hown (mvT hZ (hw _ (List.mem_of_getElem? (i := 15) rfl))) (mvT hZ (hw _ (List.mem_of_getElem? (i := 16) rfl))) (mvT hZ (hw _ (List.mem_of_getElem? (i := 18) rfl))) (by decide) (a := x) [.ref a, .int (0 : Int32), .int (2 : Int32), .null] (Own.back (W := 0) (rm_i4_21 l Z a0 hw [] x a ka x0 x1 G1 v0 c0 h0 n0 O n0_x ne_a_x V_a C_x0 C_x1 L_x0 hk_ SA SHI SLO O2 P5 E_x F_x_value F_x_coder) hZ (hw _ (List.mem_of_getElem? (i := 18) rfl)) (hw _ (List.mem_of_getElem? (i := 10) rfl)) (by decide) (by decide)) e0 (by rw [hml]; rfl) [] (lenOf pd_0 rfl) rfl (Nat.le_of_ble_eq_true rfl) (hb hby d3_6) (by decide) (by decide) 9 rfl ?_
  rintro _ T1 L1 X1 ⟨rfl, N1q, K1, GE, GC, r, k_r, sz1, GV, GA⟩
  have N1 := Fr.app N0 N1q
  have szr := Nat.le_trans KP.1 sz1
  replace O := O.keep K1 (allS n0_x all0)
  replace KP := KP.trans K1 (allS (Or.inl (List.mem_of_getElem? (i := 0) rfl)) all0)
  show Own.Go p e below _ (T1.setTop (mkF m 9 #[.val (.ref x), .val (.ref a)] []))
  refine Own.g_retV X1 hx hret hlocks (hb hby d3_9) (by decide) (by decide) (rfl : T1.heap = T1.heap) ?_
  exact ⟨rfl, N1, KP, GE, GC, r, k_r, szr, GV, GA⟩
theorem ef_cp5_22 (m : MethodId) (x0 : Addr) (x1 : Int32) (x2 : Addr) (x3 : Int32) (x4 : Int32) : entryFrame m #[.ref x0, .int x1, .ref x2, .int x3, .int x4] 7 = mkF m 0 #[.val (.ref x0), .val (.int x1), .val (.ref x2), .val (.int x3), .val (.int x4), .unset, .unset] [] := by first | (simp [entryFrame, mkF, argsToLocals, Value.category]; done) | rfl
def Q_cp5_22 (Z : State) (a : Addr) (ka : ClassId) (u : Addr) (ku : ClassId) (x0 : Int32) (x1 : Int32) (h0 : Heap) (n0 : Nat) (v : Option Value) (h : Heap) (L : List Loc) : Prop := v = some (.int 2) ∧ Fr n0 L ∧ Keep h0 h [u] ∧ Arv Z h u ku .byte 2 [(.int (x0.toInt8.toInt32)), (.int (x1.toInt8.toInt32))] (.int 0)
set_option maxRecDepth 65536 in
set_option maxHeartbeats 40000000 in
theorem rm_cp5_22 (l : Launch) (Z : State) (a0 : Array Value) (hw : ∀ d ∈ tables_1, d.before a0 Z = true) (ws : List Jvm.Cond) (a : Addr) (ka : ClassId) (u : Addr) (ku : ClassId) (x0 : Int32) (x1 : Int32) (h0 : Heap) (n0 : Nat) (O : Old Z n0 h0) (n0_u : n0 ≤ u) (ne_a_u : a ≠ u) (V_a : Arv Z h0 a ka .char 2 [(.int x0), (.int x1)] (.int 0)) (V_u : Arv Z h0 u ku .byte 2 [(.int (0 : Int32)), (.int (0 : Int32))] (.int 0)) (L_x0 : Own.Lat x0) (L_x1 : Own.Lat x1) :
    MetFree l (⟨"java/lang/StringUTF16", "compress", "([CI[BII)I"⟩ : MethodName) (head1 (Jvm.Cond.code (⟨"java/lang/StringUTF16", "compress", "([CI[BII)I"⟩ : MethodName) jdk_52_method_21_code 7 (some .int) :: ws) ({ frames := 0, cells := 0, slots := 0, locals := 0 } : Room)) (fun aa U => aa = #[.ref a, .int (0 : Int32), .ref u, .int (0 : Int32), .int (2 : Int32)] ∧ Z.Warmed39 U.vm ∧ U.heap = h0) (fun _ _ _ _ _ => True) (fun _ U o U' => Own.End U (Q_cp5_22 Z a ka u ku x0 x1 h0 n0) 0 0 o U') := by
  refine MetFree.of_bodySF (plainFor_of_name pn_5) hisR ?_
  intro p e s m args below meth c s₁ Bd hml0 hP hK
  obtain ⟨rfl, hZ, hh⟩ := hP
  have hx := Bd.exec
  have hby := Bd.bytes
  have hml : c.maxLocals = 7 := hml0
  have hown : s.vm.findClass "java/lang/StringUTF16" = some m.cls := findClass_of_methodNamed Bd.named
  have hnm := (name_of_methodNamed Bd.named Bd.method).1
  have hret := Bd.returns
  have hlocks : meth.locks = false := Bd.notSynchronized
  have X0 : Stand p l e ({ frames := 0, cells := 0, slots := 0, locals := 0 } : Room) s m #[.ref a, .int (0 : Int32), .ref u, .int (0 : Int32), .int (2 : Int32)] below meth c s₁ [] 0 0 := Stand.of_body Bd
  have e0 : s₁.heap = h0 := by rw [← hh, Bd.state]; rfl
  have N0 := Fr.nil n0
  show Own.Go p e below (Own.End s (Q_cp5_22 Z a ka u ku x0 x1 h0 n0) 0 0) (s₁.setTop (entryFrame m #[.ref a, .int (0 : Int32), .ref u, .int (0 : Int32), .int (2 : Int32)] 7))
  refine Own.Go.eq (ef_cp5_22 m a (0 : Int32) u (0 : Int32) (2 : Int32)) ?_
  have KP : Keep h0 h0 [u] := Keep.refl _ _
  refine Own.g_iconst X0 hx (0 : Int32) (hb hby d15_0) rfl 1 rfl ?_
  refine Own.g_istore X0 hx #[.val (.ref a), .val (.int (0 : Int32)), .val (.ref u), .val (.int (0 : Int32)), .val (.int (2 : Int32)), .val (.int (0 : Int32)), .unset] (hb hby d15_1) rfl 3 rfl ?_
  refine Own.g_iload X0 hx (hb hby d15_3) rfl 5 rfl ?_
  refine Own.g_iload X0 hx (hb hby d15_5) rfl 7 rfl ?_
  refine Own.g_icmp_ge_f X0 hx (hb hby d15_7) (by decide) 10 rfl ?_
  refine Own.g_aloadN X0 hx (hb hby d15_10) rfl rfl 11 rfl ?_
  refine Own.g_iloadN X0 hx (hb hby d15_11) rfl 12 rfl ?_
  refine Own.g_ldC X0 hx hZ e0 V_a (by decide) x0 rfl (hb hby d15_12) 13 rfl ?_
  refine Own.g_istore X0 hx #[.val (.ref a), .val (.int (0 : Int32)), .val (.ref u), .val (.int (0 : Int32)), .val (.int (2 : Int32)), .val (.int (0 : Int32)), .val (.int x0)] (hb hby d15_13) rfl 15 rfl ?_
  refine Own.g_iload X0 hx (hb hby d15_15) rfl 17 rfl ?_
  refine Own.g_sipush X0 hx (255 : Int32) (hb hby d15_17) rfl 20 rfl ?_
  refine Own.g_icmp_le_t X0 hx (hb hby d15_20) L_x0.2 26 (by decide) ?_
  refine Own.g_aloadN X0 hx (hb hby d15_26) rfl rfl 27 rfl ?_
  refine Own.g_iloadN X0 hx (hb hby d15_27) rfl 28 rfl ?_
  refine Own.g_iload X0 hx (hb hby d15_28) rfl 30 rfl ?_
  refine Own.g_i2b X0 hx (hb hby d15_30) 31 rfl ?_
  refine Own.g_stB X0 hx hZ e0 V_u (x0.toInt8.toInt32) (Own.nar_b _) (by decide) 0 rfl (Nat.le_of_ble_eq_true rfl) [(.int (x0.toInt8.toInt32)), (.int (0 : Int32))] rfl (hb hby d15_31) 32 rfl ?_
  clear V_u; intro T1 h1 X1 e1 W1 V_u
  replace V_a := V_a.other W1 ne_a_u
  replace O := O.wr W1 n0_u
  replace KP := KP.wr W1 (Or.inl (List.mem_of_getElem? (i := 0) rfl))
  have N1 := Fr.snoc X1 N0 n0_u
  refine Own.g_iinc X1 hx #[.val (.ref a), .val (.int (1 : Int32)), .val (.ref u), .val (.int (0 : Int32)), .val (.int (2 : Int32)), .val (.int (0 : Int32)), .val (.int x0)] (hb hby d15_32) rfl rfl 35 rfl ?_
  refine Own.g_iinc X1 hx #[.val (.ref a), .val (.int (1 : Int32)), .val (.ref u), .val (.int (1 : Int32)), .val (.int (2 : Int32)), .val (.int (0 : Int32)), .val (.int x0)] (hb hby d15_35) rfl rfl 38 rfl ?_
  refine Own.g_iinc X1 hx #[.val (.ref a), .val (.int (1 : Int32)), .val (.ref u), .val (.int (1 : Int32)), .val (.int (2 : Int32)), .val (.int (1 : Int32)), .val (.int x0)] (hb hby d15_38) rfl rfl 41 rfl ?_
  refine Own.g_goto X1 hx (hb hby d15_41) 3 (by decide) ?_
  refine Own.g_iload X1 hx (hb hby d15_3) rfl 5 rfl ?_
  refine Own.g_iload X1 hx (hb hby d15_5) rfl 7 rfl ?_
  refine Own.g_icmp_ge_f X1 hx (hb hby d15_7) (by decide) 10 rfl ?_
  refine Own.g_aloadN X1 hx (hb hby d15_10) rfl rfl 11 rfl ?_
  refine Own.g_iloadN X1 hx (hb hby d15_11) rfl 12 rfl ?_
  refine Own.g_ldC X1 hx hZ e1 V_a (by decide) x1 rfl (hb hby d15_12) 13 rfl ?_
  refine Own.g_istore X1 hx #[.val (.ref a), .val (.int (1 : Int32)), .val (.ref u), .val (.int (1 : Int32)), .val (.int (2 : Int32)), .val (.int (1 : Int32)), .val (.int x1)] (hb hby d15_13) rfl 15 rfl ?_
  refine Own.g_iload X1 hx (hb hby d15_15) rfl 17 rfl ?_
  refine Own.g_sipush X1 hx (255 : Int32) (hb hby d15_17) rfl 20 rfl ?_
  refine Own.g_icmp_le_t X1 hx (hb hby d15_20) L_x1.2 26 (by decide) ?_
  refine Own.g_aloadN X1 hx (hb hby d15_26) rfl rfl 27 rfl ?_
  refine Own.g_iloadN X1 hx (hb hby d15_27) rfl 28 rfl ?_
  refine Own.g_iload X1 hx (hb hby d15_28) rfl 30 rfl ?_
  refine Own.g_i2b X1 hx (hb hby d15_30) 31 rfl ?_
  refine Own.g_stB X1 hx hZ e1 V_u (x1.toInt8.toInt32) (Own.nar_b _) (by decide) 1 rfl (Nat.le_of_ble_eq_true rfl) [(.int (x0.toInt8.toInt32)), (.int (x1.toInt8.toInt32))] rfl (hb hby d15_31) 32 rfl ?_
  clear V_u; intro T2 h2 X2 e2 W2 V_u
  replace V_a := V_a.other W2 ne_a_u
  replace O := O.wr W2 n0_u
  replace KP := KP.wr W2 (Or.inl (List.mem_of_getElem? (i := 0) rfl))
  have N2 := Fr.snoc X2 N1 n0_u
  refine Own.g_iinc X2 hx #[.val (.ref a), .val (.int (2 : Int32)), .val (.ref u), .val (.int (1 : Int32)), .val (.int (2 : Int32)), .val (.int (1 : Int32)), .val (.int x1)] (hb hby d15_32) rfl rfl 35 rfl ?_
  refine Own.g_iinc X2 hx #[.val (.ref a), .val (.int (2 : Int32)), .val (.ref u), .val (.int (2 : Int32)), .val (.int (2 : Int32)), .val (.int (1 : Int32)), .val (.int x1)] (hb hby d15_35) rfl rfl 38 rfl ?_
  refine Own.g_iinc X2 hx #[.val (.ref a), .val (.int (2 : Int32)), .val (.ref u), .val (.int (2 : Int32)), .val (.int (2 : Int32)), .val (.int (2 : Int32)), .val (.int x1)] (hb hby d15_38) rfl rfl 41 rfl ?_
  refine Own.g_goto X2 hx (hb hby d15_41) 3 (by decide) ?_
  refine Own.g_iload X2 hx (hb hby d15_3) rfl 5 rfl ?_
  refine Own.g_iload X2 hx (hb hby d15_5) rfl 7 rfl ?_
  refine Own.g_icmp_ge_t X2 hx (hb hby d15_7) (by decide) 44 (by decide) ?_
  refine Own.g_iload X2 hx (hb hby d15_44) rfl 46 rfl ?_
  refine Own.g_ret X2 hx hret hlocks rfl (Or.inl ⟨rfl, by simp, _, rfl⟩) (hb hby d15_46) (by decide) (by decide) e2 ?_
  exact ⟨rfl, N2, KP, V_u⟩
theorem ef_cp3_22 (m : MethodId) (x0 : Addr) (x1 : Int32) (x2 : Int32) : entryFrame m #[.ref x0, .int x1, .int x2] 6 = mkF m 0 #[.val (.ref x0), .val (.int x1), .val (.int x2), .unset, .unset, .unset] [] := by first | (simp [entryFrame, mkF, argsToLocals, Value.category]; done) | rfl
def Q_cp3_22 (Z : State) (a : Addr) (ka : ClassId) (x0 : Int32) (x1 : Int32) (h0 : Heap) (n0 : Nat) (v : Option Value) (h : Heap) (L : List Loc) : Prop := ∃ (r : Addr) (k : ClassId), v = some (.ref r) ∧ Fr n0 L ∧ Keep h0 h [] ∧ h0.size ≤ r ∧ Arv Z h r k .byte 2 [(.int (x0.toInt8.toInt32)), (.int (x1.toInt8.toInt32))] (.int 0)
set_option maxRecDepth 65536 in
set_option maxHeartbeats 40000000 in
theorem rm_cp3_22 (l : Launch) (Z : State) (a0 : Array Value) (hw : ∀ d ∈ tables_1, d.before a0 Z = true) (ws : List Jvm.Cond) (a : Addr) (ka : ClassId) (x0 : Int32) (x1 : Int32) (h0 : Heap) (n0 : Nat) (O : Old Z n0 h0) (V_a : Arv Z h0 a ka .char 2 [(.int x0), (.int x1)] (.int 0)) (C_x0 : Own.Ch x0) (C_x1 : Own.Ch x1) (L_x0 : Own.Lat x0) (L_x1 : Own.Lat x1) (SA : Sta Z Z.heap "java/lang/StringUTF16" "$assertionsDisabled" "Z" (.int 1)) (SHI : Sta Z Z.heap "java/lang/StringUTF16" "HI_BYTE_SHIFT" "I" (.int 0)) (SLO : Sta Z Z.heap "java/lang/StringUTF16" "LO_BYTE_SHIFT" "I" (.int 8)) :
    MetFree l (⟨"java/lang/StringUTF16", "compress", "([CII)[B"⟩ : MethodName) (head1 (Jvm.Cond.code (⟨"java/lang/StringUTF16", "compress", "([CII)[B"⟩ : MethodName) jdk_52_method_16_code 6 (some (.array .byte)) :: ws) ({ frames := 3, cells := 1, slots := 2, locals := 64 } : Room)) (fun aa U => aa = #[.ref a, .int (0 : Int32), .int (2 : Int32)] ∧ Z.Warmed39 U.vm ∧ U.heap = h0) (fun _ _ _ _ _ => True) (fun _ U o U' => Own.End U (Q_cp3_22 Z a ka x0 x1 h0 n0) 1 2 o U') := by
  refine MetFree.of_bodySF (plainFor_of_name pn_5) hisR ?_
  intro p e s m args below meth c s₁ Bd hml0 hP hK
  obtain ⟨rfl, hZ, hh⟩ := hP
  have hx := Bd.exec
  have hby := Bd.bytes
  have hml : c.maxLocals = 6 := hml0
  have hown : s.vm.findClass "java/lang/StringUTF16" = some m.cls := findClass_of_methodNamed Bd.named
  have hnm := (name_of_methodNamed Bd.named Bd.method).1
  have hret := Bd.returns
  have hlocks : meth.locks = false := Bd.notSynchronized
  have X0 : Stand p l e ({ frames := 3, cells := 1, slots := 2, locals := 64 } : Room) s m #[.ref a, .int (0 : Int32), .int (2 : Int32)] below meth c s₁ [] 0 0 := Stand.of_body Bd
  have e0 : s₁.heap = h0 := by rw [← hh, Bd.state]; rfl
  have N0 := Fr.nil n0
  show Own.Go p e below (Own.End s (Q_cp3_22 Z a ka x0 x1 h0 n0) 1 2) (s₁.setTop (entryFrame m #[.ref a, .int (0 : Int32), .int (2 : Int32)] 6))
  refine Own.Go.eq (ef_cp3_22 m a (0 : Int32) (2 : Int32)) ?_
  have KP : Keep h0 h0 [] := Keep.refl _ _
  refine Own.g_iloadN X0 hx (hb hby d14_0) rfl 1 rfl ?_
  refine Own.g_newP X0 hx hZ (hw _ (List.mem_of_getElem? (i := 23) rfl)) e0 (hb hby d14_1) (by decide) 2 (by decide) (by decide) (by decide) (by decide) 3 rfl .byte rfl [(.int (0 : Int32)), (.int (0 : Int32))] (by intro i; first | rfl | (rcases i with _ | _ | _ | _ | _ | _ | _ | _ | _ | _ | _ | _ | _ | _ | _ | _ | _ | _ | _ | _ | _ | _ | _ | _ | i <;> rfl)) ?_
  intro T1 h1 u k_u X1 e1 E1 g1 V_u
  have ne_a_u : a ≠ u := Nat.ne_of_lt (Nat.lt_of_lt_of_le (V_a.lt) (Nat.le_of_eq g1.symm))
  have n0_u : n0 ≤ u := Nat.le_trans (Nat.le_of_eq O.1.symm) (Nat.le_trans O.2.1 (Nat.le_of_eq g1.symm))
  have sz0_u : h0.size ≤ u := Nat.le_trans KP.1 (Nat.le_of_eq g1.symm)
  replace V_a := V_a.ext E1
  replace O := O.ext E1
  replace KP := KP.ext E1
  change Arv Z h1 u k_u .byte (2 : Int32) [(.int (0 : Int32)), (.int (0 : Int32))] (.int (0 : Int32)) at V_u
  refine Own.g_astoreN X1 hx #[.val (.ref a), .val (.int (0 : Int32)), .val (.int (2 : Int32)), .val (.ref u), .unset, .unset] (hb hby d14_3) rfl rfl 4 rfl ?_
  refine Own.g_aloadN X1 hx (hb hby d14_4) rfl rfl 5 rfl ?_
  refine Own.g_iloadN X1 hx (hb hby d14_5) rfl 6 rfl ?_
  refine Own.g_aloadN X1 hx (hb hby d14_6) rfl rfl 7 rfl ?_
  refine Own.g_iconst X1 hx (0 : Int32) (hb hby d14_7) rfl 8 rfl ?_
  refine Own.g_iloadN X1 hx (hb hby d14_8) rfl 9 rfl ?_
  refine Own.g_callS X1 hx (y := (⟨"java/lang/StringUTF16", "compress", "([CI[BII)I"⟩ : MethodName)) hown (mvT hZ (hw _ (List.mem_of_getElem? (i := 68) rfl))) (mvT hZ (hw _ (List.mem_of_getElem? (i := 69) rfl))) (mvT hZ (hw _ (List.mem_of_getElem? (i := 66) rfl))) (mvT hZ (hw _ (List.mem_of_getElem? (i := 70) rfl))) (by decide) [.ref a, .int (0 : Int32), .ref u, .int (0 : Int32), .int (2 : Int32)] (Own.back (W := 0) (rm_cp5_22 l Z a0 hw [] a ka u k_u x0 x1 h1 n0 O n0_u ne_a_u V_a V_u L_x0 L_x1) hZ (hw _ (List.mem_of_getElem? (i := 70) rfl)) (hw _ (List.mem_of_getElem? (i := 66) rfl)) (by decide) (by decide)) e1 (by rw [hml]; rfl) [] (lenOf pd_5 rfl) rfl (Nat.le_of_ble_eq_true rfl) (hb hby d14_9) (by decide) (by decide) 12 rfl ?_
  rintro _ T2 L2 X2 ⟨rfl, N2q, K2, V_u⟩
  have N2 := Fr.app N0 N2q
  replace V_a := V_a.keep K2 (ninS ne_a_u nin0)
  replace O := O.keep K2 (allS n0_u all0)
  replace KP := KP.trans K2 (allS (Or.inr sz0_u) all0)
  show Own.Go p e below _ (T2.setTop (mkF m 12 #[.val (.ref a), .val (.int (0 : Int32)), .val (.int (2 : Int32)), .val (.ref u), .unset, .unset] [(.int (2 : Int32))]))
  refine Own.g_istore X2 hx #[.val (.ref a), .val (.int (0 : Int32)), .val (.int (2 : Int32)), .val (.ref u), .val (.int (2 : Int32)), .unset] (hb hby d14_12) rfl 14 rfl ?_
  refine Own.g_iload X2 hx (hb hby d14_14) rfl 16 rfl ?_
  refine Own.g_iloadN X2 hx (hb hby d14_16) rfl 17 rfl ?_
  refine Own.g_icmp_eq_t X2 hx (hb hby d14_17) rfl 57 (by decide) ?_
  refine Own.g_aloadN X2 hx (hb hby d14_57) rfl rfl 58 rfl ?_
  refine Own.g_ret X2 hx hret hlocks rfl (Or.inr (Or.inr (Or.inr (Or.inr ⟨rfl, rfl, rfl⟩)))) (hb hby d14_58) (by decide) (by decide) (rfl : T2.heap = T2.heap) ?_
  exact ⟨u, k_u, rfl, N2, KP, sz0_u, V_u⟩
theorem ef_cfa22 (m : MethodId) (x0 : Addr) (x1 : Int32) : entryFrame m #[.ref x0, .int x1] 2 = mkF m 0 #[.val (.ref x0), .val (.int x1)] [] := by first | (simp [entryFrame, mkF, argsToLocals, Value.category]; done) | rfl
def Q_cfa22 (Z : State) (r : Addr) (kr : ClassId) (vs : List Value) (h0 : Heap) (n0 : Nat) (v : Option Value) (h : Heap) (L : List Loc) : Prop := v = some (.int 0) ∧ Fr n0 L ∧ h = h0
set_option maxRecDepth 65536 in
set_option maxHeartbeats 40000000 in
theorem rm_cfa22 (l : Launch) (Z : State) (a0 : Array Value) (hw : ∀ d ∈ tables_1, d.before a0 Z = true) (ws : List Jvm.Cond) (r : Addr) (kr : ClassId) (vs : List Value) (h0 : Heap) (n0 : Nat) (O : Old Z n0 h0) (V_r : Arv Z h0 r kr .byte 2 vs (.int 0)) :
    MetFree l (⟨"java/lang/StringUTF16", "coderFromArrayLen", "([BI)B"⟩ : MethodName) (head1 (Jvm.Cond.code (⟨"java/lang/StringUTF16", "coderFromArrayLen", "([BI)B"⟩ : MethodName) jdk_52_method_15_code 2 (some .byte) :: ws) ({ frames := 0, cells := 0, slots := 0, locals := 0 } : Room)) (fun aa U => aa = #[.ref r, .int (2 : Int32)] ∧ Z.Warmed39 U.vm ∧ U.heap = h0) (fun _ _ _ _ _ => True) (fun _ U o U' => Own.End U (Q_cfa22 Z r kr vs h0 n0) 0 0 o U') := by
  refine MetFree.of_bodySF (plainFor_of_name pn_5) hisR ?_
  intro p e s m args below meth c s₁ Bd hml0 hP hK
  obtain ⟨rfl, hZ, hh⟩ := hP
  have hx := Bd.exec
  have hby := Bd.bytes
  have hml : c.maxLocals = 2 := hml0
  have hown : s.vm.findClass "java/lang/StringUTF16" = some m.cls := findClass_of_methodNamed Bd.named
  have hnm := (name_of_methodNamed Bd.named Bd.method).1
  have hret := Bd.returns
  have hlocks : meth.locks = false := Bd.notSynchronized
  have X0 : Stand p l e ({ frames := 0, cells := 0, slots := 0, locals := 0 } : Room) s m #[.ref r, .int (2 : Int32)] below meth c s₁ [] 0 0 := Stand.of_body Bd
  have e0 : s₁.heap = h0 := by rw [← hh, Bd.state]; rfl
  have N0 := Fr.nil n0
  show Own.Go p e below (Own.End s (Q_cfa22 Z r kr vs h0 n0) 0 0) (s₁.setTop (entryFrame m #[.ref r, .int (2 : Int32)] 2))
  refine Own.Go.eq (ef_cfa22 m r (2 : Int32)) ?_
  refine Own.g_iloadN X0 hx (hb hby d21_0) rfl 1 rfl ?_
  refine Own.g_aloadN X0 hx (hb hby d21_1) rfl rfl 2 rfl ?_
  refine Own.g_alen X0 hx hZ e0 V_r (hb hby d21_2) 3 rfl ?_
  refine Own.g_isub X0 hx (hb hby d21_3) 4 rfl ?_
  rw [show ((2 : Int32) - (2 : Int32)) = (0 : Int32) from by decide]
  refine Own.g_bipush X0 hx (31 : Int32) (hb hby d21_4) rfl 6 rfl ?_
  refine Own.g_iushr X0 hx (hb hby d21_6) 7 rfl ?_
  rw [show (((0 : Int32).toUInt32 >>> ((31 : Int32) &&& 31).toUInt32).toInt32) = (0 : Int32) from by decide]
  refine Own.g_i2b X0 hx (hb hby d21_7) 8 rfl ?_
  rw [show ((0 : Int32).toInt8.toInt32) = (0 : Int32) from by decide]
  refine Own.g_ret X0 hx hret hlocks rfl (Or.inl ⟨rfl, by simp, _, rfl⟩) (hb hby d21_8) (by decide) (by decide) e0 ?_
  exact ⟨rfl, N0, rfl⟩
theorem ef_i4_22 (m : MethodId) (x0 : Addr) (x1 : Addr) (x2 : Int32) (x3 : Int32) : entryFrame m #[.ref x0, .ref x1, .int x2, .int x3, .null] 6 = mkF m 0 #[.val (.ref x0), .val (.ref x1), .val (.int x2), .val (.int x3), .val .null, .unset] [] := by first | (simp [entryFrame, mkF, argsToLocals, Value.category]; done) | rfl
def Q_i4_22 (Z : State) (x : Addr) (a : Addr) (ka : ClassId) (x0 : Int32) (x1 : Int32) (G1 : Int32) (v0 : Value) (c0 : Value) (h0 : Heap) (n0 : Nat) (v : Option Value) (h : Heap) (L : List Loc) : Prop := v = none ∧ Fr n0 L ∧ Keep h0 h [x] ∧ Exa Z h x "java/lang/String" ∧ Fld Z h x "java/lang/String" "coder" "B" (.int 0) ∧ ∃ (r : Addr) (k : ClassId), h0.size ≤ r ∧ Fld Z h x "java/lang/String" "value" "[B" (.ref r) ∧ Arv Z h r k .byte 2 [(.int (x0.toInt8.toInt32)), (.int (x1.toInt8.toInt32))] (.int 0)
set_option maxRecDepth 65536 in
set_option maxHeartbeats 40000000 in
theorem rm_i4_22 (l : Launch) (Z : State) (a0 : Array Value) (hw : ∀ d ∈ tables_1, d.before a0 Z = true) (ws : List Jvm.Cond) (x : Addr) (a : Addr) (ka : ClassId) (x0 : Int32) (x1 : Int32) (G1 : Int32) (v0 : Value) (c0 : Value) (h0 : Heap) (n0 : Nat) (O : Old Z n0 h0) (n0_x : n0 ≤ x) (ne_a_x : a ≠ x) (V_a : Arv Z h0 a ka .char 2 [(.int x0), (.int x1)] (.int 0)) (C_x0 : Own.Ch x0) (C_x1 : Own.Ch x1) (L_x0 : Own.Lat x0) (L_x1 : Own.Lat x1) (SA : Sta Z Z.heap "java/lang/StringUTF16" "$assertionsDisabled" "Z" (.int 1)) (SHI : Sta Z Z.heap "java/lang/StringUTF16" "HI_BYTE_SHIFT" "I" (.int 0)) (SLO : Sta Z Z.heap "java/lang/StringUTF16" "LO_BYTE_SHIFT" "I" (.int 8)) (O2 : Sta Z Z.heap "java/lang/String" "COMPACT_STRINGS" "Z" (.int G1)) (P5 : ¬ (G1 = (0 : Int32))) (E_x : Exa Z h0 x "java/lang/String") (F_x_value : Fld Z h0 x "java/lang/String" "value" "[B" v0) (F_x_coder : Fld Z h0 x "java/lang/String" "coder" "B" c0) :
    MetFree l (⟨"java/lang/String", "<init>", "([CIILjava/lang/Void;)V"⟩ : MethodName) (head1 (Jvm.Cond.code (⟨"java/lang/String", "<init>", "([CIILjava/lang/Void;)V"⟩ : MethodName) jdk_42_method_149_code 6 none :: ws) ({ frames := 4, cells := 1, slots := 2, locals := 90 } : Room)) (fun aa U => aa = #[.ref x, .ref a, .int (0 : Int32), .int (2 : Int32), .null] ∧ Z.Warmed39 U.vm ∧ U.heap = h0) (fun _ _ _ _ _ => True) (fun _ U o U' => Own.End U (Q_i4_22 Z x a ka x0 x1 G1 v0 c0 h0 n0) 1 2 o U') := by
  refine MetFree.of_bodySF (plainFor_of_name pn_0) hisR ?_
  intro p e s m args below meth c s₁ Bd hml0 hP hK
  obtain ⟨rfl, hZ, hh⟩ := hP
  have hx := Bd.exec
  have hby := Bd.bytes
  have hml : c.maxLocals = 6 := hml0
  have hown : s.vm.findClass "java/lang/String" = some m.cls := findClass_of_methodNamed Bd.named
  have hnm := (name_of_methodNamed Bd.named Bd.method).1
  have hret := Bd.returns
  have hlocks : meth.locks = false := Bd.notSynchronized
  have X0 : Stand p l e ({ frames := 4, cells := 1, slots := 2, locals := 90 } : Room) s m #[.ref x, .ref a, .int (0 : Int32), .int (2 : Int32), .null] below meth c s₁ [] 0 0 := Stand.of_body Bd
  have e0 : s₁.heap = h0 := by rw [← hh, Bd.state]; rfl
  have N0 := Fr.nil n0
  show Own.Go p e below (Own.End s (Q_i4_22 Z x a ka x0 x1 G1 v0 c0 h0 n0) 1 2) (s₁.setTop (entryFrame m #[.ref x, .ref a, .int (0 : Int32), .int (2 : Int32), .null] 6))
  refine Own.Go.eq (ef_i4_22 m x a (0 : Int32) (2 : Int32)) ?_
  have KP : Keep h0 h0 [x] := Keep.refl _ _
  refine Own.g_aloadN X0 hx (hb hby d4_0) rfl rfl 1 rfl ?_
  refine Own.g_initO X0 hx hZ hown (hw _ (List.mem_of_getElem? (i := 19) rfl)) (hw _ (List.mem_of_getElem? (i := 20) rfl)) (hw _ (List.mem_of_getElem? (i := 21) rfl)) e0 (by rw [hml]; rfl) (hb hby d4_1) (by decide) (W := 0) (Nat.le_of_ble_eq_true rfl) (by decide) 4 rfl ?_
  intro T1 X1 e1
  refine Own.g_iloadN X1 hx (hb hby d4_4) rfl 5 rfl ?_
  refine Own.g_if_ne_t X1 hx (hb hby d4_5) (by decide) 27 (by decide) ?_
  refine Own.g_getS X1 hx hZ hown (host := "") (Or.inl (hw _ (List.mem_of_getElem? (i := 55) rfl))) Via.refl e1 (O2.ext O.2) (hb hby d4_27) 30 rfl ?_
  intro T2 X2 e2
  refine Own.g_if_eq_f X2 hx (hb hby d4_30) P5 33 rfl ?_
  refine Own.g_aloadN X2 hx (hb hby d4_33) rfl rfl 34 rfl ?_
  refine Own.g_iloadN X2 hx (hb hby d4_34) rfl 35 rfl ?_
  refine Own.g_iloadN X2 hx (hb hby d4_35) rfl 36 rfl ?_
  refine Own.g_callS X2 hx (y := (⟨"java/lang/StringUTF16", "compress", "([CII)[B"⟩ : MethodName)) hown (mvT hZ (hw _ (List.mem_of_getElem? (i := 64) rfl))) (mvT hZ (hw _ (List.mem_of_getElem? (i := 65) rfl))) (mvT hZ (hw _ (List.mem_of_getElem? (i := 66) rfl))) (mvT hZ (hw _ (List.mem_of_getElem? (i := 67) rfl))) (by decide) [.ref a, .int (0 : Int32), .int (2 : Int32)] (Own.back (W := 0) (rm_cp3_22 l Z a0 hw [] a ka x0 x1 h0 n0 O V_a C_x0 C_x1 L_x0 L_x1 SA SHI SLO) hZ (hw _ (List.mem_of_getElem? (i := 67) rfl)) (hw _ (List.mem_of_getElem? (i := 66) rfl)) (by decide) (by decide)) e2 (by rw [hml]; rfl) [] (lenOf pd_6 rfl) rfl (Nat.le_of_ble_eq_true rfl) (hb hby d4_36) (by decide) (by decide) 39 rfl ?_
  rintro _ T3 L3 X3 ⟨r, k_r, rfl, N3q, K3, sz3, V_r⟩
  have N3 := Fr.app N0 N3q
  have ne_x_r : x ≠ r := Nat.ne_of_lt (Nat.lt_of_lt_of_le (E_x.lt) sz3)
  have n0_r : n0 ≤ r := Nat.le_trans (Nat.le_of_eq O.1.symm) (Nat.le_trans O.2.1 sz3)
  have sz0_r : h0.size ≤ r := Nat.le_trans KP.1 sz3
  replace E_x := E_x.keep K3
  replace F_x_value := F_x_value.keep K3 nin0
  replace F_x_coder := F_x_coder.keep K3 nin0
  replace O := O.keep K3 all0
  replace KP := KP.trans K3 all0
  show Own.Go p e below _ (T3.setTop (mkF m 39 #[.val (.ref x), .val (.ref a), .val (.int (0 : Int32)), .val (.int (2 : Int32)), .val .null, .unset] [(.ref r)]))
  refine Own.g_astore X3 hx #[.val (.ref x), .val (.ref a), .val (.int (0 : Int32)), .val (.int (2 : Int32)), .val .null, .val (.ref r)] (hb hby d4_39) rfl rfl 41 rfl ?_
  refine Own.g_aloadN X3 hx (hb hby d4_41) rfl rfl 42 rfl ?_
  refine Own.g_aload X3 hx (hb hby d4_42) rfl rfl 44 rfl ?_
  refine Own.g_iloadN X3 hx (hb hby d4_44) rfl 45 rfl ?_
  have ne_r_x := Ne.symm ne_x_r
  refine Own.g_callS X3 hx (y := (⟨"java/lang/StringUTF16", "coderFromArrayLen", "([BI)B"⟩ : MethodName)) hown (mvT hZ (hw _ (List.mem_of_getElem? (i := 90) rfl))) (mvT hZ (hw _ (List.mem_of_getElem? (i := 91) rfl))) (mvT hZ (hw _ (List.mem_of_getElem? (i := 66) rfl))) (mvT hZ (hw _ (List.mem_of_getElem? (i := 92) rfl))) (by decide) [.ref r, .int (2 : Int32)] (Own.back (W := 1) (rm_cfa22 l Z a0 hw [] r k_r [(.int (x0.toInt8.toInt32)), (.int (x1.toInt8.toInt32))] T3.heap n0 O V_r) hZ (hw _ (List.mem_of_getElem? (i := 92) rfl)) (hw _ (List.mem_of_getElem? (i := 66) rfl)) (by decide) (by decide)) (rfl : T3.heap = T3.heap) (by rw [hml]; rfl) [(.ref x)] (lenOf pd_8 rfl) rfl (Nat.le_of_ble_eq_true rfl) (hb hby d4_45) (by decide) (by decide) 48 rfl ?_
  rintro _ T4 L4 X4 ⟨rfl, N4q, eH4⟩
  have N4 := Fr.app N3 N4q
  show Own.Go p e below _ (T4.setTop (mkF m 48 #[.val (.ref x), .val (.ref a), .val (.int (0 : Int32)), .val (.int (2 : Int32)), .val .null, .val (.ref r)] [(.int (0 : Int32)), (.ref x)]))
  refine Own.g_putF X4 hx hZ hown (host := "") (Or.inl (hw _ (List.mem_of_getElem? (i := 29) rfl))) Via.refl eH4 F_x_coder E_x (Or.inr ⟨(hw _ (List.mem_of_getElem? (i := 25) rfl)), rfl, hnm⟩) (hw _ (List.mem_of_getElem? (i := 9) rfl)) (ty := .byte) (by decide) rfl rfl (hb hby d4_48) 51 rfl ?_
  clear F_x_coder; intro T5 h5 X5 e5 W5 F_x_coder Ew5
  replace E_x := E_x.wr W5
  replace F_x_value := F_x_value.other W5 (Or.inr (slot_ne (Or.inr (hw _ (List.mem_of_getElem? (i := 24) rfl))) (Or.inr (hw _ (List.mem_of_getElem? (i := 25) rfl))) (by decide) (t := (.array .byte)) (t' := .byte) (by decide) (by decide)))
  replace V_r := V_r.other W5 (Ne.symm ne_x_r)
  replace O := O.wr W5 n0_x
  replace KP := KP.wr W5 (Or.inl (List.mem_of_getElem? (i := 0) rfl))
  have N5 := Fr.snoc X5 N4 n0_x
  refine Own.g_aloadN X5 hx (hb hby d4_51) rfl rfl 52 rfl ?_
  refine Own.g_aload X5 hx (hb hby d4_52) rfl rfl 54 rfl ?_
  refine Own.g_putF X5 hx hZ hown (host := "") (Or.inl (hw _ (List.mem_of_getElem? (i := 28) rfl))) Via.refl e5 F_x_value E_x (Or.inr ⟨(hw _ (List.mem_of_getElem? (i := 24) rfl)), rfl, hnm⟩) (hw _ (List.mem_of_getElem? (i := 9) rfl)) (ty := (.array .byte)) (by decide) rfl rfl (hb hby d4_54) 57 rfl ?_
  clear F_x_value; intro T6 h6 X6 e6 W6 F_x_value Ew6
  replace E_x := E_x.wr W6
  replace F_x_coder := F_x_coder.other W6 (Or.inr (slot_ne (Or.inr (hw _ (List.mem_of_getElem? (i := 25) rfl))) (Or.inr (hw _ (List.mem_of_getElem? (i := 24) rfl))) (by decide) (t := .byte) (t' := (.array .byte)) (by decide) (by decide)))
  replace V_r := V_r.other W6 (Ne.symm ne_x_r)
  replace O := O.wr W6 n0_x
  replace KP := KP.wr W6 (Or.inl (List.mem_of_getElem? (i := 0) rfl))
  have N6 := Fr.snoc X6 N5 n0_x
  refine Own.g_retV X6 hx hret hlocks (hb hby d4_57) (by decide) (by decide) e6 ?_
  exact ⟨rfl, N6, KP, E_x, F_x_coder, r, k_r, sz0_r, F_x_value, V_r⟩
theorem ef_i3_22 (m : MethodId) (x0 : Addr) (x1 : Addr) : entryFrame m #[.ref x0, .ref x1] 2 = mkF m 0 #[.val (.ref x0), .val (.ref x1)] [] := by first | (simp [entryFrame, mkF, argsToLocals, Value.category]; done) | rfl
def Q_i3_22 (Z : State) (x : Addr) (a : Addr) (ka : ClassId) (x0 : Int32) (x1 : Int32) (G1 : Int32) (v0 : Value) (c0 : Value) (h0 : Heap) (n0 : Nat) (v : Option Value) (h : Heap) (L : List Loc) : Prop := v = none ∧ Fr n0 L ∧ Keep h0 h [x] ∧ Exa Z h x "java/lang/String" ∧ Fld Z h x "java/lang/String" "coder" "B" (.int 0) ∧ ∃ (r : Addr) (k : ClassId), h0.size ≤ r ∧ Fld Z h x "java/lang/String" "value" "[B" (.ref r) ∧ Arv Z h r k .byte 2 [(.int (x0.toInt8.toInt32)), (.int (x1.toInt8.toInt32))] (.int 0)
set_option maxRecDepth 65536 in
set_option maxHeartbeats 40000000 in
theorem rm_i3_22 (l : Launch) (Z : State) (a0 : Array Value) (hw : ∀ d ∈ tables_1, d.before a0 Z = true) (ws : List Jvm.Cond) (x : Addr) (a : Addr) (ka : ClassId) (x0 : Int32) (x1 : Int32) (G1 : Int32) (v0 : Value) (c0 : Value) (h0 : Heap) (n0 : Nat) (O : Old Z n0 h0) (n0_x : n0 ≤ x) (ne_a_x : a ≠ x) (V_a : Arv Z h0 a ka .char 2 [(.int x0), (.int x1)] (.int 0)) (C_x0 : Own.Ch x0) (C_x1 : Own.Ch x1) (L_x0 : Own.Lat x0) (L_x1 : Own.Lat x1) (SA : Sta Z Z.heap "java/lang/StringUTF16" "$assertionsDisabled" "Z" (.int 1)) (SHI : Sta Z Z.heap "java/lang/StringUTF16" "HI_BYTE_SHIFT" "I" (.int 0)) (SLO : Sta Z Z.heap "java/lang/StringUTF16" "LO_BYTE_SHIFT" "I" (.int 8)) (O2 : Sta Z Z.heap "java/lang/String" "COMPACT_STRINGS" "Z" (.int G1)) (P5 : ¬ (G1 = (0 : Int32))) (E_x : Exa Z h0 x "java/lang/String") (F_x_value : Fld Z h0 x "java/lang/String" "value" "[B" v0) (F_x_coder : Fld Z h0 x "java/lang/String" "coder" "B" c0) :
    MetFree l (⟨"java/lang/String", "<init>", "([C)V"⟩ : MethodName) (head1 (Jvm.Cond.code (⟨"java/lang/String", "<init>", "([C)V"⟩ : MethodName) jdk_42_method_3_code 2 none :: ws) ({ frames := 5, cells := 1, slots := 2, locals := 112 } : Room)) (fun aa U => aa = #[.ref x, .ref a] ∧ Z.Warmed39 U.vm ∧ U.heap = h0) (fun _ _ _ _ _ => True) (fun _ U o U' => Own.End U (Q_i3_22 Z x a ka x0 x1 G1 v0 c0 h0 n0) 1 2 o U') := by
  refine MetFree.of_bodySF (plainFor_of_name pn_0) hisR ?_
  intro p e s m args below meth c s₁ Bd hml0 hP hK
  obtain ⟨rfl, hZ, hh⟩ := hP
  have hx := Bd.exec
  have hby := Bd.bytes
  have hml : c.maxLocals = 2 := hml0
  have hown : s.vm.findClass "java/lang/String" = some m.cls := findClass_of_methodNamed Bd.named
  have hnm := (name_of_methodNamed Bd.named Bd.method).1
  have hret := Bd.returns
  have hlocks : meth.locks = false := Bd.notSynchronized
  have X0 : Stand p l e ({ frames := 5, cells := 1, slots := 2, locals := 112 } : Room) s m #[.ref x, .ref a] below meth c s₁ [] 0 0 := Stand.of_body Bd
  have e0 : s₁.heap = h0 := by rw [← hh, Bd.state]; rfl
  have N0 := Fr.nil n0
  show Own.Go p e below (Own.End s (Q_i3_22 Z x a ka x0 x1 G1 v0 c0 h0 n0) 1 2) (s₁.setTop (entryFrame m #[.ref x, .ref a] 2))
  refine Own.Go.eq (ef_i3_22 m x a) ?_
  have KP : Keep h0 h0 [x] := Keep.refl _ _
  refine Own.g_aloadN X0 hx (hb hby d3_0) rfl rfl 1 rfl ?_
  refine Own.g_aloadN X0 hx (hb hby d3_1) rfl rfl 2 rfl ?_
  refine Own.g_iconst X0 hx (0 : Int32) (hb hby d3_2) rfl 3 rfl ?_
  refine Own.g_aloadN X0 hx (hb hby d3_3) rfl rfl 4 rfl ?_
  refine Own.g_alen X0 hx hZ e0 V_a (hb hby d3_4) 5 rfl ?_
  refine Own.g_aconstNull X0 hx (hb hby d3_5) 6 rfl ?_
  refine Own.g_special X0 hx (y := (⟨"java/lang/String", "<init>", "([CIILjava/lang/Void;)V"⟩ : MethodName)) rfl hown (mvT hZ (hw _ (List.mem_of_getElem? (i := 15) rfl))) (mvT hZ (hw _ (List.mem_of_getElem? (i := 16) rfl))) (mvT hZ (hw _ (List.mem_of_getElem? (i := 18) rfl))) (by decide) (a := x) [.ref a, .int (0 : Int32), .int (2 : Int32), .null] (Own.back (W := 0) (rm_i4_22 l Z a0 hw [] x a ka x0 x1 G1 v0 c0 h0 n0 O n0_x ne_a_x V_a C_x0 C_x1 L_x0 L_x1 SA SHI SLO O2 P5 E_x F_x_value F_x_coder) hZ (hw _ (List.mem_of_getElem? (i := 18) rfl)) (hw _ (List.mem_of_getElem? (i := 10) rfl)) (by decide) (by decide)) e0 (by rw [hml]; rfl) [] (lenOf pd_0 rfl) rfl (Nat.le_of_ble_eq_true rfl) (hb hby d3_6) (by decide) (by decide) 9 rfl ?_
  rintro _ T1 L1 X1 ⟨rfl, N1q, K1, GE, GC, r, k_r, sz1, GV, GA⟩
  have N1 := Fr.app N0 N1q
  have szr := Nat.le_trans KP.1 sz1
  replace O := O.keep K1 (allS n0_x all0)
  replace KP := KP.trans K1 (allS (Or.inl (List.mem_of_getElem? (i := 0) rfl)) all0)
  show Own.Go p e below _ (T1.setTop (mkF m 9 #[.val (.ref x), .val (.ref a)] []))
  refine Own.g_retV X1 hx hret hlocks (hb hby d3_9) (by decide) (by decide) (rfl : T1.heap = T1.heap) ?_
  exact ⟨rfl, N1, KP, GE, GC, r, k_r, szr, GV, GA⟩
theorem ef_mk (m : MethodId) (x0 : Int32) (x1 : Int32) (x2 : Int32) : entryFrame m #[.int x0, .int x1, .int x2] 3 = mkF m 0 #[.val (.int x0), .val (.int x1), .val (.int x2)] [] := by first | (simp [entryFrame, mkF, argsToLocals, Value.category]; done) | rfl
def Q_mk (Z : State) (x0 : Int32) (x1 : Int32) (n : Int32) (G1 : Int32) (h0 : Heap) (n0 : Nat) (v : Option Value) (h : Heap) (L : List Loc) : Prop := ∃ (b : Addr) (t : Addr), v = some (.ref b) ∧ Fr n0 L ∧ Keep h0 h [] ∧ Own.ST Z h b t (Own.mkL n x0 x1)
set_option maxRecDepth 65536 in
set_option maxHeartbeats 40000000 in
theorem rm_mk (l : Launch) (Z : State) (a0 : Array Value) (hw : ∀ d ∈ tables_1, d.before a0 Z = true) (ws : List Jvm.Cond) (x0 : Int32) (x1 : Int32) (n : Int32) (G1 : Int32) (h0 : Heap) (n0 : Nat) (O : Old Z n0 h0) (hn : n = 0 ∨ n = 1 ∨ n = 2) (C_x0 : Own.Ch x0) (C_x1 : Own.Ch x1) (SA : Sta Z Z.heap "java/lang/StringUTF16" "$assertionsDisabled" "Z" (.int 1)) (SHI : Sta Z Z.heap "java/lang/StringUTF16" "HI_BYTE_SHIFT" "I" (.int 0)) (SLO : Sta Z Z.heap "java/lang/StringUTF16" "LO_BYTE_SHIFT" "I" (.int 8)) (O2 : Sta Z Z.heap "java/lang/String" "COMPACT_STRINGS" "Z" (.int G1)) (P5 : ¬ (G1 = (0 : Int32))) :
    MetFree l (⟨"com/example/proximity/proximity/CodePointOrderComparePinLaw", "make", "(CCI)Ljava/lang/String;"⟩ : MethodName) (head1 (Jvm.Cond.code (⟨"com/example/proximity/proximity/CodePointOrderComparePinLaw", "make", "(CCI)Ljava/lang/String;"⟩ : MethodName) method_4_code 3 (some (.object "java/lang/String")) :: ws) ({ frames := 6, cells := 6, slots := 16, locals := 140 } : Room)) (fun aa U => aa = #[.int x0, .int x1, .int n] ∧ Z.Warmed39 U.vm ∧ U.heap = h0 ∧ CHv Z EL U.vm h0 ∧ ∀ yy ∈ ([] : List Addr), Safe Z EL U.vm h0 yy) (fun _ _ _ _ _ => True) (fun _ U o U' => Own.EndW Z EL U (Q_mk Z x0 x1 n G1 h0 n0) 6 16 o U') := by
  refine MetFree.of_bodySF (plainFor_of_name pn_2) hisR ?_
  intro p e s m args below meth c s₁ Bd hml0 hP hK
  obtain ⟨rfl, hZ, hh, hH, hSF⟩ := hP
  replace hZ : Z.Warmed39 (s.setVm s.vm).vm := hZ
  have hEL := own_EL hw
  have hx := Bd.exec
  have hby := Bd.bytes
  have hml : c.maxLocals = 3 := hml0
  have hown : (s.setVm s.vm).vm.findClass "com/example/proximity/proximity/CodePointOrderComparePinLaw" = some m.cls := findClass_of_methodNamed Bd.named
  have hnm := (name_of_methodNamed Bd.named Bd.method).1
  have hret := Bd.returns
  have hlocks : meth.locks = false := Bd.notSynchronized
  have X0 : Stand p l e ({ frames := 6, cells := 6, slots := 16, locals := 140 } : Room) (s.setVm s.vm) m #[.int x0, .int x1, .int n] below meth c s₁ [] 0 0 := Stand.of_body Bd
  have e0 : s₁.heap = h0 := by rw [← hh, Bd.state]; rfl
  have N0 := Fr.nil n0
  have CR : CHr Z EL s.vm s.heap s.vm h0 := by rw [hh]; exact CHr.refl hH
  have hS : s.Since s.vm h0.size := (State.WarmedH.refl s).since _
  have hk : h0.size ≤ h0.size := Nat.le_refl _
  show Own.Go p e below (Own.EndW Z EL s (Q_mk Z x0 x1 n G1 h0 n0) 6 16) (s₁.setTop (entryFrame m #[.int x0, .int x1, .int n] 3))
  refine Own.Go.eq (ef_mk m x0 x1 n) ?_
  have KP : Keep h0 h0 [] := Keep.refl _ _
  rcases hn with rfl | rfl | rfl
  · show Own.Go p e below _ (s₁.setTop (mkF m 0 #[.val (.int x0), .val (.int x1), .val (.int (0 : Int32))] []))
    refine Own.g_iloadN X0 hx (hb hby d2_0) rfl 1 rfl ?_
    refine Own.g_if_ne_f X0 hx (hb hby d2_1) rfl 4 rfl ?_
    refine Own.g_new X0 hx hZ hown (hw _ (List.mem_of_getElem? (i := 8) rfl)) (hw _ (List.mem_of_getElem? (i := 9) rfl)) (hw _ (List.mem_of_getElem? (i := 10) rfl)) e0 (hb hby d2_4) (by decide) (by decide) 7 rfl ?_
    intro T1 h1 b X1 e1 E1 g1 E_b D1
    have n0_b : n0 ≤ b := Nat.le_trans (Nat.le_of_eq O.1.symm) (Nat.le_trans O.2.1 (Nat.le_of_eq g1.symm))
    have sz0_b : h0.size ≤ b := Nat.le_trans KP.1 (Nat.le_of_eq g1.symm)
    have S_b : Safe Z EL s.vm h0 b := Safe.new (Nat.le_of_eq g1.symm)
    replace S_b := S_b.ext E1 CR.1
    replace O := O.ext E1
    replace hk := Nat.le_trans hk E1.1
    replace CR := CR.trans (CHr.ext E1 CR.1)
    replace KP := KP.ext E1
    have F_b_value : Fld Z h1 b "java/lang/String" "value" "[B" .null := D1 (Or.inr (hw _ (List.mem_of_getElem? (i := 24) rfl))) (ty := (.array .byte)) (by decide)
    have F_b_coder : Fld Z h1 b "java/lang/String" "coder" "B" (.int (0 : Int32)) := D1 (Or.inr (hw _ (List.mem_of_getElem? (i := 25) rfl))) (ty := .byte) (by decide)
    refine Own.g_dup X1 hx (hb hby d2_7) rfl 8 rfl ?_
    refine Own.g_iconst X1 hx (0 : Int32) (hb hby d2_8) rfl 9 rfl ?_
    refine Own.g_newP X1 hx hZ (hw _ (List.mem_of_getElem? (i := 11) rfl)) e1 (hb hby d2_9) (by decide) 0 (by decide) (by decide) (by decide) (by decide) 11 rfl .char rfl [] (fun i => by simp) ?_
    intro T2 h2 d k_d X2 e2 E2 g2 V_d
    have ne_b_d : b ≠ d := Nat.ne_of_lt (Nat.lt_of_lt_of_le (E_b.lt) (Nat.le_of_eq g2.symm))
    have n0_d : n0 ≤ d := Nat.le_trans (Nat.le_of_eq O.1.symm) (Nat.le_trans O.2.1 (Nat.le_of_eq g2.symm))
    have sz0_d : h0.size ≤ d := Nat.le_trans KP.1 (Nat.le_of_eq g2.symm)
    have S_d : Safe Z EL s.vm h1 d := Safe.new (Nat.le_of_eq g2.symm)
    replace S_b := S_b.ext E2 CR.1
    replace E_b := E_b.ext E2
    replace F_b_value := F_b_value.ext E2
    replace F_b_coder := F_b_coder.ext E2
    replace S_d := S_d.ext E2 CR.1
    replace O := O.ext E2
    replace hk := Nat.le_trans hk E2.1
    replace CR := CR.trans (CHr.ext E2 CR.1)
    replace KP := KP.ext E2
    change Arv Z h2 d k_d .char (0 : Int32) [] (.int (0 : Int32)) at V_d
    refine Own.w_special X2 hx hZ (y := (⟨"java/lang/String", "<init>", "([C)V"⟩ : MethodName)) rfl hown (mvT hZ (hw _ (List.mem_of_getElem? (i := 12) rfl))) (mvT hZ (hw _ (List.mem_of_getElem? (i := 13) rfl))) (mvT hZ (hw _ (List.mem_of_getElem? (i := 14) rfl))) (by decide) (a := b) [.ref d] (Own.backW (W := 1) (SF := [b]) (rm_e3 l Z a0 hw [] b d k_d .null (.int 0) h2 n0 O n0_b V_d E_b F_b_value F_b_coder) hZ (hw _ (List.mem_of_getElem? (i := 14) rfl)) (hw _ (List.mem_of_getElem? (i := 10) rfl)) (by decide) (by decide) hEL CR.1 (allS ⟨E_b.lt, S_b⟩ all0)) e2 hS hk (by rw [hml]; rfl) [(.ref b)] (lenOf pd_9 rfl) rfl (Nat.le_of_ble_eq_true rfl) (hb hby d2_11) (by decide) (by decide) 14 rfl ?_
    rintro _ T3 L3 X3 hS hZ hown C3 ⟨rfl, N3q, K3, GE, GC, bt, k_bt, nt_b, GV, GA⟩
    replace S_b := C3.safe E_b.lt S_b
    replace S_d := C3.safe V_d.lt S_d
    replace CR := CR.trans C3
    have hk : T3.heap.size ≤ T3.heap.size := Nat.le_refl _
    have N3 := Fr.app N0 N3q
    replace V_d := V_d.keep K3 (ninS (Ne.symm ne_b_d) nin0)
    replace O := O.keep K3 (allS n0_b all0)
    replace KP := KP.trans K3 (allS (Or.inr sz0_b) all0)
    have E_b := GE
    have F_b_coder := GC
    have F_b_value := GV
    have V_bt := GA
    have ne_b_bt : b ≠ bt := Ne.symm nt_b
    show Own.Go p e below _ (T3.setTop (mkF m 14 #[.val (.int x0), .val (.int x1), .val (.int (0 : Int32))] [(.ref b)]))
    refine Own.w_ret X3 hx hZ hEL hS hk CR hret hlocks rfl (Or.inr (Or.inr (Or.inr (Or.inr ⟨rfl, rfl, rfl⟩)))) (hb hby d2_14) (by decide) (by decide) (rfl : T3.heap = T3.heap) ?_
    refine ⟨b, bt, rfl, N3, KP, ?_⟩
    rw [Own.mkL_0]
    exact ⟨E_b, F_b_value, Or.inl ⟨F_b_coder, (fun _ q => nomatch q), k_bt, V_bt⟩⟩
  · show Own.Go p e below _ (s₁.setTop (mkF m 0 #[.val (.int x0), .val (.int x1), .val (.int (1 : Int32))] []))
    refine Own.g_iloadN X0 hx (hb hby d2_0) rfl 1 rfl ?_
    refine Own.g_if_ne_t X0 hx (hb hby d2_1) (by decide) 15 (by decide) ?_
    refine Own.g_iloadN X0 hx (hb hby d2_15) rfl 16 rfl ?_
    refine Own.g_iconst X0 hx (1 : Int32) (hb hby d2_16) rfl 17 rfl ?_
    refine Own.g_icmp_ne_f X0 hx (hb hby d2_17) rfl 20 rfl ?_
    refine Own.g_new X0 hx hZ hown (hw _ (List.mem_of_getElem? (i := 8) rfl)) (hw _ (List.mem_of_getElem? (i := 9) rfl)) (hw _ (List.mem_of_getElem? (i := 10) rfl)) e0 (hb hby d2_20) (by decide) (by decide) 23 rfl ?_
    intro T4 h4 b X4 e4 E4 g4 E_b D4
    have n0_b : n0 ≤ b := Nat.le_trans (Nat.le_of_eq O.1.symm) (Nat.le_trans O.2.1 (Nat.le_of_eq g4.symm))
    have sz0_b : h0.size ≤ b := Nat.le_trans KP.1 (Nat.le_of_eq g4.symm)
    have S_b : Safe Z EL s.vm h0 b := Safe.new (Nat.le_of_eq g4.symm)
    replace S_b := S_b.ext E4 CR.1
    replace O := O.ext E4
    replace hk := Nat.le_trans hk E4.1
    replace CR := CR.trans (CHr.ext E4 CR.1)
    replace KP := KP.ext E4
    have F_b_value : Fld Z h4 b "java/lang/String" "value" "[B" .null := D4 (Or.inr (hw _ (List.mem_of_getElem? (i := 24) rfl))) (ty := (.array .byte)) (by decide)
    have F_b_coder : Fld Z h4 b "java/lang/String" "coder" "B" (.int (0 : Int32)) := D4 (Or.inr (hw _ (List.mem_of_getElem? (i := 25) rfl))) (ty := .byte) (by decide)
    refine Own.g_dup X4 hx (hb hby d2_23) rfl 24 rfl ?_
    refine Own.g_iconst X4 hx (1 : Int32) (hb hby d2_24) rfl 25 rfl ?_
    refine Own.g_newP X4 hx hZ (hw _ (List.mem_of_getElem? (i := 11) rfl)) e4 (hb hby d2_25) (by decide) 1 (by decide) (by decide) (by decide) (by decide) 27 rfl .char rfl [(.int (0 : Int32))] (by intro i; first | rfl | (rcases i with _ | _ | _ | _ | _ | _ | _ | _ | _ | _ | _ | _ | _ | _ | _ | _ | _ | _ | _ | _ | _ | _ | _ | _ | i <;> rfl)) ?_
    intro T5 h5 d k_d X5 e5 E5 g5 V_d
    have ne_b_d : b ≠ d := Nat.ne_of_lt (Nat.lt_of_lt_of_le (E_b.lt) (Nat.le_of_eq g5.symm))
    have n0_d : n0 ≤ d := Nat.le_trans (Nat.le_of_eq O.1.symm) (Nat.le_trans O.2.1 (Nat.le_of_eq g5.symm))
    have sz0_d : h0.size ≤ d := Nat.le_trans KP.1 (Nat.le_of_eq g5.symm)
    have S_d : Safe Z EL s.vm h4 d := Safe.new (Nat.le_of_eq g5.symm)
    replace S_b := S_b.ext E5 CR.1
    replace E_b := E_b.ext E5
    replace F_b_value := F_b_value.ext E5
    replace F_b_coder := F_b_coder.ext E5
    replace S_d := S_d.ext E5 CR.1
    replace O := O.ext E5
    replace hk := Nat.le_trans hk E5.1
    replace CR := CR.trans (CHr.ext E5 CR.1)
    replace KP := KP.ext E5
    change Arv Z h5 d k_d .char (1 : Int32) [(.int (0 : Int32))] (.int (0 : Int32)) at V_d
    refine Own.g_dup X5 hx (hb hby d2_27) rfl 28 rfl ?_
    refine Own.g_iconst X5 hx (0 : Int32) (hb hby d2_28) rfl 29 rfl ?_
    refine Own.g_iloadN X5 hx (hb hby d2_29) rfl 30 rfl ?_
    refine Own.g_stC X5 hx hZ e5 V_d x0 (Own.nar_ch C_x0) (by decide) 0 rfl (Nat.le_of_ble_eq_true rfl) [(.int x0)] rfl (hb hby d2_30) 31 rfl ?_
    clear V_d; intro T6 h6 X6 e6 W6 V_d
    have CR' := CR.trans (CHr.wr W6 S_d CR.1)
    replace S_b := Safe.wr W6 S_d CR.1 S_b
    replace S_d := Safe.wr W6 S_d CR.1 S_d
    replace CR := CR'
    replace hk := Nat.le_trans hk (Keep.of_wr W6).1
    replace E_b := E_b.wr W6
    replace F_b_value := F_b_value.other W6 (Or.inl ne_b_d)
    replace F_b_coder := F_b_coder.other W6 (Or.inl ne_b_d)
    replace O := O.wr W6 n0_d
    replace KP := KP.wr W6 (Or.inr sz0_d)
    have N6 := Fr.snoc X6 N0 n0_d
    by_cases hk_ : (255 : Int32) < x0
    · have ne_d_b := Ne.symm ne_b_d
      refine Own.g_special X6 hx (y := (⟨"java/lang/String", "<init>", "([C)V"⟩ : MethodName)) rfl hown (mvT hZ (hw _ (List.mem_of_getElem? (i := 12) rfl))) (mvT hZ (hw _ (List.mem_of_getElem? (i := 13) rfl))) (mvT hZ (hw _ (List.mem_of_getElem? (i := 14) rfl))) (by decide) (a := b) [.ref d] (Own.back (W := 1) (rm_i3_10 l Z a0 hw [] b d k_d x0 G1 .null (.int 0) h6 n0 O n0_b ne_d_b V_d C_x0 hk_ SA SHI SLO O2 P5 E_b F_b_value F_b_coder) hZ (hw _ (List.mem_of_getElem? (i := 14) rfl)) (hw _ (List.mem_of_getElem? (i := 10) rfl)) (by decide) (by decide)) e6 (by rw [hml]; rfl) [(.ref b)] (lenOf pd_9 rfl) rfl (Nat.le_of_ble_eq_true rfl) (hb hby d2_31) (by decide) (by decide) 34 rfl ?_
      rintro _ T7 L7 X7 ⟨rfl, N7q, K7, E_b, F_b_coder, bt, k_bt, -, F_b_value, V_bt⟩
      have N7 := Fr.app N6 N7q
      have hs8 : ∀ yy ∈ ([b] : List Addr), Safe Z EL s.vm _ yy := (allS S_b all0)
      have CR' := CR.trans (CHr.keep K7 hs8 CR.1)
      replace S_b := Safe.keep K7 hs8 CR.1 S_b
      replace S_d := Safe.keep K7 hs8 CR.1 S_d
      replace CR := CR'
      replace hk := Nat.le_trans hk K7.1
      replace O := O.keep K7 (allS n0_b all0)
      replace KP := KP.trans K7 (allS (Or.inr sz0_b) all0)
      show Own.Go p e below _ (T7.setTop (mkF m 34 #[.val (.int x0), .val (.int x1), .val (.int (1 : Int32))] [(.ref b)]))
      refine Own.w_ret X7 hx hZ hEL hS hk CR hret hlocks rfl (Or.inr (Or.inr (Or.inr (Or.inr ⟨rfl, rfl, rfl⟩)))) (hb hby d2_34) (by decide) (by decide) (rfl : T7.heap = T7.heap) ?_
      refine ⟨b, bt, rfl, N7, KP, ?_⟩
      rw [Own.mkL_1]
      exact ⟨E_b, F_b_value, Or.inr ⟨F_b_coder, k_bt, V_bt⟩⟩
    · have L_x0 : Own.Lat x0 := Own.ch_lat C_x0 hk_
      clear hk_
      have ne_d_b := Ne.symm ne_b_d
      refine Own.g_special X6 hx (y := (⟨"java/lang/String", "<init>", "([C)V"⟩ : MethodName)) rfl hown (mvT hZ (hw _ (List.mem_of_getElem? (i := 12) rfl))) (mvT hZ (hw _ (List.mem_of_getElem? (i := 13) rfl))) (mvT hZ (hw _ (List.mem_of_getElem? (i := 14) rfl))) (by decide) (a := b) [.ref d] (Own.back (W := 1) (rm_i3_11 l Z a0 hw [] b d k_d x0 G1 .null (.int 0) h6 n0 O n0_b ne_d_b V_d C_x0 L_x0 SA SHI SLO O2 P5 E_b F_b_value F_b_coder) hZ (hw _ (List.mem_of_getElem? (i := 14) rfl)) (hw _ (List.mem_of_getElem? (i := 10) rfl)) (by decide) (by decide)) e6 (by rw [hml]; rfl) [(.ref b)] (lenOf pd_9 rfl) rfl (Nat.le_of_ble_eq_true rfl) (hb hby d2_31) (by decide) (by decide) 34 rfl ?_
      rintro _ T9 L9 X9 ⟨rfl, N9q, K9, E_b, F_b_coder, bt, k_bt, -, F_b_value, V_bt⟩
      have N9 := Fr.app N6 N9q
      have hs10 : ∀ yy ∈ ([b] : List Addr), Safe Z EL s.vm _ yy := (allS S_b all0)
      have CR' := CR.trans (CHr.keep K9 hs10 CR.1)
      replace S_b := Safe.keep K9 hs10 CR.1 S_b
      replace S_d := Safe.keep K9 hs10 CR.1 S_d
      replace CR := CR'
      replace hk := Nat.le_trans hk K9.1
      replace O := O.keep K9 (allS n0_b all0)
      replace KP := KP.trans K9 (allS (Or.inr sz0_b) all0)
      show Own.Go p e below _ (T9.setTop (mkF m 34 #[.val (.int x0), .val (.int x1), .val (.int (1 : Int32))] [(.ref b)]))
      refine Own.w_ret X9 hx hZ hEL hS hk CR hret hlocks rfl (Or.inr (Or.inr (Or.inr (Or.inr ⟨rfl, rfl, rfl⟩)))) (hb hby d2_34) (by decide) (by decide) (rfl : T9.heap = T9.heap) ?_
      refine ⟨b, bt, rfl, N9, KP, ?_⟩
      rw [Own.mkL_1]
      exact ⟨E_b, F_b_value, Or.inl ⟨F_b_coder, Own.mem1 L_x0, k_bt, V_bt⟩⟩
  · show Own.Go p e below _ (s₁.setTop (mkF m 0 #[.val (.int x0), .val (.int x1), .val (.int (2 : Int32))] []))
    refine Own.g_iloadN X0 hx (hb hby d2_0) rfl 1 rfl ?_
    refine Own.g_if_ne_t X0 hx (hb hby d2_1) (by decide) 15 (by decide) ?_
    refine Own.g_iloadN X0 hx (hb hby d2_15) rfl 16 rfl ?_
    refine Own.g_iconst X0 hx (1 : Int32) (hb hby d2_16) rfl 17 rfl ?_
    refine Own.g_icmp_ne_t X0 hx (hb hby d2_17) (by decide) 35 (by decide) ?_
    refine Own.g_new X0 hx hZ hown (hw _ (List.mem_of_getElem? (i := 8) rfl)) (hw _ (List.mem_of_getElem? (i := 9) rfl)) (hw _ (List.mem_of_getElem? (i := 10) rfl)) e0 (hb hby d2_35) (by decide) (by decide) 38 rfl ?_
    intro T11 h11 b X11 e11 E11 g11 E_b D11
    have n0_b : n0 ≤ b := Nat.le_trans (Nat.le_of_eq O.1.symm) (Nat.le_trans O.2.1 (Nat.le_of_eq g11.symm))
    have sz0_b : h0.size ≤ b := Nat.le_trans KP.1 (Nat.le_of_eq g11.symm)
    have S_b : Safe Z EL s.vm h0 b := Safe.new (Nat.le_of_eq g11.symm)
    replace S_b := S_b.ext E11 CR.1
    replace O := O.ext E11
    replace hk := Nat.le_trans hk E11.1
    replace CR := CR.trans (CHr.ext E11 CR.1)
    replace KP := KP.ext E11
    have F_b_value : Fld Z h11 b "java/lang/String" "value" "[B" .null := D11 (Or.inr (hw _ (List.mem_of_getElem? (i := 24) rfl))) (ty := (.array .byte)) (by decide)
    have F_b_coder : Fld Z h11 b "java/lang/String" "coder" "B" (.int (0 : Int32)) := D11 (Or.inr (hw _ (List.mem_of_getElem? (i := 25) rfl))) (ty := .byte) (by decide)
    refine Own.g_dup X11 hx (hb hby d2_38) rfl 39 rfl ?_
    refine Own.g_iconst X11 hx (2 : Int32) (hb hby d2_39) rfl 40 rfl ?_
    refine Own.g_newP X11 hx hZ (hw _ (List.mem_of_getElem? (i := 11) rfl)) e11 (hb hby d2_40) (by decide) 2 (by decide) (by decide) (by decide) (by decide) 42 rfl .char rfl [(.int (0 : Int32)), (.int (0 : Int32))] (by intro i; first | rfl | (rcases i with _ | _ | _ | _ | _ | _ | _ | _ | _ | _ | _ | _ | _ | _ | _ | _ | _ | _ | _ | _ | _ | _ | _ | _ | i <;> rfl)) ?_
    intro T12 h12 d k_d X12 e12 E12 g12 V_d
    have ne_b_d : b ≠ d := Nat.ne_of_lt (Nat.lt_of_lt_of_le (E_b.lt) (Nat.le_of_eq g12.symm))
    have n0_d : n0 ≤ d := Nat.le_trans (Nat.le_of_eq O.1.symm) (Nat.le_trans O.2.1 (Nat.le_of_eq g12.symm))
    have sz0_d : h0.size ≤ d := Nat.le_trans KP.1 (Nat.le_of_eq g12.symm)
    have S_d : Safe Z EL s.vm h11 d := Safe.new (Nat.le_of_eq g12.symm)
    replace S_b := S_b.ext E12 CR.1
    replace E_b := E_b.ext E12
    replace F_b_value := F_b_value.ext E12
    replace F_b_coder := F_b_coder.ext E12
    replace S_d := S_d.ext E12 CR.1
    replace O := O.ext E12
    replace hk := Nat.le_trans hk E12.1
    replace CR := CR.trans (CHr.ext E12 CR.1)
    replace KP := KP.ext E12
    change Arv Z h12 d k_d .char (2 : Int32) [(.int (0 : Int32)), (.int (0 : Int32))] (.int (0 : Int32)) at V_d
    refine Own.g_dup X12 hx (hb hby d2_42) rfl 43 rfl ?_
    refine Own.g_iconst X12 hx (0 : Int32) (hb hby d2_43) rfl 44 rfl ?_
    refine Own.g_iloadN X12 hx (hb hby d2_44) rfl 45 rfl ?_
    refine Own.g_stC X12 hx hZ e12 V_d x0 (Own.nar_ch C_x0) (by decide) 0 rfl (Nat.le_of_ble_eq_true rfl) [(.int x0), (.int (0 : Int32))] rfl (hb hby d2_45) 46 rfl ?_
    clear V_d; intro T13 h13 X13 e13 W13 V_d
    have CR' := CR.trans (CHr.wr W13 S_d CR.1)
    replace S_b := Safe.wr W13 S_d CR.1 S_b
    replace S_d := Safe.wr W13 S_d CR.1 S_d
    replace CR := CR'
    replace hk := Nat.le_trans hk (Keep.of_wr W13).1
    replace E_b := E_b.wr W13
    replace F_b_value := F_b_value.other W13 (Or.inl ne_b_d)
    replace F_b_coder := F_b_coder.other W13 (Or.inl ne_b_d)
    replace O := O.wr W13 n0_d
    replace KP := KP.wr W13 (Or.inr sz0_d)
    have N13 := Fr.snoc X13 N0 n0_d
    refine Own.g_dup X13 hx (hb hby d2_46) rfl 47 rfl ?_
    refine Own.g_iconst X13 hx (1 : Int32) (hb hby d2_47) rfl 48 rfl ?_
    refine Own.g_iloadN X13 hx (hb hby d2_48) rfl 49 rfl ?_
    refine Own.g_stC X13 hx hZ e13 V_d x1 (Own.nar_ch C_x1) (by decide) 1 rfl (Nat.le_of_ble_eq_true rfl) [(.int x0), (.int x1)] rfl (hb hby d2_49) 50 rfl ?_
    clear V_d; intro T14 h14 X14 e14 W14 V_d
    have CR' := CR.trans (CHr.wr W14 S_d CR.1)
    replace S_b := Safe.wr W14 S_d CR.1 S_b
    replace S_d := Safe.wr W14 S_d CR.1 S_d
    replace CR := CR'
    replace hk := Nat.le_trans hk (Keep.of_wr W14).1
    replace E_b := E_b.wr W14
    replace F_b_value := F_b_value.other W14 (Or.inl ne_b_d)
    replace F_b_coder := F_b_coder.other W14 (Or.inl ne_b_d)
    replace O := O.wr W14 n0_d
    replace KP := KP.wr W14 (Or.inr sz0_d)
    have N14 := Fr.snoc X14 N13 n0_d
    by_cases hk_ : (255 : Int32) < x0
    · have ne_d_b := Ne.symm ne_b_d
      refine Own.g_special X14 hx (y := (⟨"java/lang/String", "<init>", "([C)V"⟩ : MethodName)) rfl hown (mvT hZ (hw _ (List.mem_of_getElem? (i := 12) rfl))) (mvT hZ (hw _ (List.mem_of_getElem? (i := 13) rfl))) (mvT hZ (hw _ (List.mem_of_getElem? (i := 14) rfl))) (by decide) (a := b) [.ref d] (Own.back (W := 1) (rm_i3_20 l Z a0 hw [] b d k_d x0 x1 G1 .null (.int 0) h14 n0 O n0_b ne_d_b V_d C_x0 C_x1 hk_ SA SHI SLO O2 P5 E_b F_b_value F_b_coder) hZ (hw _ (List.mem_of_getElem? (i := 14) rfl)) (hw _ (List.mem_of_getElem? (i := 10) rfl)) (by decide) (by decide)) e14 (by rw [hml]; rfl) [(.ref b)] (lenOf pd_9 rfl) rfl (Nat.le_of_ble_eq_true rfl) (hb hby d2_50) (by decide) (by decide) 53 rfl ?_
      rintro _ T15 L15 X15 ⟨rfl, N15q, K15, E_b, F_b_coder, bt, k_bt, -, F_b_value, V_bt⟩
      have N15 := Fr.app N14 N15q
      have hs16 : ∀ yy ∈ ([b] : List Addr), Safe Z EL s.vm _ yy := (allS S_b all0)
      have CR' := CR.trans (CHr.keep K15 hs16 CR.1)
      replace S_b := Safe.keep K15 hs16 CR.1 S_b
      replace S_d := Safe.keep K15 hs16 CR.1 S_d
      replace CR := CR'
      replace hk := Nat.le_trans hk K15.1
      replace O := O.keep K15 (allS n0_b all0)
      replace KP := KP.trans K15 (allS (Or.inr sz0_b) all0)
      show Own.Go p e below _ (T15.setTop (mkF m 53 #[.val (.int x0), .val (.int x1), .val (.int (2 : Int32))] [(.ref b)]))
      refine Own.w_ret X15 hx hZ hEL hS hk CR hret hlocks rfl (Or.inr (Or.inr (Or.inr (Or.inr ⟨rfl, rfl, rfl⟩)))) (hb hby d2_53) (by decide) (by decide) (rfl : T15.heap = T15.heap) ?_
      refine ⟨b, bt, rfl, N15, KP, ?_⟩
      rw [Own.mkL_2]
      exact ⟨E_b, F_b_value, Or.inr ⟨F_b_coder, k_bt, V_bt⟩⟩
    · have L_x0 : Own.Lat x0 := Own.ch_lat C_x0 hk_
      clear hk_
      by_cases hk_ : (255 : Int32) < x1
      · have ne_d_b := Ne.symm ne_b_d
        refine Own.g_special X14 hx (y := (⟨"java/lang/String", "<init>", "([C)V"⟩ : MethodName)) rfl hown (mvT hZ (hw _ (List.mem_of_getElem? (i := 12) rfl))) (mvT hZ (hw _ (List.mem_of_getElem? (i := 13) rfl))) (mvT hZ (hw _ (List.mem_of_getElem? (i := 14) rfl))) (by decide) (a := b) [.ref d] (Own.back (W := 1) (rm_i3_21 l Z a0 hw [] b d k_d x0 x1 G1 .null (.int 0) h14 n0 O n0_b ne_d_b V_d C_x0 C_x1 L_x0 hk_ SA SHI SLO O2 P5 E_b F_b_value F_b_coder) hZ (hw _ (List.mem_of_getElem? (i := 14) rfl)) (hw _ (List.mem_of_getElem? (i := 10) rfl)) (by decide) (by decide)) e14 (by rw [hml]; rfl) [(.ref b)] (lenOf pd_9 rfl) rfl (Nat.le_of_ble_eq_true rfl) (hb hby d2_50) (by decide) (by decide) 53 rfl ?_
        rintro _ T17 L17 X17 ⟨rfl, N17q, K17, E_b, F_b_coder, bt, k_bt, -, F_b_value, V_bt⟩
        have N17 := Fr.app N14 N17q
        have hs18 : ∀ yy ∈ ([b] : List Addr), Safe Z EL s.vm _ yy := (allS S_b all0)
        have CR' := CR.trans (CHr.keep K17 hs18 CR.1)
        replace S_b := Safe.keep K17 hs18 CR.1 S_b
        replace S_d := Safe.keep K17 hs18 CR.1 S_d
        replace CR := CR'
        replace hk := Nat.le_trans hk K17.1
        replace O := O.keep K17 (allS n0_b all0)
        replace KP := KP.trans K17 (allS (Or.inr sz0_b) all0)
        show Own.Go p e below _ (T17.setTop (mkF m 53 #[.val (.int x0), .val (.int x1), .val (.int (2 : Int32))] [(.ref b)]))
        refine Own.w_ret X17 hx hZ hEL hS hk CR hret hlocks rfl (Or.inr (Or.inr (Or.inr (Or.inr ⟨rfl, rfl, rfl⟩)))) (hb hby d2_53) (by decide) (by decide) (rfl : T17.heap = T17.heap) ?_
        refine ⟨b, bt, rfl, N17, KP, ?_⟩
        rw [Own.mkL_2]
        exact ⟨E_b, F_b_value, Or.inr ⟨F_b_coder, k_bt, V_bt⟩⟩
      · have L_x1 : Own.Lat x1 := Own.ch_lat C_x1 hk_
        clear hk_
        have ne_d_b := Ne.symm ne_b_d
        refine Own.g_special X14 hx (y := (⟨"java/lang/String", "<init>", "([C)V"⟩ : MethodName)) rfl hown (mvT hZ (hw _ (List.mem_of_getElem? (i := 12) rfl))) (mvT hZ (hw _ (List.mem_of_getElem? (i := 13) rfl))) (mvT hZ (hw _ (List.mem_of_getElem? (i := 14) rfl))) (by decide) (a := b) [.ref d] (Own.back (W := 1) (rm_i3_22 l Z a0 hw [] b d k_d x0 x1 G1 .null (.int 0) h14 n0 O n0_b ne_d_b V_d C_x0 C_x1 L_x0 L_x1 SA SHI SLO O2 P5 E_b F_b_value F_b_coder) hZ (hw _ (List.mem_of_getElem? (i := 14) rfl)) (hw _ (List.mem_of_getElem? (i := 10) rfl)) (by decide) (by decide)) e14 (by rw [hml]; rfl) [(.ref b)] (lenOf pd_9 rfl) rfl (Nat.le_of_ble_eq_true rfl) (hb hby d2_50) (by decide) (by decide) 53 rfl ?_
        rintro _ T19 L19 X19 ⟨rfl, N19q, K19, E_b, F_b_coder, bt, k_bt, -, F_b_value, V_bt⟩
        have N19 := Fr.app N14 N19q
        have hs20 : ∀ yy ∈ ([b] : List Addr), Safe Z EL s.vm _ yy := (allS S_b all0)
        have CR' := CR.trans (CHr.keep K19 hs20 CR.1)
        replace S_b := Safe.keep K19 hs20 CR.1 S_b
        replace S_d := Safe.keep K19 hs20 CR.1 S_d
        replace CR := CR'
        replace hk := Nat.le_trans hk K19.1
        replace O := O.keep K19 (allS n0_b all0)
        replace KP := KP.trans K19 (allS (Or.inr sz0_b) all0)
        show Own.Go p e below _ (T19.setTop (mkF m 53 #[.val (.int x0), .val (.int x1), .val (.int (2 : Int32))] [(.ref b)]))
        refine Own.w_ret X19 hx hZ hEL hS hk CR hret hlocks rfl (Or.inr (Or.inr (Or.inr (Or.inr ⟨rfl, rfl, rfl⟩)))) (hb hby d2_53) (by decide) (by decide) (rfl : T19.heap = T19.heap) ?_
        refine ⟨b, bt, rfl, N19, KP, ?_⟩
        rw [Own.mkL_2]
        exact ⟨E_b, F_b_value, Or.inl ⟨F_b_coder, Own.mem2 L_x0 L_x1, k_bt, V_bt⟩⟩
theorem ef_cps (m : MethodId) (x0 : Int32) (x1 : Int32) (x2 : Int32) : entryFrame m #[.int x0, .int x1, .int x2] 4 = mkF m 0 #[.val (.int x0), .val (.int x1), .val (.int x2), .unset] [] := by first | (simp [entryFrame, mkF, argsToLocals, Value.category]; done) | rfl
def Q_cps (Z : State) (x0 : Int32) (x1 : Int32) (n : Int32) (h0 : Heap) (n0 : Nat) (v : Option Value) (h : Heap) (L : List Loc) : Prop := ∃ (r : Addr) (k : ClassId), v = some (.ref r) ∧ Fr n0 L ∧ Keep h0 h [] ∧ h0.size ≤ r ∧ Arv Z h r k .int 3 [.int (Own.p0 (Own.mkL n x0 x1)), .int (Own.p1 (Own.mkL n x0 x1)), .int (Own.p2 (Own.mkL n x0 x1))] (.int 0)
set_option maxRecDepth 65536 in
set_option maxHeartbeats 40000000 in
theorem rm_cps (l : Launch) (Z : State) (a0 : Array Value) (hw : ∀ d ∈ tables_1, d.before a0 Z = true) (ws : List Jvm.Cond) (x0 : Int32) (x1 : Int32) (n : Int32) (h0 : Heap) (n0 : Nat) (O : Old Z n0 h0) (hn : n = 0 ∨ n = 1 ∨ n = 2) :
    MetFree l (⟨"com/example/proximity/proximity/CodePointOrderComparePinLaw", "codePoints", "(CCI)[I"⟩ : MethodName) (head1 (Jvm.Cond.code (⟨"com/example/proximity/proximity/CodePointOrderComparePinLaw", "codePoints", "(CCI)[I"⟩ : MethodName) method_7_code 4 (some (.array .int)) :: ws) ({ frames := 1, cells := 1, slots := 3, locals := 20 } : Room)) (fun aa U => aa = #[.int x0, .int x1, .int n] ∧ Z.Warmed39 U.vm ∧ U.heap = h0) (fun _ _ _ _ _ => True) (fun _ U o U' => Own.End U (Q_cps Z x0 x1 n h0 n0) 1 3 o U') := by
  refine MetFree.of_bodySF (plainFor_of_name pn_2) hisR ?_
  intro p e s m args below meth c s₁ Bd hml0 hP hK
  obtain ⟨rfl, hZ, hh⟩ := hP
  have hx := Bd.exec
  have hby := Bd.bytes
  have hml : c.maxLocals = 4 := hml0
  have hown : s.vm.findClass "com/example/proximity/proximity/CodePointOrderComparePinLaw" = some m.cls := findClass_of_methodNamed Bd.named
  have hnm := (name_of_methodNamed Bd.named Bd.method).1
  have hret := Bd.returns
  have hlocks : meth.locks = false := Bd.notSynchronized
  have X0 : Stand p l e ({ frames := 1, cells := 1, slots := 3, locals := 20 } : Room) s m #[.int x0, .int x1, .int n] below meth c s₁ [] 0 0 := Stand.of_body Bd
  have e0 : s₁.heap = h0 := by rw [← hh, Bd.state]; rfl
  have N0 := Fr.nil n0
  show Own.Go p e below (Own.End s (Q_cps Z x0 x1 n h0 n0) 1 3) (s₁.setTop (entryFrame m #[.int x0, .int x1, .int n] 4))
  refine Own.Go.eq (ef_cps m x0 x1 n) ?_
  have KP : Keep h0 h0 [] := Keep.refl _ _
  refine Own.g_iconst X0 hx (3 : Int32) (hb hby d6_0) rfl 1 rfl ?_
  refine Own.g_newP X0 hx hZ (hw _ (List.mem_of_getElem? (i := 33) rfl)) e0 (hb hby d6_1) (by decide) 3 (by decide) (by decide) (by decide) (by decide) 3 rfl .int rfl [(.int (0 : Int32)), (.int (0 : Int32)), (.int (0 : Int32))] (by intro i; first | rfl | (rcases i with _ | _ | _ | _ | _ | _ | _ | _ | _ | _ | _ | _ | _ | _ | _ | _ | _ | _ | _ | _ | _ | _ | _ | _ | i <;> rfl)) ?_
  intro T1 h1 r k_r X1 e1 E1 g1 V_r
  have n0_r : n0 ≤ r := Nat.le_trans (Nat.le_of_eq O.1.symm) (Nat.le_trans O.2.1 (Nat.le_of_eq g1.symm))
  have sz0_r : h0.size ≤ r := Nat.le_trans KP.1 (Nat.le_of_eq g1.symm)
  replace O := O.ext E1
  replace KP := KP.ext E1
  change Arv Z h1 r k_r .int (3 : Int32) [(.int (0 : Int32)), (.int (0 : Int32)), (.int (0 : Int32))] (.int (0 : Int32)) at V_r
  refine Own.g_astoreN X1 hx #[.val (.int x0), .val (.int x1), .val (.int n), .val (.ref r)] (hb hby d6_3) rfl rfl 4 rfl ?_
  rcases hn with rfl | rfl | rfl
  · show Own.Go p e below _ (T1.setTop (mkF m 4 #[.val (.int x0), .val (.int x1), .val (.int (0 : Int32)), .val (.ref r)] []))
    refine Own.g_iloadN X1 hx (hb hby d6_4) rfl 5 rfl ?_
    refine Own.g_if_ne_f X1 hx (hb hby d6_5) rfl 8 rfl ?_
    refine Own.g_aloadN X1 hx (hb hby d6_8) rfl rfl 9 rfl ?_
    refine Own.g_ret X1 hx hret hlocks rfl (Or.inr (Or.inr (Or.inr (Or.inr ⟨rfl, rfl, rfl⟩)))) (hb hby d6_9) (by decide) (by decide) e1 ?_
    refine ⟨r, k_r, rfl, N0, KP, sz0_r, ?_⟩
    rw [Own.mkL_0]
    exact V_r
  · show Own.Go p e below _ (T1.setTop (mkF m 4 #[.val (.int x0), .val (.int x1), .val (.int (1 : Int32)), .val (.ref r)] []))
    refine Own.g_iloadN X1 hx (hb hby d6_4) rfl 5 rfl ?_
    refine Own.g_if_ne_t X1 hx (hb hby d6_5) (by decide) 10 (by decide) ?_
    refine Own.g_iloadN X1 hx (hb hby d6_10) rfl 11 rfl ?_
    refine Own.g_iconst X1 hx (1 : Int32) (hb hby d6_11) rfl 12 rfl ?_
    refine Own.g_icmp_ne_f X1 hx (hb hby d6_12) rfl 15 rfl ?_
    refine Own.g_aloadN X1 hx (hb hby d6_15) rfl rfl 16 rfl ?_
    refine Own.g_iconst X1 hx (0 : Int32) (hb hby d6_16) rfl 17 rfl ?_
    refine Own.g_iconst X1 hx (1 : Int32) (hb hby d6_17) rfl 18 rfl ?_
    refine Own.g_stI X1 hx hZ e1 V_r (1 : Int32) rfl (by decide) 0 rfl (Nat.le_of_ble_eq_true rfl) [(.int (1 : Int32)), (.int (0 : Int32)), (.int (0 : Int32))] rfl (hb hby d6_18) 19 rfl ?_
    clear V_r; intro T2 h2 X2 e2 W2 V_r
    replace O := O.wr W2 n0_r
    replace KP := KP.wr W2 (Or.inr sz0_r)
    have N2 := Fr.snoc X2 N0 n0_r
    refine Own.g_aloadN X2 hx (hb hby d6_19) rfl rfl 20 rfl ?_
    refine Own.g_iconst X2 hx (1 : Int32) (hb hby d6_20) rfl 21 rfl ?_
    refine Own.g_iloadN X2 hx (hb hby d6_21) rfl 22 rfl ?_
    refine Own.g_stI X2 hx hZ e2 V_r x0 rfl (by decide) 1 rfl (Nat.le_of_ble_eq_true rfl) [(.int (1 : Int32)), (.int x0), (.int (0 : Int32))] rfl (hb hby d6_22) 23 rfl ?_
    clear V_r; intro T3 h3 X3 e3 W3 V_r
    replace O := O.wr W3 n0_r
    replace KP := KP.wr W3 (Or.inr sz0_r)
    have N3 := Fr.snoc X3 N2 n0_r
    refine Own.g_aloadN X3 hx (hb hby d6_23) rfl rfl 24 rfl ?_
    refine Own.g_ret X3 hx hret hlocks rfl (Or.inr (Or.inr (Or.inr (Or.inr ⟨rfl, rfl, rfl⟩)))) (hb hby d6_24) (by decide) (by decide) e3 ?_
    refine ⟨r, k_r, rfl, N3, KP, sz0_r, ?_⟩
    rw [Own.mkL_1]
    exact V_r
  · show Own.Go p e below _ (T1.setTop (mkF m 4 #[.val (.int x0), .val (.int x1), .val (.int (2 : Int32)), .val (.ref r)] []))
    refine Own.g_iloadN X1 hx (hb hby d6_4) rfl 5 rfl ?_
    refine Own.g_if_ne_t X1 hx (hb hby d6_5) (by decide) 10 (by decide) ?_
    refine Own.g_iloadN X1 hx (hb hby d6_10) rfl 11 rfl ?_
    refine Own.g_iconst X1 hx (1 : Int32) (hb hby d6_11) rfl 12 rfl ?_
    refine Own.g_icmp_ne_t X1 hx (hb hby d6_12) (by decide) 25 (by decide) ?_
    refine Own.g_iloadN X1 hx (hb hby d6_25) rfl 26 rfl ?_
    refine Own.g_callS X1 hx (y := (⟨"com/example/proximity/proximity/CodePointOrderComparePinLaw", "high", "(C)Z"⟩ : MethodName)) hown (mvT hZ (hw _ (List.mem_of_getElem? (i := 93) rfl))) (mvT hZ (hw _ (List.mem_of_getElem? (i := 94) rfl))) (mvT hZ (hw _ (List.mem_of_getElem? (i := 2) rfl))) (mvT hZ (hw _ (List.mem_of_getElem? (i := 95) rfl))) (by decide) [.int x0] (Own.back (W := 0) (rm_hgh l Z a0 hw [] x0 h1 n0 O ) hZ (hw _ (List.mem_of_getElem? (i := 95) rfl)) (hw _ (List.mem_of_getElem? (i := 2) rfl)) (by decide) (by decide)) e1 (by rw [hml]; rfl) [] (lenOf pd_10 rfl) rfl (Nat.le_of_ble_eq_true rfl) (hb hby d6_26) (by decide) (by decide) 29 rfl ?_
    rintro _ T4 L4 X4 ⟨rfl, N4q, eH4⟩
    have N4 := Fr.app N0 N4q
    show Own.Go p e below _ (T4.setTop (mkF m 29 #[.val (.int x0), .val (.int x1), .val (.int (2 : Int32)), .val (.ref r)] [(.int (if ¬ x0 < 55296 ∧ ¬ (56319 : Int32) < x0 then 1 else 0))]))
    refine Own.g_if_eq X4 hx (hb hby d6_29) 63 32 (by decide) rfl ?_ ?_
    · intro hq1
      refine Own.g_aloadN X4 hx (hb hby d6_63) rfl rfl 64 rfl ?_
      refine Own.g_iconst X4 hx (0 : Int32) (hb hby d6_64) rfl 65 rfl ?_
      refine Own.g_iconst X4 hx (2 : Int32) (hb hby d6_65) rfl 66 rfl ?_
      refine Own.g_stI X4 hx hZ eH4 V_r (2 : Int32) rfl (by decide) 0 rfl (Nat.le_of_ble_eq_true rfl) [(.int (2 : Int32)), (.int (0 : Int32)), (.int (0 : Int32))] rfl (hb hby d6_66) 67 rfl ?_
      clear V_r; intro T5 h5 X5 e5 W5 V_r
      replace O := O.wr W5 n0_r
      replace KP := KP.wr W5 (Or.inr sz0_r)
      have N5 := Fr.snoc X5 N4 n0_r
      refine Own.g_aloadN X5 hx (hb hby d6_67) rfl rfl 68 rfl ?_
      refine Own.g_iconst X5 hx (1 : Int32) (hb hby d6_68) rfl 69 rfl ?_
      refine Own.g_iloadN X5 hx (hb hby d6_69) rfl 70 rfl ?_
      refine Own.g_stI X5 hx hZ e5 V_r x0 rfl (by decide) 1 rfl (Nat.le_of_ble_eq_true rfl) [(.int (2 : Int32)), (.int x0), (.int (0 : Int32))] rfl (hb hby d6_70) 71 rfl ?_
      clear V_r; intro T6 h6 X6 e6 W6 V_r
      replace O := O.wr W6 n0_r
      replace KP := KP.wr W6 (Or.inr sz0_r)
      have N6 := Fr.snoc X6 N5 n0_r
      refine Own.g_aloadN X6 hx (hb hby d6_71) rfl rfl 72 rfl ?_
      refine Own.g_iconst X6 hx (2 : Int32) (hb hby d6_72) rfl 73 rfl ?_
      refine Own.g_iloadN X6 hx (hb hby d6_73) rfl 74 rfl ?_
      refine Own.g_stI X6 hx hZ e6 V_r x1 rfl (by decide) 2 rfl (Nat.le_of_ble_eq_true rfl) [(.int (2 : Int32)), (.int x0), (.int x1)] rfl (hb hby d6_74) 75 rfl ?_
      clear V_r; intro T7 h7 X7 e7 W7 V_r
      replace O := O.wr W7 n0_r
      replace KP := KP.wr W7 (Or.inr sz0_r)
      have N7 := Fr.snoc X7 N6 n0_r
      have hH : ¬ Own.HL x0 x1 := fun q => Own.if1_eq hq1 q.1
      obtain ⟨ep0, ep1, ep2⟩ := Own.p_nHL hH
      refine Own.g_aloadN X7 hx (hb hby d6_75) rfl rfl 76 rfl ?_
      refine Own.g_ret X7 hx hret hlocks rfl (Or.inr (Or.inr (Or.inr (Or.inr ⟨rfl, rfl, rfl⟩)))) (hb hby d6_76) (by decide) (by decide) e7 ?_
      refine ⟨r, k_r, rfl, N7, KP, sz0_r, ?_⟩
      rw [Own.mkL_2]
      exact by show Arv Z _ r k_r .int 3 [.int (Own.p0 [x0, x1]), .int (Own.p1 [x0, x1]), .int (Own.p2 [x0, x1])] (.int 0); rw [ep0, ep1, ep2]; exact V_r
    · intro hq1
      refine Own.g_iloadN X4 hx (hb hby d6_32) rfl 33 rfl ?_
      refine Own.g_callS X4 hx (y := (⟨"com/example/proximity/proximity/CodePointOrderComparePinLaw", "low", "(C)Z"⟩ : MethodName)) hown (mvT hZ (hw _ (List.mem_of_getElem? (i := 97) rfl))) (mvT hZ (hw _ (List.mem_of_getElem? (i := 98) rfl))) (mvT hZ (hw _ (List.mem_of_getElem? (i := 2) rfl))) (mvT hZ (hw _ (List.mem_of_getElem? (i := 99) rfl))) (by decide) [.int x1] (Own.back (W := 0) (rm_low l Z a0 hw [] x1 h1 n0 O ) hZ (hw _ (List.mem_of_getElem? (i := 99) rfl)) (hw _ (List.mem_of_getElem? (i := 2) rfl)) (by decide) (by decide)) eH4 (by rw [hml]; rfl) [] (lenOf pd_10 rfl) rfl (Nat.le_of_ble_eq_true rfl) (hb hby d6_33) (by decide) (by decide) 36 rfl ?_
      rintro _ T8 L8 X8 ⟨rfl, N8q, eH8⟩
      have N8 := Fr.app N4 N8q
      show Own.Go p e below _ (T8.setTop (mkF m 36 #[.val (.int x0), .val (.int x1), .val (.int (2 : Int32)), .val (.ref r)] [(.int (if ¬ x1 < 56320 ∧ ¬ (57343 : Int32) < x1 then 1 else 0))]))
      refine Own.g_if_eq X8 hx (hb hby d6_36) 63 39 (by decide) rfl ?_ ?_
      · intro hq2
        refine Own.g_aloadN X8 hx (hb hby d6_63) rfl rfl 64 rfl ?_
        refine Own.g_iconst X8 hx (0 : Int32) (hb hby d6_64) rfl 65 rfl ?_
        refine Own.g_iconst X8 hx (2 : Int32) (hb hby d6_65) rfl 66 rfl ?_
        refine Own.g_stI X8 hx hZ eH8 V_r (2 : Int32) rfl (by decide) 0 rfl (Nat.le_of_ble_eq_true rfl) [(.int (2 : Int32)), (.int (0 : Int32)), (.int (0 : Int32))] rfl (hb hby d6_66) 67 rfl ?_
        clear V_r; intro T9 h9 X9 e9 W9 V_r
        replace O := O.wr W9 n0_r
        replace KP := KP.wr W9 (Or.inr sz0_r)
        have N9 := Fr.snoc X9 N8 n0_r
        refine Own.g_aloadN X9 hx (hb hby d6_67) rfl rfl 68 rfl ?_
        refine Own.g_iconst X9 hx (1 : Int32) (hb hby d6_68) rfl 69 rfl ?_
        refine Own.g_iloadN X9 hx (hb hby d6_69) rfl 70 rfl ?_
        refine Own.g_stI X9 hx hZ e9 V_r x0 rfl (by decide) 1 rfl (Nat.le_of_ble_eq_true rfl) [(.int (2 : Int32)), (.int x0), (.int (0 : Int32))] rfl (hb hby d6_70) 71 rfl ?_
        clear V_r; intro T10 h10 X10 e10 W10 V_r
        replace O := O.wr W10 n0_r
        replace KP := KP.wr W10 (Or.inr sz0_r)
        have N10 := Fr.snoc X10 N9 n0_r
        refine Own.g_aloadN X10 hx (hb hby d6_71) rfl rfl 72 rfl ?_
        refine Own.g_iconst X10 hx (2 : Int32) (hb hby d6_72) rfl 73 rfl ?_
        refine Own.g_iloadN X10 hx (hb hby d6_73) rfl 74 rfl ?_
        refine Own.g_stI X10 hx hZ e10 V_r x1 rfl (by decide) 2 rfl (Nat.le_of_ble_eq_true rfl) [(.int (2 : Int32)), (.int x0), (.int x1)] rfl (hb hby d6_74) 75 rfl ?_
        clear V_r; intro T11 h11 X11 e11 W11 V_r
        replace O := O.wr W11 n0_r
        replace KP := KP.wr W11 (Or.inr sz0_r)
        have N11 := Fr.snoc X11 N10 n0_r
        have hH : ¬ Own.HL x0 x1 := fun q => Own.if1_eq hq2 q.2
        obtain ⟨ep0, ep1, ep2⟩ := Own.p_nHL hH
        refine Own.g_aloadN X11 hx (hb hby d6_75) rfl rfl 76 rfl ?_
        refine Own.g_ret X11 hx hret hlocks rfl (Or.inr (Or.inr (Or.inr (Or.inr ⟨rfl, rfl, rfl⟩)))) (hb hby d6_76) (by decide) (by decide) e11 ?_
        refine ⟨r, k_r, rfl, N11, KP, sz0_r, ?_⟩
        rw [Own.mkL_2]
        exact by show Arv Z _ r k_r .int 3 [.int (Own.p0 [x0, x1]), .int (Own.p1 [x0, x1]), .int (Own.p2 [x0, x1])] (.int 0); rw [ep0, ep1, ep2]; exact V_r
      · intro hq2
        refine Own.g_aloadN X8 hx (hb hby d6_39) rfl rfl 40 rfl ?_
        refine Own.g_iconst X8 hx (0 : Int32) (hb hby d6_40) rfl 41 rfl ?_
        refine Own.g_iconst X8 hx (1 : Int32) (hb hby d6_41) rfl 42 rfl ?_
        refine Own.g_stI X8 hx hZ eH8 V_r (1 : Int32) rfl (by decide) 0 rfl (Nat.le_of_ble_eq_true rfl) [(.int (1 : Int32)), (.int (0 : Int32)), (.int (0 : Int32))] rfl (hb hby d6_42) 43 rfl ?_
        clear V_r; intro T12 h12 X12 e12 W12 V_r
        replace O := O.wr W12 n0_r
        replace KP := KP.wr W12 (Or.inr sz0_r)
        have N12 := Fr.snoc X12 N8 n0_r
        refine Own.g_aloadN X12 hx (hb hby d6_43) rfl rfl 44 rfl ?_
        refine Own.g_iconst X12 hx (1 : Int32) (hb hby d6_44) rfl 45 rfl ?_
        refine Own.g_iloadN X12 hx (hb hby d6_45) rfl 46 rfl ?_
        refine Own.g_ldcI X12 hx hown (mvT hZ (hw _ (List.mem_of_getElem? (i := 4) rfl))) (hb hby d6_46) 48 rfl ?_
        refine Own.g_isub X12 hx (hb hby d6_48) 49 rfl ?_
        refine Own.g_bipush X12 hx (10 : Int32) (hb hby d6_49) rfl 51 rfl ?_
        refine Own.g_ishl X12 hx (hb hby d6_51) 52 rfl ?_
        refine Own.g_iloadN X12 hx (hb hby d6_52) rfl 53 rfl ?_
        refine Own.g_ldcI X12 hx hown (mvT hZ (hw _ (List.mem_of_getElem? (i := 100) rfl))) (hb hby d6_53) 55 rfl ?_
        refine Own.g_isub X12 hx (hb hby d6_55) 56 rfl ?_
        refine Own.g_iadd X12 hx (hb hby d6_56) 57 rfl ?_
        refine Own.g_ldcI X12 hx hown (mvT hZ (hw _ (List.mem_of_getElem? (i := 103) rfl))) (hb hby d6_57) 59 rfl ?_
        refine Own.g_iadd X12 hx (hb hby d6_59) 60 rfl ?_
        refine Own.g_stI X12 hx hZ e12 V_r (Own.cpx x0 x1) rfl (by decide) 1 rfl (Nat.le_of_ble_eq_true rfl) [(.int (1 : Int32)), (.int (Own.cpx x0 x1)), (.int (0 : Int32))] rfl (hb hby d6_60) 61 rfl ?_
        clear V_r; intro T13 h13 X13 e13 W13 V_r
        replace O := O.wr W13 n0_r
        replace KP := KP.wr W13 (Or.inr sz0_r)
        have N13 := Fr.snoc X13 N12 n0_r
        have hH : Own.HL x0 x1 := ⟨Own.if1_ne hq1, Own.if1_ne hq2⟩
        obtain ⟨ep0, ep1, ep2⟩ := Own.p_HL hH
        refine Own.g_aloadN X13 hx (hb hby d6_61) rfl rfl 62 rfl ?_
        refine Own.g_ret X13 hx hret hlocks rfl (Or.inr (Or.inr (Or.inr (Or.inr ⟨rfl, rfl, rfl⟩)))) (hb hby d6_62) (by decide) (by decide) e13 ?_
        refine ⟨r, k_r, rfl, N13, KP, sz0_r, ?_⟩
        rw [Own.mkL_2]
        exact by show Arv Z _ r k_r .int 3 [.int (Own.p0 [x0, x1]), .int (Own.p1 [x0, x1]), .int (Own.p2 [x0, x1])] (.int 0); rw [ep0, ep1, ep2]; exact V_r
theorem ef_exp (m : MethodId) (x0 : Addr) (x1 : Addr) : entryFrame m #[.ref x0, .ref x1] 3 = mkF m 0 #[.val (.ref x0), .val (.ref x1), .unset] [] := by first | (simp [entryFrame, mkF, argsToLocals, Value.category]; done) | rfl
def Q_exp (Z : State) (a : Addr) (ka : ClassId) (b : Addr) (kb : ClassId) (u0 : Int32) (u1 : Int32) (u2 : Int32) (w0 : Int32) (w1 : Int32) (w2 : Int32) (h0 : Heap) (n0 : Nat) (v : Option Value) (h : Heap) (L : List Loc) : Prop := v = some (.int (Own.expV u0 u1 u2 w0 w1 w2)) ∧ Fr n0 L ∧ h = h0
set_option maxRecDepth 65536 in
set_option maxHeartbeats 40000000 in
theorem rm_exp (l : Launch) (Z : State) (a0 : Array Value) (hw : ∀ d ∈ tables_1, d.before a0 Z = true) (ws : List Jvm.Cond) (a : Addr) (ka : ClassId) (b : Addr) (kb : ClassId) (u0 : Int32) (u1 : Int32) (u2 : Int32) (w0 : Int32) (w1 : Int32) (w2 : Int32) (h0 : Heap) (n0 : Nat) (O : Old Z n0 h0) (V_a : Arv Z h0 a ka .int 3 [(.int u0), (.int u1), (.int u2)] (.int 0)) (V_b : Arv Z h0 b kb .int 3 [(.int w0), (.int w1), (.int w2)] (.int 0)) :
    MetFree l (⟨"com/example/proximity/proximity/CodePointOrderComparePinLaw", "expected", "([I[I)I"⟩ : MethodName) (head1 (Jvm.Cond.code (⟨"com/example/proximity/proximity/CodePointOrderComparePinLaw", "expected", "([I[I)I"⟩ : MethodName) method_8_code 3 (some .int) :: ws) ({ frames := 1, cells := 0, slots := 0, locals := 18 } : Room)) (fun aa U => aa = #[.ref a, .ref b] ∧ Z.Warmed39 U.vm ∧ U.heap = h0) (fun _ _ _ _ _ => True) (fun _ U o U' => Own.End U (Q_exp Z a ka b kb u0 u1 u2 w0 w1 w2 h0 n0) 0 0 o U') := by
  refine MetFree.of_bodySF (plainFor_of_name pn_2) hisR ?_
  intro p e s m args below meth c s₁ Bd hml0 hP hK
  obtain ⟨rfl, hZ, hh⟩ := hP
  have hx := Bd.exec
  have hby := Bd.bytes
  have hml : c.maxLocals = 3 := hml0
  have hown : s.vm.findClass "com/example/proximity/proximity/CodePointOrderComparePinLaw" = some m.cls := findClass_of_methodNamed Bd.named
  have hnm := (name_of_methodNamed Bd.named Bd.method).1
  have hret := Bd.returns
  have hlocks : meth.locks = false := Bd.notSynchronized
  have X0 : Stand p l e ({ frames := 1, cells := 0, slots := 0, locals := 18 } : Room) s m #[.ref a, .ref b] below meth c s₁ [] 0 0 := Stand.of_body Bd
  have e0 : s₁.heap = h0 := by rw [← hh, Bd.state]; rfl
  have N0 := Fr.nil n0
  show Own.Go p e below (Own.End s (Q_exp Z a ka b kb u0 u1 u2 w0 w1 w2 h0 n0) 0 0) (s₁.setTop (entryFrame m #[.ref a, .ref b] 3))
  refine Own.Go.eq (ef_exp m a b) ?_
  refine Own.g_aloadN X0 hx (hb hby d7_0) rfl rfl 1 rfl ?_
  refine Own.g_iconst X0 hx (0 : Int32) (hb hby d7_1) rfl 2 rfl ?_
  refine Own.g_ldI X0 hx hZ e0 V_a (by decide) u0 rfl (hb hby d7_2) 3 rfl ?_
  refine Own.g_aloadN X0 hx (hb hby d7_3) rfl rfl 4 rfl ?_
  refine Own.g_iconst X0 hx (0 : Int32) (hb hby d7_4) rfl 5 rfl ?_
  refine Own.g_ldI X0 hx hZ e0 V_b (by decide) w0 rfl (hb hby d7_5) 6 rfl ?_
  refine Own.g_callS X0 hx (y := (⟨"java/lang/Math", "min", "(II)I"⟩ : MethodName)) hown (mvT hZ (hw _ (List.mem_of_getElem? (i := 37) rfl))) (mvT hZ (hw _ (List.mem_of_getElem? (i := 38) rfl))) (mvT hZ (hw _ (List.mem_of_getElem? (i := 39) rfl))) (mvT hZ (hw _ (List.mem_of_getElem? (i := 40) rfl))) (by decide) [.int u0, .int w0] (Own.back (W := 0) (rm_min l Z a0 hw [] u0 w0 h0 n0 O ) hZ (hw _ (List.mem_of_getElem? (i := 40) rfl)) (hw _ (List.mem_of_getElem? (i := 39) rfl)) (by decide) (by decide)) e0 (by rw [hml]; rfl) [] (lenOf pd_11 rfl) rfl (Nat.le_of_ble_eq_true rfl) (hb hby d7_6) (by decide) (by decide) 9 rfl ?_
  rintro _ T1 L1 X1 ⟨rfl, N1q, eH1⟩
  have N1 := Fr.app N0 N1q
  show Own.Go p e below _ (T1.setTop (mkF m 9 #[.val (.ref a), .val (.ref b), .unset] [(.int (if w0 < u0 then w0 else u0))]))
  refine Own.g_istoreN X1 hx #[.val (.ref a), .val (.ref b), .val (.int (if w0 < u0 then w0 else u0))] (hb hby d7_9) rfl 10 rfl ?_
  refine Own.g_iloadN X1 hx (hb hby d7_10) rfl 11 rfl ?_
  refine Own.g_iconst X1 hx (1 : Int32) (hb hby d7_11) rfl 12 rfl ?_
  refine Own.g_icmp_lt X1 hx (hb hby d7_12) 39 15 (by decide) rfl ?_ ?_
  · intro hq1
    refine Own.g_iloadN X1 hx (hb hby d7_39) rfl 40 rfl ?_
    refine Own.g_iconst X1 hx (2 : Int32) (hb hby d7_40) rfl 41 rfl ?_
    refine Own.g_icmp_lt X1 hx (hb hby d7_41) 68 44 (by decide) rfl ?_ ?_
    · intro hq3
      refine Own.g_aloadN X1 hx (hb hby d7_68) rfl rfl 69 rfl ?_
      refine Own.g_iconst X1 hx (0 : Int32) (hb hby d7_69) rfl 70 rfl ?_
      refine Own.g_ldI X1 hx hZ eH1 V_a (by decide) u0 rfl (hb hby d7_70) 71 rfl ?_
      refine Own.g_aloadN X1 hx (hb hby d7_71) rfl rfl 72 rfl ?_
      refine Own.g_iconst X1 hx (0 : Int32) (hb hby d7_72) rfl 73 rfl ?_
      refine Own.g_ldI X1 hx hZ eH1 V_b (by decide) w0 rfl (hb hby d7_73) 74 rfl ?_
      refine Own.g_icmp_ge X1 hx (hb hby d7_74) 79 77 (by decide) rfl ?_ ?_
      · intro hq5
        refine Own.g_aloadN X1 hx (hb hby d7_79) rfl rfl 80 rfl ?_
        refine Own.g_iconst X1 hx (0 : Int32) (hb hby d7_80) rfl 81 rfl ?_
        refine Own.g_ldI X1 hx hZ eH1 V_a (by decide) u0 rfl (hb hby d7_81) 82 rfl ?_
        refine Own.g_aloadN X1 hx (hb hby d7_82) rfl rfl 83 rfl ?_
        refine Own.g_iconst X1 hx (0 : Int32) (hb hby d7_83) rfl 84 rfl ?_
        refine Own.g_ldI X1 hx hZ eH1 V_b (by decide) w0 rfl (hb hby d7_84) 85 rfl ?_
        refine Own.g_icmp_le X1 hx (hb hby d7_85) 90 88 (by decide) rfl ?_ ?_
        · intro hq6
          refine Own.g_iconst X1 hx (0 : Int32) (hb hby d7_90) rfl 91 rfl ?_
          refine Own.g_ret X1 hx hret hlocks rfl (Or.inl ⟨rfl, by simp, _, rfl⟩) (hb hby d7_91) (by decide) (by decide) eH1 ?_
          exact ⟨by unfold Own.expV; rw [if_neg (fun q => q.1 hq1), if_neg (fun q => q.1 hq3), if_neg hq5, if_neg hq6], N1, rfl⟩
        · intro hq6
          refine Own.g_iconst X1 hx (1 : Int32) (hb hby d7_88) rfl 89 rfl ?_
          refine Own.g_ret X1 hx hret hlocks rfl (Or.inl ⟨rfl, by simp, _, rfl⟩) (hb hby d7_89) (by decide) (by decide) eH1 ?_
          exact ⟨by unfold Own.expV; rw [if_neg (fun q => q.1 hq1), if_neg (fun q => q.1 hq3), if_neg hq5, if_pos hq6], N1, rfl⟩
      · intro hq5
        refine Own.g_iconst X1 hx (-1 : Int32) (hb hby d7_77) rfl 78 rfl ?_
        refine Own.g_ret X1 hx hret hlocks rfl (Or.inl ⟨rfl, by simp, _, rfl⟩) (hb hby d7_78) (by decide) (by decide) eH1 ?_
        exact ⟨by unfold Own.expV; rw [if_neg (fun q => q.1 hq1), if_neg (fun q => q.1 hq3), if_pos hq5], N1, rfl⟩
    · intro hq3
      refine Own.g_aloadN X1 hx (hb hby d7_44) rfl rfl 45 rfl ?_
      refine Own.g_iconst X1 hx (2 : Int32) (hb hby d7_45) rfl 46 rfl ?_
      refine Own.g_ldI X1 hx hZ eH1 V_a (by decide) u2 rfl (hb hby d7_46) 47 rfl ?_
      refine Own.g_aloadN X1 hx (hb hby d7_47) rfl rfl 48 rfl ?_
      refine Own.g_iconst X1 hx (2 : Int32) (hb hby d7_48) rfl 49 rfl ?_
      refine Own.g_ldI X1 hx hZ eH1 V_b (by decide) w2 rfl (hb hby d7_49) 50 rfl ?_
      refine Own.g_icmp_eq X1 hx (hb hby d7_50) 68 53 (by decide) rfl ?_ ?_
      · intro hq4
        refine Own.g_aloadN X1 hx (hb hby d7_68) rfl rfl 69 rfl ?_
        refine Own.g_iconst X1 hx (0 : Int32) (hb hby d7_69) rfl 70 rfl ?_
        refine Own.g_ldI X1 hx hZ eH1 V_a (by decide) u0 rfl (hb hby d7_70) 71 rfl ?_
        refine Own.g_aloadN X1 hx (hb hby d7_71) rfl rfl 72 rfl ?_
        refine Own.g_iconst X1 hx (0 : Int32) (hb hby d7_72) rfl 73 rfl ?_
        refine Own.g_ldI X1 hx hZ eH1 V_b (by decide) w0 rfl (hb hby d7_73) 74 rfl ?_
        refine Own.g_icmp_ge X1 hx (hb hby d7_74) 79 77 (by decide) rfl ?_ ?_
        · intro hq5
          refine Own.g_aloadN X1 hx (hb hby d7_79) rfl rfl 80 rfl ?_
          refine Own.g_iconst X1 hx (0 : Int32) (hb hby d7_80) rfl 81 rfl ?_
          refine Own.g_ldI X1 hx hZ eH1 V_a (by decide) u0 rfl (hb hby d7_81) 82 rfl ?_
          refine Own.g_aloadN X1 hx (hb hby d7_82) rfl rfl 83 rfl ?_
          refine Own.g_iconst X1 hx (0 : Int32) (hb hby d7_83) rfl 84 rfl ?_
          refine Own.g_ldI X1 hx hZ eH1 V_b (by decide) w0 rfl (hb hby d7_84) 85 rfl ?_
          refine Own.g_icmp_le X1 hx (hb hby d7_85) 90 88 (by decide) rfl ?_ ?_
          · intro hq6
            refine Own.g_iconst X1 hx (0 : Int32) (hb hby d7_90) rfl 91 rfl ?_
            refine Own.g_ret X1 hx hret hlocks rfl (Or.inl ⟨rfl, by simp, _, rfl⟩) (hb hby d7_91) (by decide) (by decide) eH1 ?_
            exact ⟨by unfold Own.expV; rw [if_neg (fun q => q.1 hq1), if_neg (fun q => q.2 hq4), if_neg hq5, if_neg hq6], N1, rfl⟩
          · intro hq6
            refine Own.g_iconst X1 hx (1 : Int32) (hb hby d7_88) rfl 89 rfl ?_
            refine Own.g_ret X1 hx hret hlocks rfl (Or.inl ⟨rfl, by simp, _, rfl⟩) (hb hby d7_89) (by decide) (by decide) eH1 ?_
            exact ⟨by unfold Own.expV; rw [if_neg (fun q => q.1 hq1), if_neg (fun q => q.2 hq4), if_neg hq5, if_pos hq6], N1, rfl⟩
        · intro hq5
          refine Own.g_iconst X1 hx (-1 : Int32) (hb hby d7_77) rfl 78 rfl ?_
          refine Own.g_ret X1 hx hret hlocks rfl (Or.inl ⟨rfl, by simp, _, rfl⟩) (hb hby d7_78) (by decide) (by decide) eH1 ?_
          exact ⟨by unfold Own.expV; rw [if_neg (fun q => q.1 hq1), if_neg (fun q => q.2 hq4), if_pos hq5], N1, rfl⟩
      · intro hq4
        refine Own.g_aloadN X1 hx (hb hby d7_53) rfl rfl 54 rfl ?_
        refine Own.g_iconst X1 hx (2 : Int32) (hb hby d7_54) rfl 55 rfl ?_
        refine Own.g_ldI X1 hx hZ eH1 V_a (by decide) u2 rfl (hb hby d7_55) 56 rfl ?_
        refine Own.g_aloadN X1 hx (hb hby d7_56) rfl rfl 57 rfl ?_
        refine Own.g_iconst X1 hx (2 : Int32) (hb hby d7_57) rfl 58 rfl ?_
        refine Own.g_ldI X1 hx hZ eH1 V_b (by decide) w2 rfl (hb hby d7_58) 59 rfl ?_
        refine Own.g_icmp_ge X1 hx (hb hby d7_59) 66 62 (by decide) rfl ?_ ?_
        · intro hq7
          refine Own.g_iconst X1 hx (1 : Int32) (hb hby d7_66) rfl 67 rfl ?_
          refine Own.g_ret X1 hx hret hlocks rfl (Or.inl ⟨rfl, by simp, _, rfl⟩) (hb hby d7_67) (by decide) (by decide) eH1 ?_
          exact ⟨by unfold Own.expV; rw [if_neg (fun q => q.1 hq1), if_pos ⟨hq3, hq4⟩, if_neg hq7], N1, rfl⟩
        · intro hq7
          refine Own.g_iconst X1 hx (-1 : Int32) (hb hby d7_62) rfl 63 rfl ?_
          refine Own.g_goto X1 hx (hb hby d7_63) 67 (by decide) ?_
          refine Own.g_ret X1 hx hret hlocks rfl (Or.inl ⟨rfl, by simp, _, rfl⟩) (hb hby d7_67) (by decide) (by decide) eH1 ?_
          exact ⟨by unfold Own.expV; rw [if_neg (fun q => q.1 hq1), if_pos ⟨hq3, hq4⟩, if_pos hq7], N1, rfl⟩
  · intro hq1
    refine Own.g_aloadN X1 hx (hb hby d7_15) rfl rfl 16 rfl ?_
    refine Own.g_iconst X1 hx (1 : Int32) (hb hby d7_16) rfl 17 rfl ?_
    refine Own.g_ldI X1 hx hZ eH1 V_a (by decide) u1 rfl (hb hby d7_17) 18 rfl ?_
    refine Own.g_aloadN X1 hx (hb hby d7_18) rfl rfl 19 rfl ?_
    refine Own.g_iconst X1 hx (1 : Int32) (hb hby d7_19) rfl 20 rfl ?_
    refine Own.g_ldI X1 hx hZ eH1 V_b (by decide) w1 rfl (hb hby d7_20) 21 rfl ?_
    refine Own.g_icmp_eq X1 hx (hb hby d7_21) 39 24 (by decide) rfl ?_ ?_
    · intro hq2
      refine Own.g_iloadN X1 hx (hb hby d7_39) rfl 40 rfl ?_
      refine Own.g_iconst X1 hx (2 : Int32) (hb hby d7_40) rfl 41 rfl ?_
      refine Own.g_icmp_lt X1 hx (hb hby d7_41) 68 44 (by decide) rfl ?_ ?_
      · intro hq3
        refine Own.g_aloadN X1 hx (hb hby d7_68) rfl rfl 69 rfl ?_
        refine Own.g_iconst X1 hx (0 : Int32) (hb hby d7_69) rfl 70 rfl ?_
        refine Own.g_ldI X1 hx hZ eH1 V_a (by decide) u0 rfl (hb hby d7_70) 71 rfl ?_
        refine Own.g_aloadN X1 hx (hb hby d7_71) rfl rfl 72 rfl ?_
        refine Own.g_iconst X1 hx (0 : Int32) (hb hby d7_72) rfl 73 rfl ?_
        refine Own.g_ldI X1 hx hZ eH1 V_b (by decide) w0 rfl (hb hby d7_73) 74 rfl ?_
        refine Own.g_icmp_ge X1 hx (hb hby d7_74) 79 77 (by decide) rfl ?_ ?_
        · intro hq5
          refine Own.g_aloadN X1 hx (hb hby d7_79) rfl rfl 80 rfl ?_
          refine Own.g_iconst X1 hx (0 : Int32) (hb hby d7_80) rfl 81 rfl ?_
          refine Own.g_ldI X1 hx hZ eH1 V_a (by decide) u0 rfl (hb hby d7_81) 82 rfl ?_
          refine Own.g_aloadN X1 hx (hb hby d7_82) rfl rfl 83 rfl ?_
          refine Own.g_iconst X1 hx (0 : Int32) (hb hby d7_83) rfl 84 rfl ?_
          refine Own.g_ldI X1 hx hZ eH1 V_b (by decide) w0 rfl (hb hby d7_84) 85 rfl ?_
          refine Own.g_icmp_le X1 hx (hb hby d7_85) 90 88 (by decide) rfl ?_ ?_
          · intro hq6
            refine Own.g_iconst X1 hx (0 : Int32) (hb hby d7_90) rfl 91 rfl ?_
            refine Own.g_ret X1 hx hret hlocks rfl (Or.inl ⟨rfl, by simp, _, rfl⟩) (hb hby d7_91) (by decide) (by decide) eH1 ?_
            exact ⟨by unfold Own.expV; rw [if_neg (fun q => q.2 hq2), if_neg (fun q => q.1 hq3), if_neg hq5, if_neg hq6], N1, rfl⟩
          · intro hq6
            refine Own.g_iconst X1 hx (1 : Int32) (hb hby d7_88) rfl 89 rfl ?_
            refine Own.g_ret X1 hx hret hlocks rfl (Or.inl ⟨rfl, by simp, _, rfl⟩) (hb hby d7_89) (by decide) (by decide) eH1 ?_
            exact ⟨by unfold Own.expV; rw [if_neg (fun q => q.2 hq2), if_neg (fun q => q.1 hq3), if_neg hq5, if_pos hq6], N1, rfl⟩
        · intro hq5
          refine Own.g_iconst X1 hx (-1 : Int32) (hb hby d7_77) rfl 78 rfl ?_
          refine Own.g_ret X1 hx hret hlocks rfl (Or.inl ⟨rfl, by simp, _, rfl⟩) (hb hby d7_78) (by decide) (by decide) eH1 ?_
          exact ⟨by unfold Own.expV; rw [if_neg (fun q => q.2 hq2), if_neg (fun q => q.1 hq3), if_pos hq5], N1, rfl⟩
      · intro hq3
        refine Own.g_aloadN X1 hx (hb hby d7_44) rfl rfl 45 rfl ?_
        refine Own.g_iconst X1 hx (2 : Int32) (hb hby d7_45) rfl 46 rfl ?_
        refine Own.g_ldI X1 hx hZ eH1 V_a (by decide) u2 rfl (hb hby d7_46) 47 rfl ?_
        refine Own.g_aloadN X1 hx (hb hby d7_47) rfl rfl 48 rfl ?_
        refine Own.g_iconst X1 hx (2 : Int32) (hb hby d7_48) rfl 49 rfl ?_
        refine Own.g_ldI X1 hx hZ eH1 V_b (by decide) w2 rfl (hb hby d7_49) 50 rfl ?_
        refine Own.g_icmp_eq X1 hx (hb hby d7_50) 68 53 (by decide) rfl ?_ ?_
        · intro hq4
          refine Own.g_aloadN X1 hx (hb hby d7_68) rfl rfl 69 rfl ?_
          refine Own.g_iconst X1 hx (0 : Int32) (hb hby d7_69) rfl 70 rfl ?_
          refine Own.g_ldI X1 hx hZ eH1 V_a (by decide) u0 rfl (hb hby d7_70) 71 rfl ?_
          refine Own.g_aloadN X1 hx (hb hby d7_71) rfl rfl 72 rfl ?_
          refine Own.g_iconst X1 hx (0 : Int32) (hb hby d7_72) rfl 73 rfl ?_
          refine Own.g_ldI X1 hx hZ eH1 V_b (by decide) w0 rfl (hb hby d7_73) 74 rfl ?_
          refine Own.g_icmp_ge X1 hx (hb hby d7_74) 79 77 (by decide) rfl ?_ ?_
          · intro hq5
            refine Own.g_aloadN X1 hx (hb hby d7_79) rfl rfl 80 rfl ?_
            refine Own.g_iconst X1 hx (0 : Int32) (hb hby d7_80) rfl 81 rfl ?_
            refine Own.g_ldI X1 hx hZ eH1 V_a (by decide) u0 rfl (hb hby d7_81) 82 rfl ?_
            refine Own.g_aloadN X1 hx (hb hby d7_82) rfl rfl 83 rfl ?_
            refine Own.g_iconst X1 hx (0 : Int32) (hb hby d7_83) rfl 84 rfl ?_
            refine Own.g_ldI X1 hx hZ eH1 V_b (by decide) w0 rfl (hb hby d7_84) 85 rfl ?_
            refine Own.g_icmp_le X1 hx (hb hby d7_85) 90 88 (by decide) rfl ?_ ?_
            · intro hq6
              refine Own.g_iconst X1 hx (0 : Int32) (hb hby d7_90) rfl 91 rfl ?_
              refine Own.g_ret X1 hx hret hlocks rfl (Or.inl ⟨rfl, by simp, _, rfl⟩) (hb hby d7_91) (by decide) (by decide) eH1 ?_
              exact ⟨by unfold Own.expV; rw [if_neg (fun q => q.2 hq2), if_neg (fun q => q.2 hq4), if_neg hq5, if_neg hq6], N1, rfl⟩
            · intro hq6
              refine Own.g_iconst X1 hx (1 : Int32) (hb hby d7_88) rfl 89 rfl ?_
              refine Own.g_ret X1 hx hret hlocks rfl (Or.inl ⟨rfl, by simp, _, rfl⟩) (hb hby d7_89) (by decide) (by decide) eH1 ?_
              exact ⟨by unfold Own.expV; rw [if_neg (fun q => q.2 hq2), if_neg (fun q => q.2 hq4), if_neg hq5, if_pos hq6], N1, rfl⟩
          · intro hq5
            refine Own.g_iconst X1 hx (-1 : Int32) (hb hby d7_77) rfl 78 rfl ?_
            refine Own.g_ret X1 hx hret hlocks rfl (Or.inl ⟨rfl, by simp, _, rfl⟩) (hb hby d7_78) (by decide) (by decide) eH1 ?_
            exact ⟨by unfold Own.expV; rw [if_neg (fun q => q.2 hq2), if_neg (fun q => q.2 hq4), if_pos hq5], N1, rfl⟩
        · intro hq4
          refine Own.g_aloadN X1 hx (hb hby d7_53) rfl rfl 54 rfl ?_
          refine Own.g_iconst X1 hx (2 : Int32) (hb hby d7_54) rfl 55 rfl ?_
          refine Own.g_ldI X1 hx hZ eH1 V_a (by decide) u2 rfl (hb hby d7_55) 56 rfl ?_
          refine Own.g_aloadN X1 hx (hb hby d7_56) rfl rfl 57 rfl ?_
          refine Own.g_iconst X1 hx (2 : Int32) (hb hby d7_57) rfl 58 rfl ?_
          refine Own.g_ldI X1 hx hZ eH1 V_b (by decide) w2 rfl (hb hby d7_58) 59 rfl ?_
          refine Own.g_icmp_ge X1 hx (hb hby d7_59) 66 62 (by decide) rfl ?_ ?_
          · intro hq7
            refine Own.g_iconst X1 hx (1 : Int32) (hb hby d7_66) rfl 67 rfl ?_
            refine Own.g_ret X1 hx hret hlocks rfl (Or.inl ⟨rfl, by simp, _, rfl⟩) (hb hby d7_67) (by decide) (by decide) eH1 ?_
            exact ⟨by unfold Own.expV; rw [if_neg (fun q => q.2 hq2), if_pos ⟨hq3, hq4⟩, if_neg hq7], N1, rfl⟩
          · intro hq7
            refine Own.g_iconst X1 hx (-1 : Int32) (hb hby d7_62) rfl 63 rfl ?_
            refine Own.g_goto X1 hx (hb hby d7_63) 67 (by decide) ?_
            refine Own.g_ret X1 hx hret hlocks rfl (Or.inl ⟨rfl, by simp, _, rfl⟩) (hb hby d7_67) (by decide) (by decide) eH1 ?_
            exact ⟨by unfold Own.expV; rw [if_neg (fun q => q.2 hq2), if_pos ⟨hq3, hq4⟩, if_pos hq7], N1, rfl⟩
    · intro hq2
      refine Own.g_aloadN X1 hx (hb hby d7_24) rfl rfl 25 rfl ?_
      refine Own.g_iconst X1 hx (1 : Int32) (hb hby d7_25) rfl 26 rfl ?_
      refine Own.g_ldI X1 hx hZ eH1 V_a (by decide) u1 rfl (hb hby d7_26) 27 rfl ?_
      refine Own.g_aloadN X1 hx (hb hby d7_27) rfl rfl 28 rfl ?_
      refine Own.g_iconst X1 hx (1 : Int32) (hb hby d7_28) rfl 29 rfl ?_
      refine Own.g_ldI X1 hx hZ eH1 V_b (by decide) w1 rfl (hb hby d7_29) 30 rfl ?_
      refine Own.g_icmp_ge X1 hx (hb hby d7_30) 37 33 (by decide) rfl ?_ ?_
      · intro hq7
        refine Own.g_iconst X1 hx (1 : Int32) (hb hby d7_37) rfl 38 rfl ?_
        refine Own.g_ret X1 hx hret hlocks rfl (Or.inl ⟨rfl, by simp, _, rfl⟩) (hb hby d7_38) (by decide) (by decide) eH1 ?_
        exact ⟨by unfold Own.expV; rw [if_pos ⟨hq1, hq2⟩, if_neg hq7], N1, rfl⟩
      · intro hq7
        refine Own.g_iconst X1 hx (-1 : Int32) (hb hby d7_33) rfl 34 rfl ?_
        refine Own.g_goto X1 hx (hb hby d7_34) 38 (by decide) ?_
        refine Own.g_ret X1 hx hret hlocks rfl (Or.inl ⟨rfl, by simp, _, rfl⟩) (hb hby d7_38) (by decide) (by decide) eH1 ?_
        exact ⟨by unfold Own.expV; rw [if_pos ⟨hq1, hq2⟩, if_pos hq7], N1, rfl⟩
theorem ef_cod0 (m : MethodId) (x0 : Addr) : entryFrame m #[.ref x0] 1 = mkF m 0 #[.val (.ref x0)] [] := by first | (simp [entryFrame, mkF, argsToLocals, Value.category]; done) | rfl
def Q_cod0 (Z : State) (b : Addr) (G1 : Int32) (h0 : Heap) (n0 : Nat) (v : Option Value) (h : Heap) (L : List Loc) : Prop := v = some (.int 0) ∧ Fr n0 L ∧ h = h0
set_option maxRecDepth 65536 in
set_option maxHeartbeats 40000000 in
theorem rm_cod0 (l : Launch) (Z : State) (a0 : Array Value) (hw : ∀ d ∈ tables_1, d.before a0 Z = true) (ws : List Jvm.Cond) (b : Addr) (G1 : Int32) (h0 : Heap) (n0 : Nat) (O : Old Z n0 h0) (O2 : Sta Z Z.heap "java/lang/String" "COMPACT_STRINGS" "Z" (.int G1)) (P5 : ¬ (G1 = (0 : Int32))) (F_b_coder : Fld Z h0 b "java/lang/String" "coder" "B" (.int 0)) :
    MetFree l (⟨"java/lang/String", "coder", "()B"⟩ : MethodName) (head1 (Jvm.Cond.code (⟨"java/lang/String", "coder", "()B"⟩ : MethodName) jdk_42_method_152_code 1 (some .byte) :: ws) ({ frames := 0, cells := 0, slots := 0, locals := 0 } : Room)) (fun aa U => aa = #[.ref b] ∧ Z.Warmed39 U.vm ∧ U.heap = h0) (fun _ _ _ _ _ => True) (fun _ U o U' => Own.End U (Q_cod0 Z b G1 h0 n0) 0 0 o U') := by
  refine MetFree.of_bodySF (plainFor_of_name pn_0) hisR ?_
  intro p e s m args below meth c s₁ Bd hml0 hP hK
  obtain ⟨rfl, hZ, hh⟩ := hP
  have hx := Bd.exec
  have hby := Bd.bytes
  have hml : c.maxLocals = 1 := hml0
  have hown : s.vm.findClass "java/lang/String" = some m.cls := findClass_of_methodNamed Bd.named
  have hnm := (name_of_methodNamed Bd.named Bd.method).1
  have hret := Bd.returns
  have hlocks : meth.locks = false := Bd.notSynchronized
  have X0 : Stand p l e ({ frames := 0, cells := 0, slots := 0, locals := 0 } : Room) s m #[.ref b] below meth c s₁ [] 0 0 := Stand.of_body Bd
  have e0 : s₁.heap = h0 := by rw [← hh, Bd.state]; rfl
  have N0 := Fr.nil n0
  show Own.Go p e below (Own.End s (Q_cod0 Z b G1 h0 n0) 0 0) (s₁.setTop (entryFrame m #[.ref b] 1))
  refine Own.Go.eq (ef_cod0 m b) ?_
  refine Own.g_getS X0 hx hZ hown (host := "") (Or.inl (hw _ (List.mem_of_getElem? (i := 55) rfl))) Via.refl e0 (O2.ext O.2) (hb hby d11_0) 3 rfl ?_
  intro T1 X1 e1
  refine Own.g_if_eq_f X1 hx (hb hby d11_3) P5 6 rfl ?_
  refine Own.g_aloadN X1 hx (hb hby d11_6) rfl rfl 7 rfl ?_
  refine Own.g_getF X1 hx hZ hown (host := "") (Or.inl (hw _ (List.mem_of_getElem? (i := 29) rfl))) Via.refl e1 F_b_coder (hb hby d11_7) 10 rfl ?_
  intro T2 X2 e2
  refine Own.g_goto X2 hx (hb hby d11_10) 14 (by decide) ?_
  refine Own.g_ret X2 hx hret hlocks rfl (Or.inl ⟨rfl, by simp, _, rfl⟩) (hb hby d11_14) (by decide) (by decide) e2 ?_
  exact ⟨rfl, N0, rfl⟩
theorem ef_isl0 (m : MethodId) (x0 : Addr) : entryFrame m #[.ref x0] 1 = mkF m 0 #[.val (.ref x0)] [] := by first | (simp [entryFrame, mkF, argsToLocals, Value.category]; done) | rfl
def Q_isl0 (Z : State) (b : Addr) (G1 : Int32) (h0 : Heap) (n0 : Nat) (v : Option Value) (h : Heap) (L : List Loc) : Prop := v = some (.int 1) ∧ Fr n0 L ∧ h = h0
set_option maxRecDepth 65536 in
set_option maxHeartbeats 40000000 in
theorem rm_isl0 (l : Launch) (Z : State) (a0 : Array Value) (hw : ∀ d ∈ tables_1, d.before a0 Z = true) (ws : List Jvm.Cond) (b : Addr) (G1 : Int32) (h0 : Heap) (n0 : Nat) (O : Old Z n0 h0) (O2 : Sta Z Z.heap "java/lang/String" "COMPACT_STRINGS" "Z" (.int G1)) (P5 : ¬ (G1 = (0 : Int32))) (F_b_coder : Fld Z h0 b "java/lang/String" "coder" "B" (.int 0)) :
    MetFree l (⟨"java/lang/String", "isLatin1", "()Z"⟩ : MethodName) (head1 (Jvm.Cond.code (⟨"java/lang/String", "isLatin1", "()Z"⟩ : MethodName) jdk_42_method_154_code 1 (some .boolean) :: ws) ({ frames := 0, cells := 0, slots := 0, locals := 0 } : Room)) (fun aa U => aa = #[.ref b] ∧ Z.Warmed39 U.vm ∧ U.heap = h0) (fun _ _ _ _ _ => True) (fun _ U o U' => Own.End U (Q_isl0 Z b G1 h0 n0) 0 0 o U') := by
  refine MetFree.of_bodySF (plainFor_of_name pn_0) hisR ?_
  intro p e s m args below meth c s₁ Bd hml0 hP hK
  obtain ⟨rfl, hZ, hh⟩ := hP
  have hx := Bd.exec
  have hby := Bd.bytes
  have hml : c.maxLocals = 1 := hml0
  have hown : s.vm.findClass "java/lang/String" = some m.cls := findClass_of_methodNamed Bd.named
  have hnm := (name_of_methodNamed Bd.named Bd.method).1
  have hret := Bd.returns
  have hlocks : meth.locks = false := Bd.notSynchronized
  have X0 : Stand p l e ({ frames := 0, cells := 0, slots := 0, locals := 0 } : Room) s m #[.ref b] below meth c s₁ [] 0 0 := Stand.of_body Bd
  have e0 : s₁.heap = h0 := by rw [← hh, Bd.state]; rfl
  have N0 := Fr.nil n0
  show Own.Go p e below (Own.End s (Q_isl0 Z b G1 h0 n0) 0 0) (s₁.setTop (entryFrame m #[.ref b] 1))
  refine Own.Go.eq (ef_isl0 m b) ?_
  refine Own.g_getS X0 hx hZ hown (host := "") (Or.inl (hw _ (List.mem_of_getElem? (i := 55) rfl))) Via.refl e0 (O2.ext O.2) (hb hby d25_0) 3 rfl ?_
  intro T1 X1 e1
  refine Own.g_if_eq_f X1 hx (hb hby d25_3) P5 6 rfl ?_
  refine Own.g_aloadN X1 hx (hb hby d25_6) rfl rfl 7 rfl ?_
  refine Own.g_getF X1 hx hZ hown (host := "") (Or.inl (hw _ (List.mem_of_getElem? (i := 29) rfl))) Via.refl e1 F_b_coder (hb hby d25_7) 10 rfl ?_
  intro T2 X2 e2
  refine Own.g_if_ne_f X2 hx (hb hby d25_10) rfl 13 rfl ?_
  refine Own.g_iconst X2 hx (1 : Int32) (hb hby d25_13) rfl 14 rfl ?_
  refine Own.g_goto X2 hx (hb hby d25_14) 18 (by decide) ?_
  refine Own.g_ret X2 hx hret hlocks rfl (Or.inl ⟨rfl, by simp, _, rfl⟩) (hb hby d25_18) (by decide) (by decide) e2 ?_
  exact ⟨rfl, N0, rfl⟩
theorem ef_cod1 (m : MethodId) (x0 : Addr) : entryFrame m #[.ref x0] 1 = mkF m 0 #[.val (.ref x0)] [] := by first | (simp [entryFrame, mkF, argsToLocals, Value.category]; done) | rfl
def Q_cod1 (Z : State) (b : Addr) (G1 : Int32) (h0 : Heap) (n0 : Nat) (v : Option Value) (h : Heap) (L : List Loc) : Prop := v = some (.int 1) ∧ Fr n0 L ∧ h = h0
set_option maxRecDepth 65536 in
set_option maxHeartbeats 40000000 in
theorem rm_cod1 (l : Launch) (Z : State) (a0 : Array Value) (hw : ∀ d ∈ tables_1, d.before a0 Z = true) (ws : List Jvm.Cond) (b : Addr) (G1 : Int32) (h0 : Heap) (n0 : Nat) (O : Old Z n0 h0) (O2 : Sta Z Z.heap "java/lang/String" "COMPACT_STRINGS" "Z" (.int G1)) (P5 : ¬ (G1 = (0 : Int32))) (F_b_coder : Fld Z h0 b "java/lang/String" "coder" "B" (.int 1)) :
    MetFree l (⟨"java/lang/String", "coder", "()B"⟩ : MethodName) (head1 (Jvm.Cond.code (⟨"java/lang/String", "coder", "()B"⟩ : MethodName) jdk_42_method_152_code 1 (some .byte) :: ws) ({ frames := 0, cells := 0, slots := 0, locals := 0 } : Room)) (fun aa U => aa = #[.ref b] ∧ Z.Warmed39 U.vm ∧ U.heap = h0) (fun _ _ _ _ _ => True) (fun _ U o U' => Own.End U (Q_cod1 Z b G1 h0 n0) 0 0 o U') := by
  refine MetFree.of_bodySF (plainFor_of_name pn_0) hisR ?_
  intro p e s m args below meth c s₁ Bd hml0 hP hK
  obtain ⟨rfl, hZ, hh⟩ := hP
  have hx := Bd.exec
  have hby := Bd.bytes
  have hml : c.maxLocals = 1 := hml0
  have hown : s.vm.findClass "java/lang/String" = some m.cls := findClass_of_methodNamed Bd.named
  have hnm := (name_of_methodNamed Bd.named Bd.method).1
  have hret := Bd.returns
  have hlocks : meth.locks = false := Bd.notSynchronized
  have X0 : Stand p l e ({ frames := 0, cells := 0, slots := 0, locals := 0 } : Room) s m #[.ref b] below meth c s₁ [] 0 0 := Stand.of_body Bd
  have e0 : s₁.heap = h0 := by rw [← hh, Bd.state]; rfl
  have N0 := Fr.nil n0
  show Own.Go p e below (Own.End s (Q_cod1 Z b G1 h0 n0) 0 0) (s₁.setTop (entryFrame m #[.ref b] 1))
  refine Own.Go.eq (ef_cod1 m b) ?_
  refine Own.g_getS X0 hx hZ hown (host := "") (Or.inl (hw _ (List.mem_of_getElem? (i := 55) rfl))) Via.refl e0 (O2.ext O.2) (hb hby d11_0) 3 rfl ?_
  intro T1 X1 e1
  refine Own.g_if_eq_f X1 hx (hb hby d11_3) P5 6 rfl ?_
  refine Own.g_aloadN X1 hx (hb hby d11_6) rfl rfl 7 rfl ?_
  refine Own.g_getF X1 hx hZ hown (host := "") (Or.inl (hw _ (List.mem_of_getElem? (i := 29) rfl))) Via.refl e1 F_b_coder (hb hby d11_7) 10 rfl ?_
  intro T2 X2 e2
  refine Own.g_goto X2 hx (hb hby d11_10) 14 (by decide) ?_
  refine Own.g_ret X2 hx hret hlocks rfl (Or.inl ⟨rfl, by simp, _, rfl⟩) (hb hby d11_14) (by decide) (by decide) e2 ?_
  exact ⟨rfl, N0, rfl⟩
theorem ef_isl1 (m : MethodId) (x0 : Addr) : entryFrame m #[.ref x0] 1 = mkF m 0 #[.val (.ref x0)] [] := by first | (simp [entryFrame, mkF, argsToLocals, Value.category]; done) | rfl
def Q_isl1 (Z : State) (b : Addr) (G1 : Int32) (h0 : Heap) (n0 : Nat) (v : Option Value) (h : Heap) (L : List Loc) : Prop := v = some (.int 0) ∧ Fr n0 L ∧ h = h0
set_option maxRecDepth 65536 in
set_option maxHeartbeats 40000000 in
theorem rm_isl1 (l : Launch) (Z : State) (a0 : Array Value) (hw : ∀ d ∈ tables_1, d.before a0 Z = true) (ws : List Jvm.Cond) (b : Addr) (G1 : Int32) (h0 : Heap) (n0 : Nat) (O : Old Z n0 h0) (O2 : Sta Z Z.heap "java/lang/String" "COMPACT_STRINGS" "Z" (.int G1)) (P5 : ¬ (G1 = (0 : Int32))) (F_b_coder : Fld Z h0 b "java/lang/String" "coder" "B" (.int 1)) :
    MetFree l (⟨"java/lang/String", "isLatin1", "()Z"⟩ : MethodName) (head1 (Jvm.Cond.code (⟨"java/lang/String", "isLatin1", "()Z"⟩ : MethodName) jdk_42_method_154_code 1 (some .boolean) :: ws) ({ frames := 0, cells := 0, slots := 0, locals := 0 } : Room)) (fun aa U => aa = #[.ref b] ∧ Z.Warmed39 U.vm ∧ U.heap = h0) (fun _ _ _ _ _ => True) (fun _ U o U' => Own.End U (Q_isl1 Z b G1 h0 n0) 0 0 o U') := by
  refine MetFree.of_bodySF (plainFor_of_name pn_0) hisR ?_
  intro p e s m args below meth c s₁ Bd hml0 hP hK
  obtain ⟨rfl, hZ, hh⟩ := hP
  have hx := Bd.exec
  have hby := Bd.bytes
  have hml : c.maxLocals = 1 := hml0
  have hown : s.vm.findClass "java/lang/String" = some m.cls := findClass_of_methodNamed Bd.named
  have hnm := (name_of_methodNamed Bd.named Bd.method).1
  have hret := Bd.returns
  have hlocks : meth.locks = false := Bd.notSynchronized
  have X0 : Stand p l e ({ frames := 0, cells := 0, slots := 0, locals := 0 } : Room) s m #[.ref b] below meth c s₁ [] 0 0 := Stand.of_body Bd
  have e0 : s₁.heap = h0 := by rw [← hh, Bd.state]; rfl
  have N0 := Fr.nil n0
  show Own.Go p e below (Own.End s (Q_isl1 Z b G1 h0 n0) 0 0) (s₁.setTop (entryFrame m #[.ref b] 1))
  refine Own.Go.eq (ef_isl1 m b) ?_
  refine Own.g_getS X0 hx hZ hown (host := "") (Or.inl (hw _ (List.mem_of_getElem? (i := 55) rfl))) Via.refl e0 (O2.ext O.2) (hb hby d25_0) 3 rfl ?_
  intro T1 X1 e1
  refine Own.g_if_eq_f X1 hx (hb hby d25_3) P5 6 rfl ?_
  refine Own.g_aloadN X1 hx (hb hby d25_6) rfl rfl 7 rfl ?_
  refine Own.g_getF X1 hx hZ hown (host := "") (Or.inl (hw _ (List.mem_of_getElem? (i := 29) rfl))) Via.refl e1 F_b_coder (hb hby d25_7) 10 rfl ?_
  intro T2 X2 e2
  refine Own.g_if_ne_t X2 hx (hb hby d25_10) (by decide) 17 (by decide) ?_
  refine Own.g_iconst X2 hx (0 : Int32) (hb hby d25_17) rfl 18 rfl ?_
  refine Own.g_ret X2 hx hret hlocks rfl (Or.inl ⟨rfl, by simp, _, rfl⟩) (hb hby d25_18) (by decide) (by decide) e2 ?_
  exact ⟨rfl, N0, rfl⟩
theorem ef_len (m : MethodId) (x0 : Addr) : entryFrame m #[.ref x0] 1 = mkF m 0 #[.val (.ref x0)] [] := by first | (simp [entryFrame, mkF, argsToLocals, Value.category]; done) | rfl
def Q_len (Z : State) (b : Addr) (t : Addr) (cs : List Int32) (G1 : Int32) (h0 : Heap) (n0 : Nat) (v : Option Value) (h : Heap) (L : List Loc) : Prop := v = some (.int (Int32.ofNat cs.length)) ∧ Fr n0 L ∧ h = h0
set_option maxRecDepth 65536 in
set_option maxHeartbeats 40000000 in
theorem rm_len (l : Launch) (Z : State) (a0 : Array Value) (hw : ∀ d ∈ tables_1, d.before a0 Z = true) (ws : List Jvm.Cond) (b : Addr) (t : Addr) (cs : List Int32) (G1 : Int32) (h0 : Heap) (n0 : Nat) (O : Old Z n0 h0) (A_b : Own.ST Z h0 b t cs) (hcs : Own.Shp cs) (O2 : Sta Z Z.heap "java/lang/String" "COMPACT_STRINGS" "Z" (.int G1)) (P5 : ¬ (G1 = (0 : Int32))) :
    MetFree l (⟨"java/lang/String", "length", "()I"⟩ : MethodName) (head1 (Jvm.Cond.code (⟨"java/lang/String", "length", "()I"⟩ : MethodName) jdk_42_method_54_code 1 (some .int) :: ws) ({ frames := 1, cells := 0, slots := 0, locals := 20 } : Room)) (fun aa U => aa = #[.ref b] ∧ Z.Warmed39 U.vm ∧ U.heap = h0) (fun _ _ _ _ _ => True) (fun _ U o U' => Own.End U (Q_len Z b t cs G1 h0 n0) 0 0 o U') := by
  refine MetFree.of_bodySF (plainFor_of_name pn_0) hisR ?_
  intro p e s m args below meth c s₁ Bd hml0 hP hK
  obtain ⟨rfl, hZ, hh⟩ := hP
  have hx := Bd.exec
  have hby := Bd.bytes
  have hml : c.maxLocals = 1 := hml0
  have hown : s.vm.findClass "java/lang/String" = some m.cls := findClass_of_methodNamed Bd.named
  have hnm := (name_of_methodNamed Bd.named Bd.method).1
  have hret := Bd.returns
  have hlocks : meth.locks = false := Bd.notSynchronized
  have X0 : Stand p l e ({ frames := 1, cells := 0, slots := 0, locals := 20 } : Room) s m #[.ref b] below meth c s₁ [] 0 0 := Stand.of_body Bd
  have e0 : s₁.heap = h0 := by rw [← hh, Bd.state]; rfl
  have N0 := Fr.nil n0
  show Own.Go p e below (Own.End s (Q_len Z b t cs G1 h0 n0) 0 0) (s₁.setTop (entryFrame m #[.ref b] 1))
  refine Own.Go.eq (ef_len m b) ?_
  obtain ⟨E_b, F_b_value, ⟨F_b_coder, hL, kt, V_t⟩ | ⟨F_b_coder, kt, V_t⟩⟩ := A_b
  · refine Own.g_aloadN X0 hx (hb hby d10_0) rfl rfl 1 rfl ?_
    refine Own.g_getF X0 hx hZ hown (host := "") (Or.inl (hw _ (List.mem_of_getElem? (i := 28) rfl))) Via.refl e0 F_b_value (hb hby d10_1) 4 rfl ?_
    intro T1 X1 e1
    refine Own.g_alen X1 hx hZ e1 V_t (hb hby d10_4) 5 rfl ?_
    refine Own.g_aloadN X1 hx (hb hby d10_5) rfl rfl 6 rfl ?_
    refine Own.g_virtual X1 hx hZ (y := (⟨"java/lang/String", "coder", "()B"⟩ : MethodName)) (z := (⟨"java/lang/String", "coder", "()B"⟩ : MethodName)) hown (mvT hZ (hw _ (List.mem_of_getElem? (i := 50) rfl))) (mvT hZ (hw _ (List.mem_of_getElem? (i := 51) rfl))) (notFace_of_selects (args := #[]) (mvT hZ (hw _ (List.mem_of_getElem? (i := 53) rfl)))) (mvT hZ (hw _ (List.mem_of_getElem? (i := 53) rfl))) (mvT hZ (hw _ (List.mem_of_getElem? (i := 52) rfl))) (by decide) (a := b) [] (Own.back (W := 1) (rm_cod0 l Z a0 hw [] b G1 h0 n0 O O2 P5 F_b_coder) hZ (hw _ (List.mem_of_getElem? (i := 54) rfl)) (hw _ (List.mem_of_getElem? (i := 10) rfl)) (by decide) (by decide)) E_b e1 (by rw [hml]; rfl) [(.int (Int32.ofNat cs.length))] (lenOf pd_12 rfl) rfl (Nat.le_of_ble_eq_true rfl) (hb hby d10_6) (by decide) (by decide) 9 rfl ?_
    rintro _ T2 L2 X2 ⟨rfl, N2q, eH2⟩
    have N2 := Fr.app N0 N2q
    show Own.Go p e below _ (T2.setTop (mkF m 9 #[.val (.ref b)] [(.int (0 : Int32)), (.int (Int32.ofNat cs.length))]))
    refine Own.g_ishr X2 hx (hb hby d10_9) 10 rfl ?_
    refine Own.g_ret X2 hx hret hlocks rfl (Or.inl ⟨rfl, by simp, _, rfl⟩) (hb hby d10_10) (by decide) (by decide) eH2 ?_
    exact ⟨congrArg (fun q => some (Value.int q)) (Own.shr0 _), N2, rfl⟩
  · refine Own.g_aloadN X0 hx (hb hby d10_0) rfl rfl 1 rfl ?_
    refine Own.g_getF X0 hx hZ hown (host := "") (Or.inl (hw _ (List.mem_of_getElem? (i := 28) rfl))) Via.refl e0 F_b_value (hb hby d10_1) 4 rfl ?_
    intro T3 X3 e3
    refine Own.g_alen X3 hx hZ e3 V_t (hb hby d10_4) 5 rfl ?_
    refine Own.g_aloadN X3 hx (hb hby d10_5) rfl rfl 6 rfl ?_
    refine Own.g_virtual X3 hx hZ (y := (⟨"java/lang/String", "coder", "()B"⟩ : MethodName)) (z := (⟨"java/lang/String", "coder", "()B"⟩ : MethodName)) hown (mvT hZ (hw _ (List.mem_of_getElem? (i := 50) rfl))) (mvT hZ (hw _ (List.mem_of_getElem? (i := 51) rfl))) (notFace_of_selects (args := #[]) (mvT hZ (hw _ (List.mem_of_getElem? (i := 53) rfl)))) (mvT hZ (hw _ (List.mem_of_getElem? (i := 53) rfl))) (mvT hZ (hw _ (List.mem_of_getElem? (i := 52) rfl))) (by decide) (a := b) [] (Own.back (W := 1) (rm_cod1 l Z a0 hw [] b G1 h0 n0 O O2 P5 F_b_coder) hZ (hw _ (List.mem_of_getElem? (i := 54) rfl)) (hw _ (List.mem_of_getElem? (i := 10) rfl)) (by decide) (by decide)) E_b e3 (by rw [hml]; rfl) [(.int (Int32.ofNat (2 * cs.length)))] (lenOf pd_12 rfl) rfl (Nat.le_of_ble_eq_true rfl) (hb hby d10_6) (by decide) (by decide) 9 rfl ?_
    rintro _ T4 L4 X4 ⟨rfl, N4q, eH4⟩
    have N4 := Fr.app N0 N4q
    show Own.Go p e below _ (T4.setTop (mkF m 9 #[.val (.ref b)] [(.int (1 : Int32)), (.int (Int32.ofNat (2 * cs.length)))]))
    refine Own.g_ishr X4 hx (hb hby d10_9) 10 rfl ?_
    refine Own.g_ret X4 hx hret hlocks rfl (Or.inl ⟨rfl, by simp, _, rfl⟩) (hb hby d10_10) (by decide) (by decide) eH4 ?_
    exact ⟨by rcases hcs with rfl | ⟨x, rfl, -⟩ | ⟨x, y, rfl, -, -⟩ <;> first | exact congrArg (fun q => some (Value.int q)) (show Int32.ofNat (2 * 0) >>> ((1 : Int32) &&& 31) = Int32.ofNat 0 from by decide) | exact congrArg (fun q => some (Value.int q)) (show Int32.ofNat (2 * 1) >>> ((1 : Int32) &&& 31) = Int32.ofNat 1 from by decide) | exact congrArg (fun q => some (Value.int q)) (show Int32.ofNat (2 * 2) >>> ((1 : Int32) &&& 31) = Int32.ofNat 2 from by decide), N4, rfl⟩
theorem ef_cq4_10 (m : MethodId) (x0 : Addr) (x1 : Int32) (x2 : Int32) (x3 : Int32) : entryFrame m #[.ref x0, .int x1, .int x2, .int x3] 6 = mkF m 0 #[.val (.ref x0), .val (.int x1), .val (.int x2), .val (.int x3), .unset, .unset] [] := by first | (simp [entryFrame, mkF, argsToLocals, Value.category]; done) | rfl
def Q_cq4_10 (Z : State) (r : Addr) (kr : ClassId) (x0 : Int32) (h0 : Heap) (n0 : Nat) (v : Option Value) (h : Heap) (L : List Loc) : Prop := v = some (.int x0) ∧ Fr n0 L ∧ h = h0
set_option maxRecDepth 65536 in
set_option maxHeartbeats 40000000 in
theorem rm_cq4_10 (l : Launch) (Z : State) (a0 : Array Value) (hw : ∀ d ∈ tables_1, d.before a0 Z = true) (ws : List Jvm.Cond) (r : Addr) (kr : ClassId) (x0 : Int32) (h0 : Heap) (n0 : Nat) (O : Old Z n0 h0) (V_r : Arv Z h0 r kr .byte 2 [(.int ((x0 >>> ((0 : Int32) &&& 31)).toInt8.toInt32)), (.int ((x0 >>> ((8 : Int32) &&& 31)).toInt8.toInt32))] (.int 0)) (C_x0 : Own.Ch x0) (SA : Sta Z Z.heap "java/lang/StringUTF16" "$assertionsDisabled" "Z" (.int 1)) (SHI : Sta Z Z.heap "java/lang/StringUTF16" "HI_BYTE_SHIFT" "I" (.int 0)) (SLO : Sta Z Z.heap "java/lang/StringUTF16" "LO_BYTE_SHIFT" "I" (.int 8)) :
    MetFree l (⟨"java/lang/StringUTF16", "codePointAt", "([BIIZ)I"⟩ : MethodName) (head1 (Jvm.Cond.code (⟨"java/lang/StringUTF16", "codePointAt", "([BIIZ)I"⟩ : MethodName) jdk_52_method_7_code 6 (some .int) :: ws) ({ frames := 1, cells := 0, slots := 0, locals := 20 } : Room)) (fun aa U => aa = #[.ref r, .int (0 : Int32), .int (1 : Int32), .int (0 : Int32)] ∧ Z.Warmed39 U.vm ∧ U.heap = h0) (fun _ _ _ _ _ => True) (fun _ U o U' => Own.End U (Q_cq4_10 Z r kr x0 h0 n0) 0 0 o U') := by
  refine MetFree.of_bodySF (plainFor_of_name pn_5) hisR ?_
  intro p e s m args below meth c s₁ Bd hml0 hP hK
  obtain ⟨rfl, hZ, hh⟩ := hP
  have hx := Bd.exec
  have hby := Bd.bytes
  have hml : c.maxLocals = 6 := hml0
  have hown : s.vm.findClass "java/lang/StringUTF16" = some m.cls := findClass_of_methodNamed Bd.named
  have hnm := (name_of_methodNamed Bd.named Bd.method).1
  have hret := Bd.returns
  have hlocks : meth.locks = false := Bd.notSynchronized
  have X0 : Stand p l e ({ frames := 1, cells := 0, slots := 0, locals := 20 } : Room) s m #[.ref r, .int (0 : Int32), .int (1 : Int32), .int (0 : Int32)] below meth c s₁ [] 0 0 := Stand.of_body Bd
  have e0 : s₁.heap = h0 := by rw [← hh, Bd.state]; rfl
  have N0 := Fr.nil n0
  show Own.Go p e below (Own.End s (Q_cq4_10 Z r kr x0 h0 n0) 0 0) (s₁.setTop (entryFrame m #[.ref r, .int (0 : Int32), .int (1 : Int32), .int (0 : Int32)] 6))
  refine Own.Go.eq (ef_cq4_10 m r (0 : Int32) (1 : Int32) (0 : Int32)) ?_
  refine Own.g_getS X0 hx hZ hown (host := "") (Or.inl (hw _ (List.mem_of_getElem? (i := 84) rfl))) Via.refl e0 (SA.ext O.2) (hb hby d29_0) 3 rfl ?_
  intro T1 X1 e1
  refine Own.g_if_ne_t X1 hx (hb hby d29_3) (by decide) 19 (by decide) ?_
  refine Own.g_iloadN X1 hx (hb hby d29_19) rfl 20 rfl ?_
  refine Own.g_if_eq_t X1 hx (hb hby d29_20) rfl 28 (by decide) ?_
  refine Own.g_aloadN X1 hx (hb hby d29_28) rfl rfl 29 rfl ?_
  refine Own.g_iloadN X1 hx (hb hby d29_29) rfl 30 rfl ?_
  refine Own.g_callS X1 hx (y := (⟨"java/lang/StringUTF16", "getChar", "([BI)C"⟩ : MethodName)) hown (mvT hZ (hw _ (List.mem_of_getElem? (i := 87) rfl))) (mvT hZ (hw _ (List.mem_of_getElem? (i := 88) rfl))) (mvT hZ (hw _ (List.mem_of_getElem? (i := 66) rfl))) (mvT hZ (hw _ (List.mem_of_getElem? (i := 89) rfl))) (by decide) [.ref r, .int (0 : Int32)] (Own.back (W := 0) (rm_gch10 l Z a0 hw [] r kr x0 h0 n0 O V_r C_x0 SA SHI SLO) hZ (hw _ (List.mem_of_getElem? (i := 89) rfl)) (hw _ (List.mem_of_getElem? (i := 66) rfl)) (by decide) (by decide)) e1 (by rw [hml]; rfl) [] (lenOf pd_7 rfl) rfl (Nat.le_of_ble_eq_true rfl) (hb hby d29_30) (by decide) (by decide) 33 rfl ?_
  rintro _ T2 L2 X2 ⟨rfl, N2q, eH2⟩
  have N2 := Fr.app N0 N2q
  show Own.Go p e below _ (T2.setTop (mkF m 33 #[.val (.ref r), .val (.int (0 : Int32)), .val (.int (1 : Int32)), .val (.int (0 : Int32)), .unset, .unset] [(.int x0)]))
  refine Own.g_istore X2 hx #[.val (.ref r), .val (.int (0 : Int32)), .val (.int (1 : Int32)), .val (.int (0 : Int32)), .val (.int x0), .unset] (hb hby d29_33) rfl 35 rfl ?_
  refine Own.g_iload X2 hx (hb hby d29_35) rfl 37 rfl ?_
  refine Own.g_callS X2 hx (y := (⟨"java/lang/Character", "isHighSurrogate", "(C)Z"⟩ : MethodName)) hown (mvT hZ (hw _ (List.mem_of_getElem? (i := 128) rfl))) (mvT hZ (hw _ (List.mem_of_getElem? (i := 129) rfl))) (mvT hZ (hw _ (List.mem_of_getElem? (i := 130) rfl))) (mvT hZ (hw _ (List.mem_of_getElem? (i := 131) rfl))) (by decide) [.int x0] (Own.back (W := 0) (rm_hsu l Z a0 hw [] x0 h0 n0 O ) hZ (hw _ (List.mem_of_getElem? (i := 131) rfl)) (hw _ (List.mem_of_getElem? (i := 130) rfl)) (by decide) (by decide)) eH2 (by rw [hml]; rfl) [] (lenOf pd_10 rfl) rfl (Nat.le_of_ble_eq_true rfl) (hb hby d29_37) (by decide) (by decide) 40 rfl ?_
  rintro _ T3 L3 X3 ⟨rfl, N3q, eH3⟩
  have N3 := Fr.app N2 N3q
  show Own.Go p e below _ (T3.setTop (mkF m 40 #[.val (.ref r), .val (.int (0 : Int32)), .val (.int (1 : Int32)), .val (.int (0 : Int32)), .val (.int x0), .unset] [(.int (if ¬ x0 < 55296 ∧ x0 < 56320 then 1 else 0))]))
  refine Own.g_if_eq X3 hx (hb hby d29_40) 83 43 (by decide) rfl ?_ ?_
  · intro hq1
    refine Own.g_iload X3 hx (hb hby d29_83) rfl 85 rfl ?_
    refine Own.g_ret X3 hx hret hlocks rfl (Or.inl ⟨rfl, by simp, _, rfl⟩) (hb hby d29_85) (by decide) (by decide) eH3 ?_
    exact ⟨rfl, N3, rfl⟩
  · intro hq1
    refine Own.g_iinc X3 hx #[.val (.ref r), .val (.int (1 : Int32)), .val (.int (1 : Int32)), .val (.int (0 : Int32)), .val (.int x0), .unset] (hb hby d29_43) rfl rfl 46 rfl ?_
    refine Own.g_iloadN X3 hx (hb hby d29_46) rfl 47 rfl ?_
    refine Own.g_iloadN X3 hx (hb hby d29_47) rfl 48 rfl ?_
    refine Own.g_icmp_ge_t X3 hx (hb hby d29_48) (by decide) 83 (by decide) ?_
    refine Own.g_iload X3 hx (hb hby d29_83) rfl 85 rfl ?_
    refine Own.g_ret X3 hx hret hlocks rfl (Or.inl ⟨rfl, by simp, _, rfl⟩) (hb hby d29_85) (by decide) (by decide) eH3 ?_
    exact ⟨rfl, N3, rfl⟩
theorem ef_cq3_10 (m : MethodId) (x0 : Addr) (x1 : Int32) (x2 : Int32) : entryFrame m #[.ref x0, .int x1, .int x2] 3 = mkF m 0 #[.val (.ref x0), .val (.int x1), .val (.int x2)] [] := by first | (simp [entryFrame, mkF, argsToLocals, Value.category]; done) | rfl
def Q_cq3_10 (Z : State) (r : Addr) (kr : ClassId) (x0 : Int32) (h0 : Heap) (n0 : Nat) (v : Option Value) (h : Heap) (L : List Loc) : Prop := v = some (.int x0) ∧ Fr n0 L ∧ h = h0
set_option maxRecDepth 65536 in
set_option maxHeartbeats 40000000 in
theorem rm_cq3_10 (l : Launch) (Z : State) (a0 : Array Value) (hw : ∀ d ∈ tables_1, d.before a0 Z = true) (ws : List Jvm.Cond) (r : Addr) (kr : ClassId) (x0 : Int32) (h0 : Heap) (n0 : Nat) (O : Old Z n0 h0) (V_r : Arv Z h0 r kr .byte 2 [(.int ((x0 >>> ((0 : Int32) &&& 31)).toInt8.toInt32)), (.int ((x0 >>> ((8 : Int32) &&& 31)).toInt8.toInt32))] (.int 0)) (C_x0 : Own.Ch x0) (SA : Sta Z Z.heap "java/lang/StringUTF16" "$assertionsDisabled" "Z" (.int 1)) (SHI : Sta Z Z.heap "java/lang/StringUTF16" "HI_BYTE_SHIFT" "I" (.int 0)) (SLO : Sta Z Z.heap "java/lang/StringUTF16" "LO_BYTE_SHIFT" "I" (.int 8)) :
    MetFree l (⟨"java/lang/StringUTF16", "codePointAt", "([BII)I"⟩ : MethodName) (head1 (Jvm.Cond.code (⟨"java/lang/StringUTF16", "codePointAt", "([BII)I"⟩ : MethodName) jdk_52_method_8_code 3 (some .int) :: ws) ({ frames := 2, cells := 0, slots := 0, locals := 44 } : Room)) (fun aa U => aa = #[.ref r, .int (0 : Int32), .int (1 : Int32)] ∧ Z.Warmed39 U.vm ∧ U.heap = h0) (fun _ _ _ _ _ => True) (fun _ U o U' => Own.End U (Q_cq3_10 Z r kr x0 h0 n0) 0 0 o U') := by
  refine MetFree.of_bodySF (plainFor_of_name pn_5) hisR ?_
  intro p e s m args below meth c s₁ Bd hml0 hP hK
  obtain ⟨rfl, hZ, hh⟩ := hP
  have hx := Bd.exec
  have hby := Bd.bytes
  have hml : c.maxLocals = 3 := hml0
  have hown : s.vm.findClass "java/lang/StringUTF16" = some m.cls := findClass_of_methodNamed Bd.named
  have hnm := (name_of_methodNamed Bd.named Bd.method).1
  have hret := Bd.returns
  have hlocks : meth.locks = false := Bd.notSynchronized
  have X0 : Stand p l e ({ frames := 2, cells := 0, slots := 0, locals := 44 } : Room) s m #[.ref r, .int (0 : Int32), .int (1 : Int32)] below meth c s₁ [] 0 0 := Stand.of_body Bd
  have e0 : s₁.heap = h0 := by rw [← hh, Bd.state]; rfl
  have N0 := Fr.nil n0
  show Own.Go p e below (Own.End s (Q_cq3_10 Z r kr x0 h0 n0) 0 0) (s₁.setTop (entryFrame m #[.ref r, .int (0 : Int32), .int (1 : Int32)] 3))
  refine Own.Go.eq (ef_cq3_10 m r (0 : Int32) (1 : Int32)) ?_
  refine Own.g_aloadN X0 hx (hb hby d28_0) rfl rfl 1 rfl ?_
  refine Own.g_iloadN X0 hx (hb hby d28_1) rfl 2 rfl ?_
  refine Own.g_iloadN X0 hx (hb hby d28_2) rfl 3 rfl ?_
  refine Own.g_iconst X0 hx (0 : Int32) (hb hby d28_3) rfl 4 rfl ?_
  refine Own.g_callS X0 hx (y := (⟨"java/lang/StringUTF16", "codePointAt", "([BIIZ)I"⟩ : MethodName)) hown (mvT hZ (hw _ (List.mem_of_getElem? (i := 125) rfl))) (mvT hZ (hw _ (List.mem_of_getElem? (i := 126) rfl))) (mvT hZ (hw _ (List.mem_of_getElem? (i := 66) rfl))) (mvT hZ (hw _ (List.mem_of_getElem? (i := 127) rfl))) (by decide) [.ref r, .int (0 : Int32), .int (1 : Int32), .int (0 : Int32)] (Own.back (W := 0) (rm_cq4_10 l Z a0 hw [] r kr x0 h0 n0 O V_r C_x0 SA SHI SLO) hZ (hw _ (List.mem_of_getElem? (i := 127) rfl)) (hw _ (List.mem_of_getElem? (i := 66) rfl)) (by decide) (by decide)) e0 (by rw [hml]; rfl) [] (lenOf pd_13 rfl) rfl (Nat.le_of_ble_eq_true rfl) (hb hby d28_4) (by decide) (by decide) 7 rfl ?_
  rintro _ T1 L1 X1 ⟨rfl, N1q, eH1⟩
  have N1 := Fr.app N0 N1q
  show Own.Go p e below _ (T1.setTop (mkF m 7 #[.val (.ref r), .val (.int (0 : Int32)), .val (.int (1 : Int32))] [(.int x0)]))
  refine Own.g_ret X1 hx hret hlocks rfl (Or.inl ⟨rfl, by simp, _, rfl⟩) (hb hby d28_7) (by decide) (by decide) eH1 ?_
  exact ⟨rfl, N1, rfl⟩
theorem ef_cpa_10 (m : MethodId) (x0 : Addr) (x1 : Int32) : entryFrame m #[.ref x0, .int x1] 3 = mkF m 0 #[.val (.ref x0), .val (.int x1), .unset] [] := by first | (simp [entryFrame, mkF, argsToLocals, Value.category]; done) | rfl
def Q_cpa_10 (Z : State) (b : Addr) (t : Addr) (x0 : Int32) (G1 : Int32) (G3 : Value) (h0 : Heap) (n0 : Nat) (v : Option Value) (h : Heap) (L : List Loc) : Prop := v = some (.int x0) ∧ Fr n0 L ∧ h = h0
set_option maxRecDepth 65536 in
set_option maxHeartbeats 40000000 in
theorem rm_cpa_10 (l : Launch) (Z : State) (a0 : Array Value) (hw : ∀ d ∈ tables_1, d.before a0 Z = true) (ws : List Jvm.Cond) (b : Addr) (t : Addr) (x0 : Int32) (G1 : Int32) (G3 : Value) (h0 : Heap) (n0 : Nat) (O : Old Z n0 h0) (A_b : Own.ST Z h0 b t [x0]) (C_x0 : Own.Ch x0) (SA : Sta Z Z.heap "java/lang/StringUTF16" "$assertionsDisabled" "Z" (.int 1)) (SHI : Sta Z Z.heap "java/lang/StringUTF16" "HI_BYTE_SHIFT" "I" (.int 0)) (SLO : Sta Z Z.heap "java/lang/StringUTF16" "LO_BYTE_SHIFT" "I" (.int 8)) (O2 : Sta Z Z.heap "java/lang/String" "COMPACT_STRINGS" "Z" (.int G1)) (P5 : ¬ (G1 = (0 : Int32))) (O4 : Sta Z Z.heap "jdk/internal/util/Preconditions" "SIOOBE_FORMATTER" "Ljava/util/function/BiFunction;" G3) (rG3 : G3.isRef = true) :
    MetFree l (⟨"java/lang/String", "codePointAt", "(I)I"⟩ : MethodName) (head1 (Jvm.Cond.code (⟨"java/lang/String", "codePointAt", "(I)I"⟩ : MethodName) jdk_42_method_57_code 3 (some .int) :: ws) ({ frames := 3, cells := 0, slots := 0, locals := 66 } : Room)) (fun aa U => aa = #[.ref b, .int (0 : Int32)] ∧ Z.Warmed39 U.vm ∧ U.heap = h0) (fun _ _ _ _ _ => True) (fun _ U o U' => Own.End U (Q_cpa_10 Z b t x0 G1 G3 h0 n0) 0 0 o U') := by
  refine MetFree.of_bodySF (plainFor_of_name pn_0) hisR ?_
  intro p e s m args below meth c s₁ Bd hml0 hP hK
  obtain ⟨rfl, hZ, hh⟩ := hP
  have hx := Bd.exec
  have hby := Bd.bytes
  have hml : c.maxLocals = 3 := hml0
  have hown : s.vm.findClass "java/lang/String" = some m.cls := findClass_of_methodNamed Bd.named
  have hnm := (name_of_methodNamed Bd.named Bd.method).1
  have hret := Bd.returns
  have hlocks : meth.locks = false := Bd.notSynchronized
  have X0 : Stand p l e ({ frames := 3, cells := 0, slots := 0, locals := 66 } : Room) s m #[.ref b, .int (0 : Int32)] below meth c s₁ [] 0 0 := Stand.of_body Bd
  have e0 : s₁.heap = h0 := by rw [← hh, Bd.state]; rfl
  have N0 := Fr.nil n0
  show Own.Go p e below (Own.End s (Q_cpa_10 Z b t x0 G1 G3 h0 n0) 0 0) (s₁.setTop (entryFrame m #[.ref b, .int (0 : Int32)] 3))
  refine Own.Go.eq (ef_cpa_10 m b (0 : Int32)) ?_
  obtain ⟨E_b, F_b_value, ⟨F_b_coder, hL, kt, V_t⟩ | ⟨F_b_coder, kt, V_t⟩⟩ := A_b
  · replace V_t : Arv Z h0 t kt .byte 1 [(.int (x0.toInt8.toInt32))] (.int 0) := V_t
    refine Own.g_aloadN X0 hx (hb hby d24_0) rfl rfl 1 rfl ?_
    refine Own.g_virtual X0 hx hZ (y := (⟨"java/lang/String", "isLatin1", "()Z"⟩ : MethodName)) (z := (⟨"java/lang/String", "isLatin1", "()Z"⟩ : MethodName)) hown (mvT hZ (hw _ (List.mem_of_getElem? (i := 109) rfl))) (mvT hZ (hw _ (List.mem_of_getElem? (i := 110) rfl))) (notFace_of_selects (args := #[]) (mvT hZ (hw _ (List.mem_of_getElem? (i := 112) rfl)))) (mvT hZ (hw _ (List.mem_of_getElem? (i := 112) rfl))) (mvT hZ (hw _ (List.mem_of_getElem? (i := 111) rfl))) (by decide) (a := b) [] (Own.back (W := 0) (rm_isl0 l Z a0 hw [] b G1 h0 n0 O O2 P5 F_b_coder) hZ (hw _ (List.mem_of_getElem? (i := 113) rfl)) (hw _ (List.mem_of_getElem? (i := 10) rfl)) (by decide) (by decide)) E_b e0 (by rw [hml]; rfl) [] (lenOf pd_14 rfl) rfl (Nat.le_of_ble_eq_true rfl) (hb hby d24_1) (by decide) (by decide) 4 rfl ?_
    rintro _ T1 L1 X1 ⟨rfl, N1q, eH1⟩
    have N1 := Fr.app N0 N1q
    show Own.Go p e below _ (T1.setTop (mkF m 4 #[.val (.ref b), .val (.int (0 : Int32)), .unset] [(.int (1 : Int32))]))
    refine Own.g_if_eq_f X1 hx (hb hby d24_4) (by decide) 7 rfl ?_
    refine Own.g_iloadN X1 hx (hb hby d24_7) rfl 8 rfl ?_
    refine Own.g_aloadN X1 hx (hb hby d24_8) rfl rfl 9 rfl ?_
    refine Own.g_getF X1 hx hZ hown (host := "") (Or.inl (hw _ (List.mem_of_getElem? (i := 28) rfl))) Via.refl eH1 F_b_value (hb hby d24_9) 12 rfl ?_
    intro T2 X2 e2
    refine Own.g_alen X2 hx hZ e2 V_t (hb hby d24_12) 13 rfl ?_
    refine Own.g_callS X2 hx (y := (⟨"java/lang/String", "checkIndex", "(II)V"⟩ : MethodName)) hown (mvT hZ (hw _ (List.mem_of_getElem? (i := 114) rfl))) (mvT hZ (hw _ (List.mem_of_getElem? (i := 115) rfl))) (mvT hZ (hw _ (List.mem_of_getElem? (i := 10) rfl))) (mvT hZ (hw _ (List.mem_of_getElem? (i := 116) rfl))) (by decide) [.int (0 : Int32), .int (1 : Int32)] (Own.back (W := 0) (rm_cki l Z a0 hw [] (0 : Int32) (1 : Int32) G3 h0 n0 O O4 rG3 (by decide) (by decide)) hZ (hw _ (List.mem_of_getElem? (i := 116) rfl)) (hw _ (List.mem_of_getElem? (i := 10) rfl)) (by decide) (by decide)) e2 (by rw [hml]; rfl) [] (lenOf pd_15 rfl) rfl (Nat.le_of_ble_eq_true rfl) (hb hby d24_13) (by decide) (by decide) 16 rfl ?_
    rintro _ T3 L3 X3 ⟨rfl, N3q, eH3⟩
    have N3 := Fr.app N1 N3q
    show Own.Go p e below _ (T3.setTop (mkF m 16 #[.val (.ref b), .val (.int (0 : Int32)), .unset] []))
    refine Own.g_aloadN X3 hx (hb hby d24_16) rfl rfl 17 rfl ?_
    refine Own.g_getF X3 hx hZ hown (host := "") (Or.inl (hw _ (List.mem_of_getElem? (i := 28) rfl))) Via.refl eH3 F_b_value (hb hby d24_17) 20 rfl ?_
    intro T4 X4 e4
    refine Own.g_iloadN X4 hx (hb hby d24_20) rfl 21 rfl ?_
    refine Own.g_ldB X4 hx hZ e4 V_t (by decide) (x0.toInt8.toInt32) rfl (hb hby d24_21) 22 rfl ?_
    refine Own.g_sipush X4 hx (255 : Int32) (hb hby d24_22) rfl 25 rfl ?_
    refine Own.g_iand X4 hx (hb hby d24_25) 26 rfl ?_
    have L_j : Own.Lat x0 := hL x0 (by simp)
    rw [Own.lo_lat L_j]
    show Own.Go p e below _ (T4.setTop (mkF m 26 #[.val (.ref b), .val (.int (0 : Int32)), .unset] [(.int x0)]))
    refine Own.g_ret X4 hx hret hlocks rfl (Or.inl ⟨rfl, by simp, _, rfl⟩) (hb hby d24_26) (by decide) (by decide) e4 ?_
    exact ⟨rfl, N3, rfl⟩
  · replace V_t : Arv Z h0 t kt .byte 2 [(.int ((x0 >>> ((0 : Int32) &&& 31)).toInt8.toInt32)), (.int ((x0 >>> ((8 : Int32) &&& 31)).toInt8.toInt32))] (.int 0) := V_t
    refine Own.g_aloadN X0 hx (hb hby d24_0) rfl rfl 1 rfl ?_
    refine Own.g_virtual X0 hx hZ (y := (⟨"java/lang/String", "isLatin1", "()Z"⟩ : MethodName)) (z := (⟨"java/lang/String", "isLatin1", "()Z"⟩ : MethodName)) hown (mvT hZ (hw _ (List.mem_of_getElem? (i := 109) rfl))) (mvT hZ (hw _ (List.mem_of_getElem? (i := 110) rfl))) (notFace_of_selects (args := #[]) (mvT hZ (hw _ (List.mem_of_getElem? (i := 112) rfl)))) (mvT hZ (hw _ (List.mem_of_getElem? (i := 112) rfl))) (mvT hZ (hw _ (List.mem_of_getElem? (i := 111) rfl))) (by decide) (a := b) [] (Own.back (W := 0) (rm_isl1 l Z a0 hw [] b G1 h0 n0 O O2 P5 F_b_coder) hZ (hw _ (List.mem_of_getElem? (i := 113) rfl)) (hw _ (List.mem_of_getElem? (i := 10) rfl)) (by decide) (by decide)) E_b e0 (by rw [hml]; rfl) [] (lenOf pd_14 rfl) rfl (Nat.le_of_ble_eq_true rfl) (hb hby d24_1) (by decide) (by decide) 4 rfl ?_
    rintro _ T5 L5 X5 ⟨rfl, N5q, eH5⟩
    have N5 := Fr.app N0 N5q
    show Own.Go p e below _ (T5.setTop (mkF m 4 #[.val (.ref b), .val (.int (0 : Int32)), .unset] [(.int (0 : Int32))]))
    refine Own.g_if_eq_t X5 hx (hb hby d24_4) rfl 27 (by decide) ?_
    refine Own.g_aloadN X5 hx (hb hby d24_27) rfl rfl 28 rfl ?_
    refine Own.g_getF X5 hx hZ hown (host := "") (Or.inl (hw _ (List.mem_of_getElem? (i := 28) rfl))) Via.refl eH5 F_b_value (hb hby d24_28) 31 rfl ?_
    intro T6 X6 e6
    refine Own.g_alen X6 hx hZ e6 V_t (hb hby d24_31) 32 rfl ?_
    refine Own.g_iconst X6 hx (1 : Int32) (hb hby d24_32) rfl 33 rfl ?_
    refine Own.g_ishr X6 hx (hb hby d24_33) 34 rfl ?_
    rw [show ((2 : Int32) >>> ((1 : Int32) &&& 31)) = (1 : Int32) from by decide]
    refine Own.g_istoreN X6 hx #[.val (.ref b), .val (.int (0 : Int32)), .val (.int (1 : Int32))] (hb hby d24_34) rfl 35 rfl ?_
    refine Own.g_iloadN X6 hx (hb hby d24_35) rfl 36 rfl ?_
    refine Own.g_iloadN X6 hx (hb hby d24_36) rfl 37 rfl ?_
    refine Own.g_callS X6 hx (y := (⟨"java/lang/String", "checkIndex", "(II)V"⟩ : MethodName)) hown (mvT hZ (hw _ (List.mem_of_getElem? (i := 114) rfl))) (mvT hZ (hw _ (List.mem_of_getElem? (i := 115) rfl))) (mvT hZ (hw _ (List.mem_of_getElem? (i := 10) rfl))) (mvT hZ (hw _ (List.mem_of_getElem? (i := 116) rfl))) (by decide) [.int (0 : Int32), .int (1 : Int32)] (Own.back (W := 0) (rm_cki l Z a0 hw [] (0 : Int32) (1 : Int32) G3 h0 n0 O O4 rG3 (by decide) (by decide)) hZ (hw _ (List.mem_of_getElem? (i := 116) rfl)) (hw _ (List.mem_of_getElem? (i := 10) rfl)) (by decide) (by decide)) e6 (by rw [hml]; rfl) [] (lenOf pd_15 rfl) rfl (Nat.le_of_ble_eq_true rfl) (hb hby d24_37) (by decide) (by decide) 40 rfl ?_
    rintro _ T7 L7 X7 ⟨rfl, N7q, eH7⟩
    have N7 := Fr.app N5 N7q
    show Own.Go p e below _ (T7.setTop (mkF m 40 #[.val (.ref b), .val (.int (0 : Int32)), .val (.int (1 : Int32))] []))
    refine Own.g_aloadN X7 hx (hb hby d24_40) rfl rfl 41 rfl ?_
    refine Own.g_getF X7 hx hZ hown (host := "") (Or.inl (hw _ (List.mem_of_getElem? (i := 28) rfl))) Via.refl eH7 F_b_value (hb hby d24_41) 44 rfl ?_
    intro T8 X8 e8
    refine Own.g_iloadN X8 hx (hb hby d24_44) rfl 45 rfl ?_
    refine Own.g_iloadN X8 hx (hb hby d24_45) rfl 46 rfl ?_
    refine Own.g_callS X8 hx (y := (⟨"java/lang/StringUTF16", "codePointAt", "([BII)I"⟩ : MethodName)) hown (mvT hZ (hw _ (List.mem_of_getElem? (i := 122) rfl))) (mvT hZ (hw _ (List.mem_of_getElem? (i := 123) rfl))) (mvT hZ (hw _ (List.mem_of_getElem? (i := 66) rfl))) (mvT hZ (hw _ (List.mem_of_getElem? (i := 124) rfl))) (by decide) [.ref t, .int (0 : Int32), .int (1 : Int32)] (Own.back (W := 0) (rm_cq3_10 l Z a0 hw [] t kt x0 h0 n0 O V_t C_x0 SA SHI SLO) hZ (hw _ (List.mem_of_getElem? (i := 124) rfl)) (hw _ (List.mem_of_getElem? (i := 66) rfl)) (by decide) (by decide)) e8 (by rw [hml]; rfl) [] (lenOf pd_16 rfl) rfl (Nat.le_of_ble_eq_true rfl) (hb hby d24_46) (by decide) (by decide) 49 rfl ?_
    rintro _ T9 L9 X9 ⟨rfl, N9q, eH9⟩
    have N9 := Fr.app N7 N9q
    show Own.Go p e below _ (T9.setTop (mkF m 49 #[.val (.ref b), .val (.int (0 : Int32)), .val (.int (1 : Int32))] [(.int x0)]))
    refine Own.g_ret X9 hx hret hlocks rfl (Or.inl ⟨rfl, by simp, _, rfl⟩) (hb hby d24_49) (by decide) (by decide) eH9 ?_
    exact ⟨rfl, N9, rfl⟩
theorem ef_cq4_20 (m : MethodId) (x0 : Addr) (x1 : Int32) (x2 : Int32) (x3 : Int32) : entryFrame m #[.ref x0, .int x1, .int x2, .int x3] 6 = mkF m 0 #[.val (.ref x0), .val (.int x1), .val (.int x2), .val (.int x3), .unset, .unset] [] := by first | (simp [entryFrame, mkF, argsToLocals, Value.category]; done) | rfl
def Q_cq4_20 (Z : State) (r : Addr) (kr : ClassId) (x0 : Int32) (x1 : Int32) (h0 : Heap) (n0 : Nat) (v : Option Value) (h : Heap) (L : List Loc) : Prop := v = some (.int (Own.cpv x0 x1)) ∧ Fr n0 L ∧ h = h0
set_option maxRecDepth 65536 in
set_option maxHeartbeats 40000000 in
theorem rm_cq4_20 (l : Launch) (Z : State) (a0 : Array Value) (hw : ∀ d ∈ tables_1, d.before a0 Z = true) (ws : List Jvm.Cond) (r : Addr) (kr : ClassId) (x0 : Int32) (x1 : Int32) (h0 : Heap) (n0 : Nat) (O : Old Z n0 h0) (V_r : Arv Z h0 r kr .byte 4 [(.int ((x0 >>> ((0 : Int32) &&& 31)).toInt8.toInt32)), (.int ((x0 >>> ((8 : Int32) &&& 31)).toInt8.toInt32)), (.int ((x1 >>> ((0 : Int32) &&& 31)).toInt8.toInt32)), (.int ((x1 >>> ((8 : Int32) &&& 31)).toInt8.toInt32))] (.int 0)) (C_x0 : Own.Ch x0) (C_x1 : Own.Ch x1) (SA : Sta Z Z.heap "java/lang/StringUTF16" "$assertionsDisabled" "Z" (.int 1)) (SHI : Sta Z Z.heap "java/lang/StringUTF16" "HI_BYTE_SHIFT" "I" (.int 0)) (SLO : Sta Z Z.heap "java/lang/StringUTF16" "LO_BYTE_SHIFT" "I" (.int 8)) :
    MetFree l (⟨"java/lang/StringUTF16", "codePointAt", "([BIIZ)I"⟩ : MethodName) (head1 (Jvm.Cond.code (⟨"java/lang/StringUTF16", "codePointAt", "([BIIZ)I"⟩ : MethodName) jdk_52_method_7_code 6 (some .int) :: ws) ({ frames := 1, cells := 0, slots := 0, locals := 20 } : Room)) (fun aa U => aa = #[.ref r, .int (0 : Int32), .int (2 : Int32), .int (0 : Int32)] ∧ Z.Warmed39 U.vm ∧ U.heap = h0) (fun _ _ _ _ _ => True) (fun _ U o U' => Own.End U (Q_cq4_20 Z r kr x0 x1 h0 n0) 0 0 o U') := by
  refine MetFree.of_bodySF (plainFor_of_name pn_5) hisR ?_
  intro p e s m args below meth c s₁ Bd hml0 hP hK
  obtain ⟨rfl, hZ, hh⟩ := hP
  have hx := Bd.exec
  have hby := Bd.bytes
  have hml : c.maxLocals = 6 := hml0
  have hown : s.vm.findClass "java/lang/StringUTF16" = some m.cls := findClass_of_methodNamed Bd.named
  have hnm := (name_of_methodNamed Bd.named Bd.method).1
  have hret := Bd.returns
  have hlocks : meth.locks = false := Bd.notSynchronized
  have X0 : Stand p l e ({ frames := 1, cells := 0, slots := 0, locals := 20 } : Room) s m #[.ref r, .int (0 : Int32), .int (2 : Int32), .int (0 : Int32)] below meth c s₁ [] 0 0 := Stand.of_body Bd
  have e0 : s₁.heap = h0 := by rw [← hh, Bd.state]; rfl
  have N0 := Fr.nil n0
  show Own.Go p e below (Own.End s (Q_cq4_20 Z r kr x0 x1 h0 n0) 0 0) (s₁.setTop (entryFrame m #[.ref r, .int (0 : Int32), .int (2 : Int32), .int (0 : Int32)] 6))
  refine Own.Go.eq (ef_cq4_20 m r (0 : Int32) (2 : Int32) (0 : Int32)) ?_
  refine Own.g_getS X0 hx hZ hown (host := "") (Or.inl (hw _ (List.mem_of_getElem? (i := 84) rfl))) Via.refl e0 (SA.ext O.2) (hb hby d29_0) 3 rfl ?_
  intro T1 X1 e1
  refine Own.g_if_ne_t X1 hx (hb hby d29_3) (by decide) 19 (by decide) ?_
  refine Own.g_iloadN X1 hx (hb hby d29_19) rfl 20 rfl ?_
  refine Own.g_if_eq_t X1 hx (hb hby d29_20) rfl 28 (by decide) ?_
  refine Own.g_aloadN X1 hx (hb hby d29_28) rfl rfl 29 rfl ?_
  refine Own.g_iloadN X1 hx (hb hby d29_29) rfl 30 rfl ?_
  refine Own.g_callS X1 hx (y := (⟨"java/lang/StringUTF16", "getChar", "([BI)C"⟩ : MethodName)) hown (mvT hZ (hw _ (List.mem_of_getElem? (i := 87) rfl))) (mvT hZ (hw _ (List.mem_of_getElem? (i := 88) rfl))) (mvT hZ (hw _ (List.mem_of_getElem? (i := 66) rfl))) (mvT hZ (hw _ (List.mem_of_getElem? (i := 89) rfl))) (by decide) [.ref r, .int (0 : Int32)] (Own.back (W := 0) (rm_gch20 l Z a0 hw [] r kr x0 x1 h0 n0 O V_r C_x0 C_x1 SA SHI SLO) hZ (hw _ (List.mem_of_getElem? (i := 89) rfl)) (hw _ (List.mem_of_getElem? (i := 66) rfl)) (by decide) (by decide)) e1 (by rw [hml]; rfl) [] (lenOf pd_7 rfl) rfl (Nat.le_of_ble_eq_true rfl) (hb hby d29_30) (by decide) (by decide) 33 rfl ?_
  rintro _ T2 L2 X2 ⟨rfl, N2q, eH2⟩
  have N2 := Fr.app N0 N2q
  show Own.Go p e below _ (T2.setTop (mkF m 33 #[.val (.ref r), .val (.int (0 : Int32)), .val (.int (2 : Int32)), .val (.int (0 : Int32)), .unset, .unset] [(.int x0)]))
  refine Own.g_istore X2 hx #[.val (.ref r), .val (.int (0 : Int32)), .val (.int (2 : Int32)), .val (.int (0 : Int32)), .val (.int x0), .unset] (hb hby d29_33) rfl 35 rfl ?_
  refine Own.g_iload X2 hx (hb hby d29_35) rfl 37 rfl ?_
  refine Own.g_callS X2 hx (y := (⟨"java/lang/Character", "isHighSurrogate", "(C)Z"⟩ : MethodName)) hown (mvT hZ (hw _ (List.mem_of_getElem? (i := 128) rfl))) (mvT hZ (hw _ (List.mem_of_getElem? (i := 129) rfl))) (mvT hZ (hw _ (List.mem_of_getElem? (i := 130) rfl))) (mvT hZ (hw _ (List.mem_of_getElem? (i := 131) rfl))) (by decide) [.int x0] (Own.back (W := 0) (rm_hsu l Z a0 hw [] x0 h0 n0 O ) hZ (hw _ (List.mem_of_getElem? (i := 131) rfl)) (hw _ (List.mem_of_getElem? (i := 130) rfl)) (by decide) (by decide)) eH2 (by rw [hml]; rfl) [] (lenOf pd_10 rfl) rfl (Nat.le_of_ble_eq_true rfl) (hb hby d29_37) (by decide) (by decide) 40 rfl ?_
  rintro _ T3 L3 X3 ⟨rfl, N3q, eH3⟩
  have N3 := Fr.app N2 N3q
  show Own.Go p e below _ (T3.setTop (mkF m 40 #[.val (.ref r), .val (.int (0 : Int32)), .val (.int (2 : Int32)), .val (.int (0 : Int32)), .val (.int x0), .unset] [(.int (if ¬ x0 < 55296 ∧ x0 < 56320 then 1 else 0))]))
  refine Own.g_if_eq X3 hx (hb hby d29_40) 83 43 (by decide) rfl ?_ ?_
  · intro hq1
    refine Own.g_iload X3 hx (hb hby d29_83) rfl 85 rfl ?_
    refine Own.g_ret X3 hx hret hlocks rfl (Or.inl ⟨rfl, by simp, _, rfl⟩) (hb hby d29_85) (by decide) (by decide) eH3 ?_
    exact ⟨by unfold Own.cpv; rw [if_neg (fun q : Own.HS x0 x1 => Own.if1_eq hq1 q.1)], N3, rfl⟩
  · intro hq1
    refine Own.g_iinc X3 hx #[.val (.ref r), .val (.int (1 : Int32)), .val (.int (2 : Int32)), .val (.int (0 : Int32)), .val (.int x0), .unset] (hb hby d29_43) rfl rfl 46 rfl ?_
    refine Own.g_iloadN X3 hx (hb hby d29_46) rfl 47 rfl ?_
    refine Own.g_iloadN X3 hx (hb hby d29_47) rfl 48 rfl ?_
    refine Own.g_icmp_ge_f X3 hx (hb hby d29_48) (by decide) 51 rfl ?_
    refine Own.g_iloadN X3 hx (hb hby d29_51) rfl 52 rfl ?_
    refine Own.g_if_eq_t X3 hx (hb hby d29_52) rfl 60 (by decide) ?_
    refine Own.g_aloadN X3 hx (hb hby d29_60) rfl rfl 61 rfl ?_
    refine Own.g_iloadN X3 hx (hb hby d29_61) rfl 62 rfl ?_
    refine Own.g_callS X3 hx (y := (⟨"java/lang/StringUTF16", "getChar", "([BI)C"⟩ : MethodName)) hown (mvT hZ (hw _ (List.mem_of_getElem? (i := 87) rfl))) (mvT hZ (hw _ (List.mem_of_getElem? (i := 88) rfl))) (mvT hZ (hw _ (List.mem_of_getElem? (i := 66) rfl))) (mvT hZ (hw _ (List.mem_of_getElem? (i := 89) rfl))) (by decide) [.ref r, .int (1 : Int32)] (Own.back (W := 0) (rm_gch21 l Z a0 hw [] r kr x0 x1 h0 n0 O V_r C_x0 C_x1 SA SHI SLO) hZ (hw _ (List.mem_of_getElem? (i := 89) rfl)) (hw _ (List.mem_of_getElem? (i := 66) rfl)) (by decide) (by decide)) eH3 (by rw [hml]; rfl) [] (lenOf pd_7 rfl) rfl (Nat.le_of_ble_eq_true rfl) (hb hby d29_62) (by decide) (by decide) 65 rfl ?_
    rintro _ T4 L4 X4 ⟨rfl, N4q, eH4⟩
    have N4 := Fr.app N3 N4q
    show Own.Go p e below _ (T4.setTop (mkF m 65 #[.val (.ref r), .val (.int (1 : Int32)), .val (.int (2 : Int32)), .val (.int (0 : Int32)), .val (.int x0), .unset] [(.int x1)]))
    refine Own.g_istore X4 hx #[.val (.ref r), .val (.int (1 : Int32)), .val (.int (2 : Int32)), .val (.int (0 : Int32)), .val (.int x0), .val (.int x1)] (hb hby d29_65) rfl 67 rfl ?_
    refine Own.g_iload X4 hx (hb hby d29_67) rfl 69 rfl ?_
    refine Own.g_callS X4 hx (y := (⟨"java/lang/Character", "isLowSurrogate", "(C)Z"⟩ : MethodName)) hown (mvT hZ (hw _ (List.mem_of_getElem? (i := 134) rfl))) (mvT hZ (hw _ (List.mem_of_getElem? (i := 135) rfl))) (mvT hZ (hw _ (List.mem_of_getElem? (i := 130) rfl))) (mvT hZ (hw _ (List.mem_of_getElem? (i := 136) rfl))) (by decide) [.int x1] (Own.back (W := 0) (rm_lsu l Z a0 hw [] x1 h0 n0 O ) hZ (hw _ (List.mem_of_getElem? (i := 136) rfl)) (hw _ (List.mem_of_getElem? (i := 130) rfl)) (by decide) (by decide)) eH4 (by rw [hml]; rfl) [] (lenOf pd_10 rfl) rfl (Nat.le_of_ble_eq_true rfl) (hb hby d29_69) (by decide) (by decide) 72 rfl ?_
    rintro _ T5 L5 X5 ⟨rfl, N5q, eH5⟩
    have N5 := Fr.app N4 N5q
    show Own.Go p e below _ (T5.setTop (mkF m 72 #[.val (.ref r), .val (.int (1 : Int32)), .val (.int (2 : Int32)), .val (.int (0 : Int32)), .val (.int x0), .val (.int x1)] [(.int (if ¬ x1 < 56320 ∧ x1 < 57344 then 1 else 0))]))
    refine Own.g_if_eq X5 hx (hb hby d29_72) 83 75 (by decide) rfl ?_ ?_
    · intro hq2
      refine Own.g_iload X5 hx (hb hby d29_83) rfl 85 rfl ?_
      refine Own.g_ret X5 hx hret hlocks rfl (Or.inl ⟨rfl, by simp, _, rfl⟩) (hb hby d29_85) (by decide) (by decide) eH5 ?_
      exact ⟨by unfold Own.cpv; rw [if_neg (fun q : Own.HS x0 x1 => Own.if1_eq hq2 q.2)], N5, rfl⟩
    · intro hq2
      refine Own.g_iload X5 hx (hb hby d29_75) rfl 77 rfl ?_
      refine Own.g_iload X5 hx (hb hby d29_77) rfl 79 rfl ?_
      refine Own.g_callS X5 hx (y := (⟨"java/lang/Character", "toCodePoint", "(CC)I"⟩ : MethodName)) hown (mvT hZ (hw _ (List.mem_of_getElem? (i := 138) rfl))) (mvT hZ (hw _ (List.mem_of_getElem? (i := 139) rfl))) (mvT hZ (hw _ (List.mem_of_getElem? (i := 130) rfl))) (mvT hZ (hw _ (List.mem_of_getElem? (i := 140) rfl))) (by decide) [.int x0, .int x1] (Own.back (W := 0) (rm_tcp l Z a0 hw [] x0 x1 h0 n0 O ) hZ (hw _ (List.mem_of_getElem? (i := 140) rfl)) (hw _ (List.mem_of_getElem? (i := 130) rfl)) (by decide) (by decide)) eH5 (by rw [hml]; rfl) [] (lenOf pd_17 rfl) rfl (Nat.le_of_ble_eq_true rfl) (hb hby d29_79) (by decide) (by decide) 82 rfl ?_
      rintro _ T6 L6 X6 ⟨rfl, N6q, eH6⟩
      have N6 := Fr.app N5 N6q
      show Own.Go p e below _ (T6.setTop (mkF m 82 #[.val (.ref r), .val (.int (1 : Int32)), .val (.int (2 : Int32)), .val (.int (0 : Int32)), .val (.int x0), .val (.int x1)] [(.int (Own.cpy x0 x1))]))
      refine Own.g_ret X6 hx hret hlocks rfl (Or.inl ⟨rfl, by simp, _, rfl⟩) (hb hby d29_82) (by decide) (by decide) eH6 ?_
      exact ⟨by unfold Own.cpv; rw [if_pos (show Own.HS x0 x1 from ⟨Own.if1_ne hq1, Own.if1_ne hq2⟩)], N6, rfl⟩
theorem ef_cq3_20 (m : MethodId) (x0 : Addr) (x1 : Int32) (x2 : Int32) : entryFrame m #[.ref x0, .int x1, .int x2] 3 = mkF m 0 #[.val (.ref x0), .val (.int x1), .val (.int x2)] [] := by first | (simp [entryFrame, mkF, argsToLocals, Value.category]; done) | rfl
def Q_cq3_20 (Z : State) (r : Addr) (kr : ClassId) (x0 : Int32) (x1 : Int32) (h0 : Heap) (n0 : Nat) (v : Option Value) (h : Heap) (L : List Loc) : Prop := v = some (.int (Own.cpv x0 x1)) ∧ Fr n0 L ∧ h = h0
set_option maxRecDepth 65536 in
set_option maxHeartbeats 40000000 in
theorem rm_cq3_20 (l : Launch) (Z : State) (a0 : Array Value) (hw : ∀ d ∈ tables_1, d.before a0 Z = true) (ws : List Jvm.Cond) (r : Addr) (kr : ClassId) (x0 : Int32) (x1 : Int32) (h0 : Heap) (n0 : Nat) (O : Old Z n0 h0) (V_r : Arv Z h0 r kr .byte 4 [(.int ((x0 >>> ((0 : Int32) &&& 31)).toInt8.toInt32)), (.int ((x0 >>> ((8 : Int32) &&& 31)).toInt8.toInt32)), (.int ((x1 >>> ((0 : Int32) &&& 31)).toInt8.toInt32)), (.int ((x1 >>> ((8 : Int32) &&& 31)).toInt8.toInt32))] (.int 0)) (C_x0 : Own.Ch x0) (C_x1 : Own.Ch x1) (SA : Sta Z Z.heap "java/lang/StringUTF16" "$assertionsDisabled" "Z" (.int 1)) (SHI : Sta Z Z.heap "java/lang/StringUTF16" "HI_BYTE_SHIFT" "I" (.int 0)) (SLO : Sta Z Z.heap "java/lang/StringUTF16" "LO_BYTE_SHIFT" "I" (.int 8)) :
    MetFree l (⟨"java/lang/StringUTF16", "codePointAt", "([BII)I"⟩ : MethodName) (head1 (Jvm.Cond.code (⟨"java/lang/StringUTF16", "codePointAt", "([BII)I"⟩ : MethodName) jdk_52_method_8_code 3 (some .int) :: ws) ({ frames := 2, cells := 0, slots := 0, locals := 44 } : Room)) (fun aa U => aa = #[.ref r, .int (0 : Int32), .int (2 : Int32)] ∧ Z.Warmed39 U.vm ∧ U.heap = h0) (fun _ _ _ _ _ => True) (fun _ U o U' => Own.End U (Q_cq3_20 Z r kr x0 x1 h0 n0) 0 0 o U') := by
  refine MetFree.of_bodySF (plainFor_of_name pn_5) hisR ?_
  intro p e s m args below meth c s₁ Bd hml0 hP hK
  obtain ⟨rfl, hZ, hh⟩ := hP
  have hx := Bd.exec
  have hby := Bd.bytes
  have hml : c.maxLocals = 3 := hml0
  have hown : s.vm.findClass "java/lang/StringUTF16" = some m.cls := findClass_of_methodNamed Bd.named
  have hnm := (name_of_methodNamed Bd.named Bd.method).1
  have hret := Bd.returns
  have hlocks : meth.locks = false := Bd.notSynchronized
  have X0 : Stand p l e ({ frames := 2, cells := 0, slots := 0, locals := 44 } : Room) s m #[.ref r, .int (0 : Int32), .int (2 : Int32)] below meth c s₁ [] 0 0 := Stand.of_body Bd
  have e0 : s₁.heap = h0 := by rw [← hh, Bd.state]; rfl
  have N0 := Fr.nil n0
  show Own.Go p e below (Own.End s (Q_cq3_20 Z r kr x0 x1 h0 n0) 0 0) (s₁.setTop (entryFrame m #[.ref r, .int (0 : Int32), .int (2 : Int32)] 3))
  refine Own.Go.eq (ef_cq3_20 m r (0 : Int32) (2 : Int32)) ?_
  refine Own.g_aloadN X0 hx (hb hby d28_0) rfl rfl 1 rfl ?_
  refine Own.g_iloadN X0 hx (hb hby d28_1) rfl 2 rfl ?_
  refine Own.g_iloadN X0 hx (hb hby d28_2) rfl 3 rfl ?_
  refine Own.g_iconst X0 hx (0 : Int32) (hb hby d28_3) rfl 4 rfl ?_
  refine Own.g_callS X0 hx (y := (⟨"java/lang/StringUTF16", "codePointAt", "([BIIZ)I"⟩ : MethodName)) hown (mvT hZ (hw _ (List.mem_of_getElem? (i := 125) rfl))) (mvT hZ (hw _ (List.mem_of_getElem? (i := 126) rfl))) (mvT hZ (hw _ (List.mem_of_getElem? (i := 66) rfl))) (mvT hZ (hw _ (List.mem_of_getElem? (i := 127) rfl))) (by decide) [.ref r, .int (0 : Int32), .int (2 : Int32), .int (0 : Int32)] (Own.back (W := 0) (rm_cq4_20 l Z a0 hw [] r kr x0 x1 h0 n0 O V_r C_x0 C_x1 SA SHI SLO) hZ (hw _ (List.mem_of_getElem? (i := 127) rfl)) (hw _ (List.mem_of_getElem? (i := 66) rfl)) (by decide) (by decide)) e0 (by rw [hml]; rfl) [] (lenOf pd_13 rfl) rfl (Nat.le_of_ble_eq_true rfl) (hb hby d28_4) (by decide) (by decide) 7 rfl ?_
  rintro _ T1 L1 X1 ⟨rfl, N1q, eH1⟩
  have N1 := Fr.app N0 N1q
  show Own.Go p e below _ (T1.setTop (mkF m 7 #[.val (.ref r), .val (.int (0 : Int32)), .val (.int (2 : Int32))] [(.int (Own.cpv x0 x1))]))
  refine Own.g_ret X1 hx hret hlocks rfl (Or.inl ⟨rfl, by simp, _, rfl⟩) (hb hby d28_7) (by decide) (by decide) eH1 ?_
  exact ⟨rfl, N1, rfl⟩
theorem ef_cpa_20 (m : MethodId) (x0 : Addr) (x1 : Int32) : entryFrame m #[.ref x0, .int x1] 3 = mkF m 0 #[.val (.ref x0), .val (.int x1), .unset] [] := by first | (simp [entryFrame, mkF, argsToLocals, Value.category]; done) | rfl
def Q_cpa_20 (Z : State) (b : Addr) (t : Addr) (x0 : Int32) (x1 : Int32) (G1 : Int32) (G3 : Value) (h0 : Heap) (n0 : Nat) (v : Option Value) (h : Heap) (L : List Loc) : Prop := v = some (.int (Own.cpv x0 x1)) ∧ Fr n0 L ∧ h = h0
set_option maxRecDepth 65536 in
set_option maxHeartbeats 40000000 in
theorem rm_cpa_20 (l : Launch) (Z : State) (a0 : Array Value) (hw : ∀ d ∈ tables_1, d.before a0 Z = true) (ws : List Jvm.Cond) (b : Addr) (t : Addr) (x0 : Int32) (x1 : Int32) (G1 : Int32) (G3 : Value) (h0 : Heap) (n0 : Nat) (O : Old Z n0 h0) (A_b : Own.ST Z h0 b t [x0, x1]) (C_x0 : Own.Ch x0) (C_x1 : Own.Ch x1) (SA : Sta Z Z.heap "java/lang/StringUTF16" "$assertionsDisabled" "Z" (.int 1)) (SHI : Sta Z Z.heap "java/lang/StringUTF16" "HI_BYTE_SHIFT" "I" (.int 0)) (SLO : Sta Z Z.heap "java/lang/StringUTF16" "LO_BYTE_SHIFT" "I" (.int 8)) (O2 : Sta Z Z.heap "java/lang/String" "COMPACT_STRINGS" "Z" (.int G1)) (P5 : ¬ (G1 = (0 : Int32))) (O4 : Sta Z Z.heap "jdk/internal/util/Preconditions" "SIOOBE_FORMATTER" "Ljava/util/function/BiFunction;" G3) (rG3 : G3.isRef = true) :
    MetFree l (⟨"java/lang/String", "codePointAt", "(I)I"⟩ : MethodName) (head1 (Jvm.Cond.code (⟨"java/lang/String", "codePointAt", "(I)I"⟩ : MethodName) jdk_42_method_57_code 3 (some .int) :: ws) ({ frames := 3, cells := 0, slots := 0, locals := 66 } : Room)) (fun aa U => aa = #[.ref b, .int (0 : Int32)] ∧ Z.Warmed39 U.vm ∧ U.heap = h0) (fun _ _ _ _ _ => True) (fun _ U o U' => Own.End U (Q_cpa_20 Z b t x0 x1 G1 G3 h0 n0) 0 0 o U') := by
  refine MetFree.of_bodySF (plainFor_of_name pn_0) hisR ?_
  intro p e s m args below meth c s₁ Bd hml0 hP hK
  obtain ⟨rfl, hZ, hh⟩ := hP
  have hx := Bd.exec
  have hby := Bd.bytes
  have hml : c.maxLocals = 3 := hml0
  have hown : s.vm.findClass "java/lang/String" = some m.cls := findClass_of_methodNamed Bd.named
  have hnm := (name_of_methodNamed Bd.named Bd.method).1
  have hret := Bd.returns
  have hlocks : meth.locks = false := Bd.notSynchronized
  have X0 : Stand p l e ({ frames := 3, cells := 0, slots := 0, locals := 66 } : Room) s m #[.ref b, .int (0 : Int32)] below meth c s₁ [] 0 0 := Stand.of_body Bd
  have e0 : s₁.heap = h0 := by rw [← hh, Bd.state]; rfl
  have N0 := Fr.nil n0
  show Own.Go p e below (Own.End s (Q_cpa_20 Z b t x0 x1 G1 G3 h0 n0) 0 0) (s₁.setTop (entryFrame m #[.ref b, .int (0 : Int32)] 3))
  refine Own.Go.eq (ef_cpa_20 m b (0 : Int32)) ?_
  obtain ⟨E_b, F_b_value, ⟨F_b_coder, hL, kt, V_t⟩ | ⟨F_b_coder, kt, V_t⟩⟩ := A_b
  · replace V_t : Arv Z h0 t kt .byte 2 [(.int (x0.toInt8.toInt32)), (.int (x1.toInt8.toInt32))] (.int 0) := V_t
    refine Own.g_aloadN X0 hx (hb hby d24_0) rfl rfl 1 rfl ?_
    refine Own.g_virtual X0 hx hZ (y := (⟨"java/lang/String", "isLatin1", "()Z"⟩ : MethodName)) (z := (⟨"java/lang/String", "isLatin1", "()Z"⟩ : MethodName)) hown (mvT hZ (hw _ (List.mem_of_getElem? (i := 109) rfl))) (mvT hZ (hw _ (List.mem_of_getElem? (i := 110) rfl))) (notFace_of_selects (args := #[]) (mvT hZ (hw _ (List.mem_of_getElem? (i := 112) rfl)))) (mvT hZ (hw _ (List.mem_of_getElem? (i := 112) rfl))) (mvT hZ (hw _ (List.mem_of_getElem? (i := 111) rfl))) (by decide) (a := b) [] (Own.back (W := 0) (rm_isl0 l Z a0 hw [] b G1 h0 n0 O O2 P5 F_b_coder) hZ (hw _ (List.mem_of_getElem? (i := 113) rfl)) (hw _ (List.mem_of_getElem? (i := 10) rfl)) (by decide) (by decide)) E_b e0 (by rw [hml]; rfl) [] (lenOf pd_14 rfl) rfl (Nat.le_of_ble_eq_true rfl) (hb hby d24_1) (by decide) (by decide) 4 rfl ?_
    rintro _ T1 L1 X1 ⟨rfl, N1q, eH1⟩
    have N1 := Fr.app N0 N1q
    show Own.Go p e below _ (T1.setTop (mkF m 4 #[.val (.ref b), .val (.int (0 : Int32)), .unset] [(.int (1 : Int32))]))
    refine Own.g_if_eq_f X1 hx (hb hby d24_4) (by decide) 7 rfl ?_
    refine Own.g_iloadN X1 hx (hb hby d24_7) rfl 8 rfl ?_
    refine Own.g_aloadN X1 hx (hb hby d24_8) rfl rfl 9 rfl ?_
    refine Own.g_getF X1 hx hZ hown (host := "") (Or.inl (hw _ (List.mem_of_getElem? (i := 28) rfl))) Via.refl eH1 F_b_value (hb hby d24_9) 12 rfl ?_
    intro T2 X2 e2
    refine Own.g_alen X2 hx hZ e2 V_t (hb hby d24_12) 13 rfl ?_
    refine Own.g_callS X2 hx (y := (⟨"java/lang/String", "checkIndex", "(II)V"⟩ : MethodName)) hown (mvT hZ (hw _ (List.mem_of_getElem? (i := 114) rfl))) (mvT hZ (hw _ (List.mem_of_getElem? (i := 115) rfl))) (mvT hZ (hw _ (List.mem_of_getElem? (i := 10) rfl))) (mvT hZ (hw _ (List.mem_of_getElem? (i := 116) rfl))) (by decide) [.int (0 : Int32), .int (2 : Int32)] (Own.back (W := 0) (rm_cki l Z a0 hw [] (0 : Int32) (2 : Int32) G3 h0 n0 O O4 rG3 (by decide) (by decide)) hZ (hw _ (List.mem_of_getElem? (i := 116) rfl)) (hw _ (List.mem_of_getElem? (i := 10) rfl)) (by decide) (by decide)) e2 (by rw [hml]; rfl) [] (lenOf pd_15 rfl) rfl (Nat.le_of_ble_eq_true rfl) (hb hby d24_13) (by decide) (by decide) 16 rfl ?_
    rintro _ T3 L3 X3 ⟨rfl, N3q, eH3⟩
    have N3 := Fr.app N1 N3q
    show Own.Go p e below _ (T3.setTop (mkF m 16 #[.val (.ref b), .val (.int (0 : Int32)), .unset] []))
    refine Own.g_aloadN X3 hx (hb hby d24_16) rfl rfl 17 rfl ?_
    refine Own.g_getF X3 hx hZ hown (host := "") (Or.inl (hw _ (List.mem_of_getElem? (i := 28) rfl))) Via.refl eH3 F_b_value (hb hby d24_17) 20 rfl ?_
    intro T4 X4 e4
    refine Own.g_iloadN X4 hx (hb hby d24_20) rfl 21 rfl ?_
    refine Own.g_ldB X4 hx hZ e4 V_t (by decide) (x0.toInt8.toInt32) rfl (hb hby d24_21) 22 rfl ?_
    refine Own.g_sipush X4 hx (255 : Int32) (hb hby d24_22) rfl 25 rfl ?_
    refine Own.g_iand X4 hx (hb hby d24_25) 26 rfl ?_
    have L_j : Own.Lat x0 := hL x0 (by simp)
    rw [Own.lo_lat L_j]
    show Own.Go p e below _ (T4.setTop (mkF m 26 #[.val (.ref b), .val (.int (0 : Int32)), .unset] [(.int x0)]))
    refine Own.g_ret X4 hx hret hlocks rfl (Or.inl ⟨rfl, by simp, _, rfl⟩) (hb hby d24_26) (by decide) (by decide) e4 ?_
    exact ⟨by rw [Own.cpv_lat L_j], N3, rfl⟩
  · replace V_t : Arv Z h0 t kt .byte 4 [(.int ((x0 >>> ((0 : Int32) &&& 31)).toInt8.toInt32)), (.int ((x0 >>> ((8 : Int32) &&& 31)).toInt8.toInt32)), (.int ((x1 >>> ((0 : Int32) &&& 31)).toInt8.toInt32)), (.int ((x1 >>> ((8 : Int32) &&& 31)).toInt8.toInt32))] (.int 0) := V_t
    refine Own.g_aloadN X0 hx (hb hby d24_0) rfl rfl 1 rfl ?_
    refine Own.g_virtual X0 hx hZ (y := (⟨"java/lang/String", "isLatin1", "()Z"⟩ : MethodName)) (z := (⟨"java/lang/String", "isLatin1", "()Z"⟩ : MethodName)) hown (mvT hZ (hw _ (List.mem_of_getElem? (i := 109) rfl))) (mvT hZ (hw _ (List.mem_of_getElem? (i := 110) rfl))) (notFace_of_selects (args := #[]) (mvT hZ (hw _ (List.mem_of_getElem? (i := 112) rfl)))) (mvT hZ (hw _ (List.mem_of_getElem? (i := 112) rfl))) (mvT hZ (hw _ (List.mem_of_getElem? (i := 111) rfl))) (by decide) (a := b) [] (Own.back (W := 0) (rm_isl1 l Z a0 hw [] b G1 h0 n0 O O2 P5 F_b_coder) hZ (hw _ (List.mem_of_getElem? (i := 113) rfl)) (hw _ (List.mem_of_getElem? (i := 10) rfl)) (by decide) (by decide)) E_b e0 (by rw [hml]; rfl) [] (lenOf pd_14 rfl) rfl (Nat.le_of_ble_eq_true rfl) (hb hby d24_1) (by decide) (by decide) 4 rfl ?_
    rintro _ T5 L5 X5 ⟨rfl, N5q, eH5⟩
    have N5 := Fr.app N0 N5q
    show Own.Go p e below _ (T5.setTop (mkF m 4 #[.val (.ref b), .val (.int (0 : Int32)), .unset] [(.int (0 : Int32))]))
    refine Own.g_if_eq_t X5 hx (hb hby d24_4) rfl 27 (by decide) ?_
    refine Own.g_aloadN X5 hx (hb hby d24_27) rfl rfl 28 rfl ?_
    refine Own.g_getF X5 hx hZ hown (host := "") (Or.inl (hw _ (List.mem_of_getElem? (i := 28) rfl))) Via.refl eH5 F_b_value (hb hby d24_28) 31 rfl ?_
    intro T6 X6 e6
    refine Own.g_alen X6 hx hZ e6 V_t (hb hby d24_31) 32 rfl ?_
    refine Own.g_iconst X6 hx (1 : Int32) (hb hby d24_32) rfl 33 rfl ?_
    refine Own.g_ishr X6 hx (hb hby d24_33) 34 rfl ?_
    rw [show ((4 : Int32) >>> ((1 : Int32) &&& 31)) = (2 : Int32) from by decide]
    refine Own.g_istoreN X6 hx #[.val (.ref b), .val (.int (0 : Int32)), .val (.int (2 : Int32))] (hb hby d24_34) rfl 35 rfl ?_
    refine Own.g_iloadN X6 hx (hb hby d24_35) rfl 36 rfl ?_
    refine Own.g_iloadN X6 hx (hb hby d24_36) rfl 37 rfl ?_
    refine Own.g_callS X6 hx (y := (⟨"java/lang/String", "checkIndex", "(II)V"⟩ : MethodName)) hown (mvT hZ (hw _ (List.mem_of_getElem? (i := 114) rfl))) (mvT hZ (hw _ (List.mem_of_getElem? (i := 115) rfl))) (mvT hZ (hw _ (List.mem_of_getElem? (i := 10) rfl))) (mvT hZ (hw _ (List.mem_of_getElem? (i := 116) rfl))) (by decide) [.int (0 : Int32), .int (2 : Int32)] (Own.back (W := 0) (rm_cki l Z a0 hw [] (0 : Int32) (2 : Int32) G3 h0 n0 O O4 rG3 (by decide) (by decide)) hZ (hw _ (List.mem_of_getElem? (i := 116) rfl)) (hw _ (List.mem_of_getElem? (i := 10) rfl)) (by decide) (by decide)) e6 (by rw [hml]; rfl) [] (lenOf pd_15 rfl) rfl (Nat.le_of_ble_eq_true rfl) (hb hby d24_37) (by decide) (by decide) 40 rfl ?_
    rintro _ T7 L7 X7 ⟨rfl, N7q, eH7⟩
    have N7 := Fr.app N5 N7q
    show Own.Go p e below _ (T7.setTop (mkF m 40 #[.val (.ref b), .val (.int (0 : Int32)), .val (.int (2 : Int32))] []))
    refine Own.g_aloadN X7 hx (hb hby d24_40) rfl rfl 41 rfl ?_
    refine Own.g_getF X7 hx hZ hown (host := "") (Or.inl (hw _ (List.mem_of_getElem? (i := 28) rfl))) Via.refl eH7 F_b_value (hb hby d24_41) 44 rfl ?_
    intro T8 X8 e8
    refine Own.g_iloadN X8 hx (hb hby d24_44) rfl 45 rfl ?_
    refine Own.g_iloadN X8 hx (hb hby d24_45) rfl 46 rfl ?_
    refine Own.g_callS X8 hx (y := (⟨"java/lang/StringUTF16", "codePointAt", "([BII)I"⟩ : MethodName)) hown (mvT hZ (hw _ (List.mem_of_getElem? (i := 122) rfl))) (mvT hZ (hw _ (List.mem_of_getElem? (i := 123) rfl))) (mvT hZ (hw _ (List.mem_of_getElem? (i := 66) rfl))) (mvT hZ (hw _ (List.mem_of_getElem? (i := 124) rfl))) (by decide) [.ref t, .int (0 : Int32), .int (2 : Int32)] (Own.back (W := 0) (rm_cq3_20 l Z a0 hw [] t kt x0 x1 h0 n0 O V_t C_x0 C_x1 SA SHI SLO) hZ (hw _ (List.mem_of_getElem? (i := 124) rfl)) (hw _ (List.mem_of_getElem? (i := 66) rfl)) (by decide) (by decide)) e8 (by rw [hml]; rfl) [] (lenOf pd_16 rfl) rfl (Nat.le_of_ble_eq_true rfl) (hb hby d24_46) (by decide) (by decide) 49 rfl ?_
    rintro _ T9 L9 X9 ⟨rfl, N9q, eH9⟩
    have N9 := Fr.app N7 N9q
    show Own.Go p e below _ (T9.setTop (mkF m 49 #[.val (.ref b), .val (.int (0 : Int32)), .val (.int (2 : Int32))] [(.int (Own.cpv x0 x1))]))
    refine Own.g_ret X9 hx hret hlocks rfl (Or.inl ⟨rfl, by simp, _, rfl⟩) (hb hby d24_49) (by decide) (by decide) eH9 ?_
    exact ⟨rfl, N9, rfl⟩
theorem ef_cq4_21 (m : MethodId) (x0 : Addr) (x1 : Int32) (x2 : Int32) (x3 : Int32) : entryFrame m #[.ref x0, .int x1, .int x2, .int x3] 6 = mkF m 0 #[.val (.ref x0), .val (.int x1), .val (.int x2), .val (.int x3), .unset, .unset] [] := by first | (simp [entryFrame, mkF, argsToLocals, Value.category]; done) | rfl
def Q_cq4_21 (Z : State) (r : Addr) (kr : ClassId) (x0 : Int32) (x1 : Int32) (h0 : Heap) (n0 : Nat) (v : Option Value) (h : Heap) (L : List Loc) : Prop := v = some (.int x1) ∧ Fr n0 L ∧ h = h0
set_option maxRecDepth 65536 in
set_option maxHeartbeats 40000000 in
theorem rm_cq4_21 (l : Launch) (Z : State) (a0 : Array Value) (hw : ∀ d ∈ tables_1, d.before a0 Z = true) (ws : List Jvm.Cond) (r : Addr) (kr : ClassId) (x0 : Int32) (x1 : Int32) (h0 : Heap) (n0 : Nat) (O : Old Z n0 h0) (V_r : Arv Z h0 r kr .byte 4 [(.int ((x0 >>> ((0 : Int32) &&& 31)).toInt8.toInt32)), (.int ((x0 >>> ((8 : Int32) &&& 31)).toInt8.toInt32)), (.int ((x1 >>> ((0 : Int32) &&& 31)).toInt8.toInt32)), (.int ((x1 >>> ((8 : Int32) &&& 31)).toInt8.toInt32))] (.int 0)) (C_x0 : Own.Ch x0) (C_x1 : Own.Ch x1) (SA : Sta Z Z.heap "java/lang/StringUTF16" "$assertionsDisabled" "Z" (.int 1)) (SHI : Sta Z Z.heap "java/lang/StringUTF16" "HI_BYTE_SHIFT" "I" (.int 0)) (SLO : Sta Z Z.heap "java/lang/StringUTF16" "LO_BYTE_SHIFT" "I" (.int 8)) :
    MetFree l (⟨"java/lang/StringUTF16", "codePointAt", "([BIIZ)I"⟩ : MethodName) (head1 (Jvm.Cond.code (⟨"java/lang/StringUTF16", "codePointAt", "([BIIZ)I"⟩ : MethodName) jdk_52_method_7_code 6 (some .int) :: ws) ({ frames := 1, cells := 0, slots := 0, locals := 20 } : Room)) (fun aa U => aa = #[.ref r, .int (1 : Int32), .int (2 : Int32), .int (0 : Int32)] ∧ Z.Warmed39 U.vm ∧ U.heap = h0) (fun _ _ _ _ _ => True) (fun _ U o U' => Own.End U (Q_cq4_21 Z r kr x0 x1 h0 n0) 0 0 o U') := by
  refine MetFree.of_bodySF (plainFor_of_name pn_5) hisR ?_
  intro p e s m args below meth c s₁ Bd hml0 hP hK
  obtain ⟨rfl, hZ, hh⟩ := hP
  have hx := Bd.exec
  have hby := Bd.bytes
  have hml : c.maxLocals = 6 := hml0
  have hown : s.vm.findClass "java/lang/StringUTF16" = some m.cls := findClass_of_methodNamed Bd.named
  have hnm := (name_of_methodNamed Bd.named Bd.method).1
  have hret := Bd.returns
  have hlocks : meth.locks = false := Bd.notSynchronized
  have X0 : Stand p l e ({ frames := 1, cells := 0, slots := 0, locals := 20 } : Room) s m #[.ref r, .int (1 : Int32), .int (2 : Int32), .int (0 : Int32)] below meth c s₁ [] 0 0 := Stand.of_body Bd
  have e0 : s₁.heap = h0 := by rw [← hh, Bd.state]; rfl
  have N0 := Fr.nil n0
  show Own.Go p e below (Own.End s (Q_cq4_21 Z r kr x0 x1 h0 n0) 0 0) (s₁.setTop (entryFrame m #[.ref r, .int (1 : Int32), .int (2 : Int32), .int (0 : Int32)] 6))
  refine Own.Go.eq (ef_cq4_21 m r (1 : Int32) (2 : Int32) (0 : Int32)) ?_
  refine Own.g_getS X0 hx hZ hown (host := "") (Or.inl (hw _ (List.mem_of_getElem? (i := 84) rfl))) Via.refl e0 (SA.ext O.2) (hb hby d29_0) 3 rfl ?_
  intro T1 X1 e1
  refine Own.g_if_ne_t X1 hx (hb hby d29_3) (by decide) 19 (by decide) ?_
  refine Own.g_iloadN X1 hx (hb hby d29_19) rfl 20 rfl ?_
  refine Own.g_if_eq_t X1 hx (hb hby d29_20) rfl 28 (by decide) ?_
  refine Own.g_aloadN X1 hx (hb hby d29_28) rfl rfl 29 rfl ?_
  refine Own.g_iloadN X1 hx (hb hby d29_29) rfl 30 rfl ?_
  refine Own.g_callS X1 hx (y := (⟨"java/lang/StringUTF16", "getChar", "([BI)C"⟩ : MethodName)) hown (mvT hZ (hw _ (List.mem_of_getElem? (i := 87) rfl))) (mvT hZ (hw _ (List.mem_of_getElem? (i := 88) rfl))) (mvT hZ (hw _ (List.mem_of_getElem? (i := 66) rfl))) (mvT hZ (hw _ (List.mem_of_getElem? (i := 89) rfl))) (by decide) [.ref r, .int (1 : Int32)] (Own.back (W := 0) (rm_gch21 l Z a0 hw [] r kr x0 x1 h0 n0 O V_r C_x0 C_x1 SA SHI SLO) hZ (hw _ (List.mem_of_getElem? (i := 89) rfl)) (hw _ (List.mem_of_getElem? (i := 66) rfl)) (by decide) (by decide)) e1 (by rw [hml]; rfl) [] (lenOf pd_7 rfl) rfl (Nat.le_of_ble_eq_true rfl) (hb hby d29_30) (by decide) (by decide) 33 rfl ?_
  rintro _ T2 L2 X2 ⟨rfl, N2q, eH2⟩
  have N2 := Fr.app N0 N2q
  show Own.Go p e below _ (T2.setTop (mkF m 33 #[.val (.ref r), .val (.int (1 : Int32)), .val (.int (2 : Int32)), .val (.int (0 : Int32)), .unset, .unset] [(.int x1)]))
  refine Own.g_istore X2 hx #[.val (.ref r), .val (.int (1 : Int32)), .val (.int (2 : Int32)), .val (.int (0 : Int32)), .val (.int x1), .unset] (hb hby d29_33) rfl 35 rfl ?_
  refine Own.g_iload X2 hx (hb hby d29_35) rfl 37 rfl ?_
  refine Own.g_callS X2 hx (y := (⟨"java/lang/Character", "isHighSurrogate", "(C)Z"⟩ : MethodName)) hown (mvT hZ (hw _ (List.mem_of_getElem? (i := 128) rfl))) (mvT hZ (hw _ (List.mem_of_getElem? (i := 129) rfl))) (mvT hZ (hw _ (List.mem_of_getElem? (i := 130) rfl))) (mvT hZ (hw _ (List.mem_of_getElem? (i := 131) rfl))) (by decide) [.int x1] (Own.back (W := 0) (rm_hsu l Z a0 hw [] x1 h0 n0 O ) hZ (hw _ (List.mem_of_getElem? (i := 131) rfl)) (hw _ (List.mem_of_getElem? (i := 130) rfl)) (by decide) (by decide)) eH2 (by rw [hml]; rfl) [] (lenOf pd_10 rfl) rfl (Nat.le_of_ble_eq_true rfl) (hb hby d29_37) (by decide) (by decide) 40 rfl ?_
  rintro _ T3 L3 X3 ⟨rfl, N3q, eH3⟩
  have N3 := Fr.app N2 N3q
  show Own.Go p e below _ (T3.setTop (mkF m 40 #[.val (.ref r), .val (.int (1 : Int32)), .val (.int (2 : Int32)), .val (.int (0 : Int32)), .val (.int x1), .unset] [(.int (if ¬ x1 < 55296 ∧ x1 < 56320 then 1 else 0))]))
  refine Own.g_if_eq X3 hx (hb hby d29_40) 83 43 (by decide) rfl ?_ ?_
  · intro hq1
    refine Own.g_iload X3 hx (hb hby d29_83) rfl 85 rfl ?_
    refine Own.g_ret X3 hx hret hlocks rfl (Or.inl ⟨rfl, by simp, _, rfl⟩) (hb hby d29_85) (by decide) (by decide) eH3 ?_
    exact ⟨rfl, N3, rfl⟩
  · intro hq1
    refine Own.g_iinc X3 hx #[.val (.ref r), .val (.int (2 : Int32)), .val (.int (2 : Int32)), .val (.int (0 : Int32)), .val (.int x1), .unset] (hb hby d29_43) rfl rfl 46 rfl ?_
    refine Own.g_iloadN X3 hx (hb hby d29_46) rfl 47 rfl ?_
    refine Own.g_iloadN X3 hx (hb hby d29_47) rfl 48 rfl ?_
    refine Own.g_icmp_ge_t X3 hx (hb hby d29_48) (by decide) 83 (by decide) ?_
    refine Own.g_iload X3 hx (hb hby d29_83) rfl 85 rfl ?_
    refine Own.g_ret X3 hx hret hlocks rfl (Or.inl ⟨rfl, by simp, _, rfl⟩) (hb hby d29_85) (by decide) (by decide) eH3 ?_
    exact ⟨rfl, N3, rfl⟩
theorem ef_cq3_21 (m : MethodId) (x0 : Addr) (x1 : Int32) (x2 : Int32) : entryFrame m #[.ref x0, .int x1, .int x2] 3 = mkF m 0 #[.val (.ref x0), .val (.int x1), .val (.int x2)] [] := by first | (simp [entryFrame, mkF, argsToLocals, Value.category]; done) | rfl
def Q_cq3_21 (Z : State) (r : Addr) (kr : ClassId) (x0 : Int32) (x1 : Int32) (h0 : Heap) (n0 : Nat) (v : Option Value) (h : Heap) (L : List Loc) : Prop := v = some (.int x1) ∧ Fr n0 L ∧ h = h0
set_option maxRecDepth 65536 in
set_option maxHeartbeats 40000000 in
theorem rm_cq3_21 (l : Launch) (Z : State) (a0 : Array Value) (hw : ∀ d ∈ tables_1, d.before a0 Z = true) (ws : List Jvm.Cond) (r : Addr) (kr : ClassId) (x0 : Int32) (x1 : Int32) (h0 : Heap) (n0 : Nat) (O : Old Z n0 h0) (V_r : Arv Z h0 r kr .byte 4 [(.int ((x0 >>> ((0 : Int32) &&& 31)).toInt8.toInt32)), (.int ((x0 >>> ((8 : Int32) &&& 31)).toInt8.toInt32)), (.int ((x1 >>> ((0 : Int32) &&& 31)).toInt8.toInt32)), (.int ((x1 >>> ((8 : Int32) &&& 31)).toInt8.toInt32))] (.int 0)) (C_x0 : Own.Ch x0) (C_x1 : Own.Ch x1) (SA : Sta Z Z.heap "java/lang/StringUTF16" "$assertionsDisabled" "Z" (.int 1)) (SHI : Sta Z Z.heap "java/lang/StringUTF16" "HI_BYTE_SHIFT" "I" (.int 0)) (SLO : Sta Z Z.heap "java/lang/StringUTF16" "LO_BYTE_SHIFT" "I" (.int 8)) :
    MetFree l (⟨"java/lang/StringUTF16", "codePointAt", "([BII)I"⟩ : MethodName) (head1 (Jvm.Cond.code (⟨"java/lang/StringUTF16", "codePointAt", "([BII)I"⟩ : MethodName) jdk_52_method_8_code 3 (some .int) :: ws) ({ frames := 2, cells := 0, slots := 0, locals := 44 } : Room)) (fun aa U => aa = #[.ref r, .int (1 : Int32), .int (2 : Int32)] ∧ Z.Warmed39 U.vm ∧ U.heap = h0) (fun _ _ _ _ _ => True) (fun _ U o U' => Own.End U (Q_cq3_21 Z r kr x0 x1 h0 n0) 0 0 o U') := by
  refine MetFree.of_bodySF (plainFor_of_name pn_5) hisR ?_
  intro p e s m args below meth c s₁ Bd hml0 hP hK
  obtain ⟨rfl, hZ, hh⟩ := hP
  have hx := Bd.exec
  have hby := Bd.bytes
  have hml : c.maxLocals = 3 := hml0
  have hown : s.vm.findClass "java/lang/StringUTF16" = some m.cls := findClass_of_methodNamed Bd.named
  have hnm := (name_of_methodNamed Bd.named Bd.method).1
  have hret := Bd.returns
  have hlocks : meth.locks = false := Bd.notSynchronized
  have X0 : Stand p l e ({ frames := 2, cells := 0, slots := 0, locals := 44 } : Room) s m #[.ref r, .int (1 : Int32), .int (2 : Int32)] below meth c s₁ [] 0 0 := Stand.of_body Bd
  have e0 : s₁.heap = h0 := by rw [← hh, Bd.state]; rfl
  have N0 := Fr.nil n0
  show Own.Go p e below (Own.End s (Q_cq3_21 Z r kr x0 x1 h0 n0) 0 0) (s₁.setTop (entryFrame m #[.ref r, .int (1 : Int32), .int (2 : Int32)] 3))
  refine Own.Go.eq (ef_cq3_21 m r (1 : Int32) (2 : Int32)) ?_
  refine Own.g_aloadN X0 hx (hb hby d28_0) rfl rfl 1 rfl ?_
  refine Own.g_iloadN X0 hx (hb hby d28_1) rfl 2 rfl ?_
  refine Own.g_iloadN X0 hx (hb hby d28_2) rfl 3 rfl ?_
  refine Own.g_iconst X0 hx (0 : Int32) (hb hby d28_3) rfl 4 rfl ?_
  refine Own.g_callS X0 hx (y := (⟨"java/lang/StringUTF16", "codePointAt", "([BIIZ)I"⟩ : MethodName)) hown (mvT hZ (hw _ (List.mem_of_getElem? (i := 125) rfl))) (mvT hZ (hw _ (List.mem_of_getElem? (i := 126) rfl))) (mvT hZ (hw _ (List.mem_of_getElem? (i := 66) rfl))) (mvT hZ (hw _ (List.mem_of_getElem? (i := 127) rfl))) (by decide) [.ref r, .int (1 : Int32), .int (2 : Int32), .int (0 : Int32)] (Own.back (W := 0) (rm_cq4_21 l Z a0 hw [] r kr x0 x1 h0 n0 O V_r C_x0 C_x1 SA SHI SLO) hZ (hw _ (List.mem_of_getElem? (i := 127) rfl)) (hw _ (List.mem_of_getElem? (i := 66) rfl)) (by decide) (by decide)) e0 (by rw [hml]; rfl) [] (lenOf pd_13 rfl) rfl (Nat.le_of_ble_eq_true rfl) (hb hby d28_4) (by decide) (by decide) 7 rfl ?_
  rintro _ T1 L1 X1 ⟨rfl, N1q, eH1⟩
  have N1 := Fr.app N0 N1q
  show Own.Go p e below _ (T1.setTop (mkF m 7 #[.val (.ref r), .val (.int (1 : Int32)), .val (.int (2 : Int32))] [(.int x1)]))
  refine Own.g_ret X1 hx hret hlocks rfl (Or.inl ⟨rfl, by simp, _, rfl⟩) (hb hby d28_7) (by decide) (by decide) eH1 ?_
  exact ⟨rfl, N1, rfl⟩
theorem ef_cpa_21 (m : MethodId) (x0 : Addr) (x1 : Int32) : entryFrame m #[.ref x0, .int x1] 3 = mkF m 0 #[.val (.ref x0), .val (.int x1), .unset] [] := by first | (simp [entryFrame, mkF, argsToLocals, Value.category]; done) | rfl
def Q_cpa_21 (Z : State) (b : Addr) (t : Addr) (x0 : Int32) (x1 : Int32) (G1 : Int32) (G3 : Value) (h0 : Heap) (n0 : Nat) (v : Option Value) (h : Heap) (L : List Loc) : Prop := v = some (.int x1) ∧ Fr n0 L ∧ h = h0
set_option maxRecDepth 65536 in
set_option maxHeartbeats 40000000 in
theorem rm_cpa_21 (l : Launch) (Z : State) (a0 : Array Value) (hw : ∀ d ∈ tables_1, d.before a0 Z = true) (ws : List Jvm.Cond) (b : Addr) (t : Addr) (x0 : Int32) (x1 : Int32) (G1 : Int32) (G3 : Value) (h0 : Heap) (n0 : Nat) (O : Old Z n0 h0) (A_b : Own.ST Z h0 b t [x0, x1]) (C_x0 : Own.Ch x0) (C_x1 : Own.Ch x1) (SA : Sta Z Z.heap "java/lang/StringUTF16" "$assertionsDisabled" "Z" (.int 1)) (SHI : Sta Z Z.heap "java/lang/StringUTF16" "HI_BYTE_SHIFT" "I" (.int 0)) (SLO : Sta Z Z.heap "java/lang/StringUTF16" "LO_BYTE_SHIFT" "I" (.int 8)) (O2 : Sta Z Z.heap "java/lang/String" "COMPACT_STRINGS" "Z" (.int G1)) (P5 : ¬ (G1 = (0 : Int32))) (O4 : Sta Z Z.heap "jdk/internal/util/Preconditions" "SIOOBE_FORMATTER" "Ljava/util/function/BiFunction;" G3) (rG3 : G3.isRef = true) :
    MetFree l (⟨"java/lang/String", "codePointAt", "(I)I"⟩ : MethodName) (head1 (Jvm.Cond.code (⟨"java/lang/String", "codePointAt", "(I)I"⟩ : MethodName) jdk_42_method_57_code 3 (some .int) :: ws) ({ frames := 3, cells := 0, slots := 0, locals := 66 } : Room)) (fun aa U => aa = #[.ref b, .int (1 : Int32)] ∧ Z.Warmed39 U.vm ∧ U.heap = h0) (fun _ _ _ _ _ => True) (fun _ U o U' => Own.End U (Q_cpa_21 Z b t x0 x1 G1 G3 h0 n0) 0 0 o U') := by
  refine MetFree.of_bodySF (plainFor_of_name pn_0) hisR ?_
  intro p e s m args below meth c s₁ Bd hml0 hP hK
  obtain ⟨rfl, hZ, hh⟩ := hP
  have hx := Bd.exec
  have hby := Bd.bytes
  have hml : c.maxLocals = 3 := hml0
  have hown : s.vm.findClass "java/lang/String" = some m.cls := findClass_of_methodNamed Bd.named
  have hnm := (name_of_methodNamed Bd.named Bd.method).1
  have hret := Bd.returns
  have hlocks : meth.locks = false := Bd.notSynchronized
  have X0 : Stand p l e ({ frames := 3, cells := 0, slots := 0, locals := 66 } : Room) s m #[.ref b, .int (1 : Int32)] below meth c s₁ [] 0 0 := Stand.of_body Bd
  have e0 : s₁.heap = h0 := by rw [← hh, Bd.state]; rfl
  have N0 := Fr.nil n0
  show Own.Go p e below (Own.End s (Q_cpa_21 Z b t x0 x1 G1 G3 h0 n0) 0 0) (s₁.setTop (entryFrame m #[.ref b, .int (1 : Int32)] 3))
  refine Own.Go.eq (ef_cpa_21 m b (1 : Int32)) ?_
  obtain ⟨E_b, F_b_value, ⟨F_b_coder, hL, kt, V_t⟩ | ⟨F_b_coder, kt, V_t⟩⟩ := A_b
  · replace V_t : Arv Z h0 t kt .byte 2 [(.int (x0.toInt8.toInt32)), (.int (x1.toInt8.toInt32))] (.int 0) := V_t
    refine Own.g_aloadN X0 hx (hb hby d24_0) rfl rfl 1 rfl ?_
    refine Own.g_virtual X0 hx hZ (y := (⟨"java/lang/String", "isLatin1", "()Z"⟩ : MethodName)) (z := (⟨"java/lang/String", "isLatin1", "()Z"⟩ : MethodName)) hown (mvT hZ (hw _ (List.mem_of_getElem? (i := 109) rfl))) (mvT hZ (hw _ (List.mem_of_getElem? (i := 110) rfl))) (notFace_of_selects (args := #[]) (mvT hZ (hw _ (List.mem_of_getElem? (i := 112) rfl)))) (mvT hZ (hw _ (List.mem_of_getElem? (i := 112) rfl))) (mvT hZ (hw _ (List.mem_of_getElem? (i := 111) rfl))) (by decide) (a := b) [] (Own.back (W := 0) (rm_isl0 l Z a0 hw [] b G1 h0 n0 O O2 P5 F_b_coder) hZ (hw _ (List.mem_of_getElem? (i := 113) rfl)) (hw _ (List.mem_of_getElem? (i := 10) rfl)) (by decide) (by decide)) E_b e0 (by rw [hml]; rfl) [] (lenOf pd_14 rfl) rfl (Nat.le_of_ble_eq_true rfl) (hb hby d24_1) (by decide) (by decide) 4 rfl ?_
    rintro _ T1 L1 X1 ⟨rfl, N1q, eH1⟩
    have N1 := Fr.app N0 N1q
    show Own.Go p e below _ (T1.setTop (mkF m 4 #[.val (.ref b), .val (.int (1 : Int32)), .unset] [(.int (1 : Int32))]))
    refine Own.g_if_eq_f X1 hx (hb hby d24_4) (by decide) 7 rfl ?_
    refine Own.g_iloadN X1 hx (hb hby d24_7) rfl 8 rfl ?_
    refine Own.g_aloadN X1 hx (hb hby d24_8) rfl rfl 9 rfl ?_
    refine Own.g_getF X1 hx hZ hown (host := "") (Or.inl (hw _ (List.mem_of_getElem? (i := 28) rfl))) Via.refl eH1 F_b_value (hb hby d24_9) 12 rfl ?_
    intro T2 X2 e2
    refine Own.g_alen X2 hx hZ e2 V_t (hb hby d24_12) 13 rfl ?_
    refine Own.g_callS X2 hx (y := (⟨"java/lang/String", "checkIndex", "(II)V"⟩ : MethodName)) hown (mvT hZ (hw _ (List.mem_of_getElem? (i := 114) rfl))) (mvT hZ (hw _ (List.mem_of_getElem? (i := 115) rfl))) (mvT hZ (hw _ (List.mem_of_getElem? (i := 10) rfl))) (mvT hZ (hw _ (List.mem_of_getElem? (i := 116) rfl))) (by decide) [.int (1 : Int32), .int (2 : Int32)] (Own.back (W := 0) (rm_cki l Z a0 hw [] (1 : Int32) (2 : Int32) G3 h0 n0 O O4 rG3 (by decide) (by decide)) hZ (hw _ (List.mem_of_getElem? (i := 116) rfl)) (hw _ (List.mem_of_getElem? (i := 10) rfl)) (by decide) (by decide)) e2 (by rw [hml]; rfl) [] (lenOf pd_15 rfl) rfl (Nat.le_of_ble_eq_true rfl) (hb hby d24_13) (by decide) (by decide) 16 rfl ?_
    rintro _ T3 L3 X3 ⟨rfl, N3q, eH3⟩
    have N3 := Fr.app N1 N3q
    show Own.Go p e below _ (T3.setTop (mkF m 16 #[.val (.ref b), .val (.int (1 : Int32)), .unset] []))
    refine Own.g_aloadN X3 hx (hb hby d24_16) rfl rfl 17 rfl ?_
    refine Own.g_getF X3 hx hZ hown (host := "") (Or.inl (hw _ (List.mem_of_getElem? (i := 28) rfl))) Via.refl eH3 F_b_value (hb hby d24_17) 20 rfl ?_
    intro T4 X4 e4
    refine Own.g_iloadN X4 hx (hb hby d24_20) rfl 21 rfl ?_
    refine Own.g_ldB X4 hx hZ e4 V_t (by decide) (x1.toInt8.toInt32) rfl (hb hby d24_21) 22 rfl ?_
    refine Own.g_sipush X4 hx (255 : Int32) (hb hby d24_22) rfl 25 rfl ?_
    refine Own.g_iand X4 hx (hb hby d24_25) 26 rfl ?_
    have L_j : Own.Lat x1 := hL x1 (by simp)
    rw [Own.lo_lat L_j]
    show Own.Go p e below _ (T4.setTop (mkF m 26 #[.val (.ref b), .val (.int (1 : Int32)), .unset] [(.int x1)]))
    refine Own.g_ret X4 hx hret hlocks rfl (Or.inl ⟨rfl, by simp, _, rfl⟩) (hb hby d24_26) (by decide) (by decide) e4 ?_
    exact ⟨rfl, N3, rfl⟩
  · replace V_t : Arv Z h0 t kt .byte 4 [(.int ((x0 >>> ((0 : Int32) &&& 31)).toInt8.toInt32)), (.int ((x0 >>> ((8 : Int32) &&& 31)).toInt8.toInt32)), (.int ((x1 >>> ((0 : Int32) &&& 31)).toInt8.toInt32)), (.int ((x1 >>> ((8 : Int32) &&& 31)).toInt8.toInt32))] (.int 0) := V_t
    refine Own.g_aloadN X0 hx (hb hby d24_0) rfl rfl 1 rfl ?_
    refine Own.g_virtual X0 hx hZ (y := (⟨"java/lang/String", "isLatin1", "()Z"⟩ : MethodName)) (z := (⟨"java/lang/String", "isLatin1", "()Z"⟩ : MethodName)) hown (mvT hZ (hw _ (List.mem_of_getElem? (i := 109) rfl))) (mvT hZ (hw _ (List.mem_of_getElem? (i := 110) rfl))) (notFace_of_selects (args := #[]) (mvT hZ (hw _ (List.mem_of_getElem? (i := 112) rfl)))) (mvT hZ (hw _ (List.mem_of_getElem? (i := 112) rfl))) (mvT hZ (hw _ (List.mem_of_getElem? (i := 111) rfl))) (by decide) (a := b) [] (Own.back (W := 0) (rm_isl1 l Z a0 hw [] b G1 h0 n0 O O2 P5 F_b_coder) hZ (hw _ (List.mem_of_getElem? (i := 113) rfl)) (hw _ (List.mem_of_getElem? (i := 10) rfl)) (by decide) (by decide)) E_b e0 (by rw [hml]; rfl) [] (lenOf pd_14 rfl) rfl (Nat.le_of_ble_eq_true rfl) (hb hby d24_1) (by decide) (by decide) 4 rfl ?_
    rintro _ T5 L5 X5 ⟨rfl, N5q, eH5⟩
    have N5 := Fr.app N0 N5q
    show Own.Go p e below _ (T5.setTop (mkF m 4 #[.val (.ref b), .val (.int (1 : Int32)), .unset] [(.int (0 : Int32))]))
    refine Own.g_if_eq_t X5 hx (hb hby d24_4) rfl 27 (by decide) ?_
    refine Own.g_aloadN X5 hx (hb hby d24_27) rfl rfl 28 rfl ?_
    refine Own.g_getF X5 hx hZ hown (host := "") (Or.inl (hw _ (List.mem_of_getElem? (i := 28) rfl))) Via.refl eH5 F_b_value (hb hby d24_28) 31 rfl ?_
    intro T6 X6 e6
    refine Own.g_alen X6 hx hZ e6 V_t (hb hby d24_31) 32 rfl ?_
    refine Own.g_iconst X6 hx (1 : Int32) (hb hby d24_32) rfl 33 rfl ?_
    refine Own.g_ishr X6 hx (hb hby d24_33) 34 rfl ?_
    rw [show ((4 : Int32) >>> ((1 : Int32) &&& 31)) = (2 : Int32) from by decide]
    refine Own.g_istoreN X6 hx #[.val (.ref b), .val (.int (1 : Int32)), .val (.int (2 : Int32))] (hb hby d24_34) rfl 35 rfl ?_
    refine Own.g_iloadN X6 hx (hb hby d24_35) rfl 36 rfl ?_
    refine Own.g_iloadN X6 hx (hb hby d24_36) rfl 37 rfl ?_
    refine Own.g_callS X6 hx (y := (⟨"java/lang/String", "checkIndex", "(II)V"⟩ : MethodName)) hown (mvT hZ (hw _ (List.mem_of_getElem? (i := 114) rfl))) (mvT hZ (hw _ (List.mem_of_getElem? (i := 115) rfl))) (mvT hZ (hw _ (List.mem_of_getElem? (i := 10) rfl))) (mvT hZ (hw _ (List.mem_of_getElem? (i := 116) rfl))) (by decide) [.int (1 : Int32), .int (2 : Int32)] (Own.back (W := 0) (rm_cki l Z a0 hw [] (1 : Int32) (2 : Int32) G3 h0 n0 O O4 rG3 (by decide) (by decide)) hZ (hw _ (List.mem_of_getElem? (i := 116) rfl)) (hw _ (List.mem_of_getElem? (i := 10) rfl)) (by decide) (by decide)) e6 (by rw [hml]; rfl) [] (lenOf pd_15 rfl) rfl (Nat.le_of_ble_eq_true rfl) (hb hby d24_37) (by decide) (by decide) 40 rfl ?_
    rintro _ T7 L7 X7 ⟨rfl, N7q, eH7⟩
    have N7 := Fr.app N5 N7q
    show Own.Go p e below _ (T7.setTop (mkF m 40 #[.val (.ref b), .val (.int (1 : Int32)), .val (.int (2 : Int32))] []))
    refine Own.g_aloadN X7 hx (hb hby d24_40) rfl rfl 41 rfl ?_
    refine Own.g_getF X7 hx hZ hown (host := "") (Or.inl (hw _ (List.mem_of_getElem? (i := 28) rfl))) Via.refl eH7 F_b_value (hb hby d24_41) 44 rfl ?_
    intro T8 X8 e8
    refine Own.g_iloadN X8 hx (hb hby d24_44) rfl 45 rfl ?_
    refine Own.g_iloadN X8 hx (hb hby d24_45) rfl 46 rfl ?_
    refine Own.g_callS X8 hx (y := (⟨"java/lang/StringUTF16", "codePointAt", "([BII)I"⟩ : MethodName)) hown (mvT hZ (hw _ (List.mem_of_getElem? (i := 122) rfl))) (mvT hZ (hw _ (List.mem_of_getElem? (i := 123) rfl))) (mvT hZ (hw _ (List.mem_of_getElem? (i := 66) rfl))) (mvT hZ (hw _ (List.mem_of_getElem? (i := 124) rfl))) (by decide) [.ref t, .int (1 : Int32), .int (2 : Int32)] (Own.back (W := 0) (rm_cq3_21 l Z a0 hw [] t kt x0 x1 h0 n0 O V_t C_x0 C_x1 SA SHI SLO) hZ (hw _ (List.mem_of_getElem? (i := 124) rfl)) (hw _ (List.mem_of_getElem? (i := 66) rfl)) (by decide) (by decide)) e8 (by rw [hml]; rfl) [] (lenOf pd_16 rfl) rfl (Nat.le_of_ble_eq_true rfl) (hb hby d24_46) (by decide) (by decide) 49 rfl ?_
    rintro _ T9 L9 X9 ⟨rfl, N9q, eH9⟩
    have N9 := Fr.app N7 N9q
    show Own.Go p e below _ (T9.setTop (mkF m 49 #[.val (.ref b), .val (.int (1 : Int32)), .val (.int (2 : Int32))] [(.int x1)]))
    refine Own.g_ret X9 hx hret hlocks rfl (Or.inl ⟨rfl, by simp, _, rfl⟩) (hb hby d24_49) (by decide) (by decide) eH9 ?_
    exact ⟨rfl, N9, rfl⟩
theorem ef_cmp (m : MethodId) (x0 : Addr) (x1 : Addr) : entryFrame m #[.ref x0, .ref x1] 6 = mkF m 0 #[.val (.ref x0), .val (.ref x1), .unset, .unset, .unset, .unset] [] := by first | (simp [entryFrame, mkF, argsToLocals, Value.category]; done) | rfl
def Q_cmp (Z : State) (x : Addr) (xt : Addr) (cs : List Int32) (y : Addr) (yt : Addr) (ds : List Int32) (G1 : Int32) (G3 : Value) (h0 : Heap) (n0 : Nat) (v : Option Value) (h : Heap) (L : List Loc) : Prop := v = some (.int (Own.cmpL cs ds)) ∧ Fr n0 L ∧ h = h0
set_option maxRecDepth 65536 in
set_option maxHeartbeats 40000000 in
theorem rm_cmp (l : Launch) (Z : State) (a0 : Array Value) (hw : ∀ d ∈ tables_1, d.before a0 Z = true) (ws : List Jvm.Cond) (x : Addr) (xt : Addr) (cs : List Int32) (y : Addr) (yt : Addr) (ds : List Int32) (G1 : Int32) (G3 : Value) (h0 : Heap) (n0 : Nat) (O : Old Z n0 h0) (A_x : Own.ST Z h0 x xt cs) (hcs : Own.Shp cs) (A_y : Own.ST Z h0 y yt ds) (hds : Own.Shp ds) (SA : Sta Z Z.heap "java/lang/StringUTF16" "$assertionsDisabled" "Z" (.int 1)) (SHI : Sta Z Z.heap "java/lang/StringUTF16" "HI_BYTE_SHIFT" "I" (.int 0)) (SLO : Sta Z Z.heap "java/lang/StringUTF16" "LO_BYTE_SHIFT" "I" (.int 8)) (O2 : Sta Z Z.heap "java/lang/String" "COMPACT_STRINGS" "Z" (.int G1)) (P5 : ¬ (G1 = (0 : Int32))) (O4 : Sta Z Z.heap "jdk/internal/util/Preconditions" "SIOOBE_FORMATTER" "Ljava/util/function/BiFunction;" G3) (rG3 : G3.isRef = true) :
    MetFree l (⟨"com/example/proximity/proximity/CodePointOrder", "compare", "(Ljava/lang/String;Ljava/lang/String;)I"⟩ : MethodName) (head1 (Jvm.Cond.code (⟨"com/example/proximity/proximity/CodePointOrder", "compare", "(Ljava/lang/String;Ljava/lang/String;)I"⟩ : MethodName) prog_1_method_2_code 6 (some .int) :: ws) ({ frames := 4, cells := 0, slots := 0, locals := 90 } : Room)) (fun aa U => aa = #[.ref x, .ref y] ∧ Z.Warmed39 U.vm ∧ U.heap = h0) (fun _ _ _ _ _ => True) (fun _ U o U' => Own.End U (Q_cmp Z x xt cs y yt ds G1 G3 h0 n0) 0 0 o U') := by
  refine MetFree.of_bodySF (plainFor_of_name pn_6) hisR ?_
  intro p e s m args below meth c s₁ Bd hml0 hP hK
  obtain ⟨rfl, hZ, hh⟩ := hP
  have hx := Bd.exec
  have hby := Bd.bytes
  have hml : c.maxLocals = 6 := hml0
  have hown : s.vm.findClass "com/example/proximity/proximity/CodePointOrder" = some m.cls := findClass_of_methodNamed Bd.named
  have hnm := (name_of_methodNamed Bd.named Bd.method).1
  have hret := Bd.returns
  have hlocks : meth.locks = false := Bd.notSynchronized
  have X0 : Stand p l e ({ frames := 4, cells := 0, slots := 0, locals := 90 } : Room) s m #[.ref x, .ref y] below meth c s₁ [] 0 0 := Stand.of_body Bd
  have e0 : s₁.heap = h0 := by rw [← hh, Bd.state]; rfl
  have N0 := Fr.nil n0
  show Own.Go p e below (Own.End s (Q_cmp Z x xt cs y yt ds G1 G3 h0 n0) 0 0) (s₁.setTop (entryFrame m #[.ref x, .ref y] 6))
  refine Own.Go.eq (ef_cmp m x y) ?_
  have hcs0 := hcs
  have hds0 := hds
  obtain ⟨E_x, -⟩ := id A_x
  obtain ⟨E_y, -⟩ := id A_y
  refine Own.g_aloadN X0 hx (hb hby d9_0) rfl rfl 1 rfl ?_
  refine Own.g_virtual X0 hx hZ (y := (⟨"java/lang/String", "length", "()I"⟩ : MethodName)) (z := (⟨"java/lang/String", "length", "()I"⟩ : MethodName)) hown (mvT hZ (hw _ (List.mem_of_getElem? (i := 45) rfl))) (mvT hZ (hw _ (List.mem_of_getElem? (i := 46) rfl))) (notFace_of_selects (args := #[]) (mvT hZ (hw _ (List.mem_of_getElem? (i := 48) rfl)))) (mvT hZ (hw _ (List.mem_of_getElem? (i := 48) rfl))) (mvT hZ (hw _ (List.mem_of_getElem? (i := 47) rfl))) (by decide) (a := x) [] (Own.back (W := 0) (rm_len l Z a0 hw [] x xt cs G1 h0 n0 O A_x hcs0 O2 P5) hZ (hw _ (List.mem_of_getElem? (i := 49) rfl)) (hw _ (List.mem_of_getElem? (i := 10) rfl)) (by decide) (by decide)) E_x e0 (by rw [hml]; rfl) [] (lenOf pd_18 rfl) rfl (Nat.le_of_ble_eq_true rfl) (hb hby d9_1) (by decide) (by decide) 4 rfl ?_
  rintro _ T1 L1 X1 ⟨rfl, N1q, eH1⟩
  have N1 := Fr.app N0 N1q
  show Own.Go p e below _ (T1.setTop (mkF m 4 #[.val (.ref x), .val (.ref y), .unset, .unset, .unset, .unset] [(.int (Int32.ofNat cs.length))]))
  refine Own.g_aloadN X1 hx (hb hby d9_4) rfl rfl 5 rfl ?_
  refine Own.g_virtual X1 hx hZ (y := (⟨"java/lang/String", "length", "()I"⟩ : MethodName)) (z := (⟨"java/lang/String", "length", "()I"⟩ : MethodName)) hown (mvT hZ (hw _ (List.mem_of_getElem? (i := 45) rfl))) (mvT hZ (hw _ (List.mem_of_getElem? (i := 46) rfl))) (notFace_of_selects (args := #[]) (mvT hZ (hw _ (List.mem_of_getElem? (i := 48) rfl)))) (mvT hZ (hw _ (List.mem_of_getElem? (i := 48) rfl))) (mvT hZ (hw _ (List.mem_of_getElem? (i := 47) rfl))) (by decide) (a := y) [] (Own.back (W := 1) (rm_len l Z a0 hw [] y yt ds G1 h0 n0 O A_y hds0 O2 P5) hZ (hw _ (List.mem_of_getElem? (i := 49) rfl)) (hw _ (List.mem_of_getElem? (i := 10) rfl)) (by decide) (by decide)) E_y eH1 (by rw [hml]; rfl) [(.int (Int32.ofNat cs.length))] (lenOf pd_18 rfl) rfl (Nat.le_of_ble_eq_true rfl) (hb hby d9_5) (by decide) (by decide) 8 rfl ?_
  rintro _ T2 L2 X2 ⟨rfl, N2q, eH2⟩
  have N2 := Fr.app N1 N2q
  show Own.Go p e below _ (T2.setTop (mkF m 8 #[.val (.ref x), .val (.ref y), .unset, .unset, .unset, .unset] [(.int (Int32.ofNat ds.length)), (.int (Int32.ofNat cs.length))]))
  refine Own.g_callS X2 hx (y := (⟨"java/lang/Math", "min", "(II)I"⟩ : MethodName)) hown (mvT hZ (hw _ (List.mem_of_getElem? (i := 56) rfl))) (mvT hZ (hw _ (List.mem_of_getElem? (i := 38) rfl))) (mvT hZ (hw _ (List.mem_of_getElem? (i := 39) rfl))) (mvT hZ (hw _ (List.mem_of_getElem? (i := 40) rfl))) (by decide) [.int (Int32.ofNat cs.length), .int (Int32.ofNat ds.length)] (Own.back (W := 0) (rm_min l Z a0 hw [] (Int32.ofNat cs.length) (Int32.ofNat ds.length) h0 n0 O ) hZ (hw _ (List.mem_of_getElem? (i := 40) rfl)) (hw _ (List.mem_of_getElem? (i := 39) rfl)) (by decide) (by decide)) eH2 (by rw [hml]; rfl) [] (lenOf pd_11 rfl) rfl (Nat.le_of_ble_eq_true rfl) (hb hby d9_8) (by decide) (by decide) 11 rfl ?_
  rintro _ T3 L3 X3 ⟨rfl, N3q, eH3⟩
  have N3 := Fr.app N2 N3q
  show Own.Go p e below _ (T3.setTop (mkF m 11 #[.val (.ref x), .val (.ref y), .unset, .unset, .unset, .unset] [(.int (if Int32.ofNat ds.length < Int32.ofNat cs.length then Int32.ofNat ds.length else Int32.ofNat cs.length))]))
  refine Own.g_istoreN X3 hx #[.val (.ref x), .val (.ref y), .val (.int (if Int32.ofNat ds.length < Int32.ofNat cs.length then Int32.ofNat ds.length else Int32.ofNat cs.length)), .unset, .unset, .unset] (hb hby d9_11) rfl 12 rfl ?_
  refine Own.g_iconst X3 hx (0 : Int32) (hb hby d9_12) rfl 13 rfl ?_
  refine Own.g_istoreN X3 hx #[.val (.ref x), .val (.ref y), .val (.int (if Int32.ofNat ds.length < Int32.ofNat cs.length then Int32.ofNat ds.length else Int32.ofNat cs.length)), .val (.int (0 : Int32)), .unset, .unset] (hb hby d9_13) rfl 14 rfl ?_
  rcases hcs with rfl | ⟨xa, rfl, C_xa⟩ | ⟨xa, xb, rfl, C_xa, C_xb⟩ <;> rcases hds with rfl | ⟨ya, rfl, C_ya⟩ | ⟨ya, yb, rfl, C_ya, C_yb⟩
  · show Own.Go p e below _ (T3.setTop (mkF m 14 #[.val (.ref x), .val (.ref y), .val (.int (0 : Int32)), .val (.int (0 : Int32)), .unset, .unset] []))
    refine Own.g_iloadN X3 hx (hb hby d9_14) rfl 15 rfl ?_
    refine Own.g_iloadN X3 hx (hb hby d9_15) rfl 16 rfl ?_
    refine Own.g_icmp_ge_t X3 hx (hb hby d9_16) (by decide) 59 (by decide) ?_
    refine Own.g_aloadN X3 hx (hb hby d9_59) rfl rfl 60 rfl ?_
    refine Own.g_virtual X3 hx hZ (y := (⟨"java/lang/String", "length", "()I"⟩ : MethodName)) (z := (⟨"java/lang/String", "length", "()I"⟩ : MethodName)) hown (mvT hZ (hw _ (List.mem_of_getElem? (i := 45) rfl))) (mvT hZ (hw _ (List.mem_of_getElem? (i := 46) rfl))) (notFace_of_selects (args := #[]) (mvT hZ (hw _ (List.mem_of_getElem? (i := 48) rfl)))) (mvT hZ (hw _ (List.mem_of_getElem? (i := 48) rfl))) (mvT hZ (hw _ (List.mem_of_getElem? (i := 47) rfl))) (by decide) (a := x) [] (Own.back (W := 0) (rm_len l Z a0 hw [] x xt ([] : List Int32) G1 h0 n0 O A_x hcs0 O2 P5) hZ (hw _ (List.mem_of_getElem? (i := 49) rfl)) (hw _ (List.mem_of_getElem? (i := 10) rfl)) (by decide) (by decide)) E_x eH3 (by rw [hml]; rfl) [] (lenOf pd_18 rfl) rfl (Nat.le_of_ble_eq_true rfl) (hb hby d9_60) (by decide) (by decide) 63 rfl ?_
    rintro _ T4 L4 X4 ⟨rfl, N4q, eH4⟩
    have N4 := Fr.app N3 N4q
    show Own.Go p e below _ (T4.setTop (mkF m 63 #[.val (.ref x), .val (.ref y), .val (.int (0 : Int32)), .val (.int (0 : Int32)), .unset, .unset] [(.int (0 : Int32))]))
    refine Own.g_aloadN X4 hx (hb hby d9_63) rfl rfl 64 rfl ?_
    refine Own.g_virtual X4 hx hZ (y := (⟨"java/lang/String", "length", "()I"⟩ : MethodName)) (z := (⟨"java/lang/String", "length", "()I"⟩ : MethodName)) hown (mvT hZ (hw _ (List.mem_of_getElem? (i := 45) rfl))) (mvT hZ (hw _ (List.mem_of_getElem? (i := 46) rfl))) (notFace_of_selects (args := #[]) (mvT hZ (hw _ (List.mem_of_getElem? (i := 48) rfl)))) (mvT hZ (hw _ (List.mem_of_getElem? (i := 48) rfl))) (mvT hZ (hw _ (List.mem_of_getElem? (i := 47) rfl))) (by decide) (a := y) [] (Own.back (W := 1) (rm_len l Z a0 hw [] y yt ([] : List Int32) G1 h0 n0 O A_y hds0 O2 P5) hZ (hw _ (List.mem_of_getElem? (i := 49) rfl)) (hw _ (List.mem_of_getElem? (i := 10) rfl)) (by decide) (by decide)) E_y eH4 (by rw [hml]; rfl) [(.int (0 : Int32))] (lenOf pd_18 rfl) rfl (Nat.le_of_ble_eq_true rfl) (hb hby d9_64) (by decide) (by decide) 67 rfl ?_
    rintro _ T5 L5 X5 ⟨rfl, N5q, eH5⟩
    have N5 := Fr.app N4 N5q
    show Own.Go p e below _ (T5.setTop (mkF m 67 #[.val (.ref x), .val (.ref y), .val (.int (0 : Int32)), .val (.int (0 : Int32)), .unset, .unset] [(.int (0 : Int32)), (.int (0 : Int32))]))
    refine Own.g_callS X5 hx (y := (⟨"java/lang/Integer", "compare", "(II)I"⟩ : MethodName)) hown (mvT hZ (hw _ (List.mem_of_getElem? (i := 57) rfl))) (mvT hZ (hw _ (List.mem_of_getElem? (i := 58) rfl))) (mvT hZ (hw _ (List.mem_of_getElem? (i := 59) rfl))) (mvT hZ (hw _ (List.mem_of_getElem? (i := 60) rfl))) (by decide) [.int (0 : Int32), .int (0 : Int32)] (Own.back (W := 0) (rm_icm l Z a0 hw [] (0 : Int32) (0 : Int32) h0 n0 O ) hZ (hw _ (List.mem_of_getElem? (i := 60) rfl)) (hw _ (List.mem_of_getElem? (i := 59) rfl)) (by decide) (by decide)) eH5 (by rw [hml]; rfl) [] (lenOf pd_11 rfl) rfl (Nat.le_of_ble_eq_true rfl) (hb hby d9_67) (by decide) (by decide) 70 rfl ?_
    rintro _ T6 L6 X6 ⟨rfl, N6q, eH6⟩
    have N6 := Fr.app N5 N6q
    show Own.Go p e below _ (T6.setTop (mkF m 70 #[.val (.ref x), .val (.ref y), .val (.int (0 : Int32)), .val (.int (0 : Int32)), .unset, .unset] [(.int (Own.icmp 0 0))]))
    refine Own.g_ret X6 hx hret hlocks rfl (Or.inl ⟨rfl, by simp, _, rfl⟩) (hb hby d9_70) (by decide) (by decide) eH6 ?_
    exact ⟨congrArg (fun q => some (Value.int q)) (Eq.symm (show Own.cmpL ([] : List Int32) ([] : List Int32) = Own.icmp 0 0 from rfl)), N6, rfl⟩
  · show Own.Go p e below _ (T3.setTop (mkF m 14 #[.val (.ref x), .val (.ref y), .val (.int (0 : Int32)), .val (.int (0 : Int32)), .unset, .unset] []))
    refine Own.g_iloadN X3 hx (hb hby d9_14) rfl 15 rfl ?_
    refine Own.g_iloadN X3 hx (hb hby d9_15) rfl 16 rfl ?_
    refine Own.g_icmp_ge_t X3 hx (hb hby d9_16) (by decide) 59 (by decide) ?_
    refine Own.g_aloadN X3 hx (hb hby d9_59) rfl rfl 60 rfl ?_
    refine Own.g_virtual X3 hx hZ (y := (⟨"java/lang/String", "length", "()I"⟩ : MethodName)) (z := (⟨"java/lang/String", "length", "()I"⟩ : MethodName)) hown (mvT hZ (hw _ (List.mem_of_getElem? (i := 45) rfl))) (mvT hZ (hw _ (List.mem_of_getElem? (i := 46) rfl))) (notFace_of_selects (args := #[]) (mvT hZ (hw _ (List.mem_of_getElem? (i := 48) rfl)))) (mvT hZ (hw _ (List.mem_of_getElem? (i := 48) rfl))) (mvT hZ (hw _ (List.mem_of_getElem? (i := 47) rfl))) (by decide) (a := x) [] (Own.back (W := 0) (rm_len l Z a0 hw [] x xt ([] : List Int32) G1 h0 n0 O A_x hcs0 O2 P5) hZ (hw _ (List.mem_of_getElem? (i := 49) rfl)) (hw _ (List.mem_of_getElem? (i := 10) rfl)) (by decide) (by decide)) E_x eH3 (by rw [hml]; rfl) [] (lenOf pd_18 rfl) rfl (Nat.le_of_ble_eq_true rfl) (hb hby d9_60) (by decide) (by decide) 63 rfl ?_
    rintro _ T7 L7 X7 ⟨rfl, N7q, eH7⟩
    have N7 := Fr.app N3 N7q
    show Own.Go p e below _ (T7.setTop (mkF m 63 #[.val (.ref x), .val (.ref y), .val (.int (0 : Int32)), .val (.int (0 : Int32)), .unset, .unset] [(.int (0 : Int32))]))
    refine Own.g_aloadN X7 hx (hb hby d9_63) rfl rfl 64 rfl ?_
    refine Own.g_virtual X7 hx hZ (y := (⟨"java/lang/String", "length", "()I"⟩ : MethodName)) (z := (⟨"java/lang/String", "length", "()I"⟩ : MethodName)) hown (mvT hZ (hw _ (List.mem_of_getElem? (i := 45) rfl))) (mvT hZ (hw _ (List.mem_of_getElem? (i := 46) rfl))) (notFace_of_selects (args := #[]) (mvT hZ (hw _ (List.mem_of_getElem? (i := 48) rfl)))) (mvT hZ (hw _ (List.mem_of_getElem? (i := 48) rfl))) (mvT hZ (hw _ (List.mem_of_getElem? (i := 47) rfl))) (by decide) (a := y) [] (Own.back (W := 1) (rm_len l Z a0 hw [] y yt [ya] G1 h0 n0 O A_y hds0 O2 P5) hZ (hw _ (List.mem_of_getElem? (i := 49) rfl)) (hw _ (List.mem_of_getElem? (i := 10) rfl)) (by decide) (by decide)) E_y eH7 (by rw [hml]; rfl) [(.int (0 : Int32))] (lenOf pd_18 rfl) rfl (Nat.le_of_ble_eq_true rfl) (hb hby d9_64) (by decide) (by decide) 67 rfl ?_
    rintro _ T8 L8 X8 ⟨rfl, N8q, eH8⟩
    have N8 := Fr.app N7 N8q
    show Own.Go p e below _ (T8.setTop (mkF m 67 #[.val (.ref x), .val (.ref y), .val (.int (0 : Int32)), .val (.int (0 : Int32)), .unset, .unset] [(.int (1 : Int32)), (.int (0 : Int32))]))
    refine Own.g_callS X8 hx (y := (⟨"java/lang/Integer", "compare", "(II)I"⟩ : MethodName)) hown (mvT hZ (hw _ (List.mem_of_getElem? (i := 57) rfl))) (mvT hZ (hw _ (List.mem_of_getElem? (i := 58) rfl))) (mvT hZ (hw _ (List.mem_of_getElem? (i := 59) rfl))) (mvT hZ (hw _ (List.mem_of_getElem? (i := 60) rfl))) (by decide) [.int (0 : Int32), .int (1 : Int32)] (Own.back (W := 0) (rm_icm l Z a0 hw [] (0 : Int32) (1 : Int32) h0 n0 O ) hZ (hw _ (List.mem_of_getElem? (i := 60) rfl)) (hw _ (List.mem_of_getElem? (i := 59) rfl)) (by decide) (by decide)) eH8 (by rw [hml]; rfl) [] (lenOf pd_11 rfl) rfl (Nat.le_of_ble_eq_true rfl) (hb hby d9_67) (by decide) (by decide) 70 rfl ?_
    rintro _ T9 L9 X9 ⟨rfl, N9q, eH9⟩
    have N9 := Fr.app N8 N9q
    show Own.Go p e below _ (T9.setTop (mkF m 70 #[.val (.ref x), .val (.ref y), .val (.int (0 : Int32)), .val (.int (0 : Int32)), .unset, .unset] [(.int (Own.icmp 0 1))]))
    refine Own.g_ret X9 hx hret hlocks rfl (Or.inl ⟨rfl, by simp, _, rfl⟩) (hb hby d9_70) (by decide) (by decide) eH9 ?_
    exact ⟨congrArg (fun q => some (Value.int q)) (Eq.symm (show Own.cmpL ([] : List Int32) [ya] = Own.icmp 0 1 from rfl)), N9, rfl⟩
  · show Own.Go p e below _ (T3.setTop (mkF m 14 #[.val (.ref x), .val (.ref y), .val (.int (0 : Int32)), .val (.int (0 : Int32)), .unset, .unset] []))
    refine Own.g_iloadN X3 hx (hb hby d9_14) rfl 15 rfl ?_
    refine Own.g_iloadN X3 hx (hb hby d9_15) rfl 16 rfl ?_
    refine Own.g_icmp_ge_t X3 hx (hb hby d9_16) (by decide) 59 (by decide) ?_
    refine Own.g_aloadN X3 hx (hb hby d9_59) rfl rfl 60 rfl ?_
    refine Own.g_virtual X3 hx hZ (y := (⟨"java/lang/String", "length", "()I"⟩ : MethodName)) (z := (⟨"java/lang/String", "length", "()I"⟩ : MethodName)) hown (mvT hZ (hw _ (List.mem_of_getElem? (i := 45) rfl))) (mvT hZ (hw _ (List.mem_of_getElem? (i := 46) rfl))) (notFace_of_selects (args := #[]) (mvT hZ (hw _ (List.mem_of_getElem? (i := 48) rfl)))) (mvT hZ (hw _ (List.mem_of_getElem? (i := 48) rfl))) (mvT hZ (hw _ (List.mem_of_getElem? (i := 47) rfl))) (by decide) (a := x) [] (Own.back (W := 0) (rm_len l Z a0 hw [] x xt ([] : List Int32) G1 h0 n0 O A_x hcs0 O2 P5) hZ (hw _ (List.mem_of_getElem? (i := 49) rfl)) (hw _ (List.mem_of_getElem? (i := 10) rfl)) (by decide) (by decide)) E_x eH3 (by rw [hml]; rfl) [] (lenOf pd_18 rfl) rfl (Nat.le_of_ble_eq_true rfl) (hb hby d9_60) (by decide) (by decide) 63 rfl ?_
    rintro _ T10 L10 X10 ⟨rfl, N10q, eH10⟩
    have N10 := Fr.app N3 N10q
    show Own.Go p e below _ (T10.setTop (mkF m 63 #[.val (.ref x), .val (.ref y), .val (.int (0 : Int32)), .val (.int (0 : Int32)), .unset, .unset] [(.int (0 : Int32))]))
    refine Own.g_aloadN X10 hx (hb hby d9_63) rfl rfl 64 rfl ?_
    refine Own.g_virtual X10 hx hZ (y := (⟨"java/lang/String", "length", "()I"⟩ : MethodName)) (z := (⟨"java/lang/String", "length", "()I"⟩ : MethodName)) hown (mvT hZ (hw _ (List.mem_of_getElem? (i := 45) rfl))) (mvT hZ (hw _ (List.mem_of_getElem? (i := 46) rfl))) (notFace_of_selects (args := #[]) (mvT hZ (hw _ (List.mem_of_getElem? (i := 48) rfl)))) (mvT hZ (hw _ (List.mem_of_getElem? (i := 48) rfl))) (mvT hZ (hw _ (List.mem_of_getElem? (i := 47) rfl))) (by decide) (a := y) [] (Own.back (W := 1) (rm_len l Z a0 hw [] y yt [ya, yb] G1 h0 n0 O A_y hds0 O2 P5) hZ (hw _ (List.mem_of_getElem? (i := 49) rfl)) (hw _ (List.mem_of_getElem? (i := 10) rfl)) (by decide) (by decide)) E_y eH10 (by rw [hml]; rfl) [(.int (0 : Int32))] (lenOf pd_18 rfl) rfl (Nat.le_of_ble_eq_true rfl) (hb hby d9_64) (by decide) (by decide) 67 rfl ?_
    rintro _ T11 L11 X11 ⟨rfl, N11q, eH11⟩
    have N11 := Fr.app N10 N11q
    show Own.Go p e below _ (T11.setTop (mkF m 67 #[.val (.ref x), .val (.ref y), .val (.int (0 : Int32)), .val (.int (0 : Int32)), .unset, .unset] [(.int (2 : Int32)), (.int (0 : Int32))]))
    refine Own.g_callS X11 hx (y := (⟨"java/lang/Integer", "compare", "(II)I"⟩ : MethodName)) hown (mvT hZ (hw _ (List.mem_of_getElem? (i := 57) rfl))) (mvT hZ (hw _ (List.mem_of_getElem? (i := 58) rfl))) (mvT hZ (hw _ (List.mem_of_getElem? (i := 59) rfl))) (mvT hZ (hw _ (List.mem_of_getElem? (i := 60) rfl))) (by decide) [.int (0 : Int32), .int (2 : Int32)] (Own.back (W := 0) (rm_icm l Z a0 hw [] (0 : Int32) (2 : Int32) h0 n0 O ) hZ (hw _ (List.mem_of_getElem? (i := 60) rfl)) (hw _ (List.mem_of_getElem? (i := 59) rfl)) (by decide) (by decide)) eH11 (by rw [hml]; rfl) [] (lenOf pd_11 rfl) rfl (Nat.le_of_ble_eq_true rfl) (hb hby d9_67) (by decide) (by decide) 70 rfl ?_
    rintro _ T12 L12 X12 ⟨rfl, N12q, eH12⟩
    have N12 := Fr.app N11 N12q
    show Own.Go p e below _ (T12.setTop (mkF m 70 #[.val (.ref x), .val (.ref y), .val (.int (0 : Int32)), .val (.int (0 : Int32)), .unset, .unset] [(.int (Own.icmp 0 2))]))
    refine Own.g_ret X12 hx hret hlocks rfl (Or.inl ⟨rfl, by simp, _, rfl⟩) (hb hby d9_70) (by decide) (by decide) eH12 ?_
    exact ⟨congrArg (fun q => some (Value.int q)) (Eq.symm (show Own.cmpL ([] : List Int32) [ya, yb] = Own.icmp 0 2 from rfl)), N12, rfl⟩
  · show Own.Go p e below _ (T3.setTop (mkF m 14 #[.val (.ref x), .val (.ref y), .val (.int (0 : Int32)), .val (.int (0 : Int32)), .unset, .unset] []))
    refine Own.g_iloadN X3 hx (hb hby d9_14) rfl 15 rfl ?_
    refine Own.g_iloadN X3 hx (hb hby d9_15) rfl 16 rfl ?_
    refine Own.g_icmp_ge_t X3 hx (hb hby d9_16) (by decide) 59 (by decide) ?_
    refine Own.g_aloadN X3 hx (hb hby d9_59) rfl rfl 60 rfl ?_
    refine Own.g_virtual X3 hx hZ (y := (⟨"java/lang/String", "length", "()I"⟩ : MethodName)) (z := (⟨"java/lang/String", "length", "()I"⟩ : MethodName)) hown (mvT hZ (hw _ (List.mem_of_getElem? (i := 45) rfl))) (mvT hZ (hw _ (List.mem_of_getElem? (i := 46) rfl))) (notFace_of_selects (args := #[]) (mvT hZ (hw _ (List.mem_of_getElem? (i := 48) rfl)))) (mvT hZ (hw _ (List.mem_of_getElem? (i := 48) rfl))) (mvT hZ (hw _ (List.mem_of_getElem? (i := 47) rfl))) (by decide) (a := x) [] (Own.back (W := 0) (rm_len l Z a0 hw [] x xt [xa] G1 h0 n0 O A_x hcs0 O2 P5) hZ (hw _ (List.mem_of_getElem? (i := 49) rfl)) (hw _ (List.mem_of_getElem? (i := 10) rfl)) (by decide) (by decide)) E_x eH3 (by rw [hml]; rfl) [] (lenOf pd_18 rfl) rfl (Nat.le_of_ble_eq_true rfl) (hb hby d9_60) (by decide) (by decide) 63 rfl ?_
    rintro _ T13 L13 X13 ⟨rfl, N13q, eH13⟩
    have N13 := Fr.app N3 N13q
    show Own.Go p e below _ (T13.setTop (mkF m 63 #[.val (.ref x), .val (.ref y), .val (.int (0 : Int32)), .val (.int (0 : Int32)), .unset, .unset] [(.int (1 : Int32))]))
    refine Own.g_aloadN X13 hx (hb hby d9_63) rfl rfl 64 rfl ?_
    refine Own.g_virtual X13 hx hZ (y := (⟨"java/lang/String", "length", "()I"⟩ : MethodName)) (z := (⟨"java/lang/String", "length", "()I"⟩ : MethodName)) hown (mvT hZ (hw _ (List.mem_of_getElem? (i := 45) rfl))) (mvT hZ (hw _ (List.mem_of_getElem? (i := 46) rfl))) (notFace_of_selects (args := #[]) (mvT hZ (hw _ (List.mem_of_getElem? (i := 48) rfl)))) (mvT hZ (hw _ (List.mem_of_getElem? (i := 48) rfl))) (mvT hZ (hw _ (List.mem_of_getElem? (i := 47) rfl))) (by decide) (a := y) [] (Own.back (W := 1) (rm_len l Z a0 hw [] y yt ([] : List Int32) G1 h0 n0 O A_y hds0 O2 P5) hZ (hw _ (List.mem_of_getElem? (i := 49) rfl)) (hw _ (List.mem_of_getElem? (i := 10) rfl)) (by decide) (by decide)) E_y eH13 (by rw [hml]; rfl) [(.int (1 : Int32))] (lenOf pd_18 rfl) rfl (Nat.le_of_ble_eq_true rfl) (hb hby d9_64) (by decide) (by decide) 67 rfl ?_
    rintro _ T14 L14 X14 ⟨rfl, N14q, eH14⟩
    have N14 := Fr.app N13 N14q
    show Own.Go p e below _ (T14.setTop (mkF m 67 #[.val (.ref x), .val (.ref y), .val (.int (0 : Int32)), .val (.int (0 : Int32)), .unset, .unset] [(.int (0 : Int32)), (.int (1 : Int32))]))
    refine Own.g_callS X14 hx (y := (⟨"java/lang/Integer", "compare", "(II)I"⟩ : MethodName)) hown (mvT hZ (hw _ (List.mem_of_getElem? (i := 57) rfl))) (mvT hZ (hw _ (List.mem_of_getElem? (i := 58) rfl))) (mvT hZ (hw _ (List.mem_of_getElem? (i := 59) rfl))) (mvT hZ (hw _ (List.mem_of_getElem? (i := 60) rfl))) (by decide) [.int (1 : Int32), .int (0 : Int32)] (Own.back (W := 0) (rm_icm l Z a0 hw [] (1 : Int32) (0 : Int32) h0 n0 O ) hZ (hw _ (List.mem_of_getElem? (i := 60) rfl)) (hw _ (List.mem_of_getElem? (i := 59) rfl)) (by decide) (by decide)) eH14 (by rw [hml]; rfl) [] (lenOf pd_11 rfl) rfl (Nat.le_of_ble_eq_true rfl) (hb hby d9_67) (by decide) (by decide) 70 rfl ?_
    rintro _ T15 L15 X15 ⟨rfl, N15q, eH15⟩
    have N15 := Fr.app N14 N15q
    show Own.Go p e below _ (T15.setTop (mkF m 70 #[.val (.ref x), .val (.ref y), .val (.int (0 : Int32)), .val (.int (0 : Int32)), .unset, .unset] [(.int (Own.icmp 1 0))]))
    refine Own.g_ret X15 hx hret hlocks rfl (Or.inl ⟨rfl, by simp, _, rfl⟩) (hb hby d9_70) (by decide) (by decide) eH15 ?_
    exact ⟨congrArg (fun q => some (Value.int q)) (Eq.symm (show Own.cmpL [xa] ([] : List Int32) = Own.icmp 1 0 from rfl)), N15, rfl⟩
  · show Own.Go p e below _ (T3.setTop (mkF m 14 #[.val (.ref x), .val (.ref y), .val (.int (1 : Int32)), .val (.int (0 : Int32)), .unset, .unset] []))
    refine Own.g_iloadN X3 hx (hb hby d9_14) rfl 15 rfl ?_
    refine Own.g_iloadN X3 hx (hb hby d9_15) rfl 16 rfl ?_
    refine Own.g_icmp_ge_f X3 hx (hb hby d9_16) (by decide) 19 rfl ?_
    refine Own.g_aloadN X3 hx (hb hby d9_19) rfl rfl 20 rfl ?_
    refine Own.g_iloadN X3 hx (hb hby d9_20) rfl 21 rfl ?_
    refine Own.g_virtual X3 hx hZ (y := (⟨"java/lang/String", "codePointAt", "(I)I"⟩ : MethodName)) (z := (⟨"java/lang/String", "codePointAt", "(I)I"⟩ : MethodName)) hown (mvT hZ (hw _ (List.mem_of_getElem? (i := 104) rfl))) (mvT hZ (hw _ (List.mem_of_getElem? (i := 105) rfl))) (notFace_of_selects (args := #[]) (mvT hZ (hw _ (List.mem_of_getElem? (i := 107) rfl)))) (mvT hZ (hw _ (List.mem_of_getElem? (i := 107) rfl))) (mvT hZ (hw _ (List.mem_of_getElem? (i := 106) rfl))) (by decide) (a := x) [.int (0 : Int32)] (Own.back (W := 0) (rm_cpa_10 l Z a0 hw [] x xt xa G1 G3 h0 n0 O A_x C_xa SA SHI SLO O2 P5 O4 rG3) hZ (hw _ (List.mem_of_getElem? (i := 108) rfl)) (hw _ (List.mem_of_getElem? (i := 10) rfl)) (by decide) (by decide)) E_x eH3 (by rw [hml]; rfl) [] (lenOf pd_2 rfl) rfl (Nat.le_of_ble_eq_true rfl) (hb hby d9_21) (by decide) (by decide) 24 rfl ?_
    rintro _ T16 L16 X16 ⟨rfl, N16q, eH16⟩
    have N16 := Fr.app N3 N16q
    show Own.Go p e below _ (T16.setTop (mkF m 24 #[.val (.ref x), .val (.ref y), .val (.int (1 : Int32)), .val (.int (0 : Int32)), .unset, .unset] [(.int xa)]))
    refine Own.g_istore X16 hx #[.val (.ref x), .val (.ref y), .val (.int (1 : Int32)), .val (.int (0 : Int32)), .val (.int xa), .unset] (hb hby d9_24) rfl 26 rfl ?_
    refine Own.g_aloadN X16 hx (hb hby d9_26) rfl rfl 27 rfl ?_
    refine Own.g_iloadN X16 hx (hb hby d9_27) rfl 28 rfl ?_
    refine Own.g_virtual X16 hx hZ (y := (⟨"java/lang/String", "codePointAt", "(I)I"⟩ : MethodName)) (z := (⟨"java/lang/String", "codePointAt", "(I)I"⟩ : MethodName)) hown (mvT hZ (hw _ (List.mem_of_getElem? (i := 104) rfl))) (mvT hZ (hw _ (List.mem_of_getElem? (i := 105) rfl))) (notFace_of_selects (args := #[]) (mvT hZ (hw _ (List.mem_of_getElem? (i := 107) rfl)))) (mvT hZ (hw _ (List.mem_of_getElem? (i := 107) rfl))) (mvT hZ (hw _ (List.mem_of_getElem? (i := 106) rfl))) (by decide) (a := y) [.int (0 : Int32)] (Own.back (W := 0) (rm_cpa_10 l Z a0 hw [] y yt ya G1 G3 h0 n0 O A_y C_ya SA SHI SLO O2 P5 O4 rG3) hZ (hw _ (List.mem_of_getElem? (i := 108) rfl)) (hw _ (List.mem_of_getElem? (i := 10) rfl)) (by decide) (by decide)) E_y eH16 (by rw [hml]; rfl) [] (lenOf pd_2 rfl) rfl (Nat.le_of_ble_eq_true rfl) (hb hby d9_28) (by decide) (by decide) 31 rfl ?_
    rintro _ T17 L17 X17 ⟨rfl, N17q, eH17⟩
    have N17 := Fr.app N16 N17q
    show Own.Go p e below _ (T17.setTop (mkF m 31 #[.val (.ref x), .val (.ref y), .val (.int (1 : Int32)), .val (.int (0 : Int32)), .val (.int xa), .unset] [(.int ya)]))
    refine Own.g_istore X17 hx #[.val (.ref x), .val (.ref y), .val (.int (1 : Int32)), .val (.int (0 : Int32)), .val (.int xa), .val (.int ya)] (hb hby d9_31) rfl 33 rfl ?_
    refine Own.g_iload X17 hx (hb hby d9_33) rfl 35 rfl ?_
    refine Own.g_iload X17 hx (hb hby d9_35) rfl 37 rfl ?_
    refine Own.g_icmp_eq X17 hx (hb hby d9_37) 48 40 (by decide) rfl ?_ ?_
    · intro hq1
      refine Own.g_iloadN X17 hx (hb hby d9_48) rfl 49 rfl ?_
      refine Own.g_iload X17 hx (hb hby d9_49) rfl 51 rfl ?_
      refine Own.g_callS X17 hx (y := (⟨"java/lang/Character", "charCount", "(I)I"⟩ : MethodName)) hown (mvT hZ (hw _ (List.mem_of_getElem? (i := 142) rfl))) (mvT hZ (hw _ (List.mem_of_getElem? (i := 143) rfl))) (mvT hZ (hw _ (List.mem_of_getElem? (i := 130) rfl))) (mvT hZ (hw _ (List.mem_of_getElem? (i := 144) rfl))) (by decide) [.int xa] (Own.back (W := 1) (rm_chc l Z a0 hw [] xa h0 n0 O ) hZ (hw _ (List.mem_of_getElem? (i := 144) rfl)) (hw _ (List.mem_of_getElem? (i := 130) rfl)) (by decide) (by decide)) eH17 (by rw [hml]; rfl) [(.int (0 : Int32))] (lenOf pd_2 rfl) rfl (Nat.le_of_ble_eq_true rfl) (hb hby d9_51) (by decide) (by decide) 54 rfl ?_
      rintro _ T19 L19 X19 ⟨rfl, N19q, eH19⟩
      have N19 := Fr.app N17 N19q
      show Own.Go p e below _ (T19.setTop (mkF m 54 #[.val (.ref x), .val (.ref y), .val (.int (1 : Int32)), .val (.int (0 : Int32)), .val (.int xa), .val (.int ya)] [(.int (if xa < 65536 then 1 else 2)), (.int (0 : Int32))]))
      by_cases hq2 : xa < 65536
      · rw [if_pos hq2]
        show Own.Go p e below _ (T19.setTop (mkF m 54 #[.val (.ref x), .val (.ref y), .val (.int (1 : Int32)), .val (.int (0 : Int32)), .val (.int xa), .val (.int ya)] [(.int (1 : Int32)), (.int (0 : Int32))]))
        refine Own.g_iadd X19 hx (hb hby d9_54) 55 rfl ?_
        rw [show ((0 : Int32) + (1 : Int32)) = (1 : Int32) from by decide]
        refine Own.g_istoreN X19 hx #[.val (.ref x), .val (.ref y), .val (.int (1 : Int32)), .val (.int (1 : Int32)), .val (.int xa), .val (.int ya)] (hb hby d9_55) rfl 56 rfl ?_
        refine Own.g_goto X19 hx (hb hby d9_56) 14 (by decide) ?_
        refine Own.g_iloadN X19 hx (hb hby d9_14) rfl 15 rfl ?_
        refine Own.g_iloadN X19 hx (hb hby d9_15) rfl 16 rfl ?_
        refine Own.g_icmp_ge_t X19 hx (hb hby d9_16) (by decide) 59 (by decide) ?_
        refine Own.g_aloadN X19 hx (hb hby d9_59) rfl rfl 60 rfl ?_
        refine Own.g_virtual X19 hx hZ (y := (⟨"java/lang/String", "length", "()I"⟩ : MethodName)) (z := (⟨"java/lang/String", "length", "()I"⟩ : MethodName)) hown (mvT hZ (hw _ (List.mem_of_getElem? (i := 45) rfl))) (mvT hZ (hw _ (List.mem_of_getElem? (i := 46) rfl))) (notFace_of_selects (args := #[]) (mvT hZ (hw _ (List.mem_of_getElem? (i := 48) rfl)))) (mvT hZ (hw _ (List.mem_of_getElem? (i := 48) rfl))) (mvT hZ (hw _ (List.mem_of_getElem? (i := 47) rfl))) (by decide) (a := x) [] (Own.back (W := 0) (rm_len l Z a0 hw [] x xt [xa] G1 h0 n0 O A_x hcs0 O2 P5) hZ (hw _ (List.mem_of_getElem? (i := 49) rfl)) (hw _ (List.mem_of_getElem? (i := 10) rfl)) (by decide) (by decide)) E_x eH19 (by rw [hml]; rfl) [] (lenOf pd_18 rfl) rfl (Nat.le_of_ble_eq_true rfl) (hb hby d9_60) (by decide) (by decide) 63 rfl ?_
        rintro _ T20 L20 X20 ⟨rfl, N20q, eH20⟩
        have N20 := Fr.app N19 N20q
        show Own.Go p e below _ (T20.setTop (mkF m 63 #[.val (.ref x), .val (.ref y), .val (.int (1 : Int32)), .val (.int (1 : Int32)), .val (.int xa), .val (.int ya)] [(.int (1 : Int32))]))
        refine Own.g_aloadN X20 hx (hb hby d9_63) rfl rfl 64 rfl ?_
        refine Own.g_virtual X20 hx hZ (y := (⟨"java/lang/String", "length", "()I"⟩ : MethodName)) (z := (⟨"java/lang/String", "length", "()I"⟩ : MethodName)) hown (mvT hZ (hw _ (List.mem_of_getElem? (i := 45) rfl))) (mvT hZ (hw _ (List.mem_of_getElem? (i := 46) rfl))) (notFace_of_selects (args := #[]) (mvT hZ (hw _ (List.mem_of_getElem? (i := 48) rfl)))) (mvT hZ (hw _ (List.mem_of_getElem? (i := 48) rfl))) (mvT hZ (hw _ (List.mem_of_getElem? (i := 47) rfl))) (by decide) (a := y) [] (Own.back (W := 1) (rm_len l Z a0 hw [] y yt [ya] G1 h0 n0 O A_y hds0 O2 P5) hZ (hw _ (List.mem_of_getElem? (i := 49) rfl)) (hw _ (List.mem_of_getElem? (i := 10) rfl)) (by decide) (by decide)) E_y eH20 (by rw [hml]; rfl) [(.int (1 : Int32))] (lenOf pd_18 rfl) rfl (Nat.le_of_ble_eq_true rfl) (hb hby d9_64) (by decide) (by decide) 67 rfl ?_
        rintro _ T21 L21 X21 ⟨rfl, N21q, eH21⟩
        have N21 := Fr.app N20 N21q
        show Own.Go p e below _ (T21.setTop (mkF m 67 #[.val (.ref x), .val (.ref y), .val (.int (1 : Int32)), .val (.int (1 : Int32)), .val (.int xa), .val (.int ya)] [(.int (1 : Int32)), (.int (1 : Int32))]))
        refine Own.g_callS X21 hx (y := (⟨"java/lang/Integer", "compare", "(II)I"⟩ : MethodName)) hown (mvT hZ (hw _ (List.mem_of_getElem? (i := 57) rfl))) (mvT hZ (hw _ (List.mem_of_getElem? (i := 58) rfl))) (mvT hZ (hw _ (List.mem_of_getElem? (i := 59) rfl))) (mvT hZ (hw _ (List.mem_of_getElem? (i := 60) rfl))) (by decide) [.int (1 : Int32), .int (1 : Int32)] (Own.back (W := 0) (rm_icm l Z a0 hw [] (1 : Int32) (1 : Int32) h0 n0 O ) hZ (hw _ (List.mem_of_getElem? (i := 60) rfl)) (hw _ (List.mem_of_getElem? (i := 59) rfl)) (by decide) (by decide)) eH21 (by rw [hml]; rfl) [] (lenOf pd_11 rfl) rfl (Nat.le_of_ble_eq_true rfl) (hb hby d9_67) (by decide) (by decide) 70 rfl ?_
        rintro _ T22 L22 X22 ⟨rfl, N22q, eH22⟩
        have N22 := Fr.app N21 N22q
        show Own.Go p e below _ (T22.setTop (mkF m 70 #[.val (.ref x), .val (.ref y), .val (.int (1 : Int32)), .val (.int (1 : Int32)), .val (.int xa), .val (.int ya)] [(.int (Own.icmp 1 1))]))
        refine Own.g_ret X22 hx hret hlocks rfl (Or.inl ⟨rfl, by simp, _, rfl⟩) (hb hby d9_70) (by decide) (by decide) eH22 ?_
        exact ⟨congrArg (fun q => some (Value.int q)) (Eq.symm (show Own.cmpL [xa] [ya] = Own.icmp 1 1 from if_pos hq1)), N22, rfl⟩
      · rw [if_neg hq2]
        show Own.Go p e below _ (T19.setTop (mkF m 54 #[.val (.ref x), .val (.ref y), .val (.int (1 : Int32)), .val (.int (0 : Int32)), .val (.int xa), .val (.int ya)] [(.int (2 : Int32)), (.int (0 : Int32))]))
        refine Own.g_iadd X19 hx (hb hby d9_54) 55 rfl ?_
        rw [show ((0 : Int32) + (2 : Int32)) = (2 : Int32) from by decide]
        refine Own.g_istoreN X19 hx #[.val (.ref x), .val (.ref y), .val (.int (1 : Int32)), .val (.int (2 : Int32)), .val (.int xa), .val (.int ya)] (hb hby d9_55) rfl 56 rfl ?_
        refine Own.g_goto X19 hx (hb hby d9_56) 14 (by decide) ?_
        refine Own.g_iloadN X19 hx (hb hby d9_14) rfl 15 rfl ?_
        refine Own.g_iloadN X19 hx (hb hby d9_15) rfl 16 rfl ?_
        refine Own.g_icmp_ge_t X19 hx (hb hby d9_16) (by decide) 59 (by decide) ?_
        refine Own.g_aloadN X19 hx (hb hby d9_59) rfl rfl 60 rfl ?_
        refine Own.g_virtual X19 hx hZ (y := (⟨"java/lang/String", "length", "()I"⟩ : MethodName)) (z := (⟨"java/lang/String", "length", "()I"⟩ : MethodName)) hown (mvT hZ (hw _ (List.mem_of_getElem? (i := 45) rfl))) (mvT hZ (hw _ (List.mem_of_getElem? (i := 46) rfl))) (notFace_of_selects (args := #[]) (mvT hZ (hw _ (List.mem_of_getElem? (i := 48) rfl)))) (mvT hZ (hw _ (List.mem_of_getElem? (i := 48) rfl))) (mvT hZ (hw _ (List.mem_of_getElem? (i := 47) rfl))) (by decide) (a := x) [] (Own.back (W := 0) (rm_len l Z a0 hw [] x xt [xa] G1 h0 n0 O A_x hcs0 O2 P5) hZ (hw _ (List.mem_of_getElem? (i := 49) rfl)) (hw _ (List.mem_of_getElem? (i := 10) rfl)) (by decide) (by decide)) E_x eH19 (by rw [hml]; rfl) [] (lenOf pd_18 rfl) rfl (Nat.le_of_ble_eq_true rfl) (hb hby d9_60) (by decide) (by decide) 63 rfl ?_
        rintro _ T23 L23 X23 ⟨rfl, N23q, eH23⟩
        have N23 := Fr.app N19 N23q
        show Own.Go p e below _ (T23.setTop (mkF m 63 #[.val (.ref x), .val (.ref y), .val (.int (1 : Int32)), .val (.int (2 : Int32)), .val (.int xa), .val (.int ya)] [(.int (1 : Int32))]))
        refine Own.g_aloadN X23 hx (hb hby d9_63) rfl rfl 64 rfl ?_
        refine Own.g_virtual X23 hx hZ (y := (⟨"java/lang/String", "length", "()I"⟩ : MethodName)) (z := (⟨"java/lang/String", "length", "()I"⟩ : MethodName)) hown (mvT hZ (hw _ (List.mem_of_getElem? (i := 45) rfl))) (mvT hZ (hw _ (List.mem_of_getElem? (i := 46) rfl))) (notFace_of_selects (args := #[]) (mvT hZ (hw _ (List.mem_of_getElem? (i := 48) rfl)))) (mvT hZ (hw _ (List.mem_of_getElem? (i := 48) rfl))) (mvT hZ (hw _ (List.mem_of_getElem? (i := 47) rfl))) (by decide) (a := y) [] (Own.back (W := 1) (rm_len l Z a0 hw [] y yt [ya] G1 h0 n0 O A_y hds0 O2 P5) hZ (hw _ (List.mem_of_getElem? (i := 49) rfl)) (hw _ (List.mem_of_getElem? (i := 10) rfl)) (by decide) (by decide)) E_y eH23 (by rw [hml]; rfl) [(.int (1 : Int32))] (lenOf pd_18 rfl) rfl (Nat.le_of_ble_eq_true rfl) (hb hby d9_64) (by decide) (by decide) 67 rfl ?_
        rintro _ T24 L24 X24 ⟨rfl, N24q, eH24⟩
        have N24 := Fr.app N23 N24q
        show Own.Go p e below _ (T24.setTop (mkF m 67 #[.val (.ref x), .val (.ref y), .val (.int (1 : Int32)), .val (.int (2 : Int32)), .val (.int xa), .val (.int ya)] [(.int (1 : Int32)), (.int (1 : Int32))]))
        refine Own.g_callS X24 hx (y := (⟨"java/lang/Integer", "compare", "(II)I"⟩ : MethodName)) hown (mvT hZ (hw _ (List.mem_of_getElem? (i := 57) rfl))) (mvT hZ (hw _ (List.mem_of_getElem? (i := 58) rfl))) (mvT hZ (hw _ (List.mem_of_getElem? (i := 59) rfl))) (mvT hZ (hw _ (List.mem_of_getElem? (i := 60) rfl))) (by decide) [.int (1 : Int32), .int (1 : Int32)] (Own.back (W := 0) (rm_icm l Z a0 hw [] (1 : Int32) (1 : Int32) h0 n0 O ) hZ (hw _ (List.mem_of_getElem? (i := 60) rfl)) (hw _ (List.mem_of_getElem? (i := 59) rfl)) (by decide) (by decide)) eH24 (by rw [hml]; rfl) [] (lenOf pd_11 rfl) rfl (Nat.le_of_ble_eq_true rfl) (hb hby d9_67) (by decide) (by decide) 70 rfl ?_
        rintro _ T25 L25 X25 ⟨rfl, N25q, eH25⟩
        have N25 := Fr.app N24 N25q
        show Own.Go p e below _ (T25.setTop (mkF m 70 #[.val (.ref x), .val (.ref y), .val (.int (1 : Int32)), .val (.int (2 : Int32)), .val (.int xa), .val (.int ya)] [(.int (Own.icmp 1 1))]))
        refine Own.g_ret X25 hx hret hlocks rfl (Or.inl ⟨rfl, by simp, _, rfl⟩) (hb hby d9_70) (by decide) (by decide) eH25 ?_
        exact ⟨congrArg (fun q => some (Value.int q)) (Eq.symm (show Own.cmpL [xa] [ya] = Own.icmp 1 1 from if_pos hq1)), N25, rfl⟩
    · intro hq1
      refine Own.g_iload X17 hx (hb hby d9_40) rfl 42 rfl ?_
      refine Own.g_iload X17 hx (hb hby d9_42) rfl 44 rfl ?_
      refine Own.g_callS X17 hx (y := (⟨"java/lang/Integer", "compare", "(II)I"⟩ : MethodName)) hown (mvT hZ (hw _ (List.mem_of_getElem? (i := 57) rfl))) (mvT hZ (hw _ (List.mem_of_getElem? (i := 58) rfl))) (mvT hZ (hw _ (List.mem_of_getElem? (i := 59) rfl))) (mvT hZ (hw _ (List.mem_of_getElem? (i := 60) rfl))) (by decide) [.int xa, .int ya] (Own.back (W := 0) (rm_icm l Z a0 hw [] xa ya h0 n0 O ) hZ (hw _ (List.mem_of_getElem? (i := 60) rfl)) (hw _ (List.mem_of_getElem? (i := 59) rfl)) (by decide) (by decide)) eH17 (by rw [hml]; rfl) [] (lenOf pd_11 rfl) rfl (Nat.le_of_ble_eq_true rfl) (hb hby d9_44) (by decide) (by decide) 47 rfl ?_
      rintro _ T18 L18 X18 ⟨rfl, N18q, eH18⟩
      have N18 := Fr.app N17 N18q
      show Own.Go p e below _ (T18.setTop (mkF m 47 #[.val (.ref x), .val (.ref y), .val (.int (1 : Int32)), .val (.int (0 : Int32)), .val (.int xa), .val (.int ya)] [(.int (Own.icmp xa ya))]))
      refine Own.g_ret X18 hx hret hlocks rfl (Or.inl ⟨rfl, by simp, _, rfl⟩) (hb hby d9_47) (by decide) (by decide) eH18 ?_
      exact ⟨congrArg (fun q => some (Value.int q)) (Eq.symm (show Own.cmpL [xa] [ya] = Own.icmp xa ya from if_neg hq1)), N18, rfl⟩
  · show Own.Go p e below _ (T3.setTop (mkF m 14 #[.val (.ref x), .val (.ref y), .val (.int (1 : Int32)), .val (.int (0 : Int32)), .unset, .unset] []))
    refine Own.g_iloadN X3 hx (hb hby d9_14) rfl 15 rfl ?_
    refine Own.g_iloadN X3 hx (hb hby d9_15) rfl 16 rfl ?_
    refine Own.g_icmp_ge_f X3 hx (hb hby d9_16) (by decide) 19 rfl ?_
    refine Own.g_aloadN X3 hx (hb hby d9_19) rfl rfl 20 rfl ?_
    refine Own.g_iloadN X3 hx (hb hby d9_20) rfl 21 rfl ?_
    refine Own.g_virtual X3 hx hZ (y := (⟨"java/lang/String", "codePointAt", "(I)I"⟩ : MethodName)) (z := (⟨"java/lang/String", "codePointAt", "(I)I"⟩ : MethodName)) hown (mvT hZ (hw _ (List.mem_of_getElem? (i := 104) rfl))) (mvT hZ (hw _ (List.mem_of_getElem? (i := 105) rfl))) (notFace_of_selects (args := #[]) (mvT hZ (hw _ (List.mem_of_getElem? (i := 107) rfl)))) (mvT hZ (hw _ (List.mem_of_getElem? (i := 107) rfl))) (mvT hZ (hw _ (List.mem_of_getElem? (i := 106) rfl))) (by decide) (a := x) [.int (0 : Int32)] (Own.back (W := 0) (rm_cpa_10 l Z a0 hw [] x xt xa G1 G3 h0 n0 O A_x C_xa SA SHI SLO O2 P5 O4 rG3) hZ (hw _ (List.mem_of_getElem? (i := 108) rfl)) (hw _ (List.mem_of_getElem? (i := 10) rfl)) (by decide) (by decide)) E_x eH3 (by rw [hml]; rfl) [] (lenOf pd_2 rfl) rfl (Nat.le_of_ble_eq_true rfl) (hb hby d9_21) (by decide) (by decide) 24 rfl ?_
    rintro _ T26 L26 X26 ⟨rfl, N26q, eH26⟩
    have N26 := Fr.app N3 N26q
    show Own.Go p e below _ (T26.setTop (mkF m 24 #[.val (.ref x), .val (.ref y), .val (.int (1 : Int32)), .val (.int (0 : Int32)), .unset, .unset] [(.int xa)]))
    refine Own.g_istore X26 hx #[.val (.ref x), .val (.ref y), .val (.int (1 : Int32)), .val (.int (0 : Int32)), .val (.int xa), .unset] (hb hby d9_24) rfl 26 rfl ?_
    refine Own.g_aloadN X26 hx (hb hby d9_26) rfl rfl 27 rfl ?_
    refine Own.g_iloadN X26 hx (hb hby d9_27) rfl 28 rfl ?_
    refine Own.g_virtual X26 hx hZ (y := (⟨"java/lang/String", "codePointAt", "(I)I"⟩ : MethodName)) (z := (⟨"java/lang/String", "codePointAt", "(I)I"⟩ : MethodName)) hown (mvT hZ (hw _ (List.mem_of_getElem? (i := 104) rfl))) (mvT hZ (hw _ (List.mem_of_getElem? (i := 105) rfl))) (notFace_of_selects (args := #[]) (mvT hZ (hw _ (List.mem_of_getElem? (i := 107) rfl)))) (mvT hZ (hw _ (List.mem_of_getElem? (i := 107) rfl))) (mvT hZ (hw _ (List.mem_of_getElem? (i := 106) rfl))) (by decide) (a := y) [.int (0 : Int32)] (Own.back (W := 0) (rm_cpa_20 l Z a0 hw [] y yt ya yb G1 G3 h0 n0 O A_y C_ya C_yb SA SHI SLO O2 P5 O4 rG3) hZ (hw _ (List.mem_of_getElem? (i := 108) rfl)) (hw _ (List.mem_of_getElem? (i := 10) rfl)) (by decide) (by decide)) E_y eH26 (by rw [hml]; rfl) [] (lenOf pd_2 rfl) rfl (Nat.le_of_ble_eq_true rfl) (hb hby d9_28) (by decide) (by decide) 31 rfl ?_
    rintro _ T27 L27 X27 ⟨rfl, N27q, eH27⟩
    have N27 := Fr.app N26 N27q
    show Own.Go p e below _ (T27.setTop (mkF m 31 #[.val (.ref x), .val (.ref y), .val (.int (1 : Int32)), .val (.int (0 : Int32)), .val (.int xa), .unset] [(.int (Own.cpv ya yb))]))
    refine Own.g_istore X27 hx #[.val (.ref x), .val (.ref y), .val (.int (1 : Int32)), .val (.int (0 : Int32)), .val (.int xa), .val (.int (Own.cpv ya yb))] (hb hby d9_31) rfl 33 rfl ?_
    refine Own.g_iload X27 hx (hb hby d9_33) rfl 35 rfl ?_
    refine Own.g_iload X27 hx (hb hby d9_35) rfl 37 rfl ?_
    refine Own.g_icmp_eq X27 hx (hb hby d9_37) 48 40 (by decide) rfl ?_ ?_
    · intro hq1
      refine Own.g_iloadN X27 hx (hb hby d9_48) rfl 49 rfl ?_
      refine Own.g_iload X27 hx (hb hby d9_49) rfl 51 rfl ?_
      refine Own.g_callS X27 hx (y := (⟨"java/lang/Character", "charCount", "(I)I"⟩ : MethodName)) hown (mvT hZ (hw _ (List.mem_of_getElem? (i := 142) rfl))) (mvT hZ (hw _ (List.mem_of_getElem? (i := 143) rfl))) (mvT hZ (hw _ (List.mem_of_getElem? (i := 130) rfl))) (mvT hZ (hw _ (List.mem_of_getElem? (i := 144) rfl))) (by decide) [.int xa] (Own.back (W := 1) (rm_chc l Z a0 hw [] xa h0 n0 O ) hZ (hw _ (List.mem_of_getElem? (i := 144) rfl)) (hw _ (List.mem_of_getElem? (i := 130) rfl)) (by decide) (by decide)) eH27 (by rw [hml]; rfl) [(.int (0 : Int32))] (lenOf pd_2 rfl) rfl (Nat.le_of_ble_eq_true rfl) (hb hby d9_51) (by decide) (by decide) 54 rfl ?_
      rintro _ T29 L29 X29 ⟨rfl, N29q, eH29⟩
      have N29 := Fr.app N27 N29q
      show Own.Go p e below _ (T29.setTop (mkF m 54 #[.val (.ref x), .val (.ref y), .val (.int (1 : Int32)), .val (.int (0 : Int32)), .val (.int xa), .val (.int (Own.cpv ya yb))] [(.int (if xa < 65536 then 1 else 2)), (.int (0 : Int32))]))
      by_cases hq2 : xa < 65536
      · rw [if_pos hq2]
        show Own.Go p e below _ (T29.setTop (mkF m 54 #[.val (.ref x), .val (.ref y), .val (.int (1 : Int32)), .val (.int (0 : Int32)), .val (.int xa), .val (.int (Own.cpv ya yb))] [(.int (1 : Int32)), (.int (0 : Int32))]))
        refine Own.g_iadd X29 hx (hb hby d9_54) 55 rfl ?_
        rw [show ((0 : Int32) + (1 : Int32)) = (1 : Int32) from by decide]
        refine Own.g_istoreN X29 hx #[.val (.ref x), .val (.ref y), .val (.int (1 : Int32)), .val (.int (1 : Int32)), .val (.int xa), .val (.int (Own.cpv ya yb))] (hb hby d9_55) rfl 56 rfl ?_
        refine Own.g_goto X29 hx (hb hby d9_56) 14 (by decide) ?_
        refine Own.g_iloadN X29 hx (hb hby d9_14) rfl 15 rfl ?_
        refine Own.g_iloadN X29 hx (hb hby d9_15) rfl 16 rfl ?_
        refine Own.g_icmp_ge_t X29 hx (hb hby d9_16) (by decide) 59 (by decide) ?_
        refine Own.g_aloadN X29 hx (hb hby d9_59) rfl rfl 60 rfl ?_
        refine Own.g_virtual X29 hx hZ (y := (⟨"java/lang/String", "length", "()I"⟩ : MethodName)) (z := (⟨"java/lang/String", "length", "()I"⟩ : MethodName)) hown (mvT hZ (hw _ (List.mem_of_getElem? (i := 45) rfl))) (mvT hZ (hw _ (List.mem_of_getElem? (i := 46) rfl))) (notFace_of_selects (args := #[]) (mvT hZ (hw _ (List.mem_of_getElem? (i := 48) rfl)))) (mvT hZ (hw _ (List.mem_of_getElem? (i := 48) rfl))) (mvT hZ (hw _ (List.mem_of_getElem? (i := 47) rfl))) (by decide) (a := x) [] (Own.back (W := 0) (rm_len l Z a0 hw [] x xt [xa] G1 h0 n0 O A_x hcs0 O2 P5) hZ (hw _ (List.mem_of_getElem? (i := 49) rfl)) (hw _ (List.mem_of_getElem? (i := 10) rfl)) (by decide) (by decide)) E_x eH29 (by rw [hml]; rfl) [] (lenOf pd_18 rfl) rfl (Nat.le_of_ble_eq_true rfl) (hb hby d9_60) (by decide) (by decide) 63 rfl ?_
        rintro _ T30 L30 X30 ⟨rfl, N30q, eH30⟩
        have N30 := Fr.app N29 N30q
        show Own.Go p e below _ (T30.setTop (mkF m 63 #[.val (.ref x), .val (.ref y), .val (.int (1 : Int32)), .val (.int (1 : Int32)), .val (.int xa), .val (.int (Own.cpv ya yb))] [(.int (1 : Int32))]))
        refine Own.g_aloadN X30 hx (hb hby d9_63) rfl rfl 64 rfl ?_
        refine Own.g_virtual X30 hx hZ (y := (⟨"java/lang/String", "length", "()I"⟩ : MethodName)) (z := (⟨"java/lang/String", "length", "()I"⟩ : MethodName)) hown (mvT hZ (hw _ (List.mem_of_getElem? (i := 45) rfl))) (mvT hZ (hw _ (List.mem_of_getElem? (i := 46) rfl))) (notFace_of_selects (args := #[]) (mvT hZ (hw _ (List.mem_of_getElem? (i := 48) rfl)))) (mvT hZ (hw _ (List.mem_of_getElem? (i := 48) rfl))) (mvT hZ (hw _ (List.mem_of_getElem? (i := 47) rfl))) (by decide) (a := y) [] (Own.back (W := 1) (rm_len l Z a0 hw [] y yt [ya, yb] G1 h0 n0 O A_y hds0 O2 P5) hZ (hw _ (List.mem_of_getElem? (i := 49) rfl)) (hw _ (List.mem_of_getElem? (i := 10) rfl)) (by decide) (by decide)) E_y eH30 (by rw [hml]; rfl) [(.int (1 : Int32))] (lenOf pd_18 rfl) rfl (Nat.le_of_ble_eq_true rfl) (hb hby d9_64) (by decide) (by decide) 67 rfl ?_
        rintro _ T31 L31 X31 ⟨rfl, N31q, eH31⟩
        have N31 := Fr.app N30 N31q
        show Own.Go p e below _ (T31.setTop (mkF m 67 #[.val (.ref x), .val (.ref y), .val (.int (1 : Int32)), .val (.int (1 : Int32)), .val (.int xa), .val (.int (Own.cpv ya yb))] [(.int (2 : Int32)), (.int (1 : Int32))]))
        refine Own.g_callS X31 hx (y := (⟨"java/lang/Integer", "compare", "(II)I"⟩ : MethodName)) hown (mvT hZ (hw _ (List.mem_of_getElem? (i := 57) rfl))) (mvT hZ (hw _ (List.mem_of_getElem? (i := 58) rfl))) (mvT hZ (hw _ (List.mem_of_getElem? (i := 59) rfl))) (mvT hZ (hw _ (List.mem_of_getElem? (i := 60) rfl))) (by decide) [.int (1 : Int32), .int (2 : Int32)] (Own.back (W := 0) (rm_icm l Z a0 hw [] (1 : Int32) (2 : Int32) h0 n0 O ) hZ (hw _ (List.mem_of_getElem? (i := 60) rfl)) (hw _ (List.mem_of_getElem? (i := 59) rfl)) (by decide) (by decide)) eH31 (by rw [hml]; rfl) [] (lenOf pd_11 rfl) rfl (Nat.le_of_ble_eq_true rfl) (hb hby d9_67) (by decide) (by decide) 70 rfl ?_
        rintro _ T32 L32 X32 ⟨rfl, N32q, eH32⟩
        have N32 := Fr.app N31 N32q
        show Own.Go p e below _ (T32.setTop (mkF m 70 #[.val (.ref x), .val (.ref y), .val (.int (1 : Int32)), .val (.int (1 : Int32)), .val (.int xa), .val (.int (Own.cpv ya yb))] [(.int (Own.icmp 1 2))]))
        refine Own.g_ret X32 hx hret hlocks rfl (Or.inl ⟨rfl, by simp, _, rfl⟩) (hb hby d9_70) (by decide) (by decide) eH32 ?_
        exact ⟨congrArg (fun q => some (Value.int q)) (Eq.symm (show Own.cmpL [xa] [ya, yb] = Own.icmp 1 2 from if_pos hq1)), N32, rfl⟩
      · rw [if_neg hq2]
        show Own.Go p e below _ (T29.setTop (mkF m 54 #[.val (.ref x), .val (.ref y), .val (.int (1 : Int32)), .val (.int (0 : Int32)), .val (.int xa), .val (.int (Own.cpv ya yb))] [(.int (2 : Int32)), (.int (0 : Int32))]))
        refine Own.g_iadd X29 hx (hb hby d9_54) 55 rfl ?_
        rw [show ((0 : Int32) + (2 : Int32)) = (2 : Int32) from by decide]
        refine Own.g_istoreN X29 hx #[.val (.ref x), .val (.ref y), .val (.int (1 : Int32)), .val (.int (2 : Int32)), .val (.int xa), .val (.int (Own.cpv ya yb))] (hb hby d9_55) rfl 56 rfl ?_
        refine Own.g_goto X29 hx (hb hby d9_56) 14 (by decide) ?_
        refine Own.g_iloadN X29 hx (hb hby d9_14) rfl 15 rfl ?_
        refine Own.g_iloadN X29 hx (hb hby d9_15) rfl 16 rfl ?_
        refine Own.g_icmp_ge_t X29 hx (hb hby d9_16) (by decide) 59 (by decide) ?_
        refine Own.g_aloadN X29 hx (hb hby d9_59) rfl rfl 60 rfl ?_
        refine Own.g_virtual X29 hx hZ (y := (⟨"java/lang/String", "length", "()I"⟩ : MethodName)) (z := (⟨"java/lang/String", "length", "()I"⟩ : MethodName)) hown (mvT hZ (hw _ (List.mem_of_getElem? (i := 45) rfl))) (mvT hZ (hw _ (List.mem_of_getElem? (i := 46) rfl))) (notFace_of_selects (args := #[]) (mvT hZ (hw _ (List.mem_of_getElem? (i := 48) rfl)))) (mvT hZ (hw _ (List.mem_of_getElem? (i := 48) rfl))) (mvT hZ (hw _ (List.mem_of_getElem? (i := 47) rfl))) (by decide) (a := x) [] (Own.back (W := 0) (rm_len l Z a0 hw [] x xt [xa] G1 h0 n0 O A_x hcs0 O2 P5) hZ (hw _ (List.mem_of_getElem? (i := 49) rfl)) (hw _ (List.mem_of_getElem? (i := 10) rfl)) (by decide) (by decide)) E_x eH29 (by rw [hml]; rfl) [] (lenOf pd_18 rfl) rfl (Nat.le_of_ble_eq_true rfl) (hb hby d9_60) (by decide) (by decide) 63 rfl ?_
        rintro _ T33 L33 X33 ⟨rfl, N33q, eH33⟩
        have N33 := Fr.app N29 N33q
        show Own.Go p e below _ (T33.setTop (mkF m 63 #[.val (.ref x), .val (.ref y), .val (.int (1 : Int32)), .val (.int (2 : Int32)), .val (.int xa), .val (.int (Own.cpv ya yb))] [(.int (1 : Int32))]))
        refine Own.g_aloadN X33 hx (hb hby d9_63) rfl rfl 64 rfl ?_
        refine Own.g_virtual X33 hx hZ (y := (⟨"java/lang/String", "length", "()I"⟩ : MethodName)) (z := (⟨"java/lang/String", "length", "()I"⟩ : MethodName)) hown (mvT hZ (hw _ (List.mem_of_getElem? (i := 45) rfl))) (mvT hZ (hw _ (List.mem_of_getElem? (i := 46) rfl))) (notFace_of_selects (args := #[]) (mvT hZ (hw _ (List.mem_of_getElem? (i := 48) rfl)))) (mvT hZ (hw _ (List.mem_of_getElem? (i := 48) rfl))) (mvT hZ (hw _ (List.mem_of_getElem? (i := 47) rfl))) (by decide) (a := y) [] (Own.back (W := 1) (rm_len l Z a0 hw [] y yt [ya, yb] G1 h0 n0 O A_y hds0 O2 P5) hZ (hw _ (List.mem_of_getElem? (i := 49) rfl)) (hw _ (List.mem_of_getElem? (i := 10) rfl)) (by decide) (by decide)) E_y eH33 (by rw [hml]; rfl) [(.int (1 : Int32))] (lenOf pd_18 rfl) rfl (Nat.le_of_ble_eq_true rfl) (hb hby d9_64) (by decide) (by decide) 67 rfl ?_
        rintro _ T34 L34 X34 ⟨rfl, N34q, eH34⟩
        have N34 := Fr.app N33 N34q
        show Own.Go p e below _ (T34.setTop (mkF m 67 #[.val (.ref x), .val (.ref y), .val (.int (1 : Int32)), .val (.int (2 : Int32)), .val (.int xa), .val (.int (Own.cpv ya yb))] [(.int (2 : Int32)), (.int (1 : Int32))]))
        refine Own.g_callS X34 hx (y := (⟨"java/lang/Integer", "compare", "(II)I"⟩ : MethodName)) hown (mvT hZ (hw _ (List.mem_of_getElem? (i := 57) rfl))) (mvT hZ (hw _ (List.mem_of_getElem? (i := 58) rfl))) (mvT hZ (hw _ (List.mem_of_getElem? (i := 59) rfl))) (mvT hZ (hw _ (List.mem_of_getElem? (i := 60) rfl))) (by decide) [.int (1 : Int32), .int (2 : Int32)] (Own.back (W := 0) (rm_icm l Z a0 hw [] (1 : Int32) (2 : Int32) h0 n0 O ) hZ (hw _ (List.mem_of_getElem? (i := 60) rfl)) (hw _ (List.mem_of_getElem? (i := 59) rfl)) (by decide) (by decide)) eH34 (by rw [hml]; rfl) [] (lenOf pd_11 rfl) rfl (Nat.le_of_ble_eq_true rfl) (hb hby d9_67) (by decide) (by decide) 70 rfl ?_
        rintro _ T35 L35 X35 ⟨rfl, N35q, eH35⟩
        have N35 := Fr.app N34 N35q
        show Own.Go p e below _ (T35.setTop (mkF m 70 #[.val (.ref x), .val (.ref y), .val (.int (1 : Int32)), .val (.int (2 : Int32)), .val (.int xa), .val (.int (Own.cpv ya yb))] [(.int (Own.icmp 1 2))]))
        refine Own.g_ret X35 hx hret hlocks rfl (Or.inl ⟨rfl, by simp, _, rfl⟩) (hb hby d9_70) (by decide) (by decide) eH35 ?_
        exact ⟨congrArg (fun q => some (Value.int q)) (Eq.symm (show Own.cmpL [xa] [ya, yb] = Own.icmp 1 2 from if_pos hq1)), N35, rfl⟩
    · intro hq1
      refine Own.g_iload X27 hx (hb hby d9_40) rfl 42 rfl ?_
      refine Own.g_iload X27 hx (hb hby d9_42) rfl 44 rfl ?_
      refine Own.g_callS X27 hx (y := (⟨"java/lang/Integer", "compare", "(II)I"⟩ : MethodName)) hown (mvT hZ (hw _ (List.mem_of_getElem? (i := 57) rfl))) (mvT hZ (hw _ (List.mem_of_getElem? (i := 58) rfl))) (mvT hZ (hw _ (List.mem_of_getElem? (i := 59) rfl))) (mvT hZ (hw _ (List.mem_of_getElem? (i := 60) rfl))) (by decide) [.int xa, .int (Own.cpv ya yb)] (Own.back (W := 0) (rm_icm l Z a0 hw [] xa (Own.cpv ya yb) h0 n0 O ) hZ (hw _ (List.mem_of_getElem? (i := 60) rfl)) (hw _ (List.mem_of_getElem? (i := 59) rfl)) (by decide) (by decide)) eH27 (by rw [hml]; rfl) [] (lenOf pd_11 rfl) rfl (Nat.le_of_ble_eq_true rfl) (hb hby d9_44) (by decide) (by decide) 47 rfl ?_
      rintro _ T28 L28 X28 ⟨rfl, N28q, eH28⟩
      have N28 := Fr.app N27 N28q
      show Own.Go p e below _ (T28.setTop (mkF m 47 #[.val (.ref x), .val (.ref y), .val (.int (1 : Int32)), .val (.int (0 : Int32)), .val (.int xa), .val (.int (Own.cpv ya yb))] [(.int (Own.icmp xa (Own.cpv ya yb)))]))
      refine Own.g_ret X28 hx hret hlocks rfl (Or.inl ⟨rfl, by simp, _, rfl⟩) (hb hby d9_47) (by decide) (by decide) eH28 ?_
      exact ⟨congrArg (fun q => some (Value.int q)) (Eq.symm (show Own.cmpL [xa] [ya, yb] = Own.icmp xa (Own.cpv ya yb) from if_neg hq1)), N28, rfl⟩
  · show Own.Go p e below _ (T3.setTop (mkF m 14 #[.val (.ref x), .val (.ref y), .val (.int (0 : Int32)), .val (.int (0 : Int32)), .unset, .unset] []))
    refine Own.g_iloadN X3 hx (hb hby d9_14) rfl 15 rfl ?_
    refine Own.g_iloadN X3 hx (hb hby d9_15) rfl 16 rfl ?_
    refine Own.g_icmp_ge_t X3 hx (hb hby d9_16) (by decide) 59 (by decide) ?_
    refine Own.g_aloadN X3 hx (hb hby d9_59) rfl rfl 60 rfl ?_
    refine Own.g_virtual X3 hx hZ (y := (⟨"java/lang/String", "length", "()I"⟩ : MethodName)) (z := (⟨"java/lang/String", "length", "()I"⟩ : MethodName)) hown (mvT hZ (hw _ (List.mem_of_getElem? (i := 45) rfl))) (mvT hZ (hw _ (List.mem_of_getElem? (i := 46) rfl))) (notFace_of_selects (args := #[]) (mvT hZ (hw _ (List.mem_of_getElem? (i := 48) rfl)))) (mvT hZ (hw _ (List.mem_of_getElem? (i := 48) rfl))) (mvT hZ (hw _ (List.mem_of_getElem? (i := 47) rfl))) (by decide) (a := x) [] (Own.back (W := 0) (rm_len l Z a0 hw [] x xt [xa, xb] G1 h0 n0 O A_x hcs0 O2 P5) hZ (hw _ (List.mem_of_getElem? (i := 49) rfl)) (hw _ (List.mem_of_getElem? (i := 10) rfl)) (by decide) (by decide)) E_x eH3 (by rw [hml]; rfl) [] (lenOf pd_18 rfl) rfl (Nat.le_of_ble_eq_true rfl) (hb hby d9_60) (by decide) (by decide) 63 rfl ?_
    rintro _ T36 L36 X36 ⟨rfl, N36q, eH36⟩
    have N36 := Fr.app N3 N36q
    show Own.Go p e below _ (T36.setTop (mkF m 63 #[.val (.ref x), .val (.ref y), .val (.int (0 : Int32)), .val (.int (0 : Int32)), .unset, .unset] [(.int (2 : Int32))]))
    refine Own.g_aloadN X36 hx (hb hby d9_63) rfl rfl 64 rfl ?_
    refine Own.g_virtual X36 hx hZ (y := (⟨"java/lang/String", "length", "()I"⟩ : MethodName)) (z := (⟨"java/lang/String", "length", "()I"⟩ : MethodName)) hown (mvT hZ (hw _ (List.mem_of_getElem? (i := 45) rfl))) (mvT hZ (hw _ (List.mem_of_getElem? (i := 46) rfl))) (notFace_of_selects (args := #[]) (mvT hZ (hw _ (List.mem_of_getElem? (i := 48) rfl)))) (mvT hZ (hw _ (List.mem_of_getElem? (i := 48) rfl))) (mvT hZ (hw _ (List.mem_of_getElem? (i := 47) rfl))) (by decide) (a := y) [] (Own.back (W := 1) (rm_len l Z a0 hw [] y yt ([] : List Int32) G1 h0 n0 O A_y hds0 O2 P5) hZ (hw _ (List.mem_of_getElem? (i := 49) rfl)) (hw _ (List.mem_of_getElem? (i := 10) rfl)) (by decide) (by decide)) E_y eH36 (by rw [hml]; rfl) [(.int (2 : Int32))] (lenOf pd_18 rfl) rfl (Nat.le_of_ble_eq_true rfl) (hb hby d9_64) (by decide) (by decide) 67 rfl ?_
    rintro _ T37 L37 X37 ⟨rfl, N37q, eH37⟩
    have N37 := Fr.app N36 N37q
    show Own.Go p e below _ (T37.setTop (mkF m 67 #[.val (.ref x), .val (.ref y), .val (.int (0 : Int32)), .val (.int (0 : Int32)), .unset, .unset] [(.int (0 : Int32)), (.int (2 : Int32))]))
    refine Own.g_callS X37 hx (y := (⟨"java/lang/Integer", "compare", "(II)I"⟩ : MethodName)) hown (mvT hZ (hw _ (List.mem_of_getElem? (i := 57) rfl))) (mvT hZ (hw _ (List.mem_of_getElem? (i := 58) rfl))) (mvT hZ (hw _ (List.mem_of_getElem? (i := 59) rfl))) (mvT hZ (hw _ (List.mem_of_getElem? (i := 60) rfl))) (by decide) [.int (2 : Int32), .int (0 : Int32)] (Own.back (W := 0) (rm_icm l Z a0 hw [] (2 : Int32) (0 : Int32) h0 n0 O ) hZ (hw _ (List.mem_of_getElem? (i := 60) rfl)) (hw _ (List.mem_of_getElem? (i := 59) rfl)) (by decide) (by decide)) eH37 (by rw [hml]; rfl) [] (lenOf pd_11 rfl) rfl (Nat.le_of_ble_eq_true rfl) (hb hby d9_67) (by decide) (by decide) 70 rfl ?_
    rintro _ T38 L38 X38 ⟨rfl, N38q, eH38⟩
    have N38 := Fr.app N37 N38q
    show Own.Go p e below _ (T38.setTop (mkF m 70 #[.val (.ref x), .val (.ref y), .val (.int (0 : Int32)), .val (.int (0 : Int32)), .unset, .unset] [(.int (Own.icmp 2 0))]))
    refine Own.g_ret X38 hx hret hlocks rfl (Or.inl ⟨rfl, by simp, _, rfl⟩) (hb hby d9_70) (by decide) (by decide) eH38 ?_
    exact ⟨congrArg (fun q => some (Value.int q)) (Eq.symm (show Own.cmpL [xa, xb] ([] : List Int32) = Own.icmp 2 0 from rfl)), N38, rfl⟩
  · show Own.Go p e below _ (T3.setTop (mkF m 14 #[.val (.ref x), .val (.ref y), .val (.int (1 : Int32)), .val (.int (0 : Int32)), .unset, .unset] []))
    refine Own.g_iloadN X3 hx (hb hby d9_14) rfl 15 rfl ?_
    refine Own.g_iloadN X3 hx (hb hby d9_15) rfl 16 rfl ?_
    refine Own.g_icmp_ge_f X3 hx (hb hby d9_16) (by decide) 19 rfl ?_
    refine Own.g_aloadN X3 hx (hb hby d9_19) rfl rfl 20 rfl ?_
    refine Own.g_iloadN X3 hx (hb hby d9_20) rfl 21 rfl ?_
    refine Own.g_virtual X3 hx hZ (y := (⟨"java/lang/String", "codePointAt", "(I)I"⟩ : MethodName)) (z := (⟨"java/lang/String", "codePointAt", "(I)I"⟩ : MethodName)) hown (mvT hZ (hw _ (List.mem_of_getElem? (i := 104) rfl))) (mvT hZ (hw _ (List.mem_of_getElem? (i := 105) rfl))) (notFace_of_selects (args := #[]) (mvT hZ (hw _ (List.mem_of_getElem? (i := 107) rfl)))) (mvT hZ (hw _ (List.mem_of_getElem? (i := 107) rfl))) (mvT hZ (hw _ (List.mem_of_getElem? (i := 106) rfl))) (by decide) (a := x) [.int (0 : Int32)] (Own.back (W := 0) (rm_cpa_20 l Z a0 hw [] x xt xa xb G1 G3 h0 n0 O A_x C_xa C_xb SA SHI SLO O2 P5 O4 rG3) hZ (hw _ (List.mem_of_getElem? (i := 108) rfl)) (hw _ (List.mem_of_getElem? (i := 10) rfl)) (by decide) (by decide)) E_x eH3 (by rw [hml]; rfl) [] (lenOf pd_2 rfl) rfl (Nat.le_of_ble_eq_true rfl) (hb hby d9_21) (by decide) (by decide) 24 rfl ?_
    rintro _ T39 L39 X39 ⟨rfl, N39q, eH39⟩
    have N39 := Fr.app N3 N39q
    show Own.Go p e below _ (T39.setTop (mkF m 24 #[.val (.ref x), .val (.ref y), .val (.int (1 : Int32)), .val (.int (0 : Int32)), .unset, .unset] [(.int (Own.cpv xa xb))]))
    refine Own.g_istore X39 hx #[.val (.ref x), .val (.ref y), .val (.int (1 : Int32)), .val (.int (0 : Int32)), .val (.int (Own.cpv xa xb)), .unset] (hb hby d9_24) rfl 26 rfl ?_
    refine Own.g_aloadN X39 hx (hb hby d9_26) rfl rfl 27 rfl ?_
    refine Own.g_iloadN X39 hx (hb hby d9_27) rfl 28 rfl ?_
    refine Own.g_virtual X39 hx hZ (y := (⟨"java/lang/String", "codePointAt", "(I)I"⟩ : MethodName)) (z := (⟨"java/lang/String", "codePointAt", "(I)I"⟩ : MethodName)) hown (mvT hZ (hw _ (List.mem_of_getElem? (i := 104) rfl))) (mvT hZ (hw _ (List.mem_of_getElem? (i := 105) rfl))) (notFace_of_selects (args := #[]) (mvT hZ (hw _ (List.mem_of_getElem? (i := 107) rfl)))) (mvT hZ (hw _ (List.mem_of_getElem? (i := 107) rfl))) (mvT hZ (hw _ (List.mem_of_getElem? (i := 106) rfl))) (by decide) (a := y) [.int (0 : Int32)] (Own.back (W := 0) (rm_cpa_10 l Z a0 hw [] y yt ya G1 G3 h0 n0 O A_y C_ya SA SHI SLO O2 P5 O4 rG3) hZ (hw _ (List.mem_of_getElem? (i := 108) rfl)) (hw _ (List.mem_of_getElem? (i := 10) rfl)) (by decide) (by decide)) E_y eH39 (by rw [hml]; rfl) [] (lenOf pd_2 rfl) rfl (Nat.le_of_ble_eq_true rfl) (hb hby d9_28) (by decide) (by decide) 31 rfl ?_
    rintro _ T40 L40 X40 ⟨rfl, N40q, eH40⟩
    have N40 := Fr.app N39 N40q
    show Own.Go p e below _ (T40.setTop (mkF m 31 #[.val (.ref x), .val (.ref y), .val (.int (1 : Int32)), .val (.int (0 : Int32)), .val (.int (Own.cpv xa xb)), .unset] [(.int ya)]))
    refine Own.g_istore X40 hx #[.val (.ref x), .val (.ref y), .val (.int (1 : Int32)), .val (.int (0 : Int32)), .val (.int (Own.cpv xa xb)), .val (.int ya)] (hb hby d9_31) rfl 33 rfl ?_
    refine Own.g_iload X40 hx (hb hby d9_33) rfl 35 rfl ?_
    refine Own.g_iload X40 hx (hb hby d9_35) rfl 37 rfl ?_
    refine Own.g_icmp_eq X40 hx (hb hby d9_37) 48 40 (by decide) rfl ?_ ?_
    · intro hq1
      refine Own.g_iloadN X40 hx (hb hby d9_48) rfl 49 rfl ?_
      refine Own.g_iload X40 hx (hb hby d9_49) rfl 51 rfl ?_
      refine Own.g_callS X40 hx (y := (⟨"java/lang/Character", "charCount", "(I)I"⟩ : MethodName)) hown (mvT hZ (hw _ (List.mem_of_getElem? (i := 142) rfl))) (mvT hZ (hw _ (List.mem_of_getElem? (i := 143) rfl))) (mvT hZ (hw _ (List.mem_of_getElem? (i := 130) rfl))) (mvT hZ (hw _ (List.mem_of_getElem? (i := 144) rfl))) (by decide) [.int (Own.cpv xa xb)] (Own.back (W := 1) (rm_chc l Z a0 hw [] (Own.cpv xa xb) h0 n0 O ) hZ (hw _ (List.mem_of_getElem? (i := 144) rfl)) (hw _ (List.mem_of_getElem? (i := 130) rfl)) (by decide) (by decide)) eH40 (by rw [hml]; rfl) [(.int (0 : Int32))] (lenOf pd_2 rfl) rfl (Nat.le_of_ble_eq_true rfl) (hb hby d9_51) (by decide) (by decide) 54 rfl ?_
      rintro _ T42 L42 X42 ⟨rfl, N42q, eH42⟩
      have N42 := Fr.app N40 N42q
      show Own.Go p e below _ (T42.setTop (mkF m 54 #[.val (.ref x), .val (.ref y), .val (.int (1 : Int32)), .val (.int (0 : Int32)), .val (.int (Own.cpv xa xb)), .val (.int ya)] [(.int (if (Own.cpv xa xb) < 65536 then 1 else 2)), (.int (0 : Int32))]))
      by_cases hq2 : (Own.cpv xa xb) < 65536
      · rw [if_pos hq2]
        show Own.Go p e below _ (T42.setTop (mkF m 54 #[.val (.ref x), .val (.ref y), .val (.int (1 : Int32)), .val (.int (0 : Int32)), .val (.int (Own.cpv xa xb)), .val (.int ya)] [(.int (1 : Int32)), (.int (0 : Int32))]))
        refine Own.g_iadd X42 hx (hb hby d9_54) 55 rfl ?_
        rw [show ((0 : Int32) + (1 : Int32)) = (1 : Int32) from by decide]
        refine Own.g_istoreN X42 hx #[.val (.ref x), .val (.ref y), .val (.int (1 : Int32)), .val (.int (1 : Int32)), .val (.int (Own.cpv xa xb)), .val (.int ya)] (hb hby d9_55) rfl 56 rfl ?_
        refine Own.g_goto X42 hx (hb hby d9_56) 14 (by decide) ?_
        refine Own.g_iloadN X42 hx (hb hby d9_14) rfl 15 rfl ?_
        refine Own.g_iloadN X42 hx (hb hby d9_15) rfl 16 rfl ?_
        refine Own.g_icmp_ge_t X42 hx (hb hby d9_16) (by decide) 59 (by decide) ?_
        refine Own.g_aloadN X42 hx (hb hby d9_59) rfl rfl 60 rfl ?_
        refine Own.g_virtual X42 hx hZ (y := (⟨"java/lang/String", "length", "()I"⟩ : MethodName)) (z := (⟨"java/lang/String", "length", "()I"⟩ : MethodName)) hown (mvT hZ (hw _ (List.mem_of_getElem? (i := 45) rfl))) (mvT hZ (hw _ (List.mem_of_getElem? (i := 46) rfl))) (notFace_of_selects (args := #[]) (mvT hZ (hw _ (List.mem_of_getElem? (i := 48) rfl)))) (mvT hZ (hw _ (List.mem_of_getElem? (i := 48) rfl))) (mvT hZ (hw _ (List.mem_of_getElem? (i := 47) rfl))) (by decide) (a := x) [] (Own.back (W := 0) (rm_len l Z a0 hw [] x xt [xa, xb] G1 h0 n0 O A_x hcs0 O2 P5) hZ (hw _ (List.mem_of_getElem? (i := 49) rfl)) (hw _ (List.mem_of_getElem? (i := 10) rfl)) (by decide) (by decide)) E_x eH42 (by rw [hml]; rfl) [] (lenOf pd_18 rfl) rfl (Nat.le_of_ble_eq_true rfl) (hb hby d9_60) (by decide) (by decide) 63 rfl ?_
        rintro _ T43 L43 X43 ⟨rfl, N43q, eH43⟩
        have N43 := Fr.app N42 N43q
        show Own.Go p e below _ (T43.setTop (mkF m 63 #[.val (.ref x), .val (.ref y), .val (.int (1 : Int32)), .val (.int (1 : Int32)), .val (.int (Own.cpv xa xb)), .val (.int ya)] [(.int (2 : Int32))]))
        refine Own.g_aloadN X43 hx (hb hby d9_63) rfl rfl 64 rfl ?_
        refine Own.g_virtual X43 hx hZ (y := (⟨"java/lang/String", "length", "()I"⟩ : MethodName)) (z := (⟨"java/lang/String", "length", "()I"⟩ : MethodName)) hown (mvT hZ (hw _ (List.mem_of_getElem? (i := 45) rfl))) (mvT hZ (hw _ (List.mem_of_getElem? (i := 46) rfl))) (notFace_of_selects (args := #[]) (mvT hZ (hw _ (List.mem_of_getElem? (i := 48) rfl)))) (mvT hZ (hw _ (List.mem_of_getElem? (i := 48) rfl))) (mvT hZ (hw _ (List.mem_of_getElem? (i := 47) rfl))) (by decide) (a := y) [] (Own.back (W := 1) (rm_len l Z a0 hw [] y yt [ya] G1 h0 n0 O A_y hds0 O2 P5) hZ (hw _ (List.mem_of_getElem? (i := 49) rfl)) (hw _ (List.mem_of_getElem? (i := 10) rfl)) (by decide) (by decide)) E_y eH43 (by rw [hml]; rfl) [(.int (2 : Int32))] (lenOf pd_18 rfl) rfl (Nat.le_of_ble_eq_true rfl) (hb hby d9_64) (by decide) (by decide) 67 rfl ?_
        rintro _ T44 L44 X44 ⟨rfl, N44q, eH44⟩
        have N44 := Fr.app N43 N44q
        show Own.Go p e below _ (T44.setTop (mkF m 67 #[.val (.ref x), .val (.ref y), .val (.int (1 : Int32)), .val (.int (1 : Int32)), .val (.int (Own.cpv xa xb)), .val (.int ya)] [(.int (1 : Int32)), (.int (2 : Int32))]))
        refine Own.g_callS X44 hx (y := (⟨"java/lang/Integer", "compare", "(II)I"⟩ : MethodName)) hown (mvT hZ (hw _ (List.mem_of_getElem? (i := 57) rfl))) (mvT hZ (hw _ (List.mem_of_getElem? (i := 58) rfl))) (mvT hZ (hw _ (List.mem_of_getElem? (i := 59) rfl))) (mvT hZ (hw _ (List.mem_of_getElem? (i := 60) rfl))) (by decide) [.int (2 : Int32), .int (1 : Int32)] (Own.back (W := 0) (rm_icm l Z a0 hw [] (2 : Int32) (1 : Int32) h0 n0 O ) hZ (hw _ (List.mem_of_getElem? (i := 60) rfl)) (hw _ (List.mem_of_getElem? (i := 59) rfl)) (by decide) (by decide)) eH44 (by rw [hml]; rfl) [] (lenOf pd_11 rfl) rfl (Nat.le_of_ble_eq_true rfl) (hb hby d9_67) (by decide) (by decide) 70 rfl ?_
        rintro _ T45 L45 X45 ⟨rfl, N45q, eH45⟩
        have N45 := Fr.app N44 N45q
        show Own.Go p e below _ (T45.setTop (mkF m 70 #[.val (.ref x), .val (.ref y), .val (.int (1 : Int32)), .val (.int (1 : Int32)), .val (.int (Own.cpv xa xb)), .val (.int ya)] [(.int (Own.icmp 2 1))]))
        refine Own.g_ret X45 hx hret hlocks rfl (Or.inl ⟨rfl, by simp, _, rfl⟩) (hb hby d9_70) (by decide) (by decide) eH45 ?_
        exact ⟨congrArg (fun q => some (Value.int q)) (Eq.symm (show Own.cmpL [xa, xb] [ya] = Own.icmp 2 1 from if_pos hq1)), N45, rfl⟩
      · rw [if_neg hq2]
        show Own.Go p e below _ (T42.setTop (mkF m 54 #[.val (.ref x), .val (.ref y), .val (.int (1 : Int32)), .val (.int (0 : Int32)), .val (.int (Own.cpv xa xb)), .val (.int ya)] [(.int (2 : Int32)), (.int (0 : Int32))]))
        refine Own.g_iadd X42 hx (hb hby d9_54) 55 rfl ?_
        rw [show ((0 : Int32) + (2 : Int32)) = (2 : Int32) from by decide]
        refine Own.g_istoreN X42 hx #[.val (.ref x), .val (.ref y), .val (.int (1 : Int32)), .val (.int (2 : Int32)), .val (.int (Own.cpv xa xb)), .val (.int ya)] (hb hby d9_55) rfl 56 rfl ?_
        refine Own.g_goto X42 hx (hb hby d9_56) 14 (by decide) ?_
        refine Own.g_iloadN X42 hx (hb hby d9_14) rfl 15 rfl ?_
        refine Own.g_iloadN X42 hx (hb hby d9_15) rfl 16 rfl ?_
        refine Own.g_icmp_ge_t X42 hx (hb hby d9_16) (by decide) 59 (by decide) ?_
        refine Own.g_aloadN X42 hx (hb hby d9_59) rfl rfl 60 rfl ?_
        refine Own.g_virtual X42 hx hZ (y := (⟨"java/lang/String", "length", "()I"⟩ : MethodName)) (z := (⟨"java/lang/String", "length", "()I"⟩ : MethodName)) hown (mvT hZ (hw _ (List.mem_of_getElem? (i := 45) rfl))) (mvT hZ (hw _ (List.mem_of_getElem? (i := 46) rfl))) (notFace_of_selects (args := #[]) (mvT hZ (hw _ (List.mem_of_getElem? (i := 48) rfl)))) (mvT hZ (hw _ (List.mem_of_getElem? (i := 48) rfl))) (mvT hZ (hw _ (List.mem_of_getElem? (i := 47) rfl))) (by decide) (a := x) [] (Own.back (W := 0) (rm_len l Z a0 hw [] x xt [xa, xb] G1 h0 n0 O A_x hcs0 O2 P5) hZ (hw _ (List.mem_of_getElem? (i := 49) rfl)) (hw _ (List.mem_of_getElem? (i := 10) rfl)) (by decide) (by decide)) E_x eH42 (by rw [hml]; rfl) [] (lenOf pd_18 rfl) rfl (Nat.le_of_ble_eq_true rfl) (hb hby d9_60) (by decide) (by decide) 63 rfl ?_
        rintro _ T46 L46 X46 ⟨rfl, N46q, eH46⟩
        have N46 := Fr.app N42 N46q
        show Own.Go p e below _ (T46.setTop (mkF m 63 #[.val (.ref x), .val (.ref y), .val (.int (1 : Int32)), .val (.int (2 : Int32)), .val (.int (Own.cpv xa xb)), .val (.int ya)] [(.int (2 : Int32))]))
        refine Own.g_aloadN X46 hx (hb hby d9_63) rfl rfl 64 rfl ?_
        refine Own.g_virtual X46 hx hZ (y := (⟨"java/lang/String", "length", "()I"⟩ : MethodName)) (z := (⟨"java/lang/String", "length", "()I"⟩ : MethodName)) hown (mvT hZ (hw _ (List.mem_of_getElem? (i := 45) rfl))) (mvT hZ (hw _ (List.mem_of_getElem? (i := 46) rfl))) (notFace_of_selects (args := #[]) (mvT hZ (hw _ (List.mem_of_getElem? (i := 48) rfl)))) (mvT hZ (hw _ (List.mem_of_getElem? (i := 48) rfl))) (mvT hZ (hw _ (List.mem_of_getElem? (i := 47) rfl))) (by decide) (a := y) [] (Own.back (W := 1) (rm_len l Z a0 hw [] y yt [ya] G1 h0 n0 O A_y hds0 O2 P5) hZ (hw _ (List.mem_of_getElem? (i := 49) rfl)) (hw _ (List.mem_of_getElem? (i := 10) rfl)) (by decide) (by decide)) E_y eH46 (by rw [hml]; rfl) [(.int (2 : Int32))] (lenOf pd_18 rfl) rfl (Nat.le_of_ble_eq_true rfl) (hb hby d9_64) (by decide) (by decide) 67 rfl ?_
        rintro _ T47 L47 X47 ⟨rfl, N47q, eH47⟩
        have N47 := Fr.app N46 N47q
        show Own.Go p e below _ (T47.setTop (mkF m 67 #[.val (.ref x), .val (.ref y), .val (.int (1 : Int32)), .val (.int (2 : Int32)), .val (.int (Own.cpv xa xb)), .val (.int ya)] [(.int (1 : Int32)), (.int (2 : Int32))]))
        refine Own.g_callS X47 hx (y := (⟨"java/lang/Integer", "compare", "(II)I"⟩ : MethodName)) hown (mvT hZ (hw _ (List.mem_of_getElem? (i := 57) rfl))) (mvT hZ (hw _ (List.mem_of_getElem? (i := 58) rfl))) (mvT hZ (hw _ (List.mem_of_getElem? (i := 59) rfl))) (mvT hZ (hw _ (List.mem_of_getElem? (i := 60) rfl))) (by decide) [.int (2 : Int32), .int (1 : Int32)] (Own.back (W := 0) (rm_icm l Z a0 hw [] (2 : Int32) (1 : Int32) h0 n0 O ) hZ (hw _ (List.mem_of_getElem? (i := 60) rfl)) (hw _ (List.mem_of_getElem? (i := 59) rfl)) (by decide) (by decide)) eH47 (by rw [hml]; rfl) [] (lenOf pd_11 rfl) rfl (Nat.le_of_ble_eq_true rfl) (hb hby d9_67) (by decide) (by decide) 70 rfl ?_
        rintro _ T48 L48 X48 ⟨rfl, N48q, eH48⟩
        have N48 := Fr.app N47 N48q
        show Own.Go p e below _ (T48.setTop (mkF m 70 #[.val (.ref x), .val (.ref y), .val (.int (1 : Int32)), .val (.int (2 : Int32)), .val (.int (Own.cpv xa xb)), .val (.int ya)] [(.int (Own.icmp 2 1))]))
        refine Own.g_ret X48 hx hret hlocks rfl (Or.inl ⟨rfl, by simp, _, rfl⟩) (hb hby d9_70) (by decide) (by decide) eH48 ?_
        exact ⟨congrArg (fun q => some (Value.int q)) (Eq.symm (show Own.cmpL [xa, xb] [ya] = Own.icmp 2 1 from if_pos hq1)), N48, rfl⟩
    · intro hq1
      refine Own.g_iload X40 hx (hb hby d9_40) rfl 42 rfl ?_
      refine Own.g_iload X40 hx (hb hby d9_42) rfl 44 rfl ?_
      refine Own.g_callS X40 hx (y := (⟨"java/lang/Integer", "compare", "(II)I"⟩ : MethodName)) hown (mvT hZ (hw _ (List.mem_of_getElem? (i := 57) rfl))) (mvT hZ (hw _ (List.mem_of_getElem? (i := 58) rfl))) (mvT hZ (hw _ (List.mem_of_getElem? (i := 59) rfl))) (mvT hZ (hw _ (List.mem_of_getElem? (i := 60) rfl))) (by decide) [.int (Own.cpv xa xb), .int ya] (Own.back (W := 0) (rm_icm l Z a0 hw [] (Own.cpv xa xb) ya h0 n0 O ) hZ (hw _ (List.mem_of_getElem? (i := 60) rfl)) (hw _ (List.mem_of_getElem? (i := 59) rfl)) (by decide) (by decide)) eH40 (by rw [hml]; rfl) [] (lenOf pd_11 rfl) rfl (Nat.le_of_ble_eq_true rfl) (hb hby d9_44) (by decide) (by decide) 47 rfl ?_
      rintro _ T41 L41 X41 ⟨rfl, N41q, eH41⟩
      have N41 := Fr.app N40 N41q
      show Own.Go p e below _ (T41.setTop (mkF m 47 #[.val (.ref x), .val (.ref y), .val (.int (1 : Int32)), .val (.int (0 : Int32)), .val (.int (Own.cpv xa xb)), .val (.int ya)] [(.int (Own.icmp (Own.cpv xa xb) ya))]))
      refine Own.g_ret X41 hx hret hlocks rfl (Or.inl ⟨rfl, by simp, _, rfl⟩) (hb hby d9_47) (by decide) (by decide) eH41 ?_
      exact ⟨congrArg (fun q => some (Value.int q)) (Eq.symm (show Own.cmpL [xa, xb] [ya] = Own.icmp (Own.cpv xa xb) ya from if_neg hq1)), N41, rfl⟩
  · show Own.Go p e below _ (T3.setTop (mkF m 14 #[.val (.ref x), .val (.ref y), .val (.int (2 : Int32)), .val (.int (0 : Int32)), .unset, .unset] []))
    refine Own.g_iloadN X3 hx (hb hby d9_14) rfl 15 rfl ?_
    refine Own.g_iloadN X3 hx (hb hby d9_15) rfl 16 rfl ?_
    refine Own.g_icmp_ge_f X3 hx (hb hby d9_16) (by decide) 19 rfl ?_
    refine Own.g_aloadN X3 hx (hb hby d9_19) rfl rfl 20 rfl ?_
    refine Own.g_iloadN X3 hx (hb hby d9_20) rfl 21 rfl ?_
    refine Own.g_virtual X3 hx hZ (y := (⟨"java/lang/String", "codePointAt", "(I)I"⟩ : MethodName)) (z := (⟨"java/lang/String", "codePointAt", "(I)I"⟩ : MethodName)) hown (mvT hZ (hw _ (List.mem_of_getElem? (i := 104) rfl))) (mvT hZ (hw _ (List.mem_of_getElem? (i := 105) rfl))) (notFace_of_selects (args := #[]) (mvT hZ (hw _ (List.mem_of_getElem? (i := 107) rfl)))) (mvT hZ (hw _ (List.mem_of_getElem? (i := 107) rfl))) (mvT hZ (hw _ (List.mem_of_getElem? (i := 106) rfl))) (by decide) (a := x) [.int (0 : Int32)] (Own.back (W := 0) (rm_cpa_20 l Z a0 hw [] x xt xa xb G1 G3 h0 n0 O A_x C_xa C_xb SA SHI SLO O2 P5 O4 rG3) hZ (hw _ (List.mem_of_getElem? (i := 108) rfl)) (hw _ (List.mem_of_getElem? (i := 10) rfl)) (by decide) (by decide)) E_x eH3 (by rw [hml]; rfl) [] (lenOf pd_2 rfl) rfl (Nat.le_of_ble_eq_true rfl) (hb hby d9_21) (by decide) (by decide) 24 rfl ?_
    rintro _ T49 L49 X49 ⟨rfl, N49q, eH49⟩
    have N49 := Fr.app N3 N49q
    show Own.Go p e below _ (T49.setTop (mkF m 24 #[.val (.ref x), .val (.ref y), .val (.int (2 : Int32)), .val (.int (0 : Int32)), .unset, .unset] [(.int (Own.cpv xa xb))]))
    refine Own.g_istore X49 hx #[.val (.ref x), .val (.ref y), .val (.int (2 : Int32)), .val (.int (0 : Int32)), .val (.int (Own.cpv xa xb)), .unset] (hb hby d9_24) rfl 26 rfl ?_
    refine Own.g_aloadN X49 hx (hb hby d9_26) rfl rfl 27 rfl ?_
    refine Own.g_iloadN X49 hx (hb hby d9_27) rfl 28 rfl ?_
    refine Own.g_virtual X49 hx hZ (y := (⟨"java/lang/String", "codePointAt", "(I)I"⟩ : MethodName)) (z := (⟨"java/lang/String", "codePointAt", "(I)I"⟩ : MethodName)) hown (mvT hZ (hw _ (List.mem_of_getElem? (i := 104) rfl))) (mvT hZ (hw _ (List.mem_of_getElem? (i := 105) rfl))) (notFace_of_selects (args := #[]) (mvT hZ (hw _ (List.mem_of_getElem? (i := 107) rfl)))) (mvT hZ (hw _ (List.mem_of_getElem? (i := 107) rfl))) (mvT hZ (hw _ (List.mem_of_getElem? (i := 106) rfl))) (by decide) (a := y) [.int (0 : Int32)] (Own.back (W := 0) (rm_cpa_20 l Z a0 hw [] y yt ya yb G1 G3 h0 n0 O A_y C_ya C_yb SA SHI SLO O2 P5 O4 rG3) hZ (hw _ (List.mem_of_getElem? (i := 108) rfl)) (hw _ (List.mem_of_getElem? (i := 10) rfl)) (by decide) (by decide)) E_y eH49 (by rw [hml]; rfl) [] (lenOf pd_2 rfl) rfl (Nat.le_of_ble_eq_true rfl) (hb hby d9_28) (by decide) (by decide) 31 rfl ?_
    rintro _ T50 L50 X50 ⟨rfl, N50q, eH50⟩
    have N50 := Fr.app N49 N50q
    show Own.Go p e below _ (T50.setTop (mkF m 31 #[.val (.ref x), .val (.ref y), .val (.int (2 : Int32)), .val (.int (0 : Int32)), .val (.int (Own.cpv xa xb)), .unset] [(.int (Own.cpv ya yb))]))
    refine Own.g_istore X50 hx #[.val (.ref x), .val (.ref y), .val (.int (2 : Int32)), .val (.int (0 : Int32)), .val (.int (Own.cpv xa xb)), .val (.int (Own.cpv ya yb))] (hb hby d9_31) rfl 33 rfl ?_
    refine Own.g_iload X50 hx (hb hby d9_33) rfl 35 rfl ?_
    refine Own.g_iload X50 hx (hb hby d9_35) rfl 37 rfl ?_
    refine Own.g_icmp_eq X50 hx (hb hby d9_37) 48 40 (by decide) rfl ?_ ?_
    · intro hq1
      refine Own.g_iloadN X50 hx (hb hby d9_48) rfl 49 rfl ?_
      refine Own.g_iload X50 hx (hb hby d9_49) rfl 51 rfl ?_
      refine Own.g_callS X50 hx (y := (⟨"java/lang/Character", "charCount", "(I)I"⟩ : MethodName)) hown (mvT hZ (hw _ (List.mem_of_getElem? (i := 142) rfl))) (mvT hZ (hw _ (List.mem_of_getElem? (i := 143) rfl))) (mvT hZ (hw _ (List.mem_of_getElem? (i := 130) rfl))) (mvT hZ (hw _ (List.mem_of_getElem? (i := 144) rfl))) (by decide) [.int (Own.cpv xa xb)] (Own.back (W := 1) (rm_chc l Z a0 hw [] (Own.cpv xa xb) h0 n0 O ) hZ (hw _ (List.mem_of_getElem? (i := 144) rfl)) (hw _ (List.mem_of_getElem? (i := 130) rfl)) (by decide) (by decide)) eH50 (by rw [hml]; rfl) [(.int (0 : Int32))] (lenOf pd_2 rfl) rfl (Nat.le_of_ble_eq_true rfl) (hb hby d9_51) (by decide) (by decide) 54 rfl ?_
      rintro _ T52 L52 X52 ⟨rfl, N52q, eH52⟩
      have N52 := Fr.app N50 N52q
      show Own.Go p e below _ (T52.setTop (mkF m 54 #[.val (.ref x), .val (.ref y), .val (.int (2 : Int32)), .val (.int (0 : Int32)), .val (.int (Own.cpv xa xb)), .val (.int (Own.cpv ya yb))] [(.int (if (Own.cpv xa xb) < 65536 then 1 else 2)), (.int (0 : Int32))]))
      by_cases hq2 : (Own.cpv xa xb) < 65536
      · rw [if_pos hq2]
        show Own.Go p e below _ (T52.setTop (mkF m 54 #[.val (.ref x), .val (.ref y), .val (.int (2 : Int32)), .val (.int (0 : Int32)), .val (.int (Own.cpv xa xb)), .val (.int (Own.cpv ya yb))] [(.int (1 : Int32)), (.int (0 : Int32))]))
        refine Own.g_iadd X52 hx (hb hby d9_54) 55 rfl ?_
        rw [show ((0 : Int32) + (1 : Int32)) = (1 : Int32) from by decide]
        refine Own.g_istoreN X52 hx #[.val (.ref x), .val (.ref y), .val (.int (2 : Int32)), .val (.int (1 : Int32)), .val (.int (Own.cpv xa xb)), .val (.int (Own.cpv ya yb))] (hb hby d9_55) rfl 56 rfl ?_
        refine Own.g_goto X52 hx (hb hby d9_56) 14 (by decide) ?_
        refine Own.g_iloadN X52 hx (hb hby d9_14) rfl 15 rfl ?_
        refine Own.g_iloadN X52 hx (hb hby d9_15) rfl 16 rfl ?_
        refine Own.g_icmp_ge_f X52 hx (hb hby d9_16) (by decide) 19 rfl ?_
        refine Own.g_aloadN X52 hx (hb hby d9_19) rfl rfl 20 rfl ?_
        refine Own.g_iloadN X52 hx (hb hby d9_20) rfl 21 rfl ?_
        refine Own.g_virtual X52 hx hZ (y := (⟨"java/lang/String", "codePointAt", "(I)I"⟩ : MethodName)) (z := (⟨"java/lang/String", "codePointAt", "(I)I"⟩ : MethodName)) hown (mvT hZ (hw _ (List.mem_of_getElem? (i := 104) rfl))) (mvT hZ (hw _ (List.mem_of_getElem? (i := 105) rfl))) (notFace_of_selects (args := #[]) (mvT hZ (hw _ (List.mem_of_getElem? (i := 107) rfl)))) (mvT hZ (hw _ (List.mem_of_getElem? (i := 107) rfl))) (mvT hZ (hw _ (List.mem_of_getElem? (i := 106) rfl))) (by decide) (a := x) [.int (1 : Int32)] (Own.back (W := 0) (rm_cpa_21 l Z a0 hw [] x xt xa xb G1 G3 h0 n0 O A_x C_xa C_xb SA SHI SLO O2 P5 O4 rG3) hZ (hw _ (List.mem_of_getElem? (i := 108) rfl)) (hw _ (List.mem_of_getElem? (i := 10) rfl)) (by decide) (by decide)) E_x eH52 (by rw [hml]; rfl) [] (lenOf pd_2 rfl) rfl (Nat.le_of_ble_eq_true rfl) (hb hby d9_21) (by decide) (by decide) 24 rfl ?_
        rintro _ T56 L56 X56 ⟨rfl, N56q, eH56⟩
        have N56 := Fr.app N52 N56q
        show Own.Go p e below _ (T56.setTop (mkF m 24 #[.val (.ref x), .val (.ref y), .val (.int (2 : Int32)), .val (.int (1 : Int32)), .val (.int (Own.cpv xa xb)), .val (.int (Own.cpv ya yb))] [(.int xb)]))
        refine Own.g_istore X56 hx #[.val (.ref x), .val (.ref y), .val (.int (2 : Int32)), .val (.int (1 : Int32)), .val (.int xb), .val (.int (Own.cpv ya yb))] (hb hby d9_24) rfl 26 rfl ?_
        refine Own.g_aloadN X56 hx (hb hby d9_26) rfl rfl 27 rfl ?_
        refine Own.g_iloadN X56 hx (hb hby d9_27) rfl 28 rfl ?_
        refine Own.g_virtual X56 hx hZ (y := (⟨"java/lang/String", "codePointAt", "(I)I"⟩ : MethodName)) (z := (⟨"java/lang/String", "codePointAt", "(I)I"⟩ : MethodName)) hown (mvT hZ (hw _ (List.mem_of_getElem? (i := 104) rfl))) (mvT hZ (hw _ (List.mem_of_getElem? (i := 105) rfl))) (notFace_of_selects (args := #[]) (mvT hZ (hw _ (List.mem_of_getElem? (i := 107) rfl)))) (mvT hZ (hw _ (List.mem_of_getElem? (i := 107) rfl))) (mvT hZ (hw _ (List.mem_of_getElem? (i := 106) rfl))) (by decide) (a := y) [.int (1 : Int32)] (Own.back (W := 0) (rm_cpa_21 l Z a0 hw [] y yt ya yb G1 G3 h0 n0 O A_y C_ya C_yb SA SHI SLO O2 P5 O4 rG3) hZ (hw _ (List.mem_of_getElem? (i := 108) rfl)) (hw _ (List.mem_of_getElem? (i := 10) rfl)) (by decide) (by decide)) E_y eH56 (by rw [hml]; rfl) [] (lenOf pd_2 rfl) rfl (Nat.le_of_ble_eq_true rfl) (hb hby d9_28) (by decide) (by decide) 31 rfl ?_
        rintro _ T57 L57 X57 ⟨rfl, N57q, eH57⟩
        have N57 := Fr.app N56 N57q
        show Own.Go p e below _ (T57.setTop (mkF m 31 #[.val (.ref x), .val (.ref y), .val (.int (2 : Int32)), .val (.int (1 : Int32)), .val (.int xb), .val (.int (Own.cpv ya yb))] [(.int yb)]))
        refine Own.g_istore X57 hx #[.val (.ref x), .val (.ref y), .val (.int (2 : Int32)), .val (.int (1 : Int32)), .val (.int xb), .val (.int yb)] (hb hby d9_31) rfl 33 rfl ?_
        refine Own.g_iload X57 hx (hb hby d9_33) rfl 35 rfl ?_
        refine Own.g_iload X57 hx (hb hby d9_35) rfl 37 rfl ?_
        refine Own.g_icmp_eq X57 hx (hb hby d9_37) 48 40 (by decide) rfl ?_ ?_
        · intro hq3
          refine Own.g_iloadN X57 hx (hb hby d9_48) rfl 49 rfl ?_
          refine Own.g_iload X57 hx (hb hby d9_49) rfl 51 rfl ?_
          refine Own.g_callS X57 hx (y := (⟨"java/lang/Character", "charCount", "(I)I"⟩ : MethodName)) hown (mvT hZ (hw _ (List.mem_of_getElem? (i := 142) rfl))) (mvT hZ (hw _ (List.mem_of_getElem? (i := 143) rfl))) (mvT hZ (hw _ (List.mem_of_getElem? (i := 130) rfl))) (mvT hZ (hw _ (List.mem_of_getElem? (i := 144) rfl))) (by decide) [.int xb] (Own.back (W := 1) (rm_chc l Z a0 hw [] xb h0 n0 O ) hZ (hw _ (List.mem_of_getElem? (i := 144) rfl)) (hw _ (List.mem_of_getElem? (i := 130) rfl)) (by decide) (by decide)) eH57 (by rw [hml]; rfl) [(.int (1 : Int32))] (lenOf pd_2 rfl) rfl (Nat.le_of_ble_eq_true rfl) (hb hby d9_51) (by decide) (by decide) 54 rfl ?_
          rintro _ T59 L59 X59 ⟨rfl, N59q, eH59⟩
          have N59 := Fr.app N57 N59q
          show Own.Go p e below _ (T59.setTop (mkF m 54 #[.val (.ref x), .val (.ref y), .val (.int (2 : Int32)), .val (.int (1 : Int32)), .val (.int xb), .val (.int yb)] [(.int (if xb < 65536 then 1 else 2)), (.int (1 : Int32))]))
          rw [if_pos C_xb.small]
          show Own.Go p e below _ (T59.setTop (mkF m 54 #[.val (.ref x), .val (.ref y), .val (.int (2 : Int32)), .val (.int (1 : Int32)), .val (.int xb), .val (.int yb)] [(.int (1 : Int32)), (.int (1 : Int32))]))
          refine Own.g_iadd X59 hx (hb hby d9_54) 55 rfl ?_
          rw [show ((1 : Int32) + (1 : Int32)) = (2 : Int32) from by decide]
          refine Own.g_istoreN X59 hx #[.val (.ref x), .val (.ref y), .val (.int (2 : Int32)), .val (.int (2 : Int32)), .val (.int xb), .val (.int yb)] (hb hby d9_55) rfl 56 rfl ?_
          refine Own.g_goto X59 hx (hb hby d9_56) 14 (by decide) ?_
          refine Own.g_iloadN X59 hx (hb hby d9_14) rfl 15 rfl ?_
          refine Own.g_iloadN X59 hx (hb hby d9_15) rfl 16 rfl ?_
          refine Own.g_icmp_ge_t X59 hx (hb hby d9_16) (by decide) 59 (by decide) ?_
          refine Own.g_aloadN X59 hx (hb hby d9_59) rfl rfl 60 rfl ?_
          refine Own.g_virtual X59 hx hZ (y := (⟨"java/lang/String", "length", "()I"⟩ : MethodName)) (z := (⟨"java/lang/String", "length", "()I"⟩ : MethodName)) hown (mvT hZ (hw _ (List.mem_of_getElem? (i := 45) rfl))) (mvT hZ (hw _ (List.mem_of_getElem? (i := 46) rfl))) (notFace_of_selects (args := #[]) (mvT hZ (hw _ (List.mem_of_getElem? (i := 48) rfl)))) (mvT hZ (hw _ (List.mem_of_getElem? (i := 48) rfl))) (mvT hZ (hw _ (List.mem_of_getElem? (i := 47) rfl))) (by decide) (a := x) [] (Own.back (W := 0) (rm_len l Z a0 hw [] x xt [xa, xb] G1 h0 n0 O A_x hcs0 O2 P5) hZ (hw _ (List.mem_of_getElem? (i := 49) rfl)) (hw _ (List.mem_of_getElem? (i := 10) rfl)) (by decide) (by decide)) E_x eH59 (by rw [hml]; rfl) [] (lenOf pd_18 rfl) rfl (Nat.le_of_ble_eq_true rfl) (hb hby d9_60) (by decide) (by decide) 63 rfl ?_
          rintro _ T60 L60 X60 ⟨rfl, N60q, eH60⟩
          have N60 := Fr.app N59 N60q
          show Own.Go p e below _ (T60.setTop (mkF m 63 #[.val (.ref x), .val (.ref y), .val (.int (2 : Int32)), .val (.int (2 : Int32)), .val (.int xb), .val (.int yb)] [(.int (2 : Int32))]))
          refine Own.g_aloadN X60 hx (hb hby d9_63) rfl rfl 64 rfl ?_
          refine Own.g_virtual X60 hx hZ (y := (⟨"java/lang/String", "length", "()I"⟩ : MethodName)) (z := (⟨"java/lang/String", "length", "()I"⟩ : MethodName)) hown (mvT hZ (hw _ (List.mem_of_getElem? (i := 45) rfl))) (mvT hZ (hw _ (List.mem_of_getElem? (i := 46) rfl))) (notFace_of_selects (args := #[]) (mvT hZ (hw _ (List.mem_of_getElem? (i := 48) rfl)))) (mvT hZ (hw _ (List.mem_of_getElem? (i := 48) rfl))) (mvT hZ (hw _ (List.mem_of_getElem? (i := 47) rfl))) (by decide) (a := y) [] (Own.back (W := 1) (rm_len l Z a0 hw [] y yt [ya, yb] G1 h0 n0 O A_y hds0 O2 P5) hZ (hw _ (List.mem_of_getElem? (i := 49) rfl)) (hw _ (List.mem_of_getElem? (i := 10) rfl)) (by decide) (by decide)) E_y eH60 (by rw [hml]; rfl) [(.int (2 : Int32))] (lenOf pd_18 rfl) rfl (Nat.le_of_ble_eq_true rfl) (hb hby d9_64) (by decide) (by decide) 67 rfl ?_
          rintro _ T61 L61 X61 ⟨rfl, N61q, eH61⟩
          have N61 := Fr.app N60 N61q
          show Own.Go p e below _ (T61.setTop (mkF m 67 #[.val (.ref x), .val (.ref y), .val (.int (2 : Int32)), .val (.int (2 : Int32)), .val (.int xb), .val (.int yb)] [(.int (2 : Int32)), (.int (2 : Int32))]))
          refine Own.g_callS X61 hx (y := (⟨"java/lang/Integer", "compare", "(II)I"⟩ : MethodName)) hown (mvT hZ (hw _ (List.mem_of_getElem? (i := 57) rfl))) (mvT hZ (hw _ (List.mem_of_getElem? (i := 58) rfl))) (mvT hZ (hw _ (List.mem_of_getElem? (i := 59) rfl))) (mvT hZ (hw _ (List.mem_of_getElem? (i := 60) rfl))) (by decide) [.int (2 : Int32), .int (2 : Int32)] (Own.back (W := 0) (rm_icm l Z a0 hw [] (2 : Int32) (2 : Int32) h0 n0 O ) hZ (hw _ (List.mem_of_getElem? (i := 60) rfl)) (hw _ (List.mem_of_getElem? (i := 59) rfl)) (by decide) (by decide)) eH61 (by rw [hml]; rfl) [] (lenOf pd_11 rfl) rfl (Nat.le_of_ble_eq_true rfl) (hb hby d9_67) (by decide) (by decide) 70 rfl ?_
          rintro _ T62 L62 X62 ⟨rfl, N62q, eH62⟩
          have N62 := Fr.app N61 N62q
          show Own.Go p e below _ (T62.setTop (mkF m 70 #[.val (.ref x), .val (.ref y), .val (.int (2 : Int32)), .val (.int (2 : Int32)), .val (.int xb), .val (.int yb)] [(.int (Own.icmp 2 2))]))
          refine Own.g_ret X62 hx hret hlocks rfl (Or.inl ⟨rfl, by simp, _, rfl⟩) (hb hby d9_70) (by decide) (by decide) eH62 ?_
          exact ⟨congrArg (fun q => some (Value.int q)) (Eq.symm (show Own.cmpL [xa, xb] [ya, yb] = Own.icmp 2 2 from (if_pos hq1).trans ((if_pos hq2).trans (if_pos hq3)))), N62, rfl⟩
        · intro hq3
          refine Own.g_iload X57 hx (hb hby d9_40) rfl 42 rfl ?_
          refine Own.g_iload X57 hx (hb hby d9_42) rfl 44 rfl ?_
          refine Own.g_callS X57 hx (y := (⟨"java/lang/Integer", "compare", "(II)I"⟩ : MethodName)) hown (mvT hZ (hw _ (List.mem_of_getElem? (i := 57) rfl))) (mvT hZ (hw _ (List.mem_of_getElem? (i := 58) rfl))) (mvT hZ (hw _ (List.mem_of_getElem? (i := 59) rfl))) (mvT hZ (hw _ (List.mem_of_getElem? (i := 60) rfl))) (by decide) [.int xb, .int yb] (Own.back (W := 0) (rm_icm l Z a0 hw [] xb yb h0 n0 O ) hZ (hw _ (List.mem_of_getElem? (i := 60) rfl)) (hw _ (List.mem_of_getElem? (i := 59) rfl)) (by decide) (by decide)) eH57 (by rw [hml]; rfl) [] (lenOf pd_11 rfl) rfl (Nat.le_of_ble_eq_true rfl) (hb hby d9_44) (by decide) (by decide) 47 rfl ?_
          rintro _ T58 L58 X58 ⟨rfl, N58q, eH58⟩
          have N58 := Fr.app N57 N58q
          show Own.Go p e below _ (T58.setTop (mkF m 47 #[.val (.ref x), .val (.ref y), .val (.int (2 : Int32)), .val (.int (1 : Int32)), .val (.int xb), .val (.int yb)] [(.int (Own.icmp xb yb))]))
          refine Own.g_ret X58 hx hret hlocks rfl (Or.inl ⟨rfl, by simp, _, rfl⟩) (hb hby d9_47) (by decide) (by decide) eH58 ?_
          exact ⟨congrArg (fun q => some (Value.int q)) (Eq.symm (show Own.cmpL [xa, xb] [ya, yb] = Own.icmp xb yb from (if_pos hq1).trans ((if_pos hq2).trans (if_neg hq3)))), N58, rfl⟩
      · rw [if_neg hq2]
        show Own.Go p e below _ (T52.setTop (mkF m 54 #[.val (.ref x), .val (.ref y), .val (.int (2 : Int32)), .val (.int (0 : Int32)), .val (.int (Own.cpv xa xb)), .val (.int (Own.cpv ya yb))] [(.int (2 : Int32)), (.int (0 : Int32))]))
        refine Own.g_iadd X52 hx (hb hby d9_54) 55 rfl ?_
        rw [show ((0 : Int32) + (2 : Int32)) = (2 : Int32) from by decide]
        refine Own.g_istoreN X52 hx #[.val (.ref x), .val (.ref y), .val (.int (2 : Int32)), .val (.int (2 : Int32)), .val (.int (Own.cpv xa xb)), .val (.int (Own.cpv ya yb))] (hb hby d9_55) rfl 56 rfl ?_
        refine Own.g_goto X52 hx (hb hby d9_56) 14 (by decide) ?_
        refine Own.g_iloadN X52 hx (hb hby d9_14) rfl 15 rfl ?_
        refine Own.g_iloadN X52 hx (hb hby d9_15) rfl 16 rfl ?_
        refine Own.g_icmp_ge_t X52 hx (hb hby d9_16) (by decide) 59 (by decide) ?_
        refine Own.g_aloadN X52 hx (hb hby d9_59) rfl rfl 60 rfl ?_
        refine Own.g_virtual X52 hx hZ (y := (⟨"java/lang/String", "length", "()I"⟩ : MethodName)) (z := (⟨"java/lang/String", "length", "()I"⟩ : MethodName)) hown (mvT hZ (hw _ (List.mem_of_getElem? (i := 45) rfl))) (mvT hZ (hw _ (List.mem_of_getElem? (i := 46) rfl))) (notFace_of_selects (args := #[]) (mvT hZ (hw _ (List.mem_of_getElem? (i := 48) rfl)))) (mvT hZ (hw _ (List.mem_of_getElem? (i := 48) rfl))) (mvT hZ (hw _ (List.mem_of_getElem? (i := 47) rfl))) (by decide) (a := x) [] (Own.back (W := 0) (rm_len l Z a0 hw [] x xt [xa, xb] G1 h0 n0 O A_x hcs0 O2 P5) hZ (hw _ (List.mem_of_getElem? (i := 49) rfl)) (hw _ (List.mem_of_getElem? (i := 10) rfl)) (by decide) (by decide)) E_x eH52 (by rw [hml]; rfl) [] (lenOf pd_18 rfl) rfl (Nat.le_of_ble_eq_true rfl) (hb hby d9_60) (by decide) (by decide) 63 rfl ?_
        rintro _ T53 L53 X53 ⟨rfl, N53q, eH53⟩
        have N53 := Fr.app N52 N53q
        show Own.Go p e below _ (T53.setTop (mkF m 63 #[.val (.ref x), .val (.ref y), .val (.int (2 : Int32)), .val (.int (2 : Int32)), .val (.int (Own.cpv xa xb)), .val (.int (Own.cpv ya yb))] [(.int (2 : Int32))]))
        refine Own.g_aloadN X53 hx (hb hby d9_63) rfl rfl 64 rfl ?_
        refine Own.g_virtual X53 hx hZ (y := (⟨"java/lang/String", "length", "()I"⟩ : MethodName)) (z := (⟨"java/lang/String", "length", "()I"⟩ : MethodName)) hown (mvT hZ (hw _ (List.mem_of_getElem? (i := 45) rfl))) (mvT hZ (hw _ (List.mem_of_getElem? (i := 46) rfl))) (notFace_of_selects (args := #[]) (mvT hZ (hw _ (List.mem_of_getElem? (i := 48) rfl)))) (mvT hZ (hw _ (List.mem_of_getElem? (i := 48) rfl))) (mvT hZ (hw _ (List.mem_of_getElem? (i := 47) rfl))) (by decide) (a := y) [] (Own.back (W := 1) (rm_len l Z a0 hw [] y yt [ya, yb] G1 h0 n0 O A_y hds0 O2 P5) hZ (hw _ (List.mem_of_getElem? (i := 49) rfl)) (hw _ (List.mem_of_getElem? (i := 10) rfl)) (by decide) (by decide)) E_y eH53 (by rw [hml]; rfl) [(.int (2 : Int32))] (lenOf pd_18 rfl) rfl (Nat.le_of_ble_eq_true rfl) (hb hby d9_64) (by decide) (by decide) 67 rfl ?_
        rintro _ T54 L54 X54 ⟨rfl, N54q, eH54⟩
        have N54 := Fr.app N53 N54q
        show Own.Go p e below _ (T54.setTop (mkF m 67 #[.val (.ref x), .val (.ref y), .val (.int (2 : Int32)), .val (.int (2 : Int32)), .val (.int (Own.cpv xa xb)), .val (.int (Own.cpv ya yb))] [(.int (2 : Int32)), (.int (2 : Int32))]))
        refine Own.g_callS X54 hx (y := (⟨"java/lang/Integer", "compare", "(II)I"⟩ : MethodName)) hown (mvT hZ (hw _ (List.mem_of_getElem? (i := 57) rfl))) (mvT hZ (hw _ (List.mem_of_getElem? (i := 58) rfl))) (mvT hZ (hw _ (List.mem_of_getElem? (i := 59) rfl))) (mvT hZ (hw _ (List.mem_of_getElem? (i := 60) rfl))) (by decide) [.int (2 : Int32), .int (2 : Int32)] (Own.back (W := 0) (rm_icm l Z a0 hw [] (2 : Int32) (2 : Int32) h0 n0 O ) hZ (hw _ (List.mem_of_getElem? (i := 60) rfl)) (hw _ (List.mem_of_getElem? (i := 59) rfl)) (by decide) (by decide)) eH54 (by rw [hml]; rfl) [] (lenOf pd_11 rfl) rfl (Nat.le_of_ble_eq_true rfl) (hb hby d9_67) (by decide) (by decide) 70 rfl ?_
        rintro _ T55 L55 X55 ⟨rfl, N55q, eH55⟩
        have N55 := Fr.app N54 N55q
        show Own.Go p e below _ (T55.setTop (mkF m 70 #[.val (.ref x), .val (.ref y), .val (.int (2 : Int32)), .val (.int (2 : Int32)), .val (.int (Own.cpv xa xb)), .val (.int (Own.cpv ya yb))] [(.int (Own.icmp 2 2))]))
        refine Own.g_ret X55 hx hret hlocks rfl (Or.inl ⟨rfl, by simp, _, rfl⟩) (hb hby d9_70) (by decide) (by decide) eH55 ?_
        exact ⟨congrArg (fun q => some (Value.int q)) (Eq.symm (show Own.cmpL [xa, xb] [ya, yb] = Own.icmp 2 2 from (if_pos hq1).trans (if_neg hq2))), N55, rfl⟩
    · intro hq1
      refine Own.g_iload X50 hx (hb hby d9_40) rfl 42 rfl ?_
      refine Own.g_iload X50 hx (hb hby d9_42) rfl 44 rfl ?_
      refine Own.g_callS X50 hx (y := (⟨"java/lang/Integer", "compare", "(II)I"⟩ : MethodName)) hown (mvT hZ (hw _ (List.mem_of_getElem? (i := 57) rfl))) (mvT hZ (hw _ (List.mem_of_getElem? (i := 58) rfl))) (mvT hZ (hw _ (List.mem_of_getElem? (i := 59) rfl))) (mvT hZ (hw _ (List.mem_of_getElem? (i := 60) rfl))) (by decide) [.int (Own.cpv xa xb), .int (Own.cpv ya yb)] (Own.back (W := 0) (rm_icm l Z a0 hw [] (Own.cpv xa xb) (Own.cpv ya yb) h0 n0 O ) hZ (hw _ (List.mem_of_getElem? (i := 60) rfl)) (hw _ (List.mem_of_getElem? (i := 59) rfl)) (by decide) (by decide)) eH50 (by rw [hml]; rfl) [] (lenOf pd_11 rfl) rfl (Nat.le_of_ble_eq_true rfl) (hb hby d9_44) (by decide) (by decide) 47 rfl ?_
      rintro _ T51 L51 X51 ⟨rfl, N51q, eH51⟩
      have N51 := Fr.app N50 N51q
      show Own.Go p e below _ (T51.setTop (mkF m 47 #[.val (.ref x), .val (.ref y), .val (.int (2 : Int32)), .val (.int (0 : Int32)), .val (.int (Own.cpv xa xb)), .val (.int (Own.cpv ya yb))] [(.int (Own.icmp (Own.cpv xa xb) (Own.cpv ya yb)))]))
      refine Own.g_ret X51 hx hret hlocks rfl (Or.inl ⟨rfl, by simp, _, rfl⟩) (hb hby d9_47) (by decide) (by decide) eH51 ?_
      exact ⟨congrArg (fun q => some (Value.int q)) (Eq.symm (show Own.cmpL [xa, xb] [ya, yb] = Own.icmp (Own.cpv xa xb) (Own.cpv ya yb) from if_neg hq1)), N51, rfl⟩
set_option maxRecDepth 65536 in
set_option maxHeartbeats 40000000 in
theorem st_48 {p : Program} {l : Launch} {e : Env} {s : State} {m : MethodId} {args : Array Value} {below : List Frame} {meth : Method} {c : Code} {T0 : State} {locs : List Loc} {Z : State} {a0 : Array Value} {hh : Heap} {n0 : Nat} {Q : Option Value → Heap → List Loc → Prop} (hQ : ∀ h L, Fr n0 L → Q (some (.int 1)) h L) {vm : Vm} {k0 : Nat} (hx : p.tables.exec = Jvm.exec) (hZ : Z.Warmed39 (s.setVm vm).vm) (hw : ∀ d ∈ tables_1, d.before a0 Z = true) (hby : c.code = code) (hml : c.maxLocals = 19) (hown : (s.setVm vm).vm.findClass "com/example/proximity/proximity/CodePointOrderComparePinLaw" = some m.cls) (hret : meth.sig.returnType = (some .boolean)) (hlocks : meth.locks = false) (hEL : EW Z a0 EL) (hS : s.Since vm k0) (hk : k0 ≤ hh.size) (CR : CHr Z EL s.vm s.heap vm hh)
    (p1 p2 p3 p4 p5 p6 x0 x1 y0 y1 G1 : Int32) (G3 : Value) (X0 : Stand p l e room_1 (s.setVm vm) m args below meth c T0 locs 0 0) (e0 : T0.heap = hh) (N0 : Fr n0 locs) (O : Old Z n0 hh)    (SA : Sta Z Z.heap "java/lang/StringUTF16" "$assertionsDisabled" "Z" (.int 1)) (SHI : Sta Z Z.heap "java/lang/StringUTF16" "HI_BYTE_SHIFT" "I" (.int 0)) (SLO : Sta Z Z.heap "java/lang/StringUTF16" "LO_BYTE_SHIFT" "I" (.int 8)) (O2 : Sta Z Z.heap "java/lang/String" "COMPACT_STRINGS" "Z" (.int G1)) (P5 : ¬ (G1 = (0 : Int32))) (O4 : Sta Z Z.heap "jdk/internal/util/Preconditions" "SIOOBE_FORMATTER" "Ljava/util/function/BiFunction;" G3) (rG3 : G3.isRef = true) (C_x0 : Own.Ch x0) (C_x1 : Own.Ch x1) (C_y0 : Own.Ch y0) (C_y1 : Own.Ch y1) :
    Own.Go p e below (Own.EndW Z EL s Q 32 1152) (T0.setTop (mkF m 48 #[.val (.int p1), .val (.int p2), .val (.int p3), .val (.int p4), .val (.int p5), .val (.int p6), .val (.int x0), .val (.int x1), .val (.int y0), .val (.int y1), .unset, .unset, .unset, .unset, .unset, .unset, .unset, .unset, .unset] [])) := by
  refine Own.g_iload X0 hx (hb hby at_48) rfl 50 rfl ?_
  refine Own.g_iconst X0 hx (3 : Int32) (hb hby at_50) rfl 51 rfl ?_
  refine Own.g_iand X0 hx (hb hby at_51) 52 rfl ?_
  refine Own.g_iconst X0 hx (3 : Int32) (hb hby at_52) rfl 53 rfl ?_
  refine Own.g_irem X0 hx (hb hby at_53) (by decide) 54 rfl ?_
  refine Own.g_istore X0 hx #[.val (.int p1), .val (.int p2), .val (.int p3), .val (.int p4), .val (.int p5), .val (.int p6), .val (.int x0), .val (.int x1), .val (.int y0), .val (.int y1), .val (.int ((p5 &&& (3 : Int32)) % (3 : Int32))), .unset, .unset, .unset, .unset, .unset, .unset, .unset, .unset] (hb hby at_54) rfl 56 rfl ?_
  obtain ⟨na, hna⟩ : ∃ z : Int32, z = ((p5 &&& (3 : Int32)) % (3 : Int32)) := ⟨_, rfl⟩
  rw [← hna]
  have K_na : na = 0 ∨ na = 1 ∨ na = 2 := by rw [hna]; exact Own.and3_mod3 _
  clear hna
  refine Own.g_iload X0 hx (hb hby at_56) rfl 58 rfl ?_
  refine Own.g_iconst X0 hx (2 : Int32) (hb hby at_58) rfl 59 rfl ?_
  refine Own.g_iushr X0 hx (hb hby at_59) 60 rfl ?_
  refine Own.g_iconst X0 hx (3 : Int32) (hb hby at_60) rfl 61 rfl ?_
  refine Own.g_iand X0 hx (hb hby at_61) 62 rfl ?_
  refine Own.g_iconst X0 hx (3 : Int32) (hb hby at_62) rfl 63 rfl ?_
  refine Own.g_irem X0 hx (hb hby at_63) (by decide) 64 rfl ?_
  refine Own.g_istore X0 hx #[.val (.int p1), .val (.int p2), .val (.int p3), .val (.int p4), .val (.int p5), .val (.int p6), .val (.int x0), .val (.int x1), .val (.int y0), .val (.int y1), .val (.int na), .val (.int ((((p5.toUInt32 >>> ((2 : Int32) &&& 31).toUInt32).toInt32) &&& (3 : Int32)) % (3 : Int32))), .unset, .unset, .unset, .unset, .unset, .unset, .unset] (hb hby at_64) rfl 66 rfl ?_
  obtain ⟨nb, hnb⟩ : ∃ z : Int32, z = ((((p5.toUInt32 >>> ((2 : Int32) &&& 31).toUInt32).toInt32) &&& (3 : Int32)) % (3 : Int32)) := ⟨_, rfl⟩
  rw [← hnb]
  have K_nb : nb = 0 ∨ nb = 1 ∨ nb = 2 := by rw [hnb]; exact Own.and3_mod3 _
  clear hnb
  show Own.Go p e below _ (T0.setTop (mkF m 66 #[.val (.int p1), .val (.int p2), .val (.int p3), .val (.int p4), .val (.int p5), .val (.int p6), .val (.int x0), .val (.int x1), .val (.int y0), .val (.int y1), .val (.int na), .val (.int nb), .unset, .unset, .unset, .unset, .unset, .unset, .unset] []))
  refine Own.g_iload X0 hx (hb hby at_66) rfl 68 rfl ?_
  refine Own.g_iload X0 hx (hb hby at_68) rfl 70 rfl ?_
  refine Own.g_iload X0 hx (hb hby at_70) rfl 72 rfl ?_
  refine Own.w_callS X0 hx hZ (y := (⟨"com/example/proximity/proximity/CodePointOrderComparePinLaw", "make", "(CCI)Ljava/lang/String;"⟩ : MethodName)) hown (mvT hZ (hw _ (List.mem_of_getElem? (i := 5) rfl))) (mvT hZ (hw _ (List.mem_of_getElem? (i := 6) rfl))) (mvT hZ (hw _ (List.mem_of_getElem? (i := 2) rfl))) (mvT hZ (hw _ (List.mem_of_getElem? (i := 7) rfl))) (by decide) [.int x0, .int x1, .int na] (Own.backW (W := 0) (SF := []) (rm_mk l Z a0 hw [] x0 x1 na G1 hh n0 O K_na C_x0 C_x1 SA SHI SLO O2 P5) hZ (hw _ (List.mem_of_getElem? (i := 7) rfl)) (hw _ (List.mem_of_getElem? (i := 2) rfl)) (by decide) (by decide) hEL CR.1 all0) e0 hS hk (by rw [hml]; rfl) [] (lenOf pd_19 rfl) rfl (Nat.le_of_ble_eq_true rfl) (hb hby at_72) (by decide) (by decide) 75 rfl ?_
  rintro _ T1 L1 X1 hS hZ hown C1 ⟨b, bt, rfl, N1q, K1, A_b⟩
  replace CR := CR.trans C1
  have hk : T1.heap.size ≤ T1.heap.size := Nat.le_refl _
  have N1 := Fr.app N0 N1q
  replace O := O.keep K1 all0
  show Own.Go p e below _ (T1.setTop (mkF m 75 #[.val (.int p1), .val (.int p2), .val (.int p3), .val (.int p4), .val (.int p5), .val (.int p6), .val (.int x0), .val (.int x1), .val (.int y0), .val (.int y1), .val (.int na), .val (.int nb), .unset, .unset, .unset, .unset, .unset, .unset, .unset] [(.ref b)]))
  refine Own.g_astore X1 hx #[.val (.int p1), .val (.int p2), .val (.int p3), .val (.int p4), .val (.int p5), .val (.int p6), .val (.int x0), .val (.int x1), .val (.int y0), .val (.int y1), .val (.int na), .val (.int nb), .val (.ref b), .unset, .unset, .unset, .unset, .unset, .unset] (hb hby at_75) rfl rfl 77 rfl ?_
  refine Own.g_iload X1 hx (hb hby at_77) rfl 79 rfl ?_
  refine Own.g_iload X1 hx (hb hby at_79) rfl 81 rfl ?_
  refine Own.g_iload X1 hx (hb hby at_81) rfl 83 rfl ?_
  refine Own.w_callS X1 hx hZ (y := (⟨"com/example/proximity/proximity/CodePointOrderComparePinLaw", "make", "(CCI)Ljava/lang/String;"⟩ : MethodName)) hown (mvT hZ (hw _ (List.mem_of_getElem? (i := 5) rfl))) (mvT hZ (hw _ (List.mem_of_getElem? (i := 6) rfl))) (mvT hZ (hw _ (List.mem_of_getElem? (i := 2) rfl))) (mvT hZ (hw _ (List.mem_of_getElem? (i := 7) rfl))) (by decide) [.int y0, .int y1, .int nb] (Own.backW (W := 0) (SF := []) (rm_mk l Z a0 hw [] y0 y1 nb G1 T1.heap n0 O K_nb C_y0 C_y1 SA SHI SLO O2 P5) hZ (hw _ (List.mem_of_getElem? (i := 7) rfl)) (hw _ (List.mem_of_getElem? (i := 2) rfl)) (by decide) (by decide) hEL CR.1 all0) (rfl : T1.heap = T1.heap) hS hk (by rw [hml]; rfl) [] (lenOf pd_19 rfl) rfl (Nat.le_of_ble_eq_true rfl) (hb hby at_83) (by decide) (by decide) 86 rfl ?_
  rintro _ T2 L2 X2 hS hZ hown C2 ⟨d, dt, rfl, N2q, K2, A_d⟩
  replace CR := CR.trans C2
  have hk : T2.heap.size ≤ T2.heap.size := Nat.le_refl _
  have N2 := Fr.app N1 N2q
  replace A_b := A_b.keep K2 nin0 nin0
  replace O := O.keep K2 all0
  show Own.Go p e below _ (T2.setTop (mkF m 86 #[.val (.int p1), .val (.int p2), .val (.int p3), .val (.int p4), .val (.int p5), .val (.int p6), .val (.int x0), .val (.int x1), .val (.int y0), .val (.int y1), .val (.int na), .val (.int nb), .val (.ref b), .unset, .unset, .unset, .unset, .unset, .unset] [(.ref d)]))
  refine Own.g_astore X2 hx #[.val (.int p1), .val (.int p2), .val (.int p3), .val (.int p4), .val (.int p5), .val (.int p6), .val (.int x0), .val (.int x1), .val (.int y0), .val (.int y1), .val (.int na), .val (.int nb), .val (.ref b), .val (.ref d), .unset, .unset, .unset, .unset, .unset] (hb hby at_86) rfl rfl 88 rfl ?_
  refine Own.g_iload X2 hx (hb hby at_88) rfl 90 rfl ?_
  refine Own.g_iload X2 hx (hb hby at_90) rfl 92 rfl ?_
  refine Own.g_iload X2 hx (hb hby at_92) rfl 94 rfl ?_
  refine Own.g_callS X2 hx (y := (⟨"com/example/proximity/proximity/CodePointOrderComparePinLaw", "codePoints", "(CCI)[I"⟩ : MethodName)) hown (mvT hZ (hw _ (List.mem_of_getElem? (i := 30) rfl))) (mvT hZ (hw _ (List.mem_of_getElem? (i := 31) rfl))) (mvT hZ (hw _ (List.mem_of_getElem? (i := 2) rfl))) (mvT hZ (hw _ (List.mem_of_getElem? (i := 32) rfl))) (by decide) [.int x0, .int x1, .int na] (Own.back (W := 0) (rm_cps l Z a0 hw [] x0 x1 na T2.heap n0 O K_na) hZ (hw _ (List.mem_of_getElem? (i := 32) rfl)) (hw _ (List.mem_of_getElem? (i := 2) rfl)) (by decide) (by decide)) (rfl : T2.heap = T2.heap) (by rw [hml]; rfl) [] (lenOf pd_20 rfl) rfl (Nat.le_of_ble_eq_true rfl) (hb hby at_94) (by decide) (by decide) 97 rfl ?_
  rintro _ T3 L3 X3 ⟨r, k_r, rfl, N3q, K3, -, V_r⟩
  have N3 := Fr.app N2 N3q
  have CR' := CR.trans (CHr.keep K3 all0 CR.1)
  replace CR := CR'
  replace hk := Nat.le_trans hk K3.1
  replace A_b := A_b.keep K3 nin0 nin0
  replace A_d := A_d.keep K3 nin0 nin0
  replace O := O.keep K3 all0
  show Own.Go p e below _ (T3.setTop (mkF m 97 #[.val (.int p1), .val (.int p2), .val (.int p3), .val (.int p4), .val (.int p5), .val (.int p6), .val (.int x0), .val (.int x1), .val (.int y0), .val (.int y1), .val (.int na), .val (.int nb), .val (.ref b), .val (.ref d), .unset, .unset, .unset, .unset, .unset] [(.ref r)]))
  refine Own.g_astore X3 hx #[.val (.int p1), .val (.int p2), .val (.int p3), .val (.int p4), .val (.int p5), .val (.int p6), .val (.int x0), .val (.int x1), .val (.int y0), .val (.int y1), .val (.int na), .val (.int nb), .val (.ref b), .val (.ref d), .val (.ref r), .unset, .unset, .unset, .unset] (hb hby at_97) rfl rfl 99 rfl ?_
  refine Own.g_iload X3 hx (hb hby at_99) rfl 101 rfl ?_
  refine Own.g_iload X3 hx (hb hby at_101) rfl 103 rfl ?_
  refine Own.g_iload X3 hx (hb hby at_103) rfl 105 rfl ?_
  refine Own.g_callS X3 hx (y := (⟨"com/example/proximity/proximity/CodePointOrderComparePinLaw", "codePoints", "(CCI)[I"⟩ : MethodName)) hown (mvT hZ (hw _ (List.mem_of_getElem? (i := 30) rfl))) (mvT hZ (hw _ (List.mem_of_getElem? (i := 31) rfl))) (mvT hZ (hw _ (List.mem_of_getElem? (i := 2) rfl))) (mvT hZ (hw _ (List.mem_of_getElem? (i := 32) rfl))) (by decide) [.int y0, .int y1, .int nb] (Own.back (W := 0) (rm_cps l Z a0 hw [] y0 y1 nb T3.heap n0 O K_nb) hZ (hw _ (List.mem_of_getElem? (i := 32) rfl)) (hw _ (List.mem_of_getElem? (i := 2) rfl)) (by decide) (by decide)) (rfl : T3.heap = T3.heap) (by rw [hml]; rfl) [] (lenOf pd_20 rfl) rfl (Nat.le_of_ble_eq_true rfl) (hb hby at_105) (by decide) (by decide) 108 rfl ?_
  rintro _ T5 L5 X5 ⟨u, k_u, rfl, N5q, K5, -, V_u⟩
  have N5 := Fr.app N3 N5q
  have CR' := CR.trans (CHr.keep K5 all0 CR.1)
  replace CR := CR'
  replace hk := Nat.le_trans hk K5.1
  replace A_b := A_b.keep K5 nin0 nin0
  replace A_d := A_d.keep K5 nin0 nin0
  replace V_r := V_r.keep K5 nin0
  replace O := O.keep K5 all0
  show Own.Go p e below _ (T5.setTop (mkF m 108 #[.val (.int p1), .val (.int p2), .val (.int p3), .val (.int p4), .val (.int p5), .val (.int p6), .val (.int x0), .val (.int x1), .val (.int y0), .val (.int y1), .val (.int na), .val (.int nb), .val (.ref b), .val (.ref d), .val (.ref r), .unset, .unset, .unset, .unset] [(.ref u)]))
  refine Own.g_astore X5 hx #[.val (.int p1), .val (.int p2), .val (.int p3), .val (.int p4), .val (.int p5), .val (.int p6), .val (.int x0), .val (.int x1), .val (.int y0), .val (.int y1), .val (.int na), .val (.int nb), .val (.ref b), .val (.ref d), .val (.ref r), .val (.ref u), .unset, .unset, .unset] (hb hby at_108) rfl rfl 110 rfl ?_
  refine Own.g_aload X5 hx (hb hby at_110) rfl rfl 112 rfl ?_
  refine Own.g_aload X5 hx (hb hby at_112) rfl rfl 114 rfl ?_
  refine Own.g_callS X5 hx (y := (⟨"com/example/proximity/proximity/CodePointOrderComparePinLaw", "expected", "([I[I)I"⟩ : MethodName)) hown (mvT hZ (hw _ (List.mem_of_getElem? (i := 34) rfl))) (mvT hZ (hw _ (List.mem_of_getElem? (i := 35) rfl))) (mvT hZ (hw _ (List.mem_of_getElem? (i := 2) rfl))) (mvT hZ (hw _ (List.mem_of_getElem? (i := 36) rfl))) (by decide) [.ref r, .ref u] (Own.back (W := 0) (rm_exp l Z a0 hw [] r k_r u k_u (Own.p0 (Own.mkL na x0 x1)) (Own.p1 (Own.mkL na x0 x1)) (Own.p2 (Own.mkL na x0 x1)) (Own.p0 (Own.mkL nb y0 y1)) (Own.p1 (Own.mkL nb y0 y1)) (Own.p2 (Own.mkL nb y0 y1)) T5.heap n0 O V_r V_u) hZ (hw _ (List.mem_of_getElem? (i := 36) rfl)) (hw _ (List.mem_of_getElem? (i := 2) rfl)) (by decide) (by decide)) (rfl : T5.heap = T5.heap) (by rw [hml]; rfl) [] (lenOf pd_21 rfl) rfl (Nat.le_of_ble_eq_true rfl) (hb hby at_114) (by decide) (by decide) 117 rfl ?_
  rintro _ T7 L7 X7 ⟨rfl, N7q, eH7⟩
  have N7 := Fr.app N5 N7q
  show Own.Go p e below _ (T7.setTop (mkF m 117 #[.val (.int p1), .val (.int p2), .val (.int p3), .val (.int p4), .val (.int p5), .val (.int p6), .val (.int x0), .val (.int x1), .val (.int y0), .val (.int y1), .val (.int na), .val (.int nb), .val (.ref b), .val (.ref d), .val (.ref r), .val (.ref u), .unset, .unset, .unset] [(.int (Own.expV (Own.p0 (Own.mkL na x0 x1)) (Own.p1 (Own.mkL na x0 x1)) (Own.p2 (Own.mkL na x0 x1)) (Own.p0 (Own.mkL nb y0 y1)) (Own.p1 (Own.mkL nb y0 y1)) (Own.p2 (Own.mkL nb y0 y1))))]))
  have hPL := Own.plain (Own.mkL na x0 x1) (Own.mkL nb y0 y1) (Own.mkL_shp C_x0 C_x1) (Own.mkL_shp C_y0 C_y1)
  refine Own.g_istore X7 hx #[.val (.int p1), .val (.int p2), .val (.int p3), .val (.int p4), .val (.int p5), .val (.int p6), .val (.int x0), .val (.int x1), .val (.int y0), .val (.int y1), .val (.int na), .val (.int nb), .val (.ref b), .val (.ref d), .val (.ref r), .val (.ref u), .val (.int (Own.expV (Own.p0 (Own.mkL na x0 x1)) (Own.p1 (Own.mkL na x0 x1)) (Own.p2 (Own.mkL na x0 x1)) (Own.p0 (Own.mkL nb y0 y1)) (Own.p1 (Own.mkL nb y0 y1)) (Own.p2 (Own.mkL nb y0 y1)))), .unset, .unset] (hb hby at_117) rfl 119 rfl ?_
  refine Own.g_aload X7 hx (hb hby at_119) rfl rfl 121 rfl ?_
  refine Own.g_aload X7 hx (hb hby at_121) rfl rfl 123 rfl ?_
  refine Own.g_callS X7 hx (y := (⟨"com/example/proximity/proximity/CodePointOrder", "compare", "(Ljava/lang/String;Ljava/lang/String;)I"⟩ : MethodName)) hown (mvT hZ (hw _ (List.mem_of_getElem? (i := 41) rfl))) (mvT hZ (hw _ (List.mem_of_getElem? (i := 42) rfl))) (mvT hZ (hw _ (List.mem_of_getElem? (i := 43) rfl))) (mvT hZ (hw _ (List.mem_of_getElem? (i := 44) rfl))) (by decide) [.ref b, .ref d] (Own.back (W := 0) (rm_cmp l Z a0 hw [] b bt (Own.mkL na x0 x1) d dt (Own.mkL nb y0 y1) G1 G3 T5.heap n0 O A_b (Own.mkL_shp C_x0 C_x1) A_d (Own.mkL_shp C_y0 C_y1) SA SHI SLO O2 P5 O4 rG3) hZ (hw _ (List.mem_of_getElem? (i := 44) rfl)) (hw _ (List.mem_of_getElem? (i := 43) rfl)) (by decide) (by decide)) eH7 (by rw [hml]; rfl) [] (lenOf pd_22 rfl) rfl (Nat.le_of_ble_eq_true rfl) (hb hby at_123) (by decide) (by decide) 126 rfl ?_
  rintro _ T8 L8 X8 ⟨rfl, N8q, eH8⟩
  have N8 := Fr.app N7 N8q
  show Own.Go p e below _ (T8.setTop (mkF m 126 #[.val (.int p1), .val (.int p2), .val (.int p3), .val (.int p4), .val (.int p5), .val (.int p6), .val (.int x0), .val (.int x1), .val (.int y0), .val (.int y1), .val (.int na), .val (.int nb), .val (.ref b), .val (.ref d), .val (.ref r), .val (.ref u), .val (.int (Own.expV (Own.p0 (Own.mkL na x0 x1)) (Own.p1 (Own.mkL na x0 x1)) (Own.p2 (Own.mkL na x0 x1)) (Own.p0 (Own.mkL nb y0 y1)) (Own.p1 (Own.mkL nb y0 y1)) (Own.p2 (Own.mkL nb y0 y1)))), .unset, .unset] [(.int (Own.cmpL (Own.mkL na x0 x1) (Own.mkL nb y0 y1)))]))
  refine Own.g_callS X8 hx (y := (⟨"com/example/proximity/proximity/CodePointOrderComparePinLaw", "sign", "(I)I"⟩ : MethodName)) hown (mvT hZ (hw _ (List.mem_of_getElem? (i := 61) rfl))) (mvT hZ (hw _ (List.mem_of_getElem? (i := 62) rfl))) (mvT hZ (hw _ (List.mem_of_getElem? (i := 2) rfl))) (mvT hZ (hw _ (List.mem_of_getElem? (i := 63) rfl))) (by decide) [.int (Own.cmpL (Own.mkL na x0 x1) (Own.mkL nb y0 y1))] (Own.back (W := 0) (rm_sgn l Z a0 hw [] (Own.cmpL (Own.mkL na x0 x1) (Own.mkL nb y0 y1)) T5.heap n0 O ) hZ (hw _ (List.mem_of_getElem? (i := 63) rfl)) (hw _ (List.mem_of_getElem? (i := 2) rfl)) (by decide) (by decide)) eH8 (by rw [hml]; rfl) [] (lenOf pd_2 rfl) rfl (Nat.le_of_ble_eq_true rfl) (hb hby at_126) (by decide) (by decide) 129 rfl ?_
  rintro _ T9 L9 X9 ⟨rfl, N9q, eH9⟩
  have N9 := Fr.app N8 N9q
  show Own.Go p e below _ (T9.setTop (mkF m 129 #[.val (.int p1), .val (.int p2), .val (.int p3), .val (.int p4), .val (.int p5), .val (.int p6), .val (.int x0), .val (.int x1), .val (.int y0), .val (.int y1), .val (.int na), .val (.int nb), .val (.ref b), .val (.ref d), .val (.ref r), .val (.ref u), .val (.int (Own.expV (Own.p0 (Own.mkL na x0 x1)) (Own.p1 (Own.mkL na x0 x1)) (Own.p2 (Own.mkL na x0 x1)) (Own.p0 (Own.mkL nb y0 y1)) (Own.p1 (Own.mkL nb y0 y1)) (Own.p2 (Own.mkL nb y0 y1)))), .unset, .unset] [(.int (Own.sgn (Own.cmpL (Own.mkL na x0 x1) (Own.mkL nb y0 y1))))]))
  refine Own.g_istore X9 hx #[.val (.int p1), .val (.int p2), .val (.int p3), .val (.int p4), .val (.int p5), .val (.int p6), .val (.int x0), .val (.int x1), .val (.int y0), .val (.int y1), .val (.int na), .val (.int nb), .val (.ref b), .val (.ref d), .val (.ref r), .val (.ref u), .val (.int (Own.expV (Own.p0 (Own.mkL na x0 x1)) (Own.p1 (Own.mkL na x0 x1)) (Own.p2 (Own.mkL na x0 x1)) (Own.p0 (Own.mkL nb y0 y1)) (Own.p1 (Own.mkL nb y0 y1)) (Own.p2 (Own.mkL nb y0 y1)))), .val (.int (Own.sgn (Own.cmpL (Own.mkL na x0 x1) (Own.mkL nb y0 y1)))), .unset] (hb hby at_129) rfl 131 rfl ?_
  refine Own.g_aload X9 hx (hb hby at_131) rfl rfl 133 rfl ?_
  refine Own.g_aload X9 hx (hb hby at_133) rfl rfl 135 rfl ?_
  refine Own.g_callS X9 hx (y := (⟨"com/example/proximity/proximity/CodePointOrder", "compare", "(Ljava/lang/String;Ljava/lang/String;)I"⟩ : MethodName)) hown (mvT hZ (hw _ (List.mem_of_getElem? (i := 41) rfl))) (mvT hZ (hw _ (List.mem_of_getElem? (i := 42) rfl))) (mvT hZ (hw _ (List.mem_of_getElem? (i := 43) rfl))) (mvT hZ (hw _ (List.mem_of_getElem? (i := 44) rfl))) (by decide) [.ref d, .ref b] (Own.back (W := 0) (rm_cmp l Z a0 hw [] d dt (Own.mkL nb y0 y1) b bt (Own.mkL na x0 x1) G1 G3 T5.heap n0 O A_d (Own.mkL_shp C_y0 C_y1) A_b (Own.mkL_shp C_x0 C_x1) SA SHI SLO O2 P5 O4 rG3) hZ (hw _ (List.mem_of_getElem? (i := 44) rfl)) (hw _ (List.mem_of_getElem? (i := 43) rfl)) (by decide) (by decide)) eH9 (by rw [hml]; rfl) [] (lenOf pd_22 rfl) rfl (Nat.le_of_ble_eq_true rfl) (hb hby at_135) (by decide) (by decide) 138 rfl ?_
  rintro _ T10 L10 X10 ⟨rfl, N10q, eH10⟩
  have N10 := Fr.app N9 N10q
  show Own.Go p e below _ (T10.setTop (mkF m 138 #[.val (.int p1), .val (.int p2), .val (.int p3), .val (.int p4), .val (.int p5), .val (.int p6), .val (.int x0), .val (.int x1), .val (.int y0), .val (.int y1), .val (.int na), .val (.int nb), .val (.ref b), .val (.ref d), .val (.ref r), .val (.ref u), .val (.int (Own.expV (Own.p0 (Own.mkL na x0 x1)) (Own.p1 (Own.mkL na x0 x1)) (Own.p2 (Own.mkL na x0 x1)) (Own.p0 (Own.mkL nb y0 y1)) (Own.p1 (Own.mkL nb y0 y1)) (Own.p2 (Own.mkL nb y0 y1)))), .val (.int (Own.sgn (Own.cmpL (Own.mkL na x0 x1) (Own.mkL nb y0 y1)))), .unset] [(.int (Own.cmpL (Own.mkL nb y0 y1) (Own.mkL na x0 x1)))]))
  refine Own.g_callS X10 hx (y := (⟨"com/example/proximity/proximity/CodePointOrderComparePinLaw", "sign", "(I)I"⟩ : MethodName)) hown (mvT hZ (hw _ (List.mem_of_getElem? (i := 61) rfl))) (mvT hZ (hw _ (List.mem_of_getElem? (i := 62) rfl))) (mvT hZ (hw _ (List.mem_of_getElem? (i := 2) rfl))) (mvT hZ (hw _ (List.mem_of_getElem? (i := 63) rfl))) (by decide) [.int (Own.cmpL (Own.mkL nb y0 y1) (Own.mkL na x0 x1))] (Own.back (W := 0) (rm_sgn l Z a0 hw [] (Own.cmpL (Own.mkL nb y0 y1) (Own.mkL na x0 x1)) T5.heap n0 O ) hZ (hw _ (List.mem_of_getElem? (i := 63) rfl)) (hw _ (List.mem_of_getElem? (i := 2) rfl)) (by decide) (by decide)) eH10 (by rw [hml]; rfl) [] (lenOf pd_2 rfl) rfl (Nat.le_of_ble_eq_true rfl) (hb hby at_138) (by decide) (by decide) 141 rfl ?_
  rintro _ T11 L11 X11 ⟨rfl, N11q, eH11⟩
  have N11 := Fr.app N10 N11q
  show Own.Go p e below _ (T11.setTop (mkF m 141 #[.val (.int p1), .val (.int p2), .val (.int p3), .val (.int p4), .val (.int p5), .val (.int p6), .val (.int x0), .val (.int x1), .val (.int y0), .val (.int y1), .val (.int na), .val (.int nb), .val (.ref b), .val (.ref d), .val (.ref r), .val (.ref u), .val (.int (Own.expV (Own.p0 (Own.mkL na x0 x1)) (Own.p1 (Own.mkL na x0 x1)) (Own.p2 (Own.mkL na x0 x1)) (Own.p0 (Own.mkL nb y0 y1)) (Own.p1 (Own.mkL nb y0 y1)) (Own.p2 (Own.mkL nb y0 y1)))), .val (.int (Own.sgn (Own.cmpL (Own.mkL na x0 x1) (Own.mkL nb y0 y1)))), .unset] [(.int (Own.sgn (Own.cmpL (Own.mkL nb y0 y1) (Own.mkL na x0 x1))))]))
  refine Own.g_istore X11 hx #[.val (.int p1), .val (.int p2), .val (.int p3), .val (.int p4), .val (.int p5), .val (.int p6), .val (.int x0), .val (.int x1), .val (.int y0), .val (.int y1), .val (.int na), .val (.int nb), .val (.ref b), .val (.ref d), .val (.ref r), .val (.ref u), .val (.int (Own.expV (Own.p0 (Own.mkL na x0 x1)) (Own.p1 (Own.mkL na x0 x1)) (Own.p2 (Own.mkL na x0 x1)) (Own.p0 (Own.mkL nb y0 y1)) (Own.p1 (Own.mkL nb y0 y1)) (Own.p2 (Own.mkL nb y0 y1)))), .val (.int (Own.sgn (Own.cmpL (Own.mkL na x0 x1) (Own.mkL nb y0 y1)))), .val (.int (Own.sgn (Own.cmpL (Own.mkL nb y0 y1) (Own.mkL na x0 x1))))] (hb hby at_141) rfl 143 rfl ?_
  refine Own.g_iload X11 hx (hb hby at_143) rfl 145 rfl ?_
  refine Own.g_iload X11 hx (hb hby at_145) rfl 147 rfl ?_
  refine Own.g_icmp_ne_f X11 hx (hb hby at_147) hPL.1 150 rfl ?_
  refine Own.g_iload X11 hx (hb hby at_150) rfl 152 rfl ?_
  refine Own.g_iload X11 hx (hb hby at_152) rfl 154 rfl ?_
  refine Own.g_ineg X11 hx (hb hby at_154) 155 rfl ?_
  refine Own.g_icmp_ne_f X11 hx (hb hby at_155) hPL.2 158 rfl ?_
  refine Own.g_iconst X11 hx (1 : Int32) (hb hby at_158) rfl 159 rfl ?_
  refine Own.g_goto X11 hx (hb hby at_159) 163 (by decide) ?_
  refine Own.w_ret X11 hx hZ hEL hS hk CR hret hlocks rfl (Or.inl ⟨rfl, by simp, _, rfl⟩) (hb hby at_163) (by decide) (by decide) eH11 ?_
  exact hQ _ _ N11
theorem ef_law (m : MethodId) (x0 : Int32) (x1 : Int32) (x2 : Int32) (x3 : Int32) (x4 : Int32) (x5 : Int32) : entryFrame m #[.int x0, .int x1, .int x2, .int x3, .int x4, .int x5] maxLocals = mkF m 0 #[.val (.int x0), .val (.int x1), .val (.int x2), .val (.int x3), .val (.int x4), .val (.int x5), .unset, .unset, .unset, .unset, .unset, .unset, .unset, .unset, .unset, .unset, .unset, .unset, .unset] [] := by first | (simp [entryFrame, mkF, argsToLocals, Value.category, maxLocals]; done) | rfl
def Q_law (Z : State) (p1 : Int32) (p2 : Int32) (p3 : Int32) (p4 : Int32) (p5 : Int32) (p6 : Int32) (G1 : Int32) (G3 : Value) (h0 : Heap) (n0 : Nat) (v : Option Value) (h : Heap) (L : List Loc) : Prop := v = some (.int 1) ∧ Fr n0 L
set_option maxRecDepth 65536 in
set_option maxHeartbeats 40000000 in
theorem rm_law (l : Launch) (Z : State) (a0 : Array Value) (hw : ∀ d ∈ tables_1, d.before a0 Z = true) (ws : List Jvm.Cond) (p1 : Int32) (p2 : Int32) (p3 : Int32) (p4 : Int32) (p5 : Int32) (p6 : Int32) (G1 : Int32) (G3 : Value) (h0 : Heap) (n0 : Nat) (O : Old Z n0 h0) (SA : Sta Z Z.heap "java/lang/StringUTF16" "$assertionsDisabled" "Z" (.int 1)) (SHI : Sta Z Z.heap "java/lang/StringUTF16" "HI_BYTE_SHIFT" "I" (.int 0)) (SLO : Sta Z Z.heap "java/lang/StringUTF16" "LO_BYTE_SHIFT" "I" (.int 8)) (O2 : Sta Z Z.heap "java/lang/String" "COMPACT_STRINGS" "Z" (.int G1)) (P5 : ¬ (G1 = (0 : Int32))) (O4 : Sta Z Z.heap "jdk/internal/util/Preconditions" "SIOOBE_FORMATTER" "Ljava/util/function/BiFunction;" G3) (rG3 : G3.isRef = true) :
    MetFree l x (head1 (Jvm.Cond.code x code maxLocals ret :: ws) room_1) (fun aa U => aa = #[.int p1, .int p2, .int p3, .int p4, .int p5, .int p6] ∧ Z.Warmed39 U.vm ∧ U.heap = h0 ∧ CHv Z EL U.vm h0 ∧ ∀ yy ∈ ([] : List Addr), Safe Z EL U.vm h0 yy) (fun _ _ _ _ _ => True) (fun _ U o U' => Own.EndW Z EL U (Q_law Z p1 p2 p3 p4 p5 p6 G1 G3 h0 n0) 32 1152 o U') := by
  refine MetFree.of_bodySF (plainFor_of_name pn_2) hisR ?_
  intro p e s m args below meth c s₁ Bd hml0 hP hK
  obtain ⟨rfl, hZ, hh, hH, hSF⟩ := hP
  replace hZ : Z.Warmed39 (s.setVm s.vm).vm := hZ
  have hEL := own_EL hw
  have hx := Bd.exec
  have hby := Bd.bytes
  have hml : c.maxLocals = 19 := hml0
  have hown : (s.setVm s.vm).vm.findClass "com/example/proximity/proximity/CodePointOrderComparePinLaw" = some m.cls := findClass_of_methodNamed Bd.named
  have hnm := (name_of_methodNamed Bd.named Bd.method).1
  have hret := Bd.returns
  have hlocks : meth.locks = false := Bd.notSynchronized
  have X0 : Stand p l e room_1 (s.setVm s.vm) m #[.int p1, .int p2, .int p3, .int p4, .int p5, .int p6] below meth c s₁ [] 0 0 := Stand.of_body Bd
  have e0 : s₁.heap = h0 := by rw [← hh, Bd.state]; rfl
  have N0 := Fr.nil n0
  have CR : CHr Z EL s.vm s.heap s.vm h0 := by rw [hh]; exact CHr.refl hH
  have hS : s.Since s.vm h0.size := (State.WarmedH.refl s).since _
  have hk : h0.size ≤ h0.size := Nat.le_refl _
  show Own.Go p e below (Own.EndW Z EL s (Q_law Z p1 p2 p3 p4 p5 p6 G1 G3 h0 n0) 32 1152) (s₁.setTop (entryFrame m #[.int p1, .int p2, .int p3, .int p4, .int p5, .int p6] maxLocals))
  refine Own.Go.eq (ef_law m p1 p2 p3 p4 p5 p6) ?_
  have hQ : ∀ h L, Fr n0 L → Q_law Z p1 p2 p3 p4 p5 p6 G1 G3 h0 n0 (some (.int 1)) h L := fun _ _ N => ⟨rfl, N⟩
  refine Own.g_iloadN X0 hx (hb hby at_0) rfl 1 rfl ?_
  refine Own.g_callS X0 hx (y := (⟨"com/example/proximity/proximity/CodePointOrderComparePinLaw", "drawn", "(I)C"⟩ : MethodName)) hown (mvT hZ (hw _ (List.mem_of_getElem? (i := 0) rfl))) (mvT hZ (hw _ (List.mem_of_getElem? (i := 1) rfl))) (mvT hZ (hw _ (List.mem_of_getElem? (i := 2) rfl))) (mvT hZ (hw _ (List.mem_of_getElem? (i := 3) rfl))) (by decide) [.int p1] (Own.back (W := 0) (rm_drw l Z a0 hw [] p1 h0 n0 O ) hZ (hw _ (List.mem_of_getElem? (i := 3) rfl)) (hw _ (List.mem_of_getElem? (i := 2) rfl)) (by decide) (by decide)) e0 (by rw [hml]; rfl) [] (lenOf pd_23 rfl) rfl (Nat.le_of_ble_eq_true rfl) (hb hby at_1) (by decide) (by decide) 4 rfl ?_
  rintro _ T1 L1 X1 ⟨x0, rfl, C_x0, N1q, eH1⟩
  have N1 := Fr.app N0 N1q
  show Own.Go p e below _ (T1.setTop (mkF m 4 #[.val (.int p1), .val (.int p2), .val (.int p3), .val (.int p4), .val (.int p5), .val (.int p6), .unset, .unset, .unset, .unset, .unset, .unset, .unset, .unset, .unset, .unset, .unset, .unset, .unset] [(.int x0)]))
  refine Own.g_istore X1 hx #[.val (.int p1), .val (.int p2), .val (.int p3), .val (.int p4), .val (.int p5), .val (.int p6), .val (.int x0), .unset, .unset, .unset, .unset, .unset, .unset, .unset, .unset, .unset, .unset, .unset, .unset] (hb hby at_4) rfl 6 rfl ?_
  refine Own.g_iloadN X1 hx (hb hby at_6) rfl 7 rfl ?_
  refine Own.g_callS X1 hx (y := (⟨"com/example/proximity/proximity/CodePointOrderComparePinLaw", "drawn", "(I)C"⟩ : MethodName)) hown (mvT hZ (hw _ (List.mem_of_getElem? (i := 0) rfl))) (mvT hZ (hw _ (List.mem_of_getElem? (i := 1) rfl))) (mvT hZ (hw _ (List.mem_of_getElem? (i := 2) rfl))) (mvT hZ (hw _ (List.mem_of_getElem? (i := 3) rfl))) (by decide) [.int p2] (Own.back (W := 0) (rm_drw l Z a0 hw [] p2 h0 n0 O ) hZ (hw _ (List.mem_of_getElem? (i := 3) rfl)) (hw _ (List.mem_of_getElem? (i := 2) rfl)) (by decide) (by decide)) eH1 (by rw [hml]; rfl) [] (lenOf pd_23 rfl) rfl (Nat.le_of_ble_eq_true rfl) (hb hby at_7) (by decide) (by decide) 10 rfl ?_
  rintro _ T2 L2 X2 ⟨x1, rfl, C_x1, N2q, eH2⟩
  have N2 := Fr.app N1 N2q
  show Own.Go p e below _ (T2.setTop (mkF m 10 #[.val (.int p1), .val (.int p2), .val (.int p3), .val (.int p4), .val (.int p5), .val (.int p6), .val (.int x0), .unset, .unset, .unset, .unset, .unset, .unset, .unset, .unset, .unset, .unset, .unset, .unset] [(.int x1)]))
  refine Own.g_istore X2 hx #[.val (.int p1), .val (.int p2), .val (.int p3), .val (.int p4), .val (.int p5), .val (.int p6), .val (.int x0), .val (.int x1), .unset, .unset, .unset, .unset, .unset, .unset, .unset, .unset, .unset, .unset, .unset] (hb hby at_10) rfl 12 rfl ?_
  refine Own.g_iload X2 hx (hb hby at_12) rfl 14 rfl ?_
  refine Own.g_iconst X2 hx (1 : Int32) (hb hby at_14) rfl 15 rfl ?_
  refine Own.g_iand X2 hx (hb hby at_15) 16 rfl ?_
  refine Own.g_if_eq X2 hx (hb hby at_16) 24 19 (by decide) rfl ?_ ?_
  · intro hm1
    refine Own.g_iloadN X2 hx (hb hby at_24) rfl 25 rfl ?_
    refine Own.g_callS X2 hx (y := (⟨"com/example/proximity/proximity/CodePointOrderComparePinLaw", "drawn", "(I)C"⟩ : MethodName)) hown (mvT hZ (hw _ (List.mem_of_getElem? (i := 0) rfl))) (mvT hZ (hw _ (List.mem_of_getElem? (i := 1) rfl))) (mvT hZ (hw _ (List.mem_of_getElem? (i := 2) rfl))) (mvT hZ (hw _ (List.mem_of_getElem? (i := 3) rfl))) (by decide) [.int p3] (Own.back (W := 0) (rm_drw l Z a0 hw [] p3 h0 n0 O ) hZ (hw _ (List.mem_of_getElem? (i := 3) rfl)) (hw _ (List.mem_of_getElem? (i := 2) rfl)) (by decide) (by decide)) eH2 (by rw [hml]; rfl) [] (lenOf pd_23 rfl) rfl (Nat.le_of_ble_eq_true rfl) (hb hby at_25) (by decide) (by decide) 28 rfl ?_
    rintro _ T3 L3 X3 ⟨y0, rfl, C_y0, N3q, eH3⟩
    have N3 := Fr.app N2 N3q
    show Own.Go p e below _ (T3.setTop (mkF m 28 #[.val (.int p1), .val (.int p2), .val (.int p3), .val (.int p4), .val (.int p5), .val (.int p6), .val (.int x0), .val (.int x1), .unset, .unset, .unset, .unset, .unset, .unset, .unset, .unset, .unset, .unset, .unset] [(.int y0)]))
    refine Own.g_istore X3 hx #[.val (.int p1), .val (.int p2), .val (.int p3), .val (.int p4), .val (.int p5), .val (.int p6), .val (.int x0), .val (.int x1), .val (.int y0), .unset, .unset, .unset, .unset, .unset, .unset, .unset, .unset, .unset, .unset] (hb hby at_28) rfl 30 rfl ?_
    refine Own.g_iload X3 hx (hb hby at_30) rfl 32 rfl ?_
    refine Own.g_iconst X3 hx (2 : Int32) (hb hby at_32) rfl 33 rfl ?_
    refine Own.g_iand X3 hx (hb hby at_33) 34 rfl ?_
    refine Own.g_if_eq X3 hx (hb hby at_34) 42 37 (by decide) rfl ?_ ?_
    · intro hm2
      refine Own.g_iloadN X3 hx (hb hby at_42) rfl 43 rfl ?_
      refine Own.g_callS X3 hx (y := (⟨"com/example/proximity/proximity/CodePointOrderComparePinLaw", "drawn", "(I)C"⟩ : MethodName)) hown (mvT hZ (hw _ (List.mem_of_getElem? (i := 0) rfl))) (mvT hZ (hw _ (List.mem_of_getElem? (i := 1) rfl))) (mvT hZ (hw _ (List.mem_of_getElem? (i := 2) rfl))) (mvT hZ (hw _ (List.mem_of_getElem? (i := 3) rfl))) (by decide) [.int p4] (Own.back (W := 0) (rm_drw l Z a0 hw [] p4 h0 n0 O ) hZ (hw _ (List.mem_of_getElem? (i := 3) rfl)) (hw _ (List.mem_of_getElem? (i := 2) rfl)) (by decide) (by decide)) eH3 (by rw [hml]; rfl) [] (lenOf pd_23 rfl) rfl (Nat.le_of_ble_eq_true rfl) (hb hby at_43) (by decide) (by decide) 46 rfl ?_
      rintro _ T4 L4 X4 ⟨y1, rfl, C_y1, N4q, eH4⟩
      have N4 := Fr.app N3 N4q
      show Own.Go p e below _ (T4.setTop (mkF m 46 #[.val (.int p1), .val (.int p2), .val (.int p3), .val (.int p4), .val (.int p5), .val (.int p6), .val (.int x0), .val (.int x1), .val (.int y0), .unset, .unset, .unset, .unset, .unset, .unset, .unset, .unset, .unset, .unset] [(.int y1)]))
      refine Own.g_istore X4 hx #[.val (.int p1), .val (.int p2), .val (.int p3), .val (.int p4), .val (.int p5), .val (.int p6), .val (.int x0), .val (.int x1), .val (.int y0), .val (.int y1), .unset, .unset, .unset, .unset, .unset, .unset, .unset, .unset, .unset] (hb hby at_46) rfl 48 rfl ?_
      exact st_48 hQ hx hZ hw hby hml hown hret hlocks hEL hS hk CR p1 p2 p3 p4 p5 p6 x0 x1 y0 y1 G1 G3 X4 eH4 N4 O    SA SHI SLO O2 P5 O4 rG3 C_x0 C_x1 C_y0 C_y1
    · intro hm2
      refine Own.g_iload X3 hx (hb hby at_37) rfl 39 rfl ?_
      refine Own.g_goto X3 hx (hb hby at_39) 46 (by decide) ?_
      refine Own.g_istore X3 hx #[.val (.int p1), .val (.int p2), .val (.int p3), .val (.int p4), .val (.int p5), .val (.int p6), .val (.int x0), .val (.int x1), .val (.int y0), .val (.int x1), .unset, .unset, .unset, .unset, .unset, .unset, .unset, .unset, .unset] (hb hby at_46) rfl 48 rfl ?_
      exact st_48 hQ hx hZ hw hby hml hown hret hlocks hEL hS hk CR p1 p2 p3 p4 p5 p6 x0 x1 y0 x1 G1 G3 X3 eH3 N3 O    SA SHI SLO O2 P5 O4 rG3 C_x0 C_x1 C_y0 C_x1
  · intro hm1
    refine Own.g_iload X2 hx (hb hby at_19) rfl 21 rfl ?_
    refine Own.g_goto X2 hx (hb hby at_21) 28 (by decide) ?_
    refine Own.g_istore X2 hx #[.val (.int p1), .val (.int p2), .val (.int p3), .val (.int p4), .val (.int p5), .val (.int p6), .val (.int x0), .val (.int x1), .val (.int x0), .unset, .unset, .unset, .unset, .unset, .unset, .unset, .unset, .unset, .unset] (hb hby at_28) rfl 30 rfl ?_
    refine Own.g_iload X2 hx (hb hby at_30) rfl 32 rfl ?_
    refine Own.g_iconst X2 hx (2 : Int32) (hb hby at_32) rfl 33 rfl ?_
    refine Own.g_iand X2 hx (hb hby at_33) 34 rfl ?_
    refine Own.g_if_eq X2 hx (hb hby at_34) 42 37 (by decide) rfl ?_ ?_
    · intro hm2
      refine Own.g_iloadN X2 hx (hb hby at_42) rfl 43 rfl ?_
      refine Own.g_callS X2 hx (y := (⟨"com/example/proximity/proximity/CodePointOrderComparePinLaw", "drawn", "(I)C"⟩ : MethodName)) hown (mvT hZ (hw _ (List.mem_of_getElem? (i := 0) rfl))) (mvT hZ (hw _ (List.mem_of_getElem? (i := 1) rfl))) (mvT hZ (hw _ (List.mem_of_getElem? (i := 2) rfl))) (mvT hZ (hw _ (List.mem_of_getElem? (i := 3) rfl))) (by decide) [.int p4] (Own.back (W := 0) (rm_drw l Z a0 hw [] p4 h0 n0 O ) hZ (hw _ (List.mem_of_getElem? (i := 3) rfl)) (hw _ (List.mem_of_getElem? (i := 2) rfl)) (by decide) (by decide)) eH2 (by rw [hml]; rfl) [] (lenOf pd_23 rfl) rfl (Nat.le_of_ble_eq_true rfl) (hb hby at_43) (by decide) (by decide) 46 rfl ?_
      rintro _ T5 L5 X5 ⟨y1, rfl, C_y1, N5q, eH5⟩
      have N5 := Fr.app N2 N5q
      show Own.Go p e below _ (T5.setTop (mkF m 46 #[.val (.int p1), .val (.int p2), .val (.int p3), .val (.int p4), .val (.int p5), .val (.int p6), .val (.int x0), .val (.int x1), .val (.int x0), .unset, .unset, .unset, .unset, .unset, .unset, .unset, .unset, .unset, .unset] [(.int y1)]))
      refine Own.g_istore X5 hx #[.val (.int p1), .val (.int p2), .val (.int p3), .val (.int p4), .val (.int p5), .val (.int p6), .val (.int x0), .val (.int x1), .val (.int x0), .val (.int y1), .unset, .unset, .unset, .unset, .unset, .unset, .unset, .unset, .unset] (hb hby at_46) rfl 48 rfl ?_
      exact st_48 hQ hx hZ hw hby hml hown hret hlocks hEL hS hk CR p1 p2 p3 p4 p5 p6 x0 x1 x0 y1 G1 G3 X5 eH5 N5 O    SA SHI SLO O2 P5 O4 rG3 C_x0 C_x1 C_x0 C_y1
    · intro hm2
      refine Own.g_iload X2 hx (hb hby at_37) rfl 39 rfl ?_
      refine Own.g_goto X2 hx (hb hby at_39) 46 (by decide) ?_
      refine Own.g_istore X2 hx #[.val (.int p1), .val (.int p2), .val (.int p3), .val (.int p4), .val (.int p5), .val (.int p6), .val (.int x0), .val (.int x1), .val (.int x0), .val (.int x1), .unset, .unset, .unset, .unset, .unset, .unset, .unset, .unset, .unset] (hb hby at_46) rfl 48 rfl ?_
      exact st_48 hQ hx hZ hw hby hml hown hret hlocks hEL hS hk CR p1 p2 p3 p4 p5 p6 x0 x1 x0 x1 G1 G3 X2 eH2 N2 O    SA SHI SLO O2 P5 O4 rG3 C_x0 C_x1 C_x0 C_x1
set_option maxRecDepth 65536 in
set_option maxHeartbeats 40000000 in
theorem comes_1 {Post : Tables → Env → Array Value → State → Outcome → State → Prop} (hpost : ∀ tb e args s v u, (limb_1_1.after args s (.returned v) u = true ∧ limb_1_2.after args s (.returned v) u = true ∧ True) → ReturnedEndW s (.returned v) u (Jvm.fieldLocs frame_1_writes args s ++ Jvm.arrayLocs frame_1_arrays args s ++ Jvm.staticLocs frame_1_statics s) 32 1152 → Post tb e args s (.returned v) u) :
    ArmFor flags0 classFile x code maxLocals ret World_1 tables_1 room_1 Calls_1 rest_1 Pre_1 Post := by
  intro l hfl _ _ p e ha hc hk s m args below hf hA hF happ hP
  obtain ⟨hcalls, hrest, hpre⟩ := hP
  obtain ⟨-, -, -, hnamed, -, -, -, hat⟩ := (Spec.applies_iff hf).mp happ
  obtain ⟨hg, hn⟩ := and_e (Cond.before_iff.mp (show (Jvm.Cond.and given_1 narrow_1).before args s = true from hpre))
  obtain ⟨g0, q0⟩ := and_e hg
  obtain ⟨g1, q1⟩ := and_e q0
  obtain ⟨g2, q2⟩ := and_e q1
  obtain ⟨g3, q3⟩ := and_e q2
  obtain ⟨g4, q4⟩ := and_e q3
  obtain ⟨g5, q5⟩ := and_e q4
  obtain ⟨w0, w1, w2, w3, w4, w5, rfl⟩ : ∃ w0 w1 w2 w3 w4 w5 : Value, args = #[w0, w1, w2, w3, w4, w5] := by
    have hs : args.size = 6 := by simpa [Cond.value, given_1] using g0
    obtain ⟨L⟩ := args
    match L, hs with
    | [w0, w1, w2, w3, w4, w5], _ => exact ⟨w0, w1, w2, w3, w4, w5, rfl⟩
  have hw := fun d (hd : d ∈ tables_1) => atoms_spec (ws := Jvm.Cond.code x code maxLocals ret :: tables_1) hat d (List.mem_cons_of_mem _ hd)
  have hfit : Fit s := fun {y c} hc i hi => by
    obtain ⟨ha, rfl⟩ := Array.getElem?_eq_some_iff.mp hc
    have q := List.all_eq_true.mp ((Array.all_eq_true_iff_forall_mem.mp hF) _ (Array.getElem_mem ha)) i (List.mem_range.mpr hi)
    simpa [Array.getElem?_eq_getElem hi] using q
  obtain ⟨hsets, hown0⟩ := atoms_of _ (rest_1_c_eq ▸ (show rest_1_c.before _ s = true from hrest))
  obtain ⟨i0, ei0⟩ := is_v g1
  obtain rfl : w0 = (.int i0) := Option.some.inj ei0
  obtain ⟨i1, ei1⟩ := is_v g2
  obtain rfl : w1 = (.int i1) := Option.some.inj ei1
  obtain ⟨i2, ei2⟩ := is_v g3
  obtain rfl : w2 = (.int i2) := Option.some.inj ei2
  obtain ⟨i3, ei3⟩ := is_v g4
  obtain rfl : w3 = (.int i3) := Option.some.inj ei3
  obtain ⟨i4, ei4⟩ := is_v g5
  obtain rfl : w4 = (.int i4) := Option.some.inj ei4
  obtain ⟨i5, ei5⟩ := is_v q5
  obtain rfl : w5 = (.int i5) := Option.some.inj ei5
  have nz := not_v (Cond.before_iff.mp (hsets _ (List.mem_of_getElem? (i := 2) rfl)))
  obtain ⟨G1, eG1⟩ := is_v (Cond.before_iff.mp (hsets _ (List.mem_of_getElem? (i := 1) rfl)))
  have O2 : Sta s s.heap "java/lang/String" "COMPACT_STRINGS" "Z" (.int G1) := Sta.start eG1 (Or.inl (hsets _ (List.mem_of_getElem? (i := 0) rfl)))
  have P5 : ¬ (G1 = (0 : Int32)) := gotF (Cond.eq_ints eG1 (Term.int_eval (0))) nz
  obtain ⟨G3, eG3, rG3⟩ := isR_v (Cond.before_iff.mp (hsets _ (List.mem_of_getElem? (i := 8) rfl)))
  have O4 : Sta s s.heap "jdk/internal/util/Preconditions" "SIOOBE_FORMATTER" "Ljava/util/function/BiFunction;" G3 := Sta.start eG3 (Or.inl (hsets _ (List.mem_of_getElem? (i := 7) rfl)))
  have SA : Sta s s.heap "java/lang/StringUTF16" "$assertionsDisabled" "Z" (.int 1) := Sta.start (Own.start_int (Cond.before_iff.mp (hsets _ (List.mem_of_getElem? (i := 12) rfl)))) (Or.inl (hsets _ (List.mem_of_getElem? (i := 11) rfl)))
  have SHI : Sta s s.heap "java/lang/StringUTF16" "HI_BYTE_SHIFT" "I" (.int 0) := Sta.start (Own.start_int (Cond.before_iff.mp (hsets _ (List.mem_of_getElem? (i := 15) rfl)))) (Or.inl (hsets _ (List.mem_of_getElem? (i := 14) rfl)))
  have SLO : Sta s s.heap "java/lang/StringUTF16" "LO_BYTE_SHIFT" "I" (.int 8) := Sta.start (Own.start_int (Cond.before_iff.mp (hsets _ (List.mem_of_getElem? (i := 18) rfl)))) (Or.inl (hsets _ (List.mem_of_getElem? (i := 17) rfl)))
  have hCH : CHv s EL s.vm s.heap := CHv.start (own_EL hw) (fun p hp => hcalls.1 p hp) (hsets _ (List.mem_of_getElem? (i := 2) rfl)) (hw _ (List.mem_of_getElem? (i := 23) rfl)) (hw _ (List.mem_of_getElem? (i := 9) rfl))
  obtain ⟨n, o, h1, h2, h3, v, L, rfl, ⟨rfl, N⟩, -, hq⟩ := rm_law l s _ hw tables_1 i0 i1 i2 i3 i4 i5 G1 G3 s.heap s.heap.size (Old.start s) SA SHI SLO O2 P5 O4 rG3 p e ha hc hk s m _ below hf ((Spec.applies_iff_loose hf).mp happ).1 ⟨rfl, State.Warmed39.refl s, rfl, hCH, all0⟩ trivial
  refine ⟨n, _, h1, h2, h3, hpost _ _ _ _ _ _ ⟨Cond.after_iff.mpr rfl, Cond.after_iff.mpr (eq_i res_at (Term.int_eval (1)) rfl), trivial⟩ ⟨hq.1, hq.2.1, hq.2.2.1, (hq.2.2.2.sift fun y hy => Or.inr (N y hy)).mono (by decide) (by decide)⟩⟩
theorem main_1_1 : Claimed_1_1 := comes_1 fun _ _ _ _ _ _ h hF => ⟨h.1, hF⟩
theorem main_1_2 : Claimed_1_2 := comes_1 fun _ _ _ _ _ _ h hF => ⟨h.2.1, hF⟩
end Jvm.Pilot.@@N@@
namespace Jvm.Pilot.@@N@@
open Jvm Jvm.ClassFile Sem Op Lib Jvm.Free Jvm.Stand Jvm.Pilot.@@N@@.Jvm.D
/-! MADE BY PROGRAM (witnessworld.py) out of the Statement's table words and the real class files: 24 classes; the members and pool entries that the words name. The judged class is class 1, her method 1. -/
namespace start1
open Jvm.ClassFile
def u (s : String) : CpInfo := .utf8 (stringToUtf16 s)
/-- a pool by its gaps: so many unusable entries, then the entry; so many at the end -/
def gap : Nat → List CpInfo → List CpInfo
  | 0, r => r
  | n + 1, r => .unusable :: gap n r
def poolList (es : List (Nat × CpInfo)) (last : Nat) : List CpInfo := es.foldr (fun e r => gap e.1 (e.2 :: r)) (gap last [])
def pool (es : List (Nat × CpInfo)) (last : Nat) : Array CpInfo := ⟨poolList es last⟩
def fileOf (pool : Array CpInfo) (this : Nat) (attrs : Array Attribute := #[]) (ms : Array MethodInfo := #[]) (fl : Nat := 33) (sup : Nat := 0) (ifs : Array Nat := #[]) (fds : Array FieldInfo := #[]) : ClassFile where
  minorVersion := 0
  majorVersion := 65
  constantPool := pool
  accessFlags := fl
  thisClass := this
  superClass := sup
  interfaces := ifs
  fields := fds
  methods := ms
  attributes := attrs
def plain (name : String) (sup : Option ClassId) : Class where
  name := name
  kind := .ordinary
  loader := none
  accessFlags := 33
  super := sup
  interfaces := #[]
  cf := none
  fields := #[]
  methods := #[]
  instanceTypes := #[]
  staticTypes := #[]
  resolved := #[]
  callSites := []
  init := .initialized
  statics := none
  mirror := none

def pool0 : Array CpInfo := pool [(5, u "<init>"), (0, u "()V"), (1, .class_ 10), (1, u "java/lang/Object")] 113

def k0c0 : Code := { maxStack := 0, maxLocals := 1, code := object_method_1_code, exceptionTable := #[], attributes := #[] }
def k0m0 : Method := { name := "<init>", desc := "()V", sig := { parameters := [], returnType := none }, accessFlags := 1, code := some k0c0 }
/-- java/lang/Object -/
def k0 : Class := { plain "java/lang/Object" none with
  accessFlags := 33
  interfaces := #[]
  cf := some (fileOf pool0 8 #[] #[{ accessFlags := 1, nameIndex := 5, descriptorIndex := 6, attributes := #[] }] 33 0 #[] #[])
  fields := #[]
  methods := #[k0m0]
  instanceTypes := #[]
  staticTypes := #[]
  resolved := Array.replicate 124 none
  statics := none }

def pool1 : Array CpInfo := pool [(2, .class_ 4), (1, u "java/lang/Object"), (0, u "<init>"), (0, u "()V"), (0, .methodref 8 9), (0, .class_ 10), (0, .nameAndType 11 12), (0, u "com/example/proximity/proximity/CodePointOrderComparePinLaw"), (0, u "drawn"), (0, u "(I)C"), (0, .methodref 8 14), (0, .nameAndType 15 16), (0, u "make"), (0, u "(CCI)Ljava/lang/String;"), (0, .methodref 8 18), (0, .nameAndType 19 20), (0, u "codePoints"), (0, u "(CCI)[I"), (0, .methodref 8 22), (0, .nameAndType 23 24), (0, u "expected"), (0, u "([I[I)I"), (0, .methodref 26 27), (0, .class_ 28), (0, .nameAndType 29 30), (0, u "com/example/proximity/proximity/CodePointOrder"), (0, u "compare"), (0, u "(Ljava/lang/String;Ljava/lang/String;)I"), (0, .methodref 8 32), (0, .nameAndType 33 34), (0, u "sign"), (0, u "(I)I"), (0, .integer 55296), (0, .integer 56320), (0, .integer 65535), (0, .class_ 39), (0, u "java/lang/String"), (0, .methodref 38 41), (0, .nameAndType 5 42), (0, u "([C)V"), (0, .integer 56319), (0, .integer 57343), (0, .methodref 8 46), (0, .nameAndType 47 48), (0, u "high"), (0, u "(C)Z"), (0, .methodref 8 50), (0, .nameAndType 51 48), (0, u "low"), (0, .integer 65536), (0, .methodref 54 55), (0, .class_ 56), (0, .nameAndType 57 58), (0, u "java/lang/Math"), (0, u "min"), (0, u "(II)I"), (2, u "law"), (0, u "(IIIIII)Z")] 5

def k1m0 : Method := { name := "<init>", desc := "()V", sig := { parameters := [], returnType := none }, accessFlags := 2, code := none }
def k1c1 : Code := { maxStack := 3, maxLocals := 19, code := code, exceptionTable := #[], attributes := #[] }
def k1m1 : Method := { name := "law", desc := "(IIIIII)Z", sig := { parameters := [.int, .int, .int, .int, .int, .int], returnType := some .boolean }, accessFlags := 9, code := some k1c1 }
def k1c2 : Code := { maxStack := 3, maxLocals := 2, code := method_3_code, exceptionTable := #[], attributes := #[] }
def k1m2 : Method := { name := "drawn", desc := "(I)C", sig := { parameters := [.int], returnType := some .char }, accessFlags := 10, code := some k1c2 }
def k1c3 : Code := { maxStack := 6, maxLocals := 3, code := method_4_code, exceptionTable := #[], attributes := #[] }
def k1m3 : Method := { name := "make", desc := "(CCI)Ljava/lang/String;", sig := { parameters := [.char, .char, .int], returnType := some (.object "java/lang/String") }, accessFlags := 10, code := some k1c3 }
def k1c4 : Code := { maxStack := 2, maxLocals := 1, code := method_5_code, exceptionTable := #[], attributes := #[] }
def k1m4 : Method := { name := "high", desc := "(C)Z", sig := { parameters := [.char], returnType := some .boolean }, accessFlags := 10, code := some k1c4 }
def k1c5 : Code := { maxStack := 2, maxLocals := 1, code := method_6_code, exceptionTable := #[], attributes := #[] }
def k1m5 : Method := { name := "low", desc := "(C)Z", sig := { parameters := [.char], returnType := some .boolean }, accessFlags := 10, code := some k1c5 }
def k1c6 : Code := { maxStack := 5, maxLocals := 4, code := method_7_code, exceptionTable := #[], attributes := #[] }
def k1m6 : Method := { name := "codePoints", desc := "(CCI)[I", sig := { parameters := [.char, .char, .int], returnType := some (.array .int) }, accessFlags := 10, code := some k1c6 }
def k1c7 : Code := { maxStack := 3, maxLocals := 3, code := method_8_code, exceptionTable := #[], attributes := #[] }
def k1m7 : Method := { name := "expected", desc := "([I[I)I", sig := { parameters := [(.array .int), (.array .int)], returnType := some .int }, accessFlags := 10, code := some k1c7 }
def k1c8 : Code := { maxStack := 1, maxLocals := 1, code := method_9_code, exceptionTable := #[], attributes := #[] }
def k1m8 : Method := { name := "sign", desc := "(I)I", sig := { parameters := [.int], returnType := some .int }, accessFlags := 10, code := some k1c8 }
/-- com/example/proximity/proximity/CodePointOrderComparePinLaw -/
def k1 : Class := { plain "com/example/proximity/proximity/CodePointOrderComparePinLaw" (some 0) with
  accessFlags := 49
  interfaces := #[]
  cf := some (fileOf pool1 8 #[] #[{ accessFlags := 2, nameIndex := 5, descriptorIndex := 6, attributes := #[] }, { accessFlags := 9, nameIndex := 61, descriptorIndex := 62, attributes := #[] }, { accessFlags := 10, nameIndex := 11, descriptorIndex := 12, attributes := #[] }, { accessFlags := 10, nameIndex := 15, descriptorIndex := 16, attributes := #[] }, { accessFlags := 10, nameIndex := 47, descriptorIndex := 48, attributes := #[] }, { accessFlags := 10, nameIndex := 51, descriptorIndex := 48, attributes := #[] }, { accessFlags := 10, nameIndex := 19, descriptorIndex := 20, attributes := #[] }, { accessFlags := 10, nameIndex := 23, descriptorIndex := 24, attributes := #[] }, { accessFlags := 10, nameIndex := 33, descriptorIndex := 34, attributes := #[] }] 49 2 #[] #[])
  fields := #[]
  methods := #[k1m0, k1m1, k1m2, k1m3, k1m4, k1m5, k1m6, k1m7, k1m8]
  instanceTypes := #[]
  staticTypes := #[]
  resolved := Array.replicate 68 none
  statics := none }

def pool2 : Array CpInfo := pool [(1, .class_ 2), (0, u "java/io/Serializable"), (0, .class_ 4), (0, u "java/lang/Object")] 2

/-- java/io/Serializable -/
def k2 : Class := { plain "java/io/Serializable" (some 0) with
  accessFlags := 1537
  interfaces := #[]
  cf := some (fileOf pool2 1 #[] #[] 1537 3 #[] #[])
  fields := #[]
  methods := #[]
  instanceTypes := #[]
  staticTypes := #[]
  resolved := Array.replicate 7 none
  statics := none }

def pool3 : Array CpInfo := pool [(1, .class_ 2), (0, u "java/lang/Comparable"), (0, .class_ 4), (0, u "java/lang/Object")] 7

/-- java/lang/Comparable -/
def k3 : Class := { plain "java/lang/Comparable" (some 0) with
  accessFlags := 1537
  interfaces := #[]
  cf := some (fileOf pool3 1 #[] #[] 1537 3 #[] #[])
  fields := #[]
  methods := #[]
  instanceTypes := #[]
  staticTypes := #[]
  resolved := Array.replicate 12 none
  statics := none }

def pool4 : Array CpInfo := pool [(2, .class_ 4), (1, u "java/lang/CharSequence"), (42, .class_ 48), (0, u "java/lang/CharSequence$1CodePointIterator"), (10, .class_ 60), (0, u "java/lang/CharSequence$1CharIterator"), (5, .class_ 67), (0, u "java/lang/Object")] 63

/-- java/lang/CharSequence -/
def k4 : Class := { plain "java/lang/CharSequence" (some 0) with
  accessFlags := 1537
  interfaces := #[]
  cf := some (fileOf pool4 2 #[.nestMembers #[47, 59]] #[] 1537 66 #[] #[])
  fields := #[]
  methods := #[]
  instanceTypes := #[]
  staticTypes := #[]
  resolved := Array.replicate 131 none
  statics := none }

def pool5 : Array CpInfo := pool [(1, .class_ 2), (0, u "java/lang/constant/Constable"), (0, .class_ 4), (0, u "java/lang/Object")] 6

/-- java/lang/constant/Constable -/
def k5 : Class := { plain "java/lang/constant/Constable" (some 0) with
  accessFlags := 1537
  interfaces := #[]
  cf := some (fileOf pool5 1 #[] #[] 1537 3 #[] #[])
  fields := #[]
  methods := #[]
  instanceTypes := #[]
  staticTypes := #[]
  resolved := Array.replicate 11 none
  statics := none }

def pool6 : Array CpInfo := pool [(1, .class_ 2), (0, u "java/lang/constant/ConstantDesc"), (0, .class_ 4), (0, u "java/lang/Object")] 32

/-- java/lang/constant/ConstantDesc -/
def k6 : Class := { plain "java/lang/constant/ConstantDesc" (some 0) with
  accessFlags := 1537
  interfaces := #[]
  cf := some (fileOf pool6 1 #[] #[] 1537 3 #[] #[])
  fields := #[]
  methods := #[]
  instanceTypes := #[]
  staticTypes := #[]
  resolved := Array.replicate 37 none
  statics := none }

def pool7 : Array CpInfo := pool [(1, .methodref 2 3), (0, .class_ 4), (0, .nameAndType 5 6), (0, u "java/lang/Object"), (0, u "<init>"), (0, u "()V"), (0, .string 8), (0, u ""), (0, .fieldref 10 11), (0, .class_ 12), (0, .nameAndType 13 14), (0, u "java/lang/String"), (0, u "value"), (0, u "[B"), (0, .fieldref 10 16), (0, .nameAndType 17 18), (0, u "coder"), (0, u "B"), (2, u "hash"), (0, u "I"), (2, u "hashIsZero"), (0, u "Z"), (0, .methodref 10 28), (0, .nameAndType 5 29), (0, u "([CIILjava/lang/Void;)V"), (8, .fieldref 10 39), (0, .nameAndType 40 26), (0, u "COMPACT_STRINGS"), (1, .class_ 44), (1, u "java/lang/StringUTF16"), (0, u "compress"), (1, .methodref 42 48), (0, .nameAndType 49 50), (0, u "coderFromArrayLen"), (0, u "([BI)B"), (46, u "([BII)I"), (44, u "()Z"), (34, .methodref 42 178), (0, .nameAndType 45 179), (0, u "([CII)[B"), (154, u "()I"), (0, .methodref 10 336), (0, .nameAndType 17 337), (0, u "()B"), (53, u "(II)V"), (100, .methodref 10 493), (0, .nameAndType 494 142), (0, u "isLatin1"), (4, .methodref 10 500), (0, .nameAndType 501 391), (0, u "checkIndex"), (0, .methodref 42 503), (0, .nameAndType 504 97), (0, u "codePointAt"), (2, u "length"), (67, .class_ 576), (0, u "java/lang/CharSequence"), (22, u "CASE_INSENSITIVE_ORDER"), (0, u "Ljava/util/Comparator;"), (164, u "(I)I"), (244, u "([C)V"), (42, .fieldref 1054 1055), (0, .class_ 1056), (0, .nameAndType 1057 1058), (0, u "jdk/internal/util/Preconditions"), (0, u "SIOOBE_FORMATTER"), (0, u "Ljava/util/function/BiFunction;"), (0, .methodref 1054 1060), (0, .nameAndType 501 1061), (0, u "(IILjava/util/function/BiFunction;)I"), (39, u "serialPersistentFields"), (0, u "[Ljava/io/ObjectStreamField;"), (0, .class_ 1104), (0, u "java/lang/String$CaseInsensitiveComparator"), (1, .class_ 1107), (0, u "java/io/Serializable"), (0, .class_ 1109), (0, u "java/lang/Comparable"), (0, .class_ 1111), (0, u "java/lang/constant/Constable"), (0, .class_ 1113), (0, u "java/lang/constant/ConstantDesc"), (2, u "serialVersionUID"), (0, u "J"), (3, u "REPL"), (0, u "C"), (2, u "LATIN1"), (1, u "UTF16")] 323

def k7m0 : Method := { name := "<init>", desc := "()V", sig := { parameters := [], returnType := none }, accessFlags := 1, code := none }
def k7c1 : Code := { maxStack := 5, maxLocals := 2, code := jdk_42_method_3_code, exceptionTable := #[], attributes := #[] }
def k7m1 : Method := { name := "<init>", desc := "([C)V", sig := { parameters := [(.array .char)], returnType := none }, accessFlags := 1, code := some k7c1 }
def k7c2 : Code := { maxStack := 2, maxLocals := 1, code := jdk_42_method_54_code, exceptionTable := #[], attributes := #[] }
def k7m2 : Method := { name := "length", desc := "()I", sig := { parameters := [], returnType := some .int }, accessFlags := 1, code := some k7c2 }
def k7c3 : Code := { maxStack := 3, maxLocals := 3, code := jdk_42_method_57_code, exceptionTable := #[], attributes := #[] }
def k7m3 : Method := { name := "codePointAt", desc := "(I)I", sig := { parameters := [.int], returnType := some .int }, accessFlags := 1, code := some k7c3 }
def k7c4 : Code := { maxStack := 4, maxLocals := 6, code := jdk_42_method_149_code, exceptionTable := #[], attributes := #[] }
def k7m4 : Method := { name := "<init>", desc := "([CIILjava/lang/Void;)V", sig := { parameters := [(.array .char), .int, .int, (.object "java/lang/Void")], returnType := none }, accessFlags := 2, code := some k7c4 }
def k7c5 : Code := { maxStack := 1, maxLocals := 1, code := jdk_42_method_152_code, exceptionTable := #[], attributes := #[] }
def k7m5 : Method := { name := "coder", desc := "()B", sig := { parameters := [], returnType := some .byte }, accessFlags := 0, code := some k7c5 }
def k7c6 : Code := { maxStack := 1, maxLocals := 1, code := jdk_42_method_154_code, exceptionTable := #[], attributes := #[] }
def k7m6 : Method := { name := "isLatin1", desc := "()Z", sig := { parameters := [], returnType := some .boolean }, accessFlags := 0, code := some k7c6 }
def k7c7 : Code := { maxStack := 3, maxLocals := 2, code := jdk_42_method_155_code, exceptionTable := #[], attributes := #[] }
def k7m7 : Method := { name := "checkIndex", desc := "(II)V", sig := { parameters := [.int, .int], returnType := none }, accessFlags := 8, code := some k7c7 }
/-- java/lang/String -/
def k7 : Class := { plain "java/lang/String" (some 0) with
  accessFlags := 49
  interfaces := #[2, 3, 4, 5, 6]
  cf := some (fileOf pool7 10 #[.nestMembers #[1103]] #[{ accessFlags := 1, nameIndex := 5, descriptorIndex := 6, attributes := #[] }, { accessFlags := 1, nameIndex := 5, descriptorIndex := 1010, attributes := #[] }, { accessFlags := 1, nameIndex := 507, descriptorIndex := 334, attributes := #[] }, { accessFlags := 1, nameIndex := 504, descriptorIndex := 765, attributes := #[] }, { accessFlags := 2, nameIndex := 5, descriptorIndex := 29, attributes := #[] }, { accessFlags := 0, nameIndex := 17, descriptorIndex := 337, attributes := #[] }, { accessFlags := 0, nameIndex := 494, descriptorIndex := 142, attributes := #[] }, { accessFlags := 8, nameIndex := 501, descriptorIndex := 391, attributes := #[] }] 49 2 #[1106, 1108, 575, 1110, 1112] #[{ accessFlags := 18, nameIndex := 13, descriptorIndex := 14, attributes := #[] }, { accessFlags := 18, nameIndex := 17, descriptorIndex := 18, attributes := #[] }, { accessFlags := 2, nameIndex := 21, descriptorIndex := 22, attributes := #[] }, { accessFlags := 2, nameIndex := 25, descriptorIndex := 26, attributes := #[] }, { accessFlags := 26, nameIndex := 1116, descriptorIndex := 1117, attributes := #[] }, { accessFlags := 24, nameIndex := 40, descriptorIndex := 26, attributes := #[] }, { accessFlags := 26, nameIndex := 1101, descriptorIndex := 1102, attributes := #[] }, { accessFlags := 26, nameIndex := 1121, descriptorIndex := 1122, attributes := #[] }, { accessFlags := 25, nameIndex := 599, descriptorIndex := 600, attributes := #[] }, { accessFlags := 24, nameIndex := 1125, descriptorIndex := 18, attributes := #[] }, { accessFlags := 24, nameIndex := 1127, descriptorIndex := 18, attributes := #[] }])
  fields := #[{ name := "value", type := (.array .byte), accessFlags := 18, slot := 0, constantValue := 0 }, { name := "coder", type := .byte, accessFlags := 18, slot := 1, constantValue := 0 }, { name := "hash", type := .int, accessFlags := 2, slot := 2, constantValue := 0 }, { name := "hashIsZero", type := .boolean, accessFlags := 2, slot := 3, constantValue := 0 }, { name := "serialVersionUID", type := .long, accessFlags := 26, slot := 0, constantValue := 0 }, { name := "COMPACT_STRINGS", type := .boolean, accessFlags := 24, slot := 1, constantValue := 0 }, { name := "serialPersistentFields", type := (.array (.object "java/io/ObjectStreamField")), accessFlags := 26, slot := 2, constantValue := 0 }, { name := "REPL", type := .char, accessFlags := 26, slot := 3, constantValue := 0 }, { name := "CASE_INSENSITIVE_ORDER", type := (.object "java/util/Comparator"), accessFlags := 25, slot := 4, constantValue := 0 }, { name := "LATIN1", type := .byte, accessFlags := 24, slot := 5, constantValue := 0 }, { name := "UTF16", type := .byte, accessFlags := 24, slot := 6, constantValue := 0 }]
  methods := #[k7m0, k7m1, k7m2, k7m3, k7m4, k7m5, k7m6, k7m7]
  instanceTypes := #[(.array .byte), .byte, .int, .boolean]
  staticTypes := #[.long, .boolean, (.array (.object "java/io/ObjectStreamField")), .char, (.object "java/util/Comparator"), .byte, .byte]
  resolved := Array.replicate 1451 none
  statics := some 0 }

def pool8 : Array CpInfo := pool [(1, .class_ 2), (0, u "java/lang/Math"), (1, .class_ 6), (1, u "java/lang/Object"), (0, u "<init>"), (0, u "()V"), (89, .class_ 100), (1, u "java/lang/Math$RandomNumberGeneratorHolder"), (71, u "negativeZeroFloatBits"), (0, u "J"), (2, u "negativeZeroDoubleBits"), (24, u "min"), (43, u "$assertionsDisabled"), (0, u "Z"), (88, u "(II)I"), (2, u "twoToTheDoubleScaleDown"), (0, u "D"), (4, u "twoToTheDoubleScaleUp"), (9, u "E"), (3, u "PI"), (2, u "TAU"), (2, u "DEGREES_TO_RADIANS"), (0, u "RADIANS_TO_DEGREES")] 94

def k8m0 : Method := { name := "<init>", desc := "()V", sig := { parameters := [], returnType := none }, accessFlags := 2, code := none }
def k8c1 : Code := { maxStack := 2, maxLocals := 2, code := jdk_29_method_69_code, exceptionTable := #[], attributes := #[] }
def k8m1 : Method := { name := "min", desc := "(II)I", sig := { parameters := [.int, .int], returnType := some .int }, accessFlags := 9, code := some k8c1 }
/-- java/lang/Math -/
def k8 : Class := { plain "java/lang/Math" (some 0) with
  accessFlags := 49
  interfaces := #[]
  cf := some (fileOf pool8 1 #[.nestMembers #[98]] #[{ accessFlags := 2, nameIndex := 7, descriptorIndex := 8, attributes := #[] }, { accessFlags := 9, nameIndex := 201, descriptorIndex := 335, attributes := #[] }] 49 4 #[] #[{ accessFlags := 25, nameIndex := 354, descriptorIndex := 339, attributes := #[] }, { accessFlags := 25, nameIndex := 358, descriptorIndex := 339, attributes := #[] }, { accessFlags := 25, nameIndex := 361, descriptorIndex := 339, attributes := #[] }, { accessFlags := 26, nameIndex := 364, descriptorIndex := 339, attributes := #[] }, { accessFlags := 26, nameIndex := 365, descriptorIndex := 339, attributes := #[] }, { accessFlags := 26, nameIndex := 172, descriptorIndex := 173, attributes := #[] }, { accessFlags := 26, nameIndex := 176, descriptorIndex := 173, attributes := #[] }, { accessFlags := 8, nameIndex := 344, descriptorIndex := 339, attributes := #[] }, { accessFlags := 8, nameIndex := 338, descriptorIndex := 339, attributes := #[] }, { accessFlags := 4120, nameIndex := 245, descriptorIndex := 246, attributes := #[] }])
  fields := #[{ name := "E", type := .double, accessFlags := 25, slot := 0, constantValue := 0 }, { name := "PI", type := .double, accessFlags := 25, slot := 1, constantValue := 0 }, { name := "TAU", type := .double, accessFlags := 25, slot := 2, constantValue := 0 }, { name := "DEGREES_TO_RADIANS", type := .double, accessFlags := 26, slot := 3, constantValue := 0 }, { name := "RADIANS_TO_DEGREES", type := .double, accessFlags := 26, slot := 4, constantValue := 0 }, { name := "negativeZeroFloatBits", type := .long, accessFlags := 26, slot := 5, constantValue := 0 }, { name := "negativeZeroDoubleBits", type := .long, accessFlags := 26, slot := 6, constantValue := 0 }, { name := "twoToTheDoubleScaleUp", type := .double, accessFlags := 8, slot := 7, constantValue := 0 }, { name := "twoToTheDoubleScaleDown", type := .double, accessFlags := 8, slot := 8, constantValue := 0 }, { name := "$assertionsDisabled", type := .boolean, accessFlags := 4120, slot := 9, constantValue := 0 }]
  methods := #[k8m0, k8m1]
  instanceTypes := #[]
  staticTypes := #[.double, .double, .double, .double, .double, .long, .long, .double, .double, .boolean]
  resolved := Array.replicate 460 none
  statics := none }

def pool9 : Array CpInfo := pool [(2, .class_ 4), (1, u "java/lang/Object"), (0, u "<init>"), (0, u "()V"), (0, .methodref 8 9), (0, .class_ 10), (0, .nameAndType 11 12), (0, u "java/lang/String"), (0, u "length"), (0, u "()I"), (0, .methodref 14 15), (0, .class_ 16), (0, .nameAndType 17 18), (0, u "java/lang/Math"), (0, u "min"), (0, u "(II)I"), (0, .methodref 8 20), (0, .nameAndType 21 22), (0, u "codePointAt"), (0, u "(I)I"), (0, .methodref 24 25), (0, .class_ 26), (0, .nameAndType 27 18), (0, u "java/lang/Integer"), (0, u "compare"), (0, .methodref 29 30), (0, .class_ 31), (0, .nameAndType 32 22), (0, u "java/lang/Character"), (0, u "charCount"), (0, .class_ 34), (0, u "com/example/proximity/proximity/CodePointOrder"), (2, u "(Ljava/lang/String;Ljava/lang/String;)I")] 3

def k9m0 : Method := { name := "<init>", desc := "()V", sig := { parameters := [], returnType := none }, accessFlags := 2, code := none }
def k9c1 : Code := { maxStack := 2, maxLocals := 6, code := prog_1_method_2_code, exceptionTable := #[], attributes := #[] }
def k9m1 : Method := { name := "compare", desc := "(Ljava/lang/String;Ljava/lang/String;)I", sig := { parameters := [(.object "java/lang/String"), (.object "java/lang/String")], returnType := some .int }, accessFlags := 8, code := some k9c1 }
/-- com/example/proximity/proximity/CodePointOrder -/
def k9 : Class := { plain "com/example/proximity/proximity/CodePointOrder" (some 0) with
  accessFlags := 48
  interfaces := #[]
  cf := some (fileOf pool9 33 #[] #[{ accessFlags := 2, nameIndex := 5, descriptorIndex := 6, attributes := #[] }, { accessFlags := 8, nameIndex := 27, descriptorIndex := 37, attributes := #[] }] 48 2 #[] #[])
  fields := #[]
  methods := #[k9m0, k9m1]
  instanceTypes := #[]
  staticTypes := #[]
  resolved := Array.replicate 41 none
  statics := none }

def pool10 : Array CpInfo := pool [(2, .class_ 4), (1, u "java/lang/Object"), (0, u "<init>"), (0, u "()V"), (1, .class_ 10), (1, u "java/lang/Number"), (2, .class_ 14), (0, u "java/io/Serializable"), (0, u "serialVersionUID"), (0, u "J")] 20

def k10m0 : Method := { name := "<init>", desc := "()V", sig := { parameters := [], returnType := none }, accessFlags := 1, code := none }
/-- java/lang/Number -/
def k10 : Class := { plain "java/lang/Number" (some 0) with
  accessFlags := 1057
  interfaces := #[2]
  cf := some (fileOf pool10 8 #[] #[{ accessFlags := 1, nameIndex := 5, descriptorIndex := 6, attributes := #[] }] 1057 2 #[13] #[{ accessFlags := 26, nameIndex := 15, descriptorIndex := 16, attributes := #[] }])
  fields := #[{ name := "serialVersionUID", type := .long, accessFlags := 26, slot := 0, constantValue := 0 }]
  methods := #[k10m0]
  instanceTypes := #[]
  staticTypes := #[.long]
  resolved := Array.replicate 37 none
  statics := none }

def pool11 : Array CpInfo := pool [(1, .class_ 2), (0, u "java/lang/Integer"), (16, u "digits"), (0, u "[C"), (39, u "(II)I"), (24, u "DigitOnes"), (0, u "[B"), (2, u "DigitTens"), (99, .class_ 190), (0, u "java/lang/Integer$IntegerCache"), (3, u "I"), (8, .class_ 204), (0, u "java/lang/Number"), (2, u "value"), (53, u "compare"), (40, u "TYPE"), (0, u "Ljava/lang/Class;"), (0, .class_ 305), (0, u "java/lang/Comparable"), (0, .class_ 307), (0, u "java/lang/constant/Constable"), (0, .class_ 309), (0, u "java/lang/constant/ConstantDesc"), (0, u "MIN_VALUE"), (1, u "MAX_VALUE"), (3, u "SIZE"), (1, u "BYTES"), (1, u "serialVersionUID"), (0, u "J")] 131

def k11c0 : Code := { maxStack := 2, maxLocals := 2, code := jdk_33_method_40_code, exceptionTable := #[], attributes := #[] }
def k11m0 : Method := { name := "compare", desc := "(II)I", sig := { parameters := [.int, .int], returnType := some .int }, accessFlags := 9, code := some k11c0 }
/-- java/lang/Integer -/
def k11 : Class := { plain "java/lang/Integer" (some 10) with
  accessFlags := 49
  interfaces := #[3, 5, 6]
  cf := some (fileOf pool11 1 #[.nestMembers #[189]] #[{ accessFlags := 9, nameIndex := 261, descriptorIndex := 60, attributes := #[] }] 49 203 #[304, 306, 308] #[{ accessFlags := 25, nameIndex := 310, descriptorIndex := 194, attributes := #[] }, { accessFlags := 25, nameIndex := 312, descriptorIndex := 194, attributes := #[] }, { accessFlags := 25, nameIndex := 302, descriptorIndex := 303, attributes := #[] }, { accessFlags := 24, nameIndex := 19, descriptorIndex := 20, attributes := #[] }, { accessFlags := 24, nameIndex := 89, descriptorIndex := 86, attributes := #[] }, { accessFlags := 24, nameIndex := 85, descriptorIndex := 86, attributes := #[] }, { accessFlags := 18, nameIndex := 207, descriptorIndex := 194, attributes := #[] }, { accessFlags := 25, nameIndex := 316, descriptorIndex := 194, attributes := #[] }, { accessFlags := 25, nameIndex := 318, descriptorIndex := 194, attributes := #[] }, { accessFlags := 26, nameIndex := 320, descriptorIndex := 321, attributes := #[] }])
  fields := #[{ name := "MIN_VALUE", type := .int, accessFlags := 25, slot := 0, constantValue := 0 }, { name := "MAX_VALUE", type := .int, accessFlags := 25, slot := 1, constantValue := 0 }, { name := "TYPE", type := (.object "java/lang/Class"), accessFlags := 25, slot := 2, constantValue := 0 }, { name := "digits", type := (.array .char), accessFlags := 24, slot := 3, constantValue := 0 }, { name := "DigitTens", type := (.array .byte), accessFlags := 24, slot := 4, constantValue := 0 }, { name := "DigitOnes", type := (.array .byte), accessFlags := 24, slot := 5, constantValue := 0 }, { name := "value", type := .int, accessFlags := 18, slot := 0, constantValue := 0 }, { name := "SIZE", type := .int, accessFlags := 25, slot := 6, constantValue := 0 }, { name := "BYTES", type := .int, accessFlags := 25, slot := 7, constantValue := 0 }, { name := "serialVersionUID", type := .long, accessFlags := 26, slot := 8, constantValue := 0 }]
  methods := #[k11m0]
  instanceTypes := #[.int]
  staticTypes := #[.int, .int, (.object "java/lang/Class"), (.array .char), (.array .byte), (.array .byte), .int, .int, .long]
  resolved := Array.replicate 453 none
  statics := none }

def pool12 : Array CpInfo := pool [(6, .class_ 8), (1, u "java/lang/Object"), (0, u "<init>"), (0, u "()V"), (0, .methodref 12 13), (0, .class_ 14), (0, .nameAndType 15 16), (0, u "java/lang/StringUTF16"), (0, u "newBytesLength"), (0, u "(I)I"), (3, .integer 1073741823), (23, .fieldref 12 45), (0, .nameAndType 46 47), (0, u "$assertionsDisabled"), (0, u "Z"), (11, .fieldref 12 60), (0, .nameAndType 61 62), (0, u "HI_BYTE_SHIFT"), (0, u "I"), (0, .fieldref 12 64), (0, .nameAndType 65 62), (0, u "LO_BYTE_SHIFT"), (5, .methodref 12 72), (0, .nameAndType 73 74), (0, u "getChar"), (0, u "([BI)C"), (0, .methodref 76 77), (0, .class_ 78), (0, .nameAndType 79 80), (0, u "java/lang/Character"), (0, u "isHighSurrogate"), (0, u "(C)Z"), (0, .methodref 76 82), (0, .nameAndType 83 80), (0, u "isLowSurrogate"), (0, .methodref 76 85), (0, .nameAndType 86 87), (0, u "toCodePoint"), (0, u "(CC)I"), (0, .methodref 12 89), (0, .nameAndType 90 91), (0, u "codePointAt"), (0, u "([BIIZ)I"), (15, .methodref 12 108), (0, .nameAndType 109 110), (0, u "newBytesFor"), (0, u "(I)[B"), (0, .methodref 12 112), (0, .nameAndType 113 114), (0, u "putChar"), (0, u "([BII)V"), (0, .methodref 12 116), (0, .nameAndType 117 118), (0, u "compress"), (0, u "([CI[BII)I"), (0, .methodref 12 120), (0, .nameAndType 121 122), (0, u "toBytes"), (0, u "([CII)[B"), (127, u "([BII)I"), (10, u "coderFromArrayLen"), (0, u "([BI)B"), (106, .class_ 371), (1, u "java/lang/StringUTF16$LinesSpliterator"), (58, u "MAX_LENGTH"), (196, .class_ 628), (0, u "java/lang/StringUTF16$CodePointsSpliterator"), (0, .class_ 630), (0, u "java/lang/StringUTF16$CharsSpliterator")] 4

def k12m0 : Method := { name := "<init>", desc := "()V", sig := { parameters := [], returnType := none }, accessFlags := 0, code := none }
def k12c1 : Code := { maxStack := 1, maxLocals := 1, code := jdk_52_method_2_code, exceptionTable := #[], attributes := #[] }
def k12m1 : Method := { name := "newBytesFor", desc := "(I)[B", sig := { parameters := [.int], returnType := some (.array .byte) }, accessFlags := 9, code := some k12c1 }
def k12c2 : Code := { maxStack := 4, maxLocals := 1, code := jdk_52_method_3_code, exceptionTable := #[], attributes := #[] }
def k12m2 : Method := { name := "newBytesLength", desc := "(I)I", sig := { parameters := [.int], returnType := some .int }, accessFlags := 9, code := some k12c2 }
def k12c3 : Code := { maxStack := 4, maxLocals := 3, code := jdk_52_method_4_code, exceptionTable := #[], attributes := #[] }
def k12m3 : Method := { name := "putChar", desc := "([BII)V", sig := { parameters := [(.array .byte), .int, .int], returnType := none }, accessFlags := 8, code := some k12c3 }
def k12c4 : Code := { maxStack := 3, maxLocals := 2, code := jdk_52_method_5_code, exceptionTable := #[], attributes := #[] }
def k12m4 : Method := { name := "getChar", desc := "([BI)C", sig := { parameters := [(.array .byte), .int], returnType := some .char }, accessFlags := 8, code := some k12c4 }
def k12c5 : Code := { maxStack := 2, maxLocals := 6, code := jdk_52_method_7_code, exceptionTable := #[], attributes := #[] }
def k12m5 : Method := { name := "codePointAt", desc := "([BIIZ)I", sig := { parameters := [(.array .byte), .int, .int, .boolean], returnType := some .int }, accessFlags := 10, code := some k12c5 }
def k12c6 : Code := { maxStack := 4, maxLocals := 3, code := jdk_52_method_8_code, exceptionTable := #[], attributes := #[] }
def k12m6 : Method := { name := "codePointAt", desc := "([BII)I", sig := { parameters := [(.array .byte), .int, .int], returnType := some .int }, accessFlags := 9, code := some k12c6 }
def k12c7 : Code := { maxStack := 4, maxLocals := 5, code := jdk_52_method_14_code, exceptionTable := #[], attributes := #[] }
def k12m7 : Method := { name := "toBytes", desc := "([CII)[B", sig := { parameters := [(.array .char), .int, .int], returnType := some (.array .byte) }, accessFlags := 9, code := some k12c7 }
def k12c8 : Code := { maxStack := 2, maxLocals := 2, code := jdk_52_method_15_code, exceptionTable := #[], attributes := #[] }
def k12m8 : Method := { name := "coderFromArrayLen", desc := "([BI)B", sig := { parameters := [(.array .byte), .int], returnType := some .byte }, accessFlags := 8, code := some k12c8 }
def k12c9 : Code := { maxStack := 5, maxLocals := 6, code := jdk_52_method_16_code, exceptionTable := #[], attributes := #[] }
def k12m9 : Method := { name := "compress", desc := "([CII)[B", sig := { parameters := [(.array .char), .int, .int], returnType := some (.array .byte) }, accessFlags := 9, code := some k12c9 }
def k12c10 : Code := { maxStack := 3, maxLocals := 7, code := jdk_52_method_21_code, exceptionTable := #[], attributes := #[] }
def k12m10 : Method := { name := "compress", desc := "([CI[BII)I", sig := { parameters := [(.array .char), .int, (.array .byte), .int, .int], returnType := some .int }, accessFlags := 9, code := some k12c10 }
/-- java/lang/StringUTF16 -/
def k12 : Class := { plain "java/lang/StringUTF16" (some 0) with
  accessFlags := 48
  interfaces := #[]
  cf := some (fileOf pool12 12 #[.nestMembers #[627, 629, 369]] #[{ accessFlags := 0, nameIndex := 9, descriptorIndex := 10, attributes := #[] }, { accessFlags := 9, nameIndex := 109, descriptorIndex := 110, attributes := #[] }, { accessFlags := 9, nameIndex := 15, descriptorIndex := 16, attributes := #[] }, { accessFlags := 8, nameIndex := 113, descriptorIndex := 114, attributes := #[] }, { accessFlags := 8, nameIndex := 73, descriptorIndex := 74, attributes := #[] }, { accessFlags := 10, nameIndex := 90, descriptorIndex := 91, attributes := #[] }, { accessFlags := 9, nameIndex := 90, descriptorIndex := 250, attributes := #[] }, { accessFlags := 9, nameIndex := 121, descriptorIndex := 122, attributes := #[] }, { accessFlags := 8, nameIndex := 261, descriptorIndex := 262, attributes := #[] }, { accessFlags := 9, nameIndex := 117, descriptorIndex := 122, attributes := #[] }, { accessFlags := 9, nameIndex := 117, descriptorIndex := 118, attributes := #[] }] 48 6 #[] #[{ accessFlags := 26, nameIndex := 61, descriptorIndex := 62, attributes := #[] }, { accessFlags := 26, nameIndex := 65, descriptorIndex := 62, attributes := #[] }, { accessFlags := 24, nameIndex := 430, descriptorIndex := 62, attributes := #[] }, { accessFlags := 4120, nameIndex := 46, descriptorIndex := 47, attributes := #[] }])
  fields := #[{ name := "HI_BYTE_SHIFT", type := .int, accessFlags := 26, slot := 0, constantValue := 0 }, { name := "LO_BYTE_SHIFT", type := .int, accessFlags := 26, slot := 1, constantValue := 0 }, { name := "MAX_LENGTH", type := .int, accessFlags := 24, slot := 2, constantValue := 0 }, { name := "$assertionsDisabled", type := .boolean, accessFlags := 4120, slot := 3, constantValue := 0 }]
  methods := #[k12m0, k12m1, k12m2, k12m3, k12m4, k12m5, k12m6, k12m7, k12m8, k12m9, k12m10]
  instanceTypes := #[]
  staticTypes := #[.int, .int, .int, .boolean]
  resolved := Array.replicate 635 none
  statics := some 1 }

def pool13 : Array CpInfo := pool [(2, .class_ 4), (1, u "java/lang/Object"), (0, u "<init>"), (0, u "()V"), (17, .class_ 26), (1, u "jdk/internal/util/Preconditions"), (6, u "checkIndex"), (21, .class_ 56), (0, u "jdk/internal/util/Preconditions$4"), (57, .class_ 115), (0, u "jdk/internal/util/Preconditions$1"), (7, u "SIOOBE_FORMATTER"), (0, u "Ljava/util/function/BiFunction;"), (0, .class_ 126), (0, u "jdk/internal/util/Preconditions$2"), (3, u "AIOOBE_FORMATTER"), (0, .class_ 132), (0, u "jdk/internal/util/Preconditions$3"), (3, u "IOOBE_FORMATTER"), (41, u "(IILjava/util/function/BiFunction;)I")] 15

def k13m0 : Method := { name := "<init>", desc := "()V", sig := { parameters := [], returnType := none }, accessFlags := 1, code := none }
def k13c1 : Code := { maxStack := 3, maxLocals := 3, code := jdk_41_method_11_code, exceptionTable := #[], attributes := #[] }
def k13m1 : Method := { name := "checkIndex", desc := "(IILjava/util/function/BiFunction;)I", sig := { parameters := [.int, .int, (.object "java/util/function/BiFunction")], returnType := some .int }, accessFlags := 9, code := some k13c1 }
/-- jdk/internal/util/Preconditions -/
def k13 : Class := { plain "jdk/internal/util/Preconditions" (some 0) with
  accessFlags := 33
  interfaces := #[]
  cf := some (fileOf pool13 24 #[.nestMembers #[55, 131, 125, 114]] #[{ accessFlags := 1, nameIndex := 5, descriptorIndex := 6, attributes := #[] }, { accessFlags := 9, nameIndex := 33, descriptorIndex := 178, attributes := #[] }] 33 2 #[] #[{ accessFlags := 25, nameIndex := 123, descriptorIndex := 124, attributes := #[] }, { accessFlags := 25, nameIndex := 130, descriptorIndex := 124, attributes := #[] }, { accessFlags := 25, nameIndex := 136, descriptorIndex := 124, attributes := #[] }])
  fields := #[{ name := "SIOOBE_FORMATTER", type := (.object "java/util/function/BiFunction"), accessFlags := 25, slot := 0, constantValue := 0 }, { name := "AIOOBE_FORMATTER", type := (.object "java/util/function/BiFunction"), accessFlags := 25, slot := 1, constantValue := 0 }, { name := "IOOBE_FORMATTER", type := (.object "java/util/function/BiFunction"), accessFlags := 25, slot := 2, constantValue := 0 }]
  methods := #[k13m0, k13m1]
  instanceTypes := #[]
  staticTypes := #[(.object "java/util/function/BiFunction"), (.object "java/util/function/BiFunction"), (.object "java/util/function/BiFunction")]
  resolved := Array.replicate 194 none
  statics := some 2 }

def pool14 : Array CpInfo := pool [(1, .class_ 2), (0, u "java/lang/Character"), (18, u "value"), (0, u "C"), (19, .class_ 44), (1, u "java/lang/Object"), (3, .class_ 50), (1, u "java/lang/Character$CharacterCache"), (22, .integer 65536), (1, .integer 55296), (0, .integer 56320), (0, .integer 57344), (2, u "isHighSurrogate"), (0, u "(C)Z"), (2, u "isLowSurrogate"), (0, .integer 4238353408), (12, u "toCodePoint"), (0, u "(CC)I"), (74, u "(I)I"), (109, u "$assertionsDisabled"), (0, u "Z"), (21, .class_ 309), (1, u "java/lang/Character$UnicodeBlock"), (73, u "TYPE"), (0, u "Ljava/lang/Class;"), (0, .class_ 386), (0, u "java/io/Serializable"), (0, .class_ 388), (0, u "java/lang/Comparable"), (0, .class_ 390), (0, u "java/lang/constant/Constable"), (0, u "MIN_RADIX"), (0, u "I"), (2, u "MAX_RADIX"), (1, u "MIN_VALUE"), (1, u "MAX_VALUE"), (3, u "UNASSIGNED"), (0, u "B"), (0, u "UPPERCASE_LETTER"), (1, u "LOWERCASE_LETTER"), (0, u "TITLECASE_LETTER"), (1, u "MODIFIER_LETTER"), (1, u "OTHER_LETTER"), (1, u "NON_SPACING_MARK"), (1, u "ENCLOSING_MARK"), (1, u "COMBINING_SPACING_MARK"), (1, u "DECIMAL_DIGIT_NUMBER"), (1, u "LETTER_NUMBER"), (1, u "OTHER_NUMBER"), (1, u "SPACE_SEPARATOR"), (1, u "LINE_SEPARATOR"), (1, u "PARAGRAPH_SEPARATOR"), (1, u "CONTROL"), (1, u "FORMAT"), (1, u "PRIVATE_USE"), (1, u "SURROGATE"), (1, u "DASH_PUNCTUATION"), (1, u "START_PUNCTUATION"), (1, u "END_PUNCTUATION"), (1, u "CONNECTOR_PUNCTUATION"), (1, u "OTHER_PUNCTUATION"), (1, u "MATH_SYMBOL"), (1, u "CURRENCY_SYMBOL"), (1, u "MODIFIER_SYMBOL"), (1, u "OTHER_SYMBOL"), (1, u "INITIAL_QUOTE_PUNCTUATION"), (1, u "FINAL_QUOTE_PUNCTUATION"), (1, u "ERROR"), (1, u "DIRECTIONALITY_UNDEFINED"), (0, u "DIRECTIONALITY_LEFT_TO_RIGHT"), (0, u "DIRECTIONALITY_RIGHT_TO_LEFT"), (0, u "DIRECTIONALITY_RIGHT_TO_LEFT_ARABIC"), (0, u "DIRECTIONALITY_EUROPEAN_NUMBER"), (0, u "DIRECTIONALITY_EUROPEAN_NUMBER_SEPARATOR"), (0, u "DIRECTIONALITY_EUROPEAN_NUMBER_TERMINATOR"), (0, u "DIRECTIONALITY_ARABIC_NUMBER"), (0, u "DIRECTIONALITY_COMMON_NUMBER_SEPARATOR"), (0, u "DIRECTIONALITY_NONSPACING_MARK"), (0, u "DIRECTIONALITY_BOUNDARY_NEUTRAL"), (0, u "DIRECTIONALITY_PARAGRAPH_SEPARATOR"), (0, u "DIRECTIONALITY_SEGMENT_SEPARATOR"), (0, u "DIRECTIONALITY_WHITESPACE"), (0, u "DIRECTIONALITY_OTHER_NEUTRALS"), (0, u "DIRECTIONALITY_LEFT_TO_RIGHT_EMBEDDING"), (0, u "DIRECTIONALITY_LEFT_TO_RIGHT_OVERRIDE"), (0, u "DIRECTIONALITY_RIGHT_TO_LEFT_EMBEDDING"), (0, u "DIRECTIONALITY_RIGHT_TO_LEFT_OVERRIDE"), (1, u "DIRECTIONALITY_POP_DIRECTIONAL_FORMAT"), (0, u "DIRECTIONALITY_LEFT_TO_RIGHT_ISOLATE"), (0, u "DIRECTIONALITY_RIGHT_TO_LEFT_ISOLATE"), (0, u "DIRECTIONALITY_FIRST_STRONG_ISOLATE"), (0, u "DIRECTIONALITY_POP_DIRECTIONAL_ISOLATE"), (0, u "MIN_HIGH_SURROGATE"), (0, u "MAX_HIGH_SURROGATE"), (1, u "MIN_LOW_SURROGATE"), (0, u "MAX_LOW_SURROGATE"), (1, u "MIN_SURROGATE"), (0, u "MAX_SURROGATE"), (0, u "MIN_SUPPLEMENTARY_CODE_POINT"), (0, u "MIN_CODE_POINT"), (0, u "MAX_CODE_POINT"), (1, u "serialVersionUID"), (0, u "J"), (2, u "SIZE"), (0, u "BYTES"), (29, u "charCount"), (58, .class_ 596), (0, u "java/lang/Character$UnicodeScript"), (0, .class_ 598), (0, u "java/lang/Character$Subset")] 5

def k14c0 : Code := { maxStack := 2, maxLocals := 1, code := jdk_89_method_14_code, exceptionTable := #[], attributes := #[] }
def k14m0 : Method := { name := "isHighSurrogate", desc := "(C)Z", sig := { parameters := [.char], returnType := some .boolean }, accessFlags := 9, code := some k14c0 }
def k14c1 : Code := { maxStack := 2, maxLocals := 1, code := jdk_89_method_15_code, exceptionTable := #[], attributes := #[] }
def k14m1 : Method := { name := "isLowSurrogate", desc := "(C)Z", sig := { parameters := [.char], returnType := some .boolean }, accessFlags := 9, code := some k14c1 }
def k14c2 : Code := { maxStack := 2, maxLocals := 1, code := jdk_89_method_18_code, exceptionTable := #[], attributes := #[] }
def k14m2 : Method := { name := "charCount", desc := "(I)I", sig := { parameters := [.int], returnType := some .int }, accessFlags := 9, code := some k14c2 }
def k14c3 : Code := { maxStack := 2, maxLocals := 2, code := jdk_89_method_19_code, exceptionTable := #[], attributes := #[] }
def k14m3 : Method := { name := "toCodePoint", desc := "(CC)I", sig := { parameters := [.char, .char], returnType := some .int }, accessFlags := 9, code := some k14c3 }
/-- java/lang/Character -/
def k14 : Class := { plain "java/lang/Character" (some 0) with
  accessFlags := 49
  interfaces := #[2, 3, 5]
  cf := some (fileOf pool14 1 #[.nestMembers #[48, 595, 307, 597]] #[{ accessFlags := 9, nameIndex := 80, descriptorIndex := 81, attributes := #[] }, { accessFlags := 9, nameIndex := 84, descriptorIndex := 81, attributes := #[] }, { accessFlags := 9, nameIndex := 536, descriptorIndex := 174, attributes := #[] }, { accessFlags := 9, nameIndex := 98, descriptorIndex := 99, attributes := #[] }] 49 42 #[385, 387, 389] #[{ accessFlags := 25, nameIndex := 391, descriptorIndex := 392, attributes := #[] }, { accessFlags := 25, nameIndex := 395, descriptorIndex := 392, attributes := #[] }, { accessFlags := 25, nameIndex := 397, descriptorIndex := 22, attributes := #[] }, { accessFlags := 25, nameIndex := 399, descriptorIndex := 22, attributes := #[] }, { accessFlags := 25, nameIndex := 383, descriptorIndex := 384, attributes := #[] }, { accessFlags := 25, nameIndex := 403, descriptorIndex := 404, attributes := #[] }, { accessFlags := 25, nameIndex := 405, descriptorIndex := 404, attributes := #[] }, { accessFlags := 25, nameIndex := 407, descriptorIndex := 404, attributes := #[] }, { accessFlags := 25, nameIndex := 408, descriptorIndex := 404, attributes := #[] }, { accessFlags := 25, nameIndex := 410, descriptorIndex := 404, attributes := #[] }, { accessFlags := 25, nameIndex := 412, descriptorIndex := 404, attributes := #[] }, { accessFlags := 25, nameIndex := 414, descriptorIndex := 404, attributes := #[] }, { accessFlags := 25, nameIndex := 416, descriptorIndex := 404, attributes := #[] }, { accessFlags := 25, nameIndex := 418, descriptorIndex := 404, attributes := #[] }, { accessFlags := 25, nameIndex := 420, descriptorIndex := 404, attributes := #[] }, { accessFlags := 25, nameIndex := 422, descriptorIndex := 404, attributes := #[] }, { accessFlags := 25, nameIndex := 424, descriptorIndex := 404, attributes := #[] }, { accessFlags := 25, nameIndex := 426, descriptorIndex := 404, attributes := #[] }, { accessFlags := 25, nameIndex := 428, descriptorIndex := 404, attributes := #[] }, { accessFlags := 25, nameIndex := 430, descriptorIndex := 404, attributes := #[] }, { accessFlags := 25, nameIndex := 432, descriptorIndex := 404, attributes := #[] }, { accessFlags := 25, nameIndex := 434, descriptorIndex := 404, attributes := #[] }, { accessFlags := 25, nameIndex := 436, descriptorIndex := 404, attributes := #[] }, { accessFlags := 25, nameIndex := 438, descriptorIndex := 404, attributes := #[] }, { accessFlags := 25, nameIndex := 440, descriptorIndex := 404, attributes := #[] }, { accessFlags := 25, nameIndex := 442, descriptorIndex := 404, attributes := #[] }, { accessFlags := 25, nameIndex := 444, descriptorIndex := 404, attributes := #[] }, { accessFlags := 25, nameIndex := 446, descriptorIndex := 404, attributes := #[] }, { accessFlags := 25, nameIndex := 448, descriptorIndex := 404, attributes := #[] }, { accessFlags := 25, nameIndex := 450, descriptorIndex := 404, attributes := #[] }, { accessFlags := 25, nameIndex := 452, descriptorIndex := 404, attributes := #[] }, { accessFlags := 25, nameIndex := 454, descriptorIndex := 404, attributes := #[] }, { accessFlags := 25, nameIndex := 456, descriptorIndex := 404, attributes := #[] }, { accessFlags := 25, nameIndex := 458, descriptorIndex := 404, attributes := #[] }, { accessFlags := 25, nameIndex := 460, descriptorIndex := 404, attributes := #[] }, { accessFlags := 24, nameIndex := 462, descriptorIndex := 392, attributes := #[] }, { accessFlags := 25, nameIndex := 464, descriptorIndex := 404, attributes := #[] }, { accessFlags := 25, nameIndex := 465, descriptorIndex := 404, attributes := #[] }, { accessFlags := 25, nameIndex := 466, descriptorIndex := 404, attributes := #[] }, { accessFlags := 25, nameIndex := 467, descriptorIndex := 404, attributes := #[] }, { accessFlags := 25, nameIndex := 468, descriptorIndex := 404, attributes := #[] }, { accessFlags := 25, nameIndex := 469, descriptorIndex := 404, attributes := #[] }, { accessFlags := 25, nameIndex := 470, descriptorIndex := 404, attributes := #[] }, { accessFlags := 25, nameIndex := 471, descriptorIndex := 404, attributes := #[] }, { accessFlags := 25, nameIndex := 472, descriptorIndex := 404, attributes := #[] }, { accessFlags := 25, nameIndex := 473, descriptorIndex := 404, attributes := #[] }, { accessFlags := 25, nameIndex := 474, descriptorIndex := 404, attributes := #[] }, { accessFlags := 25, nameIndex := 475, descriptorIndex := 404, attributes := #[] }, { accessFlags := 25, nameIndex := 476, descriptorIndex := 404, attributes := #[] }, { accessFlags := 25, nameIndex := 477, descriptorIndex := 404, attributes := #[] }, { accessFlags := 25, nameIndex := 478, descriptorIndex := 404, attributes := #[] }, { accessFlags := 25, nameIndex := 479, descriptorIndex := 404, attributes := #[] }, { accessFlags := 25, nameIndex := 480, descriptorIndex := 404, attributes := #[] }, { accessFlags := 25, nameIndex := 481, descriptorIndex := 404, attributes := #[] }, { accessFlags := 25, nameIndex := 482, descriptorIndex := 404, attributes := #[] }, { accessFlags := 25, nameIndex := 484, descriptorIndex := 404, attributes := #[] }, { accessFlags := 25, nameIndex := 485, descriptorIndex := 404, attributes := #[] }, { accessFlags := 25, nameIndex := 486, descriptorIndex := 404, attributes := #[] }, { accessFlags := 25, nameIndex := 487, descriptorIndex := 404, attributes := #[] }, { accessFlags := 25, nameIndex := 488, descriptorIndex := 404, attributes := #[] }, { accessFlags := 25, nameIndex := 489, descriptorIndex := 22, attributes := #[] }, { accessFlags := 25, nameIndex := 490, descriptorIndex := 22, attributes := #[] }, { accessFlags := 25, nameIndex := 492, descriptorIndex := 22, attributes := #[] }, { accessFlags := 25, nameIndex := 493, descriptorIndex := 22, attributes := #[] }, { accessFlags := 25, nameIndex := 495, descriptorIndex := 22, attributes := #[] }, { accessFlags := 25, nameIndex := 496, descriptorIndex := 22, attributes := #[] }, { accessFlags := 25, nameIndex := 497, descriptorIndex := 392, attributes := #[] }, { accessFlags := 25, nameIndex := 498, descriptorIndex := 392, attributes := #[] }, { accessFlags := 25, nameIndex := 499, descriptorIndex := 392, attributes := #[] }, { accessFlags := 18, nameIndex := 21, descriptorIndex := 22, attributes := #[] }, { accessFlags := 26, nameIndex := 501, descriptorIndex := 502, attributes := #[] }, { accessFlags := 25, nameIndex := 505, descriptorIndex := 392, attributes := #[] }, { accessFlags := 25, nameIndex := 506, descriptorIndex := 392, attributes := #[] }, { accessFlags := 4120, nameIndex := 284, descriptorIndex := 285, attributes := #[] }])
  fields := #[{ name := "MIN_RADIX", type := .int, accessFlags := 25, slot := 0, constantValue := 0 }, { name := "MAX_RADIX", type := .int, accessFlags := 25, slot := 1, constantValue := 0 }, { name := "MIN_VALUE", type := .char, accessFlags := 25, slot := 2, constantValue := 0 }, { name := "MAX_VALUE", type := .char, accessFlags := 25, slot := 3, constantValue := 0 }, { name := "TYPE", type := (.object "java/lang/Class"), accessFlags := 25, slot := 4, constantValue := 0 }, { name := "UNASSIGNED", type := .byte, accessFlags := 25, slot := 5, constantValue := 0 }, { name := "UPPERCASE_LETTER", type := .byte, accessFlags := 25, slot := 6, constantValue := 0 }, { name := "LOWERCASE_LETTER", type := .byte, accessFlags := 25, slot := 7, constantValue := 0 }, { name := "TITLECASE_LETTER", type := .byte, accessFlags := 25, slot := 8, constantValue := 0 }, { name := "MODIFIER_LETTER", type := .byte, accessFlags := 25, slot := 9, constantValue := 0 }, { name := "OTHER_LETTER", type := .byte, accessFlags := 25, slot := 10, constantValue := 0 }, { name := "NON_SPACING_MARK", type := .byte, accessFlags := 25, slot := 11, constantValue := 0 }, { name := "ENCLOSING_MARK", type := .byte, accessFlags := 25, slot := 12, constantValue := 0 }, { name := "COMBINING_SPACING_MARK", type := .byte, accessFlags := 25, slot := 13, constantValue := 0 }, { name := "DECIMAL_DIGIT_NUMBER", type := .byte, accessFlags := 25, slot := 14, constantValue := 0 }, { name := "LETTER_NUMBER", type := .byte, accessFlags := 25, slot := 15, constantValue := 0 }, { name := "OTHER_NUMBER", type := .byte, accessFlags := 25, slot := 16, constantValue := 0 }, { name := "SPACE_SEPARATOR", type := .byte, accessFlags := 25, slot := 17, constantValue := 0 }, { name := "LINE_SEPARATOR", type := .byte, accessFlags := 25, slot := 18, constantValue := 0 }, { name := "PARAGRAPH_SEPARATOR", type := .byte, accessFlags := 25, slot := 19, constantValue := 0 }, { name := "CONTROL", type := .byte, accessFlags := 25, slot := 20, constantValue := 0 }, { name := "FORMAT", type := .byte, accessFlags := 25, slot := 21, constantValue := 0 }, { name := "PRIVATE_USE", type := .byte, accessFlags := 25, slot := 22, constantValue := 0 }, { name := "SURROGATE", type := .byte, accessFlags := 25, slot := 23, constantValue := 0 }, { name := "DASH_PUNCTUATION", type := .byte, accessFlags := 25, slot := 24, constantValue := 0 }, { name := "START_PUNCTUATION", type := .byte, accessFlags := 25, slot := 25, constantValue := 0 }, { name := "END_PUNCTUATION", type := .byte, accessFlags := 25, slot := 26, constantValue := 0 }, { name := "CONNECTOR_PUNCTUATION", type := .byte, accessFlags := 25, slot := 27, constantValue := 0 }, { name := "OTHER_PUNCTUATION", type := .byte, accessFlags := 25, slot := 28, constantValue := 0 }, { name := "MATH_SYMBOL", type := .byte, accessFlags := 25, slot := 29, constantValue := 0 }, { name := "CURRENCY_SYMBOL", type := .byte, accessFlags := 25, slot := 30, constantValue := 0 }, { name := "MODIFIER_SYMBOL", type := .byte, accessFlags := 25, slot := 31, constantValue := 0 }, { name := "OTHER_SYMBOL", type := .byte, accessFlags := 25, slot := 32, constantValue := 0 }, { name := "INITIAL_QUOTE_PUNCTUATION", type := .byte, accessFlags := 25, slot := 33, constantValue := 0 }, { name := "FINAL_QUOTE_PUNCTUATION", type := .byte, accessFlags := 25, slot := 34, constantValue := 0 }, { name := "ERROR", type := .int, accessFlags := 24, slot := 35, constantValue := 0 }, { name := "DIRECTIONALITY_UNDEFINED", type := .byte, accessFlags := 25, slot := 36, constantValue := 0 }, { name := "DIRECTIONALITY_LEFT_TO_RIGHT", type := .byte, accessFlags := 25, slot := 37, constantValue := 0 }, { name := "DIRECTIONALITY_RIGHT_TO_LEFT", type := .byte, accessFlags := 25, slot := 38, constantValue := 0 }, { name := "DIRECTIONALITY_RIGHT_TO_LEFT_ARABIC", type := .byte, accessFlags := 25, slot := 39, constantValue := 0 }, { name := "DIRECTIONALITY_EUROPEAN_NUMBER", type := .byte, accessFlags := 25, slot := 40, constantValue := 0 }, { name := "DIRECTIONALITY_EUROPEAN_NUMBER_SEPARATOR", type := .byte, accessFlags := 25, slot := 41, constantValue := 0 }, { name := "DIRECTIONALITY_EUROPEAN_NUMBER_TERMINATOR", type := .byte, accessFlags := 25, slot := 42, constantValue := 0 }, { name := "DIRECTIONALITY_ARABIC_NUMBER", type := .byte, accessFlags := 25, slot := 43, constantValue := 0 }, { name := "DIRECTIONALITY_COMMON_NUMBER_SEPARATOR", type := .byte, accessFlags := 25, slot := 44, constantValue := 0 }, { name := "DIRECTIONALITY_NONSPACING_MARK", type := .byte, accessFlags := 25, slot := 45, constantValue := 0 }, { name := "DIRECTIONALITY_BOUNDARY_NEUTRAL", type := .byte, accessFlags := 25, slot := 46, constantValue := 0 }, { name := "DIRECTIONALITY_PARAGRAPH_SEPARATOR", type := .byte, accessFlags := 25, slot := 47, constantValue := 0 }, { name := "DIRECTIONALITY_SEGMENT_SEPARATOR", type := .byte, accessFlags := 25, slot := 48, constantValue := 0 }, { name := "DIRECTIONALITY_WHITESPACE", type := .byte, accessFlags := 25, slot := 49, constantValue := 0 }, { name := "DIRECTIONALITY_OTHER_NEUTRALS", type := .byte, accessFlags := 25, slot := 50, constantValue := 0 }, { name := "DIRECTIONALITY_LEFT_TO_RIGHT_EMBEDDING", type := .byte, accessFlags := 25, slot := 51, constantValue := 0 }, { name := "DIRECTIONALITY_LEFT_TO_RIGHT_OVERRIDE", type := .byte, accessFlags := 25, slot := 52, constantValue := 0 }, { name := "DIRECTIONALITY_RIGHT_TO_LEFT_EMBEDDING", type := .byte, accessFlags := 25, slot := 53, constantValue := 0 }, { name := "DIRECTIONALITY_RIGHT_TO_LEFT_OVERRIDE", type := .byte, accessFlags := 25, slot := 54, constantValue := 0 }, { name := "DIRECTIONALITY_POP_DIRECTIONAL_FORMAT", type := .byte, accessFlags := 25, slot := 55, constantValue := 0 }, { name := "DIRECTIONALITY_LEFT_TO_RIGHT_ISOLATE", type := .byte, accessFlags := 25, slot := 56, constantValue := 0 }, { name := "DIRECTIONALITY_RIGHT_TO_LEFT_ISOLATE", type := .byte, accessFlags := 25, slot := 57, constantValue := 0 }, { name := "DIRECTIONALITY_FIRST_STRONG_ISOLATE", type := .byte, accessFlags := 25, slot := 58, constantValue := 0 }, { name := "DIRECTIONALITY_POP_DIRECTIONAL_ISOLATE", type := .byte, accessFlags := 25, slot := 59, constantValue := 0 }, { name := "MIN_HIGH_SURROGATE", type := .char, accessFlags := 25, slot := 60, constantValue := 0 }, { name := "MAX_HIGH_SURROGATE", type := .char, accessFlags := 25, slot := 61, constantValue := 0 }, { name := "MIN_LOW_SURROGATE", type := .char, accessFlags := 25, slot := 62, constantValue := 0 }, { name := "MAX_LOW_SURROGATE", type := .char, accessFlags := 25, slot := 63, constantValue := 0 }, { name := "MIN_SURROGATE", type := .char, accessFlags := 25, slot := 64, constantValue := 0 }, { name := "MAX_SURROGATE", type := .char, accessFlags := 25, slot := 65, constantValue := 0 }, { name := "MIN_SUPPLEMENTARY_CODE_POINT", type := .int, accessFlags := 25, slot := 66, constantValue := 0 }, { name := "MIN_CODE_POINT", type := .int, accessFlags := 25, slot := 67, constantValue := 0 }, { name := "MAX_CODE_POINT", type := .int, accessFlags := 25, slot := 68, constantValue := 0 }, { name := "value", type := .char, accessFlags := 18, slot := 0, constantValue := 0 }, { name := "serialVersionUID", type := .long, accessFlags := 26, slot := 69, constantValue := 0 }, { name := "SIZE", type := .int, accessFlags := 25, slot := 70, constantValue := 0 }, { name := "BYTES", type := .int, accessFlags := 25, slot := 71, constantValue := 0 }, { name := "$assertionsDisabled", type := .boolean, accessFlags := 4120, slot := 72, constantValue := 0 }]
  methods := #[k14m0, k14m1, k14m2, k14m3]
  instanceTypes := #[.char]
  staticTypes := #[.int, .int, .char, .char, (.object "java/lang/Class"), .byte, .byte, .byte, .byte, .byte, .byte, .byte, .byte, .byte, .byte, .byte, .byte, .byte, .byte, .byte, .byte, .byte, .byte, .byte, .byte, .byte, .byte, .byte, .byte, .byte, .byte, .byte, .byte, .byte, .byte, .int, .byte, .byte, .byte, .byte, .byte, .byte, .byte, .byte, .byte, .byte, .byte, .byte, .byte, .byte, .byte, .byte, .byte, .byte, .byte, .byte, .byte, .byte, .byte, .byte, .char, .char, .char, .char, .char, .char, .int, .int, .int, .long, .int, .int, .boolean]
  resolved := Array.replicate 604 none
  statics := none }

def pool15 : Array CpInfo := pool [(4, .class_ 6), (1, u "java/lang/Object"), (0, u "<init>"), (0, u "()V"), (5, .class_ 16), (1, u "java/lang/StringLatin1"), (104, u "$assertionsDisabled"), (0, u "Z"), (98, .class_ 223), (1, u "java/lang/StringLatin1$LinesSpliterator"), (166, .class_ 391), (0, u "java/lang/StringLatin1$CharsSpliterator")] 3

def k15m0 : Method := { name := "<init>", desc := "()V", sig := { parameters := [], returnType := none }, accessFlags := 0, code := none }
/-- java/lang/StringLatin1 -/
def k15 : Class := { plain "java/lang/StringLatin1" (some 0) with
  accessFlags := 48
  interfaces := #[]
  cf := some (fileOf pool15 14 #[.nestMembers #[390, 221]] #[{ accessFlags := 0, nameIndex := 7, descriptorIndex := 8, attributes := #[] }] 48 4 #[] #[{ accessFlags := 4120, nameIndex := 121, descriptorIndex := 122, attributes := #[] }])
  fields := #[{ name := "$assertionsDisabled", type := .boolean, accessFlags := 4120, slot := 0, constantValue := 0 }]
  methods := #[k15m0]
  instanceTypes := #[]
  staticTypes := #[.boolean]
  resolved := Array.replicate 395 none
  statics := none }

def pool16 : Array CpInfo := pool [(9, u "<init>"), (6, .class_ 18), (1, u "java/lang/Object"), (0, u "()V"), (1, .class_ 23), (1, u "jdk/internal/util/ArraysSupport"), (0, u "LOG2_ARRAY_LONG_INDEX_SCALE"), (0, u "I"), (2, u "U"), (0, u "Ljdk/internal/misc/Unsafe;"), (8, u "BIG_ENDIAN"), (0, u "Z"), (8, u "LOG2_BYTE_BIT_SIZE"), (4, u "LOG2_ARRAY_INT_INDEX_SCALE"), (54, u "JLA"), (0, u "Ljdk/internal/access/JavaLangAccess;"), (11, u "LOG2_ARRAY_BOOLEAN_INDEX_SCALE"), (9, u "LOG2_ARRAY_BYTE_INDEX_SCALE"), (5, u "LOG2_ARRAY_CHAR_INDEX_SCALE"), (5, u "LOG2_ARRAY_SHORT_INDEX_SCALE"), (18, u "LOG2_ARRAY_FLOAT_INDEX_SCALE"), (24, u "LOG2_ARRAY_DOUBLE_INDEX_SCALE"), (89, u "T_BOOLEAN"), (2, u "T_CHAR"), (1, u "T_FLOAT"), (1, u "T_DOUBLE"), (1, u "T_BYTE"), (1, u "T_SHORT"), (1, u "T_INT"), (1, u "T_LONG"), (1, u "SOFT_MAX_ARRAY_LENGTH")] 83

def k16m0 : Method := { name := "<init>", desc := "()V", sig := { parameters := [], returnType := none }, accessFlags := 2, code := none }
/-- jdk/internal/util/ArraysSupport -/
def k16 : Class := { plain "jdk/internal/util/ArraysSupport" (some 0) with
  accessFlags := 33
  interfaces := #[]
  cf := some (fileOf pool16 21 #[] #[{ accessFlags := 2, nameIndex := 9, descriptorIndex := 19, attributes := #[] }] 33 16 #[] #[{ accessFlags := 24, nameIndex := 28, descriptorIndex := 29, attributes := #[] }, { accessFlags := 26, nameIndex := 38, descriptorIndex := 39, attributes := #[] }, { accessFlags := 25, nameIndex := 121, descriptorIndex := 25, attributes := #[] }, { accessFlags := 25, nameIndex := 131, descriptorIndex := 25, attributes := #[] }, { accessFlags := 25, nameIndex := 137, descriptorIndex := 25, attributes := #[] }, { accessFlags := 25, nameIndex := 143, descriptorIndex := 25, attributes := #[] }, { accessFlags := 25, nameIndex := 53, descriptorIndex := 25, attributes := #[] }, { accessFlags := 25, nameIndex := 24, descriptorIndex := 25, attributes := #[] }, { accessFlags := 25, nameIndex := 162, descriptorIndex := 25, attributes := #[] }, { accessFlags := 25, nameIndex := 187, descriptorIndex := 25, attributes := #[] }, { accessFlags := 26, nameIndex := 48, descriptorIndex := 25, attributes := #[] }, { accessFlags := 25, nameIndex := 277, descriptorIndex := 25, attributes := #[] }, { accessFlags := 25, nameIndex := 280, descriptorIndex := 25, attributes := #[] }, { accessFlags := 25, nameIndex := 282, descriptorIndex := 25, attributes := #[] }, { accessFlags := 25, nameIndex := 284, descriptorIndex := 25, attributes := #[] }, { accessFlags := 25, nameIndex := 286, descriptorIndex := 25, attributes := #[] }, { accessFlags := 25, nameIndex := 288, descriptorIndex := 25, attributes := #[] }, { accessFlags := 25, nameIndex := 290, descriptorIndex := 25, attributes := #[] }, { accessFlags := 25, nameIndex := 292, descriptorIndex := 25, attributes := #[] }, { accessFlags := 26, nameIndex := 108, descriptorIndex := 109, attributes := #[] }, { accessFlags := 25, nameIndex := 294, descriptorIndex := 25, attributes := #[] }])
  fields := #[{ name := "U", type := (.object "jdk/internal/misc/Unsafe"), accessFlags := 24, slot := 0, constantValue := 0 }, { name := "BIG_ENDIAN", type := .boolean, accessFlags := 26, slot := 1, constantValue := 0 }, { name := "LOG2_ARRAY_BOOLEAN_INDEX_SCALE", type := .int, accessFlags := 25, slot := 2, constantValue := 0 }, { name := "LOG2_ARRAY_BYTE_INDEX_SCALE", type := .int, accessFlags := 25, slot := 3, constantValue := 0 }, { name := "LOG2_ARRAY_CHAR_INDEX_SCALE", type := .int, accessFlags := 25, slot := 4, constantValue := 0 }, { name := "LOG2_ARRAY_SHORT_INDEX_SCALE", type := .int, accessFlags := 25, slot := 5, constantValue := 0 }, { name := "LOG2_ARRAY_INT_INDEX_SCALE", type := .int, accessFlags := 25, slot := 6, constantValue := 0 }, { name := "LOG2_ARRAY_LONG_INDEX_SCALE", type := .int, accessFlags := 25, slot := 7, constantValue := 0 }, { name := "LOG2_ARRAY_FLOAT_INDEX_SCALE", type := .int, accessFlags := 25, slot := 8, constantValue := 0 }, { name := "LOG2_ARRAY_DOUBLE_INDEX_SCALE", type := .int, accessFlags := 25, slot := 9, constantValue := 0 }, { name := "LOG2_BYTE_BIT_SIZE", type := .int, accessFlags := 26, slot := 10, constantValue := 0 }, { name := "T_BOOLEAN", type := .int, accessFlags := 25, slot := 11, constantValue := 0 }, { name := "T_CHAR", type := .int, accessFlags := 25, slot := 12, constantValue := 0 }, { name := "T_FLOAT", type := .int, accessFlags := 25, slot := 13, constantValue := 0 }, { name := "T_DOUBLE", type := .int, accessFlags := 25, slot := 14, constantValue := 0 }, { name := "T_BYTE", type := .int, accessFlags := 25, slot := 15, constantValue := 0 }, { name := "T_SHORT", type := .int, accessFlags := 25, slot := 16, constantValue := 0 }, { name := "T_INT", type := .int, accessFlags := 25, slot := 17, constantValue := 0 }, { name := "T_LONG", type := .int, accessFlags := 25, slot := 18, constantValue := 0 }, { name := "JLA", type := (.object "jdk/internal/access/JavaLangAccess"), accessFlags := 26, slot := 19, constantValue := 0 }, { name := "SOFT_MAX_ARRAY_LENGTH", type := .int, accessFlags := 25, slot := 20, constantValue := 0 }]
  methods := #[k16m0]
  instanceTypes := #[]
  staticTypes := #[(.object "jdk/internal/misc/Unsafe"), .boolean, .int, .int, .int, .int, .int, .int, .int, .int, .int, .int, .int, .int, .int, .int, .int, .int, .int, (.object "jdk/internal/access/JavaLangAccess"), .int]
  resolved := Array.replicate 378 none
  statics := none }

def pool17 : Array CpInfo := pool [(1, u "java/lang/Cloneable"), (0, .class_ 1), (0, u "java/lang/Object"), (0, .class_ 3)] 3

/-- java/lang/Cloneable -/
def k17 : Class := { plain "java/lang/Cloneable" (some 0) with
  accessFlags := 1537
  interfaces := #[]
  cf := some (fileOf pool17 2 #[] #[] 1537 4 #[] #[])
  fields := #[]
  methods := #[]
  instanceTypes := #[]
  staticTypes := #[]
  resolved := Array.replicate 8 none
  statics := none }

/-- the primitive byte -/
def k18 : Class := { plain "byte" none with kind := .primitive 'B', accessFlags := 0x411 }
/-- [B -/
def k19 : Class := { plain "[B" (some 0) with kind := .array 18 .byte, interfaces := #[17, 2], accessFlags := 1041 }

/-- the primitive char -/
def k20 : Class := { plain "char" none with kind := .primitive 'C', accessFlags := 0x411 }
/-- [C -/
def k21 : Class := { plain "[C" (some 0) with kind := .array 20 .char, interfaces := #[17, 2], accessFlags := 1041 }

/-- the primitive int -/
def k22 : Class := { plain "int" none with kind := .primitive 'I', accessFlags := 0x411 }
/-- [I -/
def k23 : Class := { plain "[I" (some 0) with kind := .array 22 .int, interfaces := #[17, 2], accessFlags := 1041 }

def heap : Heap := #[{ cls := 7, slots := #[.long 0, .int 1, .null, .int 0, .null, .int 0, .int 0], vm := .statics 7 },
  { cls := 12, slots := #[.int 0, .int 8, .int 0, .int 1], vm := .statics 12 },
  { cls := 13, slots := #[.null, .null, .null], vm := .statics 13 }]
def classes : Array Class := #[k0, k1, k2, k3, k4, k5, k6, k7, k8, k9, k10, k11, k12, k13, k14, k15, k16, k17, k18, k19, k20, k21, k22, k23]
def interned : List (Array UInt16 × Addr) := []
def slotsUsed : Nat := 14
def theMethod : MethodId := ⟨1, 1⟩
def args0 : Array Value := #[.int 1, .int 66000, .int 3, .int 131100, .int 9, .int 0]
def aboutOver (below : List Frame) : State where
  vm := { classes := classes, interned := interned.toArray }
  heap := heap
  slotsUsed := slotsUsed
  threads := #[{ frames := .invoking theMethod args0 :: below }]
def below0 : List Frame := [.native { method := ⟨0, 0⟩, args := #[] }]
def about1 : State := aboutOver below0
def p0 : Program := .bare "" "" ""
def e0 : Env := launch0.env 0 0 0
theorem w_frames : about1.frames = Frame.invoking theMethod args0 :: below0 := rfl
set_option maxRecDepth 65536 in
theorem w_args : argsFit about1.vm theMethod args0 = true := by decide +kernel
set_option maxRecDepth 65536 in
theorem w_heap : heapFits about1 = true := by decide +kernel
set_option maxRecDepth 65536 in
theorem w_runnable : about1.curStatus? = some .runnable := by decide +kernel
set_option maxRecDepth 65536 in
theorem w_alone : about1.alone = true := by decide +kernel
set_option maxRecDepth 65536 in
theorem w_named : about1.methodNamed? x = some theMethod := by decide +kernel
set_option maxRecDepth 65536 in
theorem w_hears : about1.hears theMethod below0 = true := by decide +kernel
set_option maxRecDepth 65536 in
theorem w_ripe : about1.ripe theMethod args0 below0 = true := by decide +kernel
theorem w_running : about1.status = .running := rfl
set_option maxRecDepth 65536 in
theorem w_room : about1.hasRoom e0.platform room_1 = true :=
  launch0.hasRoom_least _ room_1 (by decide +kernel) (by decide +kernel) (by decide +kernel) (by decide +kernel) (by decide +kernel) (by decide +kernel)
theorem allAtoms_all (ts : List Jvm.Cond) (a : Array Jvm.Value) (st : Jvm.State) : (allAtoms ts).before a st = ts.all (fun c => c.before a st) := by
  induction ts with
  | nil => rfl
  | cons c t ih =>
    show (Jvm.Cond.and c (allAtoms t)).before a st = _
    rw [Jvm.Cond.before_and, ih, List.all_cons]
def words1 : List Jvm.Cond := Jvm.Cond.code x code maxLocals ret :: tables_1
/-- a 'code' word, met by the world's own term for the bytes: nothing is compared byte by byte -/
theorem code_word {y : MethodName} {bytes : ByteArray} {mx : Nat} {rt : Option FieldType} {a : Array Value} {s : State} {m : MethodId} {meth : Method} {c : Code} (h1 : s.methodNamed? y = some m) (h2 : s.vm.method? m = some meth) (h3 : meth.code = some c) (h4 : c.code = bytes)
    (h5 : (c.maxLocals == mx && c.exceptionTable.isEmpty && decide (c.maxStack ≤ mostOperands) && decide (meth.sig.returnType = rt) && !meth.locks && decide (parseMethodDescriptor y.desc = some meth.sig)) = true) : (Jvm.Cond.code y bytes mx rt).before a s = true := by
  simp only [Bool.and_eq_true, beq_iff_eq, Bool.not_eq_true', decide_eq_true_eq] at h5
  obtain ⟨⟨⟨⟨⟨g1, g2⟩, g3⟩, g4⟩, g5⟩, g6⟩ := h5
  simp [Cond.before, Cond.holds, Cond.value, h1, h2, h3, h4, g1, g2, g3, g4, g5, g6]
def isCode : Jvm.Cond → Bool
  | .code _ _ _ _ => true
  | _ => false
theorem all_split {L : List Jvm.Cond} {P : Jvm.Cond → Bool} (h1 : L.all (fun c => isCode c || P c) = true) (h2 : ∀ c ∈ L.filter isCode, P c = true) : L.all P = true := by
  refine List.all_eq_true.mpr fun c hc => ?_
  have h := List.all_eq_true.mp h1 c hc
  rcases Bool.eq_false_or_eq_true (isCode c) with hi | hi
  · exact h2 c (List.mem_filter.mpr ⟨hc, hi⟩)
  · simpa [hi] using h
set_option maxRecDepth 65536 in
theorem w_c0 : (Jvm.Cond.code x code maxLocals ret).before args0 about1 = true := code_word (m := ⟨1, 1⟩) (meth := k1m1) (c := k1c1) (by decide +kernel) rfl rfl rfl (by decide +kernel)
set_option maxRecDepth 65536 in
theorem w_c1 : (Jvm.Cond.code ({ cls := "com/example/proximity/proximity/CodePointOrderComparePinLaw", name := "drawn", desc := "(I)C" } : Jvm.MethodName) method_3_code (2 : Nat) (Option.some Jvm.ClassFile.FieldType.char)).before args0 about1 = true := code_word (m := ⟨1, 2⟩) (meth := k1m2) (c := k1c2) (by decide +kernel) rfl rfl rfl (by decide +kernel)
set_option maxRecDepth 65536 in
theorem w_c2 : (Jvm.Cond.code ({ cls := "com/example/proximity/proximity/CodePointOrderComparePinLaw", name := "make", desc := "(CCI)Ljava/lang/String;" } : Jvm.MethodName) method_4_code (3 : Nat) (Option.some (Jvm.ClassFile.FieldType.object "java/lang/String"))).before args0 about1 = true := code_word (m := ⟨1, 3⟩) (meth := k1m3) (c := k1c3) (by decide +kernel) rfl rfl rfl (by decide +kernel)
set_option maxRecDepth 65536 in
theorem w_c3 : (Jvm.Cond.code ({ cls := "java/lang/String", name := "<init>", desc := "([C)V" } : Jvm.MethodName) jdk_42_method_3_code (2 : Nat) (Option.none : Option Jvm.ClassFile.FieldType)).before args0 about1 = true := code_word (m := ⟨7, 1⟩) (meth := k7m1) (c := k7c1) (by decide +kernel) rfl rfl rfl (by decide +kernel)
set_option maxRecDepth 65536 in
theorem w_c4 : (Jvm.Cond.code ({ cls := "java/lang/String", name := "<init>", desc := "([CIILjava/lang/Void;)V" } : Jvm.MethodName) jdk_42_method_149_code (6 : Nat) (Option.none : Option Jvm.ClassFile.FieldType)).before args0 about1 = true := code_word (m := ⟨7, 4⟩) (meth := k7m4) (c := k7c4) (by decide +kernel) rfl rfl rfl (by decide +kernel)
set_option maxRecDepth 65536 in
theorem w_c5 : (Jvm.Cond.code ({ cls := "java/lang/Object", name := "<init>", desc := "()V" } : Jvm.MethodName) object_method_1_code (1 : Nat) (Option.none : Option Jvm.ClassFile.FieldType)).before args0 about1 = true := code_word (m := ⟨0, 0⟩) (meth := k0m0) (c := k0c0) (by decide +kernel) rfl rfl rfl (by decide +kernel)
set_option maxRecDepth 65536 in
theorem w_c6 : (Jvm.Cond.code ({ cls := "com/example/proximity/proximity/CodePointOrderComparePinLaw", name := "codePoints", desc := "(CCI)[I" } : Jvm.MethodName) method_7_code (4 : Nat) (Option.some (Jvm.ClassFile.FieldType.array Jvm.ClassFile.FieldType.int))).before args0 about1 = true := code_word (m := ⟨1, 6⟩) (meth := k1m6) (c := k1c6) (by decide +kernel) rfl rfl rfl (by decide +kernel)
set_option maxRecDepth 65536 in
theorem w_c7 : (Jvm.Cond.code ({ cls := "com/example/proximity/proximity/CodePointOrderComparePinLaw", name := "expected", desc := "([I[I)I" } : Jvm.MethodName) method_8_code (3 : Nat) (Option.some Jvm.ClassFile.FieldType.int)).before args0 about1 = true := code_word (m := ⟨1, 7⟩) (meth := k1m7) (c := k1c7) (by decide +kernel) rfl rfl rfl (by decide +kernel)
set_option maxRecDepth 65536 in
theorem w_c8 : (Jvm.Cond.code ({ cls := "java/lang/Math", name := "min", desc := "(II)I" } : Jvm.MethodName) jdk_29_method_69_code (2 : Nat) (Option.some Jvm.ClassFile.FieldType.int)).before args0 about1 = true := code_word (m := ⟨8, 1⟩) (meth := k8m1) (c := k8c1) (by decide +kernel) rfl rfl rfl (by decide +kernel)
set_option maxRecDepth 65536 in
theorem w_c9 : (Jvm.Cond.code ({ cls := "com/example/proximity/proximity/CodePointOrder", name := "compare", desc := "(Ljava/lang/String;Ljava/lang/String;)I" } : Jvm.MethodName) prog_1_method_2_code (6 : Nat) (Option.some Jvm.ClassFile.FieldType.int)).before args0 about1 = true := code_word (m := ⟨9, 1⟩) (meth := k9m1) (c := k9c1) (by decide +kernel) rfl rfl rfl (by decide +kernel)
set_option maxRecDepth 65536 in
theorem w_c10 : (Jvm.Cond.code ({ cls := "java/lang/String", name := "length", desc := "()I" } : Jvm.MethodName) jdk_42_method_54_code (1 : Nat) (Option.some Jvm.ClassFile.FieldType.int)).before args0 about1 = true := code_word (m := ⟨7, 2⟩) (meth := k7m2) (c := k7c2) (by decide +kernel) rfl rfl rfl (by decide +kernel)
set_option maxRecDepth 65536 in
theorem w_c11 : (Jvm.Cond.code ({ cls := "java/lang/String", name := "coder", desc := "()B" } : Jvm.MethodName) jdk_42_method_152_code (1 : Nat) (Option.some Jvm.ClassFile.FieldType.byte)).before args0 about1 = true := code_word (m := ⟨7, 5⟩) (meth := k7m5) (c := k7c5) (by decide +kernel) rfl rfl rfl (by decide +kernel)
set_option maxRecDepth 65536 in
theorem w_c12 : (Jvm.Cond.code ({ cls := "java/lang/Integer", name := "compare", desc := "(II)I" } : Jvm.MethodName) jdk_33_method_40_code (2 : Nat) (Option.some Jvm.ClassFile.FieldType.int)).before args0 about1 = true := code_word (m := ⟨11, 0⟩) (meth := k11m0) (c := k11c0) (by decide +kernel) rfl rfl rfl (by decide +kernel)
set_option maxRecDepth 65536 in
theorem w_c13 : (Jvm.Cond.code ({ cls := "com/example/proximity/proximity/CodePointOrderComparePinLaw", name := "sign", desc := "(I)I" } : Jvm.MethodName) method_9_code (1 : Nat) (Option.some Jvm.ClassFile.FieldType.int)).before args0 about1 = true := code_word (m := ⟨1, 8⟩) (meth := k1m8) (c := k1c8) (by decide +kernel) rfl rfl rfl (by decide +kernel)
set_option maxRecDepth 65536 in
theorem w_c14 : (Jvm.Cond.code ({ cls := "java/lang/StringUTF16", name := "compress", desc := "([CII)[B" } : Jvm.MethodName) jdk_52_method_16_code (6 : Nat) (Option.some (Jvm.ClassFile.FieldType.array Jvm.ClassFile.FieldType.byte))).before args0 about1 = true := code_word (m := ⟨12, 9⟩) (meth := k12m9) (c := k12c9) (by decide +kernel) rfl rfl rfl (by decide +kernel)
set_option maxRecDepth 65536 in
theorem w_c15 : (Jvm.Cond.code ({ cls := "java/lang/StringUTF16", name := "compress", desc := "([CI[BII)I" } : Jvm.MethodName) jdk_52_method_21_code (7 : Nat) (Option.some Jvm.ClassFile.FieldType.int)).before args0 about1 = true := code_word (m := ⟨12, 10⟩) (meth := k12m10) (c := k12c10) (by decide +kernel) rfl rfl rfl (by decide +kernel)
set_option maxRecDepth 65536 in
theorem w_c16 : (Jvm.Cond.code ({ cls := "java/lang/StringUTF16", name := "toBytes", desc := "([CII)[B" } : Jvm.MethodName) jdk_52_method_14_code (5 : Nat) (Option.some (Jvm.ClassFile.FieldType.array Jvm.ClassFile.FieldType.byte))).before args0 about1 = true := code_word (m := ⟨12, 7⟩) (meth := k12m7) (c := k12c7) (by decide +kernel) rfl rfl rfl (by decide +kernel)
set_option maxRecDepth 65536 in
theorem w_c17 : (Jvm.Cond.code ({ cls := "java/lang/StringUTF16", name := "newBytesFor", desc := "(I)[B" } : Jvm.MethodName) jdk_52_method_2_code (1 : Nat) (Option.some (Jvm.ClassFile.FieldType.array Jvm.ClassFile.FieldType.byte))).before args0 about1 = true := code_word (m := ⟨12, 1⟩) (meth := k12m1) (c := k12c1) (by decide +kernel) rfl rfl rfl (by decide +kernel)
set_option maxRecDepth 65536 in
theorem w_c18 : (Jvm.Cond.code ({ cls := "java/lang/StringUTF16", name := "newBytesLength", desc := "(I)I" } : Jvm.MethodName) jdk_52_method_3_code (1 : Nat) (Option.some Jvm.ClassFile.FieldType.int)).before args0 about1 = true := code_word (m := ⟨12, 2⟩) (meth := k12m2) (c := k12c2) (by decide +kernel) rfl rfl rfl (by decide +kernel)
set_option maxRecDepth 65536 in
theorem w_c19 : (Jvm.Cond.code ({ cls := "java/lang/StringUTF16", name := "putChar", desc := "([BII)V" } : Jvm.MethodName) jdk_52_method_4_code (3 : Nat) (Option.none : Option Jvm.ClassFile.FieldType)).before args0 about1 = true := code_word (m := ⟨12, 3⟩) (meth := k12m3) (c := k12c3) (by decide +kernel) rfl rfl rfl (by decide +kernel)
set_option maxRecDepth 65536 in
theorem w_c20 : (Jvm.Cond.code ({ cls := "java/lang/StringUTF16", name := "getChar", desc := "([BI)C" } : Jvm.MethodName) jdk_52_method_5_code (2 : Nat) (Option.some Jvm.ClassFile.FieldType.char)).before args0 about1 = true := code_word (m := ⟨12, 4⟩) (meth := k12m4) (c := k12c4) (by decide +kernel) rfl rfl rfl (by decide +kernel)
set_option maxRecDepth 65536 in
theorem w_c21 : (Jvm.Cond.code ({ cls := "java/lang/StringUTF16", name := "coderFromArrayLen", desc := "([BI)B" } : Jvm.MethodName) jdk_52_method_15_code (2 : Nat) (Option.some Jvm.ClassFile.FieldType.byte)).before args0 about1 = true := code_word (m := ⟨12, 8⟩) (meth := k12m8) (c := k12c8) (by decide +kernel) rfl rfl rfl (by decide +kernel)
set_option maxRecDepth 65536 in
theorem w_c22 : (Jvm.Cond.code ({ cls := "com/example/proximity/proximity/CodePointOrderComparePinLaw", name := "high", desc := "(C)Z" } : Jvm.MethodName) method_5_code (1 : Nat) (Option.some Jvm.ClassFile.FieldType.boolean)).before args0 about1 = true := code_word (m := ⟨1, 4⟩) (meth := k1m4) (c := k1c4) (by decide +kernel) rfl rfl rfl (by decide +kernel)
set_option maxRecDepth 65536 in
theorem w_c23 : (Jvm.Cond.code ({ cls := "com/example/proximity/proximity/CodePointOrderComparePinLaw", name := "low", desc := "(C)Z" } : Jvm.MethodName) method_6_code (1 : Nat) (Option.some Jvm.ClassFile.FieldType.boolean)).before args0 about1 = true := code_word (m := ⟨1, 5⟩) (meth := k1m5) (c := k1c5) (by decide +kernel) rfl rfl rfl (by decide +kernel)
set_option maxRecDepth 65536 in
theorem w_c24 : (Jvm.Cond.code ({ cls := "java/lang/String", name := "codePointAt", desc := "(I)I" } : Jvm.MethodName) jdk_42_method_57_code (3 : Nat) (Option.some Jvm.ClassFile.FieldType.int)).before args0 about1 = true := code_word (m := ⟨7, 3⟩) (meth := k7m3) (c := k7c3) (by decide +kernel) rfl rfl rfl (by decide +kernel)
set_option maxRecDepth 65536 in
theorem w_c25 : (Jvm.Cond.code ({ cls := "java/lang/String", name := "isLatin1", desc := "()Z" } : Jvm.MethodName) jdk_42_method_154_code (1 : Nat) (Option.some Jvm.ClassFile.FieldType.boolean)).before args0 about1 = true := code_word (m := ⟨7, 6⟩) (meth := k7m6) (c := k7c6) (by decide +kernel) rfl rfl rfl (by decide +kernel)
set_option maxRecDepth 65536 in
theorem w_c26 : (Jvm.Cond.code ({ cls := "java/lang/String", name := "checkIndex", desc := "(II)V" } : Jvm.MethodName) jdk_42_method_155_code (2 : Nat) (Option.none : Option Jvm.ClassFile.FieldType)).before args0 about1 = true := code_word (m := ⟨7, 7⟩) (meth := k7m7) (c := k7c7) (by decide +kernel) rfl rfl rfl (by decide +kernel)
set_option maxRecDepth 65536 in
theorem w_c27 : (Jvm.Cond.code ({ cls := "jdk/internal/util/Preconditions", name := "checkIndex", desc := "(IILjava/util/function/BiFunction;)I" } : Jvm.MethodName) jdk_41_method_11_code (3 : Nat) (Option.some Jvm.ClassFile.FieldType.int)).before args0 about1 = true := code_word (m := ⟨13, 1⟩) (meth := k13m1) (c := k13c1) (by decide +kernel) rfl rfl rfl (by decide +kernel)
set_option maxRecDepth 65536 in
theorem w_c28 : (Jvm.Cond.code ({ cls := "java/lang/StringUTF16", name := "codePointAt", desc := "([BII)I" } : Jvm.MethodName) jdk_52_method_8_code (3 : Nat) (Option.some Jvm.ClassFile.FieldType.int)).before args0 about1 = true := code_word (m := ⟨12, 6⟩) (meth := k12m6) (c := k12c6) (by decide +kernel) rfl rfl rfl (by decide +kernel)
set_option maxRecDepth 65536 in
theorem w_c29 : (Jvm.Cond.code ({ cls := "java/lang/StringUTF16", name := "codePointAt", desc := "([BIIZ)I" } : Jvm.MethodName) jdk_52_method_7_code (6 : Nat) (Option.some Jvm.ClassFile.FieldType.int)).before args0 about1 = true := code_word (m := ⟨12, 5⟩) (meth := k12m5) (c := k12c5) (by decide +kernel) rfl rfl rfl (by decide +kernel)
set_option maxRecDepth 65536 in
theorem w_c30 : (Jvm.Cond.code ({ cls := "java/lang/Character", name := "isHighSurrogate", desc := "(C)Z" } : Jvm.MethodName) jdk_89_method_14_code (1 : Nat) (Option.some Jvm.ClassFile.FieldType.boolean)).before args0 about1 = true := code_word (m := ⟨14, 0⟩) (meth := k14m0) (c := k14c0) (by decide +kernel) rfl rfl rfl (by decide +kernel)
set_option maxRecDepth 65536 in
theorem w_c31 : (Jvm.Cond.code ({ cls := "java/lang/Character", name := "isLowSurrogate", desc := "(C)Z" } : Jvm.MethodName) jdk_89_method_15_code (1 : Nat) (Option.some Jvm.ClassFile.FieldType.boolean)).before args0 about1 = true := code_word (m := ⟨14, 1⟩) (meth := k14m1) (c := k14c1) (by decide +kernel) rfl rfl rfl (by decide +kernel)
set_option maxRecDepth 65536 in
theorem w_c32 : (Jvm.Cond.code ({ cls := "java/lang/Character", name := "toCodePoint", desc := "(CC)I" } : Jvm.MethodName) jdk_89_method_19_code (2 : Nat) (Option.some Jvm.ClassFile.FieldType.int)).before args0 about1 = true := code_word (m := ⟨14, 3⟩) (meth := k14m3) (c := k14c3) (by decide +kernel) rfl rfl rfl (by decide +kernel)
set_option maxRecDepth 65536 in
theorem w_c33 : (Jvm.Cond.code ({ cls := "java/lang/Character", name := "charCount", desc := "(I)I" } : Jvm.MethodName) jdk_89_method_18_code (1 : Nat) (Option.some Jvm.ClassFile.FieldType.int)).before args0 about1 = true := code_word (m := ⟨14, 2⟩) (meth := k14m2) (c := k14c2) (by decide +kernel) rfl rfl rfl (by decide +kernel)
def codes1 : List Jvm.Cond := [Jvm.Cond.code x code maxLocals ret, Jvm.Cond.code ({ cls := "com/example/proximity/proximity/CodePointOrderComparePinLaw", name := "drawn", desc := "(I)C" } : Jvm.MethodName) method_3_code (2 : Nat) (Option.some Jvm.ClassFile.FieldType.char), Jvm.Cond.code ({ cls := "com/example/proximity/proximity/CodePointOrderComparePinLaw", name := "make", desc := "(CCI)Ljava/lang/String;" } : Jvm.MethodName) method_4_code (3 : Nat) (Option.some (Jvm.ClassFile.FieldType.object "java/lang/String")), Jvm.Cond.code ({ cls := "java/lang/String", name := "<init>", desc := "([C)V" } : Jvm.MethodName) jdk_42_method_3_code (2 : Nat) (Option.none : Option Jvm.ClassFile.FieldType), Jvm.Cond.code ({ cls := "java/lang/String", name := "<init>", desc := "([CIILjava/lang/Void;)V" } : Jvm.MethodName) jdk_42_method_149_code (6 : Nat) (Option.none : Option Jvm.ClassFile.FieldType), Jvm.Cond.code ({ cls := "java/lang/Object", name := "<init>", desc := "()V" } : Jvm.MethodName) object_method_1_code (1 : Nat) (Option.none : Option Jvm.ClassFile.FieldType), Jvm.Cond.code ({ cls := "com/example/proximity/proximity/CodePointOrderComparePinLaw", name := "codePoints", desc := "(CCI)[I" } : Jvm.MethodName) method_7_code (4 : Nat) (Option.some (Jvm.ClassFile.FieldType.array Jvm.ClassFile.FieldType.int)), Jvm.Cond.code ({ cls := "com/example/proximity/proximity/CodePointOrderComparePinLaw", name := "expected", desc := "([I[I)I" } : Jvm.MethodName) method_8_code (3 : Nat) (Option.some Jvm.ClassFile.FieldType.int), Jvm.Cond.code ({ cls := "java/lang/Math", name := "min", desc := "(II)I" } : Jvm.MethodName) jdk_29_method_69_code (2 : Nat) (Option.some Jvm.ClassFile.FieldType.int), Jvm.Cond.code ({ cls := "com/example/proximity/proximity/CodePointOrder", name := "compare", desc := "(Ljava/lang/String;Ljava/lang/String;)I" } : Jvm.MethodName) prog_1_method_2_code (6 : Nat) (Option.some Jvm.ClassFile.FieldType.int), Jvm.Cond.code ({ cls := "java/lang/String", name := "length", desc := "()I" } : Jvm.MethodName) jdk_42_method_54_code (1 : Nat) (Option.some Jvm.ClassFile.FieldType.int), Jvm.Cond.code ({ cls := "java/lang/String", name := "coder", desc := "()B" } : Jvm.MethodName) jdk_42_method_152_code (1 : Nat) (Option.some Jvm.ClassFile.FieldType.byte), Jvm.Cond.code ({ cls := "java/lang/Integer", name := "compare", desc := "(II)I" } : Jvm.MethodName) jdk_33_method_40_code (2 : Nat) (Option.some Jvm.ClassFile.FieldType.int), Jvm.Cond.code ({ cls := "com/example/proximity/proximity/CodePointOrderComparePinLaw", name := "sign", desc := "(I)I" } : Jvm.MethodName) method_9_code (1 : Nat) (Option.some Jvm.ClassFile.FieldType.int), Jvm.Cond.code ({ cls := "java/lang/StringUTF16", name := "compress", desc := "([CII)[B" } : Jvm.MethodName) jdk_52_method_16_code (6 : Nat) (Option.some (Jvm.ClassFile.FieldType.array Jvm.ClassFile.FieldType.byte)), Jvm.Cond.code ({ cls := "java/lang/StringUTF16", name := "compress", desc := "([CI[BII)I" } : Jvm.MethodName) jdk_52_method_21_code (7 : Nat) (Option.some Jvm.ClassFile.FieldType.int), Jvm.Cond.code ({ cls := "java/lang/StringUTF16", name := "toBytes", desc := "([CII)[B" } : Jvm.MethodName) jdk_52_method_14_code (5 : Nat) (Option.some (Jvm.ClassFile.FieldType.array Jvm.ClassFile.FieldType.byte)), Jvm.Cond.code ({ cls := "java/lang/StringUTF16", name := "newBytesFor", desc := "(I)[B" } : Jvm.MethodName) jdk_52_method_2_code (1 : Nat) (Option.some (Jvm.ClassFile.FieldType.array Jvm.ClassFile.FieldType.byte)), Jvm.Cond.code ({ cls := "java/lang/StringUTF16", name := "newBytesLength", desc := "(I)I" } : Jvm.MethodName) jdk_52_method_3_code (1 : Nat) (Option.some Jvm.ClassFile.FieldType.int), Jvm.Cond.code ({ cls := "java/lang/StringUTF16", name := "putChar", desc := "([BII)V" } : Jvm.MethodName) jdk_52_method_4_code (3 : Nat) (Option.none : Option Jvm.ClassFile.FieldType), Jvm.Cond.code ({ cls := "java/lang/StringUTF16", name := "getChar", desc := "([BI)C" } : Jvm.MethodName) jdk_52_method_5_code (2 : Nat) (Option.some Jvm.ClassFile.FieldType.char), Jvm.Cond.code ({ cls := "java/lang/StringUTF16", name := "coderFromArrayLen", desc := "([BI)B" } : Jvm.MethodName) jdk_52_method_15_code (2 : Nat) (Option.some Jvm.ClassFile.FieldType.byte), Jvm.Cond.code ({ cls := "com/example/proximity/proximity/CodePointOrderComparePinLaw", name := "high", desc := "(C)Z" } : Jvm.MethodName) method_5_code (1 : Nat) (Option.some Jvm.ClassFile.FieldType.boolean), Jvm.Cond.code ({ cls := "com/example/proximity/proximity/CodePointOrderComparePinLaw", name := "low", desc := "(C)Z" } : Jvm.MethodName) method_6_code (1 : Nat) (Option.some Jvm.ClassFile.FieldType.boolean), Jvm.Cond.code ({ cls := "java/lang/String", name := "codePointAt", desc := "(I)I" } : Jvm.MethodName) jdk_42_method_57_code (3 : Nat) (Option.some Jvm.ClassFile.FieldType.int), Jvm.Cond.code ({ cls := "java/lang/String", name := "isLatin1", desc := "()Z" } : Jvm.MethodName) jdk_42_method_154_code (1 : Nat) (Option.some Jvm.ClassFile.FieldType.boolean), Jvm.Cond.code ({ cls := "java/lang/String", name := "checkIndex", desc := "(II)V" } : Jvm.MethodName) jdk_42_method_155_code (2 : Nat) (Option.none : Option Jvm.ClassFile.FieldType), Jvm.Cond.code ({ cls := "jdk/internal/util/Preconditions", name := "checkIndex", desc := "(IILjava/util/function/BiFunction;)I" } : Jvm.MethodName) jdk_41_method_11_code (3 : Nat) (Option.some Jvm.ClassFile.FieldType.int), Jvm.Cond.code ({ cls := "java/lang/StringUTF16", name := "codePointAt", desc := "([BII)I" } : Jvm.MethodName) jdk_52_method_8_code (3 : Nat) (Option.some Jvm.ClassFile.FieldType.int), Jvm.Cond.code ({ cls := "java/lang/StringUTF16", name := "codePointAt", desc := "([BIIZ)I" } : Jvm.MethodName) jdk_52_method_7_code (6 : Nat) (Option.some Jvm.ClassFile.FieldType.int), Jvm.Cond.code ({ cls := "java/lang/Character", name := "isHighSurrogate", desc := "(C)Z" } : Jvm.MethodName) jdk_89_method_14_code (1 : Nat) (Option.some Jvm.ClassFile.FieldType.boolean), Jvm.Cond.code ({ cls := "java/lang/Character", name := "isLowSurrogate", desc := "(C)Z" } : Jvm.MethodName) jdk_89_method_15_code (1 : Nat) (Option.some Jvm.ClassFile.FieldType.boolean), Jvm.Cond.code ({ cls := "java/lang/Character", name := "toCodePoint", desc := "(CC)I" } : Jvm.MethodName) jdk_89_method_19_code (2 : Nat) (Option.some Jvm.ClassFile.FieldType.int), Jvm.Cond.code ({ cls := "java/lang/Character", name := "charCount", desc := "(I)I" } : Jvm.MethodName) jdk_89_method_18_code (1 : Nat) (Option.some Jvm.ClassFile.FieldType.int)]
set_option maxRecDepth 65536 in
theorem codes_eq : words1.filter isCode = codes1 := rfl
theorem w_codes : ∀ c ∈ words1.filter isCode, c.before args0 about1 = true := by
  rw [codes_eq]
  intro c hc
  simp only [codes1, List.mem_cons, List.not_mem_nil, or_false] at hc
  rcases hc with rfl | rfl | rfl | rfl | rfl | rfl | rfl | rfl | rfl | rfl | rfl | rfl | rfl | rfl | rfl | rfl | rfl | rfl | rfl | rfl | rfl | rfl | rfl | rfl | rfl | rfl | rfl | rfl | rfl | rfl | rfl | rfl | rfl | rfl
  · exact w_c0
  · exact w_c1
  · exact w_c2
  · exact w_c3
  · exact w_c4
  · exact w_c5
  · exact w_c6
  · exact w_c7
  · exact w_c8
  · exact w_c9
  · exact w_c10
  · exact w_c11
  · exact w_c12
  · exact w_c13
  · exact w_c14
  · exact w_c15
  · exact w_c16
  · exact w_c17
  · exact w_c18
  · exact w_c19
  · exact w_c20
  · exact w_c21
  · exact w_c22
  · exact w_c23
  · exact w_c24
  · exact w_c25
  · exact w_c26
  · exact w_c27
  · exact w_c28
  · exact w_c29
  · exact w_c30
  · exact w_c31
  · exact w_c32
  · exact w_c33
set_option maxRecDepth 65536 in
theorem w_t1 : (words1.take 24).all (fun c => isCode c || c.before args0 about1) = true := by decide +kernel
set_option maxRecDepth 65536 in
theorem w_t2 : ((words1.drop 24).take 24).all (fun c => isCode c || c.before args0 about1) = true := by decide +kernel
set_option maxRecDepth 65536 in
theorem w_t3 : (((words1.drop 24).drop 24).take 24).all (fun c => isCode c || c.before args0 about1) = true := by decide +kernel
set_option maxRecDepth 65536 in
theorem w_t4 : ((((words1.drop 24).drop 24).drop 24).take 24).all (fun c => isCode c || c.before args0 about1) = true := by decide +kernel
set_option maxRecDepth 65536 in
theorem w_t5 : (((((words1.drop 24).drop 24).drop 24).drop 24).take 24).all (fun c => isCode c || c.before args0 about1) = true := by decide +kernel
set_option maxRecDepth 65536 in
theorem w_t6 : ((((((words1.drop 24).drop 24).drop 24).drop 24).drop 24).take 24).all (fun c => isCode c || c.before args0 about1) = true := by decide +kernel
set_option maxRecDepth 65536 in
theorem w_t7 : ((((((words1.drop 24).drop 24).drop 24).drop 24).drop 24).drop 24).all (fun c => isCode c || c.before args0 about1) = true := by decide +kernel
theorem w_tables : (allAtoms (Jvm.Cond.code x code maxLocals ret :: tables_1)).before args0 about1 = true := by
  rw [allAtoms_all]
  show words1.all (fun c => c.before args0 about1) = true
  refine all_split ?_ w_codes
  rw [← List.take_append_drop 24 words1, List.all_append, w_t1, ← List.take_append_drop 24 (words1.drop 24), List.all_append, w_t2, ← List.take_append_drop 24 ((words1.drop 24).drop 24), List.all_append, w_t3, ← List.take_append_drop 24 (((words1.drop 24).drop 24).drop 24), List.all_append, w_t4, ← List.take_append_drop 24 ((((words1.drop 24).drop 24).drop 24).drop 24), List.all_append, w_t5, ← List.take_append_drop 24 (((((words1.drop 24).drop 24).drop 24).drop 24).drop 24), List.all_append, w_t6, w_t7]
  rfl
set_option maxRecDepth 65536 in
theorem w_rest : rest_1_c.before args0 about1 = true := by decide +kernel
set_option maxRecDepth 65536 in
theorem w_case : (Jvm.Cond.and given_1 narrow_1).before args0 about1 = true := by decide +kernel
set_option maxRecDepth 65536 in
theorem w_consts : constsHeld consts_1 about1 := Jvm.Lit.constsHeldB_iff.mp (by decide +kernel)
theorem w_applies : (headSpec (Jvm.Cond.code x code maxLocals ret :: tables_1) room_1).applies x e0.platform about1 = true :=
  (Spec.applies_iff w_frames).mpr ⟨w_running, w_runnable, w_alone, w_named, w_hears, w_ripe, w_room, w_tables⟩
theorem atStart : AtStart classFile x code maxLocals ret World_1 tables_1 room_1 Calls_1 rest_1 Pre_1 launch0 p0 e0 about1 theMethod args0 below0 :=
  ⟨lists_1, trivial, launch0.admits_env _ _ _, launch0.least_env, fairChoices_fair.cas, fairChoices_fair.clock, w_frames, w_args, w_heap, w_applies, ⟨w_consts, trivial⟩, w_rest, w_case⟩
end start1
theorem witness_1 : WitnessClaimed_1 := ⟨start1.p0, start1.e0, start1.about1, start1.theMethod, start1.args0, start1.below0, start1.atStart⟩
end Jvm.Pilot.@@N@@
