import JvmDerived
import JvmDerived.Pilot.@@N@@Statement
import JvmDerived.Pilot.@@N@@Code
set_option linter.unusedVariables false
set_option linter.unusedSimpArgs false
namespace Jvm.Own
open Jvm Sem ClassFile Op Lib Jvm.Stand Jvm.Free Jvm.LawKit Jvm.RoadKit
/-- the run from S ends well: it returns with P -/
def Go (p : Program) (e : Env) (below : List Frame) (P : Outcome → State → Prop) (S : State) : Prop := ∃ s₂ o, Steps p.tables e below S s₂ ∧ s₂.status = .running ∧ Ended s₂ below o ∧ P o s₂
section Steps
variable {p : Program} {l : Launch} {e : Env} {R : Room} {s : State} {m : MethodId} {args : Array Value} {below : List Frame} {meth : Method} {c : Code} {T : State} {locs : List Loc} {cells slots : Nat} {P : Outcome → State → Prop} {pc : Nat} {Ls : Array Slot} {st : List Value}
theorem Go.mv {S S' : State} (k : ∀ target, Steps p.tables e below S' target → Steps p.tables e below S target) (g : Go p e below P S') : Go p e below P S := by
  obtain ⟨s2, o, h1, h2⟩ := g
  exact ⟨s2, o, k _ h1, h2⟩
theorem Go.tr {S S' : State} (k : Steps p.tables e below S S') (g : Go p e below P S') : Go p e below P S := Go.mv (fun _ h => k.trans h) g
theorem Go.eq {S : State} {g g' : JFrame} (q : g = g') (k : Go p e below P (S.setTop g')) : Go p e below P (S.setTop g) := q ▸ k
theorem g_iload (X : Stand p l e R s m args below meth c T locs cells slots) (hx : p.tables.exec = Jvm.exec) {k : Nat} {v : Int32} (hd : decode c.code pc = .ok (.iload k, 2)) (hl : Ls[k]? = some (.val (.int v))) (pc' : Nat) (hp : pc + 2 = pc') (K : Go p e below P (T.setTop (mkF m pc' Ls (.int v :: st)))) : Go p e below P (T.setTop (mkF m pc Ls st)) := by
  subst hp; exact Go.mv (fun _ h => XS.iload X.here hx rfl hd hl h) K
theorem g_iloadN (X : Stand p l e R s m args below meth c T locs cells slots) (hx : p.tables.exec = Jvm.exec) {k : Fin 4} {v : Int32} (hd : decode c.code pc = .ok (.iload_n k, 1)) (hl : Ls[k.val]? = some (.val (.int v))) (pc' : Nat) (hp : pc + 1 = pc') (K : Go p e below P (T.setTop (mkF m pc' Ls (.int v :: st)))) : Go p e below P (T.setTop (mkF m pc Ls st)) := by
  subst hp; exact Go.mv (fun _ h => XS.iloadN X.here hx rfl hd hl h) K
theorem g_istore (X : Stand p l e R s m args below meth c T locs cells slots) (hx : p.tables.exec = Jvm.exec) {k : Nat} {v : Int32} (l' : Array Slot) (hd : decode c.code pc = .ok (.istore k, 2)) (hl : storeLocals Ls k (.int v) = some l') (pc' : Nat) (hp : pc + 2 = pc') (K : Go p e below P (T.setTop (mkF m pc' l' st))) : Go p e below P (T.setTop (mkF m pc Ls (.int v :: st))) := by
  subst hp; exact Go.mv (fun _ h => XS.istore X.here hx rfl hd rfl hl h) K
theorem g_istoreN (X : Stand p l e R s m args below meth c T locs cells slots) (hx : p.tables.exec = Jvm.exec) {k : Fin 4} {v : Int32} (l' : Array Slot) (hd : decode c.code pc = .ok (.istore_n k, 1)) (hl : storeLocals Ls k.val (.int v) = some l') (pc' : Nat) (hp : pc + 1 = pc') (K : Go p e below P (T.setTop (mkF m pc' l' st))) : Go p e below P (T.setTop (mkF m pc Ls (.int v :: st))) := by
  subst hp; exact Go.mv (fun _ h => XS.istoreN X.here hx rfl hd rfl hl h) K
theorem g_lload (X : Stand p l e R s m args below meth c T locs cells slots) (hx : p.tables.exec = Jvm.exec) {k : Nat} {v : Int64} (hd : decode c.code pc = .ok (.lload k, 2)) (hl : Ls[k]? = some (.val (.long v))) (pc' : Nat) (hp : pc + 2 = pc') (K : Go p e below P (T.setTop (mkF m pc' Ls (.long v :: st)))) : Go p e below P (T.setTop (mkF m pc Ls st)) := by
  subst hp; exact Go.mv (fun _ h => XS.lload X.here hx rfl hd hl h) K
theorem g_lloadN (X : Stand p l e R s m args below meth c T locs cells slots) (hx : p.tables.exec = Jvm.exec) {k : Fin 4} {v : Int64} (hd : decode c.code pc = .ok (.lload_n k, 1)) (hl : Ls[k.val]? = some (.val (.long v))) (pc' : Nat) (hp : pc + 1 = pc') (K : Go p e below P (T.setTop (mkF m pc' Ls (.long v :: st)))) : Go p e below P (T.setTop (mkF m pc Ls st)) := by
  subst hp; exact Go.mv (fun _ h => XS.lloadN X.here hx rfl hd hl h) K
theorem g_lstore (X : Stand p l e R s m args below meth c T locs cells slots) (hx : p.tables.exec = Jvm.exec) {k : Nat} {v : Int64} (l' : Array Slot) (hd : decode c.code pc = .ok (.lstore k, 2)) (hl : storeLocals Ls k (.long v) = some l') (pc' : Nat) (hp : pc + 2 = pc') (K : Go p e below P (T.setTop (mkF m pc' l' st))) : Go p e below P (T.setTop (mkF m pc Ls (.long v :: st))) := by
  subst hp; exact Go.mv (fun _ h => XS.lstore X.here hx rfl hd rfl hl h) K
theorem g_lstoreN (X : Stand p l e R s m args below meth c T locs cells slots) (hx : p.tables.exec = Jvm.exec) {k : Fin 4} {v : Int64} (l' : Array Slot) (hd : decode c.code pc = .ok (.lstore_n k, 1)) (hl : storeLocals Ls k.val (.long v) = some l') (pc' : Nat) (hp : pc + 1 = pc') (K : Go p e below P (T.setTop (mkF m pc' l' st))) : Go p e below P (T.setTop (mkF m pc Ls (.long v :: st))) := by
  subst hp; exact Go.mv (fun _ h => XS.lstoreN X.here hx rfl hd rfl hl h) K
theorem g_aload (X : Stand p l e R s m args below meth c T locs cells slots) (hx : p.tables.exec = Jvm.exec) {k : Nat} {v : Value} (hd : decode c.code pc = .ok (.aload k, 2)) (hl : Ls[k]? = some (.val v)) (hv : v.isRef = true) (pc' : Nat) (hp : pc + 2 = pc') (K : Go p e below P (T.setTop (mkF m pc' Ls (v :: st)))) : Go p e below P (T.setTop (mkF m pc Ls st)) := by
  subst hp; exact Go.mv (fun _ h => XS.aload X.here hx rfl hd hl hv h) K
theorem g_aloadN (X : Stand p l e R s m args below meth c T locs cells slots) (hx : p.tables.exec = Jvm.exec) {k : Fin 4} {v : Value} (hd : decode c.code pc = .ok (.aload_n k, 1)) (hl : Ls[k.val]? = some (.val v)) (hv : v.isRef = true) (pc' : Nat) (hp : pc + 1 = pc') (K : Go p e below P (T.setTop (mkF m pc' Ls (v :: st)))) : Go p e below P (T.setTop (mkF m pc Ls st)) := by
  subst hp; exact Go.mv (fun _ h => XS.aloadN X.here hx rfl hd hl hv h) K
theorem g_astore (X : Stand p l e R s m args below meth c T locs cells slots) (hx : p.tables.exec = Jvm.exec) {k : Nat} {v : Value} (l' : Array Slot) (hd : decode c.code pc = .ok (.astore k, 2)) (hv : v.isRef = true) (hl : storeLocals Ls k v = some l') (pc' : Nat) (hp : pc + 2 = pc') (K : Go p e below P (T.setTop (mkF m pc' l' st))) : Go p e below P (T.setTop (mkF m pc Ls (v :: st))) := by
  subst hp; exact Go.mv (fun _ h => XS.astore X.here hx rfl hd rfl hv hl h) K
theorem g_astoreN (X : Stand p l e R s m args below meth c T locs cells slots) (hx : p.tables.exec = Jvm.exec) {k : Fin 4} {v : Value} (l' : Array Slot) (hd : decode c.code pc = .ok (.astore_n k, 1)) (hv : v.isRef = true) (hl : storeLocals Ls k.val v = some l') (pc' : Nat) (hp : pc + 1 = pc') (K : Go p e below P (T.setTop (mkF m pc' l' st))) : Go p e below P (T.setTop (mkF m pc Ls (v :: st))) := by
  subst hp; exact Go.mv (fun _ h => XS.astoreN X.here hx rfl hd rfl hv hl h) K
theorem g_iconst (X : Stand p l e R s m args below meth c T locs cells slots) (hx : p.tables.exec = Jvm.exec) {i : Int} (v : Int32) (hd : decode c.code pc = .ok (.iconst i, 1)) (hv : Int32.ofInt i = v) (pc' : Nat) (hp : pc + 1 = pc') (K : Go p e below P (T.setTop (mkF m pc' Ls (.int v :: st)))) : Go p e below P (T.setTop (mkF m pc Ls st)) := by
  subst hp hv; exact Go.mv (fun _ h => XS.iconst X.here hx rfl hd h) K
theorem g_bipush (X : Stand p l e R s m args below meth c T locs cells slots) (hx : p.tables.exec = Jvm.exec) {i : Int} (v : Int32) (hd : decode c.code pc = .ok (.bipush i, 2)) (hv : (Int8.ofInt i).toInt32 = v) (pc' : Nat) (hp : pc + 2 = pc') (K : Go p e below P (T.setTop (mkF m pc' Ls (.int v :: st)))) : Go p e below P (T.setTop (mkF m pc Ls st)) := by
  subst hp hv; exact Go.mv (fun _ h => XS.bipush X.here hx rfl hd h) K
theorem g_sipush (X : Stand p l e R s m args below meth c T locs cells slots) (hx : p.tables.exec = Jvm.exec) {i : Int} (v : Int32) (hd : decode c.code pc = .ok (.sipush i, 3)) (hv : (Int16.ofInt i).toInt32 = v) (pc' : Nat) (hp : pc + 3 = pc') (K : Go p e below P (T.setTop (mkF m pc' Ls (.int v :: st)))) : Go p e below P (T.setTop (mkF m pc Ls st)) := by
  subst hp hv; exact Go.mv (fun _ h => XS.sipush X.here hx rfl hd h) K
theorem g_lconst (X : Stand p l e R s m args below meth c T locs cells slots) (hx : p.tables.exec = Jvm.exec) {k : Fin 2} (v : Int64) (hd : decode c.code pc = .ok (.lconst k, 1)) (hv : Int64.ofNat k = v) (pc' : Nat) (hp : pc + 1 = pc') (K : Go p e below P (T.setTop (mkF m pc' Ls (.long v :: st)))) : Go p e below P (T.setTop (mkF m pc Ls st)) := by
  subst hp hv; exact Go.mv (fun _ h => XS.lconst X.here hx rfl hd h) K
theorem g_aconstNull (X : Stand p l e R s m args below meth c T locs cells slots) (hx : p.tables.exec = Jvm.exec)  (hd : decode c.code pc = .ok (.aconst_null, 1))  (pc' : Nat) (hp : pc + 1 = pc') (K : Go p e below P (T.setTop (mkF m pc' Ls (.null :: st)))) : Go p e below P (T.setTop (mkF m pc Ls st)) := by
  subst hp; exact Go.mv (fun _ h => XS.aconstNull X.here hx rfl hd  h) K
theorem g_iadd (X : Stand p l e R s m args below meth c T locs cells slots) (hx : p.tables.exec = Jvm.exec) {x y : Int32} (hd : decode c.code pc = .ok (.iadd, 1))  (pc' : Nat) (hp : pc + 1 = pc') (K : Go p e below P (T.setTop (mkF m pc' Ls (.int (x + y) :: st)))) : Go p e below P (T.setTop (mkF m pc Ls (.int y :: .int x :: st))) := by
  subst hp; exact Go.mv (fun _ h => XS.iadd X.here hx rfl hd rfl h) K
theorem g_ladd (X : Stand p l e R s m args below meth c T locs cells slots) (hx : p.tables.exec = Jvm.exec) {x y : Int64} (hd : decode c.code pc = .ok (.ladd, 1))  (pc' : Nat) (hp : pc + 1 = pc') (K : Go p e below P (T.setTop (mkF m pc' Ls (.long (x + y) :: st)))) : Go p e below P (T.setTop (mkF m pc Ls (.long y :: .long x :: st))) := by
  subst hp; exact Go.mv (fun _ h => XS.ladd X.here hx rfl hd rfl h) K
theorem g_isub (X : Stand p l e R s m args below meth c T locs cells slots) (hx : p.tables.exec = Jvm.exec) {x y : Int32} (hd : decode c.code pc = .ok (.isub, 1))  (pc' : Nat) (hp : pc + 1 = pc') (K : Go p e below P (T.setTop (mkF m pc' Ls (.int (x - y) :: st)))) : Go p e below P (T.setTop (mkF m pc Ls (.int y :: .int x :: st))) := by
  subst hp; exact Go.mv (fun _ h => XS.isub X.here hx rfl hd rfl h) K
theorem g_lsub (X : Stand p l e R s m args below meth c T locs cells slots) (hx : p.tables.exec = Jvm.exec) {x y : Int64} (hd : decode c.code pc = .ok (.lsub, 1))  (pc' : Nat) (hp : pc + 1 = pc') (K : Go p e below P (T.setTop (mkF m pc' Ls (.long (x - y) :: st)))) : Go p e below P (T.setTop (mkF m pc Ls (.long y :: .long x :: st))) := by
  subst hp; exact Go.mv (fun _ h => XS.lsub X.here hx rfl hd rfl h) K
theorem g_imul (X : Stand p l e R s m args below meth c T locs cells slots) (hx : p.tables.exec = Jvm.exec) {x y : Int32} (hd : decode c.code pc = .ok (.imul, 1))  (pc' : Nat) (hp : pc + 1 = pc') (K : Go p e below P (T.setTop (mkF m pc' Ls (.int (x * y) :: st)))) : Go p e below P (T.setTop (mkF m pc Ls (.int y :: .int x :: st))) := by
  subst hp; exact Go.mv (fun _ h => XS.imul X.here hx rfl hd rfl h) K
theorem g_lmul (X : Stand p l e R s m args below meth c T locs cells slots) (hx : p.tables.exec = Jvm.exec) {x y : Int64} (hd : decode c.code pc = .ok (.lmul, 1))  (pc' : Nat) (hp : pc + 1 = pc') (K : Go p e below P (T.setTop (mkF m pc' Ls (.long (x * y) :: st)))) : Go p e below P (T.setTop (mkF m pc Ls (.long y :: .long x :: st))) := by
  subst hp; exact Go.mv (fun _ h => XS.lmul X.here hx rfl hd rfl h) K
theorem g_iand (X : Stand p l e R s m args below meth c T locs cells slots) (hx : p.tables.exec = Jvm.exec) {x y : Int32} (hd : decode c.code pc = .ok (.iand, 1))  (pc' : Nat) (hp : pc + 1 = pc') (K : Go p e below P (T.setTop (mkF m pc' Ls (.int (x &&& y) :: st)))) : Go p e below P (T.setTop (mkF m pc Ls (.int y :: .int x :: st))) := by
  subst hp; exact Go.mv (fun _ h => XS.iand X.here hx rfl hd rfl h) K
theorem g_land (X : Stand p l e R s m args below meth c T locs cells slots) (hx : p.tables.exec = Jvm.exec) {x y : Int64} (hd : decode c.code pc = .ok (.land, 1))  (pc' : Nat) (hp : pc + 1 = pc') (K : Go p e below P (T.setTop (mkF m pc' Ls (.long (x &&& y) :: st)))) : Go p e below P (T.setTop (mkF m pc Ls (.long y :: .long x :: st))) := by
  subst hp; exact Go.mv (fun _ h => XS.land X.here hx rfl hd rfl h) K
theorem g_ior (X : Stand p l e R s m args below meth c T locs cells slots) (hx : p.tables.exec = Jvm.exec) {x y : Int32} (hd : decode c.code pc = .ok (.ior, 1))  (pc' : Nat) (hp : pc + 1 = pc') (K : Go p e below P (T.setTop (mkF m pc' Ls (.int (x ||| y) :: st)))) : Go p e below P (T.setTop (mkF m pc Ls (.int y :: .int x :: st))) := by
  subst hp; exact Go.mv (fun _ h => XS.ior X.here hx rfl hd rfl h) K
theorem g_lor (X : Stand p l e R s m args below meth c T locs cells slots) (hx : p.tables.exec = Jvm.exec) {x y : Int64} (hd : decode c.code pc = .ok (.lor, 1))  (pc' : Nat) (hp : pc + 1 = pc') (K : Go p e below P (T.setTop (mkF m pc' Ls (.long (x ||| y) :: st)))) : Go p e below P (T.setTop (mkF m pc Ls (.long y :: .long x :: st))) := by
  subst hp; exact Go.mv (fun _ h => XS.lor X.here hx rfl hd rfl h) K
theorem g_ixor (X : Stand p l e R s m args below meth c T locs cells slots) (hx : p.tables.exec = Jvm.exec) {x y : Int32} (hd : decode c.code pc = .ok (.ixor, 1))  (pc' : Nat) (hp : pc + 1 = pc') (K : Go p e below P (T.setTop (mkF m pc' Ls (.int (x ^^^ y) :: st)))) : Go p e below P (T.setTop (mkF m pc Ls (.int y :: .int x :: st))) := by
  subst hp; exact Go.mv (fun _ h => XS.ixor X.here hx rfl hd rfl h) K
theorem g_lxor (X : Stand p l e R s m args below meth c T locs cells slots) (hx : p.tables.exec = Jvm.exec) {x y : Int64} (hd : decode c.code pc = .ok (.lxor, 1))  (pc' : Nat) (hp : pc + 1 = pc') (K : Go p e below P (T.setTop (mkF m pc' Ls (.long (x ^^^ y) :: st)))) : Go p e below P (T.setTop (mkF m pc Ls (.long y :: .long x :: st))) := by
  subst hp; exact Go.mv (fun _ h => XS.lxor X.here hx rfl hd rfl h) K
theorem g_ishl (X : Stand p l e R s m args below meth c T locs cells slots) (hx : p.tables.exec = Jvm.exec) {x y : Int32} (hd : decode c.code pc = .ok (.ishl, 1))  (pc' : Nat) (hp : pc + 1 = pc') (K : Go p e below P (T.setTop (mkF m pc' Ls (.int (x <<< (y &&& 31)) :: st)))) : Go p e below P (T.setTop (mkF m pc Ls (.int y :: .int x :: st))) := by
  subst hp; exact Go.mv (fun _ h => XS.ishl X.here hx rfl hd rfl h) K
theorem g_ishr (X : Stand p l e R s m args below meth c T locs cells slots) (hx : p.tables.exec = Jvm.exec) {x y : Int32} (hd : decode c.code pc = .ok (.ishr, 1))  (pc' : Nat) (hp : pc + 1 = pc') (K : Go p e below P (T.setTop (mkF m pc' Ls (.int (x >>> (y &&& 31)) :: st)))) : Go p e below P (T.setTop (mkF m pc Ls (.int y :: .int x :: st))) := by
  subst hp; exact Go.mv (fun _ h => XS.ishr X.here hx rfl hd rfl h) K
theorem g_iushr (X : Stand p l e R s m args below meth c T locs cells slots) (hx : p.tables.exec = Jvm.exec) {x y : Int32} (hd : decode c.code pc = .ok (.iushr, 1))  (pc' : Nat) (hp : pc + 1 = pc') (K : Go p e below P (T.setTop (mkF m pc' Ls (.int ((x.toUInt32 >>> (y &&& 31).toUInt32).toInt32) :: st)))) : Go p e below P (T.setTop (mkF m pc Ls (.int y :: .int x :: st))) := by
  subst hp; exact Go.mv (fun _ h => XS.iushr X.here hx rfl hd rfl h) K
theorem g_lshl (X : Stand p l e R s m args below meth c T locs cells slots) (hx : p.tables.exec = Jvm.exec) {x : Int64} {y : Int32} (hd : decode c.code pc = .ok (.lshl, 1))  (pc' : Nat) (hp : pc + 1 = pc') (K : Go p e below P (T.setTop (mkF m pc' Ls (.long (x <<< (y &&& 0x3f).toInt64) :: st)))) : Go p e below P (T.setTop (mkF m pc Ls (.int y :: .long x :: st))) := by
  subst hp; exact Go.mv (fun _ h => XS.lshl X.here hx rfl hd rfl h) K
theorem g_lushr (X : Stand p l e R s m args below meth c T locs cells slots) (hx : p.tables.exec = Jvm.exec) {x : Int64} {y : Int32} (hd : decode c.code pc = .ok (.lushr, 1))  (pc' : Nat) (hp : pc + 1 = pc') (K : Go p e below P (T.setTop (mkF m pc' Ls (.long ((x.toUInt64 >>> (y &&& 0x3f).toInt64.toUInt64).toInt64) :: st)))) : Go p e below P (T.setTop (mkF m pc Ls (.int y :: .long x :: st))) := by
  subst hp; exact Go.mv (fun _ h => XS.lushr X.here hx rfl hd rfl h) K
theorem g_ineg (X : Stand p l e R s m args below meth c T locs cells slots) (hx : p.tables.exec = Jvm.exec) {x : Int32} (hd : decode c.code pc = .ok (.ineg, 1))  (pc' : Nat) (hp : pc + 1 = pc') (K : Go p e below P (T.setTop (mkF m pc' Ls (.int (-x) :: st)))) : Go p e below P (T.setTop (mkF m pc Ls (.int x :: st))) := by
  subst hp; exact Go.mv (fun _ h => XS.ineg X.here hx rfl hd rfl h) K
theorem g_lneg (X : Stand p l e R s m args below meth c T locs cells slots) (hx : p.tables.exec = Jvm.exec) {x : Int64} (hd : decode c.code pc = .ok (.lneg, 1))  (pc' : Nat) (hp : pc + 1 = pc') (K : Go p e below P (T.setTop (mkF m pc' Ls (.long (-x) :: st)))) : Go p e below P (T.setTop (mkF m pc Ls (.long x :: st))) := by
  subst hp; exact Go.mv (fun _ h => XS.lneg X.here hx rfl hd rfl h) K
theorem g_i2l (X : Stand p l e R s m args below meth c T locs cells slots) (hx : p.tables.exec = Jvm.exec) {x : Int32} (hd : decode c.code pc = .ok (.i2l, 1))  (pc' : Nat) (hp : pc + 1 = pc') (K : Go p e below P (T.setTop (mkF m pc' Ls (.long (x.toInt64) :: st)))) : Go p e below P (T.setTop (mkF m pc Ls (.int x :: st))) := by
  subst hp; exact Go.mv (fun _ h => XS.i2l X.here hx rfl hd rfl h) K
theorem g_l2i (X : Stand p l e R s m args below meth c T locs cells slots) (hx : p.tables.exec = Jvm.exec) {x : Int64} (hd : decode c.code pc = .ok (.l2i, 1))  (pc' : Nat) (hp : pc + 1 = pc') (K : Go p e below P (T.setTop (mkF m pc' Ls (.int (x.toInt32) :: st)))) : Go p e below P (T.setTop (mkF m pc Ls (.long x :: st))) := by
  subst hp; exact Go.mv (fun _ h => XS.l2i X.here hx rfl hd rfl h) K
theorem g_i2b (X : Stand p l e R s m args below meth c T locs cells slots) (hx : p.tables.exec = Jvm.exec) {x : Int32} (hd : decode c.code pc = .ok (.i2b, 1))  (pc' : Nat) (hp : pc + 1 = pc') (K : Go p e below P (T.setTop (mkF m pc' Ls (.int (x.toInt8.toInt32) :: st)))) : Go p e below P (T.setTop (mkF m pc Ls (.int x :: st))) := by
  subst hp; exact Go.mv (fun _ h => XS.i2b X.here hx rfl hd rfl h) K
theorem g_i2s (X : Stand p l e R s m args below meth c T locs cells slots) (hx : p.tables.exec = Jvm.exec) {x : Int32} (hd : decode c.code pc = .ok (.i2s, 1))  (pc' : Nat) (hp : pc + 1 = pc') (K : Go p e below P (T.setTop (mkF m pc' Ls (.int (x.toInt16.toInt32) :: st)))) : Go p e below P (T.setTop (mkF m pc Ls (.int x :: st))) := by
  subst hp; exact Go.mv (fun _ h => XS.i2s X.here hx rfl hd rfl h) K
theorem g_i2c (X : Stand p l e R s m args below meth c T locs cells slots) (hx : p.tables.exec = Jvm.exec) {x : Int32} (hd : decode c.code pc = .ok (.i2c, 1))  (pc' : Nat) (hp : pc + 1 = pc') (K : Go p e below P (T.setTop (mkF m pc' Ls (.int (x.toUInt32.toUInt16.toUInt32.toInt32) :: st)))) : Go p e below P (T.setTop (mkF m pc Ls (.int x :: st))) := by
  subst hp; exact Go.mv (fun _ h => XS.i2c X.here hx rfl hd rfl h) K
theorem g_lcmp (X : Stand p l e R s m args below meth c T locs cells slots) (hx : p.tables.exec = Jvm.exec) {x y : Int64} (hd : decode c.code pc = .ok (.lcmp, 1))  (pc' : Nat) (hp : pc + 1 = pc') (K : Go p e below P (T.setTop (mkF m pc' Ls (.int (lcmpW x y) :: st)))) : Go p e below P (T.setTop (mkF m pc Ls (.long y :: .long x :: st))) := by
  subst hp; exact Go.mv (fun _ h => XS.lcmp X.here hx rfl hd rfl h) K
theorem g_idiv (X : Stand p l e R s m args below meth c T locs cells slots) (hx : p.tables.exec = Jvm.exec) {x y : Int32} (hd : decode c.code pc = .ok (.idiv, 1)) (hy : y ≠ 0) (pc' : Nat) (hp : pc + 1 = pc') (K : Go p e below P (T.setTop (mkF m pc' Ls (.int (x / y) :: st)))) : Go p e below P (T.setTop (mkF m pc Ls (.int y :: .int x :: st))) := by
  subst hp; exact Go.mv (fun _ h => XS.idiv X.here hx rfl hd rfl hy h) K
theorem g_ldiv (X : Stand p l e R s m args below meth c T locs cells slots) (hx : p.tables.exec = Jvm.exec) {x y : Int64} (hd : decode c.code pc = .ok (.ldiv, 1)) (hy : y ≠ 0) (pc' : Nat) (hp : pc + 1 = pc') (K : Go p e below P (T.setTop (mkF m pc' Ls (.long (x / y) :: st)))) : Go p e below P (T.setTop (mkF m pc Ls (.long y :: .long x :: st))) := by
  subst hp; exact Go.mv (fun _ h => XS.ldiv X.here hx rfl hd rfl hy h) K
theorem g_irem (X : Stand p l e R s m args below meth c T locs cells slots) (hx : p.tables.exec = Jvm.exec) {x y : Int32} (hd : decode c.code pc = .ok (.irem, 1)) (hy : y ≠ 0) (pc' : Nat) (hp : pc + 1 = pc') (K : Go p e below P (T.setTop (mkF m pc' Ls (.int (x % y) :: st)))) : Go p e below P (T.setTop (mkF m pc Ls (.int y :: .int x :: st))) := by
  subst hp; exact Go.mv (fun _ h => iremM X hx rfl hd rfl hy h) K
theorem lrem_eq_mod (x y : Int64) : x - (x / y) * y = x % y := by
  apply Int64.toInt_inj.mp
  have h1 := Int64.le_toInt (x % y)
  have h2 := Int64.toInt_lt (x % y)
  rw [Int64.toInt_sub, Int64.toInt_mul, Int64.toInt_div, Int.bmod_mul_bmod, Int.sub_bmod_bmod, Int.mul_comm (x.toInt.tdiv y.toInt), ← Int.tmod_def, ← Int64.toInt_mod]
  exact Int.bmod_eq_of_le_mul_two (by omega) (by omega)
theorem g_lrem (X : Stand p l e R s m args below meth c T locs cells slots) (hx : p.tables.exec = Jvm.exec) {x y : Int64} (hd : decode c.code pc = .ok (.lrem, 1)) (hy : y ≠ 0) (pc' : Nat) (hp : pc + 1 = pc') (K : Go p e below P (T.setTop (mkF m pc' Ls (.long (x % y) :: st)))) : Go p e below P (T.setTop (mkF m pc Ls (.long y :: .long x :: st))) := by
  subst hp; rw [← lrem_eq_mod] at K; exact Go.mv (fun _ h => XS.lrem X.here hx rfl hd rfl hy h) K
theorem g_dup (X : Stand p l e R s m args below meth c T locs cells slots) (hx : p.tables.exec = Jvm.exec) {x : Value} (hd : decode c.code pc = .ok (.dup, 1)) (hc : x.category = 1) (pc' : Nat) (hp : pc + 1 = pc') (K : Go p e below P (T.setTop (mkF m pc' Ls (x :: x :: st)))) : Go p e below P (T.setTop (mkF m pc Ls (x :: st))) := by
  subst hp; exact Go.mv (fun _ h => XS.dup X.here hx rfl hd rfl hc h) K
theorem g_pop (X : Stand p l e R s m args below meth c T locs cells slots) (hx : p.tables.exec = Jvm.exec) {x : Value} (hd : decode c.code pc = .ok (.pop, 1)) (hc : x.category = 1) (pc' : Nat) (hp : pc + 1 = pc') (K : Go p e below P (T.setTop (mkF m pc' Ls st))) : Go p e below P (T.setTop (mkF m pc Ls (x :: st))) := by
  subst hp; exact Go.mv (fun _ h => XS.pop X.here hx rfl hd rfl hc h) K
theorem g_dupX1 (X : Stand p l e R s m args below meth c T locs cells slots) (hx : p.tables.exec = Jvm.exec) {x y : Value} (hd : decode c.code pc = .ok (.dup_x1, 1)) (hc : x.category = 1) (hc2 : y.category = 1) (pc' : Nat) (hp : pc + 1 = pc') (K : Go p e below P (T.setTop (mkF m pc' Ls (x :: y :: x :: st)))) : Go p e below P (T.setTop (mkF m pc Ls (x :: y :: st))) := by
  subst hp; exact Go.mv (fun _ h => XS.dupX1 X.here hx rfl hd rfl hc hc2 h) K
theorem g_iinc (X : Stand p l e R s m args below meth c T locs cells slots) (hx : p.tables.exec = Jvm.exec) {k : Nat} {cst : Int} {x : Int32} (l' : Array Slot) (hd : decode c.code pc = .ok (.iinc k cst, 3)) (hl : Ls[k]? = some (.val (.int x))) (hl' : storeLocals Ls k (.int (x + Int32.ofInt cst)) = some l') (pc' : Nat) (hp : pc + 3 = pc') (K : Go p e below P (T.setTop (mkF m pc' l' st))) : Go p e below P (T.setTop (mkF m pc Ls st)) := by
  subst hp; exact Go.mv (fun _ h => XS.iinc X.here hx rfl hd hl hl' h) K
theorem g_goto (X : Stand p l e R s m args below meth c T locs cells slots) (hx : p.tables.exec = Jvm.exec) {o : Int} (hd : decode c.code pc = .ok (.goto o, 3)) (pc' : Nat) (hp : ((pc : Int) + o).toNat = pc' ∧ 0 ≤ (pc : Int) + o) (K : Go p e below P (T.setTop (mkF m pc' Ls st))) : Go p e below P (T.setTop (mkF m pc Ls st)) :=
  Go.mv (fun _ h => XS.goto X.here hx rfl (pc0 := pc) (pc' := pc') rfl hd hp.2 hp.1 h) K
theorem g_icmp_lt_t (X : Stand p l e R s m args below meth c T locs cells slots) (hx : p.tables.exec = Jvm.exec) {x y : Int32} {o : Int} (hd : decode c.code pc = .ok (.if_icmp .lt o, 3)) (h : x < y) (pc' : Nat) (hp : ((pc : Int) + o).toNat = pc' ∧ 0 ≤ (pc : Int) + o) (K : Go p e below P (T.setTop (mkF m pc' Ls st))) : Go p e below P (T.setTop (mkF m pc Ls (.int y :: .int x :: st))) :=
  Go.mv (fun _ q => XS.icmpYes X.here hx rfl (pc0 := pc) (pc' := pc') rfl hd rfl (tlt h).1 hp.2 hp.1 q) K
theorem g_icmp_lt_f (X : Stand p l e R s m args below meth c T locs cells slots) (hx : p.tables.exec = Jvm.exec) {x y : Int32} {o : Int} (hd : decode c.code pc = .ok (.if_icmp .lt o, 3)) (h : ¬ x < y) (pc' : Nat) (hp : pc + 3 = pc') (K : Go p e below P (T.setTop (mkF m pc' Ls st))) : Go p e below P (T.setTop (mkF m pc Ls (.int y :: .int x :: st))) := by
  subst hp; exact Go.mv (fun _ q => XS.icmpNo X.here hx rfl hd rfl (flt h).1 q) K
theorem g_icmp_lt (X : Stand p l e R s m args below meth c T locs cells slots) (hx : p.tables.exec = Jvm.exec) {x y : Int32} {o : Int} (hd : decode c.code pc = .ok (.if_icmp .lt o, 3)) (pcT pcF : Nat) (hT : ((pc : Int) + o).toNat = pcT ∧ 0 ≤ (pc : Int) + o) (hF : pc + 3 = pcF) (KT : (x < y) → Go p e below P (T.setTop (mkF m pcT Ls st))) (KF : (¬ x < y) → Go p e below P (T.setTop (mkF m pcF Ls st))) : Go p e below P (T.setTop (mkF m pc Ls (.int y :: .int x :: st))) := by
  by_cases h : x < y
  · exact g_icmp_lt_t X hx hd h _ hT (KT h)
  · exact g_icmp_lt_f X hx hd h _ hF (KF h)
theorem g_if_lt_t (X : Stand p l e R s m args below meth c T locs cells slots) (hx : p.tables.exec = Jvm.exec) {x : Int32} {o : Int} (hd : decode c.code pc = .ok (.ifCond .lt o, 3)) (h : x < 0) (pc' : Nat) (hp : ((pc : Int) + o).toNat = pc' ∧ 0 ≤ (pc : Int) + o) (K : Go p e below P (T.setTop (mkF m pc' Ls st))) : Go p e below P (T.setTop (mkF m pc Ls (.int x :: st))) :=
  Go.mv (fun _ q => XS.ifYes X.here hx rfl (pc0 := pc) (pc' := pc') rfl hd rfl ((if0 _ _).trans (tlt h).1) hp.2 hp.1 q) K
theorem g_if_lt_f (X : Stand p l e R s m args below meth c T locs cells slots) (hx : p.tables.exec = Jvm.exec) {x : Int32} {o : Int} (hd : decode c.code pc = .ok (.ifCond .lt o, 3)) (h : ¬ x < 0) (pc' : Nat) (hp : pc + 3 = pc') (K : Go p e below P (T.setTop (mkF m pc' Ls st))) : Go p e below P (T.setTop (mkF m pc Ls (.int x :: st))) := by
  subst hp; exact Go.mv (fun _ q => XS.ifNo X.here hx rfl hd rfl ((if0 _ _).trans (flt h).1) q) K
theorem g_if_lt (X : Stand p l e R s m args below meth c T locs cells slots) (hx : p.tables.exec = Jvm.exec) {x : Int32} {o : Int} (hd : decode c.code pc = .ok (.ifCond .lt o, 3)) (pcT pcF : Nat) (hT : ((pc : Int) + o).toNat = pcT ∧ 0 ≤ (pc : Int) + o) (hF : pc + 3 = pcF) (KT : (x < 0) → Go p e below P (T.setTop (mkF m pcT Ls st))) (KF : (¬ x < 0) → Go p e below P (T.setTop (mkF m pcF Ls st))) : Go p e below P (T.setTop (mkF m pc Ls (.int x :: st))) := by
  by_cases h : x < 0
  · exact g_if_lt_t X hx hd h _ hT (KT h)
  · exact g_if_lt_f X hx hd h _ hF (KF h)
theorem g_icmp_ge_t (X : Stand p l e R s m args below meth c T locs cells slots) (hx : p.tables.exec = Jvm.exec) {x y : Int32} {o : Int} (hd : decode c.code pc = .ok (.if_icmp .ge o, 3)) (h : ¬ x < y) (pc' : Nat) (hp : ((pc : Int) + o).toNat = pc' ∧ 0 ≤ (pc : Int) + o) (K : Go p e below P (T.setTop (mkF m pc' Ls st))) : Go p e below P (T.setTop (mkF m pc Ls (.int y :: .int x :: st))) :=
  Go.mv (fun _ q => XS.icmpYes X.here hx rfl (pc0 := pc) (pc' := pc') rfl hd rfl (flt h).2.1 hp.2 hp.1 q) K
theorem g_icmp_ge_f (X : Stand p l e R s m args below meth c T locs cells slots) (hx : p.tables.exec = Jvm.exec) {x y : Int32} {o : Int} (hd : decode c.code pc = .ok (.if_icmp .ge o, 3)) (h : x < y) (pc' : Nat) (hp : pc + 3 = pc') (K : Go p e below P (T.setTop (mkF m pc' Ls st))) : Go p e below P (T.setTop (mkF m pc Ls (.int y :: .int x :: st))) := by
  subst hp; exact Go.mv (fun _ q => XS.icmpNo X.here hx rfl hd rfl (tlt h).2.1 q) K
theorem g_icmp_ge (X : Stand p l e R s m args below meth c T locs cells slots) (hx : p.tables.exec = Jvm.exec) {x y : Int32} {o : Int} (hd : decode c.code pc = .ok (.if_icmp .ge o, 3)) (pcT pcF : Nat) (hT : ((pc : Int) + o).toNat = pcT ∧ 0 ≤ (pc : Int) + o) (hF : pc + 3 = pcF) (KT : (¬ x < y) → Go p e below P (T.setTop (mkF m pcT Ls st))) (KF : (x < y) → Go p e below P (T.setTop (mkF m pcF Ls st))) : Go p e below P (T.setTop (mkF m pc Ls (.int y :: .int x :: st))) := by
  by_cases h : x < y
  · exact g_icmp_ge_f X hx hd h _ hF (KF h)
  · exact g_icmp_ge_t X hx hd h _ hT (KT h)
theorem g_if_ge_t (X : Stand p l e R s m args below meth c T locs cells slots) (hx : p.tables.exec = Jvm.exec) {x : Int32} {o : Int} (hd : decode c.code pc = .ok (.ifCond .ge o, 3)) (h : ¬ x < 0) (pc' : Nat) (hp : ((pc : Int) + o).toNat = pc' ∧ 0 ≤ (pc : Int) + o) (K : Go p e below P (T.setTop (mkF m pc' Ls st))) : Go p e below P (T.setTop (mkF m pc Ls (.int x :: st))) :=
  Go.mv (fun _ q => XS.ifYes X.here hx rfl (pc0 := pc) (pc' := pc') rfl hd rfl ((if0 _ _).trans (flt h).2.1) hp.2 hp.1 q) K
theorem g_if_ge_f (X : Stand p l e R s m args below meth c T locs cells slots) (hx : p.tables.exec = Jvm.exec) {x : Int32} {o : Int} (hd : decode c.code pc = .ok (.ifCond .ge o, 3)) (h : x < 0) (pc' : Nat) (hp : pc + 3 = pc') (K : Go p e below P (T.setTop (mkF m pc' Ls st))) : Go p e below P (T.setTop (mkF m pc Ls (.int x :: st))) := by
  subst hp; exact Go.mv (fun _ q => XS.ifNo X.here hx rfl hd rfl ((if0 _ _).trans (tlt h).2.1) q) K
theorem g_if_ge (X : Stand p l e R s m args below meth c T locs cells slots) (hx : p.tables.exec = Jvm.exec) {x : Int32} {o : Int} (hd : decode c.code pc = .ok (.ifCond .ge o, 3)) (pcT pcF : Nat) (hT : ((pc : Int) + o).toNat = pcT ∧ 0 ≤ (pc : Int) + o) (hF : pc + 3 = pcF) (KT : (¬ x < 0) → Go p e below P (T.setTop (mkF m pcT Ls st))) (KF : (x < 0) → Go p e below P (T.setTop (mkF m pcF Ls st))) : Go p e below P (T.setTop (mkF m pc Ls (.int x :: st))) := by
  by_cases h : x < 0
  · exact g_if_ge_f X hx hd h _ hF (KF h)
  · exact g_if_ge_t X hx hd h _ hT (KT h)
theorem g_icmp_gt_t (X : Stand p l e R s m args below meth c T locs cells slots) (hx : p.tables.exec = Jvm.exec) {x y : Int32} {o : Int} (hd : decode c.code pc = .ok (.if_icmp .gt o, 3)) (h : y < x) (pc' : Nat) (hp : ((pc : Int) + o).toNat = pc' ∧ 0 ≤ (pc : Int) + o) (K : Go p e below P (T.setTop (mkF m pc' Ls st))) : Go p e below P (T.setTop (mkF m pc Ls (.int y :: .int x :: st))) :=
  Go.mv (fun _ q => XS.icmpYes X.here hx rfl (pc0 := pc) (pc' := pc') rfl hd rfl (tlt h).2.2.1 hp.2 hp.1 q) K
theorem g_icmp_gt_f (X : Stand p l e R s m args below meth c T locs cells slots) (hx : p.tables.exec = Jvm.exec) {x y : Int32} {o : Int} (hd : decode c.code pc = .ok (.if_icmp .gt o, 3)) (h : ¬ y < x) (pc' : Nat) (hp : pc + 3 = pc') (K : Go p e below P (T.setTop (mkF m pc' Ls st))) : Go p e below P (T.setTop (mkF m pc Ls (.int y :: .int x :: st))) := by
  subst hp; exact Go.mv (fun _ q => XS.icmpNo X.here hx rfl hd rfl (flt h).2.2.1 q) K
theorem g_icmp_gt (X : Stand p l e R s m args below meth c T locs cells slots) (hx : p.tables.exec = Jvm.exec) {x y : Int32} {o : Int} (hd : decode c.code pc = .ok (.if_icmp .gt o, 3)) (pcT pcF : Nat) (hT : ((pc : Int) + o).toNat = pcT ∧ 0 ≤ (pc : Int) + o) (hF : pc + 3 = pcF) (KT : (y < x) → Go p e below P (T.setTop (mkF m pcT Ls st))) (KF : (¬ y < x) → Go p e below P (T.setTop (mkF m pcF Ls st))) : Go p e below P (T.setTop (mkF m pc Ls (.int y :: .int x :: st))) := by
  by_cases h : y < x
  · exact g_icmp_gt_t X hx hd h _ hT (KT h)
  · exact g_icmp_gt_f X hx hd h _ hF (KF h)
theorem g_if_gt_t (X : Stand p l e R s m args below meth c T locs cells slots) (hx : p.tables.exec = Jvm.exec) {x : Int32} {o : Int} (hd : decode c.code pc = .ok (.ifCond .gt o, 3)) (h : 0 < x) (pc' : Nat) (hp : ((pc : Int) + o).toNat = pc' ∧ 0 ≤ (pc : Int) + o) (K : Go p e below P (T.setTop (mkF m pc' Ls st))) : Go p e below P (T.setTop (mkF m pc Ls (.int x :: st))) :=
  Go.mv (fun _ q => XS.ifYes X.here hx rfl (pc0 := pc) (pc' := pc') rfl hd rfl ((if0 _ _).trans (tlt h).2.2.1) hp.2 hp.1 q) K
theorem g_if_gt_f (X : Stand p l e R s m args below meth c T locs cells slots) (hx : p.tables.exec = Jvm.exec) {x : Int32} {o : Int} (hd : decode c.code pc = .ok (.ifCond .gt o, 3)) (h : ¬ 0 < x) (pc' : Nat) (hp : pc + 3 = pc') (K : Go p e below P (T.setTop (mkF m pc' Ls st))) : Go p e below P (T.setTop (mkF m pc Ls (.int x :: st))) := by
  subst hp; exact Go.mv (fun _ q => XS.ifNo X.here hx rfl hd rfl ((if0 _ _).trans (flt h).2.2.1) q) K
theorem g_if_gt (X : Stand p l e R s m args below meth c T locs cells slots) (hx : p.tables.exec = Jvm.exec) {x : Int32} {o : Int} (hd : decode c.code pc = .ok (.ifCond .gt o, 3)) (pcT pcF : Nat) (hT : ((pc : Int) + o).toNat = pcT ∧ 0 ≤ (pc : Int) + o) (hF : pc + 3 = pcF) (KT : (0 < x) → Go p e below P (T.setTop (mkF m pcT Ls st))) (KF : (¬ 0 < x) → Go p e below P (T.setTop (mkF m pcF Ls st))) : Go p e below P (T.setTop (mkF m pc Ls (.int x :: st))) := by
  by_cases h : 0 < x
  · exact g_if_gt_t X hx hd h _ hT (KT h)
  · exact g_if_gt_f X hx hd h _ hF (KF h)
theorem g_icmp_le_t (X : Stand p l e R s m args below meth c T locs cells slots) (hx : p.tables.exec = Jvm.exec) {x y : Int32} {o : Int} (hd : decode c.code pc = .ok (.if_icmp .le o, 3)) (h : ¬ y < x) (pc' : Nat) (hp : ((pc : Int) + o).toNat = pc' ∧ 0 ≤ (pc : Int) + o) (K : Go p e below P (T.setTop (mkF m pc' Ls st))) : Go p e below P (T.setTop (mkF m pc Ls (.int y :: .int x :: st))) :=
  Go.mv (fun _ q => XS.icmpYes X.here hx rfl (pc0 := pc) (pc' := pc') rfl hd rfl (flt h).2.2.2 hp.2 hp.1 q) K
theorem g_icmp_le_f (X : Stand p l e R s m args below meth c T locs cells slots) (hx : p.tables.exec = Jvm.exec) {x y : Int32} {o : Int} (hd : decode c.code pc = .ok (.if_icmp .le o, 3)) (h : y < x) (pc' : Nat) (hp : pc + 3 = pc') (K : Go p e below P (T.setTop (mkF m pc' Ls st))) : Go p e below P (T.setTop (mkF m pc Ls (.int y :: .int x :: st))) := by
  subst hp; exact Go.mv (fun _ q => XS.icmpNo X.here hx rfl hd rfl (tlt h).2.2.2 q) K
theorem g_icmp_le (X : Stand p l e R s m args below meth c T locs cells slots) (hx : p.tables.exec = Jvm.exec) {x y : Int32} {o : Int} (hd : decode c.code pc = .ok (.if_icmp .le o, 3)) (pcT pcF : Nat) (hT : ((pc : Int) + o).toNat = pcT ∧ 0 ≤ (pc : Int) + o) (hF : pc + 3 = pcF) (KT : (¬ y < x) → Go p e below P (T.setTop (mkF m pcT Ls st))) (KF : (y < x) → Go p e below P (T.setTop (mkF m pcF Ls st))) : Go p e below P (T.setTop (mkF m pc Ls (.int y :: .int x :: st))) := by
  by_cases h : y < x
  · exact g_icmp_le_f X hx hd h _ hF (KF h)
  · exact g_icmp_le_t X hx hd h _ hT (KT h)
theorem g_if_le_t (X : Stand p l e R s m args below meth c T locs cells slots) (hx : p.tables.exec = Jvm.exec) {x : Int32} {o : Int} (hd : decode c.code pc = .ok (.ifCond .le o, 3)) (h : ¬ 0 < x) (pc' : Nat) (hp : ((pc : Int) + o).toNat = pc' ∧ 0 ≤ (pc : Int) + o) (K : Go p e below P (T.setTop (mkF m pc' Ls st))) : Go p e below P (T.setTop (mkF m pc Ls (.int x :: st))) :=
  Go.mv (fun _ q => XS.ifYes X.here hx rfl (pc0 := pc) (pc' := pc') rfl hd rfl ((if0 _ _).trans (flt h).2.2.2) hp.2 hp.1 q) K
theorem g_if_le_f (X : Stand p l e R s m args below meth c T locs cells slots) (hx : p.tables.exec = Jvm.exec) {x : Int32} {o : Int} (hd : decode c.code pc = .ok (.ifCond .le o, 3)) (h : 0 < x) (pc' : Nat) (hp : pc + 3 = pc') (K : Go p e below P (T.setTop (mkF m pc' Ls st))) : Go p e below P (T.setTop (mkF m pc Ls (.int x :: st))) := by
  subst hp; exact Go.mv (fun _ q => XS.ifNo X.here hx rfl hd rfl ((if0 _ _).trans (tlt h).2.2.2) q) K
theorem g_if_le (X : Stand p l e R s m args below meth c T locs cells slots) (hx : p.tables.exec = Jvm.exec) {x : Int32} {o : Int} (hd : decode c.code pc = .ok (.ifCond .le o, 3)) (pcT pcF : Nat) (hT : ((pc : Int) + o).toNat = pcT ∧ 0 ≤ (pc : Int) + o) (hF : pc + 3 = pcF) (KT : (¬ 0 < x) → Go p e below P (T.setTop (mkF m pcT Ls st))) (KF : (0 < x) → Go p e below P (T.setTop (mkF m pcF Ls st))) : Go p e below P (T.setTop (mkF m pc Ls (.int x :: st))) := by
  by_cases h : 0 < x
  · exact g_if_le_f X hx hd h _ hF (KF h)
  · exact g_if_le_t X hx hd h _ hT (KT h)
theorem g_icmp_eq_t (X : Stand p l e R s m args below meth c T locs cells slots) (hx : p.tables.exec = Jvm.exec) {x y : Int32} {o : Int} (hd : decode c.code pc = .ok (.if_icmp .eq o, 3)) (h : x = y) (pc' : Nat) (hp : ((pc : Int) + o).toNat = pc' ∧ 0 ≤ (pc : Int) + o) (K : Go p e below P (T.setTop (mkF m pc' Ls st))) : Go p e below P (T.setTop (mkF m pc Ls (.int y :: .int x :: st))) :=
  Go.mv (fun _ q => XS.icmpYes X.here hx rfl (pc0 := pc) (pc' := pc') rfl hd rfl (teq h).1 hp.2 hp.1 q) K
theorem g_icmp_eq_f (X : Stand p l e R s m args below meth c T locs cells slots) (hx : p.tables.exec = Jvm.exec) {x y : Int32} {o : Int} (hd : decode c.code pc = .ok (.if_icmp .eq o, 3)) (h : ¬ x = y) (pc' : Nat) (hp : pc + 3 = pc') (K : Go p e below P (T.setTop (mkF m pc' Ls st))) : Go p e below P (T.setTop (mkF m pc Ls (.int y :: .int x :: st))) := by
  subst hp; exact Go.mv (fun _ q => XS.icmpNo X.here hx rfl hd rfl (feq h).1 q) K
theorem g_icmp_eq (X : Stand p l e R s m args below meth c T locs cells slots) (hx : p.tables.exec = Jvm.exec) {x y : Int32} {o : Int} (hd : decode c.code pc = .ok (.if_icmp .eq o, 3)) (pcT pcF : Nat) (hT : ((pc : Int) + o).toNat = pcT ∧ 0 ≤ (pc : Int) + o) (hF : pc + 3 = pcF) (KT : (x = y) → Go p e below P (T.setTop (mkF m pcT Ls st))) (KF : (¬ x = y) → Go p e below P (T.setTop (mkF m pcF Ls st))) : Go p e below P (T.setTop (mkF m pc Ls (.int y :: .int x :: st))) := by
  by_cases h : x = y
  · exact g_icmp_eq_t X hx hd h _ hT (KT h)
  · exact g_icmp_eq_f X hx hd h _ hF (KF h)
theorem g_if_eq_t (X : Stand p l e R s m args below meth c T locs cells slots) (hx : p.tables.exec = Jvm.exec) {x : Int32} {o : Int} (hd : decode c.code pc = .ok (.ifCond .eq o, 3)) (h : x = 0) (pc' : Nat) (hp : ((pc : Int) + o).toNat = pc' ∧ 0 ≤ (pc : Int) + o) (K : Go p e below P (T.setTop (mkF m pc' Ls st))) : Go p e below P (T.setTop (mkF m pc Ls (.int x :: st))) :=
  Go.mv (fun _ q => XS.ifYes X.here hx rfl (pc0 := pc) (pc' := pc') rfl hd rfl ((if0 _ _).trans (teq h).1) hp.2 hp.1 q) K
theorem g_if_eq_f (X : Stand p l e R s m args below meth c T locs cells slots) (hx : p.tables.exec = Jvm.exec) {x : Int32} {o : Int} (hd : decode c.code pc = .ok (.ifCond .eq o, 3)) (h : ¬ x = 0) (pc' : Nat) (hp : pc + 3 = pc') (K : Go p e below P (T.setTop (mkF m pc' Ls st))) : Go p e below P (T.setTop (mkF m pc Ls (.int x :: st))) := by
  subst hp; exact Go.mv (fun _ q => XS.ifNo X.here hx rfl hd rfl ((if0 _ _).trans (feq h).1) q) K
theorem g_if_eq (X : Stand p l e R s m args below meth c T locs cells slots) (hx : p.tables.exec = Jvm.exec) {x : Int32} {o : Int} (hd : decode c.code pc = .ok (.ifCond .eq o, 3)) (pcT pcF : Nat) (hT : ((pc : Int) + o).toNat = pcT ∧ 0 ≤ (pc : Int) + o) (hF : pc + 3 = pcF) (KT : (x = 0) → Go p e below P (T.setTop (mkF m pcT Ls st))) (KF : (¬ x = 0) → Go p e below P (T.setTop (mkF m pcF Ls st))) : Go p e below P (T.setTop (mkF m pc Ls (.int x :: st))) := by
  by_cases h : x = 0
  · exact g_if_eq_t X hx hd h _ hT (KT h)
  · exact g_if_eq_f X hx hd h _ hF (KF h)
theorem g_icmp_ne_t (X : Stand p l e R s m args below meth c T locs cells slots) (hx : p.tables.exec = Jvm.exec) {x y : Int32} {o : Int} (hd : decode c.code pc = .ok (.if_icmp .ne o, 3)) (h : ¬ x = y) (pc' : Nat) (hp : ((pc : Int) + o).toNat = pc' ∧ 0 ≤ (pc : Int) + o) (K : Go p e below P (T.setTop (mkF m pc' Ls st))) : Go p e below P (T.setTop (mkF m pc Ls (.int y :: .int x :: st))) :=
  Go.mv (fun _ q => XS.icmpYes X.here hx rfl (pc0 := pc) (pc' := pc') rfl hd rfl (feq h).2 hp.2 hp.1 q) K
theorem g_icmp_ne_f (X : Stand p l e R s m args below meth c T locs cells slots) (hx : p.tables.exec = Jvm.exec) {x y : Int32} {o : Int} (hd : decode c.code pc = .ok (.if_icmp .ne o, 3)) (h : x = y) (pc' : Nat) (hp : pc + 3 = pc') (K : Go p e below P (T.setTop (mkF m pc' Ls st))) : Go p e below P (T.setTop (mkF m pc Ls (.int y :: .int x :: st))) := by
  subst hp; exact Go.mv (fun _ q => XS.icmpNo X.here hx rfl hd rfl (teq h).2 q) K
theorem g_icmp_ne (X : Stand p l e R s m args below meth c T locs cells slots) (hx : p.tables.exec = Jvm.exec) {x y : Int32} {o : Int} (hd : decode c.code pc = .ok (.if_icmp .ne o, 3)) (pcT pcF : Nat) (hT : ((pc : Int) + o).toNat = pcT ∧ 0 ≤ (pc : Int) + o) (hF : pc + 3 = pcF) (KT : (¬ x = y) → Go p e below P (T.setTop (mkF m pcT Ls st))) (KF : (x = y) → Go p e below P (T.setTop (mkF m pcF Ls st))) : Go p e below P (T.setTop (mkF m pc Ls (.int y :: .int x :: st))) := by
  by_cases h : x = y
  · exact g_icmp_ne_f X hx hd h _ hF (KF h)
  · exact g_icmp_ne_t X hx hd h _ hT (KT h)
theorem g_if_ne_t (X : Stand p l e R s m args below meth c T locs cells slots) (hx : p.tables.exec = Jvm.exec) {x : Int32} {o : Int} (hd : decode c.code pc = .ok (.ifCond .ne o, 3)) (h : ¬ x = 0) (pc' : Nat) (hp : ((pc : Int) + o).toNat = pc' ∧ 0 ≤ (pc : Int) + o) (K : Go p e below P (T.setTop (mkF m pc' Ls st))) : Go p e below P (T.setTop (mkF m pc Ls (.int x :: st))) :=
  Go.mv (fun _ q => XS.ifYes X.here hx rfl (pc0 := pc) (pc' := pc') rfl hd rfl ((if0 _ _).trans (feq h).2) hp.2 hp.1 q) K
theorem g_if_ne_f (X : Stand p l e R s m args below meth c T locs cells slots) (hx : p.tables.exec = Jvm.exec) {x : Int32} {o : Int} (hd : decode c.code pc = .ok (.ifCond .ne o, 3)) (h : x = 0) (pc' : Nat) (hp : pc + 3 = pc') (K : Go p e below P (T.setTop (mkF m pc' Ls st))) : Go p e below P (T.setTop (mkF m pc Ls (.int x :: st))) := by
  subst hp; exact Go.mv (fun _ q => XS.ifNo X.here hx rfl hd rfl ((if0 _ _).trans (teq h).2) q) K
theorem g_if_ne (X : Stand p l e R s m args below meth c T locs cells slots) (hx : p.tables.exec = Jvm.exec) {x : Int32} {o : Int} (hd : decode c.code pc = .ok (.ifCond .ne o, 3)) (pcT pcF : Nat) (hT : ((pc : Int) + o).toNat = pcT ∧ 0 ≤ (pc : Int) + o) (hF : pc + 3 = pcF) (KT : (¬ x = 0) → Go p e below P (T.setTop (mkF m pcT Ls st))) (KF : (x = 0) → Go p e below P (T.setTop (mkF m pcF Ls st))) : Go p e below P (T.setTop (mkF m pc Ls (.int x :: st))) := by
  by_cases h : x = 0
  · exact g_if_ne_f X hx hd h _ hF (KF h)
  · exact g_if_ne_t X hx hd h _ hT (KT h)
theorem g_ifnull_t (X : Stand p l e R s m args below meth c T locs cells slots) (hx : p.tables.exec = Jvm.exec)  {o : Int} (hd : decode c.code pc = .ok (.ifnull o, 3)) (pc' : Nat) (hp : ((pc : Int) + o).toNat = pc' ∧ 0 ≤ (pc : Int) + o) (K : Go p e below P (T.setTop (mkF m pc' Ls st))) : Go p e below P (T.setTop (mkF m pc Ls (.null :: st))) :=
  Go.mv (fun _ q => XS.ifnullYes X.here hx rfl (pc0 := pc) (pc' := pc') rfl hd rfl hp.2 hp.1 q) K
theorem g_ifnull_f (X : Stand p l e R s m args below meth c T locs cells slots) (hx : p.tables.exec = Jvm.exec) {b : Addr} {o : Int} (hd : decode c.code pc = .ok (.ifnull o, 3)) (pc' : Nat) (hp : pc + 3 = pc') (K : Go p e below P (T.setTop (mkF m pc' Ls st))) : Go p e below P (T.setTop (mkF m pc Ls (.ref b :: st))) := by
  subst hp; exact Go.mv (fun _ q => XS.ifnullNo X.here hx rfl hd rfl q) K
theorem g_ifnonnull_t (X : Stand p l e R s m args below meth c T locs cells slots) (hx : p.tables.exec = Jvm.exec) {b : Addr} {o : Int} (hd : decode c.code pc = .ok (.ifnonnull o, 3)) (pc' : Nat) (hp : ((pc : Int) + o).toNat = pc' ∧ 0 ≤ (pc : Int) + o) (K : Go p e below P (T.setTop (mkF m pc' Ls st))) : Go p e below P (T.setTop (mkF m pc Ls (.ref b :: st))) :=
  Go.mv (fun _ q => XS.ifnonnullYes X.here hx rfl (pc0 := pc) (pc' := pc') rfl hd rfl hp.2 hp.1 q) K
theorem g_ifnonnull_f (X : Stand p l e R s m args below meth c T locs cells slots) (hx : p.tables.exec = Jvm.exec)  {o : Int} (hd : decode c.code pc = .ok (.ifnonnull o, 3)) (pc' : Nat) (hp : pc + 3 = pc') (K : Go p e below P (T.setTop (mkF m pc' Ls st))) : Go p e below P (T.setTop (mkF m pc Ls (.null :: st))) := by
  subst hp; exact Go.mv (fun _ q => XS.ifnonnullNo X.here hx rfl hd rfl q) K
theorem g_acmp (X : Stand p l e R s m args below meth c T locs cells slots) (hx : p.tables.exec = Jvm.exec) {cd : ACond} {x y : Value} (h1 : x.isRef = true) (h2 : y.isRef = true) {o : Int} (hd : decode c.code pc = .ok (.if_acmp cd o, 3)) (same : Bool) (hq : decide (x = y) = same) (pc' : Nat) (hp : (pc' = if acV cd same = true then ((pc : Int) + o).toNat else pc + 3) ∧ 0 ≤ (pc : Int) + o) (K : Go p e below P (T.setTop (mkF m pc' Ls st))) : Go p e below P (T.setTop (mkF m pc Ls (y :: x :: st))) :=
  Go.mv (fun _ q => Jvm.RoadKit.acmp (g := mkF m pc Ls (y :: x :: st)) X hx rfl h1 h2 (pc0 := pc) (pc' := pc') (same := same) rfl hd rfl hq hp.2 hp.1 q) K
end Steps
section Laws
variable {p : Program} {l : Launch} {e : Env} {R : Room} {s : State} {m : MethodId} {args : Array Value} {below : List Frame} {meth : Method} {c : Code} {T : State} {locs : List Loc} {cells slots : Nat} {P : Outcome → State → Prop} {pc : Nat} {Ls : Array Slot} {st : List Value} {Z : State} {a0 : Array Value} {h : Heap}
theorem g_getF (X : Stand p l e R s m args below meth c T locs cells slots) (hx : p.tables.exec = Jvm.exec) (hZ : Z.Warmed39 s.vm) {own R0 O n d host : String} {index : Nat} (hown : s.vm.findClass own = some m.cls) (w : (Cond.fieldLink own index R0 n d).before a0 Z = true ∨ (Cond.fieldLinkNest own index R0 n d host).before a0 Z = true) (via : Via Z R0 O n d)
    (eT : T.heap = h) {a : Addr} {v : Value} (F : Fld Z h a O n d v) (hd : decode c.code pc = .ok (.getfield index, 3)) (pc' : Nat) (hp : pc + 3 = pc')
    (K : ∀ T', Stand p l e R s m args below meth c T' locs cells slots → T'.heap = h → Go p e below P (T'.setTop (mkF m pc' Ls (v :: st)))) : Go p e below P (T.setTop (mkF m pc Ls (.ref a :: st))) := by
  subst hp
  obtain ⟨T', X', e', k⟩ := getF X hx hZ hown w via eT F (g := mkF m pc Ls (.ref a :: st)) rfl rfl hd
  exact Go.mv k (K T' X' e')
theorem g_putF (X : Stand p l e R s m args below meth c T locs cells slots) (hx : p.tables.exec = Jvm.exec) (hZ : Z.Warmed39 s.vm) {own R0 O n d host C : String} {index kk : Nat} {ty : FieldType} (hown : s.vm.findClass own = some m.cls) (w : (Cond.fieldLink own index R0 n d).before a0 Z = true ∨ (Cond.fieldLinkNest own index R0 n d host).before a0 Z = true) (via : Via Z R0 O n d)
    (eT : T.heap = h) {a : Addr} {v old : Value} (F : Fld Z h a O n d old) (E : Exa Z h a C) (L : (Cond.lays C O n d).before a0 Z = true ∨ ((Cond.laysFinal C O n d).before a0 Z = true ∧ own = O ∧ meth.name = "<init>")) (wi : (Cond.instantiable C kk).before a0 Z = true)
    (hty : parseFieldDescriptor d = some ty) (hn : narrow ty v = v) (hf : fits ty v = true) (hd : decode c.code pc = .ok (.putfield index, 3)) (pc' : Nat) (hp : pc + 3 = pc')
    (K : ∀ T' h', Stand p l e R s m args below meth c T' (locs ++ [⟨a, Jvm.RoadKit.slotOf Z O n d⟩]) cells slots → T'.heap = h' → Wr h h' a (Jvm.RoadKit.slotOf Z O n d) v → Fld Z h' a O n d v → Exa Z h' a C → Go p e below P (T'.setTop (mkF m pc' Ls st))) : Go p e below P (T.setTop (mkF m pc Ls (v :: .ref a :: st))) := by
  subst hp
  obtain ⟨T', h', X', e', W, k⟩ := putF X hx hZ hown w via eT F E L wi hty hn hf (g := mkF m pc Ls (v :: .ref a :: st)) rfl rfl hd
  exact Go.mv k (K T' h' X' e' W (F.same W) (E.wr W))
theorem g_getS (X : Stand p l e R s m args below meth c T locs cells slots) (hx : p.tables.exec = Jvm.exec) (hZ : Z.Warmed39 s.vm) {own R0 O n d host : String} {index : Nat} (hown : s.vm.findClass own = some m.cls) (w : (Cond.fieldLink own index R0 n d).before a0 Z = true ∨ (Cond.fieldLinkNest own index R0 n d host).before a0 Z = true) (via : Via Z R0 O n d)
    (eT : T.heap = h) {v : Value} (F : Sta Z h O n d v) (hd : decode c.code pc = .ok (.getstatic index, 3)) (pc' : Nat) (hp : pc + 3 = pc')
    (K : ∀ T', Stand p l e R s m args below meth c T' locs cells slots → T'.heap = h → Go p e below P (T'.setTop (mkF m pc' Ls (v :: st)))) : Go p e below P (T.setTop (mkF m pc Ls st)) := by
  subst hp
  obtain ⟨T', X', e', k⟩ := getS2 X hx hZ hown w via eT F (g := mkF m pc Ls st) rfl hd
  exact Go.mv k (K T' X' e')
theorem g_new (X : Stand p l e R s m args below meth c T locs cells slots) (hx : p.tables.exec = Jvm.exec) (hZ : Z.Warmed39 s.vm) {own C : String} {index n : Nat} (hown : s.vm.findClass own = some m.cls) (w : (Cond.classLink own index C).before a0 Z = true) (wi : (Cond.instantiable C n).before a0 Z = true) (wz : (Cond.initialized C).before a0 Z = true) (eT : T.heap = h)
    (hd : decode c.code pc = .ok (.new index, 3)) (hc : cells + 1 ≤ R.cells) (hl : slots + n ≤ R.slots) (pc' : Nat) (hp : pc + 3 = pc')
    (K : ∀ T' h' b, Stand p l e R s m args below meth c T' locs (cells + 1) (slots + n) → T'.heap = h' → Ext h h' → b = h.size → Exa Z h' b C → (∀ {O nm d : String} {ty : FieldType}, Laid Z a0 C O nm d → parseFieldDescriptor d = some ty → Fld Z h' b O nm d (defaultValue ty)) → Go p e below P (T'.setTop (mkF m pc' Ls (.ref b :: st)))) : Go p e below P (T.setTop (mkF m pc Ls st)) := by
  subst hp
  obtain ⟨T', h', X', e', E, A, D, -, k⟩ := newO X hx hZ hown w wi wz eT (g := mkF m pc Ls st) rfl hd hc hl
  exact Go.mv k (K T' h' h.size X' e' E rfl A D)
theorem g_initO (X : Stand p l e R s m args below meth c T locs cells slots) (hx : p.tables.exec = Jvm.exec) (hZ : Z.Warmed39 s.vm) {own : String} {idx : Nat} (hown : s.vm.findClass own = some m.cls) (w1 : (Cond.methodLink own idx Lib.objectInit).before a0 Z = true) (w2 : (Cond.instanceMethod Lib.objectInit).before a0 Z = true)
    (w3 : (Cond.code Lib.objectInit ⟨#[0xb1]⟩ 1 none).before a0 Z = true) (eT : T.heap = h) (hsize : Ls.size = c.maxLocals) {a : Addr} (hd : decode c.code pc = .ok (.invokespecial idx, 3)) (hf : 1 ≤ R.frames) {W : Nat} (hW : (st.map fun v => v.category).sum ≤ W) (hl : W + 12 ≤ R.locals) (pc' : Nat) (hp : pc + 3 = pc')
    (K : ∀ T', Stand p l e R s m args below meth c T' locs cells slots → T'.heap = h → Go p e below P (T'.setTop (mkF m pc' Ls st))) : Go p e below P (T.setTop (mkF m pc Ls (.ref a :: st))) := by
  subst hp
  obtain ⟨T', X', e', k⟩ := initO X hx hZ hown w1 w2 w3 eT (g := mkF m pc Ls (.ref a :: st)) rfl hsize rfl hd hf (W := W) (by show 2 * 0 + _ ≤ _; omega) hl
  exact Go.mv k (K T' X' e')
theorem g_newP (X : Stand p l e R s m args below meth c T locs cells slots) (hx : p.tables.exec = Jvm.exec) (hZ : Z.Warmed39 s.vm) {aty : ArrayType} (w : (Cond.arrayClass (newarray.typeOf aty)).before a0 Z = true) (eT : T.heap = h) (hd : decode c.code pc = .ok (.newarray aty, 2)) {n : Int32}
    (hn : ¬ n < 0) (cap : Nat) (hcap : n.toNatClampNeg ≤ cap) (hb : cap * 8 ≤ 536870912) (hc : cells + 1 ≤ R.cells) (hl : slots + cap ≤ R.slots) (pc' : Nat) (hp : pc + 2 = pc') (ty : FieldType) (hty : newarray.typeOf aty = ty) (vs : List Value) (hvs : ∀ i, vs.getD i (defaultValue ty) = defaultValue ty)
    (K : ∀ T' h' b k, Stand p l e R s m args below meth c T' locs (cells + 1) (slots + cap) → T'.heap = h' → Ext h h' → b = h.size → Arv Z h' b k ty n vs (defaultValue ty) → Go p e below P (T'.setTop (mkF m pc' Ls (.ref b :: st)))) : Go p e below P (T.setTop (mkF m pc Ls (.int n :: st))) := by
  subst hp hty
  obtain ⟨T', h', cA, X', e', E, A, k⟩ := newP X hx hZ w eT (g := mkF m pc Ls (.int n :: st)) rfl hd rfl hn hcap hb hc hl
  exact Go.mv k (K T' h' h.size cA X' e' E rfl ((Arv.new A hn).pad (fun i => by rw [hvs]; simp)))
theorem g_newR (X : Stand p l e R s m args below meth c T locs cells slots) (hx : p.tables.exec = Jvm.exec) (hZ : Z.Warmed39 s.vm) {own C : String} {index : Nat} (hown : s.vm.findClass own = some m.cls) (w1 : (Cond.classLink own index C).before a0 Z = true) (w2 : (Cond.arrayOver (.object C)).before a0 Z = true) (eT : T.heap = h) (hd : decode c.code pc = .ok (.anewarray index, 3)) {n : Int32}
    (hn : ¬ n < 0) (cap : Nat) (hcap : n.toNatClampNeg ≤ cap) (hb : cap * 8 ≤ 536870912) (hc : cells + 1 ≤ R.cells) (hl : slots + cap ≤ R.slots) (pc' : Nat) (hp : pc + 3 = pc') (vs : List Value) (hvs : ∀ i, vs.getD i Value.null = Value.null)
    (K : ∀ T' h' b k, Stand p l e R s m args below meth c T' locs (cells + 1) (slots + cap) → T'.heap = h' → Ext h h' → b = h.size → Arv Z h' b k (.object C) n vs .null → Ovr Z k C → Go p e below P (T'.setTop (mkF m pc' Ls (.ref b :: st)))) : Go p e below P (T.setTop (mkF m pc Ls (.int n :: st))) := by
  subst hp
  obtain ⟨T', h', cA, X', e', E, A, O, k⟩ := newR X hx hZ hown w1 w2 eT (g := mkF m pc Ls (.int n :: st)) rfl hd rfl hn hcap hb hc hl
  exact Go.mv k (K T' h' h.size cA X' e' E rfl ((Arv.new A hn).pad (fun i => by show _ = _; rw [show defaultValue (.object C) = Value.null from rfl, hvs]; simp)) O)
theorem set_pad {vs : List Value} {n : Nat} {dv : Value} : ∀ i, vs.getD i dv = vs.getD i dv := fun _ => rfl
theorem g_stC (X : Stand p l e R s m args below meth c T locs cells slots) (hx : p.tables.exec = Jvm.exec) (hZ : Z.Warmed39 s.vm) (eT : T.heap = h) {a : Addr} {k : ClassId} {z : Int32} {vs : List Value} {dv : Value} (V : Arv Z h a k .char z vs dv) {j : Int32} {x : Int32} (x' : Int32) (hxx : nar .char x = x') (hj : ¬ j < 0 ∧ j < z) (i : Nat) (hji : j.toNatClampNeg = i) (hi : i < vs.length) (vs' : List Value) (hvs : vs.set i (.int x') = vs') (hd : decode c.code pc = .ok (.castore, 1)) (pc' : Nat) (hp : pc + 1 = pc')
    (K : ∀ T' h', Stand p l e R s m args below meth c T' (locs ++ [⟨a, j.toNatClampNeg⟩]) cells slots → T'.heap = h' → Wr h h' a j.toNatClampNeg (.int x') → Arv Z h' a k .char z vs' dv → Go p e below P (T'.setTop (mkF m pc' Ls st))) : Go p e below P (T.setTop (mkF m pc Ls (.int x :: .int j :: .ref a :: st))) := by
  subst hp hxx hvs
  obtain ⟨cl, A, q1, S, N, H, G⟩ := V
  obtain ⟨T', h', X', e', W, kk⟩ := stC X hx hZ eT A (j := j) (inb_of S hj) (g := mkF m pc Ls (.int x :: .int j :: .ref a :: st)) rfl rfl hd
  exact Go.mv kk (K T' h' X' e' W (Arv.set A q1 S N H G (fits_nar_char _) W i hji hi))
theorem g_stB (X : Stand p l e R s m args below meth c T locs cells slots) (hx : p.tables.exec = Jvm.exec) (hZ : Z.Warmed39 s.vm) (eT : T.heap = h) {a : Addr} {k : ClassId} {z : Int32} {vs : List Value} {dv : Value} (V : Arv Z h a k .byte z vs dv) {j : Int32} {x : Int32} (x' : Int32) (hxx : nar .byte x = x') (hj : ¬ j < 0 ∧ j < z) (i : Nat) (hji : j.toNatClampNeg = i) (hi : i < vs.length) (vs' : List Value) (hvs : vs.set i (.int x') = vs') (hd : decode c.code pc = .ok (.bastore, 1)) (pc' : Nat) (hp : pc + 1 = pc')
    (K : ∀ T' h', Stand p l e R s m args below meth c T' (locs ++ [⟨a, j.toNatClampNeg⟩]) cells slots → T'.heap = h' → Wr h h' a j.toNatClampNeg (.int x') → Arv Z h' a k .byte z vs' dv → Go p e below P (T'.setTop (mkF m pc' Ls st))) : Go p e below P (T.setTop (mkF m pc Ls (.int x :: .int j :: .ref a :: st))) := by
  subst hp hxx hvs
  obtain ⟨cl, A, q1, S, N, H, G⟩ := V
  obtain ⟨T', h', X', e', W, kk⟩ := stB X hx hZ eT A (j := j) (inb_of S hj) (g := mkF m pc Ls (.int x :: .int j :: .ref a :: st)) rfl rfl hd
  exact Go.mv kk (K T' h' X' e' W (Arv.set A q1 S N H G (fits_nar_byte _) W i hji hi))
theorem g_stZ (X : Stand p l e R s m args below meth c T locs cells slots) (hx : p.tables.exec = Jvm.exec) (hZ : Z.Warmed39 s.vm) (eT : T.heap = h) {a : Addr} {k : ClassId} {z : Int32} {vs : List Value} {dv : Value} (V : Arv Z h a k .boolean z vs dv) {j : Int32} {x : Int32} (x' : Int32) (hxx : nar .boolean x = x') (hj : ¬ j < 0 ∧ j < z) (i : Nat) (hji : j.toNatClampNeg = i) (hi : i < vs.length) (vs' : List Value) (hvs : vs.set i (.int x') = vs') (hd : decode c.code pc = .ok (.bastore, 1)) (pc' : Nat) (hp : pc + 1 = pc')
    (K : ∀ T' h', Stand p l e R s m args below meth c T' (locs ++ [⟨a, j.toNatClampNeg⟩]) cells slots → T'.heap = h' → Wr h h' a j.toNatClampNeg (.int x') → Arv Z h' a k .boolean z vs' dv → Go p e below P (T'.setTop (mkF m pc' Ls st))) : Go p e below P (T.setTop (mkF m pc Ls (.int x :: .int j :: .ref a :: st))) := by
  subst hp hxx hvs
  obtain ⟨cl, A, q1, S, N, H, G⟩ := V
  obtain ⟨T', h', X', e', W, kk⟩ := stZ X hx hZ eT A (j := j) (inb_of S hj) (g := mkF m pc Ls (.int x :: .int j :: .ref a :: st)) rfl rfl hd
  exact Go.mv kk (K T' h' X' e' W (Arv.set A q1 S N H G (fits_nar_bool _) W i hji hi))
theorem g_stI (X : Stand p l e R s m args below meth c T locs cells slots) (hx : p.tables.exec = Jvm.exec) (hZ : Z.Warmed39 s.vm) (eT : T.heap = h) {a : Addr} {k : ClassId} {z : Int32} {vs : List Value} {dv : Value} (V : Arv Z h a k .int z vs dv) {j : Int32} {x : Int32} (x' : Int32) (hxx : x = x') (hj : ¬ j < 0 ∧ j < z) (i : Nat) (hji : j.toNatClampNeg = i) (hi : i < vs.length) (vs' : List Value) (hvs : vs.set i (.int x') = vs') (hd : decode c.code pc = .ok (.iastore, 1)) (pc' : Nat) (hp : pc + 1 = pc')
    (K : ∀ T' h', Stand p l e R s m args below meth c T' (locs ++ [⟨a, j.toNatClampNeg⟩]) cells slots → T'.heap = h' → Wr h h' a j.toNatClampNeg (.int x') → Arv Z h' a k .int z vs' dv → Go p e below P (T'.setTop (mkF m pc' Ls st))) : Go p e below P (T.setTop (mkF m pc Ls (.int x :: .int j :: .ref a :: st))) := by
  subst hp hxx hvs
  obtain ⟨cl, A, q1, S, N, H, G⟩ := V
  obtain ⟨T', h', X', e', W, kk⟩ := stI X hx hZ eT A (j := j) (inb_of S hj) (g := mkF m pc Ls (.int x :: .int j :: .ref a :: st)) rfl rfl hd
  exact Go.mv kk (K T' h' X' e' W (Arv.set A q1 S N H G (rfl) W i hji hi))
theorem g_stJ (X : Stand p l e R s m args below meth c T locs cells slots) (hx : p.tables.exec = Jvm.exec) (hZ : Z.Warmed39 s.vm) (eT : T.heap = h) {a : Addr} {k : ClassId} {z : Int32} {vs : List Value} {dv : Value} (V : Arv Z h a k .long z vs dv) {j : Int32} {x : Int64} (x' : Int64) (hxx : x = x') (hj : ¬ j < 0 ∧ j < z) (i : Nat) (hji : j.toNatClampNeg = i) (hi : i < vs.length) (vs' : List Value) (hvs : vs.set i (.long x') = vs') (hd : decode c.code pc = .ok (.lastore, 1)) (pc' : Nat) (hp : pc + 1 = pc')
    (K : ∀ T' h', Stand p l e R s m args below meth c T' (locs ++ [⟨a, j.toNatClampNeg⟩]) cells slots → T'.heap = h' → Wr h h' a j.toNatClampNeg (.long x') → Arv Z h' a k .long z vs' dv → Go p e below P (T'.setTop (mkF m pc' Ls st))) : Go p e below P (T.setTop (mkF m pc Ls (.long x :: .int j :: .ref a :: st))) := by
  subst hp hxx hvs
  obtain ⟨cl, A, q1, S, N, H, G⟩ := V
  obtain ⟨T', h', X', e', W, kk⟩ := stJ X hx hZ eT A (j := j) (inb_of S hj) (g := mkF m pc Ls (.long x :: .int j :: .ref a :: st)) rfl rfl hd
  exact Go.mv kk (K T' h' X' e' W (Arv.set A q1 S N H G (rfl) W i hji hi))
theorem g_stR (X : Stand p l e R s m args below meth c T locs cells slots) (hx : p.tables.exec = Jvm.exec) (hZ : Z.Warmed39 s.vm) (eT : T.heap = h) {a : Addr} {k : ClassId} {z : Int32} {C : String} {vs : List Value} {dv : Value} (V : Arv Z h a k (.object C) z vs dv) {j : Int32} {x : Value} (hr : x.isRef = true) (hs : Sto Z h a x) (hj : ¬ j < 0 ∧ j < z) (i : Nat) (hji : j.toNatClampNeg = i) (hi : i < vs.length) (vs' : List Value) (hvs : vs.set i x = vs') (hd : decode c.code pc = .ok (.aastore, 1)) (pc' : Nat) (hp : pc + 1 = pc')
    (K : ∀ T' h', Stand p l e R s m args below meth c T' (locs ++ [⟨a, j.toNatClampNeg⟩]) cells slots → T'.heap = h' → Wr h h' a j.toNatClampNeg x → Arv Z h' a k (.object C) z vs' dv → Go p e below P (T'.setTop (mkF m pc' Ls st))) : Go p e below P (T.setTop (mkF m pc Ls (x :: .int j :: .ref a :: st))) := by
  subst hp hvs
  obtain ⟨cl, A, q1, S, N, H, G⟩ := V
  obtain ⟨T', h', X', e', W, kk⟩ := stR X hx hZ eT A (j := j) (inb_of S hj) rfl hs (g := mkF m pc Ls (x :: .int j :: .ref a :: st)) rfl rfl hd
  exact Go.mv kk (K T' h' X' e' W (Arv.set A q1 S N H G (by rcases ref_cases hr with rfl | ⟨_, rfl⟩ <;> rfl) W i hji hi))
theorem g_alen (X : Stand p l e R s m args below meth c T locs cells slots) (hx : p.tables.exec = Jvm.exec) (hZ : Z.Warmed39 s.vm) (eT : T.heap = h) {a : Addr} {k : ClassId} {ty : FieldType} {z : Int32} {vs : List Value} {dv : Value} (V : Arv Z h a k ty z vs dv) (hd : decode c.code pc = .ok (.arraylength, 1)) (pc' : Nat) (hp : pc + 1 = pc')
    (K : Go p e below P (T.setTop (mkF m pc' Ls (.int z :: st)))) : Go p e below P (T.setTop (mkF m pc Ls (.ref a :: st))) := by
  subst hp
  obtain ⟨cl, A, q1, S, N, H, G⟩ := V
  refine Go.mv (X.arraylength hx (by rw [eT]; exact A.1) (State.isArrayOf_alike hZ.alike A.2.1) (g := mkF m pc Ls (.ref a :: st)) rfl rfl hd) ?_
  rw [len_of S N]; exact K
theorem g_ldC (X : Stand p l e R s m args below meth c T locs cells slots) (hx : p.tables.exec = Jvm.exec) (hZ : Z.Warmed39 s.vm) (eT : T.heap = h) {a : Addr} {k : ClassId} {z : Int32} {vs : List Value} {dv : Value} (V : Arv Z h a k .char z vs dv) {j : Int32} (hj : ¬ j < 0 ∧ j < z) (v : Int32) (hv : vs.getD j.toNatClampNeg dv = .int v) (hd : decode c.code pc = .ok (.caload, 1)) (pc' : Nat) (hp : pc + 1 = pc')
    (K : Go p e below P (T.setTop (mkF m pc' Ls (.int v :: st)))) : Go p e below P (T.setTop (mkF m pc Ls (.int j :: .ref a :: st))) := by
  subst hp
  obtain ⟨cl, A, q1, S, N, H, G⟩ := V
  exact Go.mv (X.caload hx (j := j) (v := .int v) (by rw [eT]; exact A.1) (State.isArrayOf_alike hZ.alike A.2.1)  A.2.2 (inb_of S hj) (H.at (inb_of S hj) hv) (g := mkF m pc Ls (.int j :: .ref a :: st)) rfl rfl hd) K
theorem g_ldB (X : Stand p l e R s m args below meth c T locs cells slots) (hx : p.tables.exec = Jvm.exec) (hZ : Z.Warmed39 s.vm) (eT : T.heap = h) {a : Addr} {k : ClassId} {z : Int32} {vs : List Value} {dv : Value} (V : Arv Z h a k .byte z vs dv) {j : Int32} (hj : ¬ j < 0 ∧ j < z) (v : Int32) (hv : vs.getD j.toNatClampNeg dv = .int v) (hd : decode c.code pc = .ok (.baload, 1)) (pc' : Nat) (hp : pc + 1 = pc')
    (K : Go p e below P (T.setTop (mkF m pc' Ls (.int v :: st)))) : Go p e below P (T.setTop (mkF m pc Ls (.int j :: .ref a :: st))) := by
  subst hp
  obtain ⟨cl, A, q1, S, N, H, G⟩ := V
  exact Go.mv (X.baloadBytes hx (j := j) (v := .int v) (by rw [eT]; exact A.1) (State.isArrayOf_alike hZ.alike A.2.1)  A.2.2 (inb_of S hj) (H.at (inb_of S hj) hv) (g := mkF m pc Ls (.int j :: .ref a :: st)) rfl rfl hd) K
theorem g_ldI (X : Stand p l e R s m args below meth c T locs cells slots) (hx : p.tables.exec = Jvm.exec) (hZ : Z.Warmed39 s.vm) (eT : T.heap = h) {a : Addr} {k : ClassId} {z : Int32} {vs : List Value} {dv : Value} (V : Arv Z h a k .int z vs dv) {j : Int32} (hj : ¬ j < 0 ∧ j < z) (v : Int32) (hv : vs.getD j.toNatClampNeg dv = .int v) (hd : decode c.code pc = .ok (.iaload, 1)) (pc' : Nat) (hp : pc + 1 = pc')
    (K : Go p e below P (T.setTop (mkF m pc' Ls (.int v :: st)))) : Go p e below P (T.setTop (mkF m pc Ls (.int j :: .ref a :: st))) := by
  subst hp
  obtain ⟨cl, A, q1, S, N, H, G⟩ := V
  exact Go.mv (X.iaload hx (j := j) (v := .int v) (by rw [eT]; exact A.1) (State.isArrayOf_alike hZ.alike A.2.1)  A.2.2 (inb_of S hj) (H.at (inb_of S hj) hv) (g := mkF m pc Ls (.int j :: .ref a :: st)) rfl rfl hd) K
theorem g_ldJ (X : Stand p l e R s m args below meth c T locs cells slots) (hx : p.tables.exec = Jvm.exec) (hZ : Z.Warmed39 s.vm) (eT : T.heap = h) {a : Addr} {k : ClassId} {z : Int32} {vs : List Value} {dv : Value} (V : Arv Z h a k .long z vs dv) {j : Int32} (hj : ¬ j < 0 ∧ j < z) (v : Int64) (hv : vs.getD j.toNatClampNeg dv = .long v) (hd : decode c.code pc = .ok (.laload, 1)) (pc' : Nat) (hp : pc + 1 = pc')
    (K : Go p e below P (T.setTop (mkF m pc' Ls (.long v :: st)))) : Go p e below P (T.setTop (mkF m pc Ls (.int j :: .ref a :: st))) := by
  subst hp
  obtain ⟨cl, A, q1, S, N, H, G⟩ := V
  exact Go.mv (X.laload hx (j := j) (v := .long v) (by rw [eT]; exact A.1) (State.isArrayOf_alike hZ.alike A.2.1)  A.2.2 (inb_of S hj) (H.at (inb_of S hj) hv) (g := mkF m pc Ls (.int j :: .ref a :: st)) rfl rfl hd) K
theorem g_ldR (X : Stand p l e R s m args below meth c T locs cells slots) (hx : p.tables.exec = Jvm.exec) (hZ : Z.Warmed39 s.vm) (eT : T.heap = h) {a : Addr} {k : ClassId} {z : Int32} {C : String} {vs : List Value} {dv : Value} (V : Arv Z h a k (.object C) z vs dv) {j : Int32} (hj : ¬ j < 0 ∧ j < z) (v : Value) (hv : vs.getD j.toNatClampNeg dv = v) (hd : decode c.code pc = .ok (.aaload, 1)) (pc' : Nat) (hp : pc + 1 = pc')
    (K : Go p e below P (T.setTop (mkF m pc' Ls (v :: st)))) : Go p e below P (T.setTop (mkF m pc Ls (.int j :: .ref a :: st))) := by
  subst hp
  obtain ⟨cl, A, q1, S, N, H, G⟩ := V
  exact Go.mv (X.aaload hx (j := j) (v := v) (by rw [eT]; exact A.1) (State.isArrayOf_alike hZ.alike A.2.1) rfl A.2.2 (inb_of S hj) (H.at (inb_of S hj) hv) (g := mkF m pc Ls (.int j :: .ref a :: st)) rfl rfl hd) K
theorem g_castY (X : Stand p l e R s m args below meth c T locs cells slots) (hx : p.tables.exec = Jvm.exec) (hZ : Z.Warmed39 s.vm) {own K0 : String} {index : Nat} (hown : s.vm.findClass own = some m.cls) (w : (Cond.classLink own index K0).before a0 Z = true) (eT : T.heap = h) {a : Addr} (F : Ins Z h a K0 true) (hd : decode c.code pc = .ok (.checkcast index, 3)) (pc' : Nat) (hp : pc + 3 = pc')
    (K : ∀ T', Stand p l e R s m args below meth c T' locs cells slots → T'.heap = h → Go p e below P (T'.setTop (mkF m pc' Ls (.ref a :: st)))) : Go p e below P (T.setTop (mkF m pc Ls (.ref a :: st))) := by
  subst hp
  obtain ⟨T', X', e', k⟩ := castY X hx hZ hown w eT F (g := mkF m pc Ls (.ref a :: st)) rfl rfl hd
  exact Go.mv k (K T' X' e')
theorem g_instY (X : Stand p l e R s m args below meth c T locs cells slots) (hx : p.tables.exec = Jvm.exec) (hZ : Z.Warmed39 s.vm) {own K0 : String} {index : Nat} (hown : s.vm.findClass own = some m.cls) (w : (Cond.classLink own index K0).before a0 Z = true) (eT : T.heap = h) {a : Addr} (F : Ins Z h a K0 true) (hd : decode c.code pc = .ok (.instanceof index, 3)) (pc' : Nat) (hp : pc + 3 = pc')
    (K : ∀ T', Stand p l e R s m args below meth c T' locs cells slots → T'.heap = h → Go p e below P (T'.setTop (mkF m pc' Ls (.int 1 :: st)))) : Go p e below P (T.setTop (mkF m pc Ls (.ref a :: st))) := by
  subst hp
  obtain ⟨T', X', e', k⟩ := instY X hx hZ hown w eT F (g := mkF m pc Ls (.ref a :: st)) rfl rfl hd
  exact Go.mv k (K T' X' e')
/-- a static call by a payer of the house's form -/
theorem g_callS (X : Stand p l e R s m args below meth c T locs cells slots) (hx : p.tables.exec = Jvm.exec) {own : String} {index : Nat} {y : MethodName} {bytes : ByteArray} {maxL : Nat} {ret : Option FieldType}
    (hown : s.vm.findClass own = some m.cls) (hlink : (Cond.methodLink own index y).before args s = true) (hstat : (Cond.static y).before args s = true) (hinit : (Cond.initialized y.cls).before args s = true)
    (hcode : (Cond.code y bytes maxL ret).before args s = true) (hy : y.cls ≠ "java/lang/invoke/MethodHandle" ∧ y.cls ≠ "java/lang/invoke/VarHandle")
    {W rc rs : Nat} (argsL : List Value) {Q : Option Value → Heap → List Loc → Prop} (hK : Back l R p e below s args y 3 W (fun A a => a = argsL.toArray ∧ A.U.heap = h ∧ A.cells + rc ≤ R.cells ∧ A.slots + rs ≤ R.slots) (fun A _ v B => ∃ L, Q v B.U.heap L ∧ B.locs = A.locs ++ L ∧ B.cells = A.cells + rc ∧ B.slots = A.slots + rs))
    (eT : T.heap = h) (hsize : Ls.size = c.maxLocals) (rest : List Value) (hlen : ∀ sig, parseMethodDescriptor y.desc = some sig → argsL.length = sig.parameters.length)
    (hstack : st = argsL.reverse ++ rest) (hW : (rest.map fun v => v.category).sum ≤ W) (hd : decode c.code pc = .ok (.invokestatic index, 3)) (hc : cells + rc ≤ R.cells) (hl : slots + rs ≤ R.slots) (pc' : Nat) (hp : pc + 3 = pc')
    (K : ∀ v T' L, Stand p l e R s m args below meth c T' (locs ++ L) (cells + rc) (slots + rs) → Q v T'.heap L → Go p e below P (T'.setTop (mkF m pc' Ls (v.toList ++ rest)))) : Go p e below P (T.setTop (mkF m pc Ls st)) := by
  subst hp
  obtain ⟨v, vm, ⟨T', L', k', n'⟩, -, X', ⟨Lc, hQ, l1, y1, z1⟩, k⟩ := Jvm.LawKit.callS X hx (y := y) hown hlink hstat hinit hcode hy hK (g := mkF m pc Ls st) rfl hsize (argsL := argsL) (rest := rest) hlen hstack (by show 2 * 0 + _ ≤ _; omega) hd (fun _ _ => ⟨rfl, eT, hc, hl⟩)
  dsimp only [Pt.U, Pt.locs, Pt.cells, Pt.slots] at X' l1 y1 z1 k hQ
  subst l1 y1 z1
  exact Go.mv k (K v T' Lc X' hQ)
theorem g_special (X : Stand p l e R s m args below meth c T locs cells slots) (hx : p.tables.exec = Jvm.exec) {own : String} {index : Nat} {y : MethodName} (hy1 : y.name = "<init>")
    (hown : s.vm.findClass own = some m.cls) (hlink : (Cond.methodLink own index y).before args s = true) (hinst : (Cond.instanceMethod y).before args s = true)
    {bytes : ByteArray} {maxL : Nat} (hcode : (Cond.code y bytes maxL none).before args s = true) (hy : y.cls ≠ "java/lang/invoke/MethodHandle" ∧ y.cls ≠ "java/lang/invoke/VarHandle")
    {W rc rs : Nat} {a : Addr} (argsL : List Value) {Q : Option Value → Heap → List Loc → Prop} (hK : Back l R p e below s args y 3 W (fun A b => b = (.ref a :: argsL).toArray ∧ A.U.heap = h ∧ A.cells + rc ≤ R.cells ∧ A.slots + rs ≤ R.slots) (fun A _ v B => ∃ L, Q v B.U.heap L ∧ B.locs = A.locs ++ L ∧ B.cells = A.cells + rc ∧ B.slots = A.slots + rs))
    (eT : T.heap = h) (hsize : Ls.size = c.maxLocals) (rest : List Value) (hlen : ∀ sig, parseMethodDescriptor y.desc = some sig → argsL.length = sig.parameters.length)
    (hstack : st = argsL.reverse ++ .ref a :: rest) (hW : (rest.map fun v => v.category).sum ≤ W) (hd : decode c.code pc = .ok (.invokespecial index, 3)) (hc : cells + rc ≤ R.cells) (hl : slots + rs ≤ R.slots) (pc' : Nat) (hp : pc + 3 = pc')
    (K : ∀ v T' L, Stand p l e R s m args below meth c T' (locs ++ L) (cells + rc) (slots + rs) → Q v T'.heap L → Go p e below P (T'.setTop (mkF m pc' Ls (v.toList ++ rest)))) : Go p e below P (T.setTop (mkF m pc Ls st)) := by
  subst hp
  obtain ⟨v, vm, ⟨T', L', k', n'⟩, -, X', ⟨Lc, hQ, l1, y1, z1⟩, k⟩ := X.specialBack hx (y := y) hy1 hown hlink hinst hcode hy hK (g := mkF m pc Ls st) rfl hsize (Steps.refl _) (a := a) (argsL := argsL) (rest := rest) hlen hstack (by show 2 * 0 + _ ≤ _; omega) hd (fun _ _ => ⟨rfl, eT, hc, hl⟩)
  dsimp only [Pt.U, Pt.locs, Pt.cells, Pt.slots] at X' l1 y1 z1 k hQ
  subst l1 y1 z1
  exact Go.tr k (K v T' Lc X' hQ)
theorem g_virtual (X : Stand p l e R s m args below meth c T locs cells slots) (hx : p.tables.exec = Jvm.exec) (hZ : Z.Warmed39 s.vm) {own C : String} {index : Nat} {y z : MethodName}
    (hown : s.vm.findClass own = some m.cls) (hlink : (Cond.methodLink own index y).before args s = true) (hdecl : (Cond.declares y).before args s = true) (hnf : NotFace s y)
    (hsel : (Cond.selects C y z).before args s = true) (hinst : (Cond.instanceMethod z).before args s = true) (hy : y.cls ≠ "java/lang/invoke/MethodHandle" ∧ y.cls ≠ "java/lang/invoke/VarHandle")
    {W rc rs : Nat} {a : Addr} (argsL : List Value) {Q : Option Value → Heap → List Loc → Prop} (hK : Back l R p e below s args z 3 W (fun A b => b = (.ref a :: argsL).toArray ∧ A.U.heap = h ∧ A.cells + rc ≤ R.cells ∧ A.slots + rs ≤ R.slots) (fun A _ v B => ∃ L, Q v B.U.heap L ∧ B.locs = A.locs ++ L ∧ B.cells = A.cells + rc ∧ B.slots = A.slots + rs))
    (E : Exa Z h a C) (eT : T.heap = h) (hsize : Ls.size = c.maxLocals) (rest : List Value) (hlen : ∀ sig, parseMethodDescriptor y.desc = some sig → argsL.length = sig.parameters.length)
    (hstack : st = argsL.reverse ++ .ref a :: rest) (hW : (rest.map fun v => v.category).sum ≤ W) (hd : decode c.code pc = .ok (.invokevirtual index, 3)) (hc : cells + rc ≤ R.cells) (hl : slots + rs ≤ R.slots) (pc' : Nat) (hp : pc + 3 = pc')
    (K : ∀ v T' L, Stand p l e R s m args below meth c T' (locs ++ L) (cells + rc) (slots + rs) → Q v T'.heap L → Go p e below P (T'.setTop (mkF m pc' Ls (v.toList ++ rest)))) : Go p e below P (T.setTop (mkF m pc Ls st)) := by
  subst hp
  obtain ⟨cq, kq, qa, qb, qc⟩ := isOf hZ eT E
  obtain ⟨v, vm, ⟨T', L', k', n'⟩, -, X', ⟨Lc, hQ, l1, y1, z1⟩, k⟩ := X.virtualBack hx (y := y) (z := z) hown hlink hdecl hnf hsel hinst hy hK qa qc (g := mkF m pc Ls st) rfl hsize (Steps.refl _) (argsL := argsL) (rest := rest) hlen hstack (by show 2 * 0 + _ ≤ _; omega) hd (fun _ _ => ⟨rfl, eT, hc, hl⟩)
  dsimp only [Pt.U, Pt.locs, Pt.cells, Pt.slots] at X' l1 y1 z1 k hQ
  subst l1 y1 z1
  exact Go.tr k (K v T' Lc X' hQ)
theorem g_private (X : Stand p l e R s m args below meth c T locs cells slots) (hx : p.tables.exec = Jvm.exec) (hZ : Z.Warmed39 s.vm) {own C : String} {index : Nat} {y : MethodName} {bytes : ByteArray} {maxL : Nat} {ret : Option FieldType}
    (hown : s.vm.findClass own = some m.cls) (hlink : (Cond.methodLink own index y).before args s = true) (hinst : (Cond.instanceMethod y).before args s = true) (hsel : (Cond.selects y.cls y y).before args s = true)
    (hpriv : (Cond.privateMethod y).before a0 Z = true) (hcode : (Cond.code y bytes maxL ret).before args s = true) (hy : y.cls ≠ "java/lang/invoke/MethodHandle" ∧ y.cls ≠ "java/lang/invoke/VarHandle")
    {W rc rs : Nat} {a : Addr} (argsL : List Value) {Q : Option Value → Heap → List Loc → Prop} (hK : Back l R p e below s args y 3 W (fun A b => b = (.ref a :: argsL).toArray ∧ A.U.heap = h ∧ A.cells + rc ≤ R.cells ∧ A.slots + rs ≤ R.slots) (fun A _ v B => ∃ L, Q v B.U.heap L ∧ B.locs = A.locs ++ L ∧ B.cells = A.cells + rc ∧ B.slots = A.slots + rs))
    (E : Exa Z h a C) (eT : T.heap = h) (hsize : Ls.size = c.maxLocals) (rest : List Value) (hlen : ∀ sig, parseMethodDescriptor y.desc = some sig → argsL.length = sig.parameters.length)
    (hstack : st = argsL.reverse ++ .ref a :: rest) (hW : (rest.map fun v => v.category).sum ≤ W) (hd : decode c.code pc = .ok (.invokevirtual index, 3)) (hc : cells + rc ≤ R.cells) (hl : slots + rs ≤ R.slots) (pc' : Nat) (hp : pc + 3 = pc')
    (K : ∀ v T' L, Stand p l e R s m args below meth c T' (locs ++ L) (cells + rc) (slots + rs) → Q v T'.heap L → Go p e below P (T'.setTop (mkF m pc' Ls (v.toList ++ rest)))) : Go p e below P (T.setTop (mkF m pc Ls st)) := by
  subst hp
  obtain ⟨cq, q1, q2⟩ := E.cell
  obtain ⟨v, vm, ⟨T', L', k', n'⟩, -, X', ⟨Lc, hQ, l1, y1, z1⟩, k⟩ := X.privateBack hx (y := y) hown hlink hinst hsel (Cond.privateMethod_at (mvP hZ hpriv (args := #[]))) hcode hy hK (g := mkF m pc Ls st) rfl hsize (Steps.refl _) (a := a) (by rw [eT]; exact q1) q2 (argsL := argsL) (rest := rest) hlen hstack (by show 2 * 0 + _ ≤ _; omega) hd (fun _ _ => ⟨rfl, eT, hc, hl⟩)
  dsimp only [Pt.U, Pt.locs, Pt.cells, Pt.slots] at X' l1 y1 z1 k hQ
  subst l1 y1 z1
  exact Go.tr k (K v T' Lc X' hQ)
/-- the end of a body: what it owes -/
def End (s : State) (Q : Option Value → Heap → List Loc → Prop) (C N : Nat) (o : Outcome) (t : State) : Prop := ∃ v L, o = .returned v ∧ Q v t.heap L ∧ FrameEnd s o t L C N
theorem g_ret (X : Stand p l e R s m args below meth c T locs cells slots) (hx : p.tables.exec = Jvm.exec) {t : FieldType} {v : Value} {i : Instr} (hret : meth.sig.returnType = some t) (hlocks : meth.locks = false) (hn : narrow t v = v)
    (hi : (i = .ireturn ∧ (t = .int ∨ t = .boolean ∨ t = .byte ∨ t = .char ∨ t = .short) ∧ ∃ z, v = .int z) ∨ (i = .lreturn ∧ t = .long ∧ ∃ z, v = .long z) ∨ (i = .dreturn ∧ t = .double ∧ ∃ z, v = .double z) ∨ (i = .freturn ∧ t = .float ∧ ∃ z, v = .float z) ∨ (i = .areturn ∧ t.isReference = true ∧ v.isRef = true))
    (hd : decode c.code pc = .ok (i, 1)) {Q : Option Value → Heap → List Loc → Prop} {C N : Nat} (hC : cells ≤ C) (hN : slots ≤ N) (eT : T.heap = h) (hQ : Q (some v) h locs) : Go p e below (End s Q C N) (T.setTop (mkF m pc Ls (v :: st))) := by
  obtain ⟨fs, hr, hrun, hended, hW, hsame⟩ := X.leave (v := some v) (fun h => by rw [hret] at h; cases h) hlocks
  exact ⟨_, _, retOut X hx hret hn hi hd hr, hrun, hended, _, _, rfl, by show Q _ T.heap _; rw [eT]; exact hQ, ⟨_, rfl⟩, hW, hsame.mono hC hN⟩
theorem g_retV (X : Stand p l e R s m args below meth c T locs cells slots) (hx : p.tables.exec = Jvm.exec) (hret : meth.sig.returnType = none) (hlocks : meth.locks = false)
    (hd : decode c.code pc = .ok (.return_, 1)) {Q : Option Value → Heap → List Loc → Prop} {C N : Nat} (hC : cells ≤ C) (hN : slots ≤ N) (eT : T.heap = h) (hQ : Q none h locs) : Go p e below (End s Q C N) (T.setTop (mkF m pc Ls [])) := by
  obtain ⟨fs, hr, hrun, hended, hW, hsame⟩ := X.leave (v := none) (fun _ => rfl) hlocks
  exact ⟨_, _, X.returnOut hx hret hd hr, hrun, hended, _, _, rfl, by show Q _ T.heap _; rw [eT]; exact hQ, ⟨_, rfl⟩, hW, hsame.mono hC hN⟩
end Laws
end Jvm.Own
namespace Jvm.Own
open Jvm Sem ClassFile Op Lib Jvm.Stand Jvm.Free Jvm.LawKit Jvm.RoadKit
theorem isref {v : Value} (h : v.isRef = true) : v = .null ∨ ∃ a, v = .ref a := by
  cases v <;> first | exact Or.inl rfl | exact Or.inr ⟨_, rfl⟩ | exact nomatch h
theorem mask255 (x : Int32) : (x &&& 255) = Int32.ofNat (x &&& 255).toBitVec.toNat ∧ (x &&& 255).toBitVec.toNat < 256 := by
  constructor
  · apply Int32.toBitVec_inj.mp
    show _ = BitVec.ofNat 32 _
    rw [BitVec.ofNat_toNat]; simp
  · simp only [Int32.toBitVec_and, BitVec.toNat_and]
    exact Nat.lt_succ_of_le Nat.and_le_right
theorem lat255 (x : Int32) : ¬ (x &&& 255) < 0 ∧ ¬ (255 : Int32) < (x &&& 255) := by
  have t : ∀ k : Fin 256, ¬ (Int32.ofNat k.val) < 0 ∧ ¬ (255 : Int32) < (Int32.ofNat k.val) := by decide +kernel
  obtain ⟨e, h⟩ := mask255 x
  rw [e]
  exact t ⟨_, h⟩
theorem c255 (x : Int32) : (x &&& 255).toUInt32.toUInt16.toUInt32.toInt32 = x &&& 255 := i2c_mask x
theorem nar255 (x : Int32) : nar .char (x &&& 255) = x &&& 255 := i2c_mask x
theorem narc255 (x : Int32) : nar .char ((x &&& 255).toUInt32.toUInt16.toUInt32.toInt32) = x &&& 255 := by rw [c255]; exact nar255 x
theorem mem1 {P : Int32 → Prop} {a : Int32} (ha : P a) : ∀ c ∈ ([a] : List Int32), P c := fun c hc => by cases List.mem_singleton.mp hc; exact ha
theorem mem2 {P : Int32 → Prop} {a b : Int32} (ha : P a) (hb : P b) : ∀ c ∈ ([a, b] : List Int32), P c := fun c hc => by
  simp only [List.mem_cons, List.not_mem_nil, or_false] at hc
  rcases hc with rfl | rfl
  · exact ha
  · exact hb
/-- a contract's payer -/
theorem back {p : Program} {l : Launch} {e : Env} {R : Room} {s : State} {args : Array Value} {below : List Frame} {Z : State} {a0 : Array Value} {h : Heap} {y : MethodName} {bytes : ByteArray} {maxL : Nat} {ret : Option FieldType} {rm : Room} {len W : Nat} {as' : Array Value} {Q : Option Value → Heap → List Loc → Prop}
    (hM : MetFree l y (head1 [Cond.code y bytes maxL ret] rm) (fun a U => a = as' ∧ Z.Warmed39 U.vm ∧ U.heap = h) (fun _ _ _ _ _ => True) (fun _ U o U' => End U Q rm.cells rm.slots o U'))
    (hZ : Z.Warmed39 s.vm) (wc : (Cond.code y bytes maxL ret).before a0 Z = true) (wz : (Cond.initialized y.cls).before a0 Z = true) (hf : rm.frames + 1 ≤ R.frames) (hl : W + (maxL + 11) + rm.locals ≤ R.locals) :
    Back l R p e below s args y len W (fun A a => a = as' ∧ A.U.heap = h ∧ A.cells + rm.cells ≤ R.cells ∧ A.slots + rm.slots ≤ R.slots)
      (fun A _ v B => ∃ L, Q v B.U.heap L ∧ B.locs = A.locs ++ L ∧ B.cells = A.cells + rm.cells ∧ B.slots = A.slots + rm.slots) := backOf (Q := Q) hM hZ wc wz hf hl
end Jvm.Own
namespace Jvm.Own
open Jvm Sem ClassFile Op Lib Jvm.Stand Jvm.Free Jvm.LawKit Jvm.RoadKit
/-- what equals leaves -/
def QEq (h : Heap) (cs ds : List Int32) (v : Option Value) (h' : Heap) (L : List Loc) : Prop := ((v = some (.int 1) ∧ cs = ds) ∨ (v = some (.int 0) ∧ ¬ cs = ds)) ∧ L = [] ∧ h' = h
/-- a value, the heap as it was -/
def QVal (h : Heap) (r : Value) (v : Option Value) (h' : Heap) (L : List Loc) : Prop := v = some r ∧ L = [] ∧ h' = h
section Start
variable {s : State} {args : Array Value}
theorem start_len {t : Term} {a : Addr} {cl : Cell} {n : Int32} (h : (Cond.eq (Term.length t) (Term.int n)).value args s none s [] = some true) (ht : t.eval args s none [] s = some (.ref a)) (hc : s.heap[a]? = some cl) : cl.slots.size < 2 ^ 31 ∧ cl.slots.size.toInt32 = n := by
  obtain ⟨x, y, e1, e2, -, -⟩ := cmp_v (Or.inl h)
  obtain ⟨a', c', q1, q2, rfl⟩ := Term.length_spec e1
  cases ht.symm.trans q1
  cases hc.symm.trans (State.arrayAt?_spec q2).1
  have e3 := gotT (Cond.eq_ints e1 (Term.int_eval n)) h
  refine ⟨?_, e3⟩
  simp only [Term.eval, ht, q2, Option.bind_eq_bind, Option.bind_some] at e1
  split at e1
  · assumption
  · cases e1
theorem start_elem {t u : Term} {a : Addr} {cl : Cell} {i : Int32} {v : Value} (h : (Cond.eq (Term.elem t (Term.int i)) u).value args s none s [] = some true) (ht : t.eval args s none [] s = some (.ref a)) (hc : s.heap[a]? = some cl) (hu : u.eval args s none [] s = some v) : cl.slots[i.toNatClampNeg]? = some v := by
  obtain ⟨x, y, e1, e2, -, -⟩ := cmp_v (Or.inl h)
  cases hu.symm.trans e2
  have e3 := (elem_in e1 ht (Term.int_eval i) hc).2
  have e4 : x = v := by
    simp only [Cond.value, e1, e2] at h
    cases x <;> cases v <;> simp_all
  rw [e3, e4]
theorem start_int {t : Term} {n : Int32} (h : (Cond.eq t (Term.int n)).value args s none s [] = some true) : t.eval args s none [] s = some (.int n) := by
  obtain ⟨x, y, e1, e2, -, -⟩ := cmp_v (Or.inl h)
  cases (Term.int_eval n).symm.trans e2
  simp only [Cond.value, e1, e2] at h
  cases x <;> simp_all
theorem start_arv (hf : Fit s) {t : Term} {a : Addr} {ty : FieldType} (ha : (Cond.arrayOf t ty).value args s none s [] = some true) (ht : t.eval args s none [] s = some (.ref a)) {n : Int32} (hl : (Cond.eq (Term.length t) (Term.int n)).value args s none s [] = some true) (hn : ¬ n < 0) (vs : List Value) (hvl : n.toNatClampNeg = vs.length)
    (H : ∀ cl, s.heap[a]? = some cl → HasL cl 0 vs) (dv : Value) : ∃ k, Arv s s.heap a k ty n vs dv := by
  obtain ⟨cl, A⟩ := Arr.start ht ha
  obtain ⟨q1, q2⟩ := start_len hl ht A.1
  exact ⟨_, Arv.start hf A q1 q2 hn hvl (H cl A.1)⟩
theorem start_all {t : Term} {a : Addr} {cl : Cell} {n v : Int32} (h : (Cond.all t (Cond.or (Cond.le (Term.int n) (Term.index 0)) (Cond.eq (Term.elem t (Term.index 0)) (Term.int v)))).value args s none s [] = some true) {N : Int32} (hl : (Cond.eq (Term.length t) (Term.int N)).value args s none s [] = some true) (ht : t.eval args s none [] s = some (.ref a)) (hc : s.heap[a]? = some cl) (i : Nat) (ht' : t.eval args s none [i] s = some (.ref a)) (hiN : i < N.toNatClampNeg) (hn : ¬ n ≤ i.toInt32) (hv : i.toInt32.toNatClampNeg = i) (hi0 : ¬ i.toInt32 < 0) : cl.slots[i]? = some (.int v) := by
  obtain ⟨b1, b2⟩ := start_len hl ht hc
  have hi : i < cl.slots.size := by
    rw [← b2] at hiN
    have e : (cl.slots.size.toInt32).toNatClampNeg = cl.slots.size := by show (Int32.ofNat cl.slots.size).toInt.toNat = _; rw [Int32.toInt_ofNat_of_lt b1]; rfl
    rwa [e] at hiN
  have ha : s.arrayAt? a = some cl := by
    obtain ⟨x, y, e1, e2, -, -⟩ := cmp_v (Or.inl hl)
    obtain ⟨a', c', q1, q2, -⟩ := Term.length_spec e1
    cases ht.symm.trans q1
    cases hc.symm.trans (State.arrayAt?_spec q2).1
    exact q2
  simp only [Cond.value, ht, ha] at h
  have key : ∀ (l : List Nat) (f : Nat → Option Bool) (acc : Option Bool), l.foldl (fun acc i => match acc with | some true => f i | x => x) acc = some true → acc = some true ∧ ∀ i ∈ l, f i = some true := by
    intro l f
    induction l with
    | nil => intro acc h; exact ⟨h, fun _ hi => by cases hi⟩
    | cons j r ih =>
      intro acc h
      rw [List.foldl_cons] at h
      obtain ⟨h1, h2⟩ := ih _ h
      cases acc with
      | none => cases h1
      | some b =>
        cases b
        · cases h1
        · exact ⟨rfl, fun i hi => by rcases List.mem_cons.mp hi with rfl | hi; exact h1; exact h2 i hi⟩
  have q := (key _ _ _ h).2 i (List.mem_range.mpr hi)
  simp [Term.eval, hn, ht', ha] at q
  rw [if_neg hi0, hv] at q
  cases hs : cl.slots[i]? with
  | none => rw [hs] at q; cases q
  | some x => rw [hs] at q; cases x <;> simp at q; rw [q]
end Start
section Copy
variable {p : Program} {l : Launch} {e : Env} {R : Room} {s : State} {m : MethodId} {args : Array Value} {below : List Frame} {meth : Method} {c : Code} {T : State} {locs : List Loc} {cells slots : Nat} {P : Outcome → State → Prop} {pc : Nat} {Ls : Array Slot} {st : List Value} {Z : State} {a0 : Array Value} {h : Heap}
theorem g_cpA (X : Stand p l e R s m args below meth c T locs cells slots) (hx : p.tables.exec = Jvm.exec) (hZ : Z.Warmed39 s.vm) {own : String} {index : Nat} (hown : s.vm.findClass own = some m.cls)
    (w1 : (Cond.methodLink own index Jvm.Stand.acN).before a0 Z = true) (w2 : (Cond.native Jvm.Stand.acN).before a0 Z = true) (w3 : (Cond.static Jvm.Stand.acN).before a0 Z = true) (w4 : (Cond.initialized "java/lang/System").before a0 Z = true) (eT : T.heap = h)
    {a b : Addr} {k k' : ClassId} {ty ty' : FieldType} {z z' sp dp nn : Int32} {vs vd : List Value} {dv dd : Value} (A : Arv Z h a k ty z vs dv) (B : Arv Z h b k' ty' z' vd dd) (us : List Value) (hty : (ty = ty' ∧ refKind ty = false) ∨ (refKind ty = true ∧ refKind ty' = true ∧ StoL Z h b us))
    (h1 : ¬ sp < 0) (h2 : ¬ dp < 0) (h3 : ¬ nn < 0) (h4 : sp.toNatClampNeg + nn.toNatClampNeg ≤ z.toNatClampNeg) (h5 : dp.toNatClampNeg + nn.toNatClampNeg ≤ z'.toNatClampNeg)
    (hus : us = (List.range nn.toNatClampNeg).map fun i => vs.getD (sp.toNatClampNeg + i) dv) (hl : dp.toNatClampNeg + nn.toNatClampNeg ≤ vd.length) {n0 : Nat} (N : Fr n0 locs) (ge : n0 ≤ b) (vd' : List Value) (hvd : vd.take dp.toNatClampNeg ++ us ++ vd.drop (dp.toNatClampNeg + nn.toNatClampNeg) = vd')
    (hsize : Ls.size = c.maxLocals) (hd : decode c.code pc = .ok (.invokestatic index, 3)) (hf : 1 ≤ R.frames) {W : Nat} (hW : (st.map fun v => v.category).sum ≤ W) (hlo : W + (nativeFrameWords "java/lang/System" "arraycopy" 5 + 11) ≤ R.locals) (pc' : Nat) (hp : pc + 3 = pc')
    (K : ∀ T' h' L, Stand p l e R s m args below meth c T' L cells slots → T'.heap = h' → Fr n0 L → Keep h h' [b] → Arv Z h' b k' ty' z' vd' dd → Go p e below P (T'.setTop (mkF m pc' Ls st))) : Go p e below P (T.setTop (mkF m pc Ls (.int nn :: .int dp :: .ref b :: .int sp :: .ref a :: st))) := by
  subst hp hvd
  obtain ⟨T', h', L, X', e', N', K', V', k⟩ := cpA X hx hZ hown w1 w2 w3 w4 eT A B hty h1 h2 h3 h4 h5 hus hl N ge (g := mkF m pc Ls (.int nn :: .int dp :: .ref b :: .int sp :: .ref a :: st)) rfl hsize (rest := st) rfl hd hf (W := W) (by show 2 * 0 + _ ≤ _; omega) hlo
  exact Go.mv k (K T' h' L X' e' N' K' V')
end Copy
section Clone
variable {p : Program} {l : Launch} {e : Env} {R : Room} {s : State} {m : MethodId} {args : Array Value} {below : List Frame} {meth : Method} {c : Code} {T : State} {locs : List Loc} {cells slots : Nat} {P : Outcome → State → Prop} {pc : Nat} {Ls : Array Slot} {st : List Value} {Z : State} {a0 : Array Value} {h : Heap}
theorem g_clone (X : Stand p l e R s m args below meth c T locs cells slots) (hx : p.tables.exec = Jvm.exec) (hZ : Z.Warmed39 s.vm) {own ad : String} {index : Nat} (hown : s.vm.findClass own = some m.cls)
    (w1 : (Cond.methodLink own index ⟨ad, "clone", "()Ljava/lang/Object;"⟩).before a0 Z = true) (w2 : (Cond.sameMethod ad "java/lang/Object" "clone" "()Ljava/lang/Object;").before a0 Z = true) (w3 : (Cond.native ⟨"java/lang/Object", "clone", "()Ljava/lang/Object;"⟩).before a0 Z = true)
    (w4 : (Cond.instanceMethod ⟨"java/lang/Object", "clone", "()Ljava/lang/Object;"⟩).before a0 Z = true) (w5 : (Cond.selects ad ⟨ad, "clone", "()Ljava/lang/Object;"⟩ ⟨"java/lang/Object", "clone", "()Ljava/lang/Object;"⟩).before a0 Z = true) (w6 : (Cond.castable ad "java/lang/Cloneable").before a0 Z = true)
    (eT : T.heap = h) {a : Addr} {ty : FieldType} {k : ClassId} {z : Int32} {vs : List Value} {dv : Value} (F : Arv Z h a k ty z vs dv) (E : Exa Z h a ad) (hsize : Ls.size = c.maxLocals) (hd : decode c.code pc = .ok (.invokevirtual index, 3))
    (hf : 1 ≤ R.frames) {W : Nat} (cap : Nat) (hW : (st.map fun v => v.category).sum ≤ W) (hl : W + 14 ≤ R.locals) (hcap : z.toNatClampNeg ≤ cap) (hc : cells + 1 ≤ R.cells) (hsl : slots + cap ≤ R.slots) (pc' : Nat) (hp : pc + 3 = pc')
    (K : ∀ T' h' b, Stand p l e R s m args below meth c T' locs (cells + 1) (slots + cap) → T'.heap = h' → Ext h h' → b = h.size → Arv Z h' b k ty z vs dv → Exa Z h' b ad → Go p e below P (T'.setTop (mkF m pc' Ls (.ref b :: st)))) : Go p e below P (T.setTop (mkF m pc Ls (.ref a :: st))) := by
  subst hp
  obtain ⟨T', h', X', e', E', V', A', k'⟩ := cloneH X hx hZ hown w1 w2 w3 w4 w5 w6 eT F.arh E (g := mkF m pc Ls (.ref a :: st)) rfl hsize rfl hd hf (W := W) (cap := cap) (by show 2 * 0 + _ ≤ _; omega) hl hcap hc hsl
  exact Go.mv k' (K T' h' h.size X' e' E' rfl V' A')
theorem g_ldcI (X : Stand p l e R s m args below meth c T locs cells slots) (hx : p.tables.exec = Jvm.exec) {own : String} {index : Nat} {v : Int32} (hown : s.vm.findClass own = some m.cls) (hconst : (Cond.constant own index v).before args s = true) (hd : decode c.code pc = .ok (.ldc index, 2)) (pc' : Nat) (hp : pc + 2 = pc')
    (K : Go p e below P (T.setTop (mkF m pc' Ls (.int v :: st)))) : Go p e below P (T.setTop (mkF m pc Ls st)) := by
  subst hp
  exact Go.mv (fun t q => X.ldcInt hx hown hconst (g := mkF m pc Ls st) rfl hd t q) K
theorem g_ldc2J (X : Stand p l e R s m args below meth c T locs cells slots) (hx : p.tables.exec = Jvm.exec) {own : String} {index : Nat} {v : Int64} (hown : s.vm.findClass own = some m.cls) (hconst : (Cond.constantLong own index v).before args s = true) (hd : decode c.code pc = .ok (.ldc2_w index, 3)) (pc' : Nat) (hp : pc + 3 = pc')
    (K : Go p e below P (T.setTop (mkF m pc' Ls (.long v :: st)))) : Go p e below P (T.setTop (mkF m pc Ls st)) := by
  subst hp
  exact Go.mv (fun t q => X.ldc2Long hx hown hconst (g := mkF m pc Ls st) rfl hd t q) K
theorem g_instNo (X : Stand p l e R s m args below meth c T locs cells slots) (hx : p.tables.exec = Jvm.exec) (hZ : Z.Warmed39 s.vm) {own K0 C : String} {index : Nat} (hown : s.vm.findClass own = some m.cls) (w : (Cond.classLink own index K0).before a0 Z = true) (eT : T.heap = h) {a : Addr} (E : Exa Z h a C) (F : ∃ c t, Z.vm.findClass C = some c ∧ Z.vm.findClass K0 = some t ∧ Z.vm.assignable c t = false) (hd : decode c.code pc = .ok (.instanceof index, 3)) (pc' : Nat) (hp : pc + 3 = pc')
    (K : ∀ T', Stand p l e R s m args below meth c T' locs cells slots → T'.heap = h → Go p e below P (T'.setTop (mkF m pc' Ls (.int 0 :: st)))) : Go p e below P (T.setTop (mkF m pc Ls (.ref a :: st))) := by
  subst hp
  obtain ⟨T', X', e', k⟩ := instNo X hx hZ hown w eT E F (g := mkF m pc Ls (.ref a :: st)) rfl rfl hd
  exact Go.mv k (K T' X' e')
theorem g_instNull (X : Stand p l e R s m args below meth c T locs cells slots) (hx : p.tables.exec = Jvm.exec) {index : Nat} (hd : decode c.code pc = .ok (.instanceof index, 3)) (pc' : Nat) (hp : pc + 3 = pc')
    (K : Go p e below P (T.setTop (mkF m pc' Ls (.int 0 :: st)))) : Go p e below P (T.setTop (mkF m pc Ls (.null :: st))) := by
  subst hp
  exact Go.mv (fun t q => X.instanceofNull hx (g := mkF m pc Ls (.null :: st)) rfl rfl hd t q) K
/-- an object of C (whose superclass is Object) is no K -/
theorem notSub {C O K0 : String} {n : Nat} (w : (Cond.superclass C O).before a0 Z = true) (wo : (Cond.noSuperclass O).before a0 Z = true) (wk : (Cond.instantiable K0 n).before a0 Z = true) (hn : C ≠ K0) (ho : O ≠ K0) : ∃ c t, Z.vm.findClass C = some c ∧ Z.vm.findClass K0 = some t ∧ Z.vm.assignable c t = false := by
  obtain ⟨t, k', g0, g2, g5, g7, -⟩ := Cond.instantiable_spec wk
  obtain ⟨c, h0⟩ := found_sup w
  obtain ⟨p0, k, kp, h1, h2, h3, h4, h5, -, h7⟩ := Cond.superclass_spec h0 w
  obtain ⟨cO, kO, i1, i2, i3, -, -⟩ := Cond.noSuperclass_spec wo
  cases h1.symm.trans i1
  have ne := ids_ne h0 g0 hn
  have ne2 := ids_ne h1 g0 ho
  have g8 : k'.isInterface = false := by cases hq : k'.isInterface <;> simp [hq] at g7 ⊢
  refine ⟨c, t, h0, g0, ?_⟩
  show Z.vm.assignableAux (255 + 1) c t = false
  have n3 : ∀ fuel, Z.vm.isSubclassAux fuel c t = false := fun fuel => by
    cases fuel with
    | zero => rfl
    | succ f =>
      have : Z.vm.isSubclassAux f p0 t = false := by
        cases f with
        | zero => rfl
        | succ f => simp [Vm.isSubclassAux, ne2, i2, i3]
      simp [Vm.isSubclassAux, ne, h2, h4, this]
  simp [Vm.assignableAux, ne, h2, g2, h5, g5, g8, Vm.isSubclass, n3]
end Clone
end Jvm.Own
namespace Jvm.Own
open Jvm Sem ClassFile Op Lib Jvm.Stand Jvm.Free Jvm.LawKit Jvm.RoadKit
/-- a sign of Latin-1 -/
abbrev Lat (x : Int32) : Prop := ¬ x < 0 ∧ ¬ (255 : Int32) < x
theorem Lat.nat {x : Int32} (h : Lat x) : ∃ k : Fin 256, x = Int32.ofNat k.val := by
  obtain ⟨h1, h2⟩ := h
  rw [Int32.lt_iff_toInt_lt] at h1 h2
  have e0 : (0 : Int32).toInt = 0 := rfl
  have e1 : (255 : Int32).toInt = 255 := rfl
  refine ⟨⟨x.toInt.toNat, by omega⟩, ?_⟩
  rw [← Int32.toInt_inj]
  show x.toInt = (Int32.ofNat x.toInt.toNat).toInt
  rw [Int32.toInt_ofNat_of_lt (by omega)]; omega
theorem lat_case {P : Int32 → Prop} (t : ∀ k : Fin 256, P (Int32.ofNat k.val)) {x : Int32} (h : Lat x) : P x := by
  obtain ⟨k, rfl⟩ := h.nat; exact t k
theorem lat255c (x : Int32) : Lat ((x &&& 255).toUInt32.toUInt16.toUInt32.toInt32) := by rw [c255]; exact lat255 x
theorem nar_lat {x : Int32} (h : Lat x) : nar .char x = x := lat_case (P := fun x => nar .char x = x) (by decide +kernel) h
theorem i2c_lat {x : Int32} (h : Lat x) : x.toUInt32.toUInt16.toUInt32.toInt32 = x := nar_lat h
theorem narrow_lat {x : Int32} (h : Lat x) : narrow .char (.int x) = .int x := congrArg Value.int (nar_lat h)
theorem lo_lat {x : Int32} (h : Lat x) : x.toInt8.toInt32 &&& 255 = x := lat_case (P := fun x => x.toInt8.toInt32 &&& 255 = x) (by decide +kernel) h
theorem narrow_if (P : Prop) [Decidable P] : narrow .boolean (.int (if P then 1 else 0)) = .int (if P then 1 else 0) := by split <;> rfl
theorem lat_up {cs : List Int32} (h : ∀ c ∈ cs, Lat c) : ∀ c ∈ cs, ¬ c < 0 ∧ ¬ (65535 : Int32) < c := fun c hc => ⟨(h c hc).1, fun q => (h c hc).2 (by rw [Int32.lt_iff_toInt_lt] at q ⊢; have e1 : (65535 : Int32).toInt = 65535 := rfl; have e2 : (255 : Int32).toInt = 255 := rfl; omega)⟩
theorem lat_xor1 (a b : Int32) (h : Lat a) : Lat ((a ^^^ (b &&& 1)).toUInt32.toUInt16.toUInt32.toInt32) := by
  have t : ∀ k : Fin 256, Lat ((Int32.ofNat k.val ^^^ 0).toUInt32.toUInt16.toUInt32.toInt32) ∧ Lat ((Int32.ofNat k.val ^^^ 1).toUInt32.toUInt16.toUInt32.toInt32) := by decide +kernel
  obtain ⟨k, rfl⟩ := h.nat
  rcases and_one b with e | e <;> rw [e]
  · exact (t k).1
  · exact (t k).2
theorem len12 (x : Int32) : (1 : Int32) + (x &&& 1) = 1 ∨ (1 : Int32) + (x &&& 1) = 2 := by
  rcases and_one x with e | e <;> rw [e]
  · exact Or.inl rfl
  · exact Or.inr rfl
theorem if1_ne {P : Prop} [Decidable P] (h : ¬ (if P then (1 : Int32) else 0) = 0) : P := by
  by_cases q : P
  · exact q
  · rw [if_neg q] at h; exact absurd rfl h
theorem if1_eq {P : Prop} [Decidable P] (h : (if P then (1 : Int32) else 0) = 0) : ¬ P := fun q => by rw [if_pos q] at h; exact absurd h (by decide)
end Jvm.Own
namespace Jvm.Own
open Jvm Sem ClassFile Op Lib Jvm.Stand Jvm.Free Jvm.LawKit Jvm.RoadKit
theorem nar_b (x : Int32) : nar .byte x.toInt8.toInt32 = x.toInt8.toInt32 := by show x.toInt8.toInt32.toInt8.toInt32 = _; rw [Int8.toInt8_toInt32]
end Jvm.Own
namespace Jvm.Own
open Jvm Sem ClassFile Op Lib Jvm.Stand Jvm.Free Jvm.LawKit Jvm.RoadKit
theorem mask31 (x : Int32) : ¬ (x &&& 2147483647) < 0 := fun q => absurd ((XT.and_neg32 x 2147483647).mp q).2 (by decide)
theorem mod_lt (x m : Int32) (hx : ¬ x < 0) (hm : 0 < m.toInt) : 0 ≤ (x % m).toInt ∧ (x % m).toInt < m.toInt := by
  rw [Int32.lt_iff_toInt_lt] at hx
  have e0 : (0 : Int32).toInt = 0 := rfl
  rw [Int32.toInt_mod]
  exact ⟨Int.tmod_nonneg _ (by omega), Int.tmod_lt_of_pos _ hm⟩
theorem mod3 (x : Int32) : (x &&& 2147483647) % 3 = 0 ∨ (x &&& 2147483647) % 3 = 1 ∨ (x &&& 2147483647) % 3 = 2 := by
  obtain ⟨h1, h2⟩ := mod_lt (x &&& 2147483647) 3 (mask31 x) (by decide)
  generalize (x &&& 2147483647) % 3 = y at *
  have e3 : (3 : Int32).toInt = 3 := rfl
  have : y.toInt = 0 ∨ y.toInt = 1 ∨ y.toInt = 2 := by omega
  rcases this with h | h | h
  · exact Or.inl (Int32.toInt_inj.mp (h.trans rfl))
  · exact Or.inr (Or.inl (Int32.toInt_inj.mp (h.trans rfl)))
  · exact Or.inr (Or.inr (Int32.toInt_inj.mp (h.trans rfl)))
theorem mod5 (x : Int32) : (x &&& 2147483647) % 5 = 0 ∨ (x &&& 2147483647) % 5 = 1 ∨ (x &&& 2147483647) % 5 = 2 ∨ (x &&& 2147483647) % 5 = 3 ∨ (x &&& 2147483647) % 5 = 4 := by
  obtain ⟨h1, h2⟩ := mod_lt (x &&& 2147483647) 5 (mask31 x) (by decide)
  generalize (x &&& 2147483647) % 5 = y at *
  have e3 : (5 : Int32).toInt = 5 := rfl
  have : y.toInt = 0 ∨ y.toInt = 1 ∨ y.toInt = 2 ∨ y.toInt = 3 ∨ y.toInt = 4 := by omega
  rcases this with h | h | h | h | h
  · exact Or.inl (Int32.toInt_inj.mp (h.trans rfl))
  · exact Or.inr (Or.inl (Int32.toInt_inj.mp (h.trans rfl)))
  · exact Or.inr (Or.inr (Or.inl (Int32.toInt_inj.mp (h.trans rfl))))
  · exact Or.inr (Or.inr (Or.inr (Or.inl (Int32.toInt_inj.mp (h.trans rfl)))))
  · exact Or.inr (Or.inr (Or.inr (Or.inr (Int32.toInt_inj.mp (h.trans rfl)))))
end Jvm.Own
namespace Jvm.Own
open Jvm Sem ClassFile Op Lib Jvm.Stand Jvm.Free Jvm.LawKit Jvm.RoadKit
theorem mem3 {P : Int32 → Prop} {a b c : Int32} (ha : P a) (hb : P b) (hc : P c) : ∀ x ∈ ([a, b, c] : List Int32), P x := fun x hx => by
  simp only [List.mem_cons, List.not_mem_nil, or_false] at hx
  rcases hx with rfl | rfl | rfl
  · exact ha
  · exact hb
  · exact hc
theorem mem4 {P : Int32 → Prop} {a b c d : Int32} (ha : P a) (hb : P b) (hc : P c) (hd : P d) : ∀ x ∈ ([a, b, c, d] : List Int32), P x := fun x hx => by
  simp only [List.mem_cons, List.not_mem_nil, or_false] at hx
  rcases hx with rfl | rfl | rfl | rfl
  · exact ha
  · exact hb
  · exact hc
  · exact hd
theorem and3 (x : Int32) : x &&& 3 = 0 ∨ x &&& 3 = 1 ∨ x &&& 3 = 2 ∨ x &&& 3 = 3 := by
  have h : (x &&& 3).toBitVec.toNat < 4 := by
    simp only [Int32.toBitVec_and, BitVec.toNat_and]
    exact Nat.lt_succ_of_le Nat.and_le_right
  have e : (x &&& 3) = Int32.ofNat (x &&& 3).toBitVec.toNat := by
    apply Int32.toBitVec_inj.mp
    show _ = BitVec.ofNat 32 _
    rw [BitVec.ofNat_toNat]; simp
  have t : ∀ k : Fin 4, Int32.ofNat k.val = 0 ∨ Int32.ofNat k.val = 1 ∨ Int32.ofNat k.val = 2 ∨ Int32.ofNat k.val = 3 := by decide
  rw [e]; exact t ⟨_, h⟩
end Jvm.Own
namespace Jvm.Own
open Jvm Sem ClassFile Op Lib Jvm.Stand Jvm.Free Jvm.LawKit Jvm.RoadKit
section Wide
variable {p : Program} {l : Launch} {e : Env} {R : Room} {s : State} {m : MethodId} {args : Array Value} {below : List Frame} {meth : Method} {c : Code} {T : State} {locs : List Loc} {cells slots : Nat} {P : Outcome → State → Prop} {pc : Nat} {Ls : Array Slot} {st : List Value} {Z : State} {a0 : Array Value} {h : Heap} {EL : List (String × Nat)} {vm : Vm}
/-- the end of a body that may intern -/
def EndW (Z : State) (EL : List (String × Nat)) (s : State) (Q : Option Value → Heap → List Loc → Prop) (C N : Nat) (o : Outcome) (t : State) : Prop := ∃ v L, o = .returned v ∧ Q v t.heap L ∧ CHr Z EL s.vm s.heap t.vm t.heap ∧ ReturnedEndW s o t L C N
theorem w_ret (X : Stand p l e R (s.setVm vm) m args below meth c T locs cells slots) (hx : p.tables.exec = Jvm.exec) (hZ : Z.Warmed39 (s.setVm vm).vm) (hEL : EW Z a0 EL) {k0 : Nat} (hS : s.Since vm k0) (hk : k0 ≤ h.size) (CR : CHr Z EL s.vm s.heap vm h) {t : FieldType} {v : Value} {i : Instr} (hret : meth.sig.returnType = some t) (hlocks : meth.locks = false) (hn : narrow t v = v)
    (hi : (i = .ireturn ∧ (t = .int ∨ t = .boolean ∨ t = .byte ∨ t = .char ∨ t = .short) ∧ ∃ z, v = .int z) ∨ (i = .lreturn ∧ t = .long ∧ ∃ z, v = .long z) ∨ (i = .dreturn ∧ t = .double ∧ ∃ z, v = .double z) ∨ (i = .freturn ∧ t = .float ∧ ∃ z, v = .float z) ∨ (i = .areturn ∧ t.isReference = true ∧ v.isRef = true))
    (hd : decode c.code pc = .ok (i, 1)) {Q : Option Value → Heap → List Loc → Prop} {C N : Nat} (hC : cells ≤ C) (hN : slots ≤ N) (eT : T.heap = h) (hQ : Q (some v) h locs) : Go p e below (EndW Z EL s Q C N) (T.setTop (mkF m pc Ls (v :: st))) := by
  obtain ⟨fs, hr, hrun, hended, hE⟩ := X.leaveW hS (by rw [eT]; exact hk) (v := some v) (fun h => by rw [hret] at h; cases h) hlocks
  refine ⟨_, _, retOut X hx hret hn hi hd hr, hrun, hended, _, _, rfl, by show Q _ T.heap _; rw [eT]; exact hQ, ?_, hE.1, hE.2.1, hE.2.2.1, hE.2.2.2.mono hC hN⟩
  show CHr Z EL s.vm s.heap T.vm T.heap
  rw [eT]; exact CR.trans (CHv.at X hZ hEL CR.1)
theorem w_retV (X : Stand p l e R (s.setVm vm) m args below meth c T locs cells slots) (hx : p.tables.exec = Jvm.exec) (hZ : Z.Warmed39 (s.setVm vm).vm) (hEL : EW Z a0 EL) {k0 : Nat} (hS : s.Since vm k0) (hk : k0 ≤ h.size) (CR : CHr Z EL s.vm s.heap vm h) (hret : meth.sig.returnType = none) (hlocks : meth.locks = false)
    (hd : decode c.code pc = .ok (.return_, 1)) {Q : Option Value → Heap → List Loc → Prop} {C N : Nat} (hC : cells ≤ C) (hN : slots ≤ N) (eT : T.heap = h) (hQ : Q none h locs) : Go p e below (EndW Z EL s Q C N) (T.setTop (mkF m pc Ls [])) := by
  obtain ⟨fs, hr, hrun, hended, hE⟩ := X.leaveW hS (by rw [eT]; exact hk) (v := none) (fun _ => rfl) hlocks
  refine ⟨_, _, X.returnOut hx hret hd hr, hrun, hended, _, _, rfl, by show Q _ T.heap _; rw [eT]; exact hQ, ?_, hE.1, hE.2.1, hE.2.2.1, hE.2.2.2.mono hC hN⟩
  show CHr Z EL s.vm s.heap T.vm T.heap
  rw [eT]; exact CR.trans (CHv.at X hZ hEL CR.1)
theorem w_ldc (X : Stand p l e R (s.setVm vm) m args below meth c T locs cells slots) (hx : p.tables.exec = Jvm.exec) (hZ : Z.Warmed39 (s.setVm vm).vm) {own text : String} {index : Nat} (hown : (s.setVm vm).vm.findClass own = some m.cls) (w : (Cond.stringLink own index text).before a0 Z = true) (wS : ∀ a ∈ Bundle.stringAtoms, a.before a0 Z = true)
    (eT : T.heap = h) {k0 : Nat} (hS : s.Since vm k0) (hk : k0 ≤ h.size) (hEL : EW Z a0 EL) (hmem : (own, index) ∈ EL) (H : CHv Z EL vm h) (vs : List Value) (z : Int32) (ht : (∀ c ∈ text.toList, c.toNat < 256) ∧ text.toList.map (fun c => Value.int (Jvm.Lit.byteI c.toNat.toUInt16)) = vs) (hz : ¬ z < 0) (hl : z.toNatClampNeg = vs.length)
    (hd : decode c.code pc = .ok (.ldc index, 2)) (n : Nat) (hn : 4 * text.toList.length ≤ n) (hbig : n ≤ 536870912) (hc : cells + 2 ≤ R.cells) (hl' : slots + (n + 4) ≤ R.slots) (pc' : Nat) (hp : pc + 2 = pc')
    (K : ∀ a T' h' k1 b k, Stand p l e R (s.setVm T'.vm) m args below meth c T' locs (cells + 2) (slots + (n + 4)) → T'.heap = h' → Ext h h' → s.Since T'.vm k1 → k1 ≤ h'.size → Z.Warmed39 (s.setVm T'.vm).vm → (s.setVm T'.vm).vm.findClass own = some m.cls →
      Exa Z h' a "java/lang/String" → Fld Z h' a "java/lang/String" "coder" "B" (.int 0) → Fld Z h' a "java/lang/String" "value" "[B" (.ref b) → Arv Z h' b k .byte z vs (.int 0) → CHr Z EL vm h T'.vm h' → (∀ x, Safe Z EL T'.vm h' x → x ≠ a ∧ x ≠ b) → Go p e below P (T'.setTop (mkF m pc' Ls (.ref a :: st)))) : Go p e below P (T.setTop (mkF m pc Ls st)) := by
  subst hp
  obtain ⟨a, T', h', k1, b, k, X', e', E, hS', hk', hZ', hown', A, F1, F2, V, -, -, CR, -, hs, stp⟩ := ldcCH X hx hZ hown w wS eT hS hk hEL hmem H ht hz hl (g := mkF m pc Ls st) rfl hd hn hbig hc hl'
  exact Go.mv stp (K a T' h' k1 b k X' e' E hS' hk' hZ' hown' A F1 F2 V CR hs)
theorem w_special (X : Stand p l e R (s.setVm vm) m args below meth c T locs cells slots) (hx : p.tables.exec = Jvm.exec) (hZ : Z.Warmed39 (s.setVm vm).vm) {own : String} {index : Nat} {y : MethodName} (hy1 : y.name = "<init>")
    (hown : (s.setVm vm).vm.findClass own = some m.cls) (hlink : (Cond.methodLink own index y).before args (s.setVm vm) = true) (hinst : (Cond.instanceMethod y).before args (s.setVm vm) = true)
    {bytes : ByteArray} {maxL : Nat} (hcode : (Cond.code y bytes maxL none).before args (s.setVm vm) = true) (hy : y.cls ≠ "java/lang/invoke/MethodHandle" ∧ y.cls ≠ "java/lang/invoke/VarHandle")
    {W rc rs : Nat} {a : Addr} (argsL : List Value) {Q : Option Value → Heap → List Loc → Prop} (hK : BackS l R p e below (s.setVm vm) args y 3 W (fun A b => b = (.ref a :: argsL).toArray ∧ A.U.heap = h ∧ A.cells + rc ≤ R.cells ∧ A.slots + rs ≤ R.slots) (fun A _ v B => ∃ L, Q v B.U.heap L ∧ B.locs = A.locs ++ L ∧ B.cells = A.cells + rc ∧ B.slots = A.slots + rs ∧ CHr Z EL vm h B.U.vm B.U.heap))
    (eT : T.heap = h) {k0 : Nat} (hS : s.Since vm k0) (hk : k0 ≤ h.size) (hsize : Ls.size = c.maxLocals) (rest : List Value) (hlen : ∀ sig, parseMethodDescriptor y.desc = some sig → argsL.length = sig.parameters.length)
    (hstack : st = argsL.reverse ++ .ref a :: rest) (hW : (rest.map fun v => v.category).sum ≤ W) (hd : decode c.code pc = .ok (.invokespecial index, 3)) (hc : cells + rc ≤ R.cells) (hl : slots + rs ≤ R.slots) (pc' : Nat) (hp : pc + 3 = pc')
    (K : ∀ v T' L, Stand p l e R (s.setVm T'.vm) m args below meth c T' (locs ++ L) (cells + rc) (slots + rs) → s.Since T'.vm T'.heap.size → Z.Warmed39 (s.setVm T'.vm).vm → (s.setVm T'.vm).vm.findClass own = some m.cls → CHr Z EL vm h T'.vm T'.heap → Q v T'.heap L → Go p e below P (T'.setTop (mkF m pc' Ls (v.toList ++ rest)))) : Go p e below P (T.setTop (mkF m pc Ls st)) := by
  subst hp
  obtain ⟨v, vm1, ⟨T', L', k', n'⟩, -, X', hS2, hgr, ⟨Lc, hQ, l1, y1, z1, CR⟩, k⟩ := X.specialBackS hx (y := y) hy1 hown hlink hinst hcode hy hK (g := mkF m pc Ls st) rfl hsize (Steps.refl _) (a := a) (argsL := argsL) (rest := rest) hlen hstack (by show 2 * 0 + _ ≤ _; omega) hd (fun _ _ => ⟨rfl, eT, hc, hl⟩)
  dsimp only [Pt.U, Pt.locs, Pt.cells, Pt.slots] at X' l1 y1 z1 k hQ hS2 hgr CR
  subst l1 y1 z1
  obtain ⟨X2, q1, q2, q3⟩ := rebS hS hk X' hS2 (by rw [← eT]; exact hgr) hZ hown
  exact Go.tr k (K v T' Lc X2 q1 q2 q3 CR hQ)
theorem w_callS (X : Stand p l e R (s.setVm vm) m args below meth c T locs cells slots) (hx : p.tables.exec = Jvm.exec) (hZ : Z.Warmed39 (s.setVm vm).vm) {own : String} {index : Nat} {y : MethodName} {bytes : ByteArray} {maxL : Nat} {ret : Option FieldType}
    (hown : (s.setVm vm).vm.findClass own = some m.cls) (hlink : (Cond.methodLink own index y).before args (s.setVm vm) = true) (hstat : (Cond.static y).before args (s.setVm vm) = true) (hinit : (Cond.initialized y.cls).before args (s.setVm vm) = true)
    (hcode : (Cond.code y bytes maxL ret).before args (s.setVm vm) = true) (hy : y.cls ≠ "java/lang/invoke/MethodHandle" ∧ y.cls ≠ "java/lang/invoke/VarHandle")
    {W rc rs : Nat} (argsL : List Value) {Q : Option Value → Heap → List Loc → Prop} (hK : BackS l R p e below (s.setVm vm) args y 3 W (fun A b => b = argsL.toArray ∧ A.U.heap = h ∧ A.cells + rc ≤ R.cells ∧ A.slots + rs ≤ R.slots) (fun A _ v B => ∃ L, Q v B.U.heap L ∧ B.locs = A.locs ++ L ∧ B.cells = A.cells + rc ∧ B.slots = A.slots + rs ∧ CHr Z EL vm h B.U.vm B.U.heap))
    (eT : T.heap = h) {k0 : Nat} (hS : s.Since vm k0) (hk : k0 ≤ h.size) (hsize : Ls.size = c.maxLocals) (rest : List Value) (hlen : ∀ sig, parseMethodDescriptor y.desc = some sig → argsL.length = sig.parameters.length)
    (hstack : st = argsL.reverse ++ rest) (hW : (rest.map fun v => v.category).sum ≤ W) (hd : decode c.code pc = .ok (.invokestatic index, 3)) (hc : cells + rc ≤ R.cells) (hl : slots + rs ≤ R.slots) (pc' : Nat) (hp : pc + 3 = pc')
    (K : ∀ v T' L, Stand p l e R (s.setVm T'.vm) m args below meth c T' (locs ++ L) (cells + rc) (slots + rs) → s.Since T'.vm T'.heap.size → Z.Warmed39 (s.setVm T'.vm).vm → (s.setVm T'.vm).vm.findClass own = some m.cls → CHr Z EL vm h T'.vm T'.heap → Q v T'.heap L → Go p e below P (T'.setTop (mkF m pc' Ls (v.toList ++ rest)))) : Go p e below P (T.setTop (mkF m pc Ls st)) := by
  subst hp
  obtain ⟨v, vm1, ⟨T', L', k', n'⟩, -, X', hS2, hgr, ⟨Lc, hQ, l1, y1, z1, CR⟩, k⟩ := callSS X hx (y := y) hown hlink hstat hinit hcode hy hK (g := mkF m pc Ls st) rfl hsize (argsL := argsL) (rest := rest) hlen hstack (by show 2 * 0 + _ ≤ _; omega) hd (fun _ _ => ⟨rfl, eT, hc, hl⟩)
  dsimp only [Pt.U, Pt.locs, Pt.cells, Pt.slots] at X' l1 y1 z1 k hQ hS2 hgr CR
  subst l1 y1 z1
  obtain ⟨X2, q1, q2, q3⟩ := rebS hS hk X' hS2 (by rw [← eT]; exact hgr) hZ hown
  exact Go.tr k (K v T' Lc X2 q1 q2 q3 CR hQ)
theorem w_virtual (X : Stand p l e R (s.setVm vm) m args below meth c T locs cells slots) (hx : p.tables.exec = Jvm.exec) (hZ : Z.Warmed39 (s.setVm vm).vm) {own C : String} {index : Nat} {y z : MethodName}
    (hown : (s.setVm vm).vm.findClass own = some m.cls) (hlink : (Cond.methodLink own index y).before args (s.setVm vm) = true) (hdecl : (Cond.declares y).before args (s.setVm vm) = true) (hnf : NotFace (s.setVm vm) y)
    (hsel : (Cond.selects C y z).before args (s.setVm vm) = true) (hinst : (Cond.instanceMethod z).before args (s.setVm vm) = true) (hy : y.cls ≠ "java/lang/invoke/MethodHandle" ∧ y.cls ≠ "java/lang/invoke/VarHandle")
    {W rc rs : Nat} {a : Addr} (argsL : List Value) {Q : Option Value → Heap → List Loc → Prop} (hK : BackS l R p e below (s.setVm vm) args z 3 W (fun A b => b = (.ref a :: argsL).toArray ∧ A.U.heap = h ∧ A.cells + rc ≤ R.cells ∧ A.slots + rs ≤ R.slots) (fun A _ v B => ∃ L, Q v B.U.heap L ∧ B.locs = A.locs ++ L ∧ B.cells = A.cells + rc ∧ B.slots = A.slots + rs ∧ CHr Z EL vm h B.U.vm B.U.heap))
    (E : Exa Z h a C) (eT : T.heap = h) {k0 : Nat} (hS : s.Since vm k0) (hk : k0 ≤ h.size) (hsize : Ls.size = c.maxLocals) (rest : List Value) (hlen : ∀ sig, parseMethodDescriptor y.desc = some sig → argsL.length = sig.parameters.length)
    (hstack : st = argsL.reverse ++ .ref a :: rest) (hW : (rest.map fun v => v.category).sum ≤ W) (hd : decode c.code pc = .ok (.invokevirtual index, 3)) (hc : cells + rc ≤ R.cells) (hl : slots + rs ≤ R.slots) (pc' : Nat) (hp : pc + 3 = pc')
    (K : ∀ v T' L, Stand p l e R (s.setVm T'.vm) m args below meth c T' (locs ++ L) (cells + rc) (slots + rs) → s.Since T'.vm T'.heap.size → Z.Warmed39 (s.setVm T'.vm).vm → (s.setVm T'.vm).vm.findClass own = some m.cls → CHr Z EL vm h T'.vm T'.heap → Q v T'.heap L → Go p e below P (T'.setTop (mkF m pc' Ls (v.toList ++ rest)))) : Go p e below P (T.setTop (mkF m pc Ls st)) := by
  subst hp
  obtain ⟨cq, kq, qa, qb, qc⟩ := isOf hZ eT E
  obtain ⟨v, vm1, ⟨T', L', k', n'⟩, -, X', hS2, hgr, ⟨Lc, hQ, l1, y1, z1, CR⟩, k⟩ := X.virtualBackS hx (y := y) (z := z) hown hlink hdecl hnf hsel hinst hy hK qa qc (g := mkF m pc Ls st) rfl hsize (Steps.refl _) (argsL := argsL) (rest := rest) hlen hstack (by show 2 * 0 + _ ≤ _; omega) hd (fun _ _ => ⟨rfl, eT, hc, hl⟩)
  dsimp only [Pt.U, Pt.locs, Pt.cells, Pt.slots] at X' l1 y1 z1 k hQ hS2 hgr CR
  subst l1 y1 z1
  obtain ⟨X2, q1, q2, q3⟩ := rebS hS hk X' hS2 (by rw [← eT]; exact hgr) hZ hown
  exact Go.tr k (K v T' Lc X2 q1 q2 q3 CR hQ)
theorem backW {y : MethodName} {bytes : ByteArray} {maxL : Nat} {ret : Option FieldType} {rm : Room} {len W : Nat} {as' : Array Value} {Q : Option Value → Heap → List Loc → Prop} {SF : List Addr}
    (hM : MetFree l y (head1 [Cond.code y bytes maxL ret] rm) (fun a U => a = as' ∧ Z.Warmed39 U.vm ∧ U.heap = h ∧ CHv Z EL U.vm h ∧ ∀ x ∈ SF, Safe Z EL U.vm h x) (fun _ _ _ _ _ => True) (fun _ U o U' => EndW Z EL U Q rm.cells rm.slots o U'))
    (hZ : Z.Warmed39 (s.setVm vm).vm) (wc : (Cond.code y bytes maxL ret).before a0 Z = true) (wz : (Cond.initialized y.cls).before a0 Z = true) (hf : rm.frames + 1 ≤ R.frames) (hl : W + (maxL + 11) + rm.locals ≤ R.locals) (hEL : EW Z a0 EL) (H : CHv Z EL vm h) (hSF : ∀ x ∈ SF, x < h.size ∧ Safe Z EL vm h x) :
    BackS l R p e below (s.setVm vm) args y len W (fun A a => a = as' ∧ A.U.heap = h ∧ A.cells + rm.cells ≤ R.cells ∧ A.slots + rm.slots ≤ R.slots)
      (fun A _ v B => ∃ L, Q v B.U.heap L ∧ B.locs = A.locs ++ L ∧ B.cells = A.cells + rm.cells ∧ B.slots = A.slots + rm.slots ∧ CHr Z EL vm h B.U.vm B.U.heap) :=
  BackS.of_freeW (bytes := bytes) (maxL := maxL) (ret := ret) (E := fun _ first o t L k n => k = rm.cells ∧ n = rm.slots ∧ (∃ v, o = .returned v ∧ Q v t.heap L) ∧ CHr Z EL first.vm first.heap t.vm t.heap) hM hf hl
    (fun m meth c A a Y hp => have hU : Z.Warmed39 A.U.vm := wtrans (s := s.setVm vm) hZ Y.warmed
      ⟨by show (Cond.and _ .tt).before a A.U = true; rw [Cond.before_and, mv hU wc]; rfl, mv hU wc, mv hU wz, hp.2.2.1, hp.2.2.2⟩)
    (fun m meth c A a g mk Y hp => ⟨hp.1, wtrans (s := s.setVm vm) hZ Y.warmed, hp.2.1, (CHv.at Y hZ hEL H).1, fun x hx => (CHv.at Y hZ hEL H).safe (hSF x hx).1 (hSF x hx).2⟩) (fun _ _ _ _ _ _ _ _ _ => trivial)
    (fun _ _ _ _ ⟨v, L, h1, h2, h3, h4⟩ => ⟨L, _, _, h4, rfl, rfl, ⟨v, h1, h2⟩, h3⟩)
    (fun m meth c A a g mk v t L k n Y hp _ _ ⟨e1, e2, ⟨v', e3, e4⟩, e5⟩ => by
      cases e3; subst e1 e2
      refine ⟨L, e4, rfl, rfl, rfl, (CHv.at Y hZ hEL H).trans ?_⟩
      rw [← hp.2.1]; exact e5)
end Wide
end Jvm.Own
/- laws to paste: Road.backV, Road.eqW, Road.codOf (cut by pick.py; bodies as the Statement names them) -/
namespace Jvm.Pilot.@@N@@
namespace StrChars
open Jvm Sem ClassFile Op Lib Jvm.Stand Jvm.Free.XT Jvm.Free.ALB Jvm.Free.JM Jvm.Free
open Jvm.Lib.Cold (StaticIs)
/-- a char array whose places are chars -/
def Ch (a : Addr) (A : Cell) (U : State) : Prop := Arr .char a A U ∧ Typed .char A
theorem Ch.mv {a : Addr} {A : Cell} {U U' : State} (h : Ch a A U) (hal : U.vm.Alike U'.vm) (hh : U'.heap = U.heap) : Ch a A U' := ⟨h.1.mv hal hh, h.2⟩
theorem Ch.keep {a : Addr} {A : Cell} {U U' : State} (h : Ch a A U) (hal : U.vm.Alike U'.vm) (hk : U'.heap[a]? = some A) : Ch a A U' := ⟨h.1.keep hal hk, h.2⟩
/-- what place i of a char[]'s cell holds -/
def cv (A : Cell) (i : Nat) : Int32 := match A.slots[i]? with | some (.int x) => x | _ => 0
theorem Ch.get {a : Addr} {A : Cell} {U : State} (h : Ch a A U) {i : Nat} (hi : i < A.slots.size) : A.slots[i]? = some (.int (cv A i)) := by
  have e := Array.getElem?_eq_getElem hi
  have f := h.2 i _ e
  unfold cv; rw [e]
  generalize A.slots[i] = v at f
  cases v <;> simp [fits] at f ⊢
/-- the byte that i2b leaves of a char -/
def lo8 (x : Int32) : Int32 := x.toInt8.toInt32
theorem fits_lo8 (y : Int32) : fits .byte (.int (lo8 y)) = true := by
  have h1 := y.toInt8.le_toInt
  have h2 := y.toInt8.toInt_lt
  simp only [lo8, fits, Bool.and_eq_true, decide_eq_true_eq, Int32.le_iff_toInt_le, Int8.toInt_toInt32, show (-128 : Int32).toInt = -128 from by decide, show (127 : Int32).toInt = 127 from by decide]
  omega
/-- A' is A but that each place j of lo .. hi - 1 holds f j -/
def Laid (A A' : Cell) (lo hi : Nat) (f : Nat → Value) : Prop := A'.cls = A.cls ∧ A'.vm = A.vm ∧ A'.slots.size = A.slots.size ∧ ∀ i, A'.slots[i]? = if lo ≤ i ∧ i < hi then some (f i) else A.slots[i]?
theorem Laid.zero (A : Cell) (lo : Nat) (f : Nat → Value) : Laid A A lo (lo + 0) f := ⟨rfl, rfl, rfl, fun i => by rw [if_neg (by omega)]⟩
theorem Laid.step {A Ak : Cell} {lo k : Nat} {f : Nat → Value} {v : Value} (h : Laid A Ak lo k f) (hlo : lo ≤ k) (hk : k < Ak.slots.size) (hv : v = f k) : Laid A (Ak.setSlot k v) lo (k + 1) f := by
  refine ⟨h.1, h.2.1, by simpa [Cell.setSlot] using h.2.2.1, fun i => ?_⟩
  by_cases e : k = i
  · subst e; rw [Cell.slots_setSlot_self v hk, if_pos (by omega), hv]
  · rw [Cell.slots_setSlot_ne v e, h.2.2.2 i]
    by_cases q : lo ≤ i ∧ i < k
    · rw [if_pos q, if_pos (by omega)]
    · rw [if_neg q, if_neg (by omega)]
def U16 : String := "java/lang/StringUTF16"
namespace Cmp5
def yN : MethodName := ⟨"java/lang/StringUTF16", "compress", "([CI[BII)I"⟩
abbrev yB : ByteArray := jdk_52_method_21_code
theorem d0 : decode yB 0 = .ok (.iconst 0, 1) := by decide +kernel
theorem d1 : decode yB 1 = .ok (.istore 5, 2) := by decide +kernel
theorem d3 : decode yB 3 = .ok (.iload 5, 2) := by decide +kernel
theorem d5 : decode yB 5 = .ok (.iload 4, 2) := by decide +kernel
theorem d7 : decode yB 7 = .ok (.if_icmp (.ge) 37, 3) := by decide +kernel
theorem d10 : decode yB 10 = .ok (.aload_n 0, 1) := by decide +kernel
theorem d11 : decode yB 11 = .ok (.iload_n 1, 1) := by decide +kernel
theorem d12 : decode yB 12 = .ok (.caload, 1) := by decide +kernel
theorem d13 : decode yB 13 = .ok (.istore 6, 2) := by decide +kernel
theorem d15 : decode yB 15 = .ok (.iload 6, 2) := by decide +kernel
theorem d17 : decode yB 17 = .ok (.sipush 255, 3) := by decide +kernel
theorem d20 : decode yB 20 = .ok (.if_icmp (.le) 6, 3) := by decide +kernel
theorem d26 : decode yB 26 = .ok (.aload_n 2, 1) := by decide +kernel
theorem d27 : decode yB 27 = .ok (.iload_n 3, 1) := by decide +kernel
theorem d28 : decode yB 28 = .ok (.iload 6, 2) := by decide +kernel
theorem d30 : decode yB 30 = .ok (.i2b, 1) := by decide +kernel
theorem d31 : decode yB 31 = .ok (.bastore, 1) := by decide +kernel
theorem d32 : decode yB 32 = .ok (.iinc 1 1, 3) := by decide +kernel
theorem d35 : decode yB 35 = .ok (.iinc 3 1, 3) := by decide +kernel
theorem d38 : decode yB 38 = .ok (.iinc 5 1, 3) := by decide +kernel
theorem d41 : decode yB 41 = .ok (.goto (-38), 3) := by decide +kernel
theorem d44 : decode yB 44 = .ok (.iload 4, 2) := by decide +kernel
theorem d46 : decode yB 46 = .ok (.ireturn, 1) := by decide +kernel
def site : List Cond := []
def tab : Cond := tabOf yN yB 7 (some .int) site
def P (b : Addr) (A : Cell) (d : Addr) (B : Cell) (o q len : Nat) (args : Array Value) (s : State) : Prop := args = #[.ref b, .int (Int32.ofNat o), .ref d, .int (Int32.ofNat q), .int (Int32.ofNat len)] ∧ Ch b A s ∧ Arr .byte d B s ∧ b ≠ d ∧ o + len ≤ A.slots.size ∧ q + len ≤ B.slots.size ∧ ∀ i, i < len → ¬ 255 < cv A (o + i)
def E (b : Addr) (A : Cell) (d : Addr) (B : Cell) (o q len : Nat) (r : Option Value) (s u : State) : Prop := r = some (.int (Int32.ofNat len)) ∧ ∃ B', Put d B' s u ∧ Laid B B' q (q + len) (fun j => Value.int (lo8 (cv A (o + (j - q)))))
/-- no char of the range above 255: len; the places written hold each char's low byte -/
theorem law (l : Launch) (b : Addr) (A : Cell) (d : Addr) (B : Cell) (o q len : Nat) : Law l yN 5 5 0 0 yB 7 (some .int) site (P b A d B o q len) (E b A d B o q len) (copyLocs d q len) 0 0 := by
  refine Law.of_walk (plainFor_of_name (by decide +kernel)) (by decide +kernel) (by decide +kernel) (by decide) (fun _ _ h => by rw [h.1]; rfl) (fun _ U U' hal hh h => ⟨h.1, h.2.1.mv hal hh, h.2.2.1.mv hal hh, h.2.2.2⟩) (fun r U U' V V' h1 hal h2 h => ⟨h.1, h.2.elim fun B' q => ⟨B', q.1.mv h1 h2, q.2⟩⟩) ?_
  intro p e s m args below meth c s₁ X0 hexec hbytes hml hret hlk hnm hown hh0 W hP
  obtain ⟨rfl, hA, hB, hne, l1, l2, hp⟩ := hP
  have c1 : Steps p.tables e below (s₁.setTop (entryFrame m #[.ref b, .int (Int32.ofNat o), .ref d, .int (Int32.ofNat q), .int (Int32.ofNat len)] 7)) (s₁.setTop (mkF m 0 #[.val (.ref b), .val (.int (Int32.ofNat o)), .val (.ref d), .val (.int (Int32.ofNat q)), .val (.int (Int32.ofNat len)), .unset, .unset] [])) := entry rfl
  have hA0 := hA.1.mv X0.warmed.alike hh0
  have hB0 := hB.mv X0.warmed.alike hh0
  have a31 := hA.1.2.2.2
  have c2 : Steps p.tables e below (s₁.setTop (entryFrame m #[.ref b, .int (Int32.ofNat o), .ref d, .int (Int32.ofNat q), .int (Int32.ofNat len)] 7)) (s₁.setTop (mkF m 3 #[.val (.ref b), .val (.int (Int32.ofNat o)), .val (.ref d), .val (.int (Int32.ofNat q)), .val (.int (Int32.ofNat len)), .val (.int 0), .unset] [])) := c1.trans (by
    refine iconstV X0.here hexec rfl 0 (hb hbytes d0) (by decide) ?_
    refine XS.istore X0.here hexec rfl (hb hbytes d1) rfl rfl ?_
    exact Steps.refl _)
  have loop : ∀ (r i : Nat), i + r = len → ∀ (z : Slot), (z = .unset ∨ ∃ w, z = .val w ∧ w.category = 1) → ∀ (Tl : State) (Bk : Cell), Stand p l e { frames := 0, locals := 0, cells := 0, slots := 0 } s m #[.ref b, .int (Int32.ofNat o), .ref d, .int (Int32.ofNat q), .int (Int32.ofNat len)] below meth c Tl ([] ++ copyLocs d q i) 0 0 → Put d Bk s₁ Tl → Laid B Bk q (q + i) (fun j => Value.int (lo8 (cv A (o + (j - q))))) →
      Steps p.tables e below (s₁.setTop (entryFrame m #[.ref b, .int (Int32.ofNat o), .ref d, .int (Int32.ofNat q), .int (Int32.ofNat len)] 7)) (Tl.setTop (mkF m 3 #[.val (.ref b), .val (.int (Int32.ofNat (o + i))), .val (.ref d), .val (.int (Int32.ofNat (q + i))), .val (.int (Int32.ofNat len)), .val (.int (Int32.ofNat i)), z] [])) → ∃ (T' : State) (B' : Cell) (z' : Slot), Stand p l e { frames := 0, locals := 0, cells := 0, slots := 0 } s m #[.ref b, .int (Int32.ofNat o), .ref d, .int (Int32.ofNat q), .int (Int32.ofNat len)] below meth c T' ([] ++ copyLocs d q len) 0 0 ∧ Put d B' s₁ T' ∧ Laid B B' q (q + len) (fun j => Value.int (lo8 (cv A (o + (j - q))))) ∧
      Steps p.tables e below (s₁.setTop (entryFrame m #[.ref b, .int (Int32.ofNat o), .ref d, .int (Int32.ofNat q), .int (Int32.ofNat len)] 7)) (T'.setTop (mkF m 3 #[.val (.ref b), .val (.int (Int32.ofNat (o + len))), .val (.ref d), .val (.int (Int32.ofNat (q + len))), .val (.int (Int32.ofNat len)), .val (.int (Int32.ofNat len)), z'] [])) := by
    intro r
    induction r with
    | zero =>
      intro i hi z hz Tl Bk Xl pl fl cl
      have hil : i = len := by omega
      rw [hil] at Xl fl cl
      exact ⟨Tl, Bk, z, Xl, pl, fl, cl⟩
    | succ r ih =>
      intro i hi z hz Tl Bk Xl pl fl cl
      have all := X0.warmed.alike.symm.trans Xl.warmed.alike
      have hAl := hA0.keep all (pl.other hne hA0.1)
      have hBk := hB0.like all pl.1 fl.1 fl.2.1 fl.2.2.1
      have hlt : q + i < Bk.slots.size := by rw [fl.2.2.1]; omega
      have c3 : Steps p.tables e below (s₁.setTop (entryFrame m #[.ref b, .int (Int32.ofNat o), .ref d, .int (Int32.ofNat q), .int (Int32.ofNat len)] 7)) (Tl.setTop (mkF m 12 #[.val (.ref b), .val (.int (Int32.ofNat (o + i))), .val (.ref d), .val (.int (Int32.ofNat (q + i))), .val (.int (Int32.ofNat len)), .val (.int (Int32.ofNat i)), z] [.int (Int32.ofNat (o + i)), .ref b])) := cl.trans (by
        refine XS.iload Xl.here hexec rfl (hb hbytes d3) rfl ?_
        refine XS.iload Xl.here hexec rfl (hb hbytes d5) rfl ?_
        refine XS.icmpNo Xl.here hexec rfl (hb hbytes d7) rfl (ii_ge_f (lt32 (by omega) (by omega))) ?_
        refine XS.aloadN Xl.here hexec rfl (hb hbytes d10) rfl rfl ?_
        refine XS.iloadN Xl.here hexec rfl (hb hbytes d11) rfl ?_
        exact Steps.refl _)
      have c4 : Steps p.tables e below (s₁.setTop (entryFrame m #[.ref b, .int (Int32.ofNat o), .ref d, .int (Int32.ofNat q), .int (Int32.ofNat len)] 7)) (Tl.setTop (mkF m 13 #[.val (.ref b), .val (.int (Int32.ofNat (o + i))), .val (.ref d), .val (.int (Int32.ofNat (q + i))), .val (.int (Int32.ofNat len)), .val (.int (Int32.ofNat i)), z] [.int (cv A (o + i))])) := c3.trans (by
        refine Xl.aget hexec hAl rfl (hA.get (i := o + i) (by omega)) rfl rfl (hb hbytes d12) ?_
        exact Steps.refl _)
      have c5 : Steps p.tables e below (s₁.setTop (entryFrame m #[.ref b, .int (Int32.ofNat o), .ref d, .int (Int32.ofNat q), .int (Int32.ofNat len)] 7)) (Tl.setTop (mkF m 15 #[.val (.ref b), .val (.int (Int32.ofNat (o + i))), .val (.ref d), .val (.int (Int32.ofNat (q + i))), .val (.int (Int32.ofNat len)), .val (.int (Int32.ofNat i)), .val (.int (cv A (o + i)))] [])) := c4.trans (by
        refine XS.istoreS Xl.here hexec rfl (hb hbytes d13) rfl rfl hz ?_
        exact Steps.refl _)
      have c6 : Steps p.tables e below (s₁.setTop (entryFrame m #[.ref b, .int (Int32.ofNat o), .ref d, .int (Int32.ofNat q), .int (Int32.ofNat len)] 7)) (Tl.setTop (mkF m 31 #[.val (.ref b), .val (.int (Int32.ofNat (o + i))), .val (.ref d), .val (.int (Int32.ofNat (q + i))), .val (.int (Int32.ofNat len)), .val (.int (Int32.ofNat i)), .val (.int (cv A (o + i)))] [.int (lo8 (cv A (o + i))), .int (Int32.ofNat (q + i)), .ref d])) := c5.trans (by
        refine XS.iload Xl.here hexec rfl (hb hbytes d15) rfl ?_
        refine sipushV Xl.here hexec rfl 255 (hb hbytes d17) (by decide) ?_
        refine XS.icmpYes Xl.here hexec rfl (pc0 := 20) rfl (hb hbytes d20) rfl (ii_le_t (hp i (by omega))) (by decide) rfl ?_
        refine XS.aloadN Xl.here hexec rfl (hb hbytes d26) rfl rfl ?_
        refine XS.iloadN Xl.here hexec rfl (hb hbytes d27) rfl ?_
        refine XS.iload Xl.here hexec rfl (hb hbytes d28) rfl ?_
        refine i2b Xl.here hexec rfl (hb hbytes d30) rfl ?_
        exact Steps.refl _)
      obtain ⟨T7, X7, p7, st7⟩ := Xl.aput hexec hBk rfl hlt rfl (fits_lo8 (cv A (o + i))) (g := (mkF m 31 #[.val (.ref b), .val (.int (Int32.ofNat (o + i))), .val (.ref d), .val (.int (Int32.ofNat (q + i))), .val (.int (Int32.ofNat len)), .val (.int (Int32.ofNat i)), .val (.int (cv A (o + i)))] [.int (lo8 (cv A (o + i))), .int (Int32.ofNat (q + i)), .ref d])) rfl (rest := []) rfl (hb hbytes d31)
      have c8 : Steps p.tables e below (s₁.setTop (entryFrame m #[.ref b, .int (Int32.ofNat o), .ref d, .int (Int32.ofNat q), .int (Int32.ofNat len)] 7)) (T7.setTop (mkF m 32 #[.val (.ref b), .val (.int (Int32.ofNat (o + i))), .val (.ref d), .val (.int (Int32.ofNat (q + i))), .val (.int (Int32.ofNat len)), .val (.int (Int32.ofNat i)), .val (.int (cv A (o + i)))] [])) := c6.trans (st7 _ (Steps.refl _))
      have c9 : Steps p.tables e below (s₁.setTop (entryFrame m #[.ref b, .int (Int32.ofNat o), .ref d, .int (Int32.ofNat q), .int (Int32.ofNat len)] 7)) (T7.setTop (mkF m 3 #[.val (.ref b), .val (.int (Int32.ofNat (o + i) + 1)), .val (.ref d), .val (.int (Int32.ofNat (q + i) + 1)), .val (.int (Int32.ofNat len)), .val (.int (Int32.ofNat i + 1)), .val (.int (cv A (o + i)))] [])) := c8.trans (by
        refine iincV X7.here hexec rfl 1 (hb hbytes d32) (by decide) rfl rfl ?_
        refine iincV X7.here hexec rfl 1 (hb hbytes d35) (by decide) rfl rfl ?_
        refine iincV X7.here hexec rfl 1 (hb hbytes d38) (by decide) rfl rfl ?_
        refine XS.goto X7.here hexec rfl (pc0 := 41) rfl (hb hbytes d41) (by decide) rfl ?_
        exact Steps.refl _)
      have c10 : Steps p.tables e below (s₁.setTop (entryFrame m #[.ref b, .int (Int32.ofNat o), .ref d, .int (Int32.ofNat q), .int (Int32.ofNat len)] 7)) (T7.setTop (mkF m 3 #[.val (.ref b), .val (.int (Int32.ofNat (o + (i + 1)))), .val (.ref d), .val (.int (Int32.ofNat (q + (i + 1)))), .val (.int (Int32.ofNat len)), .val (.int (Int32.ofNat (i + 1))), .val (.int (cv A (o + i)))] [])) := by
        have := c9
        rw [succ32, succ32, succ32] at this
        exact this
      exact ih (i + 1) (by omega) _ (Or.inr ⟨_, rfl, rfl⟩) T7 _ (by rw [copyLocs_step, ← List.append_assoc]; exact X7) (pl.trans p7) (fl.step (by omega) hlt (by simp)) c10
  obtain ⟨T9, B9, z9, X9, p9, f9, g9⟩ := loop len 0 (by omega) .unset (Or.inl rfl) s₁ B (by simpa [copyLocs] using X0) ⟨hB0.1, fun _ _ => rfl, rfl⟩ (Laid.zero _ _ _) c2
  have c11 : Steps p.tables e below (s₁.setTop (entryFrame m #[.ref b, .int (Int32.ofNat o), .ref d, .int (Int32.ofNat q), .int (Int32.ofNat len)] 7)) (T9.setTop (mkF m 46 #[.val (.ref b), .val (.int (Int32.ofNat (o + len))), .val (.ref d), .val (.int (Int32.ofNat (q + len))), .val (.int (Int32.ofNat len)), .val (.int (Int32.ofNat len)), z9] [.int (Int32.ofNat len)])) := g9.trans (by
    refine XS.iload X9.here hexec rfl (hb hbytes d3) rfl ?_
    refine XS.iload X9.here hexec rfl (hb hbytes d5) rfl ?_
    refine XS.icmpYes X9.here hexec rfl (pc0 := 7) rfl (hb hbytes d7) rfl (ii_ge_t (nlt32 (by omega) (Nat.le_refl _))) (by decide) rfl ?_
    refine XS.iload X9.here hexec rfl (hb hbytes d44) rfl ?_
    exact Steps.refl _)
  exact ⟨T9, some (.int (Int32.ofNat len)), _, _, _, X9, by simp, rfl, rfl, (fun h => by cases h), ⟨rfl, B9, p9.from hh0, f9⟩, fun fs hl => c11.trans (X9.ireturnOut hexec hret rfl (Or.inl rfl) (hb hbytes d46) hl)⟩
end Cmp5
namespace Cmp3
def yN : MethodName := ⟨"java/lang/StringUTF16", "compress", "([CII)[B"⟩
abbrev yB : ByteArray := jdk_52_method_16_code
theorem d0 : decode yB 0 = .ok (.iload_n 2, 1) := by decide +kernel
theorem d1 : decode yB 1 = .ok (.newarray .byte, 2) := by decide +kernel
theorem d3 : decode yB 3 = .ok (.astore_n 3, 1) := by decide +kernel
theorem d4 : decode yB 4 = .ok (.aload_n 0, 1) := by decide +kernel
theorem d5 : decode yB 5 = .ok (.iload_n 1, 1) := by decide +kernel
theorem d6 : decode yB 6 = .ok (.aload_n 3, 1) := by decide +kernel
theorem d7 : decode yB 7 = .ok (.iconst 0, 1) := by decide +kernel
theorem d8 : decode yB 8 = .ok (.iload_n 2, 1) := by decide +kernel
theorem d9 : decode yB 9 = .ok (.invokestatic 115, 3) := by decide +kernel
theorem d12 : decode yB 12 = .ok (.istore 4, 2) := by decide +kernel
theorem d14 : decode yB 14 = .ok (.iload 4, 2) := by decide +kernel
theorem d16 : decode yB 16 = .ok (.iload_n 2, 1) := by decide +kernel
theorem d17 : decode yB 17 = .ok (.if_icmp (.eq) 40, 3) := by decide +kernel
theorem d57 : decode yB 57 = .ok (.aload_n 3, 1) := by decide +kernel
theorem d58 : decode yB 58 = .ok (.areturn, 1) := by decide +kernel
def site : List Cond := [.arrayClass .byte, Cmp5.tab] ++ staticW U16 115 Cmp5.yN
def tab : Cond := tabOf yN yB 6 (some (.array .byte)) site
def P (b : Addr) (A : Cell) (o len : Nat) (args : Array Value) (s : State) : Prop := args = #[.ref b, .int (Int32.ofNat o), .int (Int32.ofNat len)] ∧ Ch b A s ∧ o + len ≤ A.slots.size ∧ len ≤ 536870912 ∧ ∀ i, i < len → ¬ 255 < cv A (o + i)
def E (b : Addr) (A : Cell) (o len : Nat) (r : Option Value) (s u : State) : Prop := NewArr .byte "[B" len (fun j => .int (lo8 (cv A (o + j)))) r s u ∧ u.heap.size = s.heap.size + 1
/-- no char of the range above 255: a new byte[] of their low bytes -/
theorem law (l : Launch) (b : Addr) (A : Cell) (o len : Nat) : Law l yN 3 3 1 18 yB 6 (some (.array .byte)) site (P b A o len) (E b A o len) [] 1 len := by
  refine Law.of_walk (plainFor_of_name (by decide +kernel)) (by decide +kernel) (by decide +kernel) (by decide) (fun _ _ h => by rw [h.1]; rfl) (fun _ U U' hal hh h => ⟨h.1, h.2.1.mv hal hh, h.2.2⟩) (fun r U U' V V' h1 hal h2 h => ⟨NewArr.mv r U U' V V' h1 hal h2 h.1, by rw [h1, h2]; exact h.2⟩) ?_
  intro p e s m args below meth c s₁ X0 hexec hbytes hml hret hlk hnm hown hh0 W hP
  obtain ⟨rfl, hA, l1, l2, hp⟩ := hP
  have a31 := hA.1.2.2.2
  have c1 : Steps p.tables e below (s₁.setTop (entryFrame m #[.ref b, .int (Int32.ofNat o), .int (Int32.ofNat len)] 6)) (s₁.setTop (mkF m 0 #[.val (.ref b), .val (.int (Int32.ofNat o)), .val (.int (Int32.ofNat len)), .unset, .unset, .unset] [])) := entry rfl
  have c2 : Steps p.tables e below (s₁.setTop (entryFrame m #[.ref b, .int (Int32.ofNat o), .int (Int32.ofNat len)] 6)) (s₁.setTop (mkF m 1 #[.val (.ref b), .val (.int (Int32.ofNat o)), .val (.int (Int32.ofNat len)), .unset, .unset, .unset] [.int (Int32.ofNat len)])) := c1.trans (by
    refine XS.iloadN X0.here hexec rfl (hb hbytes d0) rfl ?_
    exact Steps.refl _)
  obtain ⟨T3, B3, X3, ba3, bs3, bv3, bh3, bf3, st3⟩ := X0.anew hexec (atype := .byte) (wk W (.arrayClass .byte)) rfl (by show len * 1 ≤ _; omega) (by omega) (g := (mkF m 1 #[.val (.ref b), .val (.int (Int32.ofNat o)), .val (.int (Int32.ofNat len)), .unset, .unset, .unset] [.int (Int32.ofNat len)])) rfl (hb hbytes d1) (rest := []) rfl (Nat.le_refl _) (by show 0 + len ≤ len; omega)
  rw [hh0] at ba3 st3
  have kp3 : XT.Kept s T3 := (XT.Kept.of_eq hh0).push bh3
  have hA3 := hA.keep X3.warmed.alike (kp3 _ _ hA.1.1)
  have hne : b ≠ s.heap.size := hA.1.ne
  have c4 : Steps p.tables e below (s₁.setTop (entryFrame m #[.ref b, .int (Int32.ofNat o), .int (Int32.ofNat len)] 6)) (T3.setTop (mkF m 3 #[.val (.ref b), .val (.int (Int32.ofNat o)), .val (.int (Int32.ofNat len)), .unset, .unset, .unset] [.ref s.heap.size])) := c2.trans (st3 _ (Steps.refl _))
  have c5 : Steps p.tables e below (s₁.setTop (entryFrame m #[.ref b, .int (Int32.ofNat o), .int (Int32.ofNat len)] 6)) (T3.setTop (mkF m 9 #[.val (.ref b), .val (.int (Int32.ofNat o)), .val (.int (Int32.ofNat len)), .val (.ref s.heap.size), .unset, .unset] [.int (Int32.ofNat len), .int 0, .ref s.heap.size, .int (Int32.ofNat o), .ref b])) := c4.trans (by
    refine XS.astoreN X3.here hexec rfl (hb hbytes d3) rfl rfl rfl ?_
    refine XS.aloadN X3.here hexec rfl (hb hbytes d4) rfl rfl ?_
    refine XS.iloadN X3.here hexec rfl (hb hbytes d5) rfl ?_
    refine XS.aloadN X3.here hexec rfl (hb hbytes d6) rfl rfl ?_
    refine iconstV X3.here hexec rfl 0 (hb hbytes d7) (by decide) ?_
    refine XS.iloadN X3.here hexec rfl (hb hbytes d8) rfl ?_
    exact Steps.refl _)
  obtain ⟨v6, T6, X6, E6, g6⟩ := X3.callS hexec (Cmp5.law l b A s.heap.size B3 o 0 len) hown (wks W (staticW U16 115 Cmp5.yN)) (wk W Cmp5.tab) (W := 0) (Nat.le_of_ble_eq_true rfl) (Nat.le_of_ble_eq_true rfl) (Nat.le_refl _) (by show 0 + len + 0 ≤ len; omega) (g := (mkF m 9 #[.val (.ref b), .val (.int (Int32.ofNat o)), .val (.int (Int32.ofNat len)), .val (.ref s.heap.size), .unset, .unset] [.int (Int32.ofNat len), .int (Int32.ofNat 0), .ref s.heap.size, .int (Int32.ofNat o), .ref b])) rfl (by rw [hml]; rfl) c5 (argsL := [.ref b, .int (Int32.ofNat o), .ref s.heap.size, .int (Int32.ofNat 0), .int (Int32.ofNat len)]) (rest := []) rfl rfl (by show 2 * 0 + 0 ≤ _; decide) (hb hbytes d9) (⟨rfl, hA3, ba3, hne, l1, by rw [bs3]; simp, hp⟩)
  obtain ⟨rfl, B6, p6, f6⟩ := E6
  have c7 : Steps p.tables e below (s₁.setTop (entryFrame m #[.ref b, .int (Int32.ofNat o), .int (Int32.ofNat len)] 6)) (T6.setTop (mkF m 12 #[.val (.ref b), .val (.int (Int32.ofNat o)), .val (.int (Int32.ofNat len)), .val (.ref s.heap.size), .unset, .unset] [.int (Int32.ofNat len)])) := g6
  have c8 : Steps p.tables e below (s₁.setTop (entryFrame m #[.ref b, .int (Int32.ofNat o), .int (Int32.ofNat len)] 6)) (T6.setTop (mkF m 58 #[.val (.ref b), .val (.int (Int32.ofNat o)), .val (.int (Int32.ofNat len)), .val (.ref s.heap.size), .val (.int (Int32.ofNat len)), .unset] [.ref s.heap.size])) := c7.trans (by
    refine XS.istore X6.here hexec rfl (hb hbytes d12) rfl rfl ?_
    refine XS.iload X6.here hexec rfl (hb hbytes d14) rfl ?_
    refine XS.iloadN X6.here hexec rfl (hb hbytes d16) rfl ?_
    refine XS.icmpYes X6.here hexec rfl (pc0 := 17) rfl (hb hbytes d17) rfl (ii_eq_t rfl) (by decide) rfl ?_
    refine XS.aloadN X6.here hexec rfl (hb hbytes d57) rfl rfl ?_
    exact Steps.refl _)
  have X8 := X6.wide (L' := []) (cells' := 1) (slots' := len) (fun x hx hlt => by
    simp only [List.nil_append, copyLocs, List.mem_map, List.mem_range] at hx
    obtain ⟨i, -, rfl⟩ := hx
    exact absurd hlt (Nat.lt_irrefl _)) (Nat.le_refl _) (by omega)
  exact ⟨T6, some (.ref s.heap.size), _, _, _, X8, rfl, rfl, rfl, (fun h => by cases h), ⟨⟨rfl, B6, ba3.like (X3.warmed.alike.symm.trans X6.warmed.alike) p6.1 f6.1 f6.2.1 f6.2.2.1, f6.2.1.trans bv3, by rw [X6.warmed.alike.findClass, f6.1]; exact bf3, by rw [f6.2.2.1, bs3]; simp, fun j hj => by rw [f6.2.2.2 j, if_pos (by omega)]; rfl, kp3.put p6 (Nat.le_refl _)⟩, by rw [p6.2.2, bh3, hh0]; simp⟩, fun fs hl => c8.trans (X8.areturnOut hexec rfl hret rfl (hb hbytes d58) hl)⟩
end Cmp3
namespace CodL
def yN : MethodName := ⟨"java/lang/StringUTF16", "coderFromArrayLen", "([BI)B"⟩
abbrev yB : ByteArray := jdk_52_method_15_code
theorem d0 : decode yB 0 = .ok (.iload_n 1, 1) := by decide +kernel
theorem d1 : decode yB 1 = .ok (.aload_n 0, 1) := by decide +kernel
theorem d2 : decode yB 2 = .ok (.arraylength, 1) := by decide +kernel
theorem d3 : decode yB 3 = .ok (.isub, 1) := by decide +kernel
theorem d4 : decode yB 4 = .ok (.bipush 31, 2) := by decide +kernel
theorem d6 : decode yB 6 = .ok (.iushr, 1) := by decide +kernel
theorem d7 : decode yB 7 = .ok (.i2b, 1) := by decide +kernel
theorem d8 : decode yB 8 = .ok (.ireturn, 1) := by decide +kernel
def site : List Cond := []
def tab : Cond := tabOf yN yB 2 (some .byte) site
def P (d : Addr) (B : Cell) (args : Array Value) (s : State) : Prop := args = #[.ref d, .int (Int32.ofNat B.slots.size)] ∧ Arr .byte d B s
def E (r : Option Value) (s u : State) : Prop := XT.PureE (some (.int 0)) r s u
/-- an array as long as the number of chars: LATIN1 -/
theorem law (l : Launch) (d : Addr) (B : Cell) : Law l yN 2 2 0 0 yB 2 (some .byte) site (P d B) E [] 0 0 := by
  refine Law.of_walk (plainFor_of_name (by decide +kernel)) (by decide +kernel) (by decide +kernel) (by decide) (fun _ _ h => by rw [h.1]; rfl) (fun _ U U' hal hh h => ⟨h.1, h.2.mv hal hh⟩) (fun r U U' V V' h1 hal h2 h => XT.PureE.mv r U U' V V' h1 hal h2 h) ?_
  intro p e s m args below meth c s₁ X0 hexec hbytes hml hret hlk hnm hown hh0 W hP
  obtain ⟨rfl, hB⟩ := hP
  have hB0 := hB.mv X0.warmed.alike hh0
  have c1 : Steps p.tables e below (s₁.setTop (entryFrame m #[.ref d, .int (Int32.ofNat B.slots.size)] 2)) (s₁.setTop (mkF m 0 #[.val (.ref d), .val (.int (Int32.ofNat B.slots.size))] [])) := entry rfl
  have c2 : Steps p.tables e below (s₁.setTop (entryFrame m #[.ref d, .int (Int32.ofNat B.slots.size)] 2)) (s₁.setTop (mkF m 2 #[.val (.ref d), .val (.int (Int32.ofNat B.slots.size))] [.ref d, .int (Int32.ofNat B.slots.size)])) := c1.trans (by
    refine XS.iloadN X0.here hexec rfl (hb hbytes d0) rfl ?_
    refine XS.aloadN X0.here hexec rfl (hb hbytes d1) rfl rfl ?_
    exact Steps.refl _)
  have c3 : Steps p.tables e below (s₁.setTop (entryFrame m #[.ref d, .int (Int32.ofNat B.slots.size)] 2)) (s₁.setTop (mkF m 8 #[.val (.ref d), .val (.int (Int32.ofNat B.slots.size))] [.int (lo8 (ushr (Int32.ofNat B.slots.size - Int32.ofNat B.slots.size) 31))])) := c2.trans (by
    refine X0.alen hexec hB0 rfl rfl (hb hbytes d2) ?_
    refine XS.isub X0.here hexec rfl (hb hbytes d3) rfl ?_
    refine bipushV X0.here hexec rfl 31 (hb hbytes d4) (by decide) ?_
    refine iushr X0.here hexec rfl (hb hbytes d6) rfl ?_
    refine i2b X0.here hexec rfl (hb hbytes d7) rfl ?_
    exact Steps.refl _)
  have e0 : lo8 (ushr (Int32.ofNat B.slots.size - Int32.ofNat B.slots.size) 31) = 0 := by rw [Int32.sub_self]; decide
  rw [e0] at c3
  exact ⟨s₁, some (.int 0), _, _, _, X0, rfl, rfl, rfl, (fun h => by cases h), ⟨rfl, hh0⟩, fun fs hl => c3.trans (X0.ireturnOut hexec hret rfl (Or.inr (Or.inr (Or.inl rfl))) (hb hbytes d8) hl)⟩
end CodL
/-- the String at a is Latin-1 over a new byte[] (the heap's one new cell): the low bytes of the len chars of A from o on; every cell but a is kept -/
def Got (a : Addr) (D : Cell) (fV fC : Field) (A : Cell) (o len : Nat) (r : Option Value) (s u : State) : Prop := r = none ∧ ∃ D' V : Cell, Blank "java/lang/String" a D' u ∧ Same D D' [fV.slot, fC.slot] ∧ D'.slots[fV.slot]? = some (.ref s.heap.size) ∧ D'.slots[fC.slot]? = some (.int 0) ∧ Arr .byte s.heap.size V u ∧ V.vm = .none ∧ u.vm.findClass "[B" = some V.cls ∧ V.slots.size = len ∧ (∀ j, j < len → V.slots[j]? = some (.int (lo8 (cv A (o + j))))) ∧ (∀ (y : Addr) (c : Cell), y ≠ a → s.heap[y]? = some c → u.heap[y]? = some c) ∧ u.heap.size = s.heap.size + 1
theorem Got.mv {a : Addr} {D A : Cell} {fV fC : Field} {o len : Nat} : ∀ r (U U' V V' : State), U'.heap = U.heap → V.vm.Alike V'.vm → V'.heap = V.heap → Got a D fV fC A o len r U V → Got a D fV fC A o len r U' V' :=
  fun r U U' V V' h1 hal h2 ⟨e0, D', X, a1, a2, a3, a4, a5, a6, a7, a8, a9, a10, a11⟩ => ⟨e0, D', X, a1.mv hal h2, a2, by rw [h1]; exact a3, a4, by rw [h1]; exact a5.mv hal h2, a6, by rw [hal.findClass]; exact a7, a8, a9, by rw [h1, h2]; exact a10, by rw [h1, h2]; exact a11⟩
namespace New4
def yN : MethodName := ⟨"java/lang/String", "<init>", "([CIILjava/lang/Void;)V"⟩
abbrev yB : ByteArray := jdk_42_method_149_code
theorem d0 : decode yB 0 = .ok (.aload_n 0, 1) := by decide +kernel
theorem d1 : decode yB 1 = .ok (.invokespecial 1, 3) := by decide +kernel
theorem d4 : decode yB 4 = .ok (.iload_n 3, 1) := by decide +kernel
theorem d5 : decode yB 5 = .ok (.ifCond (.ne) 22, 3) := by decide +kernel
theorem d27 : decode yB 27 = .ok (.getstatic 38, 3) := by decide +kernel
theorem d30 : decode yB 30 = .ok (.ifCond (.eq) 28, 3) := by decide +kernel
theorem d33 : decode yB 33 = .ok (.aload_n 1, 1) := by decide +kernel
theorem d34 : decode yB 34 = .ok (.iload_n 2, 1) := by decide +kernel
theorem d35 : decode yB 35 = .ok (.iload_n 3, 1) := by decide +kernel
theorem d36 : decode yB 36 = .ok (.invokestatic 177, 3) := by decide +kernel
theorem d39 : decode yB 39 = .ok (.astore 5, 2) := by decide +kernel
theorem d41 : decode yB 41 = .ok (.aload_n 0, 1) := by decide +kernel
theorem d42 : decode yB 42 = .ok (.aload 5, 2) := by decide +kernel
theorem d44 : decode yB 44 = .ok (.iload_n 3, 1) := by decide +kernel
theorem d45 : decode yB 45 = .ok (.invokestatic 47, 3) := by decide +kernel
theorem d48 : decode yB 48 = .ok (.putfield 15, 3) := by decide +kernel
theorem d51 : decode yB 51 = .ok (.aload_n 0, 1) := by decide +kernel
theorem d52 : decode yB 52 = .ok (.aload 5, 2) := by decide +kernel
theorem d54 : decode yB 54 = .ok (.putfield 9, 3) := by decide +kernel
theorem d57 : decode yB 57 = .ok (.return_, 1) := by decide +kernel
def site : List Cond := [.fieldLink "java/lang/String" 38 "java/lang/String" "COMPACT_STRINGS" "Z", Cmp3.tab, CodL.tab, .laysFinal "java/lang/String" "java/lang/String" "value" "[B", .fieldLink "java/lang/String" 9 "java/lang/String" "value" "[B", .laysFinal "java/lang/String" "java/lang/String" "coder" "B", .fieldLink "java/lang/String" 15 "java/lang/String" "coder" "B"] ++ objW "java/lang/String" 1 ++ staticW "java/lang/String" 177 Cmp3.yN ++ staticW "java/lang/String" 47 CodL.yN
def tab : Cond := tabOf yN yB 6 none site
def P (a : Addr) (D : Cell) (fV fC : Field) (b : Addr) (A : Cell) (z : Int32) (o len : Nat) (args : Array Value) (s : State) : Prop := args = #[.ref a, .ref b, .int (Int32.ofNat o), .int (Int32.ofNat len), .null] ∧ Blank "java/lang/String" a D s ∧ Found "java/lang/String" "value" "[B" fV s ∧ Found "java/lang/String" "coder" "B" fC s ∧ Ch b A s ∧ StaticIs s "java/lang/String" "COMPACT_STRINGS" "Z" (.int z) ∧ ¬ z = 0 ∧ 0 < len ∧ o + len ≤ A.slots.size ∧ len ≤ 536870912 ∧ ∀ i, i < len → ¬ 255 < cv A (o + i)
def E (a : Addr) (D : Cell) (fV fC : Field) (A : Cell) (o len : Nat) (r : Option Value) (s u : State) : Prop := Got a D fV fC A o len r s u
/-- len > 0, no char of the range above 255: a Latin-1 String of their low bytes -/
theorem law (l : Launch) (a : Addr) (D : Cell) (fV fC : Field) (b : Addr) (A : Cell) (z : Int32) (o len : Nat) : Law l yN 5 4 2 35 yB 6 none site (P a D fV fC b A z o len) (E a D fV fC A o len) [⟨a, fC.slot⟩, ⟨a, fV.slot⟩] 1 len := by
  refine Law.of_walk (plainFor_of_name (by decide +kernel)) (by decide +kernel) (by decide +kernel) (by decide) (fun _ _ h => by rw [h.1]; rfl) (fun _ U U' hal hh h => ⟨h.1, h.2.1.mv hal hh, h.2.2.1.al hal, h.2.2.2.1.al hal, h.2.2.2.2.1.mv hal hh, h.2.2.2.2.2.1.there hal hh, h.2.2.2.2.2.2⟩) (fun r U U' V V' h1 hal h2 h => Got.mv r U U' V V' h1 hal h2 h) ?_
  intro p e s m args below meth c s₁ X0 hexec hbytes hml hret hlk hnm hown hh0 W hP
  obtain ⟨rfl, hB, f1, f2, hA, s1, hz, l0, l1, l2, hp⟩ := hP
  have a31 := hA.1.2.2.2
  have c1 : Steps p.tables e below (s₁.setTop (entryFrame m #[.ref a, .ref b, .int (Int32.ofNat o), .int (Int32.ofNat len), .null] 6)) (s₁.setTop (mkF m 0 #[.val (.ref a), .val (.ref b), .val (.int (Int32.ofNat o)), .val (.int (Int32.ofNat len)), .val .null, .unset] [])) := entry rfl
  have c2 : Steps p.tables e below (s₁.setTop (entryFrame m #[.ref a, .ref b, .int (Int32.ofNat o), .int (Int32.ofNat len), .null] 6)) (s₁.setTop (mkF m 1 #[.val (.ref a), .val (.ref b), .val (.int (Int32.ofNat o)), .val (.int (Int32.ofNat len)), .val .null, .unset] [.ref a])) := c1.trans (by
    refine XS.aloadN X0.here hexec rfl (hb hbytes d0) rfl rfl ?_
    exact Steps.refl _)
  obtain ⟨T3, X3, q3, st3⟩ := X0.oinit hexec hown (wks W (objW "java/lang/String" 1)) (g := (mkF m 1 #[.val (.ref a), .val (.ref b), .val (.int (Int32.ofNat o)), .val (.int (Int32.ofNat len)), .val .null, .unset] [.ref a])) rfl (by rw [hml]; rfl) (rest := []) rfl (hb hbytes d1) (W := 0) (by show 2 * 0 + 0 ≤ _; decide) (Nat.le_of_ble_eq_true rfl) (Nat.le_of_ble_eq_true rfl)
  have hh3 := q3.trans hh0
  have c4 : Steps p.tables e below (s₁.setTop (entryFrame m #[.ref a, .ref b, .int (Int32.ofNat o), .int (Int32.ofNat len), .null] 6)) (T3.setTop (mkF m 27 #[.val (.ref a), .val (.ref b), .val (.int (Int32.ofNat o)), .val (.int (Int32.ofNat len)), .val .null, .unset] [])) := (c2.trans (st3 _ (Steps.refl _))).trans (by
    refine XS.iloadN X3.here hexec rfl (hb hbytes d4) rfl ?_
    refine XS.ifYes X3.here hexec rfl (pc0 := 5) rfl (hb hbytes d5) rfl (i0_ne_t (nz32 (by omega) l0)) (by decide) rfl ?_
    exact Steps.refl _)
  obtain ⟨T5, X5, q5, st5⟩ := X3.sget hexec hown (wk W (.fieldLink "java/lang/String" 38 "java/lang/String" "COMPACT_STRINGS" "Z")) s1 (fun _ _ h => by rw [hh3]; exact h) (g := (mkF m 27 #[.val (.ref a), .val (.ref b), .val (.int (Int32.ofNat o)), .val (.int (Int32.ofNat len)), .val .null, .unset] [])) rfl (hb hbytes d27)
  have hh5 := q5.trans hh3
  have c6 : Steps p.tables e below (s₁.setTop (entryFrame m #[.ref a, .ref b, .int (Int32.ofNat o), .int (Int32.ofNat len), .null] 6)) (T5.setTop (mkF m 30 #[.val (.ref a), .val (.ref b), .val (.int (Int32.ofNat o)), .val (.int (Int32.ofNat len)), .val .null, .unset] [.int z])) := c4.trans (st5 _ (Steps.refl _))
  have c7 : Steps p.tables e below (s₁.setTop (entryFrame m #[.ref a, .ref b, .int (Int32.ofNat o), .int (Int32.ofNat len), .null] 6)) (T5.setTop (mkF m 36 #[.val (.ref a), .val (.ref b), .val (.int (Int32.ofNat o)), .val (.int (Int32.ofNat len)), .val .null, .unset] [.int (Int32.ofNat len), .int (Int32.ofNat o), .ref b])) := c6.trans (by
    refine XS.ifNo X5.here hexec rfl (hb hbytes d30) rfl (i0_eq_f hz) ?_
    refine XS.aloadN X5.here hexec rfl (hb hbytes d33) rfl rfl ?_
    refine XS.iloadN X5.here hexec rfl (hb hbytes d34) rfl ?_
    refine XS.iloadN X5.here hexec rfl (hb hbytes d35) rfl ?_
    exact Steps.refl _)
  obtain ⟨v8, T8, X8, E8, g8⟩ := X5.callS hexec (Cmp3.law l b A o len) hown (wks W (staticW "java/lang/String" 177 Cmp3.yN)) (wk W Cmp3.tab) (W := 0) (Nat.le_of_ble_eq_true rfl) (Nat.le_of_ble_eq_true rfl) (Nat.le_refl _) (by show 0 + len ≤ len; omega) (g := (mkF m 36 #[.val (.ref a), .val (.ref b), .val (.int (Int32.ofNat o)), .val (.int (Int32.ofNat len)), .val .null, .unset] [.int (Int32.ofNat len), .int (Int32.ofNat o), .ref b])) rfl (by rw [hml]; rfl) c7 (argsL := [.ref b, .int (Int32.ofNat o), .int (Int32.ofNat len)]) (rest := []) rfl rfl (by show 2 * 0 + 0 ≤ _; decide) (hb hbytes d36) (⟨rfl, hA.mv X5.warmed.alike hh5, l1, l2, hp⟩)
  obtain ⟨e8, z8⟩ := E8
  obtain ⟨rfl, N, n1, n2, n3, n4, n5, n6⟩ := NewArr.mv _ T5 s _ _ hh5.symm (Vm.Alike.refl _) rfl e8
  rw [hh5] at z8
  have hB1 := hB.keep X8.warmed.alike (n6 _ _ hB.1)
  have hne : s.heap.size ≠ a := (Nat.ne_of_lt (Array.getElem?_eq_some_iff.mp hB.1).1).symm
  have c9 : Steps p.tables e below (s₁.setTop (entryFrame m #[.ref a, .ref b, .int (Int32.ofNat o), .int (Int32.ofNat len), .null] 6)) (T8.setTop (mkF m 39 #[.val (.ref a), .val (.ref b), .val (.int (Int32.ofNat o)), .val (.int (Int32.ofNat len)), .val .null, .unset] [.ref s.heap.size])) := g8
  have c10 : Steps p.tables e below (s₁.setTop (entryFrame m #[.ref a, .ref b, .int (Int32.ofNat o), .int (Int32.ofNat len), .null] 6)) (T8.setTop (mkF m 45 #[.val (.ref a), .val (.ref b), .val (.int (Int32.ofNat o)), .val (.int (Int32.ofNat len)), .val .null, .val (.ref s.heap.size)] [.int (Int32.ofNat N.slots.size), .ref s.heap.size, .ref a])) := by
    have hc : Steps p.tables e below (s₁.setTop (entryFrame m #[.ref a, .ref b, .int (Int32.ofNat o), .int (Int32.ofNat len), .null] 6)) (T8.setTop (mkF m 45 #[.val (.ref a), .val (.ref b), .val (.int (Int32.ofNat o)), .val (.int (Int32.ofNat len)), .val .null, .val (.ref s.heap.size)] [.int (Int32.ofNat len), .ref s.heap.size, .ref a])) := c9.trans (by
      refine XS.astore X8.here hexec rfl (hb hbytes d39) rfl rfl rfl ?_
      refine XS.aloadN X8.here hexec rfl (hb hbytes d41) rfl rfl ?_
      refine XS.aload X8.here hexec rfl (hb hbytes d42) rfl rfl ?_
      refine XS.iloadN X8.here hexec rfl (hb hbytes d44) rfl ?_
      exact Steps.refl _)
    rw [n4]; exact hc
  obtain ⟨v11, T11, X11, E11, g11⟩ := X8.callS hexec (CodL.law l s.heap.size N) hown (wks W (staticW "java/lang/String" 47 CodL.yN)) (wk W CodL.tab) (W := 1) (Nat.le_of_ble_eq_true rfl) (Nat.le_of_ble_eq_true rfl) (Nat.le_refl _) (by show 0 + len + 0 ≤ len; omega) (g := (mkF m 45 #[.val (.ref a), .val (.ref b), .val (.int (Int32.ofNat o)), .val (.int (Int32.ofNat len)), .val .null, .val (.ref s.heap.size)] [.int (Int32.ofNat N.slots.size), .ref s.heap.size, .ref a])) rfl (by rw [hml]; rfl) c10 (argsL := [.ref s.heap.size, .int (Int32.ofNat N.slots.size)]) (rest := [.ref a]) rfl rfl (by show 2 * 0 + (1 + 0) ≤ _; decide) (hb hbytes d45) (⟨rfl, n1⟩)
  obtain ⟨rfl, q11⟩ := E11
  have hB11 := hB1.mv (X8.warmed.alike.symm.trans X11.warmed.alike) q11
  have c12 : Steps p.tables e below (s₁.setTop (entryFrame m #[.ref a, .ref b, .int (Int32.ofNat o), .int (Int32.ofNat len), .null] 6)) (T11.setTop (mkF m 48 #[.val (.ref a), .val (.ref b), .val (.int (Int32.ofNat o)), .val (.int (Int32.ofNat len)), .val .null, .val (.ref s.heap.size)] [.int 0, .ref a])) := g11
  obtain ⟨T13, X13, p13, bl13, sl13, st13⟩ := X11.finit hexec hown (wk W (.fieldLink "java/lang/String" 15 "java/lang/String" "coder" "B")) (Or.inr ⟨_, (wk W (.laysFinal "java/lang/String" "java/lang/String" "coder" "B"))⟩) (Or.inl ⟨rfl, hnm⟩) f2 (Or.inl rfl) hB11 (t := .byte) (by decide +kernel) rfl (g := (mkF m 48 #[.val (.ref a), .val (.ref b), .val (.int (Int32.ofNat o)), .val (.int (Int32.ofNat len)), .val .null, .val (.ref s.heap.size)] [.int 0, .ref a])) rfl (rest := []) rfl (hb hbytes d48)
  have c14 : Steps p.tables e below (s₁.setTop (entryFrame m #[.ref a, .ref b, .int (Int32.ofNat o), .int (Int32.ofNat len), .null] 6)) (T13.setTop (mkF m 54 #[.val (.ref a), .val (.ref b), .val (.int (Int32.ofNat o)), .val (.int (Int32.ofNat len)), .val .null, .val (.ref s.heap.size)] [.ref s.heap.size, .ref a])) := (c12.trans (st13 _ (Steps.refl _))).trans (by
    refine XS.aloadN X13.here hexec rfl (hb hbytes d51) rfl rfl ?_
    refine XS.aload X13.here hexec rfl (hb hbytes d52) rfl rfl ?_
    exact Steps.refl _)
  obtain ⟨T15, X15, p15, bl15, sl15, st15⟩ := X13.finit hexec hown (wk W (.fieldLink "java/lang/String" 9 "java/lang/String" "value" "[B")) (Or.inr ⟨_, (wk W (.laysFinal "java/lang/String" "java/lang/String" "value" "[B"))⟩) (Or.inl ⟨rfl, hnm⟩) f1 (Or.inl rfl) bl13 (t := (.array .byte)) (by decide +kernel) rfl (g := (mkF m 54 #[.val (.ref a), .val (.ref b), .val (.int (Int32.ofNat o)), .val (.int (Int32.ofNat len)), .val .null, .val (.ref s.heap.size)] [.ref s.heap.size, .ref a])) rfl (rest := []) rfl (hb hbytes d54)
  have c16 : Steps p.tables e below (s₁.setTop (entryFrame m #[.ref a, .ref b, .int (Int32.ofNat o), .int (Int32.ofNat len), .null] 6)) (T15.setTop (mkF m 57 #[.val (.ref a), .val (.ref b), .val (.int (Int32.ofNat o)), .val (.int (Int32.ofNat len)), .val .null, .val (.ref s.heap.size)] [])) := c14.trans (st15 _ (Steps.refl _))
  have ap := apart (Or.inr ⟨_, (wk W (.laysFinal "java/lang/String" "java/lang/String" "value" "[B"))⟩) (Or.inr ⟨_, (wk W (.laysFinal "java/lang/String" "java/lang/String" "coder" "B"))⟩) f1 f2 (t₁ := .array .byte) (t₂ := .byte) (by decide +kernel) (by decide +kernel) (by decide)
  have al := X8.warmed.alike.symm.trans X15.warmed.alike
  have n7 : T11.heap[s.heap.size]? = some N := by rw [q11]; exact n1.1
  exact ⟨T15, none, _, _, _, X15, by simp, rfl, by omega, (fun _ => rfl), ⟨rfl, _, N, bl15, ((Same.refl D _).set _ (by simp)).set _ (by simp), sl15, (Cell.slots_setSlot_ne _ ap).trans sl13, n1.keep al (p15.other hne (p13.other hne n7)), n2, by rw [al.findClass]; exact n3, n4, n5, fun y c h1 h2 => p15.other h1 (p13.other h1 (by rw [q11]; exact n6 y c h2)), by rw [p15.2.2, p13.2.2, q11]; exact z8⟩, fun fs hl => c16.trans (X15.returnOut hexec hret (hb hbytes d57) hl)⟩
end New4
namespace New1
def yN : MethodName := ⟨"java/lang/String", "<init>", "([C)V"⟩
abbrev yB : ByteArray := jdk_42_method_3_code
theorem d0 : decode yB 0 = .ok (.aload_n 0, 1) := by decide +kernel
theorem d1 : decode yB 1 = .ok (.aload_n 1, 1) := by decide +kernel
theorem d2 : decode yB 2 = .ok (.iconst 0, 1) := by decide +kernel
theorem d3 : decode yB 3 = .ok (.aload_n 1, 1) := by decide +kernel
theorem d4 : decode yB 4 = .ok (.arraylength, 1) := by decide +kernel
theorem d5 : decode yB 5 = .ok (.aconst_null, 1) := by decide +kernel
theorem d6 : decode yB 6 = .ok (.invokespecial 27, 3) := by decide +kernel
theorem d9 : decode yB 9 = .ok (.return_, 1) := by decide +kernel
def site : List Cond := [New4.tab] ++ initW "java/lang/String" 27 New4.yN
def tab : Cond := tabOf yN yB 2 none site
def P (a : Addr) (D : Cell) (fV fC : Field) (b : Addr) (A : Cell) (z : Int32) (args : Array Value) (s : State) : Prop := args = #[.ref a, .ref b] ∧ Blank "java/lang/String" a D s ∧ Found "java/lang/String" "value" "[B" fV s ∧ Found "java/lang/String" "coder" "B" fC s ∧ Ch b A s ∧ StaticIs s "java/lang/String" "COMPACT_STRINGS" "Z" (.int z) ∧ ¬ z = 0 ∧ 0 < A.slots.size ∧ A.slots.size ≤ 536870912 ∧ ∀ i, i < A.slots.size → ¬ 255 < cv A i
def E (a : Addr) (D : Cell) (fV fC : Field) (A : Cell) (r : Option Value) (s u : State) : Prop := Got a D fV fC A 0 A.slots.size r s u
/-- new String(chars), not empty, no char above 255: a Latin-1 String of their low bytes -/
theorem law (l : Launch) (a : Addr) (D : Cell) (fV fC : Field) (b : Addr) (A : Cell) (z : Int32) : Law l yN 2 1 3 52 yB 2 none site (P a D fV fC b A z) (E a D fV fC A) [⟨a, fC.slot⟩, ⟨a, fV.slot⟩] 1 A.slots.size := by
  refine Law.of_walk (plainFor_of_name (by decide +kernel)) (by decide +kernel) (by decide +kernel) (by decide) (fun _ _ h => by rw [h.1]; rfl) (fun _ U U' hal hh h => ⟨h.1, h.2.1.mv hal hh, h.2.2.1.al hal, h.2.2.2.1.al hal, h.2.2.2.2.1.mv hal hh, h.2.2.2.2.2.1.there hal hh, h.2.2.2.2.2.2⟩) (fun r U U' V V' h1 hal h2 h => Got.mv r U U' V V' h1 hal h2 h) ?_
  intro p e s m args below meth c s₁ X0 hexec hbytes hml hret hlk hnm hown hh0 W hP
  obtain ⟨rfl, hB, f1, f2, hA, s1, hz, l0, l2, hp⟩ := hP
  have c1 : Steps p.tables e below (s₁.setTop (entryFrame m #[.ref a, .ref b] 2)) (s₁.setTop (mkF m 0 #[.val (.ref a), .val (.ref b)] [])) := entry rfl
  have c2 : Steps p.tables e below (s₁.setTop (entryFrame m #[.ref a, .ref b] 2)) (s₁.setTop (mkF m 6 #[.val (.ref a), .val (.ref b)] [.null, .int (Int32.ofNat A.slots.size), .int 0, .ref b, .ref a])) := c1.trans (by
    refine XS.aloadN X0.here hexec rfl (hb hbytes d0) rfl rfl ?_
    refine XS.aloadN X0.here hexec rfl (hb hbytes d1) rfl rfl ?_
    refine iconstV X0.here hexec rfl 0 (hb hbytes d2) (by decide) ?_
    refine XS.aloadN X0.here hexec rfl (hb hbytes d3) rfl rfl ?_
    refine X0.alen hexec (hA.1.mv X0.warmed.alike hh0) rfl rfl (hb hbytes d4) ?_
    refine XS.aconstNull X0.here hexec rfl (hb hbytes d5) ?_
    exact Steps.refl _)
  obtain ⟨v3, T3, X3, E3, g3⟩ := X0.callN hexec (New4.law l a D fV fC b A z 0 A.slots.size) rfl hown (wks W (initW "java/lang/String" 27 New4.yN)) (W New4.tab (by simp only [site, List.mem_cons, List.mem_append, true_or, or_true])) (W := 0) (Nat.le_of_ble_eq_true rfl) (Nat.le_of_ble_eq_true rfl) (Nat.le_refl _) (by show 0 + A.slots.size ≤ A.slots.size; omega) (g := (mkF m 6 #[.val (.ref a), .val (.ref b)] [.null, .int (Int32.ofNat A.slots.size), .int (Int32.ofNat 0), .ref b, .ref a])) rfl (by rw [hml]; rfl) c2 (argsL := [.ref b, .int (Int32.ofNat 0), .int (Int32.ofNat A.slots.size), .null]) (rest := []) rfl rfl (by show 2 * 0 + 0 ≤ _; decide) (hb hbytes d6) (⟨rfl, hB.mv X0.warmed.alike hh0, f1.al X0.warmed.alike, f2.al X0.warmed.alike, hA.mv X0.warmed.alike hh0, s1.there X0.warmed.alike hh0, hz, l0, by omega, l2, fun i hi => by rw [Nat.zero_add]; exact hp i hi⟩)
  have e0 := Got.mv _ s₁ s _ _ hh0.symm (Vm.Alike.refl _) rfl E3
  obtain rfl := e0.1
  have c4 : Steps p.tables e below (s₁.setTop (entryFrame m #[.ref a, .ref b] 2)) (T3.setTop (mkF m 9 #[.val (.ref a), .val (.ref b)] [])) := g3
  exact ⟨T3, none, _, _, _, X3, by simp, rfl, by omega, (fun _ => rfl), e0, fun fs hl => c4.trans (X3.returnOut hexec hret (hb hbytes d9) hl)⟩
theorem pays {l : Launch} {R : Room} {p : Program} {e : Env} {below : List Frame} {s : State} {sargs : Array Value} {len W : Nat} (a : Addr) (D : Cell) (fV fC : Field) (b : Addr) (A : Cell) (z : Int32) (htab : tab.before sargs s = true) (hfr : 4 ≤ R.frames) (hlo : W + 65 ≤ R.locals) :
    Back l R p e below s sargs yN len W (fun A₁ a₁ => A₁.cells + 1 ≤ R.cells ∧ A₁.slots + A.slots.size ≤ R.slots ∧ P a D fV fC b A z a₁ A₁.U) (fun A₁ _ v₁ B₁ => E a D fV fC A v₁ A₁.U B₁.U ∧ B₁.locs = A₁.locs ++ [⟨a, fC.slot⟩, ⟨a, fV.slot⟩] ∧ B₁.cells = A₁.cells + 1 ∧ B₁.slots = A₁.slots + A.slots.size) :=
  (law l a D fV fC b A z).pays htab hfr (by omega)
end New1
/-- the byte, read back as charAt reads it, is the char -/
theorem lo8_mask {x : Int32} (h0 : ¬ x < 0) (h1 : ¬ 255 < x) : lo8 x &&& 255 = x := by
  have t : ∀ k : Fin 256, lo8 (Int32.ofNat k.val) &&& 255 = Int32.ofNat k.val := by decide +kernel
  rw [Int32.lt_iff_toInt_lt] at h0 h1
  have e0 : (0 : Int32).toInt = 0 := rfl
  have e1 : (255 : Int32).toInt = 255 := rfl
  obtain ⟨k, hk⟩ : ∃ k : Nat, x.toInt = k := ⟨x.toInt.toNat, by omega⟩
  have hx : x = Int32.ofNat k := Int32.toInt_inj.mp (by rw [hk, Int32.toInt_ofNat_small (by omega)])
  rw [hx]
  exact t ⟨k, by omega⟩
end StrChars
namespace StrChars.Road
open Jvm Sem ClassFile Op Lib Jvm.Stand Jvm.Free Jvm.Free.XT
open Jvm.Lib.Cold (StaticIs)
abbrev ST : String := "java/lang/String"
/-- every table word that New1's law asks, flat -/
abbrev words : List Jvm.Cond := [.code New1.yN New1.yB 2 none, .initialized ST, .methodLink ST 27 New4.yN, .instanceMethod New4.yN,
  .code New4.yN New4.yB 6 none, .fieldLink ST 38 ST "COMPACT_STRINGS" "Z", .laysFinal ST ST "value" "[B", .fieldLink ST 9 ST "value" "[B", .laysFinal ST ST "coder" "B", .fieldLink ST 15 ST "coder" "B",
  .methodLink ST 1 Lib.objectInit, .instanceMethod Lib.objectInit, .code Lib.objectInit ⟨#[0xb1]⟩ 1 none, .methodLink ST 177 Cmp3.yN, .static Cmp3.yN, .methodLink ST 47 CodL.yN, .static CodL.yN,
  .code Cmp3.yN Cmp3.yB 6 (some (.array .byte)), .initialized U16, .arrayClass .byte, .methodLink U16 115 Cmp5.yN, .static Cmp5.yN, .code Cmp5.yN Cmp5.yB 7 (some .int), .code CodL.yN CodL.yB 2 (some .byte)]
theorem tab_of {a : Array Value} {s : State} (h : ∀ w ∈ words, w.before a s = true) : New1.tab.before a s = true := by
  have h5 : Cmp5.tab.before a s = true := unparts (wk h (.code Cmp5.yN Cmp5.yB 7 (some .int))) (wks h (.initialized Cmp5.yN.cls :: Cmp5.site))
  have hc : CodL.tab.before a s = true := unparts (wk h (.code CodL.yN CodL.yB 2 (some .byte))) (wks h (.initialized CodL.yN.cls :: CodL.site))
  have q5 : ∀ w ∈ Cmp5.tab :: words, w.before a s = true := fun w hw => (List.mem_cons.mp hw).elim (fun e => e ▸ h5) (h w)
  have h3 : Cmp3.tab.before a s = true := unparts (wk q5 (.code Cmp3.yN Cmp3.yB 6 (some (.array .byte)))) (wks q5 (.initialized Cmp3.yN.cls :: Cmp3.site))
  have q3 : ∀ w ∈ Cmp3.tab :: CodL.tab :: words, w.before a s = true := fun w hw => (List.mem_cons.mp hw).elim (fun e => e ▸ h3) fun hw => (List.mem_cons.mp hw).elim (fun e => e ▸ hc) (h w)
  have h4 : New4.tab.before a s = true := unparts (wk q3 (.code New4.yN New4.yB 6 none)) (wks q3 (.initialized New4.yN.cls :: New4.site))
  have q4 : ∀ w ∈ New4.tab :: words, w.before a s = true := fun w hw => (List.mem_cons.mp hw).elim (fun e => e ▸ h4) (h w)
  exact unparts (wk q4 (.code New1.yN New1.yB 2 none)) (wks q4 (.initialized New1.yN.cls :: New1.site))
/-- the words ride from the start Z to the walk's own state -/
theorem moved {Z s : State} {a0 args : Array Value} (hZ : Z.Warmed39 s.vm) (hw : ∀ d ∈ words, d.before a0 Z = true) : ∀ d ∈ words, d.before args s = true := fun d hd => by
  have q := hw d hd
  have t : ∀ d ∈ words, d = .arrayClass .byte ∨ (d.onTables && d.keepsFace) = true := by decide +kernel
  rcases t d hd with rfl | t
  · exact RoadKit.mvA hZ q
  · exact RoadKit.mv hZ q t
/-- WHAT COMES BACK, over the tables of the start Z: h the heap at the call, h' behind it -/
def Q (Z : State) (x : Addr) (A : Cell) (h : Heap) (v : Option Value) (h' : Heap) (L : List Loc) : Prop := v = none ∧ (∀ y ∈ L, y.base = x) ∧ RoadKit.Keep h h' [x] ∧ h'.size = h.size + 1 ∧ RoadKit.Exa Z h' x ST ∧ RoadKit.Fld Z h' x ST "value" "[B" (.ref h.size) ∧ RoadKit.Fld Z h' x ST "coder" "B" (.int 0) ∧
  (∃ V : Cell, RoadKit.Arr Z h' h.size V .byte ∧ V.vm = .none ∧ Z.vm.findClass "[B" = some V.cls ∧ V.slots.size = A.slots.size ∧ ∀ j, j < A.slots.size → V.slots[j]? = some (.int (lo8 (cv A j)))) ∧
  ∀ (O n d : String) (w : Value), RoadKit.Fld Z h x O n d w → RoadKit.slotOf Z O n d ≠ RoadKit.slotOf Z ST "value" "[B" → RoadKit.slotOf Z O n d ≠ RoadKit.slotOf Z ST "coder" "B" → RoadKit.Fld Z h' x O n d w
/-- **new String(chars) AT A CALL, IN THE ROAD'S FORM**: for specialBack behind newO: x the fresh String, b the char[] with the cell A -/
theorem back {p : Program} {l : Launch} {e : Env} {R : Room} {s : State} {args : Array Value} {below : List Frame} {len W : Nat} {Z : State} {a0 : Array Value} {h : Heap} (hZ : Z.Warmed39 s.vm) (hw : ∀ d ∈ words, d.before a0 Z = true) {kI : Nat} (wi : (Jvm.Cond.instantiable ST kI).before a0 Z = true)
    {x b : Addr} {A : Cell} {z : Int32} {v0 c0 : Value} (E : RoadKit.Exa Z h x ST) (V : RoadKit.Fld Z h x ST "value" "[B" v0) (C : RoadKit.Fld Z h x ST "coder" "B" c0) (K : RoadKit.Arr Z h b A .char) (hty : Typed .char A) (S : RoadKit.Sta Z h ST "COMPACT_STRINGS" "Z" (.int z)) (hz : ¬ z = 0)
    (l0 : 0 < A.slots.size) (l2 : A.slots.size ≤ 536870912) (hp : ∀ i, i < A.slots.size → ¬ 255 < cv A i) (hfr : 4 ≤ R.frames) (hlo : W + 65 ≤ R.locals) :
    Back l R p e below s args New1.yN len W (fun P a => a = #[.ref x, .ref b] ∧ P.U.heap = h ∧ P.cells + 1 ≤ R.cells ∧ P.slots + A.slots.size ≤ R.slots)
      (fun P _ v B => ∃ L, Q Z x A h v B.U.heap L ∧ B.locs = P.locs ++ L ∧ B.cells = P.cells + 1 ∧ B.slots = P.slots + A.slots.size) := by
  intro m meth c P g ig mk a X hg hsize hdg hW hn hp'
  obtain ⟨rfl, rfl, r1, r2⟩ := hp'
  have al : Z.vm.Alike P.U.vm := hZ.alike.trans X.warmed.alike
  obtain ⟨D, cfV, kV, iV, fV, hD, gV, stV, knV, obV, asV, slV⟩ := id V
  obtain ⟨D', cfC, kC, iC, fC, hD', gC, stC, -, -, asC, slC⟩ := id C
  cases hD.symm.trans hD'
  obtain ⟨D2, kD, e1, e2, e3, e4, e5⟩ := id E
  cases hD.symm.trans e1
  obtain ⟨c2, k2, i1, i2, i3, -⟩ := Cond.instantiable_spec wi
  cases e2.symm.trans i1
  cases e3.symm.trans i2
  obtain ⟨kU, u1, u2⟩ := al.2.2 _ _ e3
  have hB : Blank ST x D P.U := ⟨hD, ⟨knV, fun q hq => by rw [hq] at obV; cases obV⟩, by rw [al.findClass]; exact e2, kU, u1, by rw [u2]; exact i3, by rw [u2]; exact e5 i3⟩
  have F1 : Found ST "value" "[B" fV P.U := ⟨SBG.found_only al ⟨cfV, kV, iV, gV⟩, stV⟩
  have F2 : Found ST "coder" "B" fC P.U := ⟨SBG.found_only al ⟨cfC, kC, iC, gC⟩, stC⟩
  have hA : Ch b A P.U := ⟨⟨K.1, State.isArrayOf_alike al K.2.1, K.2.2, by omega⟩, hty⟩
  have hS : StaticIs P.U ST "COMPACT_STRINGS" "Z" (.int z) := by
    obtain ⟨cfS, iS, kS, fS, st, cS, t1, t2, t3, t4, t5, t6, t7⟩ := S
    exact StaticIs.there (s := { Z with heap := P.U.heap }) ⟨cfS, iS, kS, fS, st, cS, t1, t2, t3, t4, t5, (fun q => by rw [q] at t6; cases t6), t7⟩ al rfl
  obtain ⟨v, B, X', ⟨⟨hv, E', V', q1, q2, q3, q4, q5, q6, q7, q8, q9, q10, q11⟩, hl, hc, hs⟩, st⟩ := New1.pays x D fV fC b A z (tab_of (moved hZ hw)) hfr hlo m meth c P g ig mk _ X hg hsize hdg hW hn ⟨r1, r2, rfl, hB, F1, F2, hA, hS, hz, l0, l2, hp⟩
  have al' : Z.vm.Alike B.U.vm := hZ.alike.trans X'.warmed.alike
  have hsz : E'.slots.size = D.slots.size := by
    obtain ⟨-, -, -, kB, w1, w2, w3⟩ := q1
    obtain ⟨kB', y1, y2⟩ := al'.2.2 _ _ e3
    rw [q2.2.1] at w1
    cases w1.symm.trans y1
    rw [w3, e5 i3, y2]
  refine ⟨v, B, X', ⟨_, ⟨hv, ?_, ⟨by omega, fun y cy hy hn' => q10 y cy (by simpa using hn') hy, fun y cy hy => ?_⟩, q11, ⟨E', _, q1.1, by rw [q2.2.1]; exact e2, by rw [q2.2.1]; exact e3, by rw [q2.1]; exact obV, fun _ => by rw [hsz]; exact e5 i3⟩,
    ⟨E', cfV, kV, iV, fV, q1.1, gV, stV, by rw [q2.1]; exact knV, by rw [q2.1]; exact obV, by rw [q2.2.1]; exact asV, q3⟩, ⟨E', cfC, kC, iC, fC, q1.1, gC, stC, by rw [q2.1]; exact knV, by rw [q2.1]; exact obV, by rw [q2.2.1]; exact asC, q4⟩,
    ⟨V', ⟨q5.1, State.isArrayOf_alike al'.symm q5.2.1, q5.2.2.1⟩, q6, by rw [← al'.findClass]; exact q7, q8, fun j hj => by have := q9 j hj; rwa [Nat.zero_add] at this⟩, fun O n d w F n1 n2 => ?_⟩, hl, hc, hs⟩, st⟩
  · intro y hy
    simp only [List.mem_cons, List.not_mem_nil, or_false] at hy
    rcases hy with rfl | rfl <;> rfl
  · by_cases q : y = x
    · subst q
      cases hD.symm.trans hy
      exact ⟨E', q1.1, q2.2.1, q2.1, hsz⟩
    · exact ⟨cy, q10 y cy q hy, rfl, rfl, rfl⟩
  · obtain ⟨D3, cf, k, i, f, g1, g2, g3, g4, g5, g6, g7⟩ := F
    cases hD.symm.trans g1
    simp only [RoadKit.slotOf, g2, gV, gC, Option.map_some, Option.getD_some] at n1 n2
    exact ⟨E', cf, k, i, f, q1.1, g2, g3, by rw [q2.1]; exact g4, by rw [q2.1]; exact g5, by rw [q2.2.1]; exact g6, by rw [q2.2.2 f.slot (by simp [n1, n2])]; exact g7⟩
end StrChars.Road
namespace StrChars.Road
open Jvm Sem ClassFile Op Lib Jvm.Stand Jvm.Free Jvm.Free.XT
/-- WHAT COMES BACK, the byte[] as a list of values -/
def QA (Z : State) (x : Addr) (zn : Int32) (cs : List Int32) (h : Heap) (v : Option Value) (h' : Heap) (L : List Loc) : Prop := v = none ∧ (∀ y ∈ L, y.base = x) ∧ RoadKit.Keep h h' [x] ∧ h'.size = h.size + 1 ∧ RoadKit.Exa Z h' x ST ∧ RoadKit.Fld Z h' x ST "value" "[B" (.ref h.size) ∧ RoadKit.Fld Z h' x ST "coder" "B" (.int 0) ∧
  (∃ kb, Z.vm.findClass "[B" = some kb ∧ RoadKit.Arv Z h' h.size kb .byte zn (cs.map fun c => .int (lo8 c)) (.int 0)) ∧
  ∀ (O n d : String) (w : Value), RoadKit.Fld Z h x O n d w → RoadKit.slotOf Z O n d ≠ RoadKit.slotOf Z ST "value" "[B" → RoadKit.slotOf Z O n d ≠ RoadKit.slotOf Z ST "coder" "B" → RoadKit.Fld Z h' x O n d w
/-- **new String(chars) AT A CALL, THE ARRAYS AS LISTS**: the char[] at b holds cs, not empty, no char above 255 -/
theorem backArv {p : Program} {l : Launch} {e : Env} {R : Room} {s : State} {args : Array Value} {below : List Frame} {len W : Nat} {Z : State} {a0 : Array Value} {h : Heap} (hZ : Z.Warmed39 s.vm) (hw : ∀ d ∈ words, d.before a0 Z = true) {kI : Nat} (wi : (Jvm.Cond.instantiable ST kI).before a0 Z = true)
    {x b : Addr} {k : ClassId} {zn z : Int32} {cs : List Int32} {dv v0 c0 : Value} (E : RoadKit.Exa Z h x ST) (V : RoadKit.Fld Z h x ST "value" "[B" v0) (C : RoadKit.Fld Z h x ST "coder" "B" c0) (K : RoadKit.Arv Z h b k .char zn (cs.map Value.int) dv) (S : RoadKit.Sta Z h ST "COMPACT_STRINGS" "Z" (.int z)) (hz : ¬ z = 0)
    (hlen : zn.toNatClampNeg = cs.length) (h0 : 0 < cs.length) (hbig : cs.length ≤ 536870912) (hall : ∀ c ∈ cs, ¬ 255 < c) (hfr : 4 ≤ R.frames) (hlo : W + 65 ≤ R.locals) :
    Back l R p e below s args New1.yN len W (fun P a => a = #[.ref x, .ref b] ∧ P.U.heap = h ∧ P.cells + 1 ≤ R.cells ∧ P.slots + cs.length ≤ R.slots)
      (fun P _ v B => ∃ L, QA Z x zn cs h v B.U.heap L ∧ B.locs = P.locs ++ L ∧ B.cells = P.cells + 1 ∧ B.slots = P.slots + cs.length) := by
  obtain ⟨A, K1, K2, K3, K4, K5, K6⟩ := K
  have e : A.slots.size = cs.length := K3.trans hlen
  have hat : ∀ (i : Nat) (hi : i < cs.length), A.slots[i]? = some (.int cs[i]) := fun i hi => by rw [K5 i (by omega)]; simp [List.getD_eq_getElem?_getD, hi]
  have hcv : ∀ (i : Nat) (hi : i < cs.length), cv A i = cs[i] := fun i hi => by unfold cv; rw [hat i hi]
  have hty : Typed .char A := fun i v hv => by
    have hi : i < A.slots.size := (Array.getElem?_eq_some_iff.mp hv).1
    have q := K5 i hi
    rw [hv] at q
    rw [Option.some.inj q]
    exact K6 i hi
  refine Back.mono (back hZ hw wi E V C K1 hty S hz (by omega) (by omega) (fun i hi => by rw [hcv i (by omega)]; exact hall _ (List.getElem_mem _)) hfr hlo) (fun P a hp => ⟨hp.1, hp.2.1, hp.2.2.1, by rw [e]; exact hp.2.2.2⟩) (fun P a v B hp hq => ?_)
  obtain ⟨L, ⟨q1, q2, q3, q4, q5, q6, q7, ⟨V', v1, v2, v3, v4, v5⟩, q9⟩, hl, hc, hs⟩ := hq
  refine ⟨L, ⟨q1, q2, q3, q4, q5, q6, q7, ⟨V'.cls, v3, V', v1, rfl, by rw [v4, e, hlen], K4, fun i hi => ?_, fun i hi => ?_⟩, q9⟩, hl, hc, by rw [hs, e]⟩
  · have hi' : i < cs.length := by omega
    rw [v5 i (by omega), hcv i hi']; simp [List.getD_eq_getElem?_getD, hi']
  · have hi' : i < cs.length := by omega
    simp only [List.getD_eq_getElem?_getD, List.getElem?_map, List.getElem?_eq_getElem hi', Option.map_some, Option.getD_some]
    exact fits_lo8 _
end StrChars.Road
namespace StrChars.Road
open Jvm Sem ClassFile Op Lib Jvm.Stand Jvm.Free Jvm.Free.XT
/-- WHAT COMES BACK, in the writer's own shape -/
def QV (Z : State) (x : Addr) (N : Int32) (bs : List Int32) (h : Heap) (n0 : Nat) (v : Option Value) (h' : Heap) (L : List Loc) : Prop := v = none ∧ RoadKit.Fr n0 L ∧ RoadKit.Keep h h' [x] ∧ RoadKit.Exa Z h' x ST ∧ RoadKit.Fld Z h' x ST "coder" "B" (.int 0) ∧
  ∃ (t : Addr) (kb : ClassId), n0 ≤ t ∧ h.size ≤ t ∧ ¬ t = x ∧ RoadKit.Fld Z h' x ST "value" "[B" (.ref t) ∧ RoadKit.Arv Z h' t kb .byte N (bs.map Value.int) (.int 0)
/-- **new String(chars) AT A CALL, FOR THE WRITER**: a char[] of n known ints, each 0 to 255 -/
theorem backV {p : Program} {l : Launch} {e : Env} {R : Room} {s : State} {args : Array Value} {below : List Frame} {len W : Nat} {Z : State} {a0 : Array Value} {h : Heap} (hZ : Z.Warmed39 s.vm) (hw : ∀ d ∈ words, d.before a0 Z = true) {kI : Nat} (wi : (Jvm.Cond.instantiable ST kI).before a0 Z = true)
    {x b : Addr} {kC : ClassId} {cs bs : List Int32} {d v0 c0 : Value} {z N : Int32} {n n0 : Nat} (hx0 : n0 ≤ x) (hh0 : n0 ≤ h.size) (E : RoadKit.Exa Z h x ST) (V : RoadKit.Fld Z h x ST "value" "[B" v0) (C : RoadKit.Fld Z h x ST "coder" "B" c0) (K : RoadKit.Arv Z h b kC .char N (cs.map Value.int) d) (S : RoadKit.Sta Z h ST "COMPACT_STRINGS" "Z" (.int z)) (hz : ¬ z = 0)
    (hn : cs.length = n) (hN : N = Int32.ofNat n) (l0 : 0 < n) (l2 : n ≤ 4000) (hp : ∀ c ∈ cs, ¬ c < 0 ∧ ¬ (255 : Int32) < c) (hb : bs = cs.map (fun c => c.toInt8.toInt32)) (hfr : 4 ≤ R.frames) (hlo : W + 65 ≤ R.locals) :
    Back l R p e below s args (⟨"java/lang/String", "<init>", "([C)V"⟩ : MethodName) len W (fun P a => a = #[.ref x, .ref b] ∧ P.U.heap = h ∧ P.cells + 1 ≤ R.cells ∧ P.slots + n ≤ R.slots)
      (fun P _ v B => ∃ L, QV Z x N bs h n0 v B.U.heap L ∧ B.locs = P.locs ++ L ∧ B.cells = P.cells + 1 ∧ B.slots = P.slots + n) := by
  subst hn hN hb
  refine Back.mono (backArv hZ hw wi E V C K S hz (n32 (by omega)) l0 (by omega) (fun c hc => (hp c hc).2) hfr hlo) (fun P a hp => hp) (fun P a v B hp hq => ?_)
  obtain ⟨L, ⟨q1, q2, q3, q4, q5, q6, q7, ⟨kb, v1, v2⟩, q9⟩, hl, hc, hs⟩ := hq
  exact ⟨L, ⟨q1, fun y hy => by rw [q2 y hy]; exact hx0, q3, q5, q7, h.size, kb, hh0, Nat.le_refl _, Nat.ne_of_gt E.lt, q6, by rw [List.map_map]; exact v2⟩, hl, hc, hs⟩
end StrChars.Road
namespace StrChars
open Jvm Sem ClassFile Op Lib Jvm.Stand Jvm.Free.XT Jvm.Free.ALB Jvm.Free.JM Jvm.Free
open Jvm.Lib.Cold (StaticIs)
def hi8 (x : Int32) : Int32 := lo8 (x >>> ((8 : Int32) &&& 31))
/-- what StringUTF16.getChar makes of two bytes -/
def pairCh (u v : Int32) : Int32 := (((u &&& 255) <<< ((0 : Int32) &&& 31)) ||| ((v &&& 255) <<< ((8 : Int32) &&& 31))).toUInt32.toUInt16.toUInt32.toInt32
theorem lo8_and (x : Int32) : (lo8 x &&& 255).toBitVec.toNat = x.toBitVec.toNat % 256 := by
  have h : (lo8 x).toBitVec = (x.toBitVec.signExtend 8).signExtend 32 := by rw [lo8, Int8.toBitVec_toInt32, Int32.toBitVec_toInt8]
  rw [Int32.toBitVec_and, BitVec.toNat_and, h]
  have e : ((x.toBitVec.signExtend 8).signExtend 32).toNat % 256 = x.toBitVec.toNat % 256 := by
    rw [BitVec.toNat_signExtend]
    have hlt := x.toBitVec.isLt
    simp only [BitVec.toNat_setWidth, BitVec.toNat_signExtend]
    split <;> split <;> omega
  rw [← e]
  exact Nat.and_two_pow_sub_one_eq_mod _ 8
theorem pair_says {c : Int32} (h0 : ¬ c < 0) (h1 : ¬ 65535 < c) : pairCh (lo8 c) (hi8 c) = c := by
  rw [Int32.lt_iff_toInt_lt] at h0 h1
  have e0 : (0 : Int32).toInt = 0 := rfl
  have e1 : (65535 : Int32).toInt = 65535 := rfl
  have hc : c.toInt = c.toBitVec.toNat := by
    have := c.toBitVec.isLt
    have e : c.toInt = c.toBitVec.toInt := rfl
    rw [e] at h0 h1
    rw [e]
    rw [BitVec.toInt_eq_toNat_cond] at h0 h1 ⊢
    split at h0 <;> split <;> omega
  have hn : c.toBitVec.toNat < 65536 := by omega
  have a1 := lo8_and c
  have a2 : (hi8 c &&& 255).toBitVec.toNat = c.toBitVec.toNat / 256 := by
    rw [hi8, lo8_and]
    have e : ((8 : Int32) &&& 31) = 8 := by decide
    rw [e, Int32.toBitVec_shiftRight]
    have e2 : ((8 : Int32).toBitVec.smod 32) = 8#32 := by decide
    rw [e2, BitVec.sshiftRight_eq', BitVec.toNat_sshiftRight_of_msb_false (by rw [BitVec.msb_eq_false_iff_two_mul_lt]; omega)]
    show c.toBitVec.toNat >>> 8 % 256 = _
    rw [Nat.shiftRight_eq_div_pow]
    omega
  unfold pairCh
  apply Int32.toBitVec_inj.mp
  apply BitVec.eq_of_toNat_eq
  have f0 : ((0 : Int32) &&& 31) = 0 := by decide
  have f8 : ((8 : Int32) &&& 31) = 8 := by decide
  rw [f0, f8]
  have g : (((lo8 c &&& 255) <<< (0 : Int32)) ||| ((hi8 c &&& 255) <<< (8 : Int32))).toBitVec.toNat = c.toBitVec.toNat := by
    rw [Int32.toBitVec_or, Int32.toBitVec_shiftLeft, Int32.toBitVec_shiftLeft]
    have s0 : ((0 : Int32).toBitVec.smod 32) = 0#32 := by decide
    have s8 : ((8 : Int32).toBitVec.smod 32) = 8#32 := by decide
    rw [s0, s8, BitVec.toNat_or]
    simp only [BitVec.shiftLeft_eq', BitVec.toNat_shiftLeft, a1, a2]
    show (c.toBitVec.toNat % 256) <<< 0 % 2 ^ 32 ||| (c.toBitVec.toNat / 256) <<< 8 % 2 ^ 32 = _
    rw [Nat.shiftLeft_zero, Nat.mod_eq_of_lt (show c.toBitVec.toNat % 256 < 2 ^ 32 by omega), Nat.mod_eq_of_lt (show (c.toBitVec.toNat / 256) <<< 8 < 2 ^ 32 by rw [Nat.shiftLeft_eq]; omega), Nat.or_comm, ← Nat.shiftLeft_add_eq_or_of_lt (by omega), Nat.shiftLeft_eq]
    omega
  show BitVec.toNat (((((lo8 c &&& 255) <<< (0 : Int32)) ||| ((hi8 c &&& 255) <<< (8 : Int32))).toBitVec.setWidth 16).setWidth 32) = _
  rw [BitVec.toNat_setWidth, BitVec.toNat_setWidth, g]
  omega
end StrChars
namespace StrChars
open Jvm Sem ClassFile Op Lib Jvm.Stand Jvm.Free.XT Jvm.Free.ALB Jvm.Free.JM Jvm.Free
open Jvm.Lib.Cold (StaticIs)
/-- the array's cell V codes the n chars f 0 .. f (n - 1) by the coder cd, as the JDK does: coder 1 just where some char is above 255 -/
def Cod (cd : Int32) (n : Nat) (f : Nat → Int32) (V : Cell) : Prop := (cd = 0 ∧ V.slots.size = n ∧ ∀ j, j < n → V.slots[j]? = some (.int (lo8 (f j))) ∧ ¬ 255 < f j) ∨ (cd = 1 ∧ V.slots.size = 2 * n ∧ (∀ j, j < n → V.slots[2 * j]? = some (.int (lo8 (f j))) ∧ V.slots[2 * j + 1]? = some (.int (hi8 (f j)))) ∧ ∃ j, j < n ∧ 255 < f j)
/-- **x is a String of the n chars f 0 .. f (n - 1)**, Latin-1 or UTF-16; its array at t has the cell V -/
def Txt (x t : Addr) (V : Cell) (cd : Int32) (n : Nat) (f : Nat → Int32) (U : State) : Prop := Exact "java/lang/String" x U ∧ Has x "java/lang/String" "value" "[B" (.ref t) U ∧ Has x "java/lang/String" "coder" "B" (.int cd) U ∧ XT.Arr .byte t V U ∧ Cod cd n f V ∧ ∀ j, j < n → ¬ f j < 0 ∧ ¬ 65535 < f j
theorem Txt.mv {x t : Addr} {V : Cell} {cd : Int32} {n : Nat} {f : Nat → Int32} {U U' : State} (h : Txt x t V cd n f U) (hal : U.vm.Alike U'.vm) (hh : U'.heap = U.heap) : Txt x t V cd n f U' := ⟨h.1.mv hal hh, h.2.1.mv hal hh, h.2.2.1.mv hal hh, h.2.2.2.1.mv hal hh, h.2.2.2.2⟩
end StrChars
namespace StrChars.Road
open Jvm Sem ClassFile Op Lib Jvm.Stand Jvm.Free Jvm.Free.XT
open Jvm.Lib.Cold (StaticIs)
theorem consq {a : Array Value} {s : State} {c : Jvm.Cond} {L : List Jvm.Cond} (h0 : c.before a s = true) (h : ∀ w ∈ L, w.before a s = true) : ∀ w ∈ c :: L, w.before a s = true := fun w hw => (List.mem_cons.mp hw).elim (fun e => e ▸ h0) (h w)
/-- the bytes of the chars cs, low before high -/
def wideBytes : List Int32 → List Value
  | [] => []
  | c :: cs => .int (lo8 c) :: .int (hi8 c) :: wideBytes cs
theorem wide_lo (d : Value) : ∀ (cs : List Int32) (j : Nat), j < cs.length → (wideBytes cs).getD (2 * j) d = .int (lo8 (cs.getD j 0))
  | [], j, h => absurd h (Nat.not_lt_zero j)
  | c :: cs, 0, _ => rfl
  | c :: cs, j + 1, h => by
    have q := wide_lo d cs j (by simpa using h)
    rw [show 2 * (j + 1) = 2 * j + 1 + 1 from by omega]
    simpa [wideBytes] using q
theorem wide_hi (d : Value) : ∀ (cs : List Int32) (j : Nat), j < cs.length → (wideBytes cs).getD (2 * j + 1) d = .int (hi8 (cs.getD j 0))
  | [], j, h => absurd h (Nat.not_lt_zero j)
  | c :: cs, 0, _ => rfl
  | c :: cs, j + 1, h => by
    have q := wide_hi d cs j (by simpa using h)
    rw [show 2 * (j + 1) + 1 = 2 * j + 1 + 1 + 1 from by omega]
    simpa [wideBytes] using q
theorem low_at (d : Value) (cs : List Int32) (j : Nat) (h : j < cs.length) : (cs.map fun c => Value.int (lo8 c)).getD j d = .int (lo8 (cs.getD j 0)) := by
  simp [List.getD_eq_getElem?_getD, h]
/-- an array of N2 bytes vs codes the chars cs by the coder cd -/
def CodA (cs : List Int32) (cd N2 : Int32) (vs : List Value) : Prop := (cd = 0 ∧ N2 = Int32.ofNat cs.length ∧ vs = (cs.map fun c => Value.int (lo8 c)) ∧ ∀ c ∈ cs, ¬ 255 < c) ∨ (cd = 1 ∧ N2 = Int32.ofNat (2 * cs.length) ∧ vs = wideBytes cs ∧ ∃ c ∈ cs, 255 < c)
theorem CodA.cod {cs : List Int32} {cd N2 : Int32} {vs : List Value} {V : Cell} (h : CodA cs cd N2 vs) (hn : 2 * cs.length < 2 ^ 31) (hs : V.slots.size = N2.toNatClampNeg) (hv : RoadKit.Has V vs (.int 0)) : Cod cd cs.length (fun j => cs.getD j 0) V := by
  rcases h with ⟨rfl, rfl, rfl, h⟩ | ⟨rfl, rfl, rfl, c, hc, hw⟩
  · rw [n32 (by omega)] at hs
    exact Or.inl ⟨rfl, hs, fun j hj => ⟨by rw [hv j (by omega), low_at _ _ _ hj], by
      have e : cs.getD j 0 = cs[j] := by simp [List.getD_eq_getElem?_getD, hj]
      show ¬ 255 < cs.getD j 0
      rw [e]; exact h _ (List.getElem_mem _)⟩⟩
  · rw [n32 (by omega)] at hs
    obtain ⟨j, hj, rfl⟩ := List.getElem_of_mem hc
    exact Or.inr ⟨rfl, hs, fun j hj => ⟨by rw [hv _ (by omega), wide_lo _ _ _ hj], by rw [hv _ (by omega), wide_hi _ _ _ hj]⟩, j, hj, by
      have e : cs.getD j 0 = cs[j] := by simp [List.getD_eq_getElem?_getD, hj]
      show 255 < cs.getD j 0
      rw [e]; exact hw⟩
/-- an object of exactly java/lang/String, its two fields found: as the laws ask it -/
theorem strObj {Z U : State} {a0 : Array Value} {kI : Nat} (wi : (Jvm.Cond.instantiable ST kI).before a0 Z = true) (al : Z.vm.Alike U.vm) {x : Addr} {v0 c0 : Value} (E : RoadKit.Exa Z U.heap x ST) (V : RoadKit.Fld Z U.heap x ST "value" "[B" v0) (C : RoadKit.Fld Z U.heap x ST "coder" "B" c0) :
    ∃ (D : Cell) (fV fC : Field), Blank ST x D U ∧ Found ST "value" "[B" fV U ∧ Found ST "coder" "B" fC U ∧ D.slots[fV.slot]? = some v0 ∧ D.slots[fC.slot]? = some c0 ∧ RoadKit.slotOf Z ST "value" "[B" = fV.slot ∧ RoadKit.slotOf Z ST "coder" "B" = fC.slot := by
  obtain ⟨D, cfV, kV, iV, fV, hD, gV, stV, knV, obV, asV, slV⟩ := V
  obtain ⟨D', cfC, kC, iC, fC, hD', gC, stC, -, -, asC, slC⟩ := C
  cases hD.symm.trans hD'
  obtain ⟨D2, kD, e1, e2, e3, e4, e5⟩ := E
  cases hD.symm.trans e1
  obtain ⟨c2, k2, i1, i2, i3, -⟩ := Cond.instantiable_spec wi
  cases e2.symm.trans i1
  cases e3.symm.trans i2
  obtain ⟨kU, u1, u2⟩ := al.2.2 _ _ e3
  exact ⟨D, fV, fC, ⟨hD, ⟨knV, fun q hq => by rw [hq] at obV; cases obV⟩, by rw [al.findClass]; exact e2, kU, u1, by rw [u2]; exact i3, by rw [u2]; exact e5 i3⟩, ⟨SBG.found_only al ⟨cfV, kV, iV, gV⟩, stV⟩, ⟨SBG.found_only al ⟨cfC, kC, iC, gC⟩, stC⟩, slV, slC, by simp [RoadKit.slotOf, gV], by simp [RoadKit.slotOf, gC]⟩
theorem sta_is {Z U : State} (al : Z.vm.Alike U.vm) {C n d : String} {v : Value} (S : RoadKit.Sta Z U.heap C n d v) : StaticIs U C n d v := by
  obtain ⟨cfS, iS, kS, fS, st, cS, t1, t2, t3, t4, t5, t6, t7⟩ := S
  exact StaticIs.there (s := { Z with heap := U.heap }) ⟨cfS, iS, kS, fS, st, cS, t1, t2, t3, t4, t5, (fun q => by rw [q] at t6; cases t6), t7⟩ al rfl
end StrChars.Road
namespace StrChars
open Jvm Sem ClassFile Op Lib Jvm.Stand Jvm.Free.XT Jvm.Free.ALB Jvm.Free.JM Jvm.Free
open Jvm.Lib.Cold (StaticIs)
/-- what place i of a byte[]'s cell holds -/
def yv (A : Cell) (i : Nat) : Int32 := match A.slots[i]? with | some (.int x) => x | _ => 0
theorem yv_get {a : Addr} {A : Cell} {U : State} (h : XT.Arr .byte a A U) (ht : Typed .byte A) {i : Nat} (hi : i < A.slots.size) : A.slots[i]? = some (.int (yv A i)) := by
  have e := Array.getElem?_eq_getElem hi
  have f := ht i _ e
  unfold yv; rw [e]
  generalize A.slots[i] = v at f
  cases v <;> simp [fits] at f ⊢
/-- the two arrays are equal, place for place -/
def EqC (A B : Cell) : Prop := A.slots.size = B.slots.size ∧ ∀ i, i < A.slots.size → yv A i = yv B i
/-- a boolean that says whether p -/
def Says01 (q : Prop) (r : Option Value) (s u : State) : Prop := ∃ v : Int32, r = some (.int v) ∧ u.heap = s.heap ∧ ((v = 1 ∧ q) ∨ (v = 0 ∧ ¬ q))
theorem Says01.mv {q : Prop} : ∀ r (U U' V V' : State), U'.heap = U.heap → V.vm.Alike V'.vm → V'.heap = V.heap → Says01 q r U V → Says01 q r U' V' :=
  fun r U U' V V' h1 _ h2 ⟨v, a, b, c⟩ => ⟨v, a, by rw [h1, h2]; exact b, c⟩
namespace LEq
def yN : MethodName := ⟨"java/lang/StringLatin1", "equals", "([B[B)Z"⟩
abbrev yB : ByteArray := jdk_43_method_13_code
theorem d0 : decode yB 0 = .ok (.aload_n 0, 1) := by decide +kernel
theorem d1 : decode yB 1 = .ok (.arraylength, 1) := by decide +kernel
theorem d2 : decode yB 2 = .ok (.aload_n 1, 1) := by decide +kernel
theorem d3 : decode yB 3 = .ok (.arraylength, 1) := by decide +kernel
theorem d4 : decode yB 4 = .ok (.if_icmp (.ne) 30, 3) := by decide +kernel
theorem d7 : decode yB 7 = .ok (.iconst 0, 1) := by decide +kernel
theorem d8 : decode yB 8 = .ok (.istore_n 2, 1) := by decide +kernel
theorem d9 : decode yB 9 = .ok (.iload_n 2, 1) := by decide +kernel
theorem d10 : decode yB 10 = .ok (.aload_n 0, 1) := by decide +kernel
theorem d11 : decode yB 11 = .ok (.arraylength, 1) := by decide +kernel
theorem d12 : decode yB 12 = .ok (.if_icmp (.ge) 20, 3) := by decide +kernel
theorem d15 : decode yB 15 = .ok (.aload_n 0, 1) := by decide +kernel
theorem d16 : decode yB 16 = .ok (.iload_n 2, 1) := by decide +kernel
theorem d17 : decode yB 17 = .ok (.baload, 1) := by decide +kernel
theorem d18 : decode yB 18 = .ok (.aload_n 1, 1) := by decide +kernel
theorem d19 : decode yB 19 = .ok (.iload_n 2, 1) := by decide +kernel
theorem d20 : decode yB 20 = .ok (.baload, 1) := by decide +kernel
theorem d21 : decode yB 21 = .ok (.if_icmp (.eq) 5, 3) := by decide +kernel
theorem d24 : decode yB 24 = .ok (.iconst 0, 1) := by decide +kernel
theorem d25 : decode yB 25 = .ok (.ireturn, 1) := by decide +kernel
theorem d26 : decode yB 26 = .ok (.iinc 2 1, 3) := by decide +kernel
theorem d29 : decode yB 29 = .ok (.goto (-20), 3) := by decide +kernel
theorem d32 : decode yB 32 = .ok (.iconst 1, 1) := by decide +kernel
theorem d33 : decode yB 33 = .ok (.ireturn, 1) := by decide +kernel
theorem d34 : decode yB 34 = .ok (.iconst 0, 1) := by decide +kernel
theorem d35 : decode yB 35 = .ok (.ireturn, 1) := by decide +kernel
def site : List Cond := []
def tab : Cond := tabOf yN yB 3 (some .boolean) site
def P (a : Addr) (A : Cell) (b : Addr) (B : Cell) (args : Array Value) (s : State) : Prop := args = #[.ref a, .ref b] ∧ XT.Arr .byte a A s ∧ Typed .byte A ∧ XT.Arr .byte b B s ∧ Typed .byte B
/-- whether two byte[] are equal, place for place -/
theorem law (l : Launch) (a : Addr) (A : Cell) (b : Addr) (B : Cell) : Law l yN 2 2 0 0 yB 3 (some .boolean) site (P a A b B) (Says01 (EqC A B)) [] 0 0 := by
  refine Law.of_walk (plainFor_of_name (by decide +kernel)) (by decide +kernel) (by decide +kernel) (by decide) (fun _ _ h => by rw [h.1]; rfl) (fun _ U U' hal hh h => ⟨h.1, h.2.1.mv hal hh, h.2.2.1, h.2.2.2.1.mv hal hh, h.2.2.2.2⟩) (fun r U U' V V' h1 hal h2 h => Says01.mv r U U' V V' h1 hal h2 h) ?_
  intro p e s m args below meth c s₁ X0 hexec hbytes hml hret hlk hnm hown hh0 W hP
  obtain ⟨rfl, hA, tA, hB, tB⟩ := hP
  have a31 := hA.2.2.2
  have b31 := hB.2.2.2
  have hA0 := hA.mv X0.warmed.alike hh0
  have hB0 := hB.mv X0.warmed.alike hh0
  have c1 : Steps p.tables e below (s₁.setTop (entryFrame m #[.ref a, .ref b] 3)) (s₁.setTop (mkF m 0 #[.val (.ref a), .val (.ref b), .unset] [])) := entry rfl
  have c2 : Steps p.tables e below (s₁.setTop (entryFrame m #[.ref a, .ref b] 3)) (s₁.setTop (mkF m 4 #[.val (.ref a), .val (.ref b), .unset] [.int (Int32.ofNat B.slots.size), .int (Int32.ofNat A.slots.size)])) := c1.trans (by
    refine XS.aloadN X0.here hexec rfl (hb hbytes d0) rfl rfl ?_
    refine X0.alen hexec hA0 rfl rfl (hb hbytes d1) ?_
    refine XS.aloadN X0.here hexec rfl (hb hbytes d2) rfl rfl ?_
    refine X0.alen hexec hB0 rfl rfl (hb hbytes d3) ?_
    exact Steps.refl _)
  by_cases hs : A.slots.size = B.slots.size
  · have c3 : Steps p.tables e below (s₁.setTop (entryFrame m #[.ref a, .ref b] 3)) (s₁.setTop (mkF m 9 #[.val (.ref a), .val (.ref b), .val (.int 0)] [])) := c2.trans (by
      refine XS.icmpNo X0.here hexec rfl (hb hbytes d4) rfl (ii_ne_f (by rw [hs])) ?_
      refine iconstV X0.here hexec rfl 0 (hb hbytes d7) (by decide) ?_
      refine XS.istoreN X0.here hexec rfl (hb hbytes d8) rfl rfl ?_
      exact Steps.refl _)
    have loop : ∀ (r i : Nat), i + r = A.slots.size → (∀ j, j < i → yv A j = yv B j) → Steps p.tables e below (s₁.setTop (entryFrame m #[.ref a, .ref b] 3)) (s₁.setTop (mkF m 9 #[.val (.ref a), .val (.ref b), .val (.int (Int32.ofNat i))] [])) → ∃ (pc : Nat) (Ls : Array Slot) (v : Int32), (pc = 25 ∨ pc = 33) ∧ ((v = 1 ∧ EqC A B) ∨ (v = 0 ∧ ¬ EqC A B)) ∧ Steps p.tables e below (s₁.setTop (entryFrame m #[.ref a, .ref b] 3)) (s₁.setTop (mkF m pc Ls [.int v])) := by
      intro r
      induction r with
      | zero =>
        intro i hi he cl
        exact ⟨33, _, 1, Or.inr rfl, Or.inl ⟨rfl, hs, fun j hj => he j (by omega)⟩, cl.trans (by
          refine XS.iloadN X0.here hexec rfl (hb hbytes d9) rfl ?_
          refine XS.aloadN X0.here hexec rfl (hb hbytes d10) rfl rfl ?_
          refine X0.alen hexec hA0 rfl rfl (hb hbytes d11) ?_
          refine XS.icmpYes X0.here hexec rfl (pc0 := 12) rfl (hb hbytes d12) rfl (ii_ge_t (nlt32 (by omega) (by omega))) (by decide) rfl ?_
          refine iconstV X0.here hexec rfl 1 (hb hbytes d32) (by decide) ?_
          exact Steps.refl _)⟩
      | succ r ih =>
        intro i hi he cl
        have c4 : Steps p.tables e below (s₁.setTop (entryFrame m #[.ref a, .ref b] 3)) (s₁.setTop (mkF m 21 #[.val (.ref a), .val (.ref b), .val (.int (Int32.ofNat i))] [.int (yv B i), .int (yv A i)])) := cl.trans (by
          refine XS.iloadN X0.here hexec rfl (hb hbytes d9) rfl ?_
          refine XS.aloadN X0.here hexec rfl (hb hbytes d10) rfl rfl ?_
          refine X0.alen hexec hA0 rfl rfl (hb hbytes d11) ?_
          refine XS.icmpNo X0.here hexec rfl (hb hbytes d12) rfl (ii_ge_f (lt32 (by omega) (by omega))) ?_
          refine XS.aloadN X0.here hexec rfl (hb hbytes d15) rfl rfl ?_
          refine XS.iloadN X0.here hexec rfl (hb hbytes d16) rfl ?_
          refine X0.aget hexec hA0 rfl (yv_get hA tA (i := i) (by omega)) rfl rfl (hb hbytes d17) ?_
          refine XS.aloadN X0.here hexec rfl (hb hbytes d18) rfl rfl ?_
          refine XS.iloadN X0.here hexec rfl (hb hbytes d19) rfl ?_
          refine X0.aget hexec hB0 rfl (yv_get hB tB (i := i) (by omega)) rfl rfl (hb hbytes d20) ?_
          exact Steps.refl _)
        by_cases hv : yv A i = yv B i
        · have c5 : Steps p.tables e below (s₁.setTop (entryFrame m #[.ref a, .ref b] 3)) (s₁.setTop (mkF m 9 #[.val (.ref a), .val (.ref b), .val (.int (Int32.ofNat i + 1))] [])) := c4.trans (by
            refine XS.icmpYes X0.here hexec rfl (pc0 := 21) rfl (hb hbytes d21) rfl (ii_eq_t hv) (by decide) rfl ?_
            refine iincV X0.here hexec rfl 1 (hb hbytes d26) (by decide) rfl rfl ?_
            refine XS.goto X0.here hexec rfl (pc0 := 29) rfl (hb hbytes d29) (by decide) rfl ?_
            exact Steps.refl _)
          rw [succ32] at c5
          exact ih (i + 1) (by omega) (fun j hj => by
            by_cases e : j = i
            · rw [e]; exact hv
            · exact he j (by omega)) c5
        · exact ⟨25, _, 0, Or.inl rfl, Or.inr ⟨rfl, fun q => hv (q.2 i (by omega))⟩, c4.trans (by
            refine XS.icmpNo X0.here hexec rfl (hb hbytes d21) rfl (ii_eq_f hv) ?_
            refine iconstV X0.here hexec rfl 0 (hb hbytes d24) (by decide) ?_
            exact Steps.refl _)⟩
    obtain ⟨pc, Ls, v, hpc, hv, cz⟩ := loop A.slots.size 0 (by omega) (fun j hj => absurd hj (Nat.not_lt_zero j)) c3
    have nv : narrow .boolean (.int v) = .int v := by rcases hv with ⟨rfl, -⟩ | ⟨rfl, -⟩ <;> rfl
    rcases hpc with rfl | rfl
    · exact ⟨s₁, some (.int v), _, _, _, X0, rfl, rfl, rfl, (fun h => by cases h), ⟨v, rfl, hh0, hv⟩, fun fs hl => cz.trans (X0.ireturnOut hexec hret nv (Or.inr (Or.inl rfl)) (hb hbytes d25) hl)⟩
    · exact ⟨s₁, some (.int v), _, _, _, X0, rfl, rfl, rfl, (fun h => by cases h), ⟨v, rfl, hh0, hv⟩, fun fs hl => cz.trans (X0.ireturnOut hexec hret nv (Or.inr (Or.inl rfl)) (hb hbytes d33) hl)⟩
  · have c3 : Steps p.tables e below (s₁.setTop (entryFrame m #[.ref a, .ref b] 3)) (s₁.setTop (mkF m 35 #[.val (.ref a), .val (.ref b), .unset] [.int 0])) := c2.trans (by
      refine XS.icmpYes X0.here hexec rfl (pc0 := 4) rfl (hb hbytes d4) rfl (ii_ne_t (ne32 a31 b31 hs)) (by decide) rfl ?_
      refine iconstV X0.here hexec rfl 0 (hb hbytes d34) (by decide) ?_
      exact Steps.refl _)
    exact ⟨s₁, some (.int 0), _, _, _, X0, rfl, rfl, rfl, (fun h => by cases h), ⟨0, rfl, hh0, Or.inr ⟨rfl, fun q => hs q.1⟩⟩, fun fs hl => c3.trans (X0.ireturnOut hexec hret rfl (Or.inr (Or.inl rfl)) (hb hbytes d35) hl)⟩
end LEq
theorem Cod.ty {cd : Int32} {n : Nat} {f : Nat → Int32} {V : Cell} (h : Cod cd n f V) : Typed .byte V := fun i v hv => by
  have hi : i < V.slots.size := (Array.getElem?_eq_some_iff.mp hv).1
  rcases h with ⟨-, k1, k2⟩ | ⟨-, k1, k2, -⟩
  · rw [(k2 i (by omega)).1] at hv; cases hv; exact fits_lo8 _
  · rcases Nat.mod_two_eq_zero_or_one i with e | e
    · obtain ⟨j, rfl⟩ : ∃ j, i = 2 * j := ⟨i / 2, by omega⟩
      rw [(k2 j (by omega)).1] at hv; cases hv; exact fits_lo8 _
    · obtain ⟨j, rfl⟩ : ∃ j, i = 2 * j + 1 := ⟨i / 2, by omega⟩
      rw [(k2 j (by omega)).2] at hv; cases hv; exact fits_lo8 _
/-- the same text -/
def SameT (n : Nat) (f : Nat → Int32) (k : Nat) (g : Nat → Int32) : Prop := n = k ∧ ∀ j, j < n → f j = g j
theorem lo8_inj {x y : Int32} (h0 : ¬ x < 0) (h1 : ¬ 255 < x) (k0 : ¬ y < 0) (k1 : ¬ 255 < y) (h : lo8 x = lo8 y) : x = y := by
  rw [← lo8_mask h0 h1, ← lo8_mask k0 k1, h]
/-- arrays coded by one coder are equal just where the texts are -/
theorem Cod.eqv {cd : Int32} {n k : Nat} {f g : Nat → Int32} {V V' : Cell} (h : Cod cd n f V) (h' : Cod cd k g V') (hf : ∀ j, j < n → ¬ f j < 0 ∧ ¬ 65535 < f j) (hg : ∀ j, j < k → ¬ g j < 0 ∧ ¬ 65535 < g j) : EqC V V' ↔ SameT n f k g := by
  have yvv : ∀ {W : Cell} {i : Nat} {x : Int32}, W.slots[i]? = some (.int x) → yv W i = x := fun q => by unfold yv; rw [q]
  rcases h with ⟨rfl, k1, k2⟩ | ⟨rfl, k1, k2, -⟩
  · rcases h' with ⟨-, m1, m2⟩ | ⟨e, -⟩
    · constructor
      · rintro ⟨e1, e2⟩
        refine ⟨by omega, fun j hj => ?_⟩
        have q := e2 j (by omega)
        rw [yvv (k2 j hj).1, yvv (m2 j (by omega)).1] at q
        exact lo8_inj (hf j hj).1 (k2 j hj).2 (hg j (by omega)).1 (m2 j (by omega)).2 q
      · rintro ⟨rfl, e2⟩
        refine ⟨by omega, fun j hj => ?_⟩
        rw [yvv (k2 j (by omega)).1, yvv (m2 j (by omega)).1, e2 j (by omega)]
    · exact absurd e (by decide)
  · rcases h' with ⟨e, -⟩ | ⟨-, m1, m2, -⟩
    · exact absurd e (by decide)
    · constructor
      · rintro ⟨e1, e2⟩
        refine ⟨by omega, fun j hj => ?_⟩
        have q1 := e2 (2 * j) (by omega)
        have q2 := e2 (2 * j + 1) (by omega)
        rw [yvv (k2 j hj).1, yvv (m2 j (by omega)).1] at q1
        rw [yvv (k2 j hj).2, yvv (m2 j (by omega)).2] at q2
        rw [← pair_says (hf j hj).1 (hf j hj).2, ← pair_says (hg j (by omega)).1 (hg j (by omega)).2, q1, q2]
      · rintro ⟨rfl, e2⟩
        refine ⟨by omega, fun i hi => ?_⟩
        rcases Nat.mod_two_eq_zero_or_one i with e | e
        · obtain ⟨j, rfl⟩ : ∃ j, i = 2 * j := ⟨i / 2, by omega⟩
          rw [yvv (k2 j (by omega)).1, yvv (m2 j (by omega)).1, e2 j (by omega)]
        · obtain ⟨j, rfl⟩ : ∃ j, i = 2 * j + 1 := ⟨i / 2, by omega⟩
          rw [yvv (k2 j (by omega)).2, yvv (m2 j (by omega)).2, e2 j (by omega)]
/-- two codings differ: so do the texts -/
theorem Cod.dif {cd cd' : Int32} {n k : Nat} {f g : Nat → Int32} {V V' : Cell} (h : Cod cd n f V) (h' : Cod cd' k g V') (hne : ¬ cd = cd') : ¬ SameT n f k g := by
  rintro ⟨rfl, e⟩
  rcases h with ⟨rfl, -, k2⟩ | ⟨rfl, -, -, j, hj, hw⟩
  · rcases h' with ⟨rfl, -⟩ | ⟨-, -, -, j, hj, hw⟩
    · exact hne rfl
    · exact (k2 j hj).2 (by rw [e j hj]; exact hw)
  · rcases h' with ⟨-, -, m2⟩ | ⟨rfl, -⟩
    · exact (m2 j hj).2 (by rw [← e j hj]; exact hw)
    · exact hne rfl
/-- an object of exactly C is an instance of C -/
theorem cinst {p : Program} {l : Launch} {e : Env} {R : Room} {s : State} {m : MethodId} {args : Array Value} {below : List Frame} {meth : Method} {c : Code} {T : State} {locs : List Loc} {cells slots : Nat} (X : Stand p l e R s m args below meth c T locs cells slots) (hexec : p.tables.exec = Jvm.exec) {own C : String} {index : Nat} (hown : s.vm.findClass own = some m.cls) (hlink : (Cond.classLink own index C).before args s = true) {a : Addr} (hE : Exact C a T)
    {g : JFrame} (hg : g.method = m) {rest : List Value} (hstack : g.stack = .ref a :: rest) (hdg : decode c.code g.pc = .ok (.instanceof index, 3)) :
    ∃ T', Stand p l e R s m args below meth c T' locs cells slots ∧ T'.heap = T.heap ∧ ∀ target, Steps p.tables e below (T'.setTop { g with pc := g.pc + 3, stack := .int 1 :: rest }) target → Steps p.tables e below (T.setTop g) target := by
  obtain ⟨cB, h1, D, h2, h3, h4⟩ := hE
  have h1' : s.vm.findClass C = some cB := by rw [← X.warmed.alike.findClass]; exact h1
  obtain ⟨vm', X', st⟩ := X.instanceofYes hexec hown hlink h2 h4 h1' (by rw [h3]; exact Jvm.Free.SB.assignable_self _ _) hg hstack hdg
  exact ⟨_, X', rfl, st⟩
theorem cself {p : Program} {l : Launch} {e : Env} {R : Room} {s : State} {m : MethodId} {args : Array Value} {below : List Frame} {meth : Method} {c : Code} {T : State} {locs : List Loc} {cells slots : Nat} (X : Stand p l e R s m args below meth c T locs cells slots) (hexec : p.tables.exec = Jvm.exec) {own C : String} {index : Nat} (hown : s.vm.findClass own = some m.cls) (hlink : (Cond.classLink own index C).before args s = true) {a : Addr} (hE : Exact C a T)
    {g : JFrame} (hg : g.method = m) {rest : List Value} (hstack : g.stack = .ref a :: rest) (hdg : decode c.code g.pc = .ok (.checkcast index, 3)) :
    ∃ T', Stand p l e R s m args below meth c T' locs cells slots ∧ T'.heap = T.heap ∧ ∀ target, Steps p.tables e below (T'.setTop { g with pc := g.pc + 3, stack := .ref a :: rest }) target → Steps p.tables e below (T.setTop g) target := by
  obtain ⟨cB, h1, D, h2, h3, h4⟩ := hE
  have h1' : s.vm.findClass C = some cB := by rw [← X.warmed.alike.findClass]; exact h1
  obtain ⟨vm', X', st⟩ := X.checkcastYes hexec hown hlink h2 h4 h1' (by rw [h3]; exact Jvm.Free.SB.assignable_self _ _) hg hstack hdg
  exact ⟨_, X', rfl, fun t h => st t (by rw [← hstack] at h; exact h)⟩
namespace SEq
def yN : MethodName := ⟨"java/lang/String", "equals", "(Ljava/lang/Object;)Z"⟩
abbrev yB : ByteArray := jdk_42_method_66_code
theorem d0 : decode yB 0 = .ok (.aload_n 0, 1) := by decide +kernel
theorem d1 : decode yB 1 = .ok (.aload_n 1, 1) := by decide +kernel
theorem d2 : decode yB 2 = .ok (.if_acmp (.ne) 5, 3) := by decide +kernel
theorem d5 : decode yB 5 = .ok (.iconst 1, 1) := by decide +kernel
theorem d6 : decode yB 6 = .ok (.ireturn, 1) := by decide +kernel
theorem d7 : decode yB 7 = .ok (.aload_n 1, 1) := by decide +kernel
theorem d8 : decode yB 8 = .ok (.instanceof 10, 3) := by decide +kernel
theorem d11 : decode yB 11 = .ok (.ifCond (.eq) 43, 3) := by decide +kernel
theorem d14 : decode yB 14 = .ok (.aload_n 1, 1) := by decide +kernel
theorem d15 : decode yB 15 = .ok (.checkcast 10, 3) := by decide +kernel
theorem d18 : decode yB 18 = .ok (.astore_n 2, 1) := by decide +kernel
theorem d19 : decode yB 19 = .ok (.getstatic 38, 3) := by decide +kernel
theorem d22 : decode yB 22 = .ok (.ifCond (.eq) 14, 3) := by decide +kernel
theorem d25 : decode yB 25 = .ok (.aload_n 0, 1) := by decide +kernel
theorem d26 : decode yB 26 = .ok (.getfield 15, 3) := by decide +kernel
theorem d29 : decode yB 29 = .ok (.aload_n 2, 1) := by decide +kernel
theorem d30 : decode yB 30 = .ok (.getfield 15, 3) := by decide +kernel
theorem d33 : decode yB 33 = .ok (.if_icmp (.ne) 21, 3) := by decide +kernel
theorem d36 : decode yB 36 = .ok (.aload_n 0, 1) := by decide +kernel
theorem d37 : decode yB 37 = .ok (.getfield 9, 3) := by decide +kernel
theorem d40 : decode yB 40 = .ok (.aload_n 2, 1) := by decide +kernel
theorem d41 : decode yB 41 = .ok (.getfield 9, 3) := by decide +kernel
theorem d44 : decode yB 44 = .ok (.invokestatic 541, 3) := by decide +kernel
theorem d47 : decode yB 47 = .ok (.ifCond (.eq) 7, 3) := by decide +kernel
theorem d50 : decode yB 50 = .ok (.iconst 1, 1) := by decide +kernel
theorem d51 : decode yB 51 = .ok (.goto 4, 3) := by decide +kernel
theorem d54 : decode yB 54 = .ok (.iconst 0, 1) := by decide +kernel
theorem d55 : decode yB 55 = .ok (.ireturn, 1) := by decide +kernel
def site : List Cond := [.classLink "java/lang/String" 10 "java/lang/String", .fieldLink "java/lang/String" 38 "java/lang/String" "COMPACT_STRINGS" "Z", .fieldLink "java/lang/String" 15 "java/lang/String" "coder" "B", .fieldLink "java/lang/String" 9 "java/lang/String" "value" "[B", LEq.tab] ++ staticW "java/lang/String" 541 LEq.yN
def tab : Cond := tabOf yN yB 3 (some .boolean) site
def P (x t : Addr) (V : Cell) (cd : Int32) (n : Nat) (f : Nat → Int32) (y t' : Addr) (V' : Cell) (cd' : Int32) (k : Nat) (g : Nat → Int32) (z : Int32) (args : Array Value) (s : State) : Prop := args = #[.ref x, .ref y] ∧ Txt x t V cd n f s ∧ Txt y t' V' cd' k g s ∧ StaticIs s "java/lang/String" "COMPACT_STRINGS" "Z" (.int z) ∧ ¬ z = 0
/-- equals(Object) of two Strings: whether the texts are the same -/
theorem law (l : Launch) (x t : Addr) (V : Cell) (cd : Int32) (n : Nat) (f : Nat → Int32) (y t' : Addr) (V' : Cell) (cd' : Int32) (k : Nat) (g : Nat → Int32) (z : Int32) : Law l yN 2 1 1 14 yB 3 (some .boolean) site (P x t V cd n f y t' V' cd' k g z) (Says01 (SameT n f k g)) [] 0 0 := by
  refine Law.of_walk (plainFor_of_name (by decide +kernel)) (by decide +kernel) (by decide +kernel) (by decide) (fun _ _ h => by rw [h.1]; rfl) (fun _ U U' hal hh h => ⟨h.1, h.2.1.mv hal hh, h.2.2.1.mv hal hh, h.2.2.2.1.there hal hh, h.2.2.2.2⟩) (fun r U U' V V' h1 hal h2 h => Says01.mv r U U' V V' h1 hal h2 h) ?_
  intro p e s m args below meth c s₁ X0 hexec hbytes hml hret hlk hnm hown hh0 W hP
  obtain ⟨rfl, hx, hy, s1, hz⟩ := hP
  have c1 : Steps p.tables e below (s₁.setTop (entryFrame m #[.ref x, .ref y] 3)) (s₁.setTop (mkF m 2 #[.val (.ref x), .val (.ref y), .unset] [.ref y, .ref x])) := Steps.trans (entry rfl) (by
    show Steps p.tables e below (s₁.setTop (mkF m 0 #[.val (.ref x), .val (.ref y), .unset] [])) _
    refine XS.aloadN X0.here hexec rfl (hb hbytes d0) rfl rfl ?_
    refine XS.aloadN X0.here hexec rfl (hb hbytes d1) rfl rfl ?_
    exact Steps.refl _)
  by_cases hxy : x = y
  · have c2 : Steps p.tables e below (s₁.setTop (entryFrame m #[.ref x, .ref y] 3)) (s₁.setTop (mkF m 6 #[.val (.ref x), .val (.ref y), .unset] [.int 1])) := c1.trans (by
      refine acmpNo X0.here hexec rfl (hb hbytes d2) rfl rfl rfl (by simp [acmp, hxy]) ?_
      refine iconstV X0.here hexec rfl 1 (hb hbytes d5) (by decide) ?_
      exact Steps.refl _)
    subst hxy
    have ec : cd = cd' := by
      obtain ⟨D, fd, a1, a2, a3⟩ := hx.2.2.1
      obtain ⟨D', fd', b1, b2, b3⟩ := hy.2.2.1
      cases a1.symm.trans b1
      obtain ⟨q1, q2, q3, q4⟩ := a2.1
      obtain ⟨r1, r2, r3, r4⟩ := b2.1
      cases q4.symm.trans r4
      cases a3.symm.trans b3; rfl
    have et : t = t' := by
      obtain ⟨D, fd, a1, a2, a3⟩ := hx.2.1
      obtain ⟨D', fd', b1, b2, b3⟩ := hy.2.1
      cases a1.symm.trans b1
      obtain ⟨q1, q2, q3, q4⟩ := a2.1
      obtain ⟨r1, r2, r3, r4⟩ := b2.1
      cases q4.symm.trans r4
      cases a3.symm.trans b3; rfl
    subst ec et
    have ev : V = V' := by cases hx.2.2.2.1.1.symm.trans hy.2.2.2.1.1; rfl
    subst ev
    have hs : SameT n f k g := (Cod.eqv hx.2.2.2.2.1 hy.2.2.2.2.1 hx.2.2.2.2.2 hy.2.2.2.2.2).mp ⟨rfl, fun _ _ => rfl⟩
    exact ⟨s₁, some (.int 1), _, _, _, X0, rfl, rfl, rfl, (fun h => by cases h), ⟨1, rfl, hh0, Or.inl ⟨rfl, hs⟩⟩, fun fs hl => c2.trans (X0.ireturnOut hexec hret rfl (Or.inr (Or.inl rfl)) (hb hbytes d6) hl)⟩
  · have c2 : Steps p.tables e below (s₁.setTop (entryFrame m #[.ref x, .ref y] 3)) (s₁.setTop (mkF m 8 #[.val (.ref x), .val (.ref y), .unset] [.ref y])) := c1.trans (by
      refine acmpYes X0.here hexec rfl (pc0 := 2) rfl (hb hbytes d2) rfl rfl rfl (by simp [acmp, hxy]) (by decide) rfl ?_
      refine XS.aloadN X0.here hexec rfl (hb hbytes d7) rfl rfl ?_
      exact Steps.refl _)
    obtain ⟨T3, X3, q3, st3⟩ := cinst X0 hexec hown (wk W (.classLink "java/lang/String" 10 "java/lang/String")) (hy.mv X0.warmed.alike hh0).1 (g := (mkF m 8 #[.val (.ref x), .val (.ref y), .unset] [.ref y])) rfl (rest := []) rfl (hb hbytes d8)
    have hh3 := q3.trans hh0
    have c4 : Steps p.tables e below (s₁.setTop (entryFrame m #[.ref x, .ref y] 3)) (T3.setTop (mkF m 15 #[.val (.ref x), .val (.ref y), .unset] [.ref y])) := (c2.trans (st3 _ (Steps.refl _))).trans (by
      refine XS.ifNo X3.here hexec rfl (hb hbytes d11) rfl (i0_eq_f (by decide)) ?_
      refine XS.aloadN X3.here hexec rfl (hb hbytes d14) rfl rfl ?_
      exact Steps.refl _)
    obtain ⟨T5, X5, q5, st5⟩ := cself X3 hexec hown (wk W (.classLink "java/lang/String" 10 "java/lang/String")) (hy.mv X3.warmed.alike hh3).1 (g := (mkF m 15 #[.val (.ref x), .val (.ref y), .unset] [.ref y])) rfl (rest := []) rfl (hb hbytes d15)
    have hh5 := q5.trans hh3
    have c6 : Steps p.tables e below (s₁.setTop (entryFrame m #[.ref x, .ref y] 3)) (T5.setTop (mkF m 19 #[.val (.ref x), .val (.ref y), .val (.ref y)] [])) := (c4.trans (st5 _ (Steps.refl _))).trans (by
      refine XS.astoreN X5.here hexec rfl (hb hbytes d18) rfl rfl rfl ?_
      exact Steps.refl _)
    obtain ⟨T7, X7, q7, st7⟩ := X5.sget hexec hown (wk W (.fieldLink "java/lang/String" 38 "java/lang/String" "COMPACT_STRINGS" "Z")) s1 (fun _ _ h => by rw [hh5]; exact h) (g := (mkF m 19 #[.val (.ref x), .val (.ref y), .val (.ref y)] [])) rfl (hb hbytes d19)
    have hh7 := q7.trans hh5
    have c8 : Steps p.tables e below (s₁.setTop (entryFrame m #[.ref x, .ref y] 3)) (T7.setTop (mkF m 26 #[.val (.ref x), .val (.ref y), .val (.ref y)] [.ref x])) := (c6.trans (st7 _ (Steps.refl _))).trans (by
      refine XS.ifNo X7.here hexec rfl (hb hbytes d22) rfl (i0_eq_f hz) ?_
      refine XS.aloadN X7.here hexec rfl (hb hbytes d25) rfl rfl ?_
      exact Steps.refl _)
    obtain ⟨T9, X9, q9, st9⟩ := X7.hget hexec hown (wk W (.fieldLink "java/lang/String" 15 "java/lang/String" "coder" "B")) (hx.mv X7.warmed.alike hh7).2.2.1 (g := (mkF m 26 #[.val (.ref x), .val (.ref y), .val (.ref y)] [.ref x])) rfl (rest := []) rfl (hb hbytes d26)
    have hh9 := q9.trans hh7
    have c10 : Steps p.tables e below (s₁.setTop (entryFrame m #[.ref x, .ref y] 3)) (T9.setTop (mkF m 30 #[.val (.ref x), .val (.ref y), .val (.ref y)] [.ref y, .int cd])) := (c8.trans (st9 _ (Steps.refl _))).trans (by
      refine XS.aloadN X9.here hexec rfl (hb hbytes d29) rfl rfl ?_
      exact Steps.refl _)
    obtain ⟨T11, X11, q11, st11⟩ := X9.hget hexec hown (wk W (.fieldLink "java/lang/String" 15 "java/lang/String" "coder" "B")) (hy.mv X9.warmed.alike hh9).2.2.1 (g := (mkF m 30 #[.val (.ref x), .val (.ref y), .val (.ref y)] [.ref y, .int cd])) rfl (rest := [.int cd]) rfl (hb hbytes d30)
    have hh11 := q11.trans hh9
    have c12 : Steps p.tables e below (s₁.setTop (entryFrame m #[.ref x, .ref y] 3)) (T11.setTop (mkF m 33 #[.val (.ref x), .val (.ref y), .val (.ref y)] [.int cd', .int cd])) := c10.trans (st11 _ (Steps.refl _))
    by_cases hcd : cd = cd'
    · subst hcd
      have c13 : Steps p.tables e below (s₁.setTop (entryFrame m #[.ref x, .ref y] 3)) (T11.setTop (mkF m 37 #[.val (.ref x), .val (.ref y), .val (.ref y)] [.ref x])) := c12.trans (by
        refine XS.icmpNo X11.here hexec rfl (hb hbytes d33) rfl (ii_ne_f rfl) ?_
        refine XS.aloadN X11.here hexec rfl (hb hbytes d36) rfl rfl ?_
        exact Steps.refl _)
      obtain ⟨T14, X14, q14, st14⟩ := X11.hget hexec hown (wk W (.fieldLink "java/lang/String" 9 "java/lang/String" "value" "[B")) (hx.mv X11.warmed.alike hh11).2.1 (g := (mkF m 37 #[.val (.ref x), .val (.ref y), .val (.ref y)] [.ref x])) rfl (rest := []) rfl (hb hbytes d37)
      have hh14 := q14.trans hh11
      have c15 : Steps p.tables e below (s₁.setTop (entryFrame m #[.ref x, .ref y] 3)) (T14.setTop (mkF m 41 #[.val (.ref x), .val (.ref y), .val (.ref y)] [.ref y, .ref t])) := (c13.trans (st14 _ (Steps.refl _))).trans (by
        refine XS.aloadN X14.here hexec rfl (hb hbytes d40) rfl rfl ?_
        exact Steps.refl _)
      obtain ⟨T16, X16, q16, st16⟩ := X14.hget hexec hown (wk W (.fieldLink "java/lang/String" 9 "java/lang/String" "value" "[B")) (hy.mv X14.warmed.alike hh14).2.1 (g := (mkF m 41 #[.val (.ref x), .val (.ref y), .val (.ref y)] [.ref y, .ref t])) rfl (rest := [.ref t]) rfl (hb hbytes d41)
      have hh16 := q16.trans hh14
      have c17 : Steps p.tables e below (s₁.setTop (entryFrame m #[.ref x, .ref y] 3)) (T16.setTop (mkF m 44 #[.val (.ref x), .val (.ref y), .val (.ref y)] [.ref t', .ref t])) := c15.trans (st16 _ (Steps.refl _))
      obtain ⟨v18, T18, X18, E18, g18⟩ := X16.callS hexec (LEq.law l t V t' V') hown (wks W (staticW "java/lang/String" 541 LEq.yN)) (wk W LEq.tab) (W := 0) (Nat.le_of_ble_eq_true rfl) (Nat.le_of_ble_eq_true rfl) (Nat.le_refl _) (Nat.le_refl _) (g := (mkF m 44 #[.val (.ref x), .val (.ref y), .val (.ref y)] [.ref t', .ref t])) rfl (by rw [hml]; rfl) c17 (argsL := [.ref t, .ref t']) (rest := []) rfl rfl (by show 2 * 0 + 0 ≤ _; decide) (hb hbytes d44) (⟨rfl, hx.2.2.2.1.mv X16.warmed.alike hh16, hx.2.2.2.2.1.ty, hy.2.2.2.1.mv X16.warmed.alike hh16, hy.2.2.2.2.1.ty⟩)
      obtain ⟨v, rfl, q18, hv⟩ := E18
      have iff := Cod.eqv hx.2.2.2.2.1 hy.2.2.2.2.1 hx.2.2.2.2.2 hy.2.2.2.2.2
      rcases hv with ⟨rfl, he⟩ | ⟨rfl, he⟩
      · have c19 : Steps p.tables e below (s₁.setTop (entryFrame m #[.ref x, .ref y] 3)) (T18.setTop (mkF m 55 #[.val (.ref x), .val (.ref y), .val (.ref y)] [.int 1])) := Steps.trans g18 (by
          refine XS.ifNo X18.here hexec rfl (hb hbytes d47) rfl (i0_eq_f (by decide)) ?_
          refine iconstV X18.here hexec rfl 1 (hb hbytes d50) (by decide) ?_
          refine XS.goto X18.here hexec rfl (pc0 := 51) rfl (hb hbytes d51) (by decide) rfl ?_
          exact Steps.refl _)
        exact ⟨T18, some (.int 1), _, _, _, X18, rfl, rfl, rfl, (fun h => by cases h), ⟨1, rfl, q18.trans hh16, Or.inl ⟨rfl, iff.mp he⟩⟩, fun fs hl => c19.trans (X18.ireturnOut hexec hret rfl (Or.inr (Or.inl rfl)) (hb hbytes d55) hl)⟩
      · have c19 : Steps p.tables e below (s₁.setTop (entryFrame m #[.ref x, .ref y] 3)) (T18.setTop (mkF m 55 #[.val (.ref x), .val (.ref y), .val (.ref y)] [.int 0])) := Steps.trans g18 (by
          refine XS.ifYes X18.here hexec rfl (pc0 := 47) rfl (hb hbytes d47) rfl (i0_eq_t rfl) (by decide) rfl ?_
          refine iconstV X18.here hexec rfl 0 (hb hbytes d54) (by decide) ?_
          exact Steps.refl _)
        exact ⟨T18, some (.int 0), _, _, _, X18, rfl, rfl, rfl, (fun h => by cases h), ⟨0, rfl, q18.trans hh16, Or.inr ⟨rfl, fun q => he (iff.mpr q)⟩⟩, fun fs hl => c19.trans (X18.ireturnOut hexec hret rfl (Or.inr (Or.inl rfl)) (hb hbytes d55) hl)⟩
    · have c13 : Steps p.tables e below (s₁.setTop (entryFrame m #[.ref x, .ref y] 3)) (T11.setTop (mkF m 55 #[.val (.ref x), .val (.ref y), .val (.ref y)] [.int 0])) := c12.trans (by
        refine XS.icmpYes X11.here hexec rfl (pc0 := 33) rfl (hb hbytes d33) rfl (ii_ne_t hcd) (by decide) rfl ?_
        refine iconstV X11.here hexec rfl 0 (hb hbytes d54) (by decide) ?_
        exact Steps.refl _)
      exact ⟨T11, some (.int 0), _, _, _, X11, rfl, rfl, rfl, (fun h => by cases h), ⟨0, rfl, hh11, Or.inr ⟨rfl, Cod.dif hx.2.2.2.2.1 hy.2.2.2.2.1 hcd⟩⟩, fun fs hl => c13.trans (X11.ireturnOut hexec hret rfl (Or.inr (Or.inl rfl)) (hb hbytes d55) hl)⟩
theorem pays {l : Launch} {R : Room} {p : Program} {e : Env} {below : List Frame} {s : State} {sargs : Array Value} {len W : Nat} (x t : Addr) (V : Cell) (cd : Int32) (n : Nat) (f : Nat → Int32) (y t' : Addr) (V' : Cell) (cd' : Int32) (k : Nat) (g : Nat → Int32) (z : Int32) (htab : tab.before sargs s = true) (hfr : 2 ≤ R.frames) (hlo : W + 28 ≤ R.locals) :
    Back l R p e below s sargs yN len W (fun A₁ a₁ => A₁.cells + 0 ≤ R.cells ∧ A₁.slots + 0 ≤ R.slots ∧ P x t V cd n f y t' V' cd' k g z a₁ A₁.U) (fun A₁ _ v₁ B₁ => Says01 (SameT n f k g) v₁ A₁.U B₁.U ∧ B₁.locs = A₁.locs ++ [] ∧ B₁.cells = A₁.cells + 0 ∧ B₁.slots = A₁.slots + 0) :=
  (law l x t V cd n f y t' V' cd' k g z).pays htab hfr (by omega)
end SEq
end StrChars
namespace StrChars.Road
open Jvm Sem ClassFile Op Lib Jvm.Stand Jvm.Free Jvm.Free.XT
open Jvm.Lib.Cold (StaticIs)
/-- the words of String.equals(Object) -/
abbrev wordsEq : List Jvm.Cond := [.code SEq.yN SEq.yB 3 (some .boolean), .initialized ST, .classLink ST 10 ST, .fieldLink ST 38 ST "COMPACT_STRINGS" "Z", .fieldLink ST 15 ST "coder" "B", .fieldLink ST 9 ST "value" "[B", .methodLink ST 541 LEq.yN, .static LEq.yN, .code LEq.yN LEq.yB 3 (some .boolean), .initialized "java/lang/StringLatin1"]
theorem tabEq_of {a : Array Value} {s : State} (h : ∀ w ∈ wordsEq, w.before a s = true) : SEq.tab.before a s = true := by
  have hl : LEq.tab.before a s = true := unparts (wk h (.code LEq.yN LEq.yB 3 (some .boolean))) (wks h (.initialized LEq.yN.cls :: LEq.site))
  have q := consq hl h
  exact unparts (wk q (.code SEq.yN SEq.yB 3 (some .boolean))) (wks q (.initialized SEq.yN.cls :: SEq.site))
theorem movedEq {Z s : State} {a0 args : Array Value} (hZ : Z.Warmed39 s.vm) (hw : ∀ d ∈ wordsEq, d.before a0 Z = true) : ∀ d ∈ wordsEq, d.before args s = true := fun d hd => by
  have t : ∀ d ∈ wordsEq, (d.onTables && d.keepsFace) = true := by decide +kernel
  exact RoadKit.mv hZ (hw d hd) (t d hd)
/-- the road's facts of a String, as the laws ask it -/
theorem txt_of {Z U : State} {a0 : Array Value} {kI : Nat} (wi : (Jvm.Cond.instantiable ST kI).before a0 Z = true) (al : Z.vm.Alike U.vm) {x t : Addr} {kb : ClassId} {cs : List Int32} {cd N2 : Int32} {vs : List Value} (E : RoadKit.Exa Z U.heap x ST) (V : RoadKit.Fld Z U.heap x ST "value" "[B" (.ref t)) (C : RoadKit.Fld Z U.heap x ST "coder" "B" (.int cd)) (K : RoadKit.Arv Z U.heap t kb .byte N2 vs (.int 0)) (hc : CodA cs cd N2 vs) (hb : ∀ c ∈ cs, ¬ c < 0 ∧ ¬ (65535 : Int32) < c) (l2 : cs.length ≤ 4000) :
    ∃ A, Txt x t A cd cs.length (fun j => cs.getD j 0) U := by
  obtain ⟨A, K1, K2, K3, K4, K5, K6⟩ := K
  have hcod := hc.cod (by omega) K3 K5
  obtain ⟨D, fV, fC, hB, F1, F2, g1, g2, -, -⟩ := strObj wi al E V C
  exact ⟨A, ⟨_, hB.2.2.1, D, hB.1, rfl, by cases q : D.vm <;> first | rfl | exact absurd q (hB.2.1.2 _)⟩, Has.of hB F1 g1, Has.of hB F2 g2, ⟨K1.1, State.isArrayOf_alike al K1.2.1, K1.2.2, by rcases hcod with ⟨-, q, -⟩ | ⟨-, q, -⟩ <;> omega⟩, hcod, fun j hj => by
    have e : cs.getD j 0 = cs[j] := by simp [List.getD_eq_getElem?_getD, hj]
    show ¬ cs.getD j 0 < 0 ∧ ¬ 65535 < cs.getD j 0
    rw [e]; exact hb _ (List.getElem_mem _)⟩
theorem same_list (cs ds : List Int32) : SameT cs.length (fun j => cs.getD j 0) ds.length (fun j => ds.getD j 0) ↔ cs = ds := by
  constructor
  · rintro ⟨e, q⟩
    refine List.ext_getElem e fun j h1 h2 => ?_
    have := q j h1
    simpa [List.getD_eq_getElem?_getD, h1, h2] using this
  · rintro rfl
    exact ⟨rfl, fun _ _ => rfl⟩
/-- **equals(Object) OF TWO SUCH STRINGS**: 1 just where the chars are the same -/
theorem eqW {p : Program} {l : Launch} {e : Env} {R : Room} {s : State} {args : Array Value} {below : List Frame} {len W : Nat} {Z : State} {a0 : Array Value} {h : Heap} (hZ : Z.Warmed39 s.vm) (hw : ∀ d ∈ wordsEq, d.before a0 Z = true) {kI : Nat} (wi : (Jvm.Cond.instantiable ST kI).before a0 Z = true)
    {x t : Addr} {kb : ClassId} {cs : List Int32} {cd N2 : Int32} {vs : List Value} (E : RoadKit.Exa Z h x ST) (V : RoadKit.Fld Z h x ST "value" "[B" (.ref t)) (C : RoadKit.Fld Z h x ST "coder" "B" (.int cd)) (K : RoadKit.Arv Z h t kb .byte N2 vs (.int 0)) (hc : CodA cs cd N2 vs) (hb : ∀ c ∈ cs, ¬ c < 0 ∧ ¬ (65535 : Int32) < c) (l2 : cs.length ≤ 4000)
    {y t' : Addr} {kb' : ClassId} {ds : List Int32} {cd' N2' : Int32} {vs' : List Value} (E' : RoadKit.Exa Z h y ST) (V' : RoadKit.Fld Z h y ST "value" "[B" (.ref t')) (C' : RoadKit.Fld Z h y ST "coder" "B" (.int cd')) (K' : RoadKit.Arv Z h t' kb' .byte N2' vs' (.int 0)) (hc' : CodA ds cd' N2' vs') (hb' : ∀ c ∈ ds, ¬ c < 0 ∧ ¬ (65535 : Int32) < c) (l2' : ds.length ≤ 4000)
    {z : Int32} (S : RoadKit.Sta Z h ST "COMPACT_STRINGS" "Z" (.int z)) (hz : ¬ z = 0) (hfr : 2 ≤ R.frames) (hlo : W + 28 ≤ R.locals) :
    Back l R p e below s args (⟨"java/lang/String", "equals", "(Ljava/lang/Object;)Z"⟩ : MethodName) len W (fun P a => a = #[.ref x, .ref y] ∧ P.U.heap = h ∧ P.cells + 0 ≤ R.cells ∧ P.slots + 0 ≤ R.slots)
      (fun P _ v B => ∃ L, (((v = some (.int 1) ∧ cs = ds) ∨ (v = some (.int 0) ∧ ¬ cs = ds)) ∧ L = [] ∧ B.U.heap = h) ∧ B.locs = P.locs ++ L ∧ B.cells = P.cells + 0 ∧ B.slots = P.slots + 0) := by
  intro m meth c P g ig mk a X hg hsize hdg hW hn hp'
  obtain ⟨rfl, rfl, r1, r2⟩ := hp'
  have al : Z.vm.Alike P.U.vm := hZ.alike.trans X.warmed.alike
  obtain ⟨A, hx⟩ := txt_of wi al E V C K hc hb l2
  obtain ⟨A', hy⟩ := txt_of wi al E' V' C' K' hc' hb' l2'
  obtain ⟨v, B, X', ⟨⟨w, hv, hh, hq⟩, hl, hk, hs⟩, st⟩ := SEq.pays x t A cd cs.length (fun j => cs.getD j 0) y t' A' cd' ds.length (fun j => ds.getD j 0) z (tabEq_of (movedEq hZ hw)) hfr hlo m meth c P g ig mk _ X hg hsize hdg hW hn ⟨r1, r2, rfl, hx, hy, sta_is al S, hz⟩
  refine ⟨v, B, X', ⟨[], ⟨?_, rfl, hh⟩, hl, hk, hs⟩, st⟩
  rcases hq with ⟨rfl, q⟩ | ⟨rfl, q⟩
  · exact Or.inl ⟨hv, (same_list cs ds).mp q⟩
  · exact Or.inr ⟨hv, fun e => q ((same_list cs ds).mpr e)⟩
end StrChars.Road
namespace StrChars.Road
open Jvm Sem ClassFile Op Lib Jvm.Stand Jvm.Free Jvm.Free.XT
open Jvm.Lib.Cold (StaticIs)
/-- what backV says of its String, as the contracts of this text ask it: cs's low bytes, coder 0 -/
theorem codOf {cs : List Int32} {n : Nat} (hn : cs.length = n) (hb : ∀ c ∈ cs, ¬ 255 < c) : CodA cs 0 (Int32.ofNat n) ((cs.map lo8).map Value.int) := Or.inl ⟨rfl, by rw [hn], by simp [List.map_map, Function.comp_def], hb⟩
end StrChars.Road
end Jvm.Pilot.@@N@@
namespace Jvm.Pilot.@@N@@
open Jvm Jvm.ClassFile Sem Op Lib Jvm.Free Jvm.Stand Jvm.LawKit Jvm.RoadKit Bundle Jvm.Pilot.@@N@@.Jvm.D
theorem d1_0 : decode jdk_42_method_3_code 0 = .ok (.aload_n 0, 1) := by decide +kernel
theorem d1_1 : decode jdk_42_method_3_code 1 = .ok (.aload_n 1, 1) := by decide +kernel
theorem d1_2 : decode jdk_42_method_3_code 2 = .ok (.iconst 0, 1) := by decide +kernel
theorem d1_3 : decode jdk_42_method_3_code 3 = .ok (.aload_n 1, 1) := by decide +kernel
theorem d1_4 : decode jdk_42_method_3_code 4 = .ok (.arraylength, 1) := by decide +kernel
theorem d1_5 : decode jdk_42_method_3_code 5 = .ok (.aconst_null, 1) := by decide +kernel
theorem d1_6 : decode jdk_42_method_3_code 6 = .ok (.invokespecial 27, 3) := by decide +kernel
theorem d1_9 : decode jdk_42_method_3_code 9 = .ok (.return_, 1) := by decide +kernel
theorem d2_0 : decode jdk_42_method_149_code 0 = .ok (.aload_n 0, 1) := by decide +kernel
theorem d2_1 : decode jdk_42_method_149_code 1 = .ok (.invokespecial 1, 3) := by decide +kernel
theorem d2_4 : decode jdk_42_method_149_code 4 = .ok (.iload_n 3, 1) := by decide +kernel
theorem d2_5 : decode jdk_42_method_149_code 5 = .ok (.ifCond .ne 22, 3) := by decide +kernel
theorem d2_8 : decode jdk_42_method_149_code 8 = .ok (.aload_n 0, 1) := by decide +kernel
theorem d2_9 : decode jdk_42_method_149_code 9 = .ok (.ldc 7, 2) := by decide +kernel
theorem d2_11 : decode jdk_42_method_149_code 11 = .ok (.getfield 9, 3) := by decide +kernel
theorem d2_14 : decode jdk_42_method_149_code 14 = .ok (.putfield 9, 3) := by decide +kernel
theorem d2_17 : decode jdk_42_method_149_code 17 = .ok (.aload_n 0, 1) := by decide +kernel
theorem d2_18 : decode jdk_42_method_149_code 18 = .ok (.ldc 7, 2) := by decide +kernel
theorem d2_20 : decode jdk_42_method_149_code 20 = .ok (.getfield 15, 3) := by decide +kernel
theorem d2_23 : decode jdk_42_method_149_code 23 = .ok (.putfield 15, 3) := by decide +kernel
theorem d2_26 : decode jdk_42_method_149_code 26 = .ok (.return_, 1) := by decide +kernel
theorem d7_0 : decode prog_8_method_5_code 0 = .ok (.invokestatic 57, 3) := by decide +kernel
theorem d7_3 : decode prog_8_method_5_code 3 = .ok (.astore_n 1, 1) := by decide +kernel
theorem d7_4 : decode prog_8_method_5_code 4 = .ok (.aload_n 1, 1) := by decide +kernel
theorem d7_5 : decode prog_8_method_5_code 5 = .ok (.arraylength, 1) := by decide +kernel
theorem d7_6 : decode prog_8_method_5_code 6 = .ok (.istore_n 2, 1) := by decide +kernel
theorem d7_7 : decode prog_8_method_5_code 7 = .ok (.iconst 0, 1) := by decide +kernel
theorem d7_8 : decode prog_8_method_5_code 8 = .ok (.istore_n 3, 1) := by decide +kernel
theorem d7_9 : decode prog_8_method_5_code 9 = .ok (.iload_n 3, 1) := by decide +kernel
theorem d7_10 : decode prog_8_method_5_code 10 = .ok (.iload_n 2, 1) := by decide +kernel
theorem d7_11 : decode prog_8_method_5_code 11 = .ok (.if_icmp .ge 32, 3) := by decide +kernel
theorem d7_14 : decode prog_8_method_5_code 14 = .ok (.aload_n 1, 1) := by decide +kernel
theorem d7_15 : decode prog_8_method_5_code 15 = .ok (.iload_n 3, 1) := by decide +kernel
theorem d7_16 : decode prog_8_method_5_code 16 = .ok (.aaload, 1) := by decide +kernel
theorem d7_17 : decode prog_8_method_5_code 17 = .ok (.astore 4, 2) := by decide +kernel
theorem d7_19 : decode prog_8_method_5_code 19 = .ok (.aload 4, 2) := by decide +kernel
theorem d7_21 : decode prog_8_method_5_code 21 = .ok (.getfield 29, 3) := by decide +kernel
theorem d7_24 : decode prog_8_method_5_code 24 = .ok (.aload_n 0, 1) := by decide +kernel
theorem d7_25 : decode prog_8_method_5_code 25 = .ok (.invokevirtual 61, 3) := by decide +kernel
theorem d7_28 : decode prog_8_method_5_code 28 = .ok (.ifCond .eq 9, 3) := by decide +kernel
theorem d7_31 : decode prog_8_method_5_code 31 = .ok (.aload 4, 2) := by decide +kernel
theorem d7_33 : decode prog_8_method_5_code 33 = .ok (.invokestatic 67, 3) := by decide +kernel
theorem d7_36 : decode prog_8_method_5_code 36 = .ok (.areturn, 1) := by decide +kernel
theorem d7_37 : decode prog_8_method_5_code 37 = .ok (.iinc 3 1, 3) := by decide +kernel
theorem d7_40 : decode prog_8_method_5_code 40 = .ok (.goto (-31), 3) := by decide +kernel
theorem d7_43 : decode prog_8_method_5_code 43 = .ok (.invokestatic 73, 3) := by decide +kernel
theorem d7_46 : decode prog_8_method_5_code 46 = .ok (.areturn, 1) := by decide +kernel
theorem d8_0 : decode prog_8_method_1_code 0 = .ok (.getstatic 10, 3) := by decide +kernel
theorem d8_3 : decode prog_8_method_1_code 3 = .ok (.invokevirtual 14, 3) := by decide +kernel
theorem d8_6 : decode prog_8_method_1_code 6 = .ok (.checkcast 15, 3) := by decide +kernel
theorem d8_9 : decode prog_8_method_1_code 9 = .ok (.areturn, 1) := by decide +kernel
theorem d11_0 : decode jdk_32_method_3_code 0 = .ok (.new 2, 3) := by decide +kernel
theorem d11_3 : decode jdk_32_method_3_code 3 = .ok (.dup, 1) := by decide +kernel
theorem d11_4 : decode jdk_32_method_3_code 4 = .ok (.aload_n 0, 1) := by decide +kernel
theorem d11_5 : decode jdk_32_method_3_code 5 = .ok (.invokestatic 17, 3) := by decide +kernel
theorem d11_8 : decode jdk_32_method_3_code 8 = .ok (.invokespecial 23, 3) := by decide +kernel
theorem d11_11 : decode jdk_32_method_3_code 11 = .ok (.areturn, 1) := by decide +kernel
theorem d12_0 : decode jdk_31_method_10_code 0 = .ok (.aload_n 0, 1) := by decide +kernel
theorem d12_1 : decode jdk_31_method_10_code 1 = .ok (.ifnonnull 11, 3) := by decide +kernel
theorem d12_12 : decode jdk_31_method_10_code 12 = .ok (.aload_n 0, 1) := by decide +kernel
theorem d12_13 : decode jdk_31_method_10_code 13 = .ok (.areturn, 1) := by decide +kernel
theorem d13_0 : decode jdk_32_method_2_code 0 = .ok (.aload_n 0, 1) := by decide +kernel
theorem d13_1 : decode jdk_32_method_2_code 1 = .ok (.invokespecial 7, 3) := by decide +kernel
theorem d13_4 : decode jdk_32_method_2_code 4 = .ok (.aload_n 0, 1) := by decide +kernel
theorem d13_5 : decode jdk_32_method_2_code 5 = .ok (.aload_n 1, 1) := by decide +kernel
theorem d13_6 : decode jdk_32_method_2_code 6 = .ok (.putfield 13, 3) := by decide +kernel
theorem d13_9 : decode jdk_32_method_2_code 9 = .ok (.return_, 1) := by decide +kernel
theorem d14_0 : decode jdk_32_method_6_code 0 = .ok (.aload_n 0, 1) := by decide +kernel
theorem d14_1 : decode jdk_32_method_6_code 1 = .ok (.getfield 13, 3) := by decide +kernel
theorem d14_4 : decode jdk_32_method_6_code 4 = .ok (.ifnull 7, 3) := by decide +kernel
theorem d14_7 : decode jdk_32_method_6_code 7 = .ok (.iconst 1, 1) := by decide +kernel
theorem d14_8 : decode jdk_32_method_6_code 8 = .ok (.goto 4, 3) := by decide +kernel
theorem d14_11 : decode jdk_32_method_6_code 11 = .ok (.iconst 0, 1) := by decide +kernel
theorem d14_12 : decode jdk_32_method_6_code 12 = .ok (.ireturn, 1) := by decide +kernel
theorem d15_0 : decode jdk_32_method_5_code 0 = .ok (.aload_n 0, 1) := by decide +kernel
theorem d15_1 : decode jdk_32_method_5_code 1 = .ok (.getfield 13, 3) := by decide +kernel
theorem d15_4 : decode jdk_32_method_5_code 4 = .ok (.ifnonnull 13, 3) := by decide +kernel
theorem d15_17 : decode jdk_32_method_5_code 17 = .ok (.aload_n 0, 1) := by decide +kernel
theorem d15_18 : decode jdk_32_method_5_code 18 = .ok (.getfield 13, 3) := by decide +kernel
theorem d15_21 : decode jdk_32_method_5_code 21 = .ok (.areturn, 1) := by decide +kernel
theorem d16_0 : decode jdk_42_method_139_code 0 = .ok (.getstatic 38, 3) := by decide +kernel
theorem d16_3 : decode jdk_42_method_139_code 3 = .ok (.ifCond .eq 23, 3) := by decide +kernel
theorem d16_6 : decode jdk_42_method_139_code 6 = .ok (.iload_n 0, 1) := by decide +kernel
theorem d16_7 : decode jdk_42_method_139_code 7 = .ok (.invokestatic 1015, 3) := by decide +kernel
theorem d16_10 : decode jdk_42_method_139_code 10 = .ok (.ifCond .eq 16, 3) := by decide +kernel
theorem d16_13 : decode jdk_42_method_139_code 13 = .ok (.new 10, 3) := by decide +kernel
theorem d16_16 : decode jdk_42_method_139_code 16 = .ok (.dup, 1) := by decide +kernel
theorem d16_17 : decode jdk_42_method_139_code 17 = .ok (.iload_n 0, 1) := by decide +kernel
theorem d16_18 : decode jdk_42_method_139_code 18 = .ok (.invokestatic 1018, 3) := by decide +kernel
theorem d16_21 : decode jdk_42_method_139_code 21 = .ok (.iconst 0, 1) := by decide +kernel
theorem d16_22 : decode jdk_42_method_139_code 22 = .ok (.invokespecial 209, 3) := by decide +kernel
theorem d16_25 : decode jdk_42_method_139_code 25 = .ok (.areturn, 1) := by decide +kernel
theorem d17_0 : decode jdk_43_method_3_code 0 = .ok (.iload_n 0, 1) := by decide +kernel
theorem d17_1 : decode jdk_43_method_3_code 1 = .ok (.sipush 255, 3) := by decide +kernel
theorem d17_4 : decode jdk_43_method_3_code 4 = .ok (.if_icmp .gt 7, 3) := by decide +kernel
theorem d17_7 : decode jdk_43_method_3_code 7 = .ok (.iconst 1, 1) := by decide +kernel
theorem d17_8 : decode jdk_43_method_3_code 8 = .ok (.goto 4, 3) := by decide +kernel
theorem d17_12 : decode jdk_43_method_3_code 12 = .ok (.ireturn, 1) := by decide +kernel
theorem d18_0 : decode jdk_43_method_46_code 0 = .ok (.iconst 1, 1) := by decide +kernel
theorem d18_1 : decode jdk_43_method_46_code 1 = .ok (.newarray .byte, 2) := by decide +kernel
theorem d18_3 : decode jdk_43_method_46_code 3 = .ok (.dup, 1) := by decide +kernel
theorem d18_4 : decode jdk_43_method_46_code 4 = .ok (.iconst 0, 1) := by decide +kernel
theorem d18_5 : decode jdk_43_method_46_code 5 = .ok (.iload_n 0, 1) := by decide +kernel
theorem d18_6 : decode jdk_43_method_46_code 6 = .ok (.i2b, 1) := by decide +kernel
theorem d18_7 : decode jdk_43_method_46_code 7 = .ok (.bastore, 1) := by decide +kernel
theorem d18_8 : decode jdk_43_method_46_code 8 = .ok (.areturn, 1) := by decide +kernel
theorem d19_0 : decode jdk_42_method_151_code 0 = .ok (.aload_n 0, 1) := by decide +kernel
theorem d19_1 : decode jdk_42_method_151_code 1 = .ok (.invokespecial 1, 3) := by decide +kernel
theorem d19_4 : decode jdk_42_method_151_code 4 = .ok (.aload_n 0, 1) := by decide +kernel
theorem d19_5 : decode jdk_42_method_151_code 5 = .ok (.aload_n 1, 1) := by decide +kernel
theorem d19_6 : decode jdk_42_method_151_code 6 = .ok (.putfield 9, 3) := by decide +kernel
theorem d19_9 : decode jdk_42_method_151_code 9 = .ok (.aload_n 0, 1) := by decide +kernel
theorem d19_10 : decode jdk_42_method_151_code 10 = .ok (.iload_n 2, 1) := by decide +kernel
theorem d19_11 : decode jdk_42_method_151_code 11 = .ok (.putfield 15, 3) := by decide +kernel
theorem d19_14 : decode jdk_42_method_151_code 14 = .ok (.return_, 1) := by decide +kernel
theorem d20_0 : decode jdk_32_method_1_code 0 = .ok (.getstatic 1, 3) := by decide +kernel
theorem d20_3 : decode jdk_32_method_1_code 3 = .ok (.astore_n 0, 1) := by decide +kernel
theorem d20_4 : decode jdk_32_method_1_code 4 = .ok (.aload_n 0, 1) := by decide +kernel
theorem d20_5 : decode jdk_32_method_1_code 5 = .ok (.areturn, 1) := by decide +kernel
theorem pn_0 : plainName "java/lang/String" = true := by first | (simp [plainName, overriddenIn]; done) | decide +kernel
theorem pn_1 : plainName "java/lang/StringLatin1" = true := by first | (simp [plainName, overriddenIn]; done) | decide +kernel
theorem pn_2 : plainName "com/example/bowerbird/bowerbird/model/Datestamp$Granularity" = true := by first | (simp [plainName, overriddenIn]; done) | decide +kernel
theorem pn_3 : plainName "java/util/Objects" = true := by first | (simp [plainName, overriddenIn]; done) | decide +kernel
theorem pn_4 : plainName "java/util/Optional" = true := by first | (simp [plainName, overriddenIn]; done) | decide +kernel
theorem pn_5 : plainName "com/example/bowerbird/bowerbird/model/GranularityNamedPinLaw" = true := by first | (simp [plainName, overriddenIn]; done) | decide +kernel
theorem pd_0 : parseMethodDescriptor "([CIILjava/lang/Void;)V" = some ⟨[(.array .char), .int, .int, (.object "java/lang/Void")], none⟩ := by decide +kernel
theorem pd_1 : parseMethodDescriptor "(C)Z" = some ⟨[.char], some .boolean⟩ := by decide +kernel
theorem pd_2 : parseMethodDescriptor "(C)[B" = some ⟨[.char], some (.array .byte)⟩ := by decide +kernel
theorem pd_3 : parseMethodDescriptor "([BB)V" = some ⟨[(.array .byte), .byte], none⟩ := by decide +kernel
theorem pd_4 : parseMethodDescriptor "(Ljava/lang/Object;)Ljava/lang/Object;" = some ⟨[(.object "java/lang/Object")], some (.object "java/lang/Object")⟩ := by decide +kernel
theorem pd_5 : parseMethodDescriptor "(Ljava/lang/Object;)V" = some ⟨[(.object "java/lang/Object")], none⟩ := by decide +kernel
theorem pd_6 : parseMethodDescriptor "()[Lcom/example/bowerbird/bowerbird/model/Datestamp$Granularity;" = some ⟨[], some (.array (.object "com/example/bowerbird/bowerbird/model/Datestamp$Granularity"))⟩ := by decide +kernel
theorem pd_7 : parseMethodDescriptor "(Ljava/lang/Object;)Z" = some ⟨[(.object "java/lang/Object")], some .boolean⟩ := by decide +kernel
theorem pd_8 : parseMethodDescriptor "(Ljava/lang/Object;)Ljava/util/Optional;" = some ⟨[(.object "java/lang/Object")], some (.object "java/util/Optional")⟩ := by decide +kernel
theorem pd_9 : parseMethodDescriptor "()Ljava/util/Optional;" = some ⟨[], some (.object "java/util/Optional")⟩ := by decide +kernel
theorem pd_10 : parseMethodDescriptor "(Ljava/lang/String;)Ljava/util/Optional;" = some ⟨[(.object "java/lang/String")], some (.object "java/util/Optional")⟩ := by decide +kernel
theorem pd_11 : parseMethodDescriptor "()Z" = some ⟨[], some .boolean⟩ := by decide +kernel
theorem pd_12 : parseMethodDescriptor "()Ljava/lang/Object;" = some ⟨[], some (.object "java/lang/Object")⟩ := by decide +kernel
theorem pd_13 : parseMethodDescriptor "([C)V" = some ⟨[(.array .char)], none⟩ := by decide +kernel
theorem pd_14 : parseMethodDescriptor "(C)Ljava/lang/String;" = some ⟨[.char], some (.object "java/lang/String")⟩ := by decide +kernel
abbrev EL : List (String × Nat) := consts_1
theorem own_EL {Z : State} {a0 : Array Value} (hw : ∀ d ∈ tables_1, d.before a0 Z = true) : EW Z a0 EL := (EW.cons (hw _ (List.mem_of_getElem? (i := 109) rfl)) (by decide) EW.nil)
theorem own_wS {Z : State} {a0 : Array Value} (hw : ∀ d ∈ tables_1, d.before a0 Z = true) : ∀ a ∈ Bundle.stringAtoms, a.before a0 Z = true := fun d hd => hw d ((by decide +kernel : ∀ d ∈ Bundle.stringAtoms, d ∈ tables_1) d hd)
theorem ef_e149 (m : MethodId) (x0 : Addr) (x1 : Addr) (x2 : Int32) (x3 : Int32) : entryFrame m #[.ref x0, .ref x1, .int x2, .int x3, .null] 6 = mkF m 0 #[.val (.ref x0), .val (.ref x1), .val (.int x2), .val (.int x3), .val .null, .unset] [] := by first | (simp [entryFrame, mkF, argsToLocals, Value.category]; done) | rfl
def Q_e149 (Z : State) (x : Addr) (a : Addr) (v0 : Value) (c0 : Value) (h0 : Heap) (n0 : Nat) (v : Option Value) (h : Heap) (L : List Loc) : Prop := v = none ∧ Fr n0 L ∧ Keep h0 h [x] ∧ Exa Z h x "java/lang/String" ∧ Fld Z h x "java/lang/String" "coder" "B" (.int 0) ∧ ∃ (t : Addr) (k : ClassId), ¬ t = x ∧ Fld Z h x "java/lang/String" "value" "[B" (.ref t) ∧ Arv Z h t k .byte 0 [] (.int 0)
set_option maxRecDepth 65536 in
set_option maxHeartbeats 40000000 in
theorem rm_e149 (l : Launch) (Z : State) (a0 : Array Value) (hw : ∀ d ∈ tables_1, d.before a0 Z = true) (ws : List Jvm.Cond) (x : Addr) (a : Addr) (v0 : Value) (c0 : Value) (h0 : Heap) (n0 : Nat) (O : Old Z n0 h0) (n0_x : n0 ≤ x) (E_x : Exa Z h0 x "java/lang/String") (F_x_value : Fld Z h0 x "java/lang/String" "value" "[B" v0) (F_x_coder : Fld Z h0 x "java/lang/String" "coder" "B" c0) :
    MetFree l (⟨"java/lang/String", "<init>", "([CIILjava/lang/Void;)V"⟩ : MethodName) (head1 (Jvm.Cond.code (⟨"java/lang/String", "<init>", "([CIILjava/lang/Void;)V"⟩ : MethodName) jdk_42_method_149_code 6 none :: ws) ({ frames := 1, cells := 4, slots := 8, locals := 12 } : Room)) (fun aa U => aa = #[.ref x, .ref a, .int (0 : Int32), .int (0 : Int32), .null] ∧ Z.Warmed39 U.vm ∧ U.heap = h0 ∧ CHv Z EL U.vm h0 ∧ ∀ yy ∈ ([x] : List Addr), Safe Z EL U.vm h0 yy) (fun _ _ _ _ _ => True) (fun _ U o U' => Own.EndW Z EL U (Q_e149 Z x a v0 c0 h0 n0) 4 8 o U') := by
  refine MetFree.of_bodySF (plainFor_of_name pn_0) hisR ?_
  intro p e s m args below meth c s₁ Bd hml0 hP hK
  obtain ⟨rfl, hZ, hh, hH, hSF⟩ := hP
  have S_x : Safe Z EL s.vm h0 x := hSF _ (List.mem_of_getElem? (i := 0) rfl)
  replace hZ : Z.Warmed39 (s.setVm s.vm).vm := hZ
  have hEL := own_EL hw
  have hx := Bd.exec
  have hby := Bd.bytes
  have hml : c.maxLocals = 6 := hml0
  have hown : (s.setVm s.vm).vm.findClass "java/lang/String" = some m.cls := findClass_of_methodNamed Bd.named
  have hnm := (name_of_methodNamed Bd.named Bd.method).1
  have hret := Bd.returns
  have hlocks : meth.locks = false := Bd.notSynchronized
  have X0 : Stand p l e ({ frames := 1, cells := 4, slots := 8, locals := 12 } : Room) (s.setVm s.vm) m #[.ref x, .ref a, .int (0 : Int32), .int (0 : Int32), .null] below meth c s₁ [] 0 0 := Stand.of_body Bd
  have e0 : s₁.heap = h0 := by rw [← hh, Bd.state]; rfl
  have N0 := Fr.nil n0
  have CR : CHr Z EL s.vm s.heap s.vm h0 := by rw [hh]; exact CHr.refl hH
  have hS : s.Since s.vm h0.size := (State.WarmedH.refl s).since _
  have hk : h0.size ≤ h0.size := Nat.le_refl _
  show Own.Go p e below (Own.EndW Z EL s (Q_e149 Z x a v0 c0 h0 n0) 4 8) (s₁.setTop (entryFrame m #[.ref x, .ref a, .int (0 : Int32), .int (0 : Int32), .null] 6))
  refine Own.Go.eq (ef_e149 m x a (0 : Int32) (0 : Int32)) ?_
  have KP : Keep h0 h0 [x] := Keep.refl _ _
  refine Own.g_aloadN X0 hx (hb hby d2_0) rfl rfl 1 rfl ?_
  refine Own.g_initO X0 hx hZ hown (hw _ (List.mem_of_getElem? (i := 12) rfl)) (hw _ (List.mem_of_getElem? (i := 13) rfl)) (hw _ (List.mem_of_getElem? (i := 14) rfl)) e0 (by rw [hml]; rfl) (hb hby d2_1) (by decide) (W := 0) (Nat.le_of_ble_eq_true rfl) (by decide) 4 rfl ?_
  intro T1 X1 e1
  refine Own.g_iloadN X1 hx (hb hby d2_4) rfl 5 rfl ?_
  refine Own.g_if_ne_f X1 hx (hb hby d2_5) rfl 8 rfl ?_
  refine Own.g_aloadN X1 hx (hb hby d2_8) rfl rfl 9 rfl ?_
  refine Own.w_ldc X1 hx hZ hown (hw _ (List.mem_of_getElem? (i := 109) rfl)) (own_wS hw) e1 hS hk hEL (by decide) CR.1 [] 0 ⟨by decide, by first | rfl | decide⟩ (by decide) rfl (hb hby d2_9) 0 (by decide) (by decide) (by decide) (by decide) 11 rfl ?_
  intro la T2 h2 k2 lb k_lb X2 e2 E2 hS hk hZ hown E_la F_la_coder F_la_value V_lb C2 hne2
  replace S_x := C2.safe E_x.lt S_x
  have ne_x_la := (hne2 _ S_x).1
  have ne_la_x := Ne.symm ne_x_la
  have ne_x_lb := (hne2 _ S_x).2
  have ne_lb_x := Ne.symm ne_x_lb
  replace E_x := E_x.ext E2
  replace F_x_value := F_x_value.ext E2
  replace F_x_coder := F_x_coder.ext E2
  replace O := O.ext E2
  replace CR := CR.trans C2
  replace KP := KP.ext E2
  refine Own.g_getF X2 hx hZ hown (host := "") (Or.inl (hw _ (List.mem_of_getElem? (i := 29) rfl))) Via.refl e2 F_la_value (hb hby d2_11) 14 rfl ?_
  intro T3 X3 e3
  refine Own.g_putF X3 hx hZ hown (host := "") (Or.inl (hw _ (List.mem_of_getElem? (i := 29) rfl))) Via.refl e3 F_x_value E_x (Or.inr ⟨(hw _ (List.mem_of_getElem? (i := 30) rfl)), rfl, hnm⟩) (hw _ (List.mem_of_getElem? (i := 3) rfl)) (ty := (.array .byte)) (by decide) rfl rfl (hb hby d2_14) 17 rfl ?_
  clear F_x_value; intro T4 h4 X4 e4 W4 F_x_value Ew4
  have CR' := CR.trans (CHr.wr W4 S_x CR.1)
  replace S_x := Safe.wr W4 S_x CR.1 S_x
  replace CR := CR'
  replace hk := Nat.le_trans hk (Keep.of_wr W4).1
  replace E_x := E_x.wr W4
  replace F_x_coder := F_x_coder.other W4 (Or.inr (slot_ne (Or.inr (hw _ (List.mem_of_getElem? (i := 28) rfl))) (Or.inr (hw _ (List.mem_of_getElem? (i := 30) rfl))) (by decide) (t := .byte) (t' := (.array .byte)) (by decide) (by decide)))
  replace E_la := E_la.wr W4
  replace F_la_coder := F_la_coder.other W4 (Or.inl ne_la_x)
  replace F_la_value := F_la_value.other W4 (Or.inl ne_la_x)
  replace V_lb := V_lb.other W4 ne_lb_x
  replace O := O.wr W4 n0_x
  replace KP := KP.wr W4 (Or.inl (List.mem_of_getElem? (i := 0) rfl))
  have N4 := Fr.snoc X4 N0 n0_x
  refine Own.g_aloadN X4 hx (hb hby d2_17) rfl rfl 18 rfl ?_
  refine Own.w_ldc X4 hx hZ hown (hw _ (List.mem_of_getElem? (i := 109) rfl)) (own_wS hw) e4 hS hk hEL (by decide) CR.1 [] 0 ⟨by decide, by first | rfl | decide⟩ (by decide) rfl (hb hby d2_18) 0 (by decide) (by decide) (by decide) (by decide) 20 rfl ?_
  intro lc T5 h5 k5 ld k_ld X5 e5 E5 hS hk hZ hown E_lc F_lc_coder F_lc_value V_ld C5 hne5
  replace S_x := C5.safe E_x.lt S_x
  have ne_x_lc := (hne5 _ S_x).1
  have ne_lc_x := Ne.symm ne_x_lc
  have ne_x_ld := (hne5 _ S_x).2
  have ne_ld_x := Ne.symm ne_x_ld
  replace E_x := E_x.ext E5
  replace F_x_value := F_x_value.ext E5
  replace F_x_coder := F_x_coder.ext E5
  replace V_lb := V_lb.ext E5
  replace O := O.ext E5
  replace CR := CR.trans C5
  replace KP := KP.ext E5
  refine Own.g_getF X5 hx hZ hown (host := "") (Or.inl (hw _ (List.mem_of_getElem? (i := 27) rfl))) Via.refl e5 F_lc_coder (hb hby d2_20) 23 rfl ?_
  intro T6 X6 e6
  refine Own.g_putF X6 hx hZ hown (host := "") (Or.inl (hw _ (List.mem_of_getElem? (i := 27) rfl))) Via.refl e6 F_x_coder E_x (Or.inr ⟨(hw _ (List.mem_of_getElem? (i := 28) rfl)), rfl, hnm⟩) (hw _ (List.mem_of_getElem? (i := 3) rfl)) (ty := .byte) (by decide) rfl rfl (hb hby d2_23) 26 rfl ?_
  clear F_x_coder; intro T7 h7 X7 e7 W7 F_x_coder Ew7
  have CR' := CR.trans (CHr.wr W7 S_x CR.1)
  replace S_x := Safe.wr W7 S_x CR.1 S_x
  replace CR := CR'
  replace hk := Nat.le_trans hk (Keep.of_wr W7).1
  replace E_x := E_x.wr W7
  replace F_x_value := F_x_value.other W7 (Or.inr (slot_ne (Or.inr (hw _ (List.mem_of_getElem? (i := 30) rfl))) (Or.inr (hw _ (List.mem_of_getElem? (i := 28) rfl))) (by decide) (t := (.array .byte)) (t' := .byte) (by decide) (by decide)))
  replace V_lb := V_lb.other W7 ne_lb_x
  replace O := O.wr W7 n0_x
  replace KP := KP.wr W7 (Or.inl (List.mem_of_getElem? (i := 0) rfl))
  have N7 := Fr.snoc X7 N4 n0_x
  refine Own.w_retV X7 hx hZ hEL hS hk CR hret hlocks (hb hby d2_26) (by decide) (by decide) e7 ?_
  exact ⟨rfl, N7, KP, E_x, F_x_coder, lb, k_lb, ne_lb_x, F_x_value, V_lb⟩
theorem ef_e3 (m : MethodId) (x0 : Addr) (x1 : Addr) : entryFrame m #[.ref x0, .ref x1] 2 = mkF m 0 #[.val (.ref x0), .val (.ref x1)] [] := by first | (simp [entryFrame, mkF, argsToLocals, Value.category]; done) | rfl
def Q_e3 (Z : State) (x : Addr) (a : Addr) (ka : ClassId) (v0 : Value) (c0 : Value) (h0 : Heap) (n0 : Nat) (v : Option Value) (h : Heap) (L : List Loc) : Prop := v = none ∧ Fr n0 L ∧ Keep h0 h [x] ∧ Exa Z h x "java/lang/String" ∧ Fld Z h x "java/lang/String" "coder" "B" (.int 0) ∧ ∃ (t : Addr) (k : ClassId), ¬ t = x ∧ Fld Z h x "java/lang/String" "value" "[B" (.ref t) ∧ Arv Z h t k .byte 0 [] (.int 0)
set_option maxRecDepth 65536 in
set_option maxHeartbeats 40000000 in
theorem rm_e3 (l : Launch) (Z : State) (a0 : Array Value) (hw : ∀ d ∈ tables_1, d.before a0 Z = true) (ws : List Jvm.Cond) (x : Addr) (a : Addr) (ka : ClassId) (v0 : Value) (c0 : Value) (h0 : Heap) (n0 : Nat) (O : Old Z n0 h0) (n0_x : n0 ≤ x) (V_a : Arv Z h0 a ka .char 0 [] (.int 0)) (E_x : Exa Z h0 x "java/lang/String") (F_x_value : Fld Z h0 x "java/lang/String" "value" "[B" v0) (F_x_coder : Fld Z h0 x "java/lang/String" "coder" "B" c0) :
    MetFree l (⟨"java/lang/String", "<init>", "([C)V"⟩ : MethodName) (head1 (Jvm.Cond.code (⟨"java/lang/String", "<init>", "([C)V"⟩ : MethodName) jdk_42_method_3_code 2 none :: ws) ({ frames := 2, cells := 4, slots := 8, locals := 29 } : Room)) (fun aa U => aa = #[.ref x, .ref a] ∧ Z.Warmed39 U.vm ∧ U.heap = h0 ∧ CHv Z EL U.vm h0 ∧ ∀ yy ∈ ([x] : List Addr), Safe Z EL U.vm h0 yy) (fun _ _ _ _ _ => True) (fun _ U o U' => Own.EndW Z EL U (Q_e3 Z x a ka v0 c0 h0 n0) 4 8 o U') := by
  refine MetFree.of_bodySF (plainFor_of_name pn_0) hisR ?_
  intro p e s m args below meth c s₁ Bd hml0 hP hK
  obtain ⟨rfl, hZ, hh, hH, hSF⟩ := hP
  have S_x : Safe Z EL s.vm h0 x := hSF _ (List.mem_of_getElem? (i := 0) rfl)
  replace hZ : Z.Warmed39 (s.setVm s.vm).vm := hZ
  have hEL := own_EL hw
  have hx := Bd.exec
  have hby := Bd.bytes
  have hml : c.maxLocals = 2 := hml0
  have hown : (s.setVm s.vm).vm.findClass "java/lang/String" = some m.cls := findClass_of_methodNamed Bd.named
  have hnm := (name_of_methodNamed Bd.named Bd.method).1
  have hret := Bd.returns
  have hlocks : meth.locks = false := Bd.notSynchronized
  have X0 : Stand p l e ({ frames := 2, cells := 4, slots := 8, locals := 29 } : Room) (s.setVm s.vm) m #[.ref x, .ref a] below meth c s₁ [] 0 0 := Stand.of_body Bd
  have e0 : s₁.heap = h0 := by rw [← hh, Bd.state]; rfl
  have N0 := Fr.nil n0
  have CR : CHr Z EL s.vm s.heap s.vm h0 := by rw [hh]; exact CHr.refl hH
  have hS : s.Since s.vm h0.size := (State.WarmedH.refl s).since _
  have hk : h0.size ≤ h0.size := Nat.le_refl _
  show Own.Go p e below (Own.EndW Z EL s (Q_e3 Z x a ka v0 c0 h0 n0) 4 8) (s₁.setTop (entryFrame m #[.ref x, .ref a] 2))
  refine Own.Go.eq (ef_e3 m x a) ?_
  have KP : Keep h0 h0 [x] := Keep.refl _ _
  refine Own.g_aloadN X0 hx (hb hby d1_0) rfl rfl 1 rfl ?_
  refine Own.g_aloadN X0 hx (hb hby d1_1) rfl rfl 2 rfl ?_
  refine Own.g_iconst X0 hx (0 : Int32) (hb hby d1_2) rfl 3 rfl ?_
  refine Own.g_aloadN X0 hx (hb hby d1_3) rfl rfl 4 rfl ?_
  refine Own.g_alen X0 hx hZ e0 V_a (hb hby d1_4) 5 rfl ?_
  refine Own.g_aconstNull X0 hx (hb hby d1_5) 6 rfl ?_
  refine Own.w_special X0 hx hZ (y := (⟨"java/lang/String", "<init>", "([CIILjava/lang/Void;)V"⟩ : MethodName)) rfl hown (mvT hZ (hw _ (List.mem_of_getElem? (i := 8) rfl))) (mvT hZ (hw _ (List.mem_of_getElem? (i := 9) rfl))) (mvT hZ (hw _ (List.mem_of_getElem? (i := 11) rfl))) (by decide) (a := x) [.ref a, .int (0 : Int32), .int (0 : Int32), .null] (Own.backW (W := 0) (SF := [x]) (rm_e149 l Z a0 hw [] x a v0 c0 h0 n0 O n0_x E_x F_x_value F_x_coder) hZ (hw _ (List.mem_of_getElem? (i := 11) rfl)) (hw _ (List.mem_of_getElem? (i := 4) rfl)) (by decide) (by decide) hEL CR.1 (allS ⟨E_x.lt, S_x⟩ all0)) e0 hS hk (by rw [hml]; rfl) [] (lenOf pd_0 rfl) rfl (Nat.le_of_ble_eq_true rfl) (hb hby d1_6) (by decide) (by decide) 9 rfl ?_
  rintro _ T1 L1 X1 hS hZ hown C1 ⟨rfl, N1q, K1, GE, GC, t, k, nt, GV, GA⟩
  replace S_x := C1.safe E_x.lt S_x
  replace CR := CR.trans C1
  have hk : T1.heap.size ≤ T1.heap.size := Nat.le_refl _
  have N1 := Fr.app N0 N1q
  replace O := O.keep K1 (allS n0_x all0)
  replace KP := KP.trans K1 (allS (Or.inl (List.mem_of_getElem? (i := 0) rfl)) all0)
  refine Own.w_retV X1 hx hZ hEL hS hk CR hret hlocks (hb hby d1_9) (by decide) (by decide) (rfl : T1.heap = T1.heap) ?_
  exact ⟨rfl, N1, KP, GE, GC, t, k, nt, GV, GA⟩
theorem ef_ce (m : MethodId) (x0 : Int32) : entryFrame m #[.int x0] 1 = mkF m 0 #[.val (.int x0)] [] := by first | (simp [entryFrame, mkF, argsToLocals, Value.category]; done) | rfl
def Q_ce (Z : State) (x1 : Int32) (h0 : Heap) (n0 : Nat) (v : Option Value) (h : Heap) (L : List Loc) : Prop := v = some (.int 1) ∧ Fr n0 L ∧ h = h0
set_option maxRecDepth 65536 in
set_option maxHeartbeats 40000000 in
theorem rm_ce (l : Launch) (Z : State) (a0 : Array Value) (hw : ∀ d ∈ tables_1, d.before a0 Z = true) (ws : List Jvm.Cond) (x1 : Int32) (h0 : Heap) (n0 : Nat) (O : Old Z n0 h0) (hlx : Own.Lat x1) :
    MetFree l (⟨"java/lang/StringLatin1", "canEncode", "(C)Z"⟩ : MethodName) (head1 (Jvm.Cond.code (⟨"java/lang/StringLatin1", "canEncode", "(C)Z"⟩ : MethodName) jdk_43_method_3_code 1 (some .boolean) :: ws) ({ frames := 0, cells := 0, slots := 0, locals := 0 } : Room)) (fun aa U => aa = #[.int x1] ∧ Z.Warmed39 U.vm ∧ U.heap = h0) (fun _ _ _ _ _ => True) (fun _ U o U' => Own.End U (Q_ce Z x1 h0 n0) 0 0 o U') := by
  refine MetFree.of_bodySF (plainFor_of_name pn_1) hisR ?_
  intro p e s m args below meth c s₁ Bd hml0 hP hK
  obtain ⟨rfl, hZ, hh⟩ := hP
  have hx := Bd.exec
  have hby := Bd.bytes
  have hml : c.maxLocals = 1 := hml0
  have hown : s.vm.findClass "java/lang/StringLatin1" = some m.cls := findClass_of_methodNamed Bd.named
  have hnm := (name_of_methodNamed Bd.named Bd.method).1
  have hret := Bd.returns
  have hlocks : meth.locks = false := Bd.notSynchronized
  have X0 : Stand p l e ({ frames := 0, cells := 0, slots := 0, locals := 0 } : Room) s m #[.int x1] below meth c s₁ [] 0 0 := Stand.of_body Bd
  have e0 : s₁.heap = h0 := by rw [← hh, Bd.state]; rfl
  have N0 := Fr.nil n0
  show Own.Go p e below (Own.End s (Q_ce Z x1 h0 n0) 0 0) (s₁.setTop (entryFrame m #[.int x1] 1))
  refine Own.Go.eq (ef_ce m x1) ?_
  refine Own.g_iloadN X0 hx (hb hby d17_0) rfl 1 rfl ?_
  refine Own.g_sipush X0 hx (255 : Int32) (hb hby d17_1) rfl 4 rfl ?_
  refine Own.g_icmp_gt_f X0 hx (hb hby d17_4) hlx.2 7 rfl ?_
  refine Own.g_iconst X0 hx (1 : Int32) (hb hby d17_7) rfl 8 rfl ?_
  refine Own.g_goto X0 hx (hb hby d17_8) 12 (by decide) ?_
  refine Own.g_ret X0 hx hret hlocks rfl (Or.inl ⟨rfl, by simp, _, rfl⟩) (hb hby d17_12) (by decide) (by decide) e0 ?_
  exact ⟨rfl, N0, rfl⟩
theorem ef_tb (m : MethodId) (x0 : Int32) : entryFrame m #[.int x0] 1 = mkF m 0 #[.val (.int x0)] [] := by first | (simp [entryFrame, mkF, argsToLocals, Value.category]; done) | rfl
def Q_tb (Z : State) (x1 : Int32) (h0 : Heap) (n0 : Nat) (v : Option Value) (h : Heap) (L : List Loc) : Prop := ∃ (d : Addr) (k : ClassId), v = some (.ref d) ∧ Fr n0 L ∧ Keep h0 h [] ∧ h0.size ≤ d ∧ Arv Z h d k .byte 1 [(.int x1.toInt8.toInt32)] (.int 0)
set_option maxRecDepth 65536 in
set_option maxHeartbeats 40000000 in
theorem rm_tb (l : Launch) (Z : State) (a0 : Array Value) (hw : ∀ d ∈ tables_1, d.before a0 Z = true) (ws : List Jvm.Cond) (x1 : Int32) (h0 : Heap) (n0 : Nat) (O : Old Z n0 h0)  :
    MetFree l (⟨"java/lang/StringLatin1", "toBytes", "(C)[B"⟩ : MethodName) (head1 (Jvm.Cond.code (⟨"java/lang/StringLatin1", "toBytes", "(C)[B"⟩ : MethodName) jdk_43_method_46_code 1 (some (.array .byte)) :: ws) ({ frames := 0, cells := 1, slots := 1, locals := 0 } : Room)) (fun aa U => aa = #[.int x1] ∧ Z.Warmed39 U.vm ∧ U.heap = h0) (fun _ _ _ _ _ => True) (fun _ U o U' => Own.End U (Q_tb Z x1 h0 n0) 1 1 o U') := by
  refine MetFree.of_bodySF (plainFor_of_name pn_1) hisR ?_
  intro p e s m args below meth c s₁ Bd hml0 hP hK
  obtain ⟨rfl, hZ, hh⟩ := hP
  have hx := Bd.exec
  have hby := Bd.bytes
  have hml : c.maxLocals = 1 := hml0
  have hown : s.vm.findClass "java/lang/StringLatin1" = some m.cls := findClass_of_methodNamed Bd.named
  have hnm := (name_of_methodNamed Bd.named Bd.method).1
  have hret := Bd.returns
  have hlocks : meth.locks = false := Bd.notSynchronized
  have X0 : Stand p l e ({ frames := 0, cells := 1, slots := 1, locals := 0 } : Room) s m #[.int x1] below meth c s₁ [] 0 0 := Stand.of_body Bd
  have e0 : s₁.heap = h0 := by rw [← hh, Bd.state]; rfl
  have N0 := Fr.nil n0
  show Own.Go p e below (Own.End s (Q_tb Z x1 h0 n0) 1 1) (s₁.setTop (entryFrame m #[.int x1] 1))
  refine Own.Go.eq (ef_tb m x1) ?_
  have KP : Keep h0 h0 [] := Keep.refl _ _
  refine Own.g_iconst X0 hx (1 : Int32) (hb hby d18_0) rfl 1 rfl ?_
  refine Own.g_newP X0 hx hZ (hw _ (List.mem_of_getElem? (i := 20) rfl)) e0 (hb hby d18_1) (by decide) 1 (by decide) (by decide) (by decide) (by decide) 3 rfl .byte rfl [(.int (0 : Int32))] (by intro i; first | rfl | (rcases i with _ | _ | _ | _ | _ | _ | _ | _ | _ | _ | _ | _ | _ | _ | _ | _ | _ | _ | _ | _ | _ | _ | _ | _ | i <;> rfl)) ?_
  intro T1 h1 d k_d X1 e1 E1 g1 V_d
  have n0_d : n0 ≤ d := Nat.le_trans (Nat.le_of_eq O.1.symm) (Nat.le_trans O.2.1 (Nat.le_of_eq g1.symm))
  have sz0_d : h0.size ≤ d := Nat.le_trans KP.1 (Nat.le_of_eq g1.symm)
  replace O := O.ext E1
  replace KP := KP.ext E1
  change Arv Z h1 d k_d .byte (1 : Int32) [(.int (0 : Int32))] (.int (0 : Int32)) at V_d
  refine Own.g_dup X1 hx (hb hby d18_3) rfl 4 rfl ?_
  refine Own.g_iconst X1 hx (0 : Int32) (hb hby d18_4) rfl 5 rfl ?_
  refine Own.g_iloadN X1 hx (hb hby d18_5) rfl 6 rfl ?_
  refine Own.g_i2b X1 hx (hb hby d18_6) 7 rfl ?_
  refine Own.g_stB X1 hx hZ e1 V_d (x1.toInt8.toInt32) (Own.nar_b _) (by decide) 0 rfl (Nat.le_of_ble_eq_true rfl) [(.int (x1.toInt8.toInt32))] rfl (hb hby d18_7) 8 rfl ?_
  clear V_d; intro T2 h2 X2 e2 W2 V_d
  replace O := O.wr W2 n0_d
  replace KP := KP.wr W2 (Or.inr sz0_d)
  have N2 := Fr.snoc X2 N0 n0_d
  refine Own.g_ret X2 hx hret hlocks rfl (Or.inr (Or.inr (Or.inr (Or.inr ⟨rfl, rfl, rfl⟩)))) (hb hby d18_8) (by decide) (by decide) e2 ?_
  exact ⟨d, k_d, rfl, N2, KP, sz0_d, V_d⟩
theorem ef_bb (m : MethodId) (x0 : Addr) (x1 : Addr) (x2 : Int32) : entryFrame m #[.ref x0, .ref x1, .int x2] 3 = mkF m 0 #[.val (.ref x0), .val (.ref x1), .val (.int x2)] [] := by first | (simp [entryFrame, mkF, argsToLocals, Value.category]; done) | rfl
def Q_bb (Z : State) (x : Addr) (a : Addr) (v0 : Value) (c0 : Value) (h0 : Heap) (n0 : Nat) (v : Option Value) (h : Heap) (L : List Loc) : Prop := v = none ∧ Fr n0 L ∧ Keep h0 h [x] ∧ Exa Z h x "java/lang/String" ∧ Fld Z h x "java/lang/String" "value" "[B" (.ref a) ∧ Fld Z h x "java/lang/String" "coder" "B" (.int 0)
set_option maxRecDepth 65536 in
set_option maxHeartbeats 40000000 in
theorem rm_bb (l : Launch) (Z : State) (a0 : Array Value) (hw : ∀ d ∈ tables_1, d.before a0 Z = true) (ws : List Jvm.Cond) (x : Addr) (a : Addr) (v0 : Value) (c0 : Value) (h0 : Heap) (n0 : Nat) (O : Old Z n0 h0) (n0_x : n0 ≤ x) (E_x : Exa Z h0 x "java/lang/String") (F_x_value : Fld Z h0 x "java/lang/String" "value" "[B" v0) (F_x_coder : Fld Z h0 x "java/lang/String" "coder" "B" c0) :
    MetFree l (⟨"java/lang/String", "<init>", "([BB)V"⟩ : MethodName) (head1 (Jvm.Cond.code (⟨"java/lang/String", "<init>", "([BB)V"⟩ : MethodName) jdk_42_method_151_code 3 none :: ws) ({ frames := 1, cells := 0, slots := 0, locals := 12 } : Room)) (fun aa U => aa = #[.ref x, .ref a, .int (0 : Int32)] ∧ Z.Warmed39 U.vm ∧ U.heap = h0) (fun _ _ _ _ _ => True) (fun _ U o U' => Own.End U (Q_bb Z x a v0 c0 h0 n0) 0 0 o U') := by
  refine MetFree.of_bodySF (plainFor_of_name pn_0) hisR ?_
  intro p e s m args below meth c s₁ Bd hml0 hP hK
  obtain ⟨rfl, hZ, hh⟩ := hP
  have hx := Bd.exec
  have hby := Bd.bytes
  have hml : c.maxLocals = 3 := hml0
  have hown : s.vm.findClass "java/lang/String" = some m.cls := findClass_of_methodNamed Bd.named
  have hnm := (name_of_methodNamed Bd.named Bd.method).1
  have hret := Bd.returns
  have hlocks : meth.locks = false := Bd.notSynchronized
  have X0 : Stand p l e ({ frames := 1, cells := 0, slots := 0, locals := 12 } : Room) s m #[.ref x, .ref a, .int (0 : Int32)] below meth c s₁ [] 0 0 := Stand.of_body Bd
  have e0 : s₁.heap = h0 := by rw [← hh, Bd.state]; rfl
  have N0 := Fr.nil n0
  show Own.Go p e below (Own.End s (Q_bb Z x a v0 c0 h0 n0) 0 0) (s₁.setTop (entryFrame m #[.ref x, .ref a, .int (0 : Int32)] 3))
  refine Own.Go.eq (ef_bb m x a (0 : Int32)) ?_
  have KP : Keep h0 h0 [x] := Keep.refl _ _
  refine Own.g_aloadN X0 hx (hb hby d19_0) rfl rfl 1 rfl ?_
  refine Own.g_initO X0 hx hZ hown (hw _ (List.mem_of_getElem? (i := 12) rfl)) (hw _ (List.mem_of_getElem? (i := 13) rfl)) (hw _ (List.mem_of_getElem? (i := 14) rfl)) e0 (by rw [hml]; rfl) (hb hby d19_1) (by decide) (W := 0) (Nat.le_of_ble_eq_true rfl) (by decide) 4 rfl ?_
  intro T1 X1 e1
  refine Own.g_aloadN X1 hx (hb hby d19_4) rfl rfl 5 rfl ?_
  refine Own.g_aloadN X1 hx (hb hby d19_5) rfl rfl 6 rfl ?_
  refine Own.g_putF X1 hx hZ hown (host := "") (Or.inl (hw _ (List.mem_of_getElem? (i := 29) rfl))) Via.refl e1 F_x_value E_x (Or.inr ⟨(hw _ (List.mem_of_getElem? (i := 30) rfl)), rfl, hnm⟩) (hw _ (List.mem_of_getElem? (i := 3) rfl)) (ty := (.array .byte)) (by decide) rfl rfl (hb hby d19_6) 9 rfl ?_
  clear F_x_value; intro T2 h2 X2 e2 W2 F_x_value Ew2
  replace E_x := E_x.wr W2
  replace F_x_coder := F_x_coder.other W2 (Or.inr (slot_ne (Or.inr (hw _ (List.mem_of_getElem? (i := 28) rfl))) (Or.inr (hw _ (List.mem_of_getElem? (i := 30) rfl))) (by decide) (t := .byte) (t' := (.array .byte)) (by decide) (by decide)))
  replace O := O.wr W2 n0_x
  replace KP := KP.wr W2 (Or.inl (List.mem_of_getElem? (i := 0) rfl))
  have N2 := Fr.snoc X2 N0 n0_x
  refine Own.g_aloadN X2 hx (hb hby d19_9) rfl rfl 10 rfl ?_
  refine Own.g_iloadN X2 hx (hb hby d19_10) rfl 11 rfl ?_
  refine Own.g_putF X2 hx hZ hown (host := "") (Or.inl (hw _ (List.mem_of_getElem? (i := 27) rfl))) Via.refl e2 F_x_coder E_x (Or.inr ⟨(hw _ (List.mem_of_getElem? (i := 28) rfl)), rfl, hnm⟩) (hw _ (List.mem_of_getElem? (i := 3) rfl)) (ty := .byte) (by decide) rfl rfl (hb hby d19_11) 14 rfl ?_
  clear F_x_coder; intro T3 h3 X3 e3 W3 F_x_coder Ew3
  replace E_x := E_x.wr W3
  replace F_x_value := F_x_value.other W3 (Or.inr (slot_ne (Or.inr (hw _ (List.mem_of_getElem? (i := 30) rfl))) (Or.inr (hw _ (List.mem_of_getElem? (i := 28) rfl))) (by decide) (t := (.array .byte)) (t' := .byte) (by decide) (by decide)))
  replace O := O.wr W3 n0_x
  replace KP := KP.wr W3 (Or.inl (List.mem_of_getElem? (i := 0) rfl))
  have N3 := Fr.snoc X3 N2 n0_x
  refine Own.g_retV X3 hx hret hlocks (hb hby d19_14) (by decide) (by decide) e3 ?_
  exact ⟨rfl, N3, KP, E_x, F_x_value, F_x_coder⟩
theorem ef_vo (m : MethodId) (x0 : Int32) : entryFrame m #[.int x0] 1 = mkF m 0 #[.val (.int x0)] [] := by first | (simp [entryFrame, mkF, argsToLocals, Value.category]; done) | rfl
def Q_vo (Z : State) (x1 : Int32) (G1 : Int32) (h0 : Heap) (n0 : Nat) (v : Option Value) (h : Heap) (L : List Loc) : Prop := ∃ (b : Addr) (t : Addr) (k : ClassId), v = some (.ref b) ∧ Fr n0 L ∧ Keep h0 h [] ∧ h0.size ≤ b ∧ h0.size ≤ t ∧ Exa Z h b "java/lang/String" ∧ Fld Z h b "java/lang/String" "value" "[B" (.ref t) ∧ Fld Z h b "java/lang/String" "coder" "B" (.int 0) ∧ Arv Z h t k .byte 1 [(.int x1.toInt8.toInt32)] (.int 0)
set_option maxRecDepth 65536 in
set_option maxHeartbeats 40000000 in
theorem rm_vo (l : Launch) (Z : State) (a0 : Array Value) (hw : ∀ d ∈ tables_1, d.before a0 Z = true) (ws : List Jvm.Cond) (x1 : Int32) (G1 : Int32) (h0 : Heap) (n0 : Nat) (O : Old Z n0 h0) (hlx : Own.Lat x1) (O2 : Sta Z Z.heap "java/lang/String" "COMPACT_STRINGS" "Z" (.int G1)) (P5 : ¬ (G1 = (0 : Int32))) :
    MetFree l (⟨"java/lang/String", "valueOf", "(C)Ljava/lang/String;"⟩ : MethodName) (head1 (Jvm.Cond.code (⟨"java/lang/String", "valueOf", "(C)Ljava/lang/String;"⟩ : MethodName) jdk_42_method_139_code 1 (some (.object "java/lang/String")) :: ws) ({ frames := 2, cells := 2, slots := 5, locals := 27 } : Room)) (fun aa U => aa = #[.int x1] ∧ Z.Warmed39 U.vm ∧ U.heap = h0) (fun _ _ _ _ _ => True) (fun _ U o U' => Own.End U (Q_vo Z x1 G1 h0 n0) 2 5 o U') := by
  refine MetFree.of_bodySF (plainFor_of_name pn_0) hisR ?_
  intro p e s m args below meth c s₁ Bd hml0 hP hK
  obtain ⟨rfl, hZ, hh⟩ := hP
  have hx := Bd.exec
  have hby := Bd.bytes
  have hml : c.maxLocals = 1 := hml0
  have hown : s.vm.findClass "java/lang/String" = some m.cls := findClass_of_methodNamed Bd.named
  have hnm := (name_of_methodNamed Bd.named Bd.method).1
  have hret := Bd.returns
  have hlocks : meth.locks = false := Bd.notSynchronized
  have X0 : Stand p l e ({ frames := 2, cells := 2, slots := 5, locals := 27 } : Room) s m #[.int x1] below meth c s₁ [] 0 0 := Stand.of_body Bd
  have e0 : s₁.heap = h0 := by rw [← hh, Bd.state]; rfl
  have N0 := Fr.nil n0
  show Own.Go p e below (Own.End s (Q_vo Z x1 G1 h0 n0) 2 5) (s₁.setTop (entryFrame m #[.int x1] 1))
  refine Own.Go.eq (ef_vo m x1) ?_
  have KP : Keep h0 h0 [] := Keep.refl _ _
  refine Own.g_getS X0 hx hZ hown (host := "") (Or.inl (hw _ (List.mem_of_getElem? (i := 15) rfl))) Via.refl e0 (O2.ext O.2) (hb hby d16_0) 3 rfl ?_
  intro T1 X1 e1
  refine Own.g_if_eq_f X1 hx (hb hby d16_3) P5 6 rfl ?_
  refine Own.g_iloadN X1 hx (hb hby d16_6) rfl 7 rfl ?_
  refine Own.g_callS X1 hx (y := (⟨"java/lang/StringLatin1", "canEncode", "(C)Z"⟩ : MethodName)) hown (mvT hZ (hw _ (List.mem_of_getElem? (i := 96) rfl))) (mvT hZ (hw _ (List.mem_of_getElem? (i := 97) rfl))) (mvT hZ (hw _ (List.mem_of_getElem? (i := 62) rfl))) (mvT hZ (hw _ (List.mem_of_getElem? (i := 98) rfl))) (by decide) [.int x1] (Own.back (W := 0) (rm_ce l Z a0 hw [] x1 h0 n0 O hlx) hZ (hw _ (List.mem_of_getElem? (i := 98) rfl)) (hw _ (List.mem_of_getElem? (i := 62) rfl)) (by decide) (by decide)) e1 (by rw [hml]; rfl) [] (lenOf pd_1 rfl) rfl (Nat.le_of_ble_eq_true rfl) (hb hby d16_7) (by decide) (by decide) 10 rfl ?_
  rintro _ T2 L2 X2 ⟨rfl, N2q, eH2⟩
  have N2 := Fr.app N0 N2q
  show Own.Go p e below _ (T2.setTop (mkF m 10 #[.val (.int x1)] [(.int (1 : Int32))]))
  refine Own.g_if_eq_f X2 hx (hb hby d16_10) (by decide) 13 rfl ?_
  refine Own.g_new X2 hx hZ hown (hw _ (List.mem_of_getElem? (i := 59) rfl)) (hw _ (List.mem_of_getElem? (i := 3) rfl)) (hw _ (List.mem_of_getElem? (i := 4) rfl)) eH2 (hb hby d16_13) (by decide) (by decide) 16 rfl ?_
  intro T3 h3 b X3 e3 E3 g3 E_b D3
  have n0_b : n0 ≤ b := Nat.le_trans (Nat.le_of_eq O.1.symm) (Nat.le_trans O.2.1 (Nat.le_of_eq g3.symm))
  have sz0_b : h0.size ≤ b := Nat.le_trans KP.1 (Nat.le_of_eq g3.symm)
  replace O := O.ext E3
  replace KP := KP.ext E3
  have F_b_coder : Fld Z h3 b "java/lang/String" "coder" "B" (.int (0 : Int32)) := D3 (Or.inr (hw _ (List.mem_of_getElem? (i := 28) rfl))) (ty := .byte) (by decide)
  have F_b_value : Fld Z h3 b "java/lang/String" "value" "[B" .null := D3 (Or.inr (hw _ (List.mem_of_getElem? (i := 30) rfl))) (ty := (.array .byte)) (by decide)
  refine Own.g_dup X3 hx (hb hby d16_16) rfl 17 rfl ?_
  refine Own.g_iloadN X3 hx (hb hby d16_17) rfl 18 rfl ?_
  refine Own.g_callS X3 hx (y := (⟨"java/lang/StringLatin1", "toBytes", "(C)[B"⟩ : MethodName)) hown (mvT hZ (hw _ (List.mem_of_getElem? (i := 99) rfl))) (mvT hZ (hw _ (List.mem_of_getElem? (i := 100) rfl))) (mvT hZ (hw _ (List.mem_of_getElem? (i := 62) rfl))) (mvT hZ (hw _ (List.mem_of_getElem? (i := 101) rfl))) (by decide) [.int x1] (Own.back (W := 2) (rm_tb l Z a0 hw [] x1 h3 n0 O ) hZ (hw _ (List.mem_of_getElem? (i := 101) rfl)) (hw _ (List.mem_of_getElem? (i := 62) rfl)) (by decide) (by decide)) e3 (by rw [hml]; rfl) [(.ref b), (.ref b)] (lenOf pd_2 rfl) rfl (Nat.le_of_ble_eq_true rfl) (hb hby d16_18) (by decide) (by decide) 21 rfl ?_
  rintro _ T4 L4 X4 ⟨d, k_d, rfl, N4q, K4, sz4, V_d⟩
  have N4 := Fr.app N2 N4q
  have ne_b_d : b ≠ d := Nat.ne_of_lt (Nat.lt_of_lt_of_le (E_b.lt) sz4)
  have n0_d : n0 ≤ d := Nat.le_trans (Nat.le_of_eq O.1.symm) (Nat.le_trans O.2.1 sz4)
  have sz0_d : h0.size ≤ d := Nat.le_trans KP.1 sz4
  replace E_b := E_b.keep K4
  replace F_b_coder := F_b_coder.keep K4 nin0
  replace F_b_value := F_b_value.keep K4 nin0
  replace O := O.keep K4 all0
  replace KP := KP.trans K4 all0
  show Own.Go p e below _ (T4.setTop (mkF m 21 #[.val (.int x1)] [(.ref d), (.ref b), (.ref b)]))
  refine Own.g_iconst X4 hx (0 : Int32) (hb hby d16_21) rfl 22 rfl ?_
  refine Own.g_special X4 hx (y := (⟨"java/lang/String", "<init>", "([BB)V"⟩ : MethodName)) rfl hown (mvT hZ (hw _ (List.mem_of_getElem? (i := 102) rfl))) (mvT hZ (hw _ (List.mem_of_getElem? (i := 103) rfl))) (mvT hZ (hw _ (List.mem_of_getElem? (i := 104) rfl))) (by decide) (a := b) [.ref d, .int (0 : Int32)] (Own.back (W := 1) (rm_bb l Z a0 hw [] b d .null (.int 0) T4.heap n0 O n0_b E_b F_b_value F_b_coder) hZ (hw _ (List.mem_of_getElem? (i := 104) rfl)) (hw _ (List.mem_of_getElem? (i := 4) rfl)) (by decide) (by decide)) (rfl : T4.heap = T4.heap) (by rw [hml]; rfl) [(.ref b)] (lenOf pd_3 rfl) rfl (Nat.le_of_ble_eq_true rfl) (hb hby d16_22) (by decide) (by decide) 25 rfl ?_
  rintro _ T5 L5 X5 ⟨rfl, N5q, K5, GE, GV, GC⟩
  have N5 := Fr.app N4 N5q
  replace V_d := V_d.keep K5 (ninS (Ne.symm ne_b_d) nin0)
  replace O := O.keep K5 (allS n0_b all0)
  replace KP := KP.trans K5 (allS (Or.inr sz0_b) all0)
  show Own.Go p e below _ (T5.setTop (mkF m 25 #[.val (.int x1)] [(.ref b)]))
  refine Own.g_ret X5 hx hret hlocks rfl (Or.inr (Or.inr (Or.inr (Or.inr ⟨rfl, rfl, rfl⟩)))) (hb hby d16_25) (by decide) (by decide) (rfl : T5.heap = T5.heap) ?_
  exact ⟨b, d, k_d, rfl, N5, KP, sz0_b, sz0_d, GE, GV, GC, V_d⟩
def DAYL : List Int32 := [(89 : Int32), (89 : Int32), (89 : Int32), (89 : Int32), (45 : Int32), (77 : Int32), (77 : Int32), (45 : Int32), (68 : Int32), (68 : Int32)]
def SECL : List Int32 := [(89 : Int32), (89 : Int32), (89 : Int32), (89 : Int32), (45 : Int32), (77 : Int32), (77 : Int32), (45 : Int32), (68 : Int32), (68 : Int32), (84 : Int32), (104 : Int32), (104 : Int32), (58 : Int32), (109 : Int32), (109 : Int32), (58 : Int32), (115 : Int32), (115 : Int32), (90 : Int32)]
def S19 : List Int32 := [(89 : Int32), (89 : Int32), (89 : Int32), (89 : Int32), (45 : Int32), (77 : Int32), (77 : Int32), (45 : Int32), (68 : Int32), (68 : Int32), (84 : Int32), (104 : Int32), (104 : Int32), (58 : Int32), (109 : Int32), (109 : Int32), (58 : Int32), (115 : Int32), (115 : Int32)]
def D9 : List Int32 := [(89 : Int32), (89 : Int32), (89 : Int32), (89 : Int32), (45 : Int32), (77 : Int32), (77 : Int32), (45 : Int32), (68 : Int32)]
def nmOf : Nat → List Int32
  | 0 => DAYL
  | 1 => SECL
  | _ => []
/-- an enum constant and its name -/
def UnitOk (Z : State) (u nm t : Addr) (k : ClassId) (cs : List Int32) : Prop := Exa Z Z.heap u "com/example/bowerbird/bowerbird/model/Datestamp$Granularity" ∧ Fld Z Z.heap u "com/example/bowerbird/bowerbird/model/Datestamp$Granularity" "pattern" "Ljava/lang/String;" (.ref nm) ∧ Exa Z Z.heap nm "java/lang/String" ∧ Fld Z Z.heap nm "java/lang/String" "value" "[B" (.ref t) ∧ Fld Z Z.heap nm "java/lang/String" "coder" "B" (.int 0) ∧ Arv Z Z.heap t k .byte (Int32.ofNat cs.length) ((cs.map fun c => c.toInt8.toInt32).map Value.int) (.int 0)
theorem lat_nm : ∀ i, i < 2 → (∀ c ∈ nmOf i, Own.Lat c) ∧ (nmOf i).length ≤ 4000 := by
  intro i hi
  match i, hi with
  | 0, _ => decide
  | 1, _ => decide
/-- what named finds -/
def namV (u : Nat → Addr) (cs : List Int32) : Value := if nmOf 0 = cs then .ref (u 0) else if nmOf 1 = cs then .ref (u 1) else .null
theorem nam0 (u : Nat → Addr) {cs : List Int32} (h : nmOf 0 = cs) : namV u cs = .ref (u 0) := if_pos h
theorem nam1 (u : Nat → Addr) {cs : List Int32} (h : nmOf 1 = cs) : namV u cs = .ref (u 1) := by subst h; unfold namV; rw [if_neg (by decide), if_pos rfl]
theorem namN (u : Nat → Addr) {cs : List Int32} (h0 : ¬ nmOf 0 = cs) (h1 : ¬ nmOf 1 = cs) : namV u cs = .null := by unfold namV; rw [if_neg h0, if_neg h1]
/-- what the law expects -/
def Exp (ex : Int32) (cs : List Int32) : Prop := (ex = 0 ∧ ¬ nmOf 0 = cs ∧ ¬ nmOf 1 = cs) ∨ (ex = 1 ∧ nmOf 0 = cs) ∨ (ex = 2 ∧ nmOf 1 = cs)
theorem exp_len {cs : List Int32} (h : cs.length ≠ 10) (h' : cs.length ≠ 20) : Exp 0 cs := Or.inl ⟨rfl, fun q => h (by rw [← q]; rfl), fun q => h' (by rw [← q]; rfl)⟩
theorem set_same {l : List Int32} {i : Nat} (h : i < l.length) {x : Int32} (e : x = l.getD i 0) : l = l.set i x := by
  subst e; rw [List.getD_eq_getElem?_getD, List.getElem?_eq_getElem h]; exact (List.set_getElem_self h).symm
theorem set_ne {l : List Int32} {i : Nat} (h : i < l.length) {x : Int32} (e : ¬ x = l.getD i 0) : ¬ l = l.set i x := by
  intro q; apply e
  have q2 := congrArg (fun z => z.getD i 0) q
  simp only [List.getD_eq_getElem?_getD] at q2
  rw [List.getElem?_set_self h] at q2
  rw [List.getD_eq_getElem?_getD]; exact q2.symm
theorem expD {i : Nat} {x : Int32} (h : i < 10) (e : ¬ x = DAYL.getD i 0) : Exp 0 (DAYL.set i x) :=
  Or.inl ⟨rfl, set_ne (l := DAYL) h e, fun q => by have := congrArg List.length q; rw [List.length_set] at this; exact absurd this (by decide)⟩
theorem expS {i : Nat} {x : Int32} (h : i < 20) (e : ¬ x = SECL.getD i 0) : Exp 0 (SECL.set i x) :=
  Or.inl ⟨rfl, fun q => by have := congrArg List.length q; rw [List.length_set] at this; exact absurd this (by decide), set_ne (l := SECL) h e⟩
theorem lat_set {l : List Int32} {i : Nat} {x : Int32} (h : ∀ c ∈ l, Own.Lat c) (hx : Own.Lat x) : ∀ c ∈ l.set i x, Own.Lat c := by
  intro c hc; rcases List.mem_or_eq_of_mem_set hc with q | q
  · exact h c q
  · rw [q]; exact hx
theorem lat_app {l : List Int32} {x : Int32} (h : ∀ c ∈ l, Own.Lat c) (hx : Own.Lat x) : ∀ c ∈ l ++ [x], Own.Lat c := by
  intro c hc; rcases List.mem_append.mp hc with q | q
  · exact h c q
  · rw [List.mem_singleton.mp q]; exact hx
theorem lD : ∀ c ∈ DAYL, Own.Lat c := by decide
theorem lS : ∀ c ∈ SECL, Own.Lat c := by decide
theorem lS19 : ∀ c ∈ S19, Own.Lat c := by decide
theorem lD9 : ∀ c ∈ D9, Own.Lat c := by decide
theorem mod_in {x y : Int32} (hx : ¬ x < 0) (hm : 0 < y.toInt) : ¬ x % y < 0 ∧ x % y < y := by
  obtain ⟨h1, h2⟩ := Own.mod_lt x y hx hm
  rw [Int32.lt_iff_toInt_lt, Int32.lt_iff_toInt_lt]
  have e0 : (0 : Int32).toInt = 0 := rfl
  omega
theorem cl_lt {j y : Int32} {n : Nat} (h : ¬ j < 0 ∧ j < y) (e : y.toInt = n) : j.toNatClampNeg < n := by
  rw [Int32.lt_iff_toInt_lt, Int32.lt_iff_toInt_lt] at h
  have e0 : (0 : Int32).toInt = 0 := rfl
  show j.toInt.toNat < n
  omega
theorem getD_map {l : List Int32} {i : Nat} : (l.map Value.int).getD i (.int 0) = .int (l.getD i 0) := by
  simp only [List.getD_eq_getElem?_getD, List.getElem?_map]
  cases l[i]? <;> rfl
theorem ef_values (m : MethodId)  : entryFrame m #[] 0 = mkF m 0 #[] [] := by first | (simp [entryFrame, mkF, argsToLocals, Value.category]; done) | rfl
def Q_values (Z : State) (u : Nat → Addr) (nm : Nat → Addr) (t : Nat → Addr) (kk : Nat → ClassId) (va : Addr) (kv : ClassId) (oe : Addr) (h0 : Heap) (n0 : Nat) (v : Option Value) (h : Heap) (L : List Loc) : Prop := ∃ (b : Addr) (k : ClassId), v = some (.ref b) ∧ Fr n0 L ∧ Keep h0 h [] ∧ h0.size ≤ b ∧ Arv Z h b k (.object "com/example/bowerbird/bowerbird/model/Datestamp$Granularity") 2 [(.ref (u 0)), (.ref (u 1))] .null
set_option maxRecDepth 65536 in
set_option maxHeartbeats 40000000 in
theorem rm_values (l : Launch) (Z : State) (a0 : Array Value) (hw : ∀ d ∈ tables_1, d.before a0 Z = true) (ws : List Jvm.Cond) (u : Nat → Addr) (nm : Nat → Addr) (t : Nat → Addr) (kk : Nat → ClassId) (va : Addr) (kv : ClassId) (oe : Addr) (h0 : Heap) (n0 : Nat) (O : Old Z n0 h0) (SV : Sta Z Z.heap "com/example/bowerbird/bowerbird/model/Datestamp$Granularity" "$VALUES" "[Lcom/example/bowerbird/bowerbird/model/Datestamp$Granularity;" (.ref va)) (AV : Arv Z Z.heap va kv (.object "com/example/bowerbird/bowerbird/model/Datestamp$Granularity") 2 [(.ref (u 0)), (.ref (u 1))] .null) (EV : Exa Z Z.heap va "[Lcom/example/bowerbird/bowerbird/model/Datestamp$Granularity;") :
    MetFree l (⟨"com/example/bowerbird/bowerbird/model/Datestamp$Granularity", "values", "()[Lcom/example/bowerbird/bowerbird/model/Datestamp$Granularity;"⟩ : MethodName) (head1 (Jvm.Cond.code (⟨"com/example/bowerbird/bowerbird/model/Datestamp$Granularity", "values", "()[Lcom/example/bowerbird/bowerbird/model/Datestamp$Granularity;"⟩ : MethodName) prog_8_method_1_code 0 (some (.array (.object "com/example/bowerbird/bowerbird/model/Datestamp$Granularity"))) :: ws) ({ frames := 1, cells := 1, slots := 2, locals := 14 } : Room)) (fun aa U => aa = #[] ∧ Z.Warmed39 U.vm ∧ U.heap = h0) (fun _ _ _ _ _ => True) (fun _ U o U' => Own.End U (Q_values Z u nm t kk va kv oe h0 n0) 1 2 o U') := by
  refine MetFree.of_bodySF (plainFor_of_name pn_2) hisR ?_
  intro p e s m args below meth c s₁ Bd hml0 hP hK
  obtain ⟨rfl, hZ, hh⟩ := hP
  have hx := Bd.exec
  have hby := Bd.bytes
  have hml : c.maxLocals = 0 := hml0
  have hown : s.vm.findClass "com/example/bowerbird/bowerbird/model/Datestamp$Granularity" = some m.cls := findClass_of_methodNamed Bd.named
  have hnm := (name_of_methodNamed Bd.named Bd.method).1
  have hret := Bd.returns
  have hlocks : meth.locks = false := Bd.notSynchronized
  have X0 : Stand p l e ({ frames := 1, cells := 1, slots := 2, locals := 14 } : Room) s m #[] below meth c s₁ [] 0 0 := Stand.of_body Bd
  have e0 : s₁.heap = h0 := by rw [← hh, Bd.state]; rfl
  have N0 := Fr.nil n0
  show Own.Go p e below (Own.End s (Q_values Z u nm t kk va kv oe h0 n0) 1 2) (s₁.setTop (entryFrame m #[] 0))
  refine Own.Go.eq (ef_values m ) ?_
  refine Own.g_getS X0 hx hZ hown (host := "") (Or.inl (hw _ (List.mem_of_getElem? (i := 38) rfl))) Via.refl e0 (SV.ext O.2) (hb hby d8_0) 3 rfl ?_
  intro T1 X1 e1
  refine Own.g_clone X1 hx hZ hown (hw _ (List.mem_of_getElem? (i := 40) rfl)) (hw _ (List.mem_of_getElem? (i := 41) rfl)) (hw _ (List.mem_of_getElem? (i := 45) rfl)) (hw _ (List.mem_of_getElem? (i := 43) rfl)) (hw _ (List.mem_of_getElem? (i := 44) rfl)) (hw _ (List.mem_of_getElem? (i := 46) rfl)) e1 (AV.ext O.2) (EV.ext O.2) (by rw [hml]; rfl) (hb hby d8_3) (by decide) (W := 0) 2 (by decide) (by decide) (by decide) (by decide) (by decide) 6 rfl ?_
  intro T2 h2 b X2 e2 E2 g2 V_b E_b
  have n0_b : n0 ≤ b := Nat.le_trans (Nat.le_of_eq O.1.symm) (Nat.le_trans O.2.1 (Nat.le_of_eq g2.symm))
  replace O := O.ext E2
  refine Own.g_castY X2 hx hZ hown (hw _ (List.mem_of_getElem? (i := 50) rfl)) e2 (Ins.self E_b) (hb hby d8_6) 9 rfl ?_
  intro T3 X3 e3
  refine Own.g_ret X3 hx hret hlocks rfl (Or.inr (Or.inr (Or.inr (Or.inr ⟨rfl, rfl, rfl⟩)))) (hb hby d8_9) (by decide) (by decide) e3 ?_
  exact ⟨b, kv, rfl, N0, (Keep.refl h0 []).ext E2, Nat.le_of_eq g2.symm, V_b⟩
theorem ef_rnn (m : MethodId) (x0 : Addr) : entryFrame m #[.ref x0] 1 = mkF m 0 #[.val (.ref x0)] [] := by first | (simp [entryFrame, mkF, argsToLocals, Value.category]; done) | rfl
def Q_rnn (Z : State) (a1 : Addr) (h0 : Heap) (n0 : Nat) (v : Option Value) (h : Heap) (L : List Loc) : Prop := v = some (.ref a1) ∧ Fr n0 L ∧ h = h0
set_option maxRecDepth 65536 in
set_option maxHeartbeats 40000000 in
theorem rm_rnn (l : Launch) (Z : State) (a0 : Array Value) (hw : ∀ d ∈ tables_1, d.before a0 Z = true) (ws : List Jvm.Cond) (a1 : Addr) (h0 : Heap) (n0 : Nat) (O : Old Z n0 h0)  :
    MetFree l (⟨"java/util/Objects", "requireNonNull", "(Ljava/lang/Object;)Ljava/lang/Object;"⟩ : MethodName) (head1 (Jvm.Cond.code (⟨"java/util/Objects", "requireNonNull", "(Ljava/lang/Object;)Ljava/lang/Object;"⟩ : MethodName) jdk_31_method_10_code 1 (some (.object "java/lang/Object")) :: ws) ({ frames := 0, cells := 0, slots := 0, locals := 0 } : Room)) (fun aa U => aa = #[.ref a1] ∧ Z.Warmed39 U.vm ∧ U.heap = h0) (fun _ _ _ _ _ => True) (fun _ U o U' => Own.End U (Q_rnn Z a1 h0 n0) 0 0 o U') := by
  refine MetFree.of_bodySF (plainFor_of_name pn_3) hisR ?_
  intro p e s m args below meth c s₁ Bd hml0 hP hK
  obtain ⟨rfl, hZ, hh⟩ := hP
  have hx := Bd.exec
  have hby := Bd.bytes
  have hml : c.maxLocals = 1 := hml0
  have hown : s.vm.findClass "java/util/Objects" = some m.cls := findClass_of_methodNamed Bd.named
  have hnm := (name_of_methodNamed Bd.named Bd.method).1
  have hret := Bd.returns
  have hlocks : meth.locks = false := Bd.notSynchronized
  have X0 : Stand p l e ({ frames := 0, cells := 0, slots := 0, locals := 0 } : Room) s m #[.ref a1] below meth c s₁ [] 0 0 := Stand.of_body Bd
  have e0 : s₁.heap = h0 := by rw [← hh, Bd.state]; rfl
  have N0 := Fr.nil n0
  show Own.Go p e below (Own.End s (Q_rnn Z a1 h0 n0) 0 0) (s₁.setTop (entryFrame m #[.ref a1] 1))
  refine Own.Go.eq (ef_rnn m a1) ?_
  refine Own.g_aloadN X0 hx (hb hby d12_0) rfl rfl 1 rfl ?_
  refine Own.g_ifnonnull_t X0 hx (hb hby d12_1) 12 (by decide) ?_
  refine Own.g_aloadN X0 hx (hb hby d12_12) rfl rfl 13 rfl ?_
  refine Own.g_ret X0 hx hret hlocks rfl (Or.inr (Or.inr (Or.inr (Or.inr ⟨rfl, rfl, rfl⟩)))) (hb hby d12_13) (by decide) (by decide) e0 ?_
  exact ⟨rfl, N0, rfl⟩
theorem ef_oi (m : MethodId) (x0 : Addr) (x1 : Addr) : entryFrame m #[.ref x0, .ref x1] 2 = mkF m 0 #[.val (.ref x0), .val (.ref x1)] [] := by first | (simp [entryFrame, mkF, argsToLocals, Value.category]; done) | rfl
def Q_oi (Z : State) (x : Addr) (a1 : Addr) (h0 : Heap) (n0 : Nat) (v : Option Value) (h : Heap) (L : List Loc) : Prop := v = none ∧ Fr n0 L ∧ Keep h0 h [x] ∧ Exa Z h x "java/util/Optional" ∧ Fld Z h x "java/util/Optional" "value" "Ljava/lang/Object;" (.ref a1)
set_option maxRecDepth 65536 in
set_option maxHeartbeats 40000000 in
theorem rm_oi (l : Launch) (Z : State) (a0 : Array Value) (hw : ∀ d ∈ tables_1, d.before a0 Z = true) (ws : List Jvm.Cond) (x : Addr) (a1 : Addr) (h0 : Heap) (n0 : Nat) (O : Old Z n0 h0) (n0_x : n0 ≤ x) (E_x : Exa Z h0 x "java/util/Optional") (F_x_value : Fld Z h0 x "java/util/Optional" "value" "Ljava/lang/Object;" .null) :
    MetFree l (⟨"java/util/Optional", "<init>", "(Ljava/lang/Object;)V"⟩ : MethodName) (head1 (Jvm.Cond.code (⟨"java/util/Optional", "<init>", "(Ljava/lang/Object;)V"⟩ : MethodName) jdk_32_method_2_code 2 none :: ws) ({ frames := 1, cells := 0, slots := 0, locals := 12 } : Room)) (fun aa U => aa = #[.ref x, .ref a1] ∧ Z.Warmed39 U.vm ∧ U.heap = h0) (fun _ _ _ _ _ => True) (fun _ U o U' => Own.End U (Q_oi Z x a1 h0 n0) 0 0 o U') := by
  refine MetFree.of_bodySF (plainFor_of_name pn_4) hisR ?_
  intro p e s m args below meth c s₁ Bd hml0 hP hK
  obtain ⟨rfl, hZ, hh⟩ := hP
  have hx := Bd.exec
  have hby := Bd.bytes
  have hml : c.maxLocals = 2 := hml0
  have hown : s.vm.findClass "java/util/Optional" = some m.cls := findClass_of_methodNamed Bd.named
  have hnm := (name_of_methodNamed Bd.named Bd.method).1
  have hret := Bd.returns
  have hlocks : meth.locks = false := Bd.notSynchronized
  have X0 : Stand p l e ({ frames := 1, cells := 0, slots := 0, locals := 12 } : Room) s m #[.ref x, .ref a1] below meth c s₁ [] 0 0 := Stand.of_body Bd
  have e0 : s₁.heap = h0 := by rw [← hh, Bd.state]; rfl
  have N0 := Fr.nil n0
  show Own.Go p e below (Own.End s (Q_oi Z x a1 h0 n0) 0 0) (s₁.setTop (entryFrame m #[.ref x, .ref a1] 2))
  refine Own.Go.eq (ef_oi m x a1) ?_
  have KP : Keep h0 h0 [x] := Keep.refl _ _
  refine Own.g_aloadN X0 hx (hb hby d13_0) rfl rfl 1 rfl ?_
  refine Own.g_initO X0 hx hZ hown (hw _ (List.mem_of_getElem? (i := 78) rfl)) (hw _ (List.mem_of_getElem? (i := 13) rfl)) (hw _ (List.mem_of_getElem? (i := 14) rfl)) e0 (by rw [hml]; rfl) (hb hby d13_1) (by decide) (W := 0) (Nat.le_of_ble_eq_true rfl) (by decide) 4 rfl ?_
  intro T1 X1 e1
  refine Own.g_aloadN X1 hx (hb hby d13_4) rfl rfl 5 rfl ?_
  refine Own.g_aloadN X1 hx (hb hby d13_5) rfl rfl 6 rfl ?_
  refine Own.g_putF X1 hx hZ hown (host := "") (Or.inl (hw _ (List.mem_of_getElem? (i := 79) rfl))) Via.refl e1 F_x_value E_x (Or.inr ⟨(hw _ (List.mem_of_getElem? (i := 80) rfl)), rfl, hnm⟩) (hw _ (List.mem_of_getElem? (i := 69) rfl)) (ty := (.object "java/lang/Object")) (by decide) rfl rfl (hb hby d13_6) 9 rfl ?_
  clear F_x_value; intro T2 h2 X2 e2 W2 F_x_value Ew2
  replace E_x := E_x.wr W2
  replace O := O.wr W2 n0_x
  replace KP := KP.wr W2 (Or.inl (List.mem_of_getElem? (i := 0) rfl))
  have N2 := Fr.snoc X2 N0 n0_x
  refine Own.g_retV X2 hx hret hlocks (hb hby d13_9) (by decide) (by decide) e2 ?_
  exact ⟨rfl, N2, KP, E_x, F_x_value⟩
theorem ef_of (m : MethodId) (x0 : Addr) : entryFrame m #[.ref x0] 1 = mkF m 0 #[.val (.ref x0)] [] := by first | (simp [entryFrame, mkF, argsToLocals, Value.category]; done) | rfl
def Q_of (Z : State) (a1 : Addr) (h0 : Heap) (n0 : Nat) (v : Option Value) (h : Heap) (L : List Loc) : Prop := ∃ o : Addr, v = some (.ref o) ∧ Fr n0 L ∧ Keep h0 h [] ∧ Exa Z h o "java/util/Optional" ∧ Fld Z h o "java/util/Optional" "value" "Ljava/lang/Object;" (.ref a1)
set_option maxRecDepth 65536 in
set_option maxHeartbeats 40000000 in
theorem rm_of (l : Launch) (Z : State) (a0 : Array Value) (hw : ∀ d ∈ tables_1, d.before a0 Z = true) (ws : List Jvm.Cond) (a1 : Addr) (h0 : Heap) (n0 : Nat) (O : Old Z n0 h0)  :
    MetFree l (⟨"java/util/Optional", "of", "(Ljava/lang/Object;)Ljava/util/Optional;"⟩ : MethodName) (head1 (Jvm.Cond.code (⟨"java/util/Optional", "of", "(Ljava/lang/Object;)Ljava/util/Optional;"⟩ : MethodName) jdk_32_method_3_code 1 (some (.object "java/util/Optional")) :: ws) ({ frames := 2, cells := 1, slots := 1, locals := 40 } : Room)) (fun aa U => aa = #[.ref a1] ∧ Z.Warmed39 U.vm ∧ U.heap = h0) (fun _ _ _ _ _ => True) (fun _ U o U' => Own.End U (Q_of Z a1 h0 n0) 1 1 o U') := by
  refine MetFree.of_bodySF (plainFor_of_name pn_4) hisR ?_
  intro p e s m args below meth c s₁ Bd hml0 hP hK
  obtain ⟨rfl, hZ, hh⟩ := hP
  have hx := Bd.exec
  have hby := Bd.bytes
  have hml : c.maxLocals = 1 := hml0
  have hown : s.vm.findClass "java/util/Optional" = some m.cls := findClass_of_methodNamed Bd.named
  have hnm := (name_of_methodNamed Bd.named Bd.method).1
  have hret := Bd.returns
  have hlocks : meth.locks = false := Bd.notSynchronized
  have X0 : Stand p l e ({ frames := 2, cells := 1, slots := 1, locals := 40 } : Room) s m #[.ref a1] below meth c s₁ [] 0 0 := Stand.of_body Bd
  have e0 : s₁.heap = h0 := by rw [← hh, Bd.state]; rfl
  have N0 := Fr.nil n0
  show Own.Go p e below (Own.End s (Q_of Z a1 h0 n0) 1 1) (s₁.setTop (entryFrame m #[.ref a1] 1))
  refine Own.Go.eq (ef_of m a1) ?_
  have KP : Keep h0 h0 [] := Keep.refl _ _
  refine Own.g_new X0 hx hZ hown (hw _ (List.mem_of_getElem? (i := 68) rfl)) (hw _ (List.mem_of_getElem? (i := 69) rfl)) (hw _ (List.mem_of_getElem? (i := 66) rfl)) e0 (hb hby d11_0) (by decide) (by decide) 3 rfl ?_
  intro T1 h1 b X1 e1 E1 g1 E_b D1
  have n0_b : n0 ≤ b := Nat.le_trans (Nat.le_of_eq O.1.symm) (Nat.le_trans O.2.1 (Nat.le_of_eq g1.symm))
  have sz0_b : h0.size ≤ b := Nat.le_trans KP.1 (Nat.le_of_eq g1.symm)
  replace O := O.ext E1
  replace KP := KP.ext E1
  have F_b_value : Fld Z h1 b "java/util/Optional" "value" "Ljava/lang/Object;" .null := D1 (Or.inr (hw _ (List.mem_of_getElem? (i := 80) rfl))) (ty := (.object "java/lang/Object")) (by decide)
  refine Own.g_dup X1 hx (hb hby d11_3) rfl 4 rfl ?_
  refine Own.g_aloadN X1 hx (hb hby d11_4) rfl rfl 5 rfl ?_
  refine Own.g_callS X1 hx (y := (⟨"java/util/Objects", "requireNonNull", "(Ljava/lang/Object;)Ljava/lang/Object;"⟩ : MethodName)) hown (mvT hZ (hw _ (List.mem_of_getElem? (i := 70) rfl))) (mvT hZ (hw _ (List.mem_of_getElem? (i := 71) rfl))) (mvT hZ (hw _ (List.mem_of_getElem? (i := 72) rfl))) (mvT hZ (hw _ (List.mem_of_getElem? (i := 73) rfl))) (by decide) [.ref a1] (Own.back (W := 2) (rm_rnn l Z a0 hw [] a1 h1 n0 O ) hZ (hw _ (List.mem_of_getElem? (i := 73) rfl)) (hw _ (List.mem_of_getElem? (i := 72) rfl)) (by decide) (by decide)) e1 (by rw [hml]; rfl) [(.ref b), (.ref b)] (lenOf pd_4 rfl) rfl (Nat.le_of_ble_eq_true rfl) (hb hby d11_5) (by decide) (by decide) 8 rfl ?_
  rintro _ T2 L2 X2 ⟨rfl, N2q, eH2⟩
  have N2 := Fr.app N0 N2q
  show Own.Go p e below _ (T2.setTop (mkF m 8 #[.val (.ref a1)] [(.ref a1), (.ref b), (.ref b)]))
  refine Own.g_special X2 hx (y := (⟨"java/util/Optional", "<init>", "(Ljava/lang/Object;)V"⟩ : MethodName)) rfl hown (mvT hZ (hw _ (List.mem_of_getElem? (i := 74) rfl))) (mvT hZ (hw _ (List.mem_of_getElem? (i := 75) rfl))) (mvT hZ (hw _ (List.mem_of_getElem? (i := 77) rfl))) (by decide) (a := b) [.ref a1] (Own.back (W := 1) (rm_oi l Z a0 hw [] b a1 h1 n0 O n0_b E_b F_b_value) hZ (hw _ (List.mem_of_getElem? (i := 77) rfl)) (hw _ (List.mem_of_getElem? (i := 66) rfl)) (by decide) (by decide)) eH2 (by rw [hml]; rfl) [(.ref b)] (lenOf pd_5 rfl) rfl (Nat.le_of_ble_eq_true rfl) (hb hby d11_8) (by decide) (by decide) 11 rfl ?_
  rintro _ T3 L3 X3 ⟨rfl, N3q, K3, GE, GV⟩
  have N3 := Fr.app N2 N3q
  replace O := O.keep K3 (allS n0_b all0)
  replace KP := KP.trans K3 (allS (Or.inr sz0_b) all0)
  show Own.Go p e below _ (T3.setTop (mkF m 11 #[.val (.ref a1)] [(.ref b)]))
  refine Own.g_ret X3 hx hret hlocks rfl (Or.inr (Or.inr (Or.inr (Or.inr ⟨rfl, rfl, rfl⟩)))) (hb hby d11_11) (by decide) (by decide) (rfl : T3.heap = T3.heap) ?_
  exact ⟨b, rfl, N3, KP, GE, GV⟩
theorem ef_emp (m : MethodId)  : entryFrame m #[] 1 = mkF m 0 #[.unset] [] := by first | (simp [entryFrame, mkF, argsToLocals, Value.category]; done) | rfl
def Q_emp (Z : State) (oe : Addr) (h0 : Heap) (n0 : Nat) (v : Option Value) (h : Heap) (L : List Loc) : Prop := v = some (.ref oe) ∧ Fr n0 L ∧ h = h0
set_option maxRecDepth 65536 in
set_option maxHeartbeats 40000000 in
theorem rm_emp (l : Launch) (Z : State) (a0 : Array Value) (hw : ∀ d ∈ tables_1, d.before a0 Z = true) (ws : List Jvm.Cond) (oe : Addr) (h0 : Heap) (n0 : Nat) (O : Old Z n0 h0) (SE : Sta Z Z.heap "java/util/Optional" "EMPTY" "Ljava/util/Optional;" (.ref oe)) :
    MetFree l (⟨"java/util/Optional", "empty", "()Ljava/util/Optional;"⟩ : MethodName) (head1 (Jvm.Cond.code (⟨"java/util/Optional", "empty", "()Ljava/util/Optional;"⟩ : MethodName) jdk_32_method_1_code 1 (some (.object "java/util/Optional")) :: ws) ({ frames := 0, cells := 0, slots := 0, locals := 0 } : Room)) (fun aa U => aa = #[] ∧ Z.Warmed39 U.vm ∧ U.heap = h0) (fun _ _ _ _ _ => True) (fun _ U o U' => Own.End U (Q_emp Z oe h0 n0) 0 0 o U') := by
  refine MetFree.of_bodySF (plainFor_of_name pn_4) hisR ?_
  intro p e s m args below meth c s₁ Bd hml0 hP hK
  obtain ⟨rfl, hZ, hh⟩ := hP
  have hx := Bd.exec
  have hby := Bd.bytes
  have hml : c.maxLocals = 1 := hml0
  have hown : s.vm.findClass "java/util/Optional" = some m.cls := findClass_of_methodNamed Bd.named
  have hnm := (name_of_methodNamed Bd.named Bd.method).1
  have hret := Bd.returns
  have hlocks : meth.locks = false := Bd.notSynchronized
  have X0 : Stand p l e ({ frames := 0, cells := 0, slots := 0, locals := 0 } : Room) s m #[] below meth c s₁ [] 0 0 := Stand.of_body Bd
  have e0 : s₁.heap = h0 := by rw [← hh, Bd.state]; rfl
  have N0 := Fr.nil n0
  show Own.Go p e below (Own.End s (Q_emp Z oe h0 n0) 0 0) (s₁.setTop (entryFrame m #[] 1))
  refine Own.Go.eq (ef_emp m ) ?_
  refine Own.g_getS X0 hx hZ hown (host := "") (Or.inl (hw _ (List.mem_of_getElem? (i := 108) rfl))) Via.refl e0 (SE.ext O.2) (hb hby d20_0) 3 rfl ?_
  intro T1 X1 e1
  refine Own.g_astoreN X1 hx #[.val (.ref oe)] (hb hby d20_3) rfl rfl 4 rfl ?_
  refine Own.g_aloadN X1 hx (hb hby d20_4) rfl rfl 5 rfl ?_
  refine Own.g_ret X1 hx hret hlocks rfl (Or.inr (Or.inr (Or.inr (Or.inr ⟨rfl, rfl, rfl⟩)))) (hb hby d20_5) (by decide) (by decide) e1 ?_
  exact ⟨rfl, N0, rfl⟩
theorem ef_ispn (m : MethodId) (x0 : Addr) : entryFrame m #[.ref x0] 1 = mkF m 0 #[.val (.ref x0)] [] := by first | (simp [entryFrame, mkF, argsToLocals, Value.category]; done) | rfl
def Q_ispn (Z : State) (a1 : Addr) (h0 : Heap) (n0 : Nat) (v : Option Value) (h : Heap) (L : List Loc) : Prop := v = some (.int 0) ∧ Fr n0 L ∧ h = h0
set_option maxRecDepth 65536 in
set_option maxHeartbeats 40000000 in
theorem rm_ispn (l : Launch) (Z : State) (a0 : Array Value) (hw : ∀ d ∈ tables_1, d.before a0 Z = true) (ws : List Jvm.Cond) (a1 : Addr) (h0 : Heap) (n0 : Nat) (O : Old Z n0 h0) (F_a1_value : Fld Z h0 a1 "java/util/Optional" "value" "Ljava/lang/Object;" .null) :
    MetFree l (⟨"java/util/Optional", "isPresent", "()Z"⟩ : MethodName) (head1 (Jvm.Cond.code (⟨"java/util/Optional", "isPresent", "()Z"⟩ : MethodName) jdk_32_method_6_code 1 (some .boolean) :: ws) ({ frames := 0, cells := 0, slots := 0, locals := 0 } : Room)) (fun aa U => aa = #[.ref a1] ∧ Z.Warmed39 U.vm ∧ U.heap = h0) (fun _ _ _ _ _ => True) (fun _ U o U' => Own.End U (Q_ispn Z a1 h0 n0) 0 0 o U') := by
  refine MetFree.of_bodySF (plainFor_of_name pn_4) hisR ?_
  intro p e s m args below meth c s₁ Bd hml0 hP hK
  obtain ⟨rfl, hZ, hh⟩ := hP
  have hx := Bd.exec
  have hby := Bd.bytes
  have hml : c.maxLocals = 1 := hml0
  have hown : s.vm.findClass "java/util/Optional" = some m.cls := findClass_of_methodNamed Bd.named
  have hnm := (name_of_methodNamed Bd.named Bd.method).1
  have hret := Bd.returns
  have hlocks : meth.locks = false := Bd.notSynchronized
  have X0 : Stand p l e ({ frames := 0, cells := 0, slots := 0, locals := 0 } : Room) s m #[.ref a1] below meth c s₁ [] 0 0 := Stand.of_body Bd
  have e0 : s₁.heap = h0 := by rw [← hh, Bd.state]; rfl
  have N0 := Fr.nil n0
  show Own.Go p e below (Own.End s (Q_ispn Z a1 h0 n0) 0 0) (s₁.setTop (entryFrame m #[.ref a1] 1))
  refine Own.Go.eq (ef_ispn m a1) ?_
  refine Own.g_aloadN X0 hx (hb hby d14_0) rfl rfl 1 rfl ?_
  refine Own.g_getF X0 hx hZ hown (host := "") (Or.inl (hw _ (List.mem_of_getElem? (i := 79) rfl))) Via.refl e0 F_a1_value (hb hby d14_1) 4 rfl ?_
  intro T1 X1 e1
  refine Own.g_ifnull_t X1 hx (hb hby d14_4) 11 (by decide) ?_
  refine Own.g_iconst X1 hx (0 : Int32) (hb hby d14_11) rfl 12 rfl ?_
  refine Own.g_ret X1 hx hret hlocks rfl (Or.inl ⟨rfl, by simp, _, rfl⟩) (hb hby d14_12) (by decide) (by decide) e1 ?_
  exact ⟨rfl, N0, rfl⟩
theorem ef_ispr (m : MethodId) (x0 : Addr) : entryFrame m #[.ref x0] 1 = mkF m 0 #[.val (.ref x0)] [] := by first | (simp [entryFrame, mkF, argsToLocals, Value.category]; done) | rfl
def Q_ispr (Z : State) (a1 : Addr) (r : Addr) (h0 : Heap) (n0 : Nat) (v : Option Value) (h : Heap) (L : List Loc) : Prop := v = some (.int 1) ∧ Fr n0 L ∧ h = h0
set_option maxRecDepth 65536 in
set_option maxHeartbeats 40000000 in
theorem rm_ispr (l : Launch) (Z : State) (a0 : Array Value) (hw : ∀ d ∈ tables_1, d.before a0 Z = true) (ws : List Jvm.Cond) (a1 : Addr) (r : Addr) (h0 : Heap) (n0 : Nat) (O : Old Z n0 h0) (F_a1_value : Fld Z h0 a1 "java/util/Optional" "value" "Ljava/lang/Object;" (.ref r)) :
    MetFree l (⟨"java/util/Optional", "isPresent", "()Z"⟩ : MethodName) (head1 (Jvm.Cond.code (⟨"java/util/Optional", "isPresent", "()Z"⟩ : MethodName) jdk_32_method_6_code 1 (some .boolean) :: ws) ({ frames := 0, cells := 0, slots := 0, locals := 0 } : Room)) (fun aa U => aa = #[.ref a1] ∧ Z.Warmed39 U.vm ∧ U.heap = h0) (fun _ _ _ _ _ => True) (fun _ U o U' => Own.End U (Q_ispr Z a1 r h0 n0) 0 0 o U') := by
  refine MetFree.of_bodySF (plainFor_of_name pn_4) hisR ?_
  intro p e s m args below meth c s₁ Bd hml0 hP hK
  obtain ⟨rfl, hZ, hh⟩ := hP
  have hx := Bd.exec
  have hby := Bd.bytes
  have hml : c.maxLocals = 1 := hml0
  have hown : s.vm.findClass "java/util/Optional" = some m.cls := findClass_of_methodNamed Bd.named
  have hnm := (name_of_methodNamed Bd.named Bd.method).1
  have hret := Bd.returns
  have hlocks : meth.locks = false := Bd.notSynchronized
  have X0 : Stand p l e ({ frames := 0, cells := 0, slots := 0, locals := 0 } : Room) s m #[.ref a1] below meth c s₁ [] 0 0 := Stand.of_body Bd
  have e0 : s₁.heap = h0 := by rw [← hh, Bd.state]; rfl
  have N0 := Fr.nil n0
  show Own.Go p e below (Own.End s (Q_ispr Z a1 r h0 n0) 0 0) (s₁.setTop (entryFrame m #[.ref a1] 1))
  refine Own.Go.eq (ef_ispr m a1) ?_
  refine Own.g_aloadN X0 hx (hb hby d14_0) rfl rfl 1 rfl ?_
  refine Own.g_getF X0 hx hZ hown (host := "") (Or.inl (hw _ (List.mem_of_getElem? (i := 79) rfl))) Via.refl e0 F_a1_value (hb hby d14_1) 4 rfl ?_
  intro T1 X1 e1
  refine Own.g_ifnull_f X1 hx (hb hby d14_4) 7 rfl ?_
  refine Own.g_iconst X1 hx (1 : Int32) (hb hby d14_7) rfl 8 rfl ?_
  refine Own.g_goto X1 hx (hb hby d14_8) 12 (by decide) ?_
  refine Own.g_ret X1 hx hret hlocks rfl (Or.inl ⟨rfl, by simp, _, rfl⟩) (hb hby d14_12) (by decide) (by decide) e1 ?_
  exact ⟨rfl, N0, rfl⟩
theorem ef_getr (m : MethodId) (x0 : Addr) : entryFrame m #[.ref x0] 1 = mkF m 0 #[.val (.ref x0)] [] := by first | (simp [entryFrame, mkF, argsToLocals, Value.category]; done) | rfl
def Q_getr (Z : State) (a1 : Addr) (r : Addr) (h0 : Heap) (n0 : Nat) (v : Option Value) (h : Heap) (L : List Loc) : Prop := v = some (.ref r) ∧ Fr n0 L ∧ h = h0
set_option maxRecDepth 65536 in
set_option maxHeartbeats 40000000 in
theorem rm_getr (l : Launch) (Z : State) (a0 : Array Value) (hw : ∀ d ∈ tables_1, d.before a0 Z = true) (ws : List Jvm.Cond) (a1 : Addr) (r : Addr) (h0 : Heap) (n0 : Nat) (O : Old Z n0 h0) (F_a1_value : Fld Z h0 a1 "java/util/Optional" "value" "Ljava/lang/Object;" (.ref r)) :
    MetFree l (⟨"java/util/Optional", "get", "()Ljava/lang/Object;"⟩ : MethodName) (head1 (Jvm.Cond.code (⟨"java/util/Optional", "get", "()Ljava/lang/Object;"⟩ : MethodName) jdk_32_method_5_code 1 (some (.object "java/lang/Object")) :: ws) ({ frames := 0, cells := 0, slots := 0, locals := 0 } : Room)) (fun aa U => aa = #[.ref a1] ∧ Z.Warmed39 U.vm ∧ U.heap = h0) (fun _ _ _ _ _ => True) (fun _ U o U' => Own.End U (Q_getr Z a1 r h0 n0) 0 0 o U') := by
  refine MetFree.of_bodySF (plainFor_of_name pn_4) hisR ?_
  intro p e s m args below meth c s₁ Bd hml0 hP hK
  obtain ⟨rfl, hZ, hh⟩ := hP
  have hx := Bd.exec
  have hby := Bd.bytes
  have hml : c.maxLocals = 1 := hml0
  have hown : s.vm.findClass "java/util/Optional" = some m.cls := findClass_of_methodNamed Bd.named
  have hnm := (name_of_methodNamed Bd.named Bd.method).1
  have hret := Bd.returns
  have hlocks : meth.locks = false := Bd.notSynchronized
  have X0 : Stand p l e ({ frames := 0, cells := 0, slots := 0, locals := 0 } : Room) s m #[.ref a1] below meth c s₁ [] 0 0 := Stand.of_body Bd
  have e0 : s₁.heap = h0 := by rw [← hh, Bd.state]; rfl
  have N0 := Fr.nil n0
  show Own.Go p e below (Own.End s (Q_getr Z a1 r h0 n0) 0 0) (s₁.setTop (entryFrame m #[.ref a1] 1))
  refine Own.Go.eq (ef_getr m a1) ?_
  refine Own.g_aloadN X0 hx (hb hby d15_0) rfl rfl 1 rfl ?_
  refine Own.g_getF X0 hx hZ hown (host := "") (Or.inl (hw _ (List.mem_of_getElem? (i := 79) rfl))) Via.refl e0 F_a1_value (hb hby d15_1) 4 rfl ?_
  intro T1 X1 e1
  refine Own.g_ifnonnull_t X1 hx (hb hby d15_4) 17 (by decide) ?_
  refine Own.g_aloadN X1 hx (hb hby d15_17) rfl rfl 18 rfl ?_
  refine Own.g_getF X1 hx hZ hown (host := "") (Or.inl (hw _ (List.mem_of_getElem? (i := 79) rfl))) Via.refl e1 F_a1_value (hb hby d15_18) 21 rfl ?_
  intro T2 X2 e2
  refine Own.g_ret X2 hx hret hlocks rfl (Or.inr (Or.inr (Or.inr (Or.inr ⟨rfl, rfl, rfl⟩)))) (hb hby d15_21) (by decide) (by decide) e2 ?_
  exact ⟨rfl, N0, rfl⟩
theorem ef_named (m : MethodId) (x0 : Addr) : entryFrame m #[.ref x0] 5 = mkF m 0 #[.val (.ref x0), .unset, .unset, .unset, .unset] [] := by first | (simp [entryFrame, mkF, argsToLocals, Value.category]; done) | rfl
def Q_named (Z : State) (b : Addr) (bt : Addr) (kb : ClassId) (cs : List Int32) (G1 : Int32) (u : Nat → Addr) (nm : Nat → Addr) (t : Nat → Addr) (kk : Nat → ClassId) (va : Addr) (kv : ClassId) (oe : Addr) (h0 : Heap) (n0 : Nat) (v : Option Value) (h : Heap) (L : List Loc) : Prop := ∃ (o : Addr) (gv : Value), v = some (.ref o) ∧ gv = namV u cs ∧ Fr n0 L ∧ Keep h0 h [] ∧ Exa Z h o "java/util/Optional" ∧ Fld Z h o "java/util/Optional" "value" "Ljava/lang/Object;" gv
set_option maxRecDepth 65536 in
set_option maxHeartbeats 40000000 in
theorem rm_named (l : Launch) (Z : State) (a0 : Array Value) (hw : ∀ d ∈ tables_1, d.before a0 Z = true) (ws : List Jvm.Cond) (b : Addr) (bt : Addr) (kb : ClassId) (cs : List Int32) (G1 : Int32) (u : Nat → Addr) (nm : Nat → Addr) (t : Nat → Addr) (kk : Nat → ClassId) (va : Addr) (kv : ClassId) (oe : Addr) (h0 : Heap) (n0 : Nat) (O : Old Z n0 h0) (O2 : Sta Z Z.heap "java/lang/String" "COMPACT_STRINGS" "Z" (.int G1)) (P5 : ¬ (G1 = (0 : Int32))) (SV : Sta Z Z.heap "com/example/bowerbird/bowerbird/model/Datestamp$Granularity" "$VALUES" "[Lcom/example/bowerbird/bowerbird/model/Datestamp$Granularity;" (.ref va)) (AV : Arv Z Z.heap va kv (.object "com/example/bowerbird/bowerbird/model/Datestamp$Granularity") 2 [(.ref (u 0)), (.ref (u 1))] .null) (EV : Exa Z Z.heap va "[Lcom/example/bowerbird/bowerbird/model/Datestamp$Granularity;") (SE : Sta Z Z.heap "java/util/Optional" "EMPTY" "Ljava/util/Optional;" (.ref oe)) (EE : Exa Z Z.heap oe "java/util/Optional") (FE : Fld Z Z.heap oe "java/util/Optional" "value" "Ljava/lang/Object;" .null) (H : ∀ i, i < 2 → UnitOk Z (u i) (nm i) (t i) (kk i) (nmOf i)) (lat : ∀ c ∈ cs, Own.Lat c) (l4 : cs.length ≤ 4000) (E_b : Exa Z h0 b "java/lang/String") (F_b_value : Fld Z h0 b "java/lang/String" "value" "[B" (.ref bt)) (F_b_coder : Fld Z h0 b "java/lang/String" "coder" "B" (.int 0)) (V_bt : Arv Z h0 bt kb .byte (Int32.ofNat (cs).length) (((cs).map fun c => c.toInt8.toInt32).map Value.int) (.int 0)) :
    MetFree l (⟨"com/example/bowerbird/bowerbird/model/Datestamp$Granularity", "named", "(Ljava/lang/String;)Ljava/util/Optional;"⟩ : MethodName) (head1 (Jvm.Cond.code (⟨"com/example/bowerbird/bowerbird/model/Datestamp$Granularity", "named", "(Ljava/lang/String;)Ljava/util/Optional;"⟩ : MethodName) prog_8_method_5_code 5 (some (.object "java/util/Optional")) :: ws) ({ frames := 3, cells := 2, slots := 3, locals := 80 } : Room)) (fun aa U => aa = #[.ref b] ∧ Z.Warmed39 U.vm ∧ U.heap = h0) (fun _ _ _ _ _ => True) (fun _ U o U' => Own.End U (Q_named Z b bt kb cs G1 u nm t kk va kv oe h0 n0) 2 3 o U') := by
  refine MetFree.of_bodySF (plainFor_of_name pn_2) hisR ?_
  intro p e s m args below meth c s₁ Bd hml0 hP hK
  obtain ⟨rfl, hZ, hh⟩ := hP
  have hx := Bd.exec
  have hby := Bd.bytes
  have hml : c.maxLocals = 5 := hml0
  have hown : s.vm.findClass "com/example/bowerbird/bowerbird/model/Datestamp$Granularity" = some m.cls := findClass_of_methodNamed Bd.named
  have hnm := (name_of_methodNamed Bd.named Bd.method).1
  have hret := Bd.returns
  have hlocks : meth.locks = false := Bd.notSynchronized
  have X0 : Stand p l e ({ frames := 3, cells := 2, slots := 3, locals := 80 } : Room) s m #[.ref b] below meth c s₁ [] 0 0 := Stand.of_body Bd
  have e0 : s₁.heap = h0 := by rw [← hh, Bd.state]; rfl
  have N0 := Fr.nil n0
  show Own.Go p e below (Own.End s (Q_named Z b bt kb cs G1 u nm t kk va kv oe h0 n0) 2 3) (s₁.setTop (entryFrame m #[.ref b] 5))
  refine Own.Go.eq (ef_named m b) ?_
  have KP : Keep h0 h0 [] := Keep.refl _ _
  have heq : ∀ d ∈ StrChars.Road.wordsEq, d.before a0 Z = true := fun d hd => hw d ((by decide +kernel : ∀ d ∈ StrChars.Road.wordsEq, d ∈ tables_1) d hd)
  refine Own.g_callS X0 hx (y := (⟨"com/example/bowerbird/bowerbird/model/Datestamp$Granularity", "values", "()[Lcom/example/bowerbird/bowerbird/model/Datestamp$Granularity;"⟩ : MethodName)) hown (mvT hZ (hw _ (List.mem_of_getElem? (i := 35) rfl))) (mvT hZ (hw _ (List.mem_of_getElem? (i := 36) rfl))) (mvT hZ (hw _ (List.mem_of_getElem? (i := 33) rfl))) (mvT hZ (hw _ (List.mem_of_getElem? (i := 37) rfl))) (by decide) [] (Own.back (W := 0) (rm_values l Z a0 hw [] u nm t kk va kv oe h0 n0 O SV AV EV) hZ (hw _ (List.mem_of_getElem? (i := 37) rfl)) (hw _ (List.mem_of_getElem? (i := 33) rfl)) (by decide) (by decide)) e0 (by rw [hml]; rfl) [] (lenOf pd_6 rfl) rfl (Nat.le_of_ble_eq_true rfl) (hb hby d7_0) (by decide) (by decide) 3 rfl ?_
  rintro _ T1 L1 X1 ⟨va2, ka2, rfl, N1q, K1, sz1, V_va2⟩
  have N1 := Fr.app N0 N1q
  replace E_b := E_b.keep K1
  replace F_b_value := F_b_value.keep K1 nin0
  replace F_b_coder := F_b_coder.keep K1 nin0
  replace V_bt := V_bt.keep K1 nin0
  replace O := O.keep K1 all0
  replace KP := KP.trans K1 all0
  show Own.Go p e below _ (T1.setTop (mkF m 3 #[.val (.ref b), .unset, .unset, .unset, .unset] [(.ref va2)]))
  refine Own.g_astoreN X1 hx #[.val (.ref b), .val (.ref va2), .unset, .unset, .unset] (hb hby d7_3) rfl rfl 4 rfl ?_
  refine Own.g_aloadN X1 hx (hb hby d7_4) rfl rfl 5 rfl ?_
  refine Own.g_alen X1 hx hZ (rfl : T1.heap = T1.heap) V_va2 (hb hby d7_5) 6 rfl ?_
  refine Own.g_istoreN X1 hx #[.val (.ref b), .val (.ref va2), .val (.int (2 : Int32)), .unset, .unset] (hb hby d7_6) rfl 7 rfl ?_
  refine Own.g_iconst X1 hx (0 : Int32) (hb hby d7_7) rfl 8 rfl ?_
  refine Own.g_istoreN X1 hx #[.val (.ref b), .val (.ref va2), .val (.int (2 : Int32)), .val (.int (0 : Int32)), .unset] (hb hby d7_8) rfl 9 rfl ?_
  refine Own.g_iloadN X1 hx (hb hby d7_9) rfl 10 rfl ?_
  refine Own.g_iloadN X1 hx (hb hby d7_10) rfl 11 rfl ?_
  refine Own.g_icmp_ge_f X1 hx (hb hby d7_11) (by decide) 14 rfl ?_
  refine Own.g_aloadN X1 hx (hb hby d7_14) rfl rfl 15 rfl ?_
  refine Own.g_iloadN X1 hx (hb hby d7_15) rfl 16 rfl ?_
  refine Own.g_ldR X1 hx hZ (rfl : T1.heap = T1.heap) V_va2 (by decide) (.ref (u 0)) rfl (hb hby d7_16) 17 rfl ?_
  refine Own.g_astore X1 hx #[.val (.ref b), .val (.ref va2), .val (.int (2 : Int32)), .val (.int (0 : Int32)), .val (.ref (u 0))] (hb hby d7_17) rfl rfl 19 rfl ?_
  refine Own.g_aload X1 hx (hb hby d7_19) rfl rfl 21 rfl ?_
  refine Own.g_getF X1 hx hZ hown (host := "") (Or.inl (hw _ (List.mem_of_getElem? (i := 52) rfl))) Via.refl (rfl : T1.heap = T1.heap) ((H 0 (by decide)).2.1.ext O.2) (hb hby d7_21) 24 rfl ?_
  intro T2 X2 e2
  refine Own.g_aloadN X2 hx (hb hby d7_24) rfl rfl 25 rfl ?_
  refine Own.g_virtual X2 hx hZ (y := (⟨"java/lang/String", "equals", "(Ljava/lang/Object;)Z"⟩ : MethodName)) (z := (⟨"java/lang/String", "equals", "(Ljava/lang/Object;)Z"⟩ : MethodName)) hown (mvT hZ (hw _ (List.mem_of_getElem? (i := 54) rfl))) (mvT hZ (hw _ (List.mem_of_getElem? (i := 55) rfl))) (notFace_of_selects (args := #[]) (mvT hZ (hw _ (List.mem_of_getElem? (i := 57) rfl)))) (mvT hZ (hw _ (List.mem_of_getElem? (i := 57) rfl))) (mvT hZ (hw _ (List.mem_of_getElem? (i := 56) rfl))) (by decide) (a := (nm 0)) [.ref b] (Q := (Own.QEq T1.heap (nmOf 0) cs)) (StrChars.Road.eqW (W := 0) hZ heq (kI := 4) (hw _ (List.mem_of_getElem? (i := 3) rfl)) ((H 0 (by decide)).2.2.1.ext O.2) ((H 0 (by decide)).2.2.2.1.ext O.2) ((H 0 (by decide)).2.2.2.2.1.ext O.2) ((H 0 (by decide)).2.2.2.2.2.ext O.2) (StrChars.Road.codOf rfl (fun c hc => ((lat_nm 0 (by decide)).1 c hc).2)) (Own.lat_up (lat_nm 0 (by decide)).1) (lat_nm 0 (by decide)).2 E_b F_b_value F_b_coder V_bt (StrChars.Road.codOf rfl (fun c hc => (lat c hc).2)) (Own.lat_up lat) l4 (O2.ext O.2) P5 (by decide) (by decide)) ((H 0 (by decide)).2.2.1.ext O.2) e2 (by rw [hml]; rfl) [] (lenOf pd_7 rfl) rfl (Nat.le_of_ble_eq_true rfl) (hb hby d7_25) (by decide) (by decide) 28 rfl ?_
  rintro v0 T3 L3 X3 ⟨hv, rfl, eH3⟩
  have N3 := Fr.app N1 (Fr.nil n0)
  rcases hv with ⟨rfl, q0⟩ | ⟨rfl, q0⟩
  · show Own.Go p e below _ (T3.setTop (mkF m 28 #[.val (.ref b), .val (.ref va2), .val (.int (2 : Int32)), .val (.int (0 : Int32)), .val (.ref (u 0))] [(.int (1 : Int32))]))
    refine Own.g_if_eq_f X3 hx (hb hby d7_28) (by decide) 31 rfl ?_
    refine Own.g_aload X3 hx (hb hby d7_31) rfl rfl 33 rfl ?_
    refine Own.g_callS X3 hx (y := (⟨"java/util/Optional", "of", "(Ljava/lang/Object;)Ljava/util/Optional;"⟩ : MethodName)) hown (mvT hZ (hw _ (List.mem_of_getElem? (i := 64) rfl))) (mvT hZ (hw _ (List.mem_of_getElem? (i := 65) rfl))) (mvT hZ (hw _ (List.mem_of_getElem? (i := 66) rfl))) (mvT hZ (hw _ (List.mem_of_getElem? (i := 67) rfl))) (by decide) [.ref (u 0)] (Own.back (W := 0) (rm_of l Z a0 hw [] (u 0) T1.heap n0 O ) hZ (hw _ (List.mem_of_getElem? (i := 67) rfl)) (hw _ (List.mem_of_getElem? (i := 66) rfl)) (by decide) (by decide)) eH3 (by rw [hml]; rfl) [] (lenOf pd_8 rfl) rfl (Nat.le_of_ble_eq_true rfl) (hb hby d7_33) (by decide) (by decide) 36 rfl ?_
    rintro _ T4 L4 X4 ⟨oo, rfl, N4q, K4, GE, GV⟩
    have N4 := Fr.app N3 N4q
    replace O := O.keep K4 all0
    replace KP := KP.trans K4 all0
    show Own.Go p e below _ (T4.setTop (mkF m 36 #[.val (.ref b), .val (.ref va2), .val (.int (2 : Int32)), .val (.int (0 : Int32)), .val (.ref (u 0))] [(.ref oo)]))
    refine Own.g_ret X4 hx hret hlocks rfl (Or.inr (Or.inr (Or.inr (Or.inr ⟨rfl, rfl, rfl⟩)))) (hb hby d7_36) (by decide) (by decide) (rfl : T4.heap = T4.heap) ?_
    exact ⟨oo, _, rfl, (nam0 u q0).symm, N4, KP, GE, GV⟩
  · show Own.Go p e below _ (T3.setTop (mkF m 28 #[.val (.ref b), .val (.ref va2), .val (.int (2 : Int32)), .val (.int (0 : Int32)), .val (.ref (u 0))] [(.int (0 : Int32))]))
    refine Own.g_if_eq_t X3 hx (hb hby d7_28) rfl 37 (by decide) ?_
    refine Own.g_iinc X3 hx #[.val (.ref b), .val (.ref va2), .val (.int (2 : Int32)), .val (.int (1 : Int32)), .val (.ref (u 0))] (hb hby d7_37) rfl rfl 40 rfl ?_
    refine Own.g_goto X3 hx (hb hby d7_40) 9 (by decide) ?_
    refine Own.g_iloadN X3 hx (hb hby d7_9) rfl 10 rfl ?_
    refine Own.g_iloadN X3 hx (hb hby d7_10) rfl 11 rfl ?_
    refine Own.g_icmp_ge_f X3 hx (hb hby d7_11) (by decide) 14 rfl ?_
    refine Own.g_aloadN X3 hx (hb hby d7_14) rfl rfl 15 rfl ?_
    refine Own.g_iloadN X3 hx (hb hby d7_15) rfl 16 rfl ?_
    refine Own.g_ldR X3 hx hZ eH3 V_va2 (by decide) (.ref (u 1)) rfl (hb hby d7_16) 17 rfl ?_
    refine Own.g_astore X3 hx #[.val (.ref b), .val (.ref va2), .val (.int (2 : Int32)), .val (.int (1 : Int32)), .val (.ref (u 1))] (hb hby d7_17) rfl rfl 19 rfl ?_
    refine Own.g_aload X3 hx (hb hby d7_19) rfl rfl 21 rfl ?_
    refine Own.g_getF X3 hx hZ hown (host := "") (Or.inl (hw _ (List.mem_of_getElem? (i := 52) rfl))) Via.refl eH3 ((H 1 (by decide)).2.1.ext O.2) (hb hby d7_21) 24 rfl ?_
    intro T5 X5 e5
    refine Own.g_aloadN X5 hx (hb hby d7_24) rfl rfl 25 rfl ?_
    refine Own.g_virtual X5 hx hZ (y := (⟨"java/lang/String", "equals", "(Ljava/lang/Object;)Z"⟩ : MethodName)) (z := (⟨"java/lang/String", "equals", "(Ljava/lang/Object;)Z"⟩ : MethodName)) hown (mvT hZ (hw _ (List.mem_of_getElem? (i := 54) rfl))) (mvT hZ (hw _ (List.mem_of_getElem? (i := 55) rfl))) (notFace_of_selects (args := #[]) (mvT hZ (hw _ (List.mem_of_getElem? (i := 57) rfl)))) (mvT hZ (hw _ (List.mem_of_getElem? (i := 57) rfl))) (mvT hZ (hw _ (List.mem_of_getElem? (i := 56) rfl))) (by decide) (a := (nm 1)) [.ref b] (Q := (Own.QEq T1.heap (nmOf 1) cs)) (StrChars.Road.eqW (W := 0) hZ heq (kI := 4) (hw _ (List.mem_of_getElem? (i := 3) rfl)) ((H 1 (by decide)).2.2.1.ext O.2) ((H 1 (by decide)).2.2.2.1.ext O.2) ((H 1 (by decide)).2.2.2.2.1.ext O.2) ((H 1 (by decide)).2.2.2.2.2.ext O.2) (StrChars.Road.codOf rfl (fun c hc => ((lat_nm 1 (by decide)).1 c hc).2)) (Own.lat_up (lat_nm 1 (by decide)).1) (lat_nm 1 (by decide)).2 E_b F_b_value F_b_coder V_bt (StrChars.Road.codOf rfl (fun c hc => (lat c hc).2)) (Own.lat_up lat) l4 (O2.ext O.2) P5 (by decide) (by decide)) ((H 1 (by decide)).2.2.1.ext O.2) e5 (by rw [hml]; rfl) [] (lenOf pd_7 rfl) rfl (Nat.le_of_ble_eq_true rfl) (hb hby d7_25) (by decide) (by decide) 28 rfl ?_
    rintro v1 T6 L6 X6 ⟨hv, rfl, eH6⟩
    have N6 := Fr.app N3 (Fr.nil n0)
    rcases hv with ⟨rfl, q1⟩ | ⟨rfl, q1⟩
    · show Own.Go p e below _ (T6.setTop (mkF m 28 #[.val (.ref b), .val (.ref va2), .val (.int (2 : Int32)), .val (.int (1 : Int32)), .val (.ref (u 1))] [(.int (1 : Int32))]))
      refine Own.g_if_eq_f X6 hx (hb hby d7_28) (by decide) 31 rfl ?_
      refine Own.g_aload X6 hx (hb hby d7_31) rfl rfl 33 rfl ?_
      refine Own.g_callS X6 hx (y := (⟨"java/util/Optional", "of", "(Ljava/lang/Object;)Ljava/util/Optional;"⟩ : MethodName)) hown (mvT hZ (hw _ (List.mem_of_getElem? (i := 64) rfl))) (mvT hZ (hw _ (List.mem_of_getElem? (i := 65) rfl))) (mvT hZ (hw _ (List.mem_of_getElem? (i := 66) rfl))) (mvT hZ (hw _ (List.mem_of_getElem? (i := 67) rfl))) (by decide) [.ref (u 1)] (Own.back (W := 0) (rm_of l Z a0 hw [] (u 1) T1.heap n0 O ) hZ (hw _ (List.mem_of_getElem? (i := 67) rfl)) (hw _ (List.mem_of_getElem? (i := 66) rfl)) (by decide) (by decide)) eH6 (by rw [hml]; rfl) [] (lenOf pd_8 rfl) rfl (Nat.le_of_ble_eq_true rfl) (hb hby d7_33) (by decide) (by decide) 36 rfl ?_
      rintro _ T7 L7 X7 ⟨oo, rfl, N7q, K7, GE, GV⟩
      have N7 := Fr.app N6 N7q
      replace O := O.keep K7 all0
      replace KP := KP.trans K7 all0
      show Own.Go p e below _ (T7.setTop (mkF m 36 #[.val (.ref b), .val (.ref va2), .val (.int (2 : Int32)), .val (.int (1 : Int32)), .val (.ref (u 1))] [(.ref oo)]))
      refine Own.g_ret X7 hx hret hlocks rfl (Or.inr (Or.inr (Or.inr (Or.inr ⟨rfl, rfl, rfl⟩)))) (hb hby d7_36) (by decide) (by decide) (rfl : T7.heap = T7.heap) ?_
      exact ⟨oo, _, rfl, (nam1 u q1).symm, N7, KP, GE, GV⟩
    · show Own.Go p e below _ (T6.setTop (mkF m 28 #[.val (.ref b), .val (.ref va2), .val (.int (2 : Int32)), .val (.int (1 : Int32)), .val (.ref (u 1))] [(.int (0 : Int32))]))
      refine Own.g_if_eq_t X6 hx (hb hby d7_28) rfl 37 (by decide) ?_
      refine Own.g_iinc X6 hx #[.val (.ref b), .val (.ref va2), .val (.int (2 : Int32)), .val (.int (2 : Int32)), .val (.ref (u 1))] (hb hby d7_37) rfl rfl 40 rfl ?_
      refine Own.g_goto X6 hx (hb hby d7_40) 9 (by decide) ?_
      refine Own.g_iloadN X6 hx (hb hby d7_9) rfl 10 rfl ?_
      refine Own.g_iloadN X6 hx (hb hby d7_10) rfl 11 rfl ?_
      refine Own.g_icmp_ge_t X6 hx (hb hby d7_11) (by decide) 43 (by decide) ?_
      refine Own.g_callS X6 hx (y := (⟨"java/util/Optional", "empty", "()Ljava/util/Optional;"⟩ : MethodName)) hown (mvT hZ (hw _ (List.mem_of_getElem? (i := 105) rfl))) (mvT hZ (hw _ (List.mem_of_getElem? (i := 106) rfl))) (mvT hZ (hw _ (List.mem_of_getElem? (i := 66) rfl))) (mvT hZ (hw _ (List.mem_of_getElem? (i := 107) rfl))) (by decide) [] (Own.back (W := 0) (rm_emp l Z a0 hw [] oe T1.heap n0 O SE) hZ (hw _ (List.mem_of_getElem? (i := 107) rfl)) (hw _ (List.mem_of_getElem? (i := 66) rfl)) (by decide) (by decide)) eH6 (by rw [hml]; rfl) [] (lenOf pd_9 rfl) rfl (Nat.le_of_ble_eq_true rfl) (hb hby d7_43) (by decide) (by decide) 46 rfl ?_
      rintro _ T8 L8 X8 ⟨rfl, N8q, eH8⟩
      have N8 := Fr.app N6 N8q
      show Own.Go p e below _ (T8.setTop (mkF m 46 #[.val (.ref b), .val (.ref va2), .val (.int (2 : Int32)), .val (.int (2 : Int32)), .val (.ref (u 1))] [(.ref oe)]))
      refine Own.g_ret X8 hx hret hlocks rfl (Or.inr (Or.inr (Or.inr (Or.inr ⟨rfl, rfl, rfl⟩)))) (hb hby d7_46) (by decide) (by decide) eH8 ?_
      exact ⟨oe, _, rfl, (namN u q0 q1).symm, N8, KP, EE.ext O.2, FE.ext O.2⟩
set_option maxRecDepth 65536 in
set_option maxHeartbeats 40000000 in
theorem st_838a {p : Program} {l : Launch} {e : Env} {s : State} {m : MethodId} {args : Array Value} {below : List Frame} {meth : Method} {c : Code} {T0 : State} {locs : List Loc} {Z : State} {a0 : Array Value} {hh : Heap} {n0 : Nat} {Q : Option Value → Heap → List Loc → Prop} (hQ : ∀ h L, Fr n0 L → Q (some (.int 1)) h L) {vm : Vm} {k0 : Nat} (hx : p.tables.exec = Jvm.exec) (hZ : Z.Warmed39 (s.setVm vm).vm) (hw : ∀ d ∈ tables_1, d.before a0 Z = true) (hby : c.code = code) (hml : c.maxLocals = 17) (hown : (s.setVm vm).vm.findClass "com/example/bowerbird/bowerbird/model/GranularityNamedPinLaw" = some m.cls) (hret : meth.sig.returnType = (some .boolean)) (hlocks : meth.locks = false) (hEL : EW Z a0 EL) (hS : s.Since vm k0) (hk : k0 ≤ hh.size) (CR : CHr Z EL s.vm s.heap vm hh)
    (p1 p2 p3 mm kp ch pp ex G1 : Int32) (cs : List Int32) (u : Nat → Addr) (nm : Nat → Addr) (t : Nat → Addr) (kk : Nat → ClassId) (va : Addr) (kv : ClassId) (oe : Addr) (d1 d2 d3 d4 d5 d6 b bt : Addr) (kbt : ClassId) (X0 : Stand p l e room_1 (s.setVm vm) m args below meth c T0 locs 12 130) (e0 : T0.heap = hh) (N0 : Fr n0 locs) (O : Old Z n0 hh) (E_b : Exa Z hh b "java/lang/String") (F_b_value : Fld Z hh b "java/lang/String" "value" "[B" (.ref bt)) (F_b_coder : Fld Z hh b "java/lang/String" "coder" "B" (.int 0)) (V_bt : Arv Z hh bt kbt .byte (Int32.ofNat (cs).length) (((cs).map fun c => c.toInt8.toInt32).map Value.int) (.int 0))   (O2 : Sta Z Z.heap "java/lang/String" "COMPACT_STRINGS" "Z" (.int G1)) (P5 : ¬ (G1 = (0 : Int32))) (SV : Sta Z Z.heap "com/example/bowerbird/bowerbird/model/Datestamp$Granularity" "$VALUES" "[Lcom/example/bowerbird/bowerbird/model/Datestamp$Granularity;" (.ref va)) (AV : Arv Z Z.heap va kv (.object "com/example/bowerbird/bowerbird/model/Datestamp$Granularity") 2 [(.ref (u 0)), (.ref (u 1))] .null) (EV : Exa Z Z.heap va "[Lcom/example/bowerbird/bowerbird/model/Datestamp$Granularity;") (SE : Sta Z Z.heap "java/util/Optional" "EMPTY" "Ljava/util/Optional;" (.ref oe)) (EE : Exa Z Z.heap oe "java/util/Optional") (FE : Fld Z Z.heap oe "java/util/Optional" "value" "Ljava/lang/Object;" .null) (H : ∀ i, i < 2 → UnitOk Z (u i) (nm i) (t i) (kk i) (nmOf i)) (S0 : Sta Z Z.heap "com/example/bowerbird/bowerbird/model/Datestamp$Granularity" "DAY" "Lcom/example/bowerbird/bowerbird/model/Datestamp$Granularity;" (.ref (u 0))) (S1 : Sta Z Z.heap "com/example/bowerbird/bowerbird/model/Datestamp$Granularity" "SECOND" "Lcom/example/bowerbird/bowerbird/model/Datestamp$Granularity;" (.ref (u 1))) (lat : ∀ c ∈ cs, Own.Lat c) (l4 : cs.length ≤ 4000) (hex : Exp ex cs) :
    Own.Go p e below (Own.EndW Z EL s Q 32 1344) (T0.setTop (mkF m 838 #[.val (.int p1), .val (.int p2), .val (.int p3), .val (.int mm), .val (.int kp), .val (.int ch), .val (.int pp), .val (.ref d1), .val (.ref d2), .val (.ref d3), .val (.ref d4), .val (.ref d5), .val (.ref d6), .val (.ref b), .val (.int ex), .unset, .unset] [])) := by
  rcases hex with ⟨rfl, qa, qb⟩ | ⟨rfl, qa⟩ | ⟨rfl, qa⟩
  · refine Own.g_aload X0 hx (hb hby at_838) rfl rfl 840 rfl ?_
    refine Own.g_callS X0 hx (y := (⟨"com/example/bowerbird/bowerbird/model/Datestamp$Granularity", "named", "(Ljava/lang/String;)Ljava/util/Optional;"⟩ : MethodName)) hown (mvT hZ (hw _ (List.mem_of_getElem? (i := 31) rfl))) (mvT hZ (hw _ (List.mem_of_getElem? (i := 32) rfl))) (mvT hZ (hw _ (List.mem_of_getElem? (i := 33) rfl))) (mvT hZ (hw _ (List.mem_of_getElem? (i := 34) rfl))) (by decide) [.ref b] (Own.back (W := 0) (rm_named l Z a0 hw [] b bt kbt cs G1 u nm t kk va kv oe hh n0 O O2 P5 SV AV EV SE EE FE H lat l4 E_b F_b_value F_b_coder V_bt) hZ (hw _ (List.mem_of_getElem? (i := 34) rfl)) (hw _ (List.mem_of_getElem? (i := 33) rfl)) (by decide) (by decide)) e0 (by rw [hml]; rfl) [] (lenOf pd_10 rfl) rfl (Nat.le_of_ble_eq_true rfl) (hb hby at_840) (by decide) (by decide) 843 rfl ?_
    rintro _ T1 L1 X1 ⟨oo, gv, rfl, hgv, N1q, K1, GE, GV⟩
    have N1 := Fr.app N0 N1q
    have CR' := CR.trans (CHr.keep K1 all0 CR.1)
    replace CR := CR'
    replace hk := Nat.le_trans hk K1.1
    replace O := O.keep K1 all0
    obtain rfl : gv = .null := hgv.trans (namN u qa qb)
    show Own.Go p e below _ (T1.setTop (mkF m 843 #[.val (.int p1), .val (.int p2), .val (.int p3), .val (.int mm), .val (.int kp), .val (.int ch), .val (.int pp), .val (.ref d1), .val (.ref d2), .val (.ref d3), .val (.ref d4), .val (.ref d5), .val (.ref d6), .val (.ref b), .val (.int (0 : Int32)), .unset, .unset] [(.ref oo)]))
    refine Own.g_astore X1 hx #[.val (.int p1), .val (.int p2), .val (.int p3), .val (.int mm), .val (.int kp), .val (.int ch), .val (.int pp), .val (.ref d1), .val (.ref d2), .val (.ref d3), .val (.ref d4), .val (.ref d5), .val (.ref d6), .val (.ref b), .val (.int (0 : Int32)), .val (.ref oo), .unset] (hb hby at_843) rfl rfl 845 rfl ?_
    refine Own.g_iload X1 hx (hb hby at_845) rfl 847 rfl ?_
    refine Own.g_if_ne_f X1 hx (hb hby at_847) rfl 850 rfl ?_
    refine Own.g_aload X1 hx (hb hby at_850) rfl rfl 852 rfl ?_
    refine Own.g_virtual X1 hx hZ (y := (⟨"java/util/Optional", "isPresent", "()Z"⟩ : MethodName)) (z := (⟨"java/util/Optional", "isPresent", "()Z"⟩ : MethodName)) hown (mvT hZ (hw _ (List.mem_of_getElem? (i := 81) rfl))) (mvT hZ (hw _ (List.mem_of_getElem? (i := 82) rfl))) (notFace_of_selects (args := #[]) (mvT hZ (hw _ (List.mem_of_getElem? (i := 84) rfl)))) (mvT hZ (hw _ (List.mem_of_getElem? (i := 84) rfl))) (mvT hZ (hw _ (List.mem_of_getElem? (i := 83) rfl))) (by decide) (a := oo) [] (Own.back (W := 0) (rm_ispn l Z a0 hw [] oo T1.heap n0 O GV) hZ (hw _ (List.mem_of_getElem? (i := 85) rfl)) (hw _ (List.mem_of_getElem? (i := 66) rfl)) (by decide) (by decide)) GE (rfl : T1.heap = T1.heap) (by rw [hml]; rfl) [] (lenOf pd_11 rfl) rfl (Nat.le_of_ble_eq_true rfl) (hb hby at_852) (by decide) (by decide) 855 rfl ?_
    rintro _ T3 L3 X3 ⟨rfl, N3q, eH3⟩
    have N3 := Fr.app N1 N3q
    show Own.Go p e below _ (T3.setTop (mkF m 855 #[.val (.int p1), .val (.int p2), .val (.int p3), .val (.int mm), .val (.int kp), .val (.int ch), .val (.int pp), .val (.ref d1), .val (.ref d2), .val (.ref d3), .val (.ref d4), .val (.ref d5), .val (.ref d6), .val (.ref b), .val (.int (0 : Int32)), .val (.ref oo), .unset] [(.int (0 : Int32))]))
    refine Own.g_if_ne_f X3 hx (hb hby at_855) rfl 858 rfl ?_
    refine Own.g_iconst X3 hx (1 : Int32) (hb hby at_858) rfl 859 rfl ?_
    refine Own.g_goto X3 hx (hb hby at_859) 863 (by decide) ?_
    refine Own.w_ret X3 hx hZ hEL hS hk CR hret hlocks rfl (Or.inl ⟨rfl, by simp, _, rfl⟩) (hb hby at_863) (by decide) (by decide) eH3 ?_
    exact hQ _ _ N3
  · refine Own.g_aload X0 hx (hb hby at_838) rfl rfl 840 rfl ?_
    refine Own.g_callS X0 hx (y := (⟨"com/example/bowerbird/bowerbird/model/Datestamp$Granularity", "named", "(Ljava/lang/String;)Ljava/util/Optional;"⟩ : MethodName)) hown (mvT hZ (hw _ (List.mem_of_getElem? (i := 31) rfl))) (mvT hZ (hw _ (List.mem_of_getElem? (i := 32) rfl))) (mvT hZ (hw _ (List.mem_of_getElem? (i := 33) rfl))) (mvT hZ (hw _ (List.mem_of_getElem? (i := 34) rfl))) (by decide) [.ref b] (Own.back (W := 0) (rm_named l Z a0 hw [] b bt kbt cs G1 u nm t kk va kv oe hh n0 O O2 P5 SV AV EV SE EE FE H lat l4 E_b F_b_value F_b_coder V_bt) hZ (hw _ (List.mem_of_getElem? (i := 34) rfl)) (hw _ (List.mem_of_getElem? (i := 33) rfl)) (by decide) (by decide)) e0 (by rw [hml]; rfl) [] (lenOf pd_10 rfl) rfl (Nat.le_of_ble_eq_true rfl) (hb hby at_840) (by decide) (by decide) 843 rfl ?_
    rintro _ T4 L4 X4 ⟨oo, gv, rfl, hgv, N4q, K4, GE, GV⟩
    have N4 := Fr.app N0 N4q
    have CR' := CR.trans (CHr.keep K4 all0 CR.1)
    replace CR := CR'
    replace hk := Nat.le_trans hk K4.1
    replace O := O.keep K4 all0
    obtain rfl : gv = .ref (u 0) := hgv.trans (nam0 u qa)
    show Own.Go p e below _ (T4.setTop (mkF m 843 #[.val (.int p1), .val (.int p2), .val (.int p3), .val (.int mm), .val (.int kp), .val (.int ch), .val (.int pp), .val (.ref d1), .val (.ref d2), .val (.ref d3), .val (.ref d4), .val (.ref d5), .val (.ref d6), .val (.ref b), .val (.int (1 : Int32)), .unset, .unset] [(.ref oo)]))
    refine Own.g_astore X4 hx #[.val (.int p1), .val (.int p2), .val (.int p3), .val (.int mm), .val (.int kp), .val (.int ch), .val (.int pp), .val (.ref d1), .val (.ref d2), .val (.ref d3), .val (.ref d4), .val (.ref d5), .val (.ref d6), .val (.ref b), .val (.int (1 : Int32)), .val (.ref oo), .unset] (hb hby at_843) rfl rfl 845 rfl ?_
    refine Own.g_iload X4 hx (hb hby at_845) rfl 847 rfl ?_
    refine Own.g_if_ne_t X4 hx (hb hby at_847) (by decide) 864 (by decide) ?_
    refine Own.g_aload X4 hx (hb hby at_864) rfl rfl 866 rfl ?_
    refine Own.g_virtual X4 hx hZ (y := (⟨"java/util/Optional", "isPresent", "()Z"⟩ : MethodName)) (z := (⟨"java/util/Optional", "isPresent", "()Z"⟩ : MethodName)) hown (mvT hZ (hw _ (List.mem_of_getElem? (i := 81) rfl))) (mvT hZ (hw _ (List.mem_of_getElem? (i := 82) rfl))) (notFace_of_selects (args := #[]) (mvT hZ (hw _ (List.mem_of_getElem? (i := 84) rfl)))) (mvT hZ (hw _ (List.mem_of_getElem? (i := 84) rfl))) (mvT hZ (hw _ (List.mem_of_getElem? (i := 83) rfl))) (by decide) (a := oo) [] (Own.back (W := 0) (rm_ispr l Z a0 hw [] oo (u 0) T4.heap n0 O GV) hZ (hw _ (List.mem_of_getElem? (i := 85) rfl)) (hw _ (List.mem_of_getElem? (i := 66) rfl)) (by decide) (by decide)) GE (rfl : T4.heap = T4.heap) (by rw [hml]; rfl) [] (lenOf pd_11 rfl) rfl (Nat.le_of_ble_eq_true rfl) (hb hby at_866) (by decide) (by decide) 869 rfl ?_
    rintro _ T6 L6 X6 ⟨rfl, N6q, eH6⟩
    have N6 := Fr.app N4 N6q
    show Own.Go p e below _ (T6.setTop (mkF m 869 #[.val (.int p1), .val (.int p2), .val (.int p3), .val (.int mm), .val (.int kp), .val (.int ch), .val (.int pp), .val (.ref d1), .val (.ref d2), .val (.ref d3), .val (.ref d4), .val (.ref d5), .val (.ref d6), .val (.ref b), .val (.int (1 : Int32)), .val (.ref oo), .unset] [(.int (1 : Int32))]))
    refine Own.g_if_ne_t X6 hx (hb hby at_869) (by decide) 874 (by decide) ?_
    refine Own.g_iload X6 hx (hb hby at_874) rfl 876 rfl ?_
    refine Own.g_iconst X6 hx (1 : Int32) (hb hby at_876) rfl 877 rfl ?_
    refine Own.g_icmp_ne_f X6 hx (hb hby at_877) rfl 880 rfl ?_
    refine Own.g_aload X6 hx (hb hby at_880) rfl rfl 882 rfl ?_
    refine Own.g_virtual X6 hx hZ (y := (⟨"java/util/Optional", "get", "()Ljava/lang/Object;"⟩ : MethodName)) (z := (⟨"java/util/Optional", "get", "()Ljava/lang/Object;"⟩ : MethodName)) hown (mvT hZ (hw _ (List.mem_of_getElem? (i := 86) rfl))) (mvT hZ (hw _ (List.mem_of_getElem? (i := 87) rfl))) (notFace_of_selects (args := #[]) (mvT hZ (hw _ (List.mem_of_getElem? (i := 89) rfl)))) (mvT hZ (hw _ (List.mem_of_getElem? (i := 89) rfl))) (mvT hZ (hw _ (List.mem_of_getElem? (i := 88) rfl))) (by decide) (a := oo) [] (Own.back (W := 0) (rm_getr l Z a0 hw [] oo (u 0) T4.heap n0 O GV) hZ (hw _ (List.mem_of_getElem? (i := 90) rfl)) (hw _ (List.mem_of_getElem? (i := 66) rfl)) (by decide) (by decide)) GE eH6 (by rw [hml]; rfl) [] (lenOf pd_12 rfl) rfl (Nat.le_of_ble_eq_true rfl) (hb hby at_882) (by decide) (by decide) 885 rfl ?_
    rintro _ T7 L7 X7 ⟨rfl, N7q, eH7⟩
    have N7 := Fr.app N6 N7q
    show Own.Go p e below _ (T7.setTop (mkF m 885 #[.val (.int p1), .val (.int p2), .val (.int p3), .val (.int mm), .val (.int kp), .val (.int ch), .val (.int pp), .val (.ref d1), .val (.ref d2), .val (.ref d3), .val (.ref d4), .val (.ref d5), .val (.ref d6), .val (.ref b), .val (.int (1 : Int32)), .val (.ref oo), .unset] [(.ref (u 0))]))
    refine Own.g_getS X7 hx hZ hown (host := "") (Or.inl (hw _ (List.mem_of_getElem? (i := 91) rfl))) Via.refl eH7 (S0.ext O.2) (hb hby at_885) 888 rfl ?_
    intro T8 X8 e8
    refine Own.g_acmp X8 hx rfl rfl (hb hby at_888) true (decide_eq_true rfl) 891 (by decide) ?_
    refine Own.g_iconst X8 hx (1 : Int32) (hb hby at_891) rfl 892 rfl ?_
    refine Own.g_goto X8 hx (hb hby at_892) 896 (by decide) ?_
    refine Own.w_ret X8 hx hZ hEL hS hk CR hret hlocks rfl (Or.inl ⟨rfl, by simp, _, rfl⟩) (hb hby at_896) (by decide) (by decide) e8 ?_
    exact hQ _ _ N7
  · refine Own.g_aload X0 hx (hb hby at_838) rfl rfl 840 rfl ?_
    refine Own.g_callS X0 hx (y := (⟨"com/example/bowerbird/bowerbird/model/Datestamp$Granularity", "named", "(Ljava/lang/String;)Ljava/util/Optional;"⟩ : MethodName)) hown (mvT hZ (hw _ (List.mem_of_getElem? (i := 31) rfl))) (mvT hZ (hw _ (List.mem_of_getElem? (i := 32) rfl))) (mvT hZ (hw _ (List.mem_of_getElem? (i := 33) rfl))) (mvT hZ (hw _ (List.mem_of_getElem? (i := 34) rfl))) (by decide) [.ref b] (Own.back (W := 0) (rm_named l Z a0 hw [] b bt kbt cs G1 u nm t kk va kv oe hh n0 O O2 P5 SV AV EV SE EE FE H lat l4 E_b F_b_value F_b_coder V_bt) hZ (hw _ (List.mem_of_getElem? (i := 34) rfl)) (hw _ (List.mem_of_getElem? (i := 33) rfl)) (by decide) (by decide)) e0 (by rw [hml]; rfl) [] (lenOf pd_10 rfl) rfl (Nat.le_of_ble_eq_true rfl) (hb hby at_840) (by decide) (by decide) 843 rfl ?_
    rintro _ T9 L9 X9 ⟨oo, gv, rfl, hgv, N9q, K9, GE, GV⟩
    have N9 := Fr.app N0 N9q
    have CR' := CR.trans (CHr.keep K9 all0 CR.1)
    replace CR := CR'
    replace hk := Nat.le_trans hk K9.1
    replace O := O.keep K9 all0
    obtain rfl : gv = .ref (u 1) := hgv.trans (nam1 u qa)
    show Own.Go p e below _ (T9.setTop (mkF m 843 #[.val (.int p1), .val (.int p2), .val (.int p3), .val (.int mm), .val (.int kp), .val (.int ch), .val (.int pp), .val (.ref d1), .val (.ref d2), .val (.ref d3), .val (.ref d4), .val (.ref d5), .val (.ref d6), .val (.ref b), .val (.int (2 : Int32)), .unset, .unset] [(.ref oo)]))
    refine Own.g_astore X9 hx #[.val (.int p1), .val (.int p2), .val (.int p3), .val (.int mm), .val (.int kp), .val (.int ch), .val (.int pp), .val (.ref d1), .val (.ref d2), .val (.ref d3), .val (.ref d4), .val (.ref d5), .val (.ref d6), .val (.ref b), .val (.int (2 : Int32)), .val (.ref oo), .unset] (hb hby at_843) rfl rfl 845 rfl ?_
    refine Own.g_iload X9 hx (hb hby at_845) rfl 847 rfl ?_
    refine Own.g_if_ne_t X9 hx (hb hby at_847) (by decide) 864 (by decide) ?_
    refine Own.g_aload X9 hx (hb hby at_864) rfl rfl 866 rfl ?_
    refine Own.g_virtual X9 hx hZ (y := (⟨"java/util/Optional", "isPresent", "()Z"⟩ : MethodName)) (z := (⟨"java/util/Optional", "isPresent", "()Z"⟩ : MethodName)) hown (mvT hZ (hw _ (List.mem_of_getElem? (i := 81) rfl))) (mvT hZ (hw _ (List.mem_of_getElem? (i := 82) rfl))) (notFace_of_selects (args := #[]) (mvT hZ (hw _ (List.mem_of_getElem? (i := 84) rfl)))) (mvT hZ (hw _ (List.mem_of_getElem? (i := 84) rfl))) (mvT hZ (hw _ (List.mem_of_getElem? (i := 83) rfl))) (by decide) (a := oo) [] (Own.back (W := 0) (rm_ispr l Z a0 hw [] oo (u 1) T9.heap n0 O GV) hZ (hw _ (List.mem_of_getElem? (i := 85) rfl)) (hw _ (List.mem_of_getElem? (i := 66) rfl)) (by decide) (by decide)) GE (rfl : T9.heap = T9.heap) (by rw [hml]; rfl) [] (lenOf pd_11 rfl) rfl (Nat.le_of_ble_eq_true rfl) (hb hby at_866) (by decide) (by decide) 869 rfl ?_
    rintro _ T11 L11 X11 ⟨rfl, N11q, eH11⟩
    have N11 := Fr.app N9 N11q
    show Own.Go p e below _ (T11.setTop (mkF m 869 #[.val (.int p1), .val (.int p2), .val (.int p3), .val (.int mm), .val (.int kp), .val (.int ch), .val (.int pp), .val (.ref d1), .val (.ref d2), .val (.ref d3), .val (.ref d4), .val (.ref d5), .val (.ref d6), .val (.ref b), .val (.int (2 : Int32)), .val (.ref oo), .unset] [(.int (1 : Int32))]))
    refine Own.g_if_ne_t X11 hx (hb hby at_869) (by decide) 874 (by decide) ?_
    refine Own.g_iload X11 hx (hb hby at_874) rfl 876 rfl ?_
    refine Own.g_iconst X11 hx (1 : Int32) (hb hby at_876) rfl 877 rfl ?_
    refine Own.g_icmp_ne_t X11 hx (hb hby at_877) (by decide) 897 (by decide) ?_
    refine Own.g_aload X11 hx (hb hby at_897) rfl rfl 899 rfl ?_
    refine Own.g_virtual X11 hx hZ (y := (⟨"java/util/Optional", "get", "()Ljava/lang/Object;"⟩ : MethodName)) (z := (⟨"java/util/Optional", "get", "()Ljava/lang/Object;"⟩ : MethodName)) hown (mvT hZ (hw _ (List.mem_of_getElem? (i := 86) rfl))) (mvT hZ (hw _ (List.mem_of_getElem? (i := 87) rfl))) (notFace_of_selects (args := #[]) (mvT hZ (hw _ (List.mem_of_getElem? (i := 89) rfl)))) (mvT hZ (hw _ (List.mem_of_getElem? (i := 89) rfl))) (mvT hZ (hw _ (List.mem_of_getElem? (i := 88) rfl))) (by decide) (a := oo) [] (Own.back (W := 0) (rm_getr l Z a0 hw [] oo (u 1) T9.heap n0 O GV) hZ (hw _ (List.mem_of_getElem? (i := 90) rfl)) (hw _ (List.mem_of_getElem? (i := 66) rfl)) (by decide) (by decide)) GE eH11 (by rw [hml]; rfl) [] (lenOf pd_12 rfl) rfl (Nat.le_of_ble_eq_true rfl) (hb hby at_899) (by decide) (by decide) 902 rfl ?_
    rintro _ T12 L12 X12 ⟨rfl, N12q, eH12⟩
    have N12 := Fr.app N11 N12q
    show Own.Go p e below _ (T12.setTop (mkF m 902 #[.val (.int p1), .val (.int p2), .val (.int p3), .val (.int mm), .val (.int kp), .val (.int ch), .val (.int pp), .val (.ref d1), .val (.ref d2), .val (.ref d3), .val (.ref d4), .val (.ref d5), .val (.ref d6), .val (.ref b), .val (.int (2 : Int32)), .val (.ref oo), .unset] [(.ref (u 1))]))
    refine Own.g_getS X12 hx hZ hown (host := "") (Or.inl (hw _ (List.mem_of_getElem? (i := 92) rfl))) Via.refl eH12 (S1.ext O.2) (hb hby at_902) 905 rfl ?_
    intro T13 X13 e13
    refine Own.g_acmp X13 hx rfl rfl (hb hby at_905) true (decide_eq_true rfl) 908 (by decide) ?_
    refine Own.g_iconst X13 hx (1 : Int32) (hb hby at_908) rfl 909 rfl ?_
    refine Own.g_goto X13 hx (hb hby at_909) 913 (by decide) ?_
    refine Own.w_ret X13 hx hZ hEL hS hk CR hret hlocks rfl (Or.inl ⟨rfl, by simp, _, rfl⟩) (hb hby at_913) (by decide) (by decide) e13 ?_
    exact hQ _ _ N12
set_option maxRecDepth 65536 in
set_option maxHeartbeats 40000000 in
theorem st_838b {p : Program} {l : Launch} {e : Env} {s : State} {m : MethodId} {args : Array Value} {below : List Frame} {meth : Method} {c : Code} {T0 : State} {locs : List Loc} {Z : State} {a0 : Array Value} {hh : Heap} {n0 : Nat} {Q : Option Value → Heap → List Loc → Prop} (hQ : ∀ h L, Fr n0 L → Q (some (.int 1)) h L) {vm : Vm} {k0 : Nat} (hx : p.tables.exec = Jvm.exec) (hZ : Z.Warmed39 (s.setVm vm).vm) (hw : ∀ d ∈ tables_1, d.before a0 Z = true) (hby : c.code = code) (hml : c.maxLocals = 17) (hown : (s.setVm vm).vm.findClass "com/example/bowerbird/bowerbird/model/GranularityNamedPinLaw" = some m.cls) (hret : meth.sig.returnType = (some .boolean)) (hlocks : meth.locks = false) (hEL : EW Z a0 EL) (hS : s.Since vm k0) (hk : k0 ≤ hh.size) (CR : CHr Z EL s.vm s.heap vm hh)
    (p1 p2 p3 mm kp ch pp ex G1 y15 y16 : Int32) (cs : List Int32) (u : Nat → Addr) (nm : Nat → Addr) (t : Nat → Addr) (kk : Nat → ClassId) (va : Addr) (kv : ClassId) (oe : Addr) (d1 d2 d3 d4 d5 d6 b bt : Addr) (kbt : ClassId) (X0 : Stand p l e room_1 (s.setVm vm) m args below meth c T0 locs 12 130) (e0 : T0.heap = hh) (N0 : Fr n0 locs) (O : Old Z n0 hh) (E_b : Exa Z hh b "java/lang/String") (F_b_value : Fld Z hh b "java/lang/String" "value" "[B" (.ref bt)) (F_b_coder : Fld Z hh b "java/lang/String" "coder" "B" (.int 0)) (V_bt : Arv Z hh bt kbt .byte (Int32.ofNat (cs).length) (((cs).map fun c => c.toInt8.toInt32).map Value.int) (.int 0))   (O2 : Sta Z Z.heap "java/lang/String" "COMPACT_STRINGS" "Z" (.int G1)) (P5 : ¬ (G1 = (0 : Int32))) (SV : Sta Z Z.heap "com/example/bowerbird/bowerbird/model/Datestamp$Granularity" "$VALUES" "[Lcom/example/bowerbird/bowerbird/model/Datestamp$Granularity;" (.ref va)) (AV : Arv Z Z.heap va kv (.object "com/example/bowerbird/bowerbird/model/Datestamp$Granularity") 2 [(.ref (u 0)), (.ref (u 1))] .null) (EV : Exa Z Z.heap va "[Lcom/example/bowerbird/bowerbird/model/Datestamp$Granularity;") (SE : Sta Z Z.heap "java/util/Optional" "EMPTY" "Ljava/util/Optional;" (.ref oe)) (EE : Exa Z Z.heap oe "java/util/Optional") (FE : Fld Z Z.heap oe "java/util/Optional" "value" "Ljava/lang/Object;" .null) (H : ∀ i, i < 2 → UnitOk Z (u i) (nm i) (t i) (kk i) (nmOf i)) (S0 : Sta Z Z.heap "com/example/bowerbird/bowerbird/model/Datestamp$Granularity" "DAY" "Lcom/example/bowerbird/bowerbird/model/Datestamp$Granularity;" (.ref (u 0))) (S1 : Sta Z Z.heap "com/example/bowerbird/bowerbird/model/Datestamp$Granularity" "SECOND" "Lcom/example/bowerbird/bowerbird/model/Datestamp$Granularity;" (.ref (u 1))) (lat : ∀ c ∈ cs, Own.Lat c) (l4 : cs.length ≤ 4000) (hex : Exp ex cs) :
    Own.Go p e below (Own.EndW Z EL s Q 32 1344) (T0.setTop (mkF m 838 #[.val (.int p1), .val (.int p2), .val (.int p3), .val (.int mm), .val (.int kp), .val (.int ch), .val (.int pp), .val (.ref d1), .val (.ref d2), .val (.ref d3), .val (.ref d4), .val (.ref d5), .val (.ref d6), .val (.ref b), .val (.int ex), .val (.int y15), .val (.int y16)] [])) := by
  rcases hex with ⟨rfl, qa, qb⟩ | ⟨rfl, qa⟩ | ⟨rfl, qa⟩
  · refine Own.g_aload X0 hx (hb hby at_838) rfl rfl 840 rfl ?_
    refine Own.g_callS X0 hx (y := (⟨"com/example/bowerbird/bowerbird/model/Datestamp$Granularity", "named", "(Ljava/lang/String;)Ljava/util/Optional;"⟩ : MethodName)) hown (mvT hZ (hw _ (List.mem_of_getElem? (i := 31) rfl))) (mvT hZ (hw _ (List.mem_of_getElem? (i := 32) rfl))) (mvT hZ (hw _ (List.mem_of_getElem? (i := 33) rfl))) (mvT hZ (hw _ (List.mem_of_getElem? (i := 34) rfl))) (by decide) [.ref b] (Own.back (W := 0) (rm_named l Z a0 hw [] b bt kbt cs G1 u nm t kk va kv oe hh n0 O O2 P5 SV AV EV SE EE FE H lat l4 E_b F_b_value F_b_coder V_bt) hZ (hw _ (List.mem_of_getElem? (i := 34) rfl)) (hw _ (List.mem_of_getElem? (i := 33) rfl)) (by decide) (by decide)) e0 (by rw [hml]; rfl) [] (lenOf pd_10 rfl) rfl (Nat.le_of_ble_eq_true rfl) (hb hby at_840) (by decide) (by decide) 843 rfl ?_
    rintro _ T1 L1 X1 ⟨oo, gv, rfl, hgv, N1q, K1, GE, GV⟩
    have N1 := Fr.app N0 N1q
    have CR' := CR.trans (CHr.keep K1 all0 CR.1)
    replace CR := CR'
    replace hk := Nat.le_trans hk K1.1
    replace O := O.keep K1 all0
    obtain rfl : gv = .null := hgv.trans (namN u qa qb)
    show Own.Go p e below _ (T1.setTop (mkF m 843 #[.val (.int p1), .val (.int p2), .val (.int p3), .val (.int mm), .val (.int kp), .val (.int ch), .val (.int pp), .val (.ref d1), .val (.ref d2), .val (.ref d3), .val (.ref d4), .val (.ref d5), .val (.ref d6), .val (.ref b), .val (.int (0 : Int32)), .val (.int y15), .val (.int y16)] [(.ref oo)]))
    refine Own.g_astore X1 hx #[.val (.int p1), .val (.int p2), .val (.int p3), .val (.int mm), .val (.int kp), .val (.int ch), .val (.int pp), .val (.ref d1), .val (.ref d2), .val (.ref d3), .val (.ref d4), .val (.ref d5), .val (.ref d6), .val (.ref b), .val (.int (0 : Int32)), .val (.ref oo), .val (.int y16)] (hb hby at_843) rfl rfl 845 rfl ?_
    refine Own.g_iload X1 hx (hb hby at_845) rfl 847 rfl ?_
    refine Own.g_if_ne_f X1 hx (hb hby at_847) rfl 850 rfl ?_
    refine Own.g_aload X1 hx (hb hby at_850) rfl rfl 852 rfl ?_
    refine Own.g_virtual X1 hx hZ (y := (⟨"java/util/Optional", "isPresent", "()Z"⟩ : MethodName)) (z := (⟨"java/util/Optional", "isPresent", "()Z"⟩ : MethodName)) hown (mvT hZ (hw _ (List.mem_of_getElem? (i := 81) rfl))) (mvT hZ (hw _ (List.mem_of_getElem? (i := 82) rfl))) (notFace_of_selects (args := #[]) (mvT hZ (hw _ (List.mem_of_getElem? (i := 84) rfl)))) (mvT hZ (hw _ (List.mem_of_getElem? (i := 84) rfl))) (mvT hZ (hw _ (List.mem_of_getElem? (i := 83) rfl))) (by decide) (a := oo) [] (Own.back (W := 0) (rm_ispn l Z a0 hw [] oo T1.heap n0 O GV) hZ (hw _ (List.mem_of_getElem? (i := 85) rfl)) (hw _ (List.mem_of_getElem? (i := 66) rfl)) (by decide) (by decide)) GE (rfl : T1.heap = T1.heap) (by rw [hml]; rfl) [] (lenOf pd_11 rfl) rfl (Nat.le_of_ble_eq_true rfl) (hb hby at_852) (by decide) (by decide) 855 rfl ?_
    rintro _ T3 L3 X3 ⟨rfl, N3q, eH3⟩
    have N3 := Fr.app N1 N3q
    show Own.Go p e below _ (T3.setTop (mkF m 855 #[.val (.int p1), .val (.int p2), .val (.int p3), .val (.int mm), .val (.int kp), .val (.int ch), .val (.int pp), .val (.ref d1), .val (.ref d2), .val (.ref d3), .val (.ref d4), .val (.ref d5), .val (.ref d6), .val (.ref b), .val (.int (0 : Int32)), .val (.ref oo), .val (.int y16)] [(.int (0 : Int32))]))
    refine Own.g_if_ne_f X3 hx (hb hby at_855) rfl 858 rfl ?_
    refine Own.g_iconst X3 hx (1 : Int32) (hb hby at_858) rfl 859 rfl ?_
    refine Own.g_goto X3 hx (hb hby at_859) 863 (by decide) ?_
    refine Own.w_ret X3 hx hZ hEL hS hk CR hret hlocks rfl (Or.inl ⟨rfl, by simp, _, rfl⟩) (hb hby at_863) (by decide) (by decide) eH3 ?_
    exact hQ _ _ N3
  · refine Own.g_aload X0 hx (hb hby at_838) rfl rfl 840 rfl ?_
    refine Own.g_callS X0 hx (y := (⟨"com/example/bowerbird/bowerbird/model/Datestamp$Granularity", "named", "(Ljava/lang/String;)Ljava/util/Optional;"⟩ : MethodName)) hown (mvT hZ (hw _ (List.mem_of_getElem? (i := 31) rfl))) (mvT hZ (hw _ (List.mem_of_getElem? (i := 32) rfl))) (mvT hZ (hw _ (List.mem_of_getElem? (i := 33) rfl))) (mvT hZ (hw _ (List.mem_of_getElem? (i := 34) rfl))) (by decide) [.ref b] (Own.back (W := 0) (rm_named l Z a0 hw [] b bt kbt cs G1 u nm t kk va kv oe hh n0 O O2 P5 SV AV EV SE EE FE H lat l4 E_b F_b_value F_b_coder V_bt) hZ (hw _ (List.mem_of_getElem? (i := 34) rfl)) (hw _ (List.mem_of_getElem? (i := 33) rfl)) (by decide) (by decide)) e0 (by rw [hml]; rfl) [] (lenOf pd_10 rfl) rfl (Nat.le_of_ble_eq_true rfl) (hb hby at_840) (by decide) (by decide) 843 rfl ?_
    rintro _ T4 L4 X4 ⟨oo, gv, rfl, hgv, N4q, K4, GE, GV⟩
    have N4 := Fr.app N0 N4q
    have CR' := CR.trans (CHr.keep K4 all0 CR.1)
    replace CR := CR'
    replace hk := Nat.le_trans hk K4.1
    replace O := O.keep K4 all0
    obtain rfl : gv = .ref (u 0) := hgv.trans (nam0 u qa)
    show Own.Go p e below _ (T4.setTop (mkF m 843 #[.val (.int p1), .val (.int p2), .val (.int p3), .val (.int mm), .val (.int kp), .val (.int ch), .val (.int pp), .val (.ref d1), .val (.ref d2), .val (.ref d3), .val (.ref d4), .val (.ref d5), .val (.ref d6), .val (.ref b), .val (.int (1 : Int32)), .val (.int y15), .val (.int y16)] [(.ref oo)]))
    refine Own.g_astore X4 hx #[.val (.int p1), .val (.int p2), .val (.int p3), .val (.int mm), .val (.int kp), .val (.int ch), .val (.int pp), .val (.ref d1), .val (.ref d2), .val (.ref d3), .val (.ref d4), .val (.ref d5), .val (.ref d6), .val (.ref b), .val (.int (1 : Int32)), .val (.ref oo), .val (.int y16)] (hb hby at_843) rfl rfl 845 rfl ?_
    refine Own.g_iload X4 hx (hb hby at_845) rfl 847 rfl ?_
    refine Own.g_if_ne_t X4 hx (hb hby at_847) (by decide) 864 (by decide) ?_
    refine Own.g_aload X4 hx (hb hby at_864) rfl rfl 866 rfl ?_
    refine Own.g_virtual X4 hx hZ (y := (⟨"java/util/Optional", "isPresent", "()Z"⟩ : MethodName)) (z := (⟨"java/util/Optional", "isPresent", "()Z"⟩ : MethodName)) hown (mvT hZ (hw _ (List.mem_of_getElem? (i := 81) rfl))) (mvT hZ (hw _ (List.mem_of_getElem? (i := 82) rfl))) (notFace_of_selects (args := #[]) (mvT hZ (hw _ (List.mem_of_getElem? (i := 84) rfl)))) (mvT hZ (hw _ (List.mem_of_getElem? (i := 84) rfl))) (mvT hZ (hw _ (List.mem_of_getElem? (i := 83) rfl))) (by decide) (a := oo) [] (Own.back (W := 0) (rm_ispr l Z a0 hw [] oo (u 0) T4.heap n0 O GV) hZ (hw _ (List.mem_of_getElem? (i := 85) rfl)) (hw _ (List.mem_of_getElem? (i := 66) rfl)) (by decide) (by decide)) GE (rfl : T4.heap = T4.heap) (by rw [hml]; rfl) [] (lenOf pd_11 rfl) rfl (Nat.le_of_ble_eq_true rfl) (hb hby at_866) (by decide) (by decide) 869 rfl ?_
    rintro _ T6 L6 X6 ⟨rfl, N6q, eH6⟩
    have N6 := Fr.app N4 N6q
    show Own.Go p e below _ (T6.setTop (mkF m 869 #[.val (.int p1), .val (.int p2), .val (.int p3), .val (.int mm), .val (.int kp), .val (.int ch), .val (.int pp), .val (.ref d1), .val (.ref d2), .val (.ref d3), .val (.ref d4), .val (.ref d5), .val (.ref d6), .val (.ref b), .val (.int (1 : Int32)), .val (.ref oo), .val (.int y16)] [(.int (1 : Int32))]))
    refine Own.g_if_ne_t X6 hx (hb hby at_869) (by decide) 874 (by decide) ?_
    refine Own.g_iload X6 hx (hb hby at_874) rfl 876 rfl ?_
    refine Own.g_iconst X6 hx (1 : Int32) (hb hby at_876) rfl 877 rfl ?_
    refine Own.g_icmp_ne_f X6 hx (hb hby at_877) rfl 880 rfl ?_
    refine Own.g_aload X6 hx (hb hby at_880) rfl rfl 882 rfl ?_
    refine Own.g_virtual X6 hx hZ (y := (⟨"java/util/Optional", "get", "()Ljava/lang/Object;"⟩ : MethodName)) (z := (⟨"java/util/Optional", "get", "()Ljava/lang/Object;"⟩ : MethodName)) hown (mvT hZ (hw _ (List.mem_of_getElem? (i := 86) rfl))) (mvT hZ (hw _ (List.mem_of_getElem? (i := 87) rfl))) (notFace_of_selects (args := #[]) (mvT hZ (hw _ (List.mem_of_getElem? (i := 89) rfl)))) (mvT hZ (hw _ (List.mem_of_getElem? (i := 89) rfl))) (mvT hZ (hw _ (List.mem_of_getElem? (i := 88) rfl))) (by decide) (a := oo) [] (Own.back (W := 0) (rm_getr l Z a0 hw [] oo (u 0) T4.heap n0 O GV) hZ (hw _ (List.mem_of_getElem? (i := 90) rfl)) (hw _ (List.mem_of_getElem? (i := 66) rfl)) (by decide) (by decide)) GE eH6 (by rw [hml]; rfl) [] (lenOf pd_12 rfl) rfl (Nat.le_of_ble_eq_true rfl) (hb hby at_882) (by decide) (by decide) 885 rfl ?_
    rintro _ T7 L7 X7 ⟨rfl, N7q, eH7⟩
    have N7 := Fr.app N6 N7q
    show Own.Go p e below _ (T7.setTop (mkF m 885 #[.val (.int p1), .val (.int p2), .val (.int p3), .val (.int mm), .val (.int kp), .val (.int ch), .val (.int pp), .val (.ref d1), .val (.ref d2), .val (.ref d3), .val (.ref d4), .val (.ref d5), .val (.ref d6), .val (.ref b), .val (.int (1 : Int32)), .val (.ref oo), .val (.int y16)] [(.ref (u 0))]))
    refine Own.g_getS X7 hx hZ hown (host := "") (Or.inl (hw _ (List.mem_of_getElem? (i := 91) rfl))) Via.refl eH7 (S0.ext O.2) (hb hby at_885) 888 rfl ?_
    intro T8 X8 e8
    refine Own.g_acmp X8 hx rfl rfl (hb hby at_888) true (decide_eq_true rfl) 891 (by decide) ?_
    refine Own.g_iconst X8 hx (1 : Int32) (hb hby at_891) rfl 892 rfl ?_
    refine Own.g_goto X8 hx (hb hby at_892) 896 (by decide) ?_
    refine Own.w_ret X8 hx hZ hEL hS hk CR hret hlocks rfl (Or.inl ⟨rfl, by simp, _, rfl⟩) (hb hby at_896) (by decide) (by decide) e8 ?_
    exact hQ _ _ N7
  · refine Own.g_aload X0 hx (hb hby at_838) rfl rfl 840 rfl ?_
    refine Own.g_callS X0 hx (y := (⟨"com/example/bowerbird/bowerbird/model/Datestamp$Granularity", "named", "(Ljava/lang/String;)Ljava/util/Optional;"⟩ : MethodName)) hown (mvT hZ (hw _ (List.mem_of_getElem? (i := 31) rfl))) (mvT hZ (hw _ (List.mem_of_getElem? (i := 32) rfl))) (mvT hZ (hw _ (List.mem_of_getElem? (i := 33) rfl))) (mvT hZ (hw _ (List.mem_of_getElem? (i := 34) rfl))) (by decide) [.ref b] (Own.back (W := 0) (rm_named l Z a0 hw [] b bt kbt cs G1 u nm t kk va kv oe hh n0 O O2 P5 SV AV EV SE EE FE H lat l4 E_b F_b_value F_b_coder V_bt) hZ (hw _ (List.mem_of_getElem? (i := 34) rfl)) (hw _ (List.mem_of_getElem? (i := 33) rfl)) (by decide) (by decide)) e0 (by rw [hml]; rfl) [] (lenOf pd_10 rfl) rfl (Nat.le_of_ble_eq_true rfl) (hb hby at_840) (by decide) (by decide) 843 rfl ?_
    rintro _ T9 L9 X9 ⟨oo, gv, rfl, hgv, N9q, K9, GE, GV⟩
    have N9 := Fr.app N0 N9q
    have CR' := CR.trans (CHr.keep K9 all0 CR.1)
    replace CR := CR'
    replace hk := Nat.le_trans hk K9.1
    replace O := O.keep K9 all0
    obtain rfl : gv = .ref (u 1) := hgv.trans (nam1 u qa)
    show Own.Go p e below _ (T9.setTop (mkF m 843 #[.val (.int p1), .val (.int p2), .val (.int p3), .val (.int mm), .val (.int kp), .val (.int ch), .val (.int pp), .val (.ref d1), .val (.ref d2), .val (.ref d3), .val (.ref d4), .val (.ref d5), .val (.ref d6), .val (.ref b), .val (.int (2 : Int32)), .val (.int y15), .val (.int y16)] [(.ref oo)]))
    refine Own.g_astore X9 hx #[.val (.int p1), .val (.int p2), .val (.int p3), .val (.int mm), .val (.int kp), .val (.int ch), .val (.int pp), .val (.ref d1), .val (.ref d2), .val (.ref d3), .val (.ref d4), .val (.ref d5), .val (.ref d6), .val (.ref b), .val (.int (2 : Int32)), .val (.ref oo), .val (.int y16)] (hb hby at_843) rfl rfl 845 rfl ?_
    refine Own.g_iload X9 hx (hb hby at_845) rfl 847 rfl ?_
    refine Own.g_if_ne_t X9 hx (hb hby at_847) (by decide) 864 (by decide) ?_
    refine Own.g_aload X9 hx (hb hby at_864) rfl rfl 866 rfl ?_
    refine Own.g_virtual X9 hx hZ (y := (⟨"java/util/Optional", "isPresent", "()Z"⟩ : MethodName)) (z := (⟨"java/util/Optional", "isPresent", "()Z"⟩ : MethodName)) hown (mvT hZ (hw _ (List.mem_of_getElem? (i := 81) rfl))) (mvT hZ (hw _ (List.mem_of_getElem? (i := 82) rfl))) (notFace_of_selects (args := #[]) (mvT hZ (hw _ (List.mem_of_getElem? (i := 84) rfl)))) (mvT hZ (hw _ (List.mem_of_getElem? (i := 84) rfl))) (mvT hZ (hw _ (List.mem_of_getElem? (i := 83) rfl))) (by decide) (a := oo) [] (Own.back (W := 0) (rm_ispr l Z a0 hw [] oo (u 1) T9.heap n0 O GV) hZ (hw _ (List.mem_of_getElem? (i := 85) rfl)) (hw _ (List.mem_of_getElem? (i := 66) rfl)) (by decide) (by decide)) GE (rfl : T9.heap = T9.heap) (by rw [hml]; rfl) [] (lenOf pd_11 rfl) rfl (Nat.le_of_ble_eq_true rfl) (hb hby at_866) (by decide) (by decide) 869 rfl ?_
    rintro _ T11 L11 X11 ⟨rfl, N11q, eH11⟩
    have N11 := Fr.app N9 N11q
    show Own.Go p e below _ (T11.setTop (mkF m 869 #[.val (.int p1), .val (.int p2), .val (.int p3), .val (.int mm), .val (.int kp), .val (.int ch), .val (.int pp), .val (.ref d1), .val (.ref d2), .val (.ref d3), .val (.ref d4), .val (.ref d5), .val (.ref d6), .val (.ref b), .val (.int (2 : Int32)), .val (.ref oo), .val (.int y16)] [(.int (1 : Int32))]))
    refine Own.g_if_ne_t X11 hx (hb hby at_869) (by decide) 874 (by decide) ?_
    refine Own.g_iload X11 hx (hb hby at_874) rfl 876 rfl ?_
    refine Own.g_iconst X11 hx (1 : Int32) (hb hby at_876) rfl 877 rfl ?_
    refine Own.g_icmp_ne_t X11 hx (hb hby at_877) (by decide) 897 (by decide) ?_
    refine Own.g_aload X11 hx (hb hby at_897) rfl rfl 899 rfl ?_
    refine Own.g_virtual X11 hx hZ (y := (⟨"java/util/Optional", "get", "()Ljava/lang/Object;"⟩ : MethodName)) (z := (⟨"java/util/Optional", "get", "()Ljava/lang/Object;"⟩ : MethodName)) hown (mvT hZ (hw _ (List.mem_of_getElem? (i := 86) rfl))) (mvT hZ (hw _ (List.mem_of_getElem? (i := 87) rfl))) (notFace_of_selects (args := #[]) (mvT hZ (hw _ (List.mem_of_getElem? (i := 89) rfl)))) (mvT hZ (hw _ (List.mem_of_getElem? (i := 89) rfl))) (mvT hZ (hw _ (List.mem_of_getElem? (i := 88) rfl))) (by decide) (a := oo) [] (Own.back (W := 0) (rm_getr l Z a0 hw [] oo (u 1) T9.heap n0 O GV) hZ (hw _ (List.mem_of_getElem? (i := 90) rfl)) (hw _ (List.mem_of_getElem? (i := 66) rfl)) (by decide) (by decide)) GE eH11 (by rw [hml]; rfl) [] (lenOf pd_12 rfl) rfl (Nat.le_of_ble_eq_true rfl) (hb hby at_899) (by decide) (by decide) 902 rfl ?_
    rintro _ T12 L12 X12 ⟨rfl, N12q, eH12⟩
    have N12 := Fr.app N11 N12q
    show Own.Go p e below _ (T12.setTop (mkF m 902 #[.val (.int p1), .val (.int p2), .val (.int p3), .val (.int mm), .val (.int kp), .val (.int ch), .val (.int pp), .val (.ref d1), .val (.ref d2), .val (.ref d3), .val (.ref d4), .val (.ref d5), .val (.ref d6), .val (.ref b), .val (.int (2 : Int32)), .val (.ref oo), .val (.int y16)] [(.ref (u 1))]))
    refine Own.g_getS X12 hx hZ hown (host := "") (Or.inl (hw _ (List.mem_of_getElem? (i := 92) rfl))) Via.refl eH12 (S1.ext O.2) (hb hby at_902) 905 rfl ?_
    intro T13 X13 e13
    refine Own.g_acmp X13 hx rfl rfl (hb hby at_905) true (decide_eq_true rfl) 908 (by decide) ?_
    refine Own.g_iconst X13 hx (1 : Int32) (hb hby at_908) rfl 909 rfl ?_
    refine Own.g_goto X13 hx (hb hby at_909) 913 (by decide) ?_
    refine Own.w_ret X13 hx hZ hEL hS hk CR hret hlocks rfl (Or.inl ⟨rfl, by simp, _, rfl⟩) (hb hby at_913) (by decide) (by decide) e13 ?_
    exact hQ _ _ N12
set_option maxRecDepth 65536 in
set_option maxHeartbeats 40000000 in
theorem st_577 {p : Program} {l : Launch} {e : Env} {s : State} {m : MethodId} {args : Array Value} {below : List Frame} {meth : Method} {c : Code} {T0 : State} {locs : List Loc} {Z : State} {a0 : Array Value} {hh : Heap} {n0 : Nat} {Q : Option Value → Heap → List Loc → Prop} (hQ : ∀ h L, Fr n0 L → Q (some (.int 1)) h L) {vm : Vm} {k0 : Nat} (hx : p.tables.exec = Jvm.exec) (hZ : Z.Warmed39 (s.setVm vm).vm) (hw : ∀ d ∈ tables_1, d.before a0 Z = true) (hby : c.code = code) (hml : c.maxLocals = 17) (hown : (s.setVm vm).vm.findClass "com/example/bowerbird/bowerbird/model/GranularityNamedPinLaw" = some m.cls) (hret : meth.sig.returnType = (some .boolean)) (hlocks : meth.locks = false) (hEL : EW Z a0 EL) (hS : s.Since vm k0) (hk : k0 ≤ hh.size) (CR : CHr Z EL s.vm s.heap vm hh)
    (p1 p2 p3 mm kp ch pp G1 : Int32) (u : Nat → Addr) (nm : Nat → Addr) (t : Nat → Addr) (kk : Nat → ClassId) (va : Addr) (kv : ClassId) (oe : Addr) (d1 d2 d3 d4 d5 d6 : Addr) (kd1 kd2 kd3 kd4 kd5 kd6 : ClassId) (X0 : Stand p l e room_1 (s.setVm vm) m args below meth c T0 locs 6 90) (e0 : T0.heap = hh) (N0 : Fr n0 locs) (O : Old Z n0 hh) (V_d1 : Arv Z hh d1 kd1 .char 10 (DAYL.map Value.int) (.int 0)) (V_d2 : Arv Z hh d2 kd2 .char 20 (SECL.map Value.int) (.int 0)) (V_d3 : Arv Z hh d3 kd3 .char 11 ((DAYL ++ [ch]).map Value.int) (.int 0)) (V_d4 : Arv Z hh d4 kd4 .char 21 ((SECL ++ [ch]).map Value.int) (.int 0)) (V_d5 : Arv Z hh d5 kd5 .char 19 (S19.map Value.int) (.int 0)) (V_d6 : Arv Z hh d6 kd6 .char 9 (D9.map Value.int) (.int 0)) (S_d1 : Safe Z EL vm hh d1) (S_d2 : Safe Z EL vm hh d2) (S_d3 : Safe Z EL vm hh d3) (S_d4 : Safe Z EL vm hh d4) (S_d5 : Safe Z EL vm hh d5) (S_d6 : Safe Z EL vm hh d6)  (O2 : Sta Z Z.heap "java/lang/String" "COMPACT_STRINGS" "Z" (.int G1)) (P5 : ¬ (G1 = (0 : Int32))) (SV : Sta Z Z.heap "com/example/bowerbird/bowerbird/model/Datestamp$Granularity" "$VALUES" "[Lcom/example/bowerbird/bowerbird/model/Datestamp$Granularity;" (.ref va)) (AV : Arv Z Z.heap va kv (.object "com/example/bowerbird/bowerbird/model/Datestamp$Granularity") 2 [(.ref (u 0)), (.ref (u 1))] .null) (EV : Exa Z Z.heap va "[Lcom/example/bowerbird/bowerbird/model/Datestamp$Granularity;") (SE : Sta Z Z.heap "java/util/Optional" "EMPTY" "Ljava/util/Optional;" (.ref oe)) (EE : Exa Z Z.heap oe "java/util/Optional") (FE : Fld Z Z.heap oe "java/util/Optional" "value" "Ljava/lang/Object;" .null) (H : ∀ i, i < 2 → UnitOk Z (u i) (nm i) (t i) (kk i) (nmOf i)) (S0 : Sta Z Z.heap "com/example/bowerbird/bowerbird/model/Datestamp$Granularity" "DAY" "Lcom/example/bowerbird/bowerbird/model/Datestamp$Granularity;" (.ref (u 0))) (S1 : Sta Z Z.heap "com/example/bowerbird/bowerbird/model/Datestamp$Granularity" "SECOND" "Lcom/example/bowerbird/bowerbird/model/Datestamp$Granularity;" (.ref (u 1))) (L_ch : Own.Lat ch) (N_pp : ¬ pp < 0) (n0_d1 : n0 ≤ d1) (n0_d2 : n0 ≤ d2) (n0_d3 : n0 ≤ d3) (n0_d4 : n0 ≤ d4) (n0_d5 : n0 ≤ d5) (n0_d6 : n0 ≤ d6) :
    Own.Go p e below (Own.EndW Z EL s Q 32 1344) (T0.setTop (mkF m 577 #[.val (.int p1), .val (.int p2), .val (.int p3), .val (.int mm), .val (.int kp), .val (.int ch), .val (.int pp), .val (.ref d1), .val (.ref d2), .val (.ref d3), .val (.ref d4), .val (.ref d5), .val (.ref d6), .unset, .val (.int (0 : Int32)), .unset, .unset] [])) := by
  have hws : ∀ d ∈ StrChars.Road.words, d.before a0 Z = true := fun d hd => hw d ((by decide +kernel : ∀ d ∈ StrChars.Road.words, d ∈ tables_1) d hd)
  refine Own.g_iloadN X0 hx (hb hby at_577) rfl 578 rfl ?_
  refine Own.g_if_ne X0 hx (hb hby at_578) 640 581 (by decide) rfl ?_ ?_
  · intro hm0
    refine Own.g_iloadN X0 hx (hb hby at_640) rfl 641 rfl ?_
    refine Own.g_iconst X0 hx (1 : Int32) (hb hby at_641) rfl 642 rfl ?_
    refine Own.g_icmp_ne X0 hx (hb hby at_642) 704 645 (by decide) rfl ?_ ?_
    · intro hm1
      refine Own.g_iloadN X0 hx (hb hby at_704) rfl 705 rfl ?_
      refine Own.g_iconst X0 hx (2 : Int32) (hb hby at_705) rfl 706 rfl ?_
      refine Own.g_icmp_ne X0 hx (hb hby at_706) 723 709 (by decide) rfl ?_ ?_
      · intro hm2
        refine Own.g_iloadN X0 hx (hb hby at_723) rfl 724 rfl ?_
        refine Own.g_iconst X0 hx (3 : Int32) (hb hby at_724) rfl 725 rfl ?_
        refine Own.g_icmp_ne X0 hx (hb hby at_725) 757 728 (by decide) rfl ?_ ?_
        · intro hm3
          refine Own.g_iloadN X0 hx (hb hby at_757) rfl 758 rfl ?_
          refine Own.g_iconst X0 hx (4 : Int32) (hb hby at_758) rfl 759 rfl ?_
          refine Own.g_icmp_ne X0 hx (hb hby at_759) 772 762 (by decide) rfl ?_ ?_
          · intro hm4
            refine Own.g_iloadN X0 hx (hb hby at_772) rfl 773 rfl ?_
            refine Own.g_iconst X0 hx (5 : Int32) (hb hby at_773) rfl 774 rfl ?_
            refine Own.g_icmp_ne X0 hx (hb hby at_774) 792 777 (by decide) rfl ?_ ?_
            · intro hm5
              refine Own.g_iloadN X0 hx (hb hby at_792) rfl 793 rfl ?_
              refine Own.g_bipush X0 hx (6 : Int32) (hb hby at_793) rfl 795 rfl ?_
              refine Own.g_icmp_ne X0 hx (hb hby at_795) 812 798 (by decide) rfl ?_ ?_
              · intro hm6
                refine Own.g_iload X0 hx (hb hby at_812) rfl 814 rfl ?_
                refine Own.g_if_ne X0 hx (hb hby at_814) 827 817 (by decide) rfl ?_ ?_
                · intro hkp
                  refine Own.g_new X0 hx hZ hown (hw _ (List.mem_of_getElem? (i := 2) rfl)) (hw _ (List.mem_of_getElem? (i := 3) rfl)) (hw _ (List.mem_of_getElem? (i := 4) rfl)) e0 (hb hby at_827) (by decide) (by decide) 830 rfl ?_
                  intro T33 h33 b X33 e33 E33 g33 E_b D33
                  have ne_d6_b : d6 ≠ b := Nat.ne_of_lt (Nat.lt_of_lt_of_le (V_d6.lt) (Nat.le_of_eq g33.symm))
                  have n0_b : n0 ≤ b := Nat.le_trans (Nat.le_of_eq O.1.symm) (Nat.le_trans O.2.1 (Nat.le_of_eq g33.symm))
                  have S_b : Safe Z EL vm hh b := Safe.new (Nat.le_of_eq g33.symm)
                  replace V_d6 := V_d6.ext E33
                  replace S_d6 := S_d6.ext E33 CR.1
                  replace S_b := S_b.ext E33 CR.1
                  replace O := O.ext E33
                  replace hk := Nat.le_trans hk E33.1
                  replace CR := CR.trans (CHr.ext E33 CR.1)
                  have F_b_coder : Fld Z h33 b "java/lang/String" "coder" "B" (.int (0 : Int32)) := D33 (Or.inr (hw _ (List.mem_of_getElem? (i := 28) rfl))) (ty := .byte) (by decide)
                  have F_b_value : Fld Z h33 b "java/lang/String" "value" "[B" .null := D33 (Or.inr (hw _ (List.mem_of_getElem? (i := 30) rfl))) (ty := (.array .byte)) (by decide)
                  refine Own.g_dup X33 hx (hb hby at_830) rfl 831 rfl ?_
                  refine Own.g_aload X33 hx (hb hby at_831) rfl rfl 833 rfl ?_
                  refine Own.g_special X33 hx (y := (⟨"java/lang/String", "<init>", "([C)V"⟩ : MethodName)) rfl hown (mvT hZ (hw _ (List.mem_of_getElem? (i := 5) rfl))) (mvT hZ (hw _ (List.mem_of_getElem? (i := 6) rfl))) (mvT hZ (hw _ (List.mem_of_getElem? (i := 7) rfl))) (by decide) (a := b) [.ref d6] (StrChars.Road.backV (W := 1) hZ hws (kI := 4) (hw _ (List.mem_of_getElem? (i := 3) rfl)) (cs := D9) (bs := D9.map (fun c => c.toInt8.toInt32)) (n := 9) n0_b (Nat.le_trans (Nat.le_of_eq O.1.symm) O.2.1) E_b F_b_value F_b_coder V_d6 (O2.ext O.2) P5 (by first | rfl | (rw [List.length_set]; rfl)) rfl (by decide) (by decide) lD9 rfl (by decide) (by decide)) e33 (by rw [hml]; rfl) [(.ref b)] (lenOf pd_13 rfl) rfl (Nat.le_of_ble_eq_true rfl) (hb hby at_833) (by decide) (by decide) 836 rfl ?_
                  rintro _ T34 L34 X34 ⟨rfl, N34q, K34, -, Fc34, bt, k_bt, -, sz34, -, Fv34, Va34⟩
                  have hs35 : ∀ yy ∈ ([b] : List Addr), Safe Z EL vm _ yy := (allS S_b all0)
                  have CR' := CR.trans (CHr.keep K34 hs35 CR.1)
                  replace S_d6 := Safe.keep K34 hs35 CR.1 S_d6
                  replace S_b := Safe.keep K34 hs35 CR.1 S_b
                  replace CR := CR'
                  replace hk := Nat.le_trans hk K34.1
                  replace E_b := E_b.keep K34
                  replace O := O.keep K34 (allS n0_b all0)
                  have N34 := Fr.app N0 N34q
                  have F_b_value := Fv34
                  have F_b_coder := Fc34
                  show Own.Go p e below _ (T34.setTop (mkF m 836 #[.val (.int p1), .val (.int p2), .val (.int p3), .val (.int mm), .val (.int kp), .val (.int ch), .val (.int pp), .val (.ref d1), .val (.ref d2), .val (.ref d3), .val (.ref d4), .val (.ref d5), .val (.ref d6), .unset, .val (.int (0 : Int32)), .unset, .unset] [(.ref b)]))
                  have V_bt : Arv Z T34.heap bt k_bt .byte (Int32.ofNat (D9).length) (((D9).map fun c => c.toInt8.toInt32).map Value.int) (.int 0) := by rw [show Int32.ofNat (D9).length = (9 : Int32) from by first | rfl | (rw [List.length_set]; rfl)]; exact Va34
                  refine Own.g_astore X34 hx #[.val (.int p1), .val (.int p2), .val (.int p3), .val (.int mm), .val (.int kp), .val (.int ch), .val (.int pp), .val (.ref d1), .val (.ref d2), .val (.ref d3), .val (.ref d4), .val (.ref d5), .val (.ref d6), .val (.ref b), .val (.int (0 : Int32)), .unset, .unset] (hb hby at_836) rfl rfl 838 rfl ?_
                  exact st_838a hQ hx hZ hw hby hml hown hret hlocks hEL hS hk CR p1 p2 p3 mm kp ch pp (0 : Int32) G1  (D9) u nm t kk va kv oe d1 d2 d3 d4 d5 d6 b bt k_bt (X34.more (by decide) (by decide)) (rfl : T34.heap = T34.heap) N34 O E_b F_b_value F_b_coder V_bt   O2 P5 SV AV EV SE EE FE H S0 S1 lD9 (by first | decide | (rw [List.length_set]; decide) | exact Nat.le_of_ble_eq_true rfl) (exp_len (by first | decide | (rw [List.length_set]; decide)) (by first | decide | (rw [List.length_set]; decide)))
                · intro hkp
                  refine Own.g_aload X0 hx (hb hby at_817) rfl rfl 819 rfl ?_
                  refine Own.g_iload X0 hx (hb hby at_819) rfl 821 rfl ?_
                  refine Own.g_bipush X0 hx (9 : Int32) (hb hby at_821) rfl 823 rfl ?_
                  refine Own.g_irem X0 hx (hb hby at_823) (by decide) 824 rfl ?_
                  refine Own.g_iload X0 hx (hb hby at_824) rfl 826 rfl ?_
                  have J_ii : ¬ (pp % (9 : Int32)) < 0 ∧ (pp % (9 : Int32)) < (9 : Int32) := mod_in N_pp (by decide)
                  refine Own.g_stC X0 hx hZ e0 V_d6 ch (Own.nar_lat L_ch) J_ii ((pp % (9 : Int32))).toNatClampNeg rfl (by show _ < (D9.map Value.int).length; rw [List.length_map]; exact cl_lt (n := 9) J_ii rfl) ((D9.set ((pp % (9 : Int32))).toNatClampNeg ch).map Value.int) (by rw [List.map_set]) (hb hby at_826) 827 rfl ?_
                  clear V_d6; intro T36 h36 X36 e36 W36 V_d6
                  have CR' := CR.trans (CHr.wr W36 S_d6 CR.1)
                  replace S_d6 := Safe.wr W36 S_d6 CR.1 S_d6
                  replace CR := CR'
                  replace hk := Nat.le_trans hk (Keep.of_wr W36).1
                  replace O := O.wr W36 n0_d6
                  have N36 := Fr.snoc X36 N0 n0_d6
                  show Own.Go p e below _ (T36.setTop (mkF m 827 #[.val (.int p1), .val (.int p2), .val (.int p3), .val (.int mm), .val (.int kp), .val (.int ch), .val (.int pp), .val (.ref d1), .val (.ref d2), .val (.ref d3), .val (.ref d4), .val (.ref d5), .val (.ref d6), .unset, .val (.int (0 : Int32)), .unset, .unset] []))
                  refine Own.g_new X36 hx hZ hown (hw _ (List.mem_of_getElem? (i := 2) rfl)) (hw _ (List.mem_of_getElem? (i := 3) rfl)) (hw _ (List.mem_of_getElem? (i := 4) rfl)) e36 (hb hby at_827) (by decide) (by decide) 830 rfl ?_
                  intro T37 h37 b X37 e37 E37 g37 E_b D37
                  have ne_d6_b : d6 ≠ b := Nat.ne_of_lt (Nat.lt_of_lt_of_le (V_d6.lt) (Nat.le_of_eq g37.symm))
                  have n0_b : n0 ≤ b := Nat.le_trans (Nat.le_of_eq O.1.symm) (Nat.le_trans O.2.1 (Nat.le_of_eq g37.symm))
                  have S_b : Safe Z EL vm h36 b := Safe.new (Nat.le_of_eq g37.symm)
                  replace V_d6 := V_d6.ext E37
                  replace S_d6 := S_d6.ext E37 CR.1
                  replace S_b := S_b.ext E37 CR.1
                  replace O := O.ext E37
                  replace hk := Nat.le_trans hk E37.1
                  replace CR := CR.trans (CHr.ext E37 CR.1)
                  have F_b_coder : Fld Z h37 b "java/lang/String" "coder" "B" (.int (0 : Int32)) := D37 (Or.inr (hw _ (List.mem_of_getElem? (i := 28) rfl))) (ty := .byte) (by decide)
                  have F_b_value : Fld Z h37 b "java/lang/String" "value" "[B" .null := D37 (Or.inr (hw _ (List.mem_of_getElem? (i := 30) rfl))) (ty := (.array .byte)) (by decide)
                  refine Own.g_dup X37 hx (hb hby at_830) rfl 831 rfl ?_
                  refine Own.g_aload X37 hx (hb hby at_831) rfl rfl 833 rfl ?_
                  refine Own.g_special X37 hx (y := (⟨"java/lang/String", "<init>", "([C)V"⟩ : MethodName)) rfl hown (mvT hZ (hw _ (List.mem_of_getElem? (i := 5) rfl))) (mvT hZ (hw _ (List.mem_of_getElem? (i := 6) rfl))) (mvT hZ (hw _ (List.mem_of_getElem? (i := 7) rfl))) (by decide) (a := b) [.ref d6] (StrChars.Road.backV (W := 1) hZ hws (kI := 4) (hw _ (List.mem_of_getElem? (i := 3) rfl)) (cs := (D9.set ((pp % (9 : Int32))).toNatClampNeg ch)) (bs := (D9.set ((pp % (9 : Int32))).toNatClampNeg ch).map (fun c => c.toInt8.toInt32)) (n := 9) n0_b (Nat.le_trans (Nat.le_of_eq O.1.symm) O.2.1) E_b F_b_value F_b_coder V_d6 (O2.ext O.2) P5 (by first | rfl | (rw [List.length_set]; rfl)) rfl (by decide) (by decide) (lat_set lD9 L_ch) rfl (by decide) (by decide)) e37 (by rw [hml]; rfl) [(.ref b)] (lenOf pd_13 rfl) rfl (Nat.le_of_ble_eq_true rfl) (hb hby at_833) (by decide) (by decide) 836 rfl ?_
                  rintro _ T38 L38 X38 ⟨rfl, N38q, K38, -, Fc38, bt, k_bt, -, sz38, -, Fv38, Va38⟩
                  have hs39 : ∀ yy ∈ ([b] : List Addr), Safe Z EL vm _ yy := (allS S_b all0)
                  have CR' := CR.trans (CHr.keep K38 hs39 CR.1)
                  replace S_d6 := Safe.keep K38 hs39 CR.1 S_d6
                  replace S_b := Safe.keep K38 hs39 CR.1 S_b
                  replace CR := CR'
                  replace hk := Nat.le_trans hk K38.1
                  replace E_b := E_b.keep K38
                  replace O := O.keep K38 (allS n0_b all0)
                  have N38 := Fr.app N36 N38q
                  have F_b_value := Fv38
                  have F_b_coder := Fc38
                  show Own.Go p e below _ (T38.setTop (mkF m 836 #[.val (.int p1), .val (.int p2), .val (.int p3), .val (.int mm), .val (.int kp), .val (.int ch), .val (.int pp), .val (.ref d1), .val (.ref d2), .val (.ref d3), .val (.ref d4), .val (.ref d5), .val (.ref d6), .unset, .val (.int (0 : Int32)), .unset, .unset] [(.ref b)]))
                  have V_bt : Arv Z T38.heap bt k_bt .byte (Int32.ofNat ((D9.set ((pp % (9 : Int32))).toNatClampNeg ch)).length) ((((D9.set ((pp % (9 : Int32))).toNatClampNeg ch)).map fun c => c.toInt8.toInt32).map Value.int) (.int 0) := by rw [show Int32.ofNat ((D9.set ((pp % (9 : Int32))).toNatClampNeg ch)).length = (9 : Int32) from by first | rfl | (rw [List.length_set]; rfl)]; exact Va38
                  refine Own.g_astore X38 hx #[.val (.int p1), .val (.int p2), .val (.int p3), .val (.int mm), .val (.int kp), .val (.int ch), .val (.int pp), .val (.ref d1), .val (.ref d2), .val (.ref d3), .val (.ref d4), .val (.ref d5), .val (.ref d6), .val (.ref b), .val (.int (0 : Int32)), .unset, .unset] (hb hby at_836) rfl rfl 838 rfl ?_
                  exact st_838a hQ hx hZ hw hby hml hown hret hlocks hEL hS hk CR p1 p2 p3 mm kp ch pp (0 : Int32) G1  ((D9.set ((pp % (9 : Int32))).toNatClampNeg ch)) u nm t kk va kv oe d1 d2 d3 d4 d5 d6 b bt k_bt (X38.more (by decide) (by decide)) (rfl : T38.heap = T38.heap) N38 O E_b F_b_value F_b_coder V_bt   O2 P5 SV AV EV SE EE FE H S0 S1 (lat_set lD9 L_ch) (by first | decide | (rw [List.length_set]; decide) | exact Nat.le_of_ble_eq_true rfl) (exp_len (by first | decide | (rw [List.length_set]; decide)) (by first | decide | (rw [List.length_set]; decide)))
              · intro hm6
                refine Own.g_new X0 hx hZ hown (hw _ (List.mem_of_getElem? (i := 2) rfl)) (hw _ (List.mem_of_getElem? (i := 3) rfl)) (hw _ (List.mem_of_getElem? (i := 4) rfl)) e0 (hb hby at_798) (by decide) (by decide) 801 rfl ?_
                intro T30 h30 b X30 e30 E30 g30 E_b D30
                have ne_d4_b : d4 ≠ b := Nat.ne_of_lt (Nat.lt_of_lt_of_le (V_d4.lt) (Nat.le_of_eq g30.symm))
                have n0_b : n0 ≤ b := Nat.le_trans (Nat.le_of_eq O.1.symm) (Nat.le_trans O.2.1 (Nat.le_of_eq g30.symm))
                have S_b : Safe Z EL vm hh b := Safe.new (Nat.le_of_eq g30.symm)
                replace V_d4 := V_d4.ext E30
                replace S_d4 := S_d4.ext E30 CR.1
                replace S_b := S_b.ext E30 CR.1
                replace O := O.ext E30
                replace hk := Nat.le_trans hk E30.1
                replace CR := CR.trans (CHr.ext E30 CR.1)
                have F_b_coder : Fld Z h30 b "java/lang/String" "coder" "B" (.int (0 : Int32)) := D30 (Or.inr (hw _ (List.mem_of_getElem? (i := 28) rfl))) (ty := .byte) (by decide)
                have F_b_value : Fld Z h30 b "java/lang/String" "value" "[B" .null := D30 (Or.inr (hw _ (List.mem_of_getElem? (i := 30) rfl))) (ty := (.array .byte)) (by decide)
                refine Own.g_dup X30 hx (hb hby at_801) rfl 802 rfl ?_
                refine Own.g_aload X30 hx (hb hby at_802) rfl rfl 804 rfl ?_
                refine Own.g_special X30 hx (y := (⟨"java/lang/String", "<init>", "([C)V"⟩ : MethodName)) rfl hown (mvT hZ (hw _ (List.mem_of_getElem? (i := 5) rfl))) (mvT hZ (hw _ (List.mem_of_getElem? (i := 6) rfl))) (mvT hZ (hw _ (List.mem_of_getElem? (i := 7) rfl))) (by decide) (a := b) [.ref d4] (StrChars.Road.backV (W := 1) hZ hws (kI := 4) (hw _ (List.mem_of_getElem? (i := 3) rfl)) (cs := (SECL ++ [ch])) (bs := (SECL ++ [ch]).map (fun c => c.toInt8.toInt32)) (n := 21) n0_b (Nat.le_trans (Nat.le_of_eq O.1.symm) O.2.1) E_b F_b_value F_b_coder V_d4 (O2.ext O.2) P5 (by first | rfl | (rw [List.length_set]; rfl)) rfl (by decide) (by decide) (lat_app lS L_ch) rfl (by decide) (by decide)) e30 (by rw [hml]; rfl) [(.ref b)] (lenOf pd_13 rfl) rfl (Nat.le_of_ble_eq_true rfl) (hb hby at_804) (by decide) (by decide) 807 rfl ?_
                rintro _ T31 L31 X31 ⟨rfl, N31q, K31, -, Fc31, bt, k_bt, -, sz31, -, Fv31, Va31⟩
                have hs32 : ∀ yy ∈ ([b] : List Addr), Safe Z EL vm _ yy := (allS S_b all0)
                have CR' := CR.trans (CHr.keep K31 hs32 CR.1)
                replace S_d4 := Safe.keep K31 hs32 CR.1 S_d4
                replace S_b := Safe.keep K31 hs32 CR.1 S_b
                replace CR := CR'
                replace hk := Nat.le_trans hk K31.1
                replace E_b := E_b.keep K31
                replace O := O.keep K31 (allS n0_b all0)
                have N31 := Fr.app N0 N31q
                have F_b_value := Fv31
                have F_b_coder := Fc31
                show Own.Go p e below _ (T31.setTop (mkF m 807 #[.val (.int p1), .val (.int p2), .val (.int p3), .val (.int mm), .val (.int kp), .val (.int ch), .val (.int pp), .val (.ref d1), .val (.ref d2), .val (.ref d3), .val (.ref d4), .val (.ref d5), .val (.ref d6), .unset, .val (.int (0 : Int32)), .unset, .unset] [(.ref b)]))
                have V_bt : Arv Z T31.heap bt k_bt .byte (Int32.ofNat ((SECL ++ [ch])).length) ((((SECL ++ [ch])).map fun c => c.toInt8.toInt32).map Value.int) (.int 0) := by rw [show Int32.ofNat ((SECL ++ [ch])).length = (21 : Int32) from by first | rfl | (rw [List.length_set]; rfl)]; exact Va31
                refine Own.g_astore X31 hx #[.val (.int p1), .val (.int p2), .val (.int p3), .val (.int mm), .val (.int kp), .val (.int ch), .val (.int pp), .val (.ref d1), .val (.ref d2), .val (.ref d3), .val (.ref d4), .val (.ref d5), .val (.ref d6), .val (.ref b), .val (.int (0 : Int32)), .unset, .unset] (hb hby at_807) rfl rfl 809 rfl ?_
                refine Own.g_goto X31 hx (hb hby at_809) 838 (by decide) ?_
                exact st_838a hQ hx hZ hw hby hml hown hret hlocks hEL hS hk CR p1 p2 p3 mm kp ch pp (0 : Int32) G1  ((SECL ++ [ch])) u nm t kk va kv oe d1 d2 d3 d4 d5 d6 b bt k_bt (X31.more (by decide) (by decide)) (rfl : T31.heap = T31.heap) N31 O E_b F_b_value F_b_coder V_bt   O2 P5 SV AV EV SE EE FE H S0 S1 (lat_app lS L_ch) (by first | decide | (rw [List.length_set]; decide) | exact Nat.le_of_ble_eq_true rfl) (exp_len (by first | decide | (show 21 ≠ 10; decide)) (by first | decide | (show 21 ≠ 20; decide)))
            · intro hm5
              refine Own.g_new X0 hx hZ hown (hw _ (List.mem_of_getElem? (i := 2) rfl)) (hw _ (List.mem_of_getElem? (i := 3) rfl)) (hw _ (List.mem_of_getElem? (i := 4) rfl)) e0 (hb hby at_777) (by decide) (by decide) 780 rfl ?_
              intro T27 h27 b X27 e27 E27 g27 E_b D27
              have n0_b : n0 ≤ b := Nat.le_trans (Nat.le_of_eq O.1.symm) (Nat.le_trans O.2.1 (Nat.le_of_eq g27.symm))
              have S_b : Safe Z EL vm hh b := Safe.new (Nat.le_of_eq g27.symm)
              replace S_b := S_b.ext E27 CR.1
              replace O := O.ext E27
              replace hk := Nat.le_trans hk E27.1
              replace CR := CR.trans (CHr.ext E27 CR.1)
              have F_b_coder : Fld Z h27 b "java/lang/String" "coder" "B" (.int (0 : Int32)) := D27 (Or.inr (hw _ (List.mem_of_getElem? (i := 28) rfl))) (ty := .byte) (by decide)
              have F_b_value : Fld Z h27 b "java/lang/String" "value" "[B" .null := D27 (Or.inr (hw _ (List.mem_of_getElem? (i := 30) rfl))) (ty := (.array .byte)) (by decide)
              refine Own.g_dup X27 hx (hb hby at_780) rfl 781 rfl ?_
              refine Own.g_iconst X27 hx (0 : Int32) (hb hby at_781) rfl 782 rfl ?_
              refine Own.g_newP X27 hx hZ (hw _ (List.mem_of_getElem? (i := 1) rfl)) e27 (hb hby at_782) (by decide) 0 (by decide) (by decide) (by decide) (by decide) 784 rfl .char rfl [] (fun i => by simp) ?_
              intro T28 h28 d k_d X28 e28 E28 g28 V_d
              have ne_b_d : b ≠ d := Nat.ne_of_lt (Nat.lt_of_lt_of_le (E_b.lt) (Nat.le_of_eq g28.symm))
              have n0_d : n0 ≤ d := Nat.le_trans (Nat.le_of_eq O.1.symm) (Nat.le_trans O.2.1 (Nat.le_of_eq g28.symm))
              have S_d : Safe Z EL vm h27 d := Safe.new (Nat.le_of_eq g28.symm)
              replace S_b := S_b.ext E28 CR.1
              replace E_b := E_b.ext E28
              replace F_b_coder := F_b_coder.ext E28
              replace F_b_value := F_b_value.ext E28
              replace S_d := S_d.ext E28 CR.1
              replace O := O.ext E28
              replace hk := Nat.le_trans hk E28.1
              replace CR := CR.trans (CHr.ext E28 CR.1)
              change Arv Z h28 d k_d .char (0 : Int32) [] (.int (0 : Int32)) at V_d
              refine Own.w_special X28 hx hZ (y := (⟨"java/lang/String", "<init>", "([C)V"⟩ : MethodName)) rfl hown (mvT hZ (hw _ (List.mem_of_getElem? (i := 5) rfl))) (mvT hZ (hw _ (List.mem_of_getElem? (i := 6) rfl))) (mvT hZ (hw _ (List.mem_of_getElem? (i := 7) rfl))) (by decide) (a := b) [.ref d] (Own.backW (W := 1) (SF := [b]) (rm_e3 l Z a0 hw [] b d k_d .null (.int 0) h28 n0 O n0_b V_d E_b F_b_value F_b_coder) hZ (hw _ (List.mem_of_getElem? (i := 7) rfl)) (hw _ (List.mem_of_getElem? (i := 4) rfl)) (by decide) (by decide) hEL CR.1 (allS ⟨E_b.lt, S_b⟩ all0)) e28 hS hk (by rw [hml]; rfl) [(.ref b)] (lenOf pd_13 rfl) rfl (Nat.le_of_ble_eq_true rfl) (hb hby at_784) (by decide) (by decide) 787 rfl ?_
              rintro _ T29 L29 X29 hS hZ hown C29 ⟨rfl, N29q, K29, GE, GC, bt, k_bt, nt_b, GV, GA⟩
              replace S_b := C29.safe E_b.lt S_b
              replace S_d := C29.safe V_d.lt S_d
              replace CR := CR.trans C29
              have hk : T29.heap.size ≤ T29.heap.size := Nat.le_refl _
              have N29 := Fr.app N0 N29q
              replace V_d := V_d.keep K29 (ninS (Ne.symm ne_b_d) nin0)
              replace O := O.keep K29 (allS n0_b all0)
              have E_b := GE
              have F_b_coder := GC
              have F_b_value := GV
              have V_bt := GA
              have ne_b_bt : b ≠ bt := Ne.symm nt_b
              show Own.Go p e below _ (T29.setTop (mkF m 787 #[.val (.int p1), .val (.int p2), .val (.int p3), .val (.int mm), .val (.int kp), .val (.int ch), .val (.int pp), .val (.ref d1), .val (.ref d2), .val (.ref d3), .val (.ref d4), .val (.ref d5), .val (.ref d6), .unset, .val (.int (0 : Int32)), .unset, .unset] [(.ref b)]))
              have V_bt : Arv Z T29.heap bt k_bt .byte (Int32.ofNat (([] : List Int32)).length) (((([] : List Int32)).map fun c => c.toInt8.toInt32).map Value.int) (.int 0) := by rw [show Int32.ofNat (([] : List Int32)).length = (0 : Int32) from by first | rfl | (rw [List.length_set]; rfl)]; exact V_bt
              refine Own.g_astore X29 hx #[.val (.int p1), .val (.int p2), .val (.int p3), .val (.int mm), .val (.int kp), .val (.int ch), .val (.int pp), .val (.ref d1), .val (.ref d2), .val (.ref d3), .val (.ref d4), .val (.ref d5), .val (.ref d6), .val (.ref b), .val (.int (0 : Int32)), .unset, .unset] (hb hby at_787) rfl rfl 789 rfl ?_
              refine Own.g_goto X29 hx (hb hby at_789) 838 (by decide) ?_
              exact st_838a hQ hx hZ hw hby hml hown hret hlocks hEL hS hk CR p1 p2 p3 mm kp ch pp (0 : Int32) G1  ([]) u nm t kk va kv oe d1 d2 d3 d4 d5 d6 b bt k_bt (X29.more (by decide) (by decide)) (rfl : T29.heap = T29.heap) N29 O E_b F_b_value F_b_coder V_bt   O2 P5 SV AV EV SE EE FE H S0 S1 (fun _ q => nomatch q) (by first | decide | (rw [List.length_set]; decide) | exact Nat.le_of_ble_eq_true rfl) (exp_len (by decide) (by decide))
          · intro hm4
            refine Own.g_iload X0 hx (hb hby at_762) rfl 764 rfl ?_
            refine Own.g_callS X0 hx (y := (⟨"java/lang/String", "valueOf", "(C)Ljava/lang/String;"⟩ : MethodName)) hown (mvT hZ (hw _ (List.mem_of_getElem? (i := 93) rfl))) (mvT hZ (hw _ (List.mem_of_getElem? (i := 94) rfl))) (mvT hZ (hw _ (List.mem_of_getElem? (i := 4) rfl))) (mvT hZ (hw _ (List.mem_of_getElem? (i := 95) rfl))) (by decide) [.int ch] (Own.back (W := 0) (rm_vo l Z a0 hw [] ch G1 hh n0 O L_ch O2 P5) hZ (hw _ (List.mem_of_getElem? (i := 95) rfl)) (hw _ (List.mem_of_getElem? (i := 4) rfl)) (by decide) (by decide)) e0 (by rw [hml]; rfl) [] (lenOf pd_14 rfl) rfl (Nat.le_of_ble_eq_true rfl) (hb hby at_764) (by decide) (by decide) 767 rfl ?_
            rintro _ T25 L25 X25 ⟨b, bt, k_bt, rfl, N25q, K25, sz25, szt25, E_b, F_b_value, F_b_coder, V_bt⟩
            have N25 := Fr.app N0 N25q
            have CR' := CR.trans (CHr.keep K25 all0 CR.1)
            replace CR := CR'
            replace hk := Nat.le_trans hk K25.1
            replace O := O.keep K25 all0
            show Own.Go p e below _ (T25.setTop (mkF m 767 #[.val (.int p1), .val (.int p2), .val (.int p3), .val (.int mm), .val (.int kp), .val (.int ch), .val (.int pp), .val (.ref d1), .val (.ref d2), .val (.ref d3), .val (.ref d4), .val (.ref d5), .val (.ref d6), .unset, .val (.int (0 : Int32)), .unset, .unset] [(.ref b)]))
            have V_bt : Arv Z T25.heap bt k_bt .byte (Int32.ofNat ([ch]).length) ((([ch]).map fun c => c.toInt8.toInt32).map Value.int) (.int 0) := by rw [show Int32.ofNat ([ch]).length = (1 : Int32) from by first | rfl | (rw [List.length_set]; rfl)]; exact V_bt
            refine Own.g_astore X25 hx #[.val (.int p1), .val (.int p2), .val (.int p3), .val (.int mm), .val (.int kp), .val (.int ch), .val (.int pp), .val (.ref d1), .val (.ref d2), .val (.ref d3), .val (.ref d4), .val (.ref d5), .val (.ref d6), .val (.ref b), .val (.int (0 : Int32)), .unset, .unset] (hb hby at_767) rfl rfl 769 rfl ?_
            refine Own.g_goto X25 hx (hb hby at_769) 838 (by decide) ?_
            exact st_838a hQ hx hZ hw hby hml hown hret hlocks hEL hS hk CR p1 p2 p3 mm kp ch pp (0 : Int32) G1  ([ch]) u nm t kk va kv oe d1 d2 d3 d4 d5 d6 b bt k_bt (X25.more (by decide) (by decide)) (rfl : T25.heap = T25.heap) N25 O E_b F_b_value F_b_coder V_bt   O2 P5 SV AV EV SE EE FE H S0 S1 (Own.mem1 L_ch) (by first | decide | (rw [List.length_set]; decide) | exact Nat.le_of_ble_eq_true rfl) (exp_len (by show 1 ≠ 10; decide) (by show 1 ≠ 20; decide))
        · intro hm3
          refine Own.g_iload X0 hx (hb hby at_728) rfl 730 rfl ?_
          refine Own.g_if_ne X0 hx (hb hby at_730) 743 733 (by decide) rfl ?_ ?_
          · intro hkp
            refine Own.g_new X0 hx hZ hown (hw _ (List.mem_of_getElem? (i := 2) rfl)) (hw _ (List.mem_of_getElem? (i := 3) rfl)) (hw _ (List.mem_of_getElem? (i := 4) rfl)) e0 (hb hby at_743) (by decide) (by decide) 746 rfl ?_
            intro T18 h18 b X18 e18 E18 g18 E_b D18
            have ne_d5_b : d5 ≠ b := Nat.ne_of_lt (Nat.lt_of_lt_of_le (V_d5.lt) (Nat.le_of_eq g18.symm))
            have n0_b : n0 ≤ b := Nat.le_trans (Nat.le_of_eq O.1.symm) (Nat.le_trans O.2.1 (Nat.le_of_eq g18.symm))
            have S_b : Safe Z EL vm hh b := Safe.new (Nat.le_of_eq g18.symm)
            replace V_d5 := V_d5.ext E18
            replace S_d5 := S_d5.ext E18 CR.1
            replace S_b := S_b.ext E18 CR.1
            replace O := O.ext E18
            replace hk := Nat.le_trans hk E18.1
            replace CR := CR.trans (CHr.ext E18 CR.1)
            have F_b_coder : Fld Z h18 b "java/lang/String" "coder" "B" (.int (0 : Int32)) := D18 (Or.inr (hw _ (List.mem_of_getElem? (i := 28) rfl))) (ty := .byte) (by decide)
            have F_b_value : Fld Z h18 b "java/lang/String" "value" "[B" .null := D18 (Or.inr (hw _ (List.mem_of_getElem? (i := 30) rfl))) (ty := (.array .byte)) (by decide)
            refine Own.g_dup X18 hx (hb hby at_746) rfl 747 rfl ?_
            refine Own.g_aload X18 hx (hb hby at_747) rfl rfl 749 rfl ?_
            refine Own.g_special X18 hx (y := (⟨"java/lang/String", "<init>", "([C)V"⟩ : MethodName)) rfl hown (mvT hZ (hw _ (List.mem_of_getElem? (i := 5) rfl))) (mvT hZ (hw _ (List.mem_of_getElem? (i := 6) rfl))) (mvT hZ (hw _ (List.mem_of_getElem? (i := 7) rfl))) (by decide) (a := b) [.ref d5] (StrChars.Road.backV (W := 1) hZ hws (kI := 4) (hw _ (List.mem_of_getElem? (i := 3) rfl)) (cs := S19) (bs := S19.map (fun c => c.toInt8.toInt32)) (n := 19) n0_b (Nat.le_trans (Nat.le_of_eq O.1.symm) O.2.1) E_b F_b_value F_b_coder V_d5 (O2.ext O.2) P5 (by first | rfl | (rw [List.length_set]; rfl)) rfl (by decide) (by decide) lS19 rfl (by decide) (by decide)) e18 (by rw [hml]; rfl) [(.ref b)] (lenOf pd_13 rfl) rfl (Nat.le_of_ble_eq_true rfl) (hb hby at_749) (by decide) (by decide) 752 rfl ?_
            rintro _ T19 L19 X19 ⟨rfl, N19q, K19, -, Fc19, bt, k_bt, -, sz19, -, Fv19, Va19⟩
            have hs20 : ∀ yy ∈ ([b] : List Addr), Safe Z EL vm _ yy := (allS S_b all0)
            have CR' := CR.trans (CHr.keep K19 hs20 CR.1)
            replace S_d5 := Safe.keep K19 hs20 CR.1 S_d5
            replace S_b := Safe.keep K19 hs20 CR.1 S_b
            replace CR := CR'
            replace hk := Nat.le_trans hk K19.1
            replace E_b := E_b.keep K19
            replace O := O.keep K19 (allS n0_b all0)
            have N19 := Fr.app N0 N19q
            have F_b_value := Fv19
            have F_b_coder := Fc19
            show Own.Go p e below _ (T19.setTop (mkF m 752 #[.val (.int p1), .val (.int p2), .val (.int p3), .val (.int mm), .val (.int kp), .val (.int ch), .val (.int pp), .val (.ref d1), .val (.ref d2), .val (.ref d3), .val (.ref d4), .val (.ref d5), .val (.ref d6), .unset, .val (.int (0 : Int32)), .unset, .unset] [(.ref b)]))
            have V_bt : Arv Z T19.heap bt k_bt .byte (Int32.ofNat (S19).length) (((S19).map fun c => c.toInt8.toInt32).map Value.int) (.int 0) := by rw [show Int32.ofNat (S19).length = (19 : Int32) from by first | rfl | (rw [List.length_set]; rfl)]; exact Va19
            refine Own.g_astore X19 hx #[.val (.int p1), .val (.int p2), .val (.int p3), .val (.int mm), .val (.int kp), .val (.int ch), .val (.int pp), .val (.ref d1), .val (.ref d2), .val (.ref d3), .val (.ref d4), .val (.ref d5), .val (.ref d6), .val (.ref b), .val (.int (0 : Int32)), .unset, .unset] (hb hby at_752) rfl rfl 754 rfl ?_
            refine Own.g_goto X19 hx (hb hby at_754) 838 (by decide) ?_
            exact st_838a hQ hx hZ hw hby hml hown hret hlocks hEL hS hk CR p1 p2 p3 mm kp ch pp (0 : Int32) G1  (S19) u nm t kk va kv oe d1 d2 d3 d4 d5 d6 b bt k_bt (X19.more (by decide) (by decide)) (rfl : T19.heap = T19.heap) N19 O E_b F_b_value F_b_coder V_bt   O2 P5 SV AV EV SE EE FE H S0 S1 lS19 (by first | decide | (rw [List.length_set]; decide) | exact Nat.le_of_ble_eq_true rfl) (exp_len (by first | decide | (rw [List.length_set]; decide)) (by first | decide | (rw [List.length_set]; decide)))
          · intro hkp
            refine Own.g_aload X0 hx (hb hby at_733) rfl rfl 735 rfl ?_
            refine Own.g_iload X0 hx (hb hby at_735) rfl 737 rfl ?_
            refine Own.g_bipush X0 hx (19 : Int32) (hb hby at_737) rfl 739 rfl ?_
            refine Own.g_irem X0 hx (hb hby at_739) (by decide) 740 rfl ?_
            refine Own.g_iload X0 hx (hb hby at_740) rfl 742 rfl ?_
            have J_ii : ¬ (pp % (19 : Int32)) < 0 ∧ (pp % (19 : Int32)) < (19 : Int32) := mod_in N_pp (by decide)
            refine Own.g_stC X0 hx hZ e0 V_d5 ch (Own.nar_lat L_ch) J_ii ((pp % (19 : Int32))).toNatClampNeg rfl (by show _ < (S19.map Value.int).length; rw [List.length_map]; exact cl_lt (n := 19) J_ii rfl) ((S19.set ((pp % (19 : Int32))).toNatClampNeg ch).map Value.int) (by rw [List.map_set]) (hb hby at_742) 743 rfl ?_
            clear V_d5; intro T21 h21 X21 e21 W21 V_d5
            have CR' := CR.trans (CHr.wr W21 S_d5 CR.1)
            replace S_d5 := Safe.wr W21 S_d5 CR.1 S_d5
            replace CR := CR'
            replace hk := Nat.le_trans hk (Keep.of_wr W21).1
            replace O := O.wr W21 n0_d5
            have N21 := Fr.snoc X21 N0 n0_d5
            show Own.Go p e below _ (T21.setTop (mkF m 743 #[.val (.int p1), .val (.int p2), .val (.int p3), .val (.int mm), .val (.int kp), .val (.int ch), .val (.int pp), .val (.ref d1), .val (.ref d2), .val (.ref d3), .val (.ref d4), .val (.ref d5), .val (.ref d6), .unset, .val (.int (0 : Int32)), .unset, .unset] []))
            refine Own.g_new X21 hx hZ hown (hw _ (List.mem_of_getElem? (i := 2) rfl)) (hw _ (List.mem_of_getElem? (i := 3) rfl)) (hw _ (List.mem_of_getElem? (i := 4) rfl)) e21 (hb hby at_743) (by decide) (by decide) 746 rfl ?_
            intro T22 h22 b X22 e22 E22 g22 E_b D22
            have ne_d5_b : d5 ≠ b := Nat.ne_of_lt (Nat.lt_of_lt_of_le (V_d5.lt) (Nat.le_of_eq g22.symm))
            have n0_b : n0 ≤ b := Nat.le_trans (Nat.le_of_eq O.1.symm) (Nat.le_trans O.2.1 (Nat.le_of_eq g22.symm))
            have S_b : Safe Z EL vm h21 b := Safe.new (Nat.le_of_eq g22.symm)
            replace V_d5 := V_d5.ext E22
            replace S_d5 := S_d5.ext E22 CR.1
            replace S_b := S_b.ext E22 CR.1
            replace O := O.ext E22
            replace hk := Nat.le_trans hk E22.1
            replace CR := CR.trans (CHr.ext E22 CR.1)
            have F_b_coder : Fld Z h22 b "java/lang/String" "coder" "B" (.int (0 : Int32)) := D22 (Or.inr (hw _ (List.mem_of_getElem? (i := 28) rfl))) (ty := .byte) (by decide)
            have F_b_value : Fld Z h22 b "java/lang/String" "value" "[B" .null := D22 (Or.inr (hw _ (List.mem_of_getElem? (i := 30) rfl))) (ty := (.array .byte)) (by decide)
            refine Own.g_dup X22 hx (hb hby at_746) rfl 747 rfl ?_
            refine Own.g_aload X22 hx (hb hby at_747) rfl rfl 749 rfl ?_
            refine Own.g_special X22 hx (y := (⟨"java/lang/String", "<init>", "([C)V"⟩ : MethodName)) rfl hown (mvT hZ (hw _ (List.mem_of_getElem? (i := 5) rfl))) (mvT hZ (hw _ (List.mem_of_getElem? (i := 6) rfl))) (mvT hZ (hw _ (List.mem_of_getElem? (i := 7) rfl))) (by decide) (a := b) [.ref d5] (StrChars.Road.backV (W := 1) hZ hws (kI := 4) (hw _ (List.mem_of_getElem? (i := 3) rfl)) (cs := (S19.set ((pp % (19 : Int32))).toNatClampNeg ch)) (bs := (S19.set ((pp % (19 : Int32))).toNatClampNeg ch).map (fun c => c.toInt8.toInt32)) (n := 19) n0_b (Nat.le_trans (Nat.le_of_eq O.1.symm) O.2.1) E_b F_b_value F_b_coder V_d5 (O2.ext O.2) P5 (by first | rfl | (rw [List.length_set]; rfl)) rfl (by decide) (by decide) (lat_set lS19 L_ch) rfl (by decide) (by decide)) e22 (by rw [hml]; rfl) [(.ref b)] (lenOf pd_13 rfl) rfl (Nat.le_of_ble_eq_true rfl) (hb hby at_749) (by decide) (by decide) 752 rfl ?_
            rintro _ T23 L23 X23 ⟨rfl, N23q, K23, -, Fc23, bt, k_bt, -, sz23, -, Fv23, Va23⟩
            have hs24 : ∀ yy ∈ ([b] : List Addr), Safe Z EL vm _ yy := (allS S_b all0)
            have CR' := CR.trans (CHr.keep K23 hs24 CR.1)
            replace S_d5 := Safe.keep K23 hs24 CR.1 S_d5
            replace S_b := Safe.keep K23 hs24 CR.1 S_b
            replace CR := CR'
            replace hk := Nat.le_trans hk K23.1
            replace E_b := E_b.keep K23
            replace O := O.keep K23 (allS n0_b all0)
            have N23 := Fr.app N21 N23q
            have F_b_value := Fv23
            have F_b_coder := Fc23
            show Own.Go p e below _ (T23.setTop (mkF m 752 #[.val (.int p1), .val (.int p2), .val (.int p3), .val (.int mm), .val (.int kp), .val (.int ch), .val (.int pp), .val (.ref d1), .val (.ref d2), .val (.ref d3), .val (.ref d4), .val (.ref d5), .val (.ref d6), .unset, .val (.int (0 : Int32)), .unset, .unset] [(.ref b)]))
            have V_bt : Arv Z T23.heap bt k_bt .byte (Int32.ofNat ((S19.set ((pp % (19 : Int32))).toNatClampNeg ch)).length) ((((S19.set ((pp % (19 : Int32))).toNatClampNeg ch)).map fun c => c.toInt8.toInt32).map Value.int) (.int 0) := by rw [show Int32.ofNat ((S19.set ((pp % (19 : Int32))).toNatClampNeg ch)).length = (19 : Int32) from by first | rfl | (rw [List.length_set]; rfl)]; exact Va23
            refine Own.g_astore X23 hx #[.val (.int p1), .val (.int p2), .val (.int p3), .val (.int mm), .val (.int kp), .val (.int ch), .val (.int pp), .val (.ref d1), .val (.ref d2), .val (.ref d3), .val (.ref d4), .val (.ref d5), .val (.ref d6), .val (.ref b), .val (.int (0 : Int32)), .unset, .unset] (hb hby at_752) rfl rfl 754 rfl ?_
            refine Own.g_goto X23 hx (hb hby at_754) 838 (by decide) ?_
            exact st_838a hQ hx hZ hw hby hml hown hret hlocks hEL hS hk CR p1 p2 p3 mm kp ch pp (0 : Int32) G1  ((S19.set ((pp % (19 : Int32))).toNatClampNeg ch)) u nm t kk va kv oe d1 d2 d3 d4 d5 d6 b bt k_bt (X23.more (by decide) (by decide)) (rfl : T23.heap = T23.heap) N23 O E_b F_b_value F_b_coder V_bt   O2 P5 SV AV EV SE EE FE H S0 S1 (lat_set lS19 L_ch) (by first | decide | (rw [List.length_set]; decide) | exact Nat.le_of_ble_eq_true rfl) (exp_len (by first | decide | (rw [List.length_set]; decide)) (by first | decide | (rw [List.length_set]; decide)))
      · intro hm2
        refine Own.g_new X0 hx hZ hown (hw _ (List.mem_of_getElem? (i := 2) rfl)) (hw _ (List.mem_of_getElem? (i := 3) rfl)) (hw _ (List.mem_of_getElem? (i := 4) rfl)) e0 (hb hby at_709) (by decide) (by decide) 712 rfl ?_
        intro T15 h15 b X15 e15 E15 g15 E_b D15
        have ne_d3_b : d3 ≠ b := Nat.ne_of_lt (Nat.lt_of_lt_of_le (V_d3.lt) (Nat.le_of_eq g15.symm))
        have n0_b : n0 ≤ b := Nat.le_trans (Nat.le_of_eq O.1.symm) (Nat.le_trans O.2.1 (Nat.le_of_eq g15.symm))
        have S_b : Safe Z EL vm hh b := Safe.new (Nat.le_of_eq g15.symm)
        replace V_d3 := V_d3.ext E15
        replace S_d3 := S_d3.ext E15 CR.1
        replace S_b := S_b.ext E15 CR.1
        replace O := O.ext E15
        replace hk := Nat.le_trans hk E15.1
        replace CR := CR.trans (CHr.ext E15 CR.1)
        have F_b_coder : Fld Z h15 b "java/lang/String" "coder" "B" (.int (0 : Int32)) := D15 (Or.inr (hw _ (List.mem_of_getElem? (i := 28) rfl))) (ty := .byte) (by decide)
        have F_b_value : Fld Z h15 b "java/lang/String" "value" "[B" .null := D15 (Or.inr (hw _ (List.mem_of_getElem? (i := 30) rfl))) (ty := (.array .byte)) (by decide)
        refine Own.g_dup X15 hx (hb hby at_712) rfl 713 rfl ?_
        refine Own.g_aload X15 hx (hb hby at_713) rfl rfl 715 rfl ?_
        refine Own.g_special X15 hx (y := (⟨"java/lang/String", "<init>", "([C)V"⟩ : MethodName)) rfl hown (mvT hZ (hw _ (List.mem_of_getElem? (i := 5) rfl))) (mvT hZ (hw _ (List.mem_of_getElem? (i := 6) rfl))) (mvT hZ (hw _ (List.mem_of_getElem? (i := 7) rfl))) (by decide) (a := b) [.ref d3] (StrChars.Road.backV (W := 1) hZ hws (kI := 4) (hw _ (List.mem_of_getElem? (i := 3) rfl)) (cs := (DAYL ++ [ch])) (bs := (DAYL ++ [ch]).map (fun c => c.toInt8.toInt32)) (n := 11) n0_b (Nat.le_trans (Nat.le_of_eq O.1.symm) O.2.1) E_b F_b_value F_b_coder V_d3 (O2.ext O.2) P5 (by first | rfl | (rw [List.length_set]; rfl)) rfl (by decide) (by decide) (lat_app lD L_ch) rfl (by decide) (by decide)) e15 (by rw [hml]; rfl) [(.ref b)] (lenOf pd_13 rfl) rfl (Nat.le_of_ble_eq_true rfl) (hb hby at_715) (by decide) (by decide) 718 rfl ?_
        rintro _ T16 L16 X16 ⟨rfl, N16q, K16, -, Fc16, bt, k_bt, -, sz16, -, Fv16, Va16⟩
        have hs17 : ∀ yy ∈ ([b] : List Addr), Safe Z EL vm _ yy := (allS S_b all0)
        have CR' := CR.trans (CHr.keep K16 hs17 CR.1)
        replace S_d3 := Safe.keep K16 hs17 CR.1 S_d3
        replace S_b := Safe.keep K16 hs17 CR.1 S_b
        replace CR := CR'
        replace hk := Nat.le_trans hk K16.1
        replace E_b := E_b.keep K16
        replace O := O.keep K16 (allS n0_b all0)
        have N16 := Fr.app N0 N16q
        have F_b_value := Fv16
        have F_b_coder := Fc16
        show Own.Go p e below _ (T16.setTop (mkF m 718 #[.val (.int p1), .val (.int p2), .val (.int p3), .val (.int mm), .val (.int kp), .val (.int ch), .val (.int pp), .val (.ref d1), .val (.ref d2), .val (.ref d3), .val (.ref d4), .val (.ref d5), .val (.ref d6), .unset, .val (.int (0 : Int32)), .unset, .unset] [(.ref b)]))
        have V_bt : Arv Z T16.heap bt k_bt .byte (Int32.ofNat ((DAYL ++ [ch])).length) ((((DAYL ++ [ch])).map fun c => c.toInt8.toInt32).map Value.int) (.int 0) := by rw [show Int32.ofNat ((DAYL ++ [ch])).length = (11 : Int32) from by first | rfl | (rw [List.length_set]; rfl)]; exact Va16
        refine Own.g_astore X16 hx #[.val (.int p1), .val (.int p2), .val (.int p3), .val (.int mm), .val (.int kp), .val (.int ch), .val (.int pp), .val (.ref d1), .val (.ref d2), .val (.ref d3), .val (.ref d4), .val (.ref d5), .val (.ref d6), .val (.ref b), .val (.int (0 : Int32)), .unset, .unset] (hb hby at_718) rfl rfl 720 rfl ?_
        refine Own.g_goto X16 hx (hb hby at_720) 838 (by decide) ?_
        exact st_838a hQ hx hZ hw hby hml hown hret hlocks hEL hS hk CR p1 p2 p3 mm kp ch pp (0 : Int32) G1  ((DAYL ++ [ch])) u nm t kk va kv oe d1 d2 d3 d4 d5 d6 b bt k_bt (X16.more (by decide) (by decide)) (rfl : T16.heap = T16.heap) N16 O E_b F_b_value F_b_coder V_bt   O2 P5 SV AV EV SE EE FE H S0 S1 (lat_app lD L_ch) (by first | decide | (rw [List.length_set]; decide) | exact Nat.le_of_ble_eq_true rfl) (exp_len (by first | decide | (show 11 ≠ 10; decide)) (by first | decide | (show 11 ≠ 20; decide)))
    · intro hm1
      refine Own.g_iload X0 hx (hb hby at_645) rfl 647 rfl ?_
      refine Own.g_bipush X0 hx (20 : Int32) (hb hby at_647) rfl 649 rfl ?_
      refine Own.g_irem X0 hx (hb hby at_649) (by decide) 650 rfl ?_
      refine Own.g_istore X0 hx #[.val (.int p1), .val (.int p2), .val (.int p3), .val (.int mm), .val (.int kp), .val (.int ch), .val (.int pp), .val (.ref d1), .val (.ref d2), .val (.ref d3), .val (.ref d4), .val (.ref d5), .val (.ref d6), .unset, .val (.int (0 : Int32)), .val (.int (pp % (20 : Int32))), .unset] (hb hby at_650) rfl 652 rfl ?_
      obtain ⟨ii, hii⟩ : ∃ z : Int32, z = (pp % (20 : Int32)) := ⟨_, rfl⟩
      rw [← hii]
      have J_ii : ¬ ii < 0 ∧ ii < (20 : Int32) := by rw [hii]; exact mod_in N_pp (by decide)
      refine Own.g_aload X0 hx (hb hby at_652) rfl rfl 654 rfl ?_
      refine Own.g_iload X0 hx (hb hby at_654) rfl 656 rfl ?_
      refine Own.g_ldC X0 hx hZ e0 V_d2 J_ii (SECL.getD ii.toNatClampNeg 0) getD_map (hb hby at_656) 657 rfl ?_
      refine Own.g_istore X0 hx #[.val (.int p1), .val (.int p2), .val (.int p3), .val (.int mm), .val (.int kp), .val (.int ch), .val (.int pp), .val (.ref d1), .val (.ref d2), .val (.ref d3), .val (.ref d4), .val (.ref d5), .val (.ref d6), .unset, .val (.int (0 : Int32)), .val (.int ii), .val (.int (SECL.getD ii.toNatClampNeg 0))] (hb hby at_657) rfl 659 rfl ?_
      obtain ⟨og, hog⟩ : ∃ z : Int32, z = (SECL.getD ii.toNatClampNeg 0) := ⟨_, rfl⟩
      rw [← hog]
      refine Own.g_iload X0 hx (hb hby at_659) rfl 661 rfl ?_
      refine Own.g_if_ne X0 hx (hb hby at_661) 671 664 (by decide) rfl ?_ ?_
      · intro hkp
        refine Own.g_new X0 hx hZ hown (hw _ (List.mem_of_getElem? (i := 2) rfl)) (hw _ (List.mem_of_getElem? (i := 3) rfl)) (hw _ (List.mem_of_getElem? (i := 4) rfl)) e0 (hb hby at_671) (by decide) (by decide) 674 rfl ?_
        intro T8 h8 b X8 e8 E8 g8 E_b D8
        have ne_d2_b : d2 ≠ b := Nat.ne_of_lt (Nat.lt_of_lt_of_le (V_d2.lt) (Nat.le_of_eq g8.symm))
        have n0_b : n0 ≤ b := Nat.le_trans (Nat.le_of_eq O.1.symm) (Nat.le_trans O.2.1 (Nat.le_of_eq g8.symm))
        have S_b : Safe Z EL vm hh b := Safe.new (Nat.le_of_eq g8.symm)
        replace V_d2 := V_d2.ext E8
        replace S_d2 := S_d2.ext E8 CR.1
        replace S_b := S_b.ext E8 CR.1
        replace O := O.ext E8
        replace hk := Nat.le_trans hk E8.1
        replace CR := CR.trans (CHr.ext E8 CR.1)
        have F_b_coder : Fld Z h8 b "java/lang/String" "coder" "B" (.int (0 : Int32)) := D8 (Or.inr (hw _ (List.mem_of_getElem? (i := 28) rfl))) (ty := .byte) (by decide)
        have F_b_value : Fld Z h8 b "java/lang/String" "value" "[B" .null := D8 (Or.inr (hw _ (List.mem_of_getElem? (i := 30) rfl))) (ty := (.array .byte)) (by decide)
        refine Own.g_dup X8 hx (hb hby at_674) rfl 675 rfl ?_
        refine Own.g_aload X8 hx (hb hby at_675) rfl rfl 677 rfl ?_
        refine Own.g_special X8 hx (y := (⟨"java/lang/String", "<init>", "([C)V"⟩ : MethodName)) rfl hown (mvT hZ (hw _ (List.mem_of_getElem? (i := 5) rfl))) (mvT hZ (hw _ (List.mem_of_getElem? (i := 6) rfl))) (mvT hZ (hw _ (List.mem_of_getElem? (i := 7) rfl))) (by decide) (a := b) [.ref d2] (StrChars.Road.backV (W := 1) hZ hws (kI := 4) (hw _ (List.mem_of_getElem? (i := 3) rfl)) (cs := SECL) (bs := SECL.map (fun c => c.toInt8.toInt32)) (n := 20) n0_b (Nat.le_trans (Nat.le_of_eq O.1.symm) O.2.1) E_b F_b_value F_b_coder V_d2 (O2.ext O.2) P5 (by first | rfl | (rw [List.length_set]; rfl)) rfl (by decide) (by decide) lS rfl (by decide) (by decide)) e8 (by rw [hml]; rfl) [(.ref b)] (lenOf pd_13 rfl) rfl (Nat.le_of_ble_eq_true rfl) (hb hby at_677) (by decide) (by decide) 680 rfl ?_
        rintro _ T9 L9 X9 ⟨rfl, N9q, K9, -, Fc9, bt, k_bt, -, sz9, -, Fv9, Va9⟩
        have hs10 : ∀ yy ∈ ([b] : List Addr), Safe Z EL vm _ yy := (allS S_b all0)
        have CR' := CR.trans (CHr.keep K9 hs10 CR.1)
        replace S_d2 := Safe.keep K9 hs10 CR.1 S_d2
        replace S_b := Safe.keep K9 hs10 CR.1 S_b
        replace CR := CR'
        replace hk := Nat.le_trans hk K9.1
        replace E_b := E_b.keep K9
        replace O := O.keep K9 (allS n0_b all0)
        have N9 := Fr.app N0 N9q
        have F_b_value := Fv9
        have F_b_coder := Fc9
        show Own.Go p e below _ (T9.setTop (mkF m 680 #[.val (.int p1), .val (.int p2), .val (.int p3), .val (.int mm), .val (.int kp), .val (.int ch), .val (.int pp), .val (.ref d1), .val (.ref d2), .val (.ref d3), .val (.ref d4), .val (.ref d5), .val (.ref d6), .unset, .val (.int (0 : Int32)), .val (.int ii), .val (.int og)] [(.ref b)]))
        have V_bt : Arv Z T9.heap bt k_bt .byte (Int32.ofNat (SECL).length) (((SECL).map fun c => c.toInt8.toInt32).map Value.int) (.int 0) := by rw [show Int32.ofNat (SECL).length = (20 : Int32) from by first | rfl | (rw [List.length_set]; rfl)]; exact Va9
        refine Own.g_astore X9 hx #[.val (.int p1), .val (.int p2), .val (.int p3), .val (.int mm), .val (.int kp), .val (.int ch), .val (.int pp), .val (.ref d1), .val (.ref d2), .val (.ref d3), .val (.ref d4), .val (.ref d5), .val (.ref d6), .val (.ref b), .val (.int (0 : Int32)), .val (.int ii), .val (.int og)] (hb hby at_680) rfl rfl 682 rfl ?_
        refine Own.g_iload X9 hx (hb hby at_682) rfl 684 rfl ?_
        refine Own.g_if_ne_t X9 hx (hb hby at_684) hkp 694 (by decide) ?_
        refine Own.g_iconst X9 hx (2 : Int32) (hb hby at_694) rfl 695 rfl ?_
        refine Own.g_goto X9 hx (hb hby at_695) 699 (by decide) ?_
        refine Own.g_istore X9 hx #[.val (.int p1), .val (.int p2), .val (.int p3), .val (.int mm), .val (.int kp), .val (.int ch), .val (.int pp), .val (.ref d1), .val (.ref d2), .val (.ref d3), .val (.ref d4), .val (.ref d5), .val (.ref d6), .val (.ref b), .val (.int (2 : Int32)), .val (.int ii), .val (.int og)] (hb hby at_699) rfl 701 rfl ?_
        refine Own.g_goto X9 hx (hb hby at_701) 838 (by decide) ?_
        exact st_838b hQ hx hZ hw hby hml hown hret hlocks hEL hS hk CR p1 p2 p3 mm kp ch pp (2 : Int32) G1 ii og (SECL) u nm t kk va kv oe d1 d2 d3 d4 d5 d6 b bt k_bt (X9.more (by decide) (by decide)) (rfl : T9.heap = T9.heap) N9 O E_b F_b_value F_b_coder V_bt   O2 P5 SV AV EV SE EE FE H S0 S1 lS (by first | decide | (rw [List.length_set]; decide) | exact Nat.le_of_ble_eq_true rfl) (Or.inr (Or.inr ⟨rfl, rfl⟩))
      · intro hkp
        refine Own.g_aload X0 hx (hb hby at_664) rfl rfl 666 rfl ?_
        refine Own.g_iload X0 hx (hb hby at_666) rfl 668 rfl ?_
        refine Own.g_iload X0 hx (hb hby at_668) rfl 670 rfl ?_
        refine Own.g_stC X0 hx hZ e0 V_d2 ch (Own.nar_lat L_ch) J_ii (ii).toNatClampNeg rfl (by show _ < (SECL.map Value.int).length; rw [List.length_map]; exact cl_lt (n := 20) J_ii rfl) ((SECL.set (ii).toNatClampNeg ch).map Value.int) (by rw [List.map_set]) (hb hby at_670) 671 rfl ?_
        clear V_d2; intro T11 h11 X11 e11 W11 V_d2
        have CR' := CR.trans (CHr.wr W11 S_d2 CR.1)
        replace S_d2 := Safe.wr W11 S_d2 CR.1 S_d2
        replace CR := CR'
        replace hk := Nat.le_trans hk (Keep.of_wr W11).1
        replace O := O.wr W11 n0_d2
        have N11 := Fr.snoc X11 N0 n0_d2
        show Own.Go p e below _ (T11.setTop (mkF m 671 #[.val (.int p1), .val (.int p2), .val (.int p3), .val (.int mm), .val (.int kp), .val (.int ch), .val (.int pp), .val (.ref d1), .val (.ref d2), .val (.ref d3), .val (.ref d4), .val (.ref d5), .val (.ref d6), .unset, .val (.int (0 : Int32)), .val (.int ii), .val (.int og)] []))
        refine Own.g_new X11 hx hZ hown (hw _ (List.mem_of_getElem? (i := 2) rfl)) (hw _ (List.mem_of_getElem? (i := 3) rfl)) (hw _ (List.mem_of_getElem? (i := 4) rfl)) e11 (hb hby at_671) (by decide) (by decide) 674 rfl ?_
        intro T12 h12 b X12 e12 E12 g12 E_b D12
        have ne_d2_b : d2 ≠ b := Nat.ne_of_lt (Nat.lt_of_lt_of_le (V_d2.lt) (Nat.le_of_eq g12.symm))
        have n0_b : n0 ≤ b := Nat.le_trans (Nat.le_of_eq O.1.symm) (Nat.le_trans O.2.1 (Nat.le_of_eq g12.symm))
        have S_b : Safe Z EL vm h11 b := Safe.new (Nat.le_of_eq g12.symm)
        replace V_d2 := V_d2.ext E12
        replace S_d2 := S_d2.ext E12 CR.1
        replace S_b := S_b.ext E12 CR.1
        replace O := O.ext E12
        replace hk := Nat.le_trans hk E12.1
        replace CR := CR.trans (CHr.ext E12 CR.1)
        have F_b_coder : Fld Z h12 b "java/lang/String" "coder" "B" (.int (0 : Int32)) := D12 (Or.inr (hw _ (List.mem_of_getElem? (i := 28) rfl))) (ty := .byte) (by decide)
        have F_b_value : Fld Z h12 b "java/lang/String" "value" "[B" .null := D12 (Or.inr (hw _ (List.mem_of_getElem? (i := 30) rfl))) (ty := (.array .byte)) (by decide)
        refine Own.g_dup X12 hx (hb hby at_674) rfl 675 rfl ?_
        refine Own.g_aload X12 hx (hb hby at_675) rfl rfl 677 rfl ?_
        refine Own.g_special X12 hx (y := (⟨"java/lang/String", "<init>", "([C)V"⟩ : MethodName)) rfl hown (mvT hZ (hw _ (List.mem_of_getElem? (i := 5) rfl))) (mvT hZ (hw _ (List.mem_of_getElem? (i := 6) rfl))) (mvT hZ (hw _ (List.mem_of_getElem? (i := 7) rfl))) (by decide) (a := b) [.ref d2] (StrChars.Road.backV (W := 1) hZ hws (kI := 4) (hw _ (List.mem_of_getElem? (i := 3) rfl)) (cs := (SECL.set ii.toNatClampNeg ch)) (bs := (SECL.set ii.toNatClampNeg ch).map (fun c => c.toInt8.toInt32)) (n := 20) n0_b (Nat.le_trans (Nat.le_of_eq O.1.symm) O.2.1) E_b F_b_value F_b_coder V_d2 (O2.ext O.2) P5 (by first | rfl | (rw [List.length_set]; rfl)) rfl (by decide) (by decide) (lat_set lS L_ch) rfl (by decide) (by decide)) e12 (by rw [hml]; rfl) [(.ref b)] (lenOf pd_13 rfl) rfl (Nat.le_of_ble_eq_true rfl) (hb hby at_677) (by decide) (by decide) 680 rfl ?_
        rintro _ T13 L13 X13 ⟨rfl, N13q, K13, -, Fc13, bt, k_bt, -, sz13, -, Fv13, Va13⟩
        have hs14 : ∀ yy ∈ ([b] : List Addr), Safe Z EL vm _ yy := (allS S_b all0)
        have CR' := CR.trans (CHr.keep K13 hs14 CR.1)
        replace S_d2 := Safe.keep K13 hs14 CR.1 S_d2
        replace S_b := Safe.keep K13 hs14 CR.1 S_b
        replace CR := CR'
        replace hk := Nat.le_trans hk K13.1
        replace E_b := E_b.keep K13
        replace O := O.keep K13 (allS n0_b all0)
        have N13 := Fr.app N11 N13q
        have F_b_value := Fv13
        have F_b_coder := Fc13
        show Own.Go p e below _ (T13.setTop (mkF m 680 #[.val (.int p1), .val (.int p2), .val (.int p3), .val (.int mm), .val (.int kp), .val (.int ch), .val (.int pp), .val (.ref d1), .val (.ref d2), .val (.ref d3), .val (.ref d4), .val (.ref d5), .val (.ref d6), .unset, .val (.int (0 : Int32)), .val (.int ii), .val (.int og)] [(.ref b)]))
        have V_bt : Arv Z T13.heap bt k_bt .byte (Int32.ofNat ((SECL.set ii.toNatClampNeg ch)).length) ((((SECL.set ii.toNatClampNeg ch)).map fun c => c.toInt8.toInt32).map Value.int) (.int 0) := by rw [show Int32.ofNat ((SECL.set ii.toNatClampNeg ch)).length = (20 : Int32) from by first | rfl | (rw [List.length_set]; rfl)]; exact Va13
        refine Own.g_astore X13 hx #[.val (.int p1), .val (.int p2), .val (.int p3), .val (.int mm), .val (.int kp), .val (.int ch), .val (.int pp), .val (.ref d1), .val (.ref d2), .val (.ref d3), .val (.ref d4), .val (.ref d5), .val (.ref d6), .val (.ref b), .val (.int (0 : Int32)), .val (.int ii), .val (.int og)] (hb hby at_680) rfl rfl 682 rfl ?_
        refine Own.g_iload X13 hx (hb hby at_682) rfl 684 rfl ?_
        refine Own.g_if_ne_f X13 hx (hb hby at_684) hkp 687 rfl ?_
        refine Own.g_iload X13 hx (hb hby at_687) rfl 689 rfl ?_
        refine Own.g_iload X13 hx (hb hby at_689) rfl 691 rfl ?_
        refine Own.g_icmp_ne X13 hx (hb hby at_691) 698 694 (by decide) rfl ?_ ?_
        · intro hog2
          refine Own.g_iconst X13 hx (0 : Int32) (hb hby at_698) rfl 699 rfl ?_
          refine Own.g_istore X13 hx #[.val (.int p1), .val (.int p2), .val (.int p3), .val (.int mm), .val (.int kp), .val (.int ch), .val (.int pp), .val (.ref d1), .val (.ref d2), .val (.ref d3), .val (.ref d4), .val (.ref d5), .val (.ref d6), .val (.ref b), .val (.int (0 : Int32)), .val (.int ii), .val (.int og)] (hb hby at_699) rfl 701 rfl ?_
          refine Own.g_goto X13 hx (hb hby at_701) 838 (by decide) ?_
          exact st_838b hQ hx hZ hw hby hml hown hret hlocks hEL hS hk CR p1 p2 p3 mm kp ch pp (0 : Int32) G1 ii og ((SECL.set ii.toNatClampNeg ch)) u nm t kk va kv oe d1 d2 d3 d4 d5 d6 b bt k_bt (X13.more (by decide) (by decide)) (rfl : T13.heap = T13.heap) N13 O E_b F_b_value F_b_coder V_bt   O2 P5 SV AV EV SE EE FE H S0 S1 (lat_set lS L_ch) (by first | decide | (rw [List.length_set]; decide) | exact Nat.le_of_ble_eq_true rfl) (expS (cl_lt J_ii rfl) (by rw [← hog]; exact hog2))
        · intro hog2
          refine Own.g_iconst X13 hx (2 : Int32) (hb hby at_694) rfl 695 rfl ?_
          refine Own.g_goto X13 hx (hb hby at_695) 699 (by decide) ?_
          refine Own.g_istore X13 hx #[.val (.int p1), .val (.int p2), .val (.int p3), .val (.int mm), .val (.int kp), .val (.int ch), .val (.int pp), .val (.ref d1), .val (.ref d2), .val (.ref d3), .val (.ref d4), .val (.ref d5), .val (.ref d6), .val (.ref b), .val (.int (2 : Int32)), .val (.int ii), .val (.int og)] (hb hby at_699) rfl 701 rfl ?_
          refine Own.g_goto X13 hx (hb hby at_701) 838 (by decide) ?_
          exact st_838b hQ hx hZ hw hby hml hown hret hlocks hEL hS hk CR p1 p2 p3 mm kp ch pp (2 : Int32) G1 ii og ((SECL.set ii.toNatClampNeg ch)) u nm t kk va kv oe d1 d2 d3 d4 d5 d6 b bt k_bt (X13.more (by decide) (by decide)) (rfl : T13.heap = T13.heap) N13 O E_b F_b_value F_b_coder V_bt   O2 P5 SV AV EV SE EE FE H S0 S1 (lat_set lS L_ch) (by first | decide | (rw [List.length_set]; decide) | exact Nat.le_of_ble_eq_true rfl) (Or.inr (Or.inr ⟨rfl, set_same (l := SECL) (cl_lt (n := 20) J_ii rfl) (hog2.trans hog)⟩))
  · intro hm0
    refine Own.g_iload X0 hx (hb hby at_581) rfl 583 rfl ?_
    refine Own.g_bipush X0 hx (10 : Int32) (hb hby at_583) rfl 585 rfl ?_
    refine Own.g_irem X0 hx (hb hby at_585) (by decide) 586 rfl ?_
    refine Own.g_istore X0 hx #[.val (.int p1), .val (.int p2), .val (.int p3), .val (.int mm), .val (.int kp), .val (.int ch), .val (.int pp), .val (.ref d1), .val (.ref d2), .val (.ref d3), .val (.ref d4), .val (.ref d5), .val (.ref d6), .unset, .val (.int (0 : Int32)), .val (.int (pp % (10 : Int32))), .unset] (hb hby at_586) rfl 588 rfl ?_
    obtain ⟨ii, hii⟩ : ∃ z : Int32, z = (pp % (10 : Int32)) := ⟨_, rfl⟩
    rw [← hii]
    have J_ii : ¬ ii < 0 ∧ ii < (10 : Int32) := by rw [hii]; exact mod_in N_pp (by decide)
    refine Own.g_aload X0 hx (hb hby at_588) rfl rfl 590 rfl ?_
    refine Own.g_iload X0 hx (hb hby at_590) rfl 592 rfl ?_
    refine Own.g_ldC X0 hx hZ e0 V_d1 J_ii (DAYL.getD ii.toNatClampNeg 0) getD_map (hb hby at_592) 593 rfl ?_
    refine Own.g_istore X0 hx #[.val (.int p1), .val (.int p2), .val (.int p3), .val (.int mm), .val (.int kp), .val (.int ch), .val (.int pp), .val (.ref d1), .val (.ref d2), .val (.ref d3), .val (.ref d4), .val (.ref d5), .val (.ref d6), .unset, .val (.int (0 : Int32)), .val (.int ii), .val (.int (DAYL.getD ii.toNatClampNeg 0))] (hb hby at_593) rfl 595 rfl ?_
    obtain ⟨og, hog⟩ : ∃ z : Int32, z = (DAYL.getD ii.toNatClampNeg 0) := ⟨_, rfl⟩
    rw [← hog]
    refine Own.g_iload X0 hx (hb hby at_595) rfl 597 rfl ?_
    refine Own.g_if_ne X0 hx (hb hby at_597) 607 600 (by decide) rfl ?_ ?_
    · intro hkp
      refine Own.g_new X0 hx hZ hown (hw _ (List.mem_of_getElem? (i := 2) rfl)) (hw _ (List.mem_of_getElem? (i := 3) rfl)) (hw _ (List.mem_of_getElem? (i := 4) rfl)) e0 (hb hby at_607) (by decide) (by decide) 610 rfl ?_
      intro T1 h1 b X1 e1 E1 g1 E_b D1
      have ne_d1_b : d1 ≠ b := Nat.ne_of_lt (Nat.lt_of_lt_of_le (V_d1.lt) (Nat.le_of_eq g1.symm))
      have n0_b : n0 ≤ b := Nat.le_trans (Nat.le_of_eq O.1.symm) (Nat.le_trans O.2.1 (Nat.le_of_eq g1.symm))
      have S_b : Safe Z EL vm hh b := Safe.new (Nat.le_of_eq g1.symm)
      replace V_d1 := V_d1.ext E1
      replace S_d1 := S_d1.ext E1 CR.1
      replace S_b := S_b.ext E1 CR.1
      replace O := O.ext E1
      replace hk := Nat.le_trans hk E1.1
      replace CR := CR.trans (CHr.ext E1 CR.1)
      have F_b_coder : Fld Z h1 b "java/lang/String" "coder" "B" (.int (0 : Int32)) := D1 (Or.inr (hw _ (List.mem_of_getElem? (i := 28) rfl))) (ty := .byte) (by decide)
      have F_b_value : Fld Z h1 b "java/lang/String" "value" "[B" .null := D1 (Or.inr (hw _ (List.mem_of_getElem? (i := 30) rfl))) (ty := (.array .byte)) (by decide)
      refine Own.g_dup X1 hx (hb hby at_610) rfl 611 rfl ?_
      refine Own.g_aload X1 hx (hb hby at_611) rfl rfl 613 rfl ?_
      refine Own.g_special X1 hx (y := (⟨"java/lang/String", "<init>", "([C)V"⟩ : MethodName)) rfl hown (mvT hZ (hw _ (List.mem_of_getElem? (i := 5) rfl))) (mvT hZ (hw _ (List.mem_of_getElem? (i := 6) rfl))) (mvT hZ (hw _ (List.mem_of_getElem? (i := 7) rfl))) (by decide) (a := b) [.ref d1] (StrChars.Road.backV (W := 1) hZ hws (kI := 4) (hw _ (List.mem_of_getElem? (i := 3) rfl)) (cs := DAYL) (bs := DAYL.map (fun c => c.toInt8.toInt32)) (n := 10) n0_b (Nat.le_trans (Nat.le_of_eq O.1.symm) O.2.1) E_b F_b_value F_b_coder V_d1 (O2.ext O.2) P5 (by first | rfl | (rw [List.length_set]; rfl)) rfl (by decide) (by decide) lD rfl (by decide) (by decide)) e1 (by rw [hml]; rfl) [(.ref b)] (lenOf pd_13 rfl) rfl (Nat.le_of_ble_eq_true rfl) (hb hby at_613) (by decide) (by decide) 616 rfl ?_
      rintro _ T2 L2 X2 ⟨rfl, N2q, K2, -, Fc2, bt, k_bt, -, sz2, -, Fv2, Va2⟩
      have hs3 : ∀ yy ∈ ([b] : List Addr), Safe Z EL vm _ yy := (allS S_b all0)
      have CR' := CR.trans (CHr.keep K2 hs3 CR.1)
      replace S_d1 := Safe.keep K2 hs3 CR.1 S_d1
      replace S_b := Safe.keep K2 hs3 CR.1 S_b
      replace CR := CR'
      replace hk := Nat.le_trans hk K2.1
      replace E_b := E_b.keep K2
      replace O := O.keep K2 (allS n0_b all0)
      have N2 := Fr.app N0 N2q
      have F_b_value := Fv2
      have F_b_coder := Fc2
      show Own.Go p e below _ (T2.setTop (mkF m 616 #[.val (.int p1), .val (.int p2), .val (.int p3), .val (.int mm), .val (.int kp), .val (.int ch), .val (.int pp), .val (.ref d1), .val (.ref d2), .val (.ref d3), .val (.ref d4), .val (.ref d5), .val (.ref d6), .unset, .val (.int (0 : Int32)), .val (.int ii), .val (.int og)] [(.ref b)]))
      have V_bt : Arv Z T2.heap bt k_bt .byte (Int32.ofNat (DAYL).length) (((DAYL).map fun c => c.toInt8.toInt32).map Value.int) (.int 0) := by rw [show Int32.ofNat (DAYL).length = (10 : Int32) from by first | rfl | (rw [List.length_set]; rfl)]; exact Va2
      refine Own.g_astore X2 hx #[.val (.int p1), .val (.int p2), .val (.int p3), .val (.int mm), .val (.int kp), .val (.int ch), .val (.int pp), .val (.ref d1), .val (.ref d2), .val (.ref d3), .val (.ref d4), .val (.ref d5), .val (.ref d6), .val (.ref b), .val (.int (0 : Int32)), .val (.int ii), .val (.int og)] (hb hby at_616) rfl rfl 618 rfl ?_
      refine Own.g_iload X2 hx (hb hby at_618) rfl 620 rfl ?_
      refine Own.g_if_ne_t X2 hx (hb hby at_620) hkp 630 (by decide) ?_
      refine Own.g_iconst X2 hx (1 : Int32) (hb hby at_630) rfl 631 rfl ?_
      refine Own.g_goto X2 hx (hb hby at_631) 635 (by decide) ?_
      refine Own.g_istore X2 hx #[.val (.int p1), .val (.int p2), .val (.int p3), .val (.int mm), .val (.int kp), .val (.int ch), .val (.int pp), .val (.ref d1), .val (.ref d2), .val (.ref d3), .val (.ref d4), .val (.ref d5), .val (.ref d6), .val (.ref b), .val (.int (1 : Int32)), .val (.int ii), .val (.int og)] (hb hby at_635) rfl 637 rfl ?_
      refine Own.g_goto X2 hx (hb hby at_637) 838 (by decide) ?_
      exact st_838b hQ hx hZ hw hby hml hown hret hlocks hEL hS hk CR p1 p2 p3 mm kp ch pp (1 : Int32) G1 ii og (DAYL) u nm t kk va kv oe d1 d2 d3 d4 d5 d6 b bt k_bt (X2.more (by decide) (by decide)) (rfl : T2.heap = T2.heap) N2 O E_b F_b_value F_b_coder V_bt   O2 P5 SV AV EV SE EE FE H S0 S1 lD (by first | decide | (rw [List.length_set]; decide) | exact Nat.le_of_ble_eq_true rfl) (Or.inr (Or.inl ⟨rfl, rfl⟩))
    · intro hkp
      refine Own.g_aload X0 hx (hb hby at_600) rfl rfl 602 rfl ?_
      refine Own.g_iload X0 hx (hb hby at_602) rfl 604 rfl ?_
      refine Own.g_iload X0 hx (hb hby at_604) rfl 606 rfl ?_
      refine Own.g_stC X0 hx hZ e0 V_d1 ch (Own.nar_lat L_ch) J_ii (ii).toNatClampNeg rfl (by show _ < (DAYL.map Value.int).length; rw [List.length_map]; exact cl_lt (n := 10) J_ii rfl) ((DAYL.set (ii).toNatClampNeg ch).map Value.int) (by rw [List.map_set]) (hb hby at_606) 607 rfl ?_
      clear V_d1; intro T4 h4 X4 e4 W4 V_d1
      have CR' := CR.trans (CHr.wr W4 S_d1 CR.1)
      replace S_d1 := Safe.wr W4 S_d1 CR.1 S_d1
      replace CR := CR'
      replace hk := Nat.le_trans hk (Keep.of_wr W4).1
      replace O := O.wr W4 n0_d1
      have N4 := Fr.snoc X4 N0 n0_d1
      show Own.Go p e below _ (T4.setTop (mkF m 607 #[.val (.int p1), .val (.int p2), .val (.int p3), .val (.int mm), .val (.int kp), .val (.int ch), .val (.int pp), .val (.ref d1), .val (.ref d2), .val (.ref d3), .val (.ref d4), .val (.ref d5), .val (.ref d6), .unset, .val (.int (0 : Int32)), .val (.int ii), .val (.int og)] []))
      refine Own.g_new X4 hx hZ hown (hw _ (List.mem_of_getElem? (i := 2) rfl)) (hw _ (List.mem_of_getElem? (i := 3) rfl)) (hw _ (List.mem_of_getElem? (i := 4) rfl)) e4 (hb hby at_607) (by decide) (by decide) 610 rfl ?_
      intro T5 h5 b X5 e5 E5 g5 E_b D5
      have ne_d1_b : d1 ≠ b := Nat.ne_of_lt (Nat.lt_of_lt_of_le (V_d1.lt) (Nat.le_of_eq g5.symm))
      have n0_b : n0 ≤ b := Nat.le_trans (Nat.le_of_eq O.1.symm) (Nat.le_trans O.2.1 (Nat.le_of_eq g5.symm))
      have S_b : Safe Z EL vm h4 b := Safe.new (Nat.le_of_eq g5.symm)
      replace V_d1 := V_d1.ext E5
      replace S_d1 := S_d1.ext E5 CR.1
      replace S_b := S_b.ext E5 CR.1
      replace O := O.ext E5
      replace hk := Nat.le_trans hk E5.1
      replace CR := CR.trans (CHr.ext E5 CR.1)
      have F_b_coder : Fld Z h5 b "java/lang/String" "coder" "B" (.int (0 : Int32)) := D5 (Or.inr (hw _ (List.mem_of_getElem? (i := 28) rfl))) (ty := .byte) (by decide)
      have F_b_value : Fld Z h5 b "java/lang/String" "value" "[B" .null := D5 (Or.inr (hw _ (List.mem_of_getElem? (i := 30) rfl))) (ty := (.array .byte)) (by decide)
      refine Own.g_dup X5 hx (hb hby at_610) rfl 611 rfl ?_
      refine Own.g_aload X5 hx (hb hby at_611) rfl rfl 613 rfl ?_
      refine Own.g_special X5 hx (y := (⟨"java/lang/String", "<init>", "([C)V"⟩ : MethodName)) rfl hown (mvT hZ (hw _ (List.mem_of_getElem? (i := 5) rfl))) (mvT hZ (hw _ (List.mem_of_getElem? (i := 6) rfl))) (mvT hZ (hw _ (List.mem_of_getElem? (i := 7) rfl))) (by decide) (a := b) [.ref d1] (StrChars.Road.backV (W := 1) hZ hws (kI := 4) (hw _ (List.mem_of_getElem? (i := 3) rfl)) (cs := (DAYL.set ii.toNatClampNeg ch)) (bs := (DAYL.set ii.toNatClampNeg ch).map (fun c => c.toInt8.toInt32)) (n := 10) n0_b (Nat.le_trans (Nat.le_of_eq O.1.symm) O.2.1) E_b F_b_value F_b_coder V_d1 (O2.ext O.2) P5 (by first | rfl | (rw [List.length_set]; rfl)) rfl (by decide) (by decide) (lat_set lD L_ch) rfl (by decide) (by decide)) e5 (by rw [hml]; rfl) [(.ref b)] (lenOf pd_13 rfl) rfl (Nat.le_of_ble_eq_true rfl) (hb hby at_613) (by decide) (by decide) 616 rfl ?_
      rintro _ T6 L6 X6 ⟨rfl, N6q, K6, -, Fc6, bt, k_bt, -, sz6, -, Fv6, Va6⟩
      have hs7 : ∀ yy ∈ ([b] : List Addr), Safe Z EL vm _ yy := (allS S_b all0)
      have CR' := CR.trans (CHr.keep K6 hs7 CR.1)
      replace S_d1 := Safe.keep K6 hs7 CR.1 S_d1
      replace S_b := Safe.keep K6 hs7 CR.1 S_b
      replace CR := CR'
      replace hk := Nat.le_trans hk K6.1
      replace E_b := E_b.keep K6
      replace O := O.keep K6 (allS n0_b all0)
      have N6 := Fr.app N4 N6q
      have F_b_value := Fv6
      have F_b_coder := Fc6
      show Own.Go p e below _ (T6.setTop (mkF m 616 #[.val (.int p1), .val (.int p2), .val (.int p3), .val (.int mm), .val (.int kp), .val (.int ch), .val (.int pp), .val (.ref d1), .val (.ref d2), .val (.ref d3), .val (.ref d4), .val (.ref d5), .val (.ref d6), .unset, .val (.int (0 : Int32)), .val (.int ii), .val (.int og)] [(.ref b)]))
      have V_bt : Arv Z T6.heap bt k_bt .byte (Int32.ofNat ((DAYL.set ii.toNatClampNeg ch)).length) ((((DAYL.set ii.toNatClampNeg ch)).map fun c => c.toInt8.toInt32).map Value.int) (.int 0) := by rw [show Int32.ofNat ((DAYL.set ii.toNatClampNeg ch)).length = (10 : Int32) from by first | rfl | (rw [List.length_set]; rfl)]; exact Va6
      refine Own.g_astore X6 hx #[.val (.int p1), .val (.int p2), .val (.int p3), .val (.int mm), .val (.int kp), .val (.int ch), .val (.int pp), .val (.ref d1), .val (.ref d2), .val (.ref d3), .val (.ref d4), .val (.ref d5), .val (.ref d6), .val (.ref b), .val (.int (0 : Int32)), .val (.int ii), .val (.int og)] (hb hby at_616) rfl rfl 618 rfl ?_
      refine Own.g_iload X6 hx (hb hby at_618) rfl 620 rfl ?_
      refine Own.g_if_ne_f X6 hx (hb hby at_620) hkp 623 rfl ?_
      refine Own.g_iload X6 hx (hb hby at_623) rfl 625 rfl ?_
      refine Own.g_iload X6 hx (hb hby at_625) rfl 627 rfl ?_
      refine Own.g_icmp_ne X6 hx (hb hby at_627) 634 630 (by decide) rfl ?_ ?_
      · intro hog2
        refine Own.g_iconst X6 hx (0 : Int32) (hb hby at_634) rfl 635 rfl ?_
        refine Own.g_istore X6 hx #[.val (.int p1), .val (.int p2), .val (.int p3), .val (.int mm), .val (.int kp), .val (.int ch), .val (.int pp), .val (.ref d1), .val (.ref d2), .val (.ref d3), .val (.ref d4), .val (.ref d5), .val (.ref d6), .val (.ref b), .val (.int (0 : Int32)), .val (.int ii), .val (.int og)] (hb hby at_635) rfl 637 rfl ?_
        refine Own.g_goto X6 hx (hb hby at_637) 838 (by decide) ?_
        exact st_838b hQ hx hZ hw hby hml hown hret hlocks hEL hS hk CR p1 p2 p3 mm kp ch pp (0 : Int32) G1 ii og ((DAYL.set ii.toNatClampNeg ch)) u nm t kk va kv oe d1 d2 d3 d4 d5 d6 b bt k_bt (X6.more (by decide) (by decide)) (rfl : T6.heap = T6.heap) N6 O E_b F_b_value F_b_coder V_bt   O2 P5 SV AV EV SE EE FE H S0 S1 (lat_set lD L_ch) (by first | decide | (rw [List.length_set]; decide) | exact Nat.le_of_ble_eq_true rfl) (expD (cl_lt J_ii rfl) (by rw [← hog]; exact hog2))
      · intro hog2
        refine Own.g_iconst X6 hx (1 : Int32) (hb hby at_630) rfl 631 rfl ?_
        refine Own.g_goto X6 hx (hb hby at_631) 635 (by decide) ?_
        refine Own.g_istore X6 hx #[.val (.int p1), .val (.int p2), .val (.int p3), .val (.int mm), .val (.int kp), .val (.int ch), .val (.int pp), .val (.ref d1), .val (.ref d2), .val (.ref d3), .val (.ref d4), .val (.ref d5), .val (.ref d6), .val (.ref b), .val (.int (1 : Int32)), .val (.int ii), .val (.int og)] (hb hby at_635) rfl 637 rfl ?_
        refine Own.g_goto X6 hx (hb hby at_637) 838 (by decide) ?_
        exact st_838b hQ hx hZ hw hby hml hown hret hlocks hEL hS hk CR p1 p2 p3 mm kp ch pp (1 : Int32) G1 ii og ((DAYL.set ii.toNatClampNeg ch)) u nm t kk va kv oe d1 d2 d3 d4 d5 d6 b bt k_bt (X6.more (by decide) (by decide)) (rfl : T6.heap = T6.heap) N6 O E_b F_b_value F_b_coder V_bt   O2 P5 SV AV EV SE EE FE H S0 S1 (lat_set lD L_ch) (by first | decide | (rw [List.length_set]; decide) | exact Nat.le_of_ble_eq_true rfl) (Or.inr (Or.inl ⟨rfl, set_same (l := DAYL) (cl_lt (n := 10) J_ii rfl) (hog2.trans hog)⟩))
set_option maxRecDepth 65536 in
set_option maxHeartbeats 40000000 in
theorem st_520 {p : Program} {l : Launch} {e : Env} {s : State} {m : MethodId} {args : Array Value} {below : List Frame} {meth : Method} {c : Code} {T0 : State} {locs : List Loc} {Z : State} {a0 : Array Value} {hh : Heap} {n0 : Nat} {Q : Option Value → Heap → List Loc → Prop} (hQ : ∀ h L, Fr n0 L → Q (some (.int 1)) h L) {vm : Vm} {k0 : Nat} (hx : p.tables.exec = Jvm.exec) (hZ : Z.Warmed39 (s.setVm vm).vm) (hw : ∀ d ∈ tables_1, d.before a0 Z = true) (hby : c.code = code) (hml : c.maxLocals = 17) (hown : (s.setVm vm).vm.findClass "com/example/bowerbird/bowerbird/model/GranularityNamedPinLaw" = some m.cls) (hret : meth.sig.returnType = (some .boolean)) (hlocks : meth.locks = false) (hEL : EW Z a0 EL) (hS : s.Since vm k0) (hk : k0 ≤ hh.size) (CR : CHr Z EL s.vm s.heap vm hh)
    (p1 p2 p3 mm kp ch pp G1 : Int32) (u : Nat → Addr) (nm : Nat → Addr) (t : Nat → Addr) (kk : Nat → ClassId) (va : Addr) (kv : ClassId) (oe : Addr) (d1 d2 d3 d4 d5 : Addr) (kd1 kd2 kd3 kd4 kd5 : ClassId) (X0 : Stand p l e room_1 (s.setVm vm) m args below meth c T0 locs 5 81) (e0 : T0.heap = hh) (N0 : Fr n0 locs) (O : Old Z n0 hh) (V_d1 : Arv Z hh d1 kd1 .char 10 (DAYL.map Value.int) (.int 0)) (V_d2 : Arv Z hh d2 kd2 .char 20 (SECL.map Value.int) (.int 0)) (V_d3 : Arv Z hh d3 kd3 .char 11 ((DAYL ++ [ch]).map Value.int) (.int 0)) (V_d4 : Arv Z hh d4 kd4 .char 21 ((SECL ++ [ch]).map Value.int) (.int 0)) (V_d5 : Arv Z hh d5 kd5 .char 19 (S19.map Value.int) (.int 0)) (S_d1 : Safe Z EL vm hh d1) (S_d2 : Safe Z EL vm hh d2) (S_d3 : Safe Z EL vm hh d3) (S_d4 : Safe Z EL vm hh d4) (S_d5 : Safe Z EL vm hh d5)  (O2 : Sta Z Z.heap "java/lang/String" "COMPACT_STRINGS" "Z" (.int G1)) (P5 : ¬ (G1 = (0 : Int32))) (SV : Sta Z Z.heap "com/example/bowerbird/bowerbird/model/Datestamp$Granularity" "$VALUES" "[Lcom/example/bowerbird/bowerbird/model/Datestamp$Granularity;" (.ref va)) (AV : Arv Z Z.heap va kv (.object "com/example/bowerbird/bowerbird/model/Datestamp$Granularity") 2 [(.ref (u 0)), (.ref (u 1))] .null) (EV : Exa Z Z.heap va "[Lcom/example/bowerbird/bowerbird/model/Datestamp$Granularity;") (SE : Sta Z Z.heap "java/util/Optional" "EMPTY" "Ljava/util/Optional;" (.ref oe)) (EE : Exa Z Z.heap oe "java/util/Optional") (FE : Fld Z Z.heap oe "java/util/Optional" "value" "Ljava/lang/Object;" .null) (H : ∀ i, i < 2 → UnitOk Z (u i) (nm i) (t i) (kk i) (nmOf i)) (S0 : Sta Z Z.heap "com/example/bowerbird/bowerbird/model/Datestamp$Granularity" "DAY" "Lcom/example/bowerbird/bowerbird/model/Datestamp$Granularity;" (.ref (u 0))) (S1 : Sta Z Z.heap "com/example/bowerbird/bowerbird/model/Datestamp$Granularity" "SECOND" "Lcom/example/bowerbird/bowerbird/model/Datestamp$Granularity;" (.ref (u 1))) (L_ch : Own.Lat ch) (N_pp : ¬ pp < 0) (n0_d1 : n0 ≤ d1) (n0_d2 : n0 ≤ d2) (n0_d3 : n0 ≤ d3) (n0_d4 : n0 ≤ d4) (n0_d5 : n0 ≤ d5) (ne_d1_d2 : d1 ≠ d2) (ne_d1_d3 : d1 ≠ d3) (ne_d2_d3 : d2 ≠ d3) (ne_d1_d4 : d1 ≠ d4) (ne_d2_d4 : d2 ≠ d4) (ne_d3_d4 : d3 ≠ d4) (ne_d1_d5 : d1 ≠ d5) (ne_d2_d5 : d2 ≠ d5) (ne_d3_d5 : d3 ≠ d5) (ne_d4_d5 : d4 ≠ d5) :
    Own.Go p e below (Own.EndW Z EL s Q 32 1344) (T0.setTop (mkF m 520 #[.val (.int p1), .val (.int p2), .val (.int p3), .val (.int mm), .val (.int kp), .val (.int ch), .val (.int pp), .val (.ref d1), .val (.ref d2), .val (.ref d3), .val (.ref d4), .val (.ref d5), .unset, .unset, .unset, .unset, .unset] [])) := by
  refine Own.g_bipush X0 hx (9 : Int32) (hb hby at_520) rfl 522 rfl ?_
  refine Own.g_newP X0 hx hZ (hw _ (List.mem_of_getElem? (i := 1) rfl)) e0 (hb hby at_522) (by decide) 9 (by decide) (by decide) (by decide) (by decide) 524 rfl .char rfl [(.int (0 : Int32)), (.int (0 : Int32)), (.int (0 : Int32)), (.int (0 : Int32)), (.int (0 : Int32)), (.int (0 : Int32)), (.int (0 : Int32)), (.int (0 : Int32)), (.int (0 : Int32))] (by intro i; first | rfl | (rcases i with _ | _ | _ | _ | _ | _ | _ | _ | _ | _ | _ | _ | _ | _ | _ | _ | _ | _ | _ | _ | _ | _ | _ | _ | i <;> rfl)) ?_
  intro T1 h1 d6 k_d6 X1 e1 E1 g1 V_d6
  have ne_d1_d6 : d1 ≠ d6 := Nat.ne_of_lt (Nat.lt_of_lt_of_le (V_d1.lt) (Nat.le_of_eq g1.symm))
  have ne_d2_d6 : d2 ≠ d6 := Nat.ne_of_lt (Nat.lt_of_lt_of_le (V_d2.lt) (Nat.le_of_eq g1.symm))
  have ne_d3_d6 : d3 ≠ d6 := Nat.ne_of_lt (Nat.lt_of_lt_of_le (V_d3.lt) (Nat.le_of_eq g1.symm))
  have ne_d4_d6 : d4 ≠ d6 := Nat.ne_of_lt (Nat.lt_of_lt_of_le (V_d4.lt) (Nat.le_of_eq g1.symm))
  have ne_d5_d6 : d5 ≠ d6 := Nat.ne_of_lt (Nat.lt_of_lt_of_le (V_d5.lt) (Nat.le_of_eq g1.symm))
  have n0_d6 : n0 ≤ d6 := Nat.le_trans (Nat.le_of_eq O.1.symm) (Nat.le_trans O.2.1 (Nat.le_of_eq g1.symm))
  have S_d6 : Safe Z EL vm hh d6 := Safe.new (Nat.le_of_eq g1.symm)
  replace V_d1 := V_d1.ext E1
  replace V_d2 := V_d2.ext E1
  replace V_d3 := V_d3.ext E1
  replace V_d4 := V_d4.ext E1
  replace V_d5 := V_d5.ext E1
  replace S_d1 := S_d1.ext E1 CR.1
  replace S_d2 := S_d2.ext E1 CR.1
  replace S_d3 := S_d3.ext E1 CR.1
  replace S_d4 := S_d4.ext E1 CR.1
  replace S_d5 := S_d5.ext E1 CR.1
  replace S_d6 := S_d6.ext E1 CR.1
  replace O := O.ext E1
  replace hk := Nat.le_trans hk E1.1
  replace CR := CR.trans (CHr.ext E1 CR.1)
  change Arv Z h1 d6 k_d6 .char (9 : Int32) [(.int (0 : Int32)), (.int (0 : Int32)), (.int (0 : Int32)), (.int (0 : Int32)), (.int (0 : Int32)), (.int (0 : Int32)), (.int (0 : Int32)), (.int (0 : Int32)), (.int (0 : Int32))] (.int (0 : Int32)) at V_d6
  refine Own.g_dup X1 hx (hb hby at_524) rfl 525 rfl ?_
  refine Own.g_iconst X1 hx (0 : Int32) (hb hby at_525) rfl 526 rfl ?_
  refine Own.g_bipush X1 hx (89 : Int32) (hb hby at_526) rfl 528 rfl ?_
  refine Own.g_stC X1 hx hZ e1 V_d6 (89 : Int32) rfl (by decide) 0 rfl (Nat.le_of_ble_eq_true rfl) [(.int (89 : Int32)), (.int (0 : Int32)), (.int (0 : Int32)), (.int (0 : Int32)), (.int (0 : Int32)), (.int (0 : Int32)), (.int (0 : Int32)), (.int (0 : Int32)), (.int (0 : Int32))] rfl (hb hby at_528) 529 rfl ?_
  clear V_d6; intro T2 h2 X2 e2 W2 V_d6
  have CR' := CR.trans (CHr.wr W2 S_d6 CR.1)
  replace S_d1 := Safe.wr W2 S_d6 CR.1 S_d1
  replace S_d2 := Safe.wr W2 S_d6 CR.1 S_d2
  replace S_d3 := Safe.wr W2 S_d6 CR.1 S_d3
  replace S_d4 := Safe.wr W2 S_d6 CR.1 S_d4
  replace S_d5 := Safe.wr W2 S_d6 CR.1 S_d5
  replace S_d6 := Safe.wr W2 S_d6 CR.1 S_d6
  replace CR := CR'
  replace hk := Nat.le_trans hk (Keep.of_wr W2).1
  replace V_d1 := V_d1.other W2 ne_d1_d6
  replace V_d2 := V_d2.other W2 ne_d2_d6
  replace V_d3 := V_d3.other W2 ne_d3_d6
  replace V_d4 := V_d4.other W2 ne_d4_d6
  replace V_d5 := V_d5.other W2 ne_d5_d6
  replace O := O.wr W2 n0_d6
  have N2 := Fr.snoc X2 N0 n0_d6
  refine Own.g_dup X2 hx (hb hby at_529) rfl 530 rfl ?_
  refine Own.g_iconst X2 hx (1 : Int32) (hb hby at_530) rfl 531 rfl ?_
  refine Own.g_bipush X2 hx (89 : Int32) (hb hby at_531) rfl 533 rfl ?_
  refine Own.g_stC X2 hx hZ e2 V_d6 (89 : Int32) rfl (by decide) 1 rfl (Nat.le_of_ble_eq_true rfl) [(.int (89 : Int32)), (.int (89 : Int32)), (.int (0 : Int32)), (.int (0 : Int32)), (.int (0 : Int32)), (.int (0 : Int32)), (.int (0 : Int32)), (.int (0 : Int32)), (.int (0 : Int32))] rfl (hb hby at_533) 534 rfl ?_
  clear V_d6; intro T3 h3 X3 e3 W3 V_d6
  have CR' := CR.trans (CHr.wr W3 S_d6 CR.1)
  replace S_d1 := Safe.wr W3 S_d6 CR.1 S_d1
  replace S_d2 := Safe.wr W3 S_d6 CR.1 S_d2
  replace S_d3 := Safe.wr W3 S_d6 CR.1 S_d3
  replace S_d4 := Safe.wr W3 S_d6 CR.1 S_d4
  replace S_d5 := Safe.wr W3 S_d6 CR.1 S_d5
  replace S_d6 := Safe.wr W3 S_d6 CR.1 S_d6
  replace CR := CR'
  replace hk := Nat.le_trans hk (Keep.of_wr W3).1
  replace V_d1 := V_d1.other W3 ne_d1_d6
  replace V_d2 := V_d2.other W3 ne_d2_d6
  replace V_d3 := V_d3.other W3 ne_d3_d6
  replace V_d4 := V_d4.other W3 ne_d4_d6
  replace V_d5 := V_d5.other W3 ne_d5_d6
  replace O := O.wr W3 n0_d6
  have N3 := Fr.snoc X3 N2 n0_d6
  refine Own.g_dup X3 hx (hb hby at_534) rfl 535 rfl ?_
  refine Own.g_iconst X3 hx (2 : Int32) (hb hby at_535) rfl 536 rfl ?_
  refine Own.g_bipush X3 hx (89 : Int32) (hb hby at_536) rfl 538 rfl ?_
  refine Own.g_stC X3 hx hZ e3 V_d6 (89 : Int32) rfl (by decide) 2 rfl (Nat.le_of_ble_eq_true rfl) [(.int (89 : Int32)), (.int (89 : Int32)), (.int (89 : Int32)), (.int (0 : Int32)), (.int (0 : Int32)), (.int (0 : Int32)), (.int (0 : Int32)), (.int (0 : Int32)), (.int (0 : Int32))] rfl (hb hby at_538) 539 rfl ?_
  clear V_d6; intro T4 h4 X4 e4 W4 V_d6
  have CR' := CR.trans (CHr.wr W4 S_d6 CR.1)
  replace S_d1 := Safe.wr W4 S_d6 CR.1 S_d1
  replace S_d2 := Safe.wr W4 S_d6 CR.1 S_d2
  replace S_d3 := Safe.wr W4 S_d6 CR.1 S_d3
  replace S_d4 := Safe.wr W4 S_d6 CR.1 S_d4
  replace S_d5 := Safe.wr W4 S_d6 CR.1 S_d5
  replace S_d6 := Safe.wr W4 S_d6 CR.1 S_d6
  replace CR := CR'
  replace hk := Nat.le_trans hk (Keep.of_wr W4).1
  replace V_d1 := V_d1.other W4 ne_d1_d6
  replace V_d2 := V_d2.other W4 ne_d2_d6
  replace V_d3 := V_d3.other W4 ne_d3_d6
  replace V_d4 := V_d4.other W4 ne_d4_d6
  replace V_d5 := V_d5.other W4 ne_d5_d6
  replace O := O.wr W4 n0_d6
  have N4 := Fr.snoc X4 N3 n0_d6
  refine Own.g_dup X4 hx (hb hby at_539) rfl 540 rfl ?_
  refine Own.g_iconst X4 hx (3 : Int32) (hb hby at_540) rfl 541 rfl ?_
  refine Own.g_bipush X4 hx (89 : Int32) (hb hby at_541) rfl 543 rfl ?_
  refine Own.g_stC X4 hx hZ e4 V_d6 (89 : Int32) rfl (by decide) 3 rfl (Nat.le_of_ble_eq_true rfl) [(.int (89 : Int32)), (.int (89 : Int32)), (.int (89 : Int32)), (.int (89 : Int32)), (.int (0 : Int32)), (.int (0 : Int32)), (.int (0 : Int32)), (.int (0 : Int32)), (.int (0 : Int32))] rfl (hb hby at_543) 544 rfl ?_
  clear V_d6; intro T5 h5 X5 e5 W5 V_d6
  have CR' := CR.trans (CHr.wr W5 S_d6 CR.1)
  replace S_d1 := Safe.wr W5 S_d6 CR.1 S_d1
  replace S_d2 := Safe.wr W5 S_d6 CR.1 S_d2
  replace S_d3 := Safe.wr W5 S_d6 CR.1 S_d3
  replace S_d4 := Safe.wr W5 S_d6 CR.1 S_d4
  replace S_d5 := Safe.wr W5 S_d6 CR.1 S_d5
  replace S_d6 := Safe.wr W5 S_d6 CR.1 S_d6
  replace CR := CR'
  replace hk := Nat.le_trans hk (Keep.of_wr W5).1
  replace V_d1 := V_d1.other W5 ne_d1_d6
  replace V_d2 := V_d2.other W5 ne_d2_d6
  replace V_d3 := V_d3.other W5 ne_d3_d6
  replace V_d4 := V_d4.other W5 ne_d4_d6
  replace V_d5 := V_d5.other W5 ne_d5_d6
  replace O := O.wr W5 n0_d6
  have N5 := Fr.snoc X5 N4 n0_d6
  refine Own.g_dup X5 hx (hb hby at_544) rfl 545 rfl ?_
  refine Own.g_iconst X5 hx (4 : Int32) (hb hby at_545) rfl 546 rfl ?_
  refine Own.g_bipush X5 hx (45 : Int32) (hb hby at_546) rfl 548 rfl ?_
  refine Own.g_stC X5 hx hZ e5 V_d6 (45 : Int32) rfl (by decide) 4 rfl (Nat.le_of_ble_eq_true rfl) [(.int (89 : Int32)), (.int (89 : Int32)), (.int (89 : Int32)), (.int (89 : Int32)), (.int (45 : Int32)), (.int (0 : Int32)), (.int (0 : Int32)), (.int (0 : Int32)), (.int (0 : Int32))] rfl (hb hby at_548) 549 rfl ?_
  clear V_d6; intro T6 h6 X6 e6 W6 V_d6
  have CR' := CR.trans (CHr.wr W6 S_d6 CR.1)
  replace S_d1 := Safe.wr W6 S_d6 CR.1 S_d1
  replace S_d2 := Safe.wr W6 S_d6 CR.1 S_d2
  replace S_d3 := Safe.wr W6 S_d6 CR.1 S_d3
  replace S_d4 := Safe.wr W6 S_d6 CR.1 S_d4
  replace S_d5 := Safe.wr W6 S_d6 CR.1 S_d5
  replace S_d6 := Safe.wr W6 S_d6 CR.1 S_d6
  replace CR := CR'
  replace hk := Nat.le_trans hk (Keep.of_wr W6).1
  replace V_d1 := V_d1.other W6 ne_d1_d6
  replace V_d2 := V_d2.other W6 ne_d2_d6
  replace V_d3 := V_d3.other W6 ne_d3_d6
  replace V_d4 := V_d4.other W6 ne_d4_d6
  replace V_d5 := V_d5.other W6 ne_d5_d6
  replace O := O.wr W6 n0_d6
  have N6 := Fr.snoc X6 N5 n0_d6
  refine Own.g_dup X6 hx (hb hby at_549) rfl 550 rfl ?_
  refine Own.g_iconst X6 hx (5 : Int32) (hb hby at_550) rfl 551 rfl ?_
  refine Own.g_bipush X6 hx (77 : Int32) (hb hby at_551) rfl 553 rfl ?_
  refine Own.g_stC X6 hx hZ e6 V_d6 (77 : Int32) rfl (by decide) 5 rfl (Nat.le_of_ble_eq_true rfl) [(.int (89 : Int32)), (.int (89 : Int32)), (.int (89 : Int32)), (.int (89 : Int32)), (.int (45 : Int32)), (.int (77 : Int32)), (.int (0 : Int32)), (.int (0 : Int32)), (.int (0 : Int32))] rfl (hb hby at_553) 554 rfl ?_
  clear V_d6; intro T7 h7 X7 e7 W7 V_d6
  have CR' := CR.trans (CHr.wr W7 S_d6 CR.1)
  replace S_d1 := Safe.wr W7 S_d6 CR.1 S_d1
  replace S_d2 := Safe.wr W7 S_d6 CR.1 S_d2
  replace S_d3 := Safe.wr W7 S_d6 CR.1 S_d3
  replace S_d4 := Safe.wr W7 S_d6 CR.1 S_d4
  replace S_d5 := Safe.wr W7 S_d6 CR.1 S_d5
  replace S_d6 := Safe.wr W7 S_d6 CR.1 S_d6
  replace CR := CR'
  replace hk := Nat.le_trans hk (Keep.of_wr W7).1
  replace V_d1 := V_d1.other W7 ne_d1_d6
  replace V_d2 := V_d2.other W7 ne_d2_d6
  replace V_d3 := V_d3.other W7 ne_d3_d6
  replace V_d4 := V_d4.other W7 ne_d4_d6
  replace V_d5 := V_d5.other W7 ne_d5_d6
  replace O := O.wr W7 n0_d6
  have N7 := Fr.snoc X7 N6 n0_d6
  refine Own.g_dup X7 hx (hb hby at_554) rfl 555 rfl ?_
  refine Own.g_bipush X7 hx (6 : Int32) (hb hby at_555) rfl 557 rfl ?_
  refine Own.g_bipush X7 hx (77 : Int32) (hb hby at_557) rfl 559 rfl ?_
  refine Own.g_stC X7 hx hZ e7 V_d6 (77 : Int32) rfl (by decide) 6 rfl (Nat.le_of_ble_eq_true rfl) [(.int (89 : Int32)), (.int (89 : Int32)), (.int (89 : Int32)), (.int (89 : Int32)), (.int (45 : Int32)), (.int (77 : Int32)), (.int (77 : Int32)), (.int (0 : Int32)), (.int (0 : Int32))] rfl (hb hby at_559) 560 rfl ?_
  clear V_d6; intro T8 h8 X8 e8 W8 V_d6
  have CR' := CR.trans (CHr.wr W8 S_d6 CR.1)
  replace S_d1 := Safe.wr W8 S_d6 CR.1 S_d1
  replace S_d2 := Safe.wr W8 S_d6 CR.1 S_d2
  replace S_d3 := Safe.wr W8 S_d6 CR.1 S_d3
  replace S_d4 := Safe.wr W8 S_d6 CR.1 S_d4
  replace S_d5 := Safe.wr W8 S_d6 CR.1 S_d5
  replace S_d6 := Safe.wr W8 S_d6 CR.1 S_d6
  replace CR := CR'
  replace hk := Nat.le_trans hk (Keep.of_wr W8).1
  replace V_d1 := V_d1.other W8 ne_d1_d6
  replace V_d2 := V_d2.other W8 ne_d2_d6
  replace V_d3 := V_d3.other W8 ne_d3_d6
  replace V_d4 := V_d4.other W8 ne_d4_d6
  replace V_d5 := V_d5.other W8 ne_d5_d6
  replace O := O.wr W8 n0_d6
  have N8 := Fr.snoc X8 N7 n0_d6
  refine Own.g_dup X8 hx (hb hby at_560) rfl 561 rfl ?_
  refine Own.g_bipush X8 hx (7 : Int32) (hb hby at_561) rfl 563 rfl ?_
  refine Own.g_bipush X8 hx (45 : Int32) (hb hby at_563) rfl 565 rfl ?_
  refine Own.g_stC X8 hx hZ e8 V_d6 (45 : Int32) rfl (by decide) 7 rfl (Nat.le_of_ble_eq_true rfl) [(.int (89 : Int32)), (.int (89 : Int32)), (.int (89 : Int32)), (.int (89 : Int32)), (.int (45 : Int32)), (.int (77 : Int32)), (.int (77 : Int32)), (.int (45 : Int32)), (.int (0 : Int32))] rfl (hb hby at_565) 566 rfl ?_
  clear V_d6; intro T9 h9 X9 e9 W9 V_d6
  have CR' := CR.trans (CHr.wr W9 S_d6 CR.1)
  replace S_d1 := Safe.wr W9 S_d6 CR.1 S_d1
  replace S_d2 := Safe.wr W9 S_d6 CR.1 S_d2
  replace S_d3 := Safe.wr W9 S_d6 CR.1 S_d3
  replace S_d4 := Safe.wr W9 S_d6 CR.1 S_d4
  replace S_d5 := Safe.wr W9 S_d6 CR.1 S_d5
  replace S_d6 := Safe.wr W9 S_d6 CR.1 S_d6
  replace CR := CR'
  replace hk := Nat.le_trans hk (Keep.of_wr W9).1
  replace V_d1 := V_d1.other W9 ne_d1_d6
  replace V_d2 := V_d2.other W9 ne_d2_d6
  replace V_d3 := V_d3.other W9 ne_d3_d6
  replace V_d4 := V_d4.other W9 ne_d4_d6
  replace V_d5 := V_d5.other W9 ne_d5_d6
  replace O := O.wr W9 n0_d6
  have N9 := Fr.snoc X9 N8 n0_d6
  refine Own.g_dup X9 hx (hb hby at_566) rfl 567 rfl ?_
  refine Own.g_bipush X9 hx (8 : Int32) (hb hby at_567) rfl 569 rfl ?_
  refine Own.g_bipush X9 hx (68 : Int32) (hb hby at_569) rfl 571 rfl ?_
  refine Own.g_stC X9 hx hZ e9 V_d6 (68 : Int32) rfl (by decide) 8 rfl (Nat.le_of_ble_eq_true rfl) [(.int (89 : Int32)), (.int (89 : Int32)), (.int (89 : Int32)), (.int (89 : Int32)), (.int (45 : Int32)), (.int (77 : Int32)), (.int (77 : Int32)), (.int (45 : Int32)), (.int (68 : Int32))] rfl (hb hby at_571) 572 rfl ?_
  clear V_d6; intro T10 h10 X10 e10 W10 V_d6
  have CR' := CR.trans (CHr.wr W10 S_d6 CR.1)
  replace S_d1 := Safe.wr W10 S_d6 CR.1 S_d1
  replace S_d2 := Safe.wr W10 S_d6 CR.1 S_d2
  replace S_d3 := Safe.wr W10 S_d6 CR.1 S_d3
  replace S_d4 := Safe.wr W10 S_d6 CR.1 S_d4
  replace S_d5 := Safe.wr W10 S_d6 CR.1 S_d5
  replace S_d6 := Safe.wr W10 S_d6 CR.1 S_d6
  replace CR := CR'
  replace hk := Nat.le_trans hk (Keep.of_wr W10).1
  replace V_d1 := V_d1.other W10 ne_d1_d6
  replace V_d2 := V_d2.other W10 ne_d2_d6
  replace V_d3 := V_d3.other W10 ne_d3_d6
  replace V_d4 := V_d4.other W10 ne_d4_d6
  replace V_d5 := V_d5.other W10 ne_d5_d6
  replace O := O.wr W10 n0_d6
  have N10 := Fr.snoc X10 N9 n0_d6
  refine Own.g_astore X10 hx #[.val (.int p1), .val (.int p2), .val (.int p3), .val (.int mm), .val (.int kp), .val (.int ch), .val (.int pp), .val (.ref d1), .val (.ref d2), .val (.ref d3), .val (.ref d4), .val (.ref d5), .val (.ref d6), .unset, .unset, .unset, .unset] (hb hby at_572) rfl rfl 574 rfl ?_
  refine Own.g_iconst X10 hx (0 : Int32) (hb hby at_574) rfl 575 rfl ?_
  refine Own.g_istore X10 hx #[.val (.int p1), .val (.int p2), .val (.int p3), .val (.int mm), .val (.int kp), .val (.int ch), .val (.int pp), .val (.ref d1), .val (.ref d2), .val (.ref d3), .val (.ref d4), .val (.ref d5), .val (.ref d6), .unset, .val (.int (0 : Int32)), .unset, .unset] (hb hby at_575) rfl 577 rfl ?_
  replace V_d6 : Arv Z h10 d6 k_d6 .char 9 (D9.map Value.int) (.int 0) := V_d6
  exact st_577 hQ hx hZ hw hby hml hown hret hlocks hEL hS hk CR p1 p2 p3 mm kp ch pp G1 u nm t kk va kv oe d1 d2 d3 d4 d5 d6 kd1 kd2 kd3 kd4 kd5 k_d6 X10 e10 N10 O V_d1 V_d2 V_d3 V_d4 V_d5 V_d6 S_d1 S_d2 S_d3 S_d4 S_d5 S_d6  O2 P5 SV AV EV SE EE FE H S0 S1 L_ch N_pp n0_d1 n0_d2 n0_d3 n0_d4 n0_d5 n0_d6 
set_option maxRecDepth 65536 in
set_option maxHeartbeats 40000000 in
theorem st_406 {p : Program} {l : Launch} {e : Env} {s : State} {m : MethodId} {args : Array Value} {below : List Frame} {meth : Method} {c : Code} {T0 : State} {locs : List Loc} {Z : State} {a0 : Array Value} {hh : Heap} {n0 : Nat} {Q : Option Value → Heap → List Loc → Prop} (hQ : ∀ h L, Fr n0 L → Q (some (.int 1)) h L) {vm : Vm} {k0 : Nat} (hx : p.tables.exec = Jvm.exec) (hZ : Z.Warmed39 (s.setVm vm).vm) (hw : ∀ d ∈ tables_1, d.before a0 Z = true) (hby : c.code = code) (hml : c.maxLocals = 17) (hown : (s.setVm vm).vm.findClass "com/example/bowerbird/bowerbird/model/GranularityNamedPinLaw" = some m.cls) (hret : meth.sig.returnType = (some .boolean)) (hlocks : meth.locks = false) (hEL : EW Z a0 EL) (hS : s.Since vm k0) (hk : k0 ≤ hh.size) (CR : CHr Z EL s.vm s.heap vm hh)
    (p1 p2 p3 mm kp ch pp G1 : Int32) (u : Nat → Addr) (nm : Nat → Addr) (t : Nat → Addr) (kk : Nat → ClassId) (va : Addr) (kv : ClassId) (oe : Addr) (d1 d2 d3 d4 : Addr) (kd1 kd2 kd3 kd4 : ClassId) (X0 : Stand p l e room_1 (s.setVm vm) m args below meth c T0 locs 4 62) (e0 : T0.heap = hh) (N0 : Fr n0 locs) (O : Old Z n0 hh) (V_d1 : Arv Z hh d1 kd1 .char 10 (DAYL.map Value.int) (.int 0)) (V_d2 : Arv Z hh d2 kd2 .char 20 (SECL.map Value.int) (.int 0)) (V_d3 : Arv Z hh d3 kd3 .char 11 ((DAYL ++ [ch]).map Value.int) (.int 0)) (V_d4 : Arv Z hh d4 kd4 .char 21 ((SECL ++ [ch]).map Value.int) (.int 0)) (S_d1 : Safe Z EL vm hh d1) (S_d2 : Safe Z EL vm hh d2) (S_d3 : Safe Z EL vm hh d3) (S_d4 : Safe Z EL vm hh d4)  (O2 : Sta Z Z.heap "java/lang/String" "COMPACT_STRINGS" "Z" (.int G1)) (P5 : ¬ (G1 = (0 : Int32))) (SV : Sta Z Z.heap "com/example/bowerbird/bowerbird/model/Datestamp$Granularity" "$VALUES" "[Lcom/example/bowerbird/bowerbird/model/Datestamp$Granularity;" (.ref va)) (AV : Arv Z Z.heap va kv (.object "com/example/bowerbird/bowerbird/model/Datestamp$Granularity") 2 [(.ref (u 0)), (.ref (u 1))] .null) (EV : Exa Z Z.heap va "[Lcom/example/bowerbird/bowerbird/model/Datestamp$Granularity;") (SE : Sta Z Z.heap "java/util/Optional" "EMPTY" "Ljava/util/Optional;" (.ref oe)) (EE : Exa Z Z.heap oe "java/util/Optional") (FE : Fld Z Z.heap oe "java/util/Optional" "value" "Ljava/lang/Object;" .null) (H : ∀ i, i < 2 → UnitOk Z (u i) (nm i) (t i) (kk i) (nmOf i)) (S0 : Sta Z Z.heap "com/example/bowerbird/bowerbird/model/Datestamp$Granularity" "DAY" "Lcom/example/bowerbird/bowerbird/model/Datestamp$Granularity;" (.ref (u 0))) (S1 : Sta Z Z.heap "com/example/bowerbird/bowerbird/model/Datestamp$Granularity" "SECOND" "Lcom/example/bowerbird/bowerbird/model/Datestamp$Granularity;" (.ref (u 1))) (L_ch : Own.Lat ch) (N_pp : ¬ pp < 0) (n0_d1 : n0 ≤ d1) (n0_d2 : n0 ≤ d2) (n0_d3 : n0 ≤ d3) (n0_d4 : n0 ≤ d4) (ne_d1_d2 : d1 ≠ d2) (ne_d1_d3 : d1 ≠ d3) (ne_d2_d3 : d2 ≠ d3) (ne_d1_d4 : d1 ≠ d4) (ne_d2_d4 : d2 ≠ d4) (ne_d3_d4 : d3 ≠ d4) :
    Own.Go p e below (Own.EndW Z EL s Q 32 1344) (T0.setTop (mkF m 406 #[.val (.int p1), .val (.int p2), .val (.int p3), .val (.int mm), .val (.int kp), .val (.int ch), .val (.int pp), .val (.ref d1), .val (.ref d2), .val (.ref d3), .val (.ref d4), .unset, .unset, .unset, .unset, .unset, .unset] [])) := by
  refine Own.g_bipush X0 hx (19 : Int32) (hb hby at_406) rfl 408 rfl ?_
  refine Own.g_newP X0 hx hZ (hw _ (List.mem_of_getElem? (i := 1) rfl)) e0 (hb hby at_408) (by decide) 19 (by decide) (by decide) (by decide) (by decide) 410 rfl .char rfl [(.int (0 : Int32)), (.int (0 : Int32)), (.int (0 : Int32)), (.int (0 : Int32)), (.int (0 : Int32)), (.int (0 : Int32)), (.int (0 : Int32)), (.int (0 : Int32)), (.int (0 : Int32)), (.int (0 : Int32)), (.int (0 : Int32)), (.int (0 : Int32)), (.int (0 : Int32)), (.int (0 : Int32)), (.int (0 : Int32)), (.int (0 : Int32)), (.int (0 : Int32)), (.int (0 : Int32)), (.int (0 : Int32))] (by intro i; first | rfl | (rcases i with _ | _ | _ | _ | _ | _ | _ | _ | _ | _ | _ | _ | _ | _ | _ | _ | _ | _ | _ | _ | _ | _ | _ | _ | i <;> rfl)) ?_
  intro T1 h1 d5 k_d5 X1 e1 E1 g1 V_d5
  have ne_d1_d5 : d1 ≠ d5 := Nat.ne_of_lt (Nat.lt_of_lt_of_le (V_d1.lt) (Nat.le_of_eq g1.symm))
  have ne_d2_d5 : d2 ≠ d5 := Nat.ne_of_lt (Nat.lt_of_lt_of_le (V_d2.lt) (Nat.le_of_eq g1.symm))
  have ne_d3_d5 : d3 ≠ d5 := Nat.ne_of_lt (Nat.lt_of_lt_of_le (V_d3.lt) (Nat.le_of_eq g1.symm))
  have ne_d4_d5 : d4 ≠ d5 := Nat.ne_of_lt (Nat.lt_of_lt_of_le (V_d4.lt) (Nat.le_of_eq g1.symm))
  have n0_d5 : n0 ≤ d5 := Nat.le_trans (Nat.le_of_eq O.1.symm) (Nat.le_trans O.2.1 (Nat.le_of_eq g1.symm))
  have S_d5 : Safe Z EL vm hh d5 := Safe.new (Nat.le_of_eq g1.symm)
  replace V_d1 := V_d1.ext E1
  replace V_d2 := V_d2.ext E1
  replace V_d3 := V_d3.ext E1
  replace V_d4 := V_d4.ext E1
  replace S_d1 := S_d1.ext E1 CR.1
  replace S_d2 := S_d2.ext E1 CR.1
  replace S_d3 := S_d3.ext E1 CR.1
  replace S_d4 := S_d4.ext E1 CR.1
  replace S_d5 := S_d5.ext E1 CR.1
  replace O := O.ext E1
  replace hk := Nat.le_trans hk E1.1
  replace CR := CR.trans (CHr.ext E1 CR.1)
  change Arv Z h1 d5 k_d5 .char (19 : Int32) [(.int (0 : Int32)), (.int (0 : Int32)), (.int (0 : Int32)), (.int (0 : Int32)), (.int (0 : Int32)), (.int (0 : Int32)), (.int (0 : Int32)), (.int (0 : Int32)), (.int (0 : Int32)), (.int (0 : Int32)), (.int (0 : Int32)), (.int (0 : Int32)), (.int (0 : Int32)), (.int (0 : Int32)), (.int (0 : Int32)), (.int (0 : Int32)), (.int (0 : Int32)), (.int (0 : Int32)), (.int (0 : Int32))] (.int (0 : Int32)) at V_d5
  refine Own.g_dup X1 hx (hb hby at_410) rfl 411 rfl ?_
  refine Own.g_iconst X1 hx (0 : Int32) (hb hby at_411) rfl 412 rfl ?_
  refine Own.g_bipush X1 hx (89 : Int32) (hb hby at_412) rfl 414 rfl ?_
  refine Own.g_stC X1 hx hZ e1 V_d5 (89 : Int32) rfl (by decide) 0 rfl (Nat.le_of_ble_eq_true rfl) [(.int (89 : Int32)), (.int (0 : Int32)), (.int (0 : Int32)), (.int (0 : Int32)), (.int (0 : Int32)), (.int (0 : Int32)), (.int (0 : Int32)), (.int (0 : Int32)), (.int (0 : Int32)), (.int (0 : Int32)), (.int (0 : Int32)), (.int (0 : Int32)), (.int (0 : Int32)), (.int (0 : Int32)), (.int (0 : Int32)), (.int (0 : Int32)), (.int (0 : Int32)), (.int (0 : Int32)), (.int (0 : Int32))] rfl (hb hby at_414) 415 rfl ?_
  clear V_d5; intro T2 h2 X2 e2 W2 V_d5
  have CR' := CR.trans (CHr.wr W2 S_d5 CR.1)
  replace S_d1 := Safe.wr W2 S_d5 CR.1 S_d1
  replace S_d2 := Safe.wr W2 S_d5 CR.1 S_d2
  replace S_d3 := Safe.wr W2 S_d5 CR.1 S_d3
  replace S_d4 := Safe.wr W2 S_d5 CR.1 S_d4
  replace S_d5 := Safe.wr W2 S_d5 CR.1 S_d5
  replace CR := CR'
  replace hk := Nat.le_trans hk (Keep.of_wr W2).1
  replace V_d1 := V_d1.other W2 ne_d1_d5
  replace V_d2 := V_d2.other W2 ne_d2_d5
  replace V_d3 := V_d3.other W2 ne_d3_d5
  replace V_d4 := V_d4.other W2 ne_d4_d5
  replace O := O.wr W2 n0_d5
  have N2 := Fr.snoc X2 N0 n0_d5
  refine Own.g_dup X2 hx (hb hby at_415) rfl 416 rfl ?_
  refine Own.g_iconst X2 hx (1 : Int32) (hb hby at_416) rfl 417 rfl ?_
  refine Own.g_bipush X2 hx (89 : Int32) (hb hby at_417) rfl 419 rfl ?_
  refine Own.g_stC X2 hx hZ e2 V_d5 (89 : Int32) rfl (by decide) 1 rfl (Nat.le_of_ble_eq_true rfl) [(.int (89 : Int32)), (.int (89 : Int32)), (.int (0 : Int32)), (.int (0 : Int32)), (.int (0 : Int32)), (.int (0 : Int32)), (.int (0 : Int32)), (.int (0 : Int32)), (.int (0 : Int32)), (.int (0 : Int32)), (.int (0 : Int32)), (.int (0 : Int32)), (.int (0 : Int32)), (.int (0 : Int32)), (.int (0 : Int32)), (.int (0 : Int32)), (.int (0 : Int32)), (.int (0 : Int32)), (.int (0 : Int32))] rfl (hb hby at_419) 420 rfl ?_
  clear V_d5; intro T3 h3 X3 e3 W3 V_d5
  have CR' := CR.trans (CHr.wr W3 S_d5 CR.1)
  replace S_d1 := Safe.wr W3 S_d5 CR.1 S_d1
  replace S_d2 := Safe.wr W3 S_d5 CR.1 S_d2
  replace S_d3 := Safe.wr W3 S_d5 CR.1 S_d3
  replace S_d4 := Safe.wr W3 S_d5 CR.1 S_d4
  replace S_d5 := Safe.wr W3 S_d5 CR.1 S_d5
  replace CR := CR'
  replace hk := Nat.le_trans hk (Keep.of_wr W3).1
  replace V_d1 := V_d1.other W3 ne_d1_d5
  replace V_d2 := V_d2.other W3 ne_d2_d5
  replace V_d3 := V_d3.other W3 ne_d3_d5
  replace V_d4 := V_d4.other W3 ne_d4_d5
  replace O := O.wr W3 n0_d5
  have N3 := Fr.snoc X3 N2 n0_d5
  refine Own.g_dup X3 hx (hb hby at_420) rfl 421 rfl ?_
  refine Own.g_iconst X3 hx (2 : Int32) (hb hby at_421) rfl 422 rfl ?_
  refine Own.g_bipush X3 hx (89 : Int32) (hb hby at_422) rfl 424 rfl ?_
  refine Own.g_stC X3 hx hZ e3 V_d5 (89 : Int32) rfl (by decide) 2 rfl (Nat.le_of_ble_eq_true rfl) [(.int (89 : Int32)), (.int (89 : Int32)), (.int (89 : Int32)), (.int (0 : Int32)), (.int (0 : Int32)), (.int (0 : Int32)), (.int (0 : Int32)), (.int (0 : Int32)), (.int (0 : Int32)), (.int (0 : Int32)), (.int (0 : Int32)), (.int (0 : Int32)), (.int (0 : Int32)), (.int (0 : Int32)), (.int (0 : Int32)), (.int (0 : Int32)), (.int (0 : Int32)), (.int (0 : Int32)), (.int (0 : Int32))] rfl (hb hby at_424) 425 rfl ?_
  clear V_d5; intro T4 h4 X4 e4 W4 V_d5
  have CR' := CR.trans (CHr.wr W4 S_d5 CR.1)
  replace S_d1 := Safe.wr W4 S_d5 CR.1 S_d1
  replace S_d2 := Safe.wr W4 S_d5 CR.1 S_d2
  replace S_d3 := Safe.wr W4 S_d5 CR.1 S_d3
  replace S_d4 := Safe.wr W4 S_d5 CR.1 S_d4
  replace S_d5 := Safe.wr W4 S_d5 CR.1 S_d5
  replace CR := CR'
  replace hk := Nat.le_trans hk (Keep.of_wr W4).1
  replace V_d1 := V_d1.other W4 ne_d1_d5
  replace V_d2 := V_d2.other W4 ne_d2_d5
  replace V_d3 := V_d3.other W4 ne_d3_d5
  replace V_d4 := V_d4.other W4 ne_d4_d5
  replace O := O.wr W4 n0_d5
  have N4 := Fr.snoc X4 N3 n0_d5
  refine Own.g_dup X4 hx (hb hby at_425) rfl 426 rfl ?_
  refine Own.g_iconst X4 hx (3 : Int32) (hb hby at_426) rfl 427 rfl ?_
  refine Own.g_bipush X4 hx (89 : Int32) (hb hby at_427) rfl 429 rfl ?_
  refine Own.g_stC X4 hx hZ e4 V_d5 (89 : Int32) rfl (by decide) 3 rfl (Nat.le_of_ble_eq_true rfl) [(.int (89 : Int32)), (.int (89 : Int32)), (.int (89 : Int32)), (.int (89 : Int32)), (.int (0 : Int32)), (.int (0 : Int32)), (.int (0 : Int32)), (.int (0 : Int32)), (.int (0 : Int32)), (.int (0 : Int32)), (.int (0 : Int32)), (.int (0 : Int32)), (.int (0 : Int32)), (.int (0 : Int32)), (.int (0 : Int32)), (.int (0 : Int32)), (.int (0 : Int32)), (.int (0 : Int32)), (.int (0 : Int32))] rfl (hb hby at_429) 430 rfl ?_
  clear V_d5; intro T5 h5 X5 e5 W5 V_d5
  have CR' := CR.trans (CHr.wr W5 S_d5 CR.1)
  replace S_d1 := Safe.wr W5 S_d5 CR.1 S_d1
  replace S_d2 := Safe.wr W5 S_d5 CR.1 S_d2
  replace S_d3 := Safe.wr W5 S_d5 CR.1 S_d3
  replace S_d4 := Safe.wr W5 S_d5 CR.1 S_d4
  replace S_d5 := Safe.wr W5 S_d5 CR.1 S_d5
  replace CR := CR'
  replace hk := Nat.le_trans hk (Keep.of_wr W5).1
  replace V_d1 := V_d1.other W5 ne_d1_d5
  replace V_d2 := V_d2.other W5 ne_d2_d5
  replace V_d3 := V_d3.other W5 ne_d3_d5
  replace V_d4 := V_d4.other W5 ne_d4_d5
  replace O := O.wr W5 n0_d5
  have N5 := Fr.snoc X5 N4 n0_d5
  refine Own.g_dup X5 hx (hb hby at_430) rfl 431 rfl ?_
  refine Own.g_iconst X5 hx (4 : Int32) (hb hby at_431) rfl 432 rfl ?_
  refine Own.g_bipush X5 hx (45 : Int32) (hb hby at_432) rfl 434 rfl ?_
  refine Own.g_stC X5 hx hZ e5 V_d5 (45 : Int32) rfl (by decide) 4 rfl (Nat.le_of_ble_eq_true rfl) [(.int (89 : Int32)), (.int (89 : Int32)), (.int (89 : Int32)), (.int (89 : Int32)), (.int (45 : Int32)), (.int (0 : Int32)), (.int (0 : Int32)), (.int (0 : Int32)), (.int (0 : Int32)), (.int (0 : Int32)), (.int (0 : Int32)), (.int (0 : Int32)), (.int (0 : Int32)), (.int (0 : Int32)), (.int (0 : Int32)), (.int (0 : Int32)), (.int (0 : Int32)), (.int (0 : Int32)), (.int (0 : Int32))] rfl (hb hby at_434) 435 rfl ?_
  clear V_d5; intro T6 h6 X6 e6 W6 V_d5
  have CR' := CR.trans (CHr.wr W6 S_d5 CR.1)
  replace S_d1 := Safe.wr W6 S_d5 CR.1 S_d1
  replace S_d2 := Safe.wr W6 S_d5 CR.1 S_d2
  replace S_d3 := Safe.wr W6 S_d5 CR.1 S_d3
  replace S_d4 := Safe.wr W6 S_d5 CR.1 S_d4
  replace S_d5 := Safe.wr W6 S_d5 CR.1 S_d5
  replace CR := CR'
  replace hk := Nat.le_trans hk (Keep.of_wr W6).1
  replace V_d1 := V_d1.other W6 ne_d1_d5
  replace V_d2 := V_d2.other W6 ne_d2_d5
  replace V_d3 := V_d3.other W6 ne_d3_d5
  replace V_d4 := V_d4.other W6 ne_d4_d5
  replace O := O.wr W6 n0_d5
  have N6 := Fr.snoc X6 N5 n0_d5
  refine Own.g_dup X6 hx (hb hby at_435) rfl 436 rfl ?_
  refine Own.g_iconst X6 hx (5 : Int32) (hb hby at_436) rfl 437 rfl ?_
  refine Own.g_bipush X6 hx (77 : Int32) (hb hby at_437) rfl 439 rfl ?_
  refine Own.g_stC X6 hx hZ e6 V_d5 (77 : Int32) rfl (by decide) 5 rfl (Nat.le_of_ble_eq_true rfl) [(.int (89 : Int32)), (.int (89 : Int32)), (.int (89 : Int32)), (.int (89 : Int32)), (.int (45 : Int32)), (.int (77 : Int32)), (.int (0 : Int32)), (.int (0 : Int32)), (.int (0 : Int32)), (.int (0 : Int32)), (.int (0 : Int32)), (.int (0 : Int32)), (.int (0 : Int32)), (.int (0 : Int32)), (.int (0 : Int32)), (.int (0 : Int32)), (.int (0 : Int32)), (.int (0 : Int32)), (.int (0 : Int32))] rfl (hb hby at_439) 440 rfl ?_
  clear V_d5; intro T7 h7 X7 e7 W7 V_d5
  have CR' := CR.trans (CHr.wr W7 S_d5 CR.1)
  replace S_d1 := Safe.wr W7 S_d5 CR.1 S_d1
  replace S_d2 := Safe.wr W7 S_d5 CR.1 S_d2
  replace S_d3 := Safe.wr W7 S_d5 CR.1 S_d3
  replace S_d4 := Safe.wr W7 S_d5 CR.1 S_d4
  replace S_d5 := Safe.wr W7 S_d5 CR.1 S_d5
  replace CR := CR'
  replace hk := Nat.le_trans hk (Keep.of_wr W7).1
  replace V_d1 := V_d1.other W7 ne_d1_d5
  replace V_d2 := V_d2.other W7 ne_d2_d5
  replace V_d3 := V_d3.other W7 ne_d3_d5
  replace V_d4 := V_d4.other W7 ne_d4_d5
  replace O := O.wr W7 n0_d5
  have N7 := Fr.snoc X7 N6 n0_d5
  refine Own.g_dup X7 hx (hb hby at_440) rfl 441 rfl ?_
  refine Own.g_bipush X7 hx (6 : Int32) (hb hby at_441) rfl 443 rfl ?_
  refine Own.g_bipush X7 hx (77 : Int32) (hb hby at_443) rfl 445 rfl ?_
  refine Own.g_stC X7 hx hZ e7 V_d5 (77 : Int32) rfl (by decide) 6 rfl (Nat.le_of_ble_eq_true rfl) [(.int (89 : Int32)), (.int (89 : Int32)), (.int (89 : Int32)), (.int (89 : Int32)), (.int (45 : Int32)), (.int (77 : Int32)), (.int (77 : Int32)), (.int (0 : Int32)), (.int (0 : Int32)), (.int (0 : Int32)), (.int (0 : Int32)), (.int (0 : Int32)), (.int (0 : Int32)), (.int (0 : Int32)), (.int (0 : Int32)), (.int (0 : Int32)), (.int (0 : Int32)), (.int (0 : Int32)), (.int (0 : Int32))] rfl (hb hby at_445) 446 rfl ?_
  clear V_d5; intro T8 h8 X8 e8 W8 V_d5
  have CR' := CR.trans (CHr.wr W8 S_d5 CR.1)
  replace S_d1 := Safe.wr W8 S_d5 CR.1 S_d1
  replace S_d2 := Safe.wr W8 S_d5 CR.1 S_d2
  replace S_d3 := Safe.wr W8 S_d5 CR.1 S_d3
  replace S_d4 := Safe.wr W8 S_d5 CR.1 S_d4
  replace S_d5 := Safe.wr W8 S_d5 CR.1 S_d5
  replace CR := CR'
  replace hk := Nat.le_trans hk (Keep.of_wr W8).1
  replace V_d1 := V_d1.other W8 ne_d1_d5
  replace V_d2 := V_d2.other W8 ne_d2_d5
  replace V_d3 := V_d3.other W8 ne_d3_d5
  replace V_d4 := V_d4.other W8 ne_d4_d5
  replace O := O.wr W8 n0_d5
  have N8 := Fr.snoc X8 N7 n0_d5
  refine Own.g_dup X8 hx (hb hby at_446) rfl 447 rfl ?_
  refine Own.g_bipush X8 hx (7 : Int32) (hb hby at_447) rfl 449 rfl ?_
  refine Own.g_bipush X8 hx (45 : Int32) (hb hby at_449) rfl 451 rfl ?_
  refine Own.g_stC X8 hx hZ e8 V_d5 (45 : Int32) rfl (by decide) 7 rfl (Nat.le_of_ble_eq_true rfl) [(.int (89 : Int32)), (.int (89 : Int32)), (.int (89 : Int32)), (.int (89 : Int32)), (.int (45 : Int32)), (.int (77 : Int32)), (.int (77 : Int32)), (.int (45 : Int32)), (.int (0 : Int32)), (.int (0 : Int32)), (.int (0 : Int32)), (.int (0 : Int32)), (.int (0 : Int32)), (.int (0 : Int32)), (.int (0 : Int32)), (.int (0 : Int32)), (.int (0 : Int32)), (.int (0 : Int32)), (.int (0 : Int32))] rfl (hb hby at_451) 452 rfl ?_
  clear V_d5; intro T9 h9 X9 e9 W9 V_d5
  have CR' := CR.trans (CHr.wr W9 S_d5 CR.1)
  replace S_d1 := Safe.wr W9 S_d5 CR.1 S_d1
  replace S_d2 := Safe.wr W9 S_d5 CR.1 S_d2
  replace S_d3 := Safe.wr W9 S_d5 CR.1 S_d3
  replace S_d4 := Safe.wr W9 S_d5 CR.1 S_d4
  replace S_d5 := Safe.wr W9 S_d5 CR.1 S_d5
  replace CR := CR'
  replace hk := Nat.le_trans hk (Keep.of_wr W9).1
  replace V_d1 := V_d1.other W9 ne_d1_d5
  replace V_d2 := V_d2.other W9 ne_d2_d5
  replace V_d3 := V_d3.other W9 ne_d3_d5
  replace V_d4 := V_d4.other W9 ne_d4_d5
  replace O := O.wr W9 n0_d5
  have N9 := Fr.snoc X9 N8 n0_d5
  refine Own.g_dup X9 hx (hb hby at_452) rfl 453 rfl ?_
  refine Own.g_bipush X9 hx (8 : Int32) (hb hby at_453) rfl 455 rfl ?_
  refine Own.g_bipush X9 hx (68 : Int32) (hb hby at_455) rfl 457 rfl ?_
  refine Own.g_stC X9 hx hZ e9 V_d5 (68 : Int32) rfl (by decide) 8 rfl (Nat.le_of_ble_eq_true rfl) [(.int (89 : Int32)), (.int (89 : Int32)), (.int (89 : Int32)), (.int (89 : Int32)), (.int (45 : Int32)), (.int (77 : Int32)), (.int (77 : Int32)), (.int (45 : Int32)), (.int (68 : Int32)), (.int (0 : Int32)), (.int (0 : Int32)), (.int (0 : Int32)), (.int (0 : Int32)), (.int (0 : Int32)), (.int (0 : Int32)), (.int (0 : Int32)), (.int (0 : Int32)), (.int (0 : Int32)), (.int (0 : Int32))] rfl (hb hby at_457) 458 rfl ?_
  clear V_d5; intro T10 h10 X10 e10 W10 V_d5
  have CR' := CR.trans (CHr.wr W10 S_d5 CR.1)
  replace S_d1 := Safe.wr W10 S_d5 CR.1 S_d1
  replace S_d2 := Safe.wr W10 S_d5 CR.1 S_d2
  replace S_d3 := Safe.wr W10 S_d5 CR.1 S_d3
  replace S_d4 := Safe.wr W10 S_d5 CR.1 S_d4
  replace S_d5 := Safe.wr W10 S_d5 CR.1 S_d5
  replace CR := CR'
  replace hk := Nat.le_trans hk (Keep.of_wr W10).1
  replace V_d1 := V_d1.other W10 ne_d1_d5
  replace V_d2 := V_d2.other W10 ne_d2_d5
  replace V_d3 := V_d3.other W10 ne_d3_d5
  replace V_d4 := V_d4.other W10 ne_d4_d5
  replace O := O.wr W10 n0_d5
  have N10 := Fr.snoc X10 N9 n0_d5
  refine Own.g_dup X10 hx (hb hby at_458) rfl 459 rfl ?_
  refine Own.g_bipush X10 hx (9 : Int32) (hb hby at_459) rfl 461 rfl ?_
  refine Own.g_bipush X10 hx (68 : Int32) (hb hby at_461) rfl 463 rfl ?_
  refine Own.g_stC X10 hx hZ e10 V_d5 (68 : Int32) rfl (by decide) 9 rfl (Nat.le_of_ble_eq_true rfl) [(.int (89 : Int32)), (.int (89 : Int32)), (.int (89 : Int32)), (.int (89 : Int32)), (.int (45 : Int32)), (.int (77 : Int32)), (.int (77 : Int32)), (.int (45 : Int32)), (.int (68 : Int32)), (.int (68 : Int32)), (.int (0 : Int32)), (.int (0 : Int32)), (.int (0 : Int32)), (.int (0 : Int32)), (.int (0 : Int32)), (.int (0 : Int32)), (.int (0 : Int32)), (.int (0 : Int32)), (.int (0 : Int32))] rfl (hb hby at_463) 464 rfl ?_
  clear V_d5; intro T11 h11 X11 e11 W11 V_d5
  have CR' := CR.trans (CHr.wr W11 S_d5 CR.1)
  replace S_d1 := Safe.wr W11 S_d5 CR.1 S_d1
  replace S_d2 := Safe.wr W11 S_d5 CR.1 S_d2
  replace S_d3 := Safe.wr W11 S_d5 CR.1 S_d3
  replace S_d4 := Safe.wr W11 S_d5 CR.1 S_d4
  replace S_d5 := Safe.wr W11 S_d5 CR.1 S_d5
  replace CR := CR'
  replace hk := Nat.le_trans hk (Keep.of_wr W11).1
  replace V_d1 := V_d1.other W11 ne_d1_d5
  replace V_d2 := V_d2.other W11 ne_d2_d5
  replace V_d3 := V_d3.other W11 ne_d3_d5
  replace V_d4 := V_d4.other W11 ne_d4_d5
  replace O := O.wr W11 n0_d5
  have N11 := Fr.snoc X11 N10 n0_d5
  refine Own.g_dup X11 hx (hb hby at_464) rfl 465 rfl ?_
  refine Own.g_bipush X11 hx (10 : Int32) (hb hby at_465) rfl 467 rfl ?_
  refine Own.g_bipush X11 hx (84 : Int32) (hb hby at_467) rfl 469 rfl ?_
  refine Own.g_stC X11 hx hZ e11 V_d5 (84 : Int32) rfl (by decide) 10 rfl (Nat.le_of_ble_eq_true rfl) [(.int (89 : Int32)), (.int (89 : Int32)), (.int (89 : Int32)), (.int (89 : Int32)), (.int (45 : Int32)), (.int (77 : Int32)), (.int (77 : Int32)), (.int (45 : Int32)), (.int (68 : Int32)), (.int (68 : Int32)), (.int (84 : Int32)), (.int (0 : Int32)), (.int (0 : Int32)), (.int (0 : Int32)), (.int (0 : Int32)), (.int (0 : Int32)), (.int (0 : Int32)), (.int (0 : Int32)), (.int (0 : Int32))] rfl (hb hby at_469) 470 rfl ?_
  clear V_d5; intro T12 h12 X12 e12 W12 V_d5
  have CR' := CR.trans (CHr.wr W12 S_d5 CR.1)
  replace S_d1 := Safe.wr W12 S_d5 CR.1 S_d1
  replace S_d2 := Safe.wr W12 S_d5 CR.1 S_d2
  replace S_d3 := Safe.wr W12 S_d5 CR.1 S_d3
  replace S_d4 := Safe.wr W12 S_d5 CR.1 S_d4
  replace S_d5 := Safe.wr W12 S_d5 CR.1 S_d5
  replace CR := CR'
  replace hk := Nat.le_trans hk (Keep.of_wr W12).1
  replace V_d1 := V_d1.other W12 ne_d1_d5
  replace V_d2 := V_d2.other W12 ne_d2_d5
  replace V_d3 := V_d3.other W12 ne_d3_d5
  replace V_d4 := V_d4.other W12 ne_d4_d5
  replace O := O.wr W12 n0_d5
  have N12 := Fr.snoc X12 N11 n0_d5
  refine Own.g_dup X12 hx (hb hby at_470) rfl 471 rfl ?_
  refine Own.g_bipush X12 hx (11 : Int32) (hb hby at_471) rfl 473 rfl ?_
  refine Own.g_bipush X12 hx (104 : Int32) (hb hby at_473) rfl 475 rfl ?_
  refine Own.g_stC X12 hx hZ e12 V_d5 (104 : Int32) rfl (by decide) 11 rfl (Nat.le_of_ble_eq_true rfl) [(.int (89 : Int32)), (.int (89 : Int32)), (.int (89 : Int32)), (.int (89 : Int32)), (.int (45 : Int32)), (.int (77 : Int32)), (.int (77 : Int32)), (.int (45 : Int32)), (.int (68 : Int32)), (.int (68 : Int32)), (.int (84 : Int32)), (.int (104 : Int32)), (.int (0 : Int32)), (.int (0 : Int32)), (.int (0 : Int32)), (.int (0 : Int32)), (.int (0 : Int32)), (.int (0 : Int32)), (.int (0 : Int32))] rfl (hb hby at_475) 476 rfl ?_
  clear V_d5; intro T13 h13 X13 e13 W13 V_d5
  have CR' := CR.trans (CHr.wr W13 S_d5 CR.1)
  replace S_d1 := Safe.wr W13 S_d5 CR.1 S_d1
  replace S_d2 := Safe.wr W13 S_d5 CR.1 S_d2
  replace S_d3 := Safe.wr W13 S_d5 CR.1 S_d3
  replace S_d4 := Safe.wr W13 S_d5 CR.1 S_d4
  replace S_d5 := Safe.wr W13 S_d5 CR.1 S_d5
  replace CR := CR'
  replace hk := Nat.le_trans hk (Keep.of_wr W13).1
  replace V_d1 := V_d1.other W13 ne_d1_d5
  replace V_d2 := V_d2.other W13 ne_d2_d5
  replace V_d3 := V_d3.other W13 ne_d3_d5
  replace V_d4 := V_d4.other W13 ne_d4_d5
  replace O := O.wr W13 n0_d5
  have N13 := Fr.snoc X13 N12 n0_d5
  refine Own.g_dup X13 hx (hb hby at_476) rfl 477 rfl ?_
  refine Own.g_bipush X13 hx (12 : Int32) (hb hby at_477) rfl 479 rfl ?_
  refine Own.g_bipush X13 hx (104 : Int32) (hb hby at_479) rfl 481 rfl ?_
  refine Own.g_stC X13 hx hZ e13 V_d5 (104 : Int32) rfl (by decide) 12 rfl (Nat.le_of_ble_eq_true rfl) [(.int (89 : Int32)), (.int (89 : Int32)), (.int (89 : Int32)), (.int (89 : Int32)), (.int (45 : Int32)), (.int (77 : Int32)), (.int (77 : Int32)), (.int (45 : Int32)), (.int (68 : Int32)), (.int (68 : Int32)), (.int (84 : Int32)), (.int (104 : Int32)), (.int (104 : Int32)), (.int (0 : Int32)), (.int (0 : Int32)), (.int (0 : Int32)), (.int (0 : Int32)), (.int (0 : Int32)), (.int (0 : Int32))] rfl (hb hby at_481) 482 rfl ?_
  clear V_d5; intro T14 h14 X14 e14 W14 V_d5
  have CR' := CR.trans (CHr.wr W14 S_d5 CR.1)
  replace S_d1 := Safe.wr W14 S_d5 CR.1 S_d1
  replace S_d2 := Safe.wr W14 S_d5 CR.1 S_d2
  replace S_d3 := Safe.wr W14 S_d5 CR.1 S_d3
  replace S_d4 := Safe.wr W14 S_d5 CR.1 S_d4
  replace S_d5 := Safe.wr W14 S_d5 CR.1 S_d5
  replace CR := CR'
  replace hk := Nat.le_trans hk (Keep.of_wr W14).1
  replace V_d1 := V_d1.other W14 ne_d1_d5
  replace V_d2 := V_d2.other W14 ne_d2_d5
  replace V_d3 := V_d3.other W14 ne_d3_d5
  replace V_d4 := V_d4.other W14 ne_d4_d5
  replace O := O.wr W14 n0_d5
  have N14 := Fr.snoc X14 N13 n0_d5
  refine Own.g_dup X14 hx (hb hby at_482) rfl 483 rfl ?_
  refine Own.g_bipush X14 hx (13 : Int32) (hb hby at_483) rfl 485 rfl ?_
  refine Own.g_bipush X14 hx (58 : Int32) (hb hby at_485) rfl 487 rfl ?_
  refine Own.g_stC X14 hx hZ e14 V_d5 (58 : Int32) rfl (by decide) 13 rfl (Nat.le_of_ble_eq_true rfl) [(.int (89 : Int32)), (.int (89 : Int32)), (.int (89 : Int32)), (.int (89 : Int32)), (.int (45 : Int32)), (.int (77 : Int32)), (.int (77 : Int32)), (.int (45 : Int32)), (.int (68 : Int32)), (.int (68 : Int32)), (.int (84 : Int32)), (.int (104 : Int32)), (.int (104 : Int32)), (.int (58 : Int32)), (.int (0 : Int32)), (.int (0 : Int32)), (.int (0 : Int32)), (.int (0 : Int32)), (.int (0 : Int32))] rfl (hb hby at_487) 488 rfl ?_
  clear V_d5; intro T15 h15 X15 e15 W15 V_d5
  have CR' := CR.trans (CHr.wr W15 S_d5 CR.1)
  replace S_d1 := Safe.wr W15 S_d5 CR.1 S_d1
  replace S_d2 := Safe.wr W15 S_d5 CR.1 S_d2
  replace S_d3 := Safe.wr W15 S_d5 CR.1 S_d3
  replace S_d4 := Safe.wr W15 S_d5 CR.1 S_d4
  replace S_d5 := Safe.wr W15 S_d5 CR.1 S_d5
  replace CR := CR'
  replace hk := Nat.le_trans hk (Keep.of_wr W15).1
  replace V_d1 := V_d1.other W15 ne_d1_d5
  replace V_d2 := V_d2.other W15 ne_d2_d5
  replace V_d3 := V_d3.other W15 ne_d3_d5
  replace V_d4 := V_d4.other W15 ne_d4_d5
  replace O := O.wr W15 n0_d5
  have N15 := Fr.snoc X15 N14 n0_d5
  refine Own.g_dup X15 hx (hb hby at_488) rfl 489 rfl ?_
  refine Own.g_bipush X15 hx (14 : Int32) (hb hby at_489) rfl 491 rfl ?_
  refine Own.g_bipush X15 hx (109 : Int32) (hb hby at_491) rfl 493 rfl ?_
  refine Own.g_stC X15 hx hZ e15 V_d5 (109 : Int32) rfl (by decide) 14 rfl (Nat.le_of_ble_eq_true rfl) [(.int (89 : Int32)), (.int (89 : Int32)), (.int (89 : Int32)), (.int (89 : Int32)), (.int (45 : Int32)), (.int (77 : Int32)), (.int (77 : Int32)), (.int (45 : Int32)), (.int (68 : Int32)), (.int (68 : Int32)), (.int (84 : Int32)), (.int (104 : Int32)), (.int (104 : Int32)), (.int (58 : Int32)), (.int (109 : Int32)), (.int (0 : Int32)), (.int (0 : Int32)), (.int (0 : Int32)), (.int (0 : Int32))] rfl (hb hby at_493) 494 rfl ?_
  clear V_d5; intro T16 h16 X16 e16 W16 V_d5
  have CR' := CR.trans (CHr.wr W16 S_d5 CR.1)
  replace S_d1 := Safe.wr W16 S_d5 CR.1 S_d1
  replace S_d2 := Safe.wr W16 S_d5 CR.1 S_d2
  replace S_d3 := Safe.wr W16 S_d5 CR.1 S_d3
  replace S_d4 := Safe.wr W16 S_d5 CR.1 S_d4
  replace S_d5 := Safe.wr W16 S_d5 CR.1 S_d5
  replace CR := CR'
  replace hk := Nat.le_trans hk (Keep.of_wr W16).1
  replace V_d1 := V_d1.other W16 ne_d1_d5
  replace V_d2 := V_d2.other W16 ne_d2_d5
  replace V_d3 := V_d3.other W16 ne_d3_d5
  replace V_d4 := V_d4.other W16 ne_d4_d5
  replace O := O.wr W16 n0_d5
  have N16 := Fr.snoc X16 N15 n0_d5
  refine Own.g_dup X16 hx (hb hby at_494) rfl 495 rfl ?_
  refine Own.g_bipush X16 hx (15 : Int32) (hb hby at_495) rfl 497 rfl ?_
  refine Own.g_bipush X16 hx (109 : Int32) (hb hby at_497) rfl 499 rfl ?_
  refine Own.g_stC X16 hx hZ e16 V_d5 (109 : Int32) rfl (by decide) 15 rfl (Nat.le_of_ble_eq_true rfl) [(.int (89 : Int32)), (.int (89 : Int32)), (.int (89 : Int32)), (.int (89 : Int32)), (.int (45 : Int32)), (.int (77 : Int32)), (.int (77 : Int32)), (.int (45 : Int32)), (.int (68 : Int32)), (.int (68 : Int32)), (.int (84 : Int32)), (.int (104 : Int32)), (.int (104 : Int32)), (.int (58 : Int32)), (.int (109 : Int32)), (.int (109 : Int32)), (.int (0 : Int32)), (.int (0 : Int32)), (.int (0 : Int32))] rfl (hb hby at_499) 500 rfl ?_
  clear V_d5; intro T17 h17 X17 e17 W17 V_d5
  have CR' := CR.trans (CHr.wr W17 S_d5 CR.1)
  replace S_d1 := Safe.wr W17 S_d5 CR.1 S_d1
  replace S_d2 := Safe.wr W17 S_d5 CR.1 S_d2
  replace S_d3 := Safe.wr W17 S_d5 CR.1 S_d3
  replace S_d4 := Safe.wr W17 S_d5 CR.1 S_d4
  replace S_d5 := Safe.wr W17 S_d5 CR.1 S_d5
  replace CR := CR'
  replace hk := Nat.le_trans hk (Keep.of_wr W17).1
  replace V_d1 := V_d1.other W17 ne_d1_d5
  replace V_d2 := V_d2.other W17 ne_d2_d5
  replace V_d3 := V_d3.other W17 ne_d3_d5
  replace V_d4 := V_d4.other W17 ne_d4_d5
  replace O := O.wr W17 n0_d5
  have N17 := Fr.snoc X17 N16 n0_d5
  refine Own.g_dup X17 hx (hb hby at_500) rfl 501 rfl ?_
  refine Own.g_bipush X17 hx (16 : Int32) (hb hby at_501) rfl 503 rfl ?_
  refine Own.g_bipush X17 hx (58 : Int32) (hb hby at_503) rfl 505 rfl ?_
  refine Own.g_stC X17 hx hZ e17 V_d5 (58 : Int32) rfl (by decide) 16 rfl (Nat.le_of_ble_eq_true rfl) [(.int (89 : Int32)), (.int (89 : Int32)), (.int (89 : Int32)), (.int (89 : Int32)), (.int (45 : Int32)), (.int (77 : Int32)), (.int (77 : Int32)), (.int (45 : Int32)), (.int (68 : Int32)), (.int (68 : Int32)), (.int (84 : Int32)), (.int (104 : Int32)), (.int (104 : Int32)), (.int (58 : Int32)), (.int (109 : Int32)), (.int (109 : Int32)), (.int (58 : Int32)), (.int (0 : Int32)), (.int (0 : Int32))] rfl (hb hby at_505) 506 rfl ?_
  clear V_d5; intro T18 h18 X18 e18 W18 V_d5
  have CR' := CR.trans (CHr.wr W18 S_d5 CR.1)
  replace S_d1 := Safe.wr W18 S_d5 CR.1 S_d1
  replace S_d2 := Safe.wr W18 S_d5 CR.1 S_d2
  replace S_d3 := Safe.wr W18 S_d5 CR.1 S_d3
  replace S_d4 := Safe.wr W18 S_d5 CR.1 S_d4
  replace S_d5 := Safe.wr W18 S_d5 CR.1 S_d5
  replace CR := CR'
  replace hk := Nat.le_trans hk (Keep.of_wr W18).1
  replace V_d1 := V_d1.other W18 ne_d1_d5
  replace V_d2 := V_d2.other W18 ne_d2_d5
  replace V_d3 := V_d3.other W18 ne_d3_d5
  replace V_d4 := V_d4.other W18 ne_d4_d5
  replace O := O.wr W18 n0_d5
  have N18 := Fr.snoc X18 N17 n0_d5
  refine Own.g_dup X18 hx (hb hby at_506) rfl 507 rfl ?_
  refine Own.g_bipush X18 hx (17 : Int32) (hb hby at_507) rfl 509 rfl ?_
  refine Own.g_bipush X18 hx (115 : Int32) (hb hby at_509) rfl 511 rfl ?_
  refine Own.g_stC X18 hx hZ e18 V_d5 (115 : Int32) rfl (by decide) 17 rfl (Nat.le_of_ble_eq_true rfl) [(.int (89 : Int32)), (.int (89 : Int32)), (.int (89 : Int32)), (.int (89 : Int32)), (.int (45 : Int32)), (.int (77 : Int32)), (.int (77 : Int32)), (.int (45 : Int32)), (.int (68 : Int32)), (.int (68 : Int32)), (.int (84 : Int32)), (.int (104 : Int32)), (.int (104 : Int32)), (.int (58 : Int32)), (.int (109 : Int32)), (.int (109 : Int32)), (.int (58 : Int32)), (.int (115 : Int32)), (.int (0 : Int32))] rfl (hb hby at_511) 512 rfl ?_
  clear V_d5; intro T19 h19 X19 e19 W19 V_d5
  have CR' := CR.trans (CHr.wr W19 S_d5 CR.1)
  replace S_d1 := Safe.wr W19 S_d5 CR.1 S_d1
  replace S_d2 := Safe.wr W19 S_d5 CR.1 S_d2
  replace S_d3 := Safe.wr W19 S_d5 CR.1 S_d3
  replace S_d4 := Safe.wr W19 S_d5 CR.1 S_d4
  replace S_d5 := Safe.wr W19 S_d5 CR.1 S_d5
  replace CR := CR'
  replace hk := Nat.le_trans hk (Keep.of_wr W19).1
  replace V_d1 := V_d1.other W19 ne_d1_d5
  replace V_d2 := V_d2.other W19 ne_d2_d5
  replace V_d3 := V_d3.other W19 ne_d3_d5
  replace V_d4 := V_d4.other W19 ne_d4_d5
  replace O := O.wr W19 n0_d5
  have N19 := Fr.snoc X19 N18 n0_d5
  refine Own.g_dup X19 hx (hb hby at_512) rfl 513 rfl ?_
  refine Own.g_bipush X19 hx (18 : Int32) (hb hby at_513) rfl 515 rfl ?_
  refine Own.g_bipush X19 hx (115 : Int32) (hb hby at_515) rfl 517 rfl ?_
  refine Own.g_stC X19 hx hZ e19 V_d5 (115 : Int32) rfl (by decide) 18 rfl (Nat.le_of_ble_eq_true rfl) [(.int (89 : Int32)), (.int (89 : Int32)), (.int (89 : Int32)), (.int (89 : Int32)), (.int (45 : Int32)), (.int (77 : Int32)), (.int (77 : Int32)), (.int (45 : Int32)), (.int (68 : Int32)), (.int (68 : Int32)), (.int (84 : Int32)), (.int (104 : Int32)), (.int (104 : Int32)), (.int (58 : Int32)), (.int (109 : Int32)), (.int (109 : Int32)), (.int (58 : Int32)), (.int (115 : Int32)), (.int (115 : Int32))] rfl (hb hby at_517) 518 rfl ?_
  clear V_d5; intro T20 h20 X20 e20 W20 V_d5
  have CR' := CR.trans (CHr.wr W20 S_d5 CR.1)
  replace S_d1 := Safe.wr W20 S_d5 CR.1 S_d1
  replace S_d2 := Safe.wr W20 S_d5 CR.1 S_d2
  replace S_d3 := Safe.wr W20 S_d5 CR.1 S_d3
  replace S_d4 := Safe.wr W20 S_d5 CR.1 S_d4
  replace S_d5 := Safe.wr W20 S_d5 CR.1 S_d5
  replace CR := CR'
  replace hk := Nat.le_trans hk (Keep.of_wr W20).1
  replace V_d1 := V_d1.other W20 ne_d1_d5
  replace V_d2 := V_d2.other W20 ne_d2_d5
  replace V_d3 := V_d3.other W20 ne_d3_d5
  replace V_d4 := V_d4.other W20 ne_d4_d5
  replace O := O.wr W20 n0_d5
  have N20 := Fr.snoc X20 N19 n0_d5
  refine Own.g_astore X20 hx #[.val (.int p1), .val (.int p2), .val (.int p3), .val (.int mm), .val (.int kp), .val (.int ch), .val (.int pp), .val (.ref d1), .val (.ref d2), .val (.ref d3), .val (.ref d4), .val (.ref d5), .unset, .unset, .unset, .unset, .unset] (hb hby at_518) rfl rfl 520 rfl ?_
  replace V_d5 : Arv Z h20 d5 k_d5 .char 19 (S19.map Value.int) (.int 0) := V_d5
  exact st_520 hQ hx hZ hw hby hml hown hret hlocks hEL hS hk CR p1 p2 p3 mm kp ch pp G1 u nm t kk va kv oe d1 d2 d3 d4 d5 kd1 kd2 kd3 kd4 k_d5 X20 e20 N20 O V_d1 V_d2 V_d3 V_d4 V_d5 S_d1 S_d2 S_d3 S_d4 S_d5  O2 P5 SV AV EV SE EE FE H S0 S1 L_ch N_pp n0_d1 n0_d2 n0_d3 n0_d4 n0_d5 ne_d1_d2 ne_d1_d3 ne_d2_d3 ne_d1_d4 ne_d2_d4 ne_d3_d4 ne_d1_d5 ne_d2_d5 ne_d3_d5 ne_d4_d5
set_option maxRecDepth 65536 in
set_option maxHeartbeats 40000000 in
theorem st_280 {p : Program} {l : Launch} {e : Env} {s : State} {m : MethodId} {args : Array Value} {below : List Frame} {meth : Method} {c : Code} {T0 : State} {locs : List Loc} {Z : State} {a0 : Array Value} {hh : Heap} {n0 : Nat} {Q : Option Value → Heap → List Loc → Prop} (hQ : ∀ h L, Fr n0 L → Q (some (.int 1)) h L) {vm : Vm} {k0 : Nat} (hx : p.tables.exec = Jvm.exec) (hZ : Z.Warmed39 (s.setVm vm).vm) (hw : ∀ d ∈ tables_1, d.before a0 Z = true) (hby : c.code = code) (hml : c.maxLocals = 17) (hown : (s.setVm vm).vm.findClass "com/example/bowerbird/bowerbird/model/GranularityNamedPinLaw" = some m.cls) (hret : meth.sig.returnType = (some .boolean)) (hlocks : meth.locks = false) (hEL : EW Z a0 EL) (hS : s.Since vm k0) (hk : k0 ≤ hh.size) (CR : CHr Z EL s.vm s.heap vm hh)
    (p1 p2 p3 mm kp ch pp G1 : Int32) (u : Nat → Addr) (nm : Nat → Addr) (t : Nat → Addr) (kk : Nat → ClassId) (va : Addr) (kv : ClassId) (oe : Addr) (d1 d2 d3 : Addr) (kd1 kd2 kd3 : ClassId) (X0 : Stand p l e room_1 (s.setVm vm) m args below meth c T0 locs 3 41) (e0 : T0.heap = hh) (N0 : Fr n0 locs) (O : Old Z n0 hh) (V_d1 : Arv Z hh d1 kd1 .char 10 (DAYL.map Value.int) (.int 0)) (V_d2 : Arv Z hh d2 kd2 .char 20 (SECL.map Value.int) (.int 0)) (V_d3 : Arv Z hh d3 kd3 .char 11 ((DAYL ++ [ch]).map Value.int) (.int 0)) (S_d1 : Safe Z EL vm hh d1) (S_d2 : Safe Z EL vm hh d2) (S_d3 : Safe Z EL vm hh d3)  (O2 : Sta Z Z.heap "java/lang/String" "COMPACT_STRINGS" "Z" (.int G1)) (P5 : ¬ (G1 = (0 : Int32))) (SV : Sta Z Z.heap "com/example/bowerbird/bowerbird/model/Datestamp$Granularity" "$VALUES" "[Lcom/example/bowerbird/bowerbird/model/Datestamp$Granularity;" (.ref va)) (AV : Arv Z Z.heap va kv (.object "com/example/bowerbird/bowerbird/model/Datestamp$Granularity") 2 [(.ref (u 0)), (.ref (u 1))] .null) (EV : Exa Z Z.heap va "[Lcom/example/bowerbird/bowerbird/model/Datestamp$Granularity;") (SE : Sta Z Z.heap "java/util/Optional" "EMPTY" "Ljava/util/Optional;" (.ref oe)) (EE : Exa Z Z.heap oe "java/util/Optional") (FE : Fld Z Z.heap oe "java/util/Optional" "value" "Ljava/lang/Object;" .null) (H : ∀ i, i < 2 → UnitOk Z (u i) (nm i) (t i) (kk i) (nmOf i)) (S0 : Sta Z Z.heap "com/example/bowerbird/bowerbird/model/Datestamp$Granularity" "DAY" "Lcom/example/bowerbird/bowerbird/model/Datestamp$Granularity;" (.ref (u 0))) (S1 : Sta Z Z.heap "com/example/bowerbird/bowerbird/model/Datestamp$Granularity" "SECOND" "Lcom/example/bowerbird/bowerbird/model/Datestamp$Granularity;" (.ref (u 1))) (L_ch : Own.Lat ch) (N_pp : ¬ pp < 0) (n0_d1 : n0 ≤ d1) (n0_d2 : n0 ≤ d2) (n0_d3 : n0 ≤ d3) (ne_d1_d2 : d1 ≠ d2) (ne_d1_d3 : d1 ≠ d3) (ne_d2_d3 : d2 ≠ d3) :
    Own.Go p e below (Own.EndW Z EL s Q 32 1344) (T0.setTop (mkF m 280 #[.val (.int p1), .val (.int p2), .val (.int p3), .val (.int mm), .val (.int kp), .val (.int ch), .val (.int pp), .val (.ref d1), .val (.ref d2), .val (.ref d3), .unset, .unset, .unset, .unset, .unset, .unset, .unset] [])) := by
  refine Own.g_bipush X0 hx (21 : Int32) (hb hby at_280) rfl 282 rfl ?_
  refine Own.g_newP X0 hx hZ (hw _ (List.mem_of_getElem? (i := 1) rfl)) e0 (hb hby at_282) (by decide) 21 (by decide) (by decide) (by decide) (by decide) 284 rfl .char rfl [(.int (0 : Int32)), (.int (0 : Int32)), (.int (0 : Int32)), (.int (0 : Int32)), (.int (0 : Int32)), (.int (0 : Int32)), (.int (0 : Int32)), (.int (0 : Int32)), (.int (0 : Int32)), (.int (0 : Int32)), (.int (0 : Int32)), (.int (0 : Int32)), (.int (0 : Int32)), (.int (0 : Int32)), (.int (0 : Int32)), (.int (0 : Int32)), (.int (0 : Int32)), (.int (0 : Int32)), (.int (0 : Int32)), (.int (0 : Int32)), (.int (0 : Int32))] (by intro i; first | rfl | (rcases i with _ | _ | _ | _ | _ | _ | _ | _ | _ | _ | _ | _ | _ | _ | _ | _ | _ | _ | _ | _ | _ | _ | _ | _ | i <;> rfl)) ?_
  intro T1 h1 d4 k_d4 X1 e1 E1 g1 V_d4
  have ne_d1_d4 : d1 ≠ d4 := Nat.ne_of_lt (Nat.lt_of_lt_of_le (V_d1.lt) (Nat.le_of_eq g1.symm))
  have ne_d2_d4 : d2 ≠ d4 := Nat.ne_of_lt (Nat.lt_of_lt_of_le (V_d2.lt) (Nat.le_of_eq g1.symm))
  have ne_d3_d4 : d3 ≠ d4 := Nat.ne_of_lt (Nat.lt_of_lt_of_le (V_d3.lt) (Nat.le_of_eq g1.symm))
  have n0_d4 : n0 ≤ d4 := Nat.le_trans (Nat.le_of_eq O.1.symm) (Nat.le_trans O.2.1 (Nat.le_of_eq g1.symm))
  have S_d4 : Safe Z EL vm hh d4 := Safe.new (Nat.le_of_eq g1.symm)
  replace V_d1 := V_d1.ext E1
  replace V_d2 := V_d2.ext E1
  replace V_d3 := V_d3.ext E1
  replace S_d1 := S_d1.ext E1 CR.1
  replace S_d2 := S_d2.ext E1 CR.1
  replace S_d3 := S_d3.ext E1 CR.1
  replace S_d4 := S_d4.ext E1 CR.1
  replace O := O.ext E1
  replace hk := Nat.le_trans hk E1.1
  replace CR := CR.trans (CHr.ext E1 CR.1)
  change Arv Z h1 d4 k_d4 .char (21 : Int32) [(.int (0 : Int32)), (.int (0 : Int32)), (.int (0 : Int32)), (.int (0 : Int32)), (.int (0 : Int32)), (.int (0 : Int32)), (.int (0 : Int32)), (.int (0 : Int32)), (.int (0 : Int32)), (.int (0 : Int32)), (.int (0 : Int32)), (.int (0 : Int32)), (.int (0 : Int32)), (.int (0 : Int32)), (.int (0 : Int32)), (.int (0 : Int32)), (.int (0 : Int32)), (.int (0 : Int32)), (.int (0 : Int32)), (.int (0 : Int32)), (.int (0 : Int32))] (.int (0 : Int32)) at V_d4
  refine Own.g_dup X1 hx (hb hby at_284) rfl 285 rfl ?_
  refine Own.g_iconst X1 hx (0 : Int32) (hb hby at_285) rfl 286 rfl ?_
  refine Own.g_bipush X1 hx (89 : Int32) (hb hby at_286) rfl 288 rfl ?_
  refine Own.g_stC X1 hx hZ e1 V_d4 (89 : Int32) rfl (by decide) 0 rfl (Nat.le_of_ble_eq_true rfl) [(.int (89 : Int32)), (.int (0 : Int32)), (.int (0 : Int32)), (.int (0 : Int32)), (.int (0 : Int32)), (.int (0 : Int32)), (.int (0 : Int32)), (.int (0 : Int32)), (.int (0 : Int32)), (.int (0 : Int32)), (.int (0 : Int32)), (.int (0 : Int32)), (.int (0 : Int32)), (.int (0 : Int32)), (.int (0 : Int32)), (.int (0 : Int32)), (.int (0 : Int32)), (.int (0 : Int32)), (.int (0 : Int32)), (.int (0 : Int32)), (.int (0 : Int32))] rfl (hb hby at_288) 289 rfl ?_
  clear V_d4; intro T2 h2 X2 e2 W2 V_d4
  have CR' := CR.trans (CHr.wr W2 S_d4 CR.1)
  replace S_d1 := Safe.wr W2 S_d4 CR.1 S_d1
  replace S_d2 := Safe.wr W2 S_d4 CR.1 S_d2
  replace S_d3 := Safe.wr W2 S_d4 CR.1 S_d3
  replace S_d4 := Safe.wr W2 S_d4 CR.1 S_d4
  replace CR := CR'
  replace hk := Nat.le_trans hk (Keep.of_wr W2).1
  replace V_d1 := V_d1.other W2 ne_d1_d4
  replace V_d2 := V_d2.other W2 ne_d2_d4
  replace V_d3 := V_d3.other W2 ne_d3_d4
  replace O := O.wr W2 n0_d4
  have N2 := Fr.snoc X2 N0 n0_d4
  refine Own.g_dup X2 hx (hb hby at_289) rfl 290 rfl ?_
  refine Own.g_iconst X2 hx (1 : Int32) (hb hby at_290) rfl 291 rfl ?_
  refine Own.g_bipush X2 hx (89 : Int32) (hb hby at_291) rfl 293 rfl ?_
  refine Own.g_stC X2 hx hZ e2 V_d4 (89 : Int32) rfl (by decide) 1 rfl (Nat.le_of_ble_eq_true rfl) [(.int (89 : Int32)), (.int (89 : Int32)), (.int (0 : Int32)), (.int (0 : Int32)), (.int (0 : Int32)), (.int (0 : Int32)), (.int (0 : Int32)), (.int (0 : Int32)), (.int (0 : Int32)), (.int (0 : Int32)), (.int (0 : Int32)), (.int (0 : Int32)), (.int (0 : Int32)), (.int (0 : Int32)), (.int (0 : Int32)), (.int (0 : Int32)), (.int (0 : Int32)), (.int (0 : Int32)), (.int (0 : Int32)), (.int (0 : Int32)), (.int (0 : Int32))] rfl (hb hby at_293) 294 rfl ?_
  clear V_d4; intro T3 h3 X3 e3 W3 V_d4
  have CR' := CR.trans (CHr.wr W3 S_d4 CR.1)
  replace S_d1 := Safe.wr W3 S_d4 CR.1 S_d1
  replace S_d2 := Safe.wr W3 S_d4 CR.1 S_d2
  replace S_d3 := Safe.wr W3 S_d4 CR.1 S_d3
  replace S_d4 := Safe.wr W3 S_d4 CR.1 S_d4
  replace CR := CR'
  replace hk := Nat.le_trans hk (Keep.of_wr W3).1
  replace V_d1 := V_d1.other W3 ne_d1_d4
  replace V_d2 := V_d2.other W3 ne_d2_d4
  replace V_d3 := V_d3.other W3 ne_d3_d4
  replace O := O.wr W3 n0_d4
  have N3 := Fr.snoc X3 N2 n0_d4
  refine Own.g_dup X3 hx (hb hby at_294) rfl 295 rfl ?_
  refine Own.g_iconst X3 hx (2 : Int32) (hb hby at_295) rfl 296 rfl ?_
  refine Own.g_bipush X3 hx (89 : Int32) (hb hby at_296) rfl 298 rfl ?_
  refine Own.g_stC X3 hx hZ e3 V_d4 (89 : Int32) rfl (by decide) 2 rfl (Nat.le_of_ble_eq_true rfl) [(.int (89 : Int32)), (.int (89 : Int32)), (.int (89 : Int32)), (.int (0 : Int32)), (.int (0 : Int32)), (.int (0 : Int32)), (.int (0 : Int32)), (.int (0 : Int32)), (.int (0 : Int32)), (.int (0 : Int32)), (.int (0 : Int32)), (.int (0 : Int32)), (.int (0 : Int32)), (.int (0 : Int32)), (.int (0 : Int32)), (.int (0 : Int32)), (.int (0 : Int32)), (.int (0 : Int32)), (.int (0 : Int32)), (.int (0 : Int32)), (.int (0 : Int32))] rfl (hb hby at_298) 299 rfl ?_
  clear V_d4; intro T4 h4 X4 e4 W4 V_d4
  have CR' := CR.trans (CHr.wr W4 S_d4 CR.1)
  replace S_d1 := Safe.wr W4 S_d4 CR.1 S_d1
  replace S_d2 := Safe.wr W4 S_d4 CR.1 S_d2
  replace S_d3 := Safe.wr W4 S_d4 CR.1 S_d3
  replace S_d4 := Safe.wr W4 S_d4 CR.1 S_d4
  replace CR := CR'
  replace hk := Nat.le_trans hk (Keep.of_wr W4).1
  replace V_d1 := V_d1.other W4 ne_d1_d4
  replace V_d2 := V_d2.other W4 ne_d2_d4
  replace V_d3 := V_d3.other W4 ne_d3_d4
  replace O := O.wr W4 n0_d4
  have N4 := Fr.snoc X4 N3 n0_d4
  refine Own.g_dup X4 hx (hb hby at_299) rfl 300 rfl ?_
  refine Own.g_iconst X4 hx (3 : Int32) (hb hby at_300) rfl 301 rfl ?_
  refine Own.g_bipush X4 hx (89 : Int32) (hb hby at_301) rfl 303 rfl ?_
  refine Own.g_stC X4 hx hZ e4 V_d4 (89 : Int32) rfl (by decide) 3 rfl (Nat.le_of_ble_eq_true rfl) [(.int (89 : Int32)), (.int (89 : Int32)), (.int (89 : Int32)), (.int (89 : Int32)), (.int (0 : Int32)), (.int (0 : Int32)), (.int (0 : Int32)), (.int (0 : Int32)), (.int (0 : Int32)), (.int (0 : Int32)), (.int (0 : Int32)), (.int (0 : Int32)), (.int (0 : Int32)), (.int (0 : Int32)), (.int (0 : Int32)), (.int (0 : Int32)), (.int (0 : Int32)), (.int (0 : Int32)), (.int (0 : Int32)), (.int (0 : Int32)), (.int (0 : Int32))] rfl (hb hby at_303) 304 rfl ?_
  clear V_d4; intro T5 h5 X5 e5 W5 V_d4
  have CR' := CR.trans (CHr.wr W5 S_d4 CR.1)
  replace S_d1 := Safe.wr W5 S_d4 CR.1 S_d1
  replace S_d2 := Safe.wr W5 S_d4 CR.1 S_d2
  replace S_d3 := Safe.wr W5 S_d4 CR.1 S_d3
  replace S_d4 := Safe.wr W5 S_d4 CR.1 S_d4
  replace CR := CR'
  replace hk := Nat.le_trans hk (Keep.of_wr W5).1
  replace V_d1 := V_d1.other W5 ne_d1_d4
  replace V_d2 := V_d2.other W5 ne_d2_d4
  replace V_d3 := V_d3.other W5 ne_d3_d4
  replace O := O.wr W5 n0_d4
  have N5 := Fr.snoc X5 N4 n0_d4
  refine Own.g_dup X5 hx (hb hby at_304) rfl 305 rfl ?_
  refine Own.g_iconst X5 hx (4 : Int32) (hb hby at_305) rfl 306 rfl ?_
  refine Own.g_bipush X5 hx (45 : Int32) (hb hby at_306) rfl 308 rfl ?_
  refine Own.g_stC X5 hx hZ e5 V_d4 (45 : Int32) rfl (by decide) 4 rfl (Nat.le_of_ble_eq_true rfl) [(.int (89 : Int32)), (.int (89 : Int32)), (.int (89 : Int32)), (.int (89 : Int32)), (.int (45 : Int32)), (.int (0 : Int32)), (.int (0 : Int32)), (.int (0 : Int32)), (.int (0 : Int32)), (.int (0 : Int32)), (.int (0 : Int32)), (.int (0 : Int32)), (.int (0 : Int32)), (.int (0 : Int32)), (.int (0 : Int32)), (.int (0 : Int32)), (.int (0 : Int32)), (.int (0 : Int32)), (.int (0 : Int32)), (.int (0 : Int32)), (.int (0 : Int32))] rfl (hb hby at_308) 309 rfl ?_
  clear V_d4; intro T6 h6 X6 e6 W6 V_d4
  have CR' := CR.trans (CHr.wr W6 S_d4 CR.1)
  replace S_d1 := Safe.wr W6 S_d4 CR.1 S_d1
  replace S_d2 := Safe.wr W6 S_d4 CR.1 S_d2
  replace S_d3 := Safe.wr W6 S_d4 CR.1 S_d3
  replace S_d4 := Safe.wr W6 S_d4 CR.1 S_d4
  replace CR := CR'
  replace hk := Nat.le_trans hk (Keep.of_wr W6).1
  replace V_d1 := V_d1.other W6 ne_d1_d4
  replace V_d2 := V_d2.other W6 ne_d2_d4
  replace V_d3 := V_d3.other W6 ne_d3_d4
  replace O := O.wr W6 n0_d4
  have N6 := Fr.snoc X6 N5 n0_d4
  refine Own.g_dup X6 hx (hb hby at_309) rfl 310 rfl ?_
  refine Own.g_iconst X6 hx (5 : Int32) (hb hby at_310) rfl 311 rfl ?_
  refine Own.g_bipush X6 hx (77 : Int32) (hb hby at_311) rfl 313 rfl ?_
  refine Own.g_stC X6 hx hZ e6 V_d4 (77 : Int32) rfl (by decide) 5 rfl (Nat.le_of_ble_eq_true rfl) [(.int (89 : Int32)), (.int (89 : Int32)), (.int (89 : Int32)), (.int (89 : Int32)), (.int (45 : Int32)), (.int (77 : Int32)), (.int (0 : Int32)), (.int (0 : Int32)), (.int (0 : Int32)), (.int (0 : Int32)), (.int (0 : Int32)), (.int (0 : Int32)), (.int (0 : Int32)), (.int (0 : Int32)), (.int (0 : Int32)), (.int (0 : Int32)), (.int (0 : Int32)), (.int (0 : Int32)), (.int (0 : Int32)), (.int (0 : Int32)), (.int (0 : Int32))] rfl (hb hby at_313) 314 rfl ?_
  clear V_d4; intro T7 h7 X7 e7 W7 V_d4
  have CR' := CR.trans (CHr.wr W7 S_d4 CR.1)
  replace S_d1 := Safe.wr W7 S_d4 CR.1 S_d1
  replace S_d2 := Safe.wr W7 S_d4 CR.1 S_d2
  replace S_d3 := Safe.wr W7 S_d4 CR.1 S_d3
  replace S_d4 := Safe.wr W7 S_d4 CR.1 S_d4
  replace CR := CR'
  replace hk := Nat.le_trans hk (Keep.of_wr W7).1
  replace V_d1 := V_d1.other W7 ne_d1_d4
  replace V_d2 := V_d2.other W7 ne_d2_d4
  replace V_d3 := V_d3.other W7 ne_d3_d4
  replace O := O.wr W7 n0_d4
  have N7 := Fr.snoc X7 N6 n0_d4
  refine Own.g_dup X7 hx (hb hby at_314) rfl 315 rfl ?_
  refine Own.g_bipush X7 hx (6 : Int32) (hb hby at_315) rfl 317 rfl ?_
  refine Own.g_bipush X7 hx (77 : Int32) (hb hby at_317) rfl 319 rfl ?_
  refine Own.g_stC X7 hx hZ e7 V_d4 (77 : Int32) rfl (by decide) 6 rfl (Nat.le_of_ble_eq_true rfl) [(.int (89 : Int32)), (.int (89 : Int32)), (.int (89 : Int32)), (.int (89 : Int32)), (.int (45 : Int32)), (.int (77 : Int32)), (.int (77 : Int32)), (.int (0 : Int32)), (.int (0 : Int32)), (.int (0 : Int32)), (.int (0 : Int32)), (.int (0 : Int32)), (.int (0 : Int32)), (.int (0 : Int32)), (.int (0 : Int32)), (.int (0 : Int32)), (.int (0 : Int32)), (.int (0 : Int32)), (.int (0 : Int32)), (.int (0 : Int32)), (.int (0 : Int32))] rfl (hb hby at_319) 320 rfl ?_
  clear V_d4; intro T8 h8 X8 e8 W8 V_d4
  have CR' := CR.trans (CHr.wr W8 S_d4 CR.1)
  replace S_d1 := Safe.wr W8 S_d4 CR.1 S_d1
  replace S_d2 := Safe.wr W8 S_d4 CR.1 S_d2
  replace S_d3 := Safe.wr W8 S_d4 CR.1 S_d3
  replace S_d4 := Safe.wr W8 S_d4 CR.1 S_d4
  replace CR := CR'
  replace hk := Nat.le_trans hk (Keep.of_wr W8).1
  replace V_d1 := V_d1.other W8 ne_d1_d4
  replace V_d2 := V_d2.other W8 ne_d2_d4
  replace V_d3 := V_d3.other W8 ne_d3_d4
  replace O := O.wr W8 n0_d4
  have N8 := Fr.snoc X8 N7 n0_d4
  refine Own.g_dup X8 hx (hb hby at_320) rfl 321 rfl ?_
  refine Own.g_bipush X8 hx (7 : Int32) (hb hby at_321) rfl 323 rfl ?_
  refine Own.g_bipush X8 hx (45 : Int32) (hb hby at_323) rfl 325 rfl ?_
  refine Own.g_stC X8 hx hZ e8 V_d4 (45 : Int32) rfl (by decide) 7 rfl (Nat.le_of_ble_eq_true rfl) [(.int (89 : Int32)), (.int (89 : Int32)), (.int (89 : Int32)), (.int (89 : Int32)), (.int (45 : Int32)), (.int (77 : Int32)), (.int (77 : Int32)), (.int (45 : Int32)), (.int (0 : Int32)), (.int (0 : Int32)), (.int (0 : Int32)), (.int (0 : Int32)), (.int (0 : Int32)), (.int (0 : Int32)), (.int (0 : Int32)), (.int (0 : Int32)), (.int (0 : Int32)), (.int (0 : Int32)), (.int (0 : Int32)), (.int (0 : Int32)), (.int (0 : Int32))] rfl (hb hby at_325) 326 rfl ?_
  clear V_d4; intro T9 h9 X9 e9 W9 V_d4
  have CR' := CR.trans (CHr.wr W9 S_d4 CR.1)
  replace S_d1 := Safe.wr W9 S_d4 CR.1 S_d1
  replace S_d2 := Safe.wr W9 S_d4 CR.1 S_d2
  replace S_d3 := Safe.wr W9 S_d4 CR.1 S_d3
  replace S_d4 := Safe.wr W9 S_d4 CR.1 S_d4
  replace CR := CR'
  replace hk := Nat.le_trans hk (Keep.of_wr W9).1
  replace V_d1 := V_d1.other W9 ne_d1_d4
  replace V_d2 := V_d2.other W9 ne_d2_d4
  replace V_d3 := V_d3.other W9 ne_d3_d4
  replace O := O.wr W9 n0_d4
  have N9 := Fr.snoc X9 N8 n0_d4
  refine Own.g_dup X9 hx (hb hby at_326) rfl 327 rfl ?_
  refine Own.g_bipush X9 hx (8 : Int32) (hb hby at_327) rfl 329 rfl ?_
  refine Own.g_bipush X9 hx (68 : Int32) (hb hby at_329) rfl 331 rfl ?_
  refine Own.g_stC X9 hx hZ e9 V_d4 (68 : Int32) rfl (by decide) 8 rfl (Nat.le_of_ble_eq_true rfl) [(.int (89 : Int32)), (.int (89 : Int32)), (.int (89 : Int32)), (.int (89 : Int32)), (.int (45 : Int32)), (.int (77 : Int32)), (.int (77 : Int32)), (.int (45 : Int32)), (.int (68 : Int32)), (.int (0 : Int32)), (.int (0 : Int32)), (.int (0 : Int32)), (.int (0 : Int32)), (.int (0 : Int32)), (.int (0 : Int32)), (.int (0 : Int32)), (.int (0 : Int32)), (.int (0 : Int32)), (.int (0 : Int32)), (.int (0 : Int32)), (.int (0 : Int32))] rfl (hb hby at_331) 332 rfl ?_
  clear V_d4; intro T10 h10 X10 e10 W10 V_d4
  have CR' := CR.trans (CHr.wr W10 S_d4 CR.1)
  replace S_d1 := Safe.wr W10 S_d4 CR.1 S_d1
  replace S_d2 := Safe.wr W10 S_d4 CR.1 S_d2
  replace S_d3 := Safe.wr W10 S_d4 CR.1 S_d3
  replace S_d4 := Safe.wr W10 S_d4 CR.1 S_d4
  replace CR := CR'
  replace hk := Nat.le_trans hk (Keep.of_wr W10).1
  replace V_d1 := V_d1.other W10 ne_d1_d4
  replace V_d2 := V_d2.other W10 ne_d2_d4
  replace V_d3 := V_d3.other W10 ne_d3_d4
  replace O := O.wr W10 n0_d4
  have N10 := Fr.snoc X10 N9 n0_d4
  refine Own.g_dup X10 hx (hb hby at_332) rfl 333 rfl ?_
  refine Own.g_bipush X10 hx (9 : Int32) (hb hby at_333) rfl 335 rfl ?_
  refine Own.g_bipush X10 hx (68 : Int32) (hb hby at_335) rfl 337 rfl ?_
  refine Own.g_stC X10 hx hZ e10 V_d4 (68 : Int32) rfl (by decide) 9 rfl (Nat.le_of_ble_eq_true rfl) [(.int (89 : Int32)), (.int (89 : Int32)), (.int (89 : Int32)), (.int (89 : Int32)), (.int (45 : Int32)), (.int (77 : Int32)), (.int (77 : Int32)), (.int (45 : Int32)), (.int (68 : Int32)), (.int (68 : Int32)), (.int (0 : Int32)), (.int (0 : Int32)), (.int (0 : Int32)), (.int (0 : Int32)), (.int (0 : Int32)), (.int (0 : Int32)), (.int (0 : Int32)), (.int (0 : Int32)), (.int (0 : Int32)), (.int (0 : Int32)), (.int (0 : Int32))] rfl (hb hby at_337) 338 rfl ?_
  clear V_d4; intro T11 h11 X11 e11 W11 V_d4
  have CR' := CR.trans (CHr.wr W11 S_d4 CR.1)
  replace S_d1 := Safe.wr W11 S_d4 CR.1 S_d1
  replace S_d2 := Safe.wr W11 S_d4 CR.1 S_d2
  replace S_d3 := Safe.wr W11 S_d4 CR.1 S_d3
  replace S_d4 := Safe.wr W11 S_d4 CR.1 S_d4
  replace CR := CR'
  replace hk := Nat.le_trans hk (Keep.of_wr W11).1
  replace V_d1 := V_d1.other W11 ne_d1_d4
  replace V_d2 := V_d2.other W11 ne_d2_d4
  replace V_d3 := V_d3.other W11 ne_d3_d4
  replace O := O.wr W11 n0_d4
  have N11 := Fr.snoc X11 N10 n0_d4
  refine Own.g_dup X11 hx (hb hby at_338) rfl 339 rfl ?_
  refine Own.g_bipush X11 hx (10 : Int32) (hb hby at_339) rfl 341 rfl ?_
  refine Own.g_bipush X11 hx (84 : Int32) (hb hby at_341) rfl 343 rfl ?_
  refine Own.g_stC X11 hx hZ e11 V_d4 (84 : Int32) rfl (by decide) 10 rfl (Nat.le_of_ble_eq_true rfl) [(.int (89 : Int32)), (.int (89 : Int32)), (.int (89 : Int32)), (.int (89 : Int32)), (.int (45 : Int32)), (.int (77 : Int32)), (.int (77 : Int32)), (.int (45 : Int32)), (.int (68 : Int32)), (.int (68 : Int32)), (.int (84 : Int32)), (.int (0 : Int32)), (.int (0 : Int32)), (.int (0 : Int32)), (.int (0 : Int32)), (.int (0 : Int32)), (.int (0 : Int32)), (.int (0 : Int32)), (.int (0 : Int32)), (.int (0 : Int32)), (.int (0 : Int32))] rfl (hb hby at_343) 344 rfl ?_
  clear V_d4; intro T12 h12 X12 e12 W12 V_d4
  have CR' := CR.trans (CHr.wr W12 S_d4 CR.1)
  replace S_d1 := Safe.wr W12 S_d4 CR.1 S_d1
  replace S_d2 := Safe.wr W12 S_d4 CR.1 S_d2
  replace S_d3 := Safe.wr W12 S_d4 CR.1 S_d3
  replace S_d4 := Safe.wr W12 S_d4 CR.1 S_d4
  replace CR := CR'
  replace hk := Nat.le_trans hk (Keep.of_wr W12).1
  replace V_d1 := V_d1.other W12 ne_d1_d4
  replace V_d2 := V_d2.other W12 ne_d2_d4
  replace V_d3 := V_d3.other W12 ne_d3_d4
  replace O := O.wr W12 n0_d4
  have N12 := Fr.snoc X12 N11 n0_d4
  refine Own.g_dup X12 hx (hb hby at_344) rfl 345 rfl ?_
  refine Own.g_bipush X12 hx (11 : Int32) (hb hby at_345) rfl 347 rfl ?_
  refine Own.g_bipush X12 hx (104 : Int32) (hb hby at_347) rfl 349 rfl ?_
  refine Own.g_stC X12 hx hZ e12 V_d4 (104 : Int32) rfl (by decide) 11 rfl (Nat.le_of_ble_eq_true rfl) [(.int (89 : Int32)), (.int (89 : Int32)), (.int (89 : Int32)), (.int (89 : Int32)), (.int (45 : Int32)), (.int (77 : Int32)), (.int (77 : Int32)), (.int (45 : Int32)), (.int (68 : Int32)), (.int (68 : Int32)), (.int (84 : Int32)), (.int (104 : Int32)), (.int (0 : Int32)), (.int (0 : Int32)), (.int (0 : Int32)), (.int (0 : Int32)), (.int (0 : Int32)), (.int (0 : Int32)), (.int (0 : Int32)), (.int (0 : Int32)), (.int (0 : Int32))] rfl (hb hby at_349) 350 rfl ?_
  clear V_d4; intro T13 h13 X13 e13 W13 V_d4
  have CR' := CR.trans (CHr.wr W13 S_d4 CR.1)
  replace S_d1 := Safe.wr W13 S_d4 CR.1 S_d1
  replace S_d2 := Safe.wr W13 S_d4 CR.1 S_d2
  replace S_d3 := Safe.wr W13 S_d4 CR.1 S_d3
  replace S_d4 := Safe.wr W13 S_d4 CR.1 S_d4
  replace CR := CR'
  replace hk := Nat.le_trans hk (Keep.of_wr W13).1
  replace V_d1 := V_d1.other W13 ne_d1_d4
  replace V_d2 := V_d2.other W13 ne_d2_d4
  replace V_d3 := V_d3.other W13 ne_d3_d4
  replace O := O.wr W13 n0_d4
  have N13 := Fr.snoc X13 N12 n0_d4
  refine Own.g_dup X13 hx (hb hby at_350) rfl 351 rfl ?_
  refine Own.g_bipush X13 hx (12 : Int32) (hb hby at_351) rfl 353 rfl ?_
  refine Own.g_bipush X13 hx (104 : Int32) (hb hby at_353) rfl 355 rfl ?_
  refine Own.g_stC X13 hx hZ e13 V_d4 (104 : Int32) rfl (by decide) 12 rfl (Nat.le_of_ble_eq_true rfl) [(.int (89 : Int32)), (.int (89 : Int32)), (.int (89 : Int32)), (.int (89 : Int32)), (.int (45 : Int32)), (.int (77 : Int32)), (.int (77 : Int32)), (.int (45 : Int32)), (.int (68 : Int32)), (.int (68 : Int32)), (.int (84 : Int32)), (.int (104 : Int32)), (.int (104 : Int32)), (.int (0 : Int32)), (.int (0 : Int32)), (.int (0 : Int32)), (.int (0 : Int32)), (.int (0 : Int32)), (.int (0 : Int32)), (.int (0 : Int32)), (.int (0 : Int32))] rfl (hb hby at_355) 356 rfl ?_
  clear V_d4; intro T14 h14 X14 e14 W14 V_d4
  have CR' := CR.trans (CHr.wr W14 S_d4 CR.1)
  replace S_d1 := Safe.wr W14 S_d4 CR.1 S_d1
  replace S_d2 := Safe.wr W14 S_d4 CR.1 S_d2
  replace S_d3 := Safe.wr W14 S_d4 CR.1 S_d3
  replace S_d4 := Safe.wr W14 S_d4 CR.1 S_d4
  replace CR := CR'
  replace hk := Nat.le_trans hk (Keep.of_wr W14).1
  replace V_d1 := V_d1.other W14 ne_d1_d4
  replace V_d2 := V_d2.other W14 ne_d2_d4
  replace V_d3 := V_d3.other W14 ne_d3_d4
  replace O := O.wr W14 n0_d4
  have N14 := Fr.snoc X14 N13 n0_d4
  refine Own.g_dup X14 hx (hb hby at_356) rfl 357 rfl ?_
  refine Own.g_bipush X14 hx (13 : Int32) (hb hby at_357) rfl 359 rfl ?_
  refine Own.g_bipush X14 hx (58 : Int32) (hb hby at_359) rfl 361 rfl ?_
  refine Own.g_stC X14 hx hZ e14 V_d4 (58 : Int32) rfl (by decide) 13 rfl (Nat.le_of_ble_eq_true rfl) [(.int (89 : Int32)), (.int (89 : Int32)), (.int (89 : Int32)), (.int (89 : Int32)), (.int (45 : Int32)), (.int (77 : Int32)), (.int (77 : Int32)), (.int (45 : Int32)), (.int (68 : Int32)), (.int (68 : Int32)), (.int (84 : Int32)), (.int (104 : Int32)), (.int (104 : Int32)), (.int (58 : Int32)), (.int (0 : Int32)), (.int (0 : Int32)), (.int (0 : Int32)), (.int (0 : Int32)), (.int (0 : Int32)), (.int (0 : Int32)), (.int (0 : Int32))] rfl (hb hby at_361) 362 rfl ?_
  clear V_d4; intro T15 h15 X15 e15 W15 V_d4
  have CR' := CR.trans (CHr.wr W15 S_d4 CR.1)
  replace S_d1 := Safe.wr W15 S_d4 CR.1 S_d1
  replace S_d2 := Safe.wr W15 S_d4 CR.1 S_d2
  replace S_d3 := Safe.wr W15 S_d4 CR.1 S_d3
  replace S_d4 := Safe.wr W15 S_d4 CR.1 S_d4
  replace CR := CR'
  replace hk := Nat.le_trans hk (Keep.of_wr W15).1
  replace V_d1 := V_d1.other W15 ne_d1_d4
  replace V_d2 := V_d2.other W15 ne_d2_d4
  replace V_d3 := V_d3.other W15 ne_d3_d4
  replace O := O.wr W15 n0_d4
  have N15 := Fr.snoc X15 N14 n0_d4
  refine Own.g_dup X15 hx (hb hby at_362) rfl 363 rfl ?_
  refine Own.g_bipush X15 hx (14 : Int32) (hb hby at_363) rfl 365 rfl ?_
  refine Own.g_bipush X15 hx (109 : Int32) (hb hby at_365) rfl 367 rfl ?_
  refine Own.g_stC X15 hx hZ e15 V_d4 (109 : Int32) rfl (by decide) 14 rfl (Nat.le_of_ble_eq_true rfl) [(.int (89 : Int32)), (.int (89 : Int32)), (.int (89 : Int32)), (.int (89 : Int32)), (.int (45 : Int32)), (.int (77 : Int32)), (.int (77 : Int32)), (.int (45 : Int32)), (.int (68 : Int32)), (.int (68 : Int32)), (.int (84 : Int32)), (.int (104 : Int32)), (.int (104 : Int32)), (.int (58 : Int32)), (.int (109 : Int32)), (.int (0 : Int32)), (.int (0 : Int32)), (.int (0 : Int32)), (.int (0 : Int32)), (.int (0 : Int32)), (.int (0 : Int32))] rfl (hb hby at_367) 368 rfl ?_
  clear V_d4; intro T16 h16 X16 e16 W16 V_d4
  have CR' := CR.trans (CHr.wr W16 S_d4 CR.1)
  replace S_d1 := Safe.wr W16 S_d4 CR.1 S_d1
  replace S_d2 := Safe.wr W16 S_d4 CR.1 S_d2
  replace S_d3 := Safe.wr W16 S_d4 CR.1 S_d3
  replace S_d4 := Safe.wr W16 S_d4 CR.1 S_d4
  replace CR := CR'
  replace hk := Nat.le_trans hk (Keep.of_wr W16).1
  replace V_d1 := V_d1.other W16 ne_d1_d4
  replace V_d2 := V_d2.other W16 ne_d2_d4
  replace V_d3 := V_d3.other W16 ne_d3_d4
  replace O := O.wr W16 n0_d4
  have N16 := Fr.snoc X16 N15 n0_d4
  refine Own.g_dup X16 hx (hb hby at_368) rfl 369 rfl ?_
  refine Own.g_bipush X16 hx (15 : Int32) (hb hby at_369) rfl 371 rfl ?_
  refine Own.g_bipush X16 hx (109 : Int32) (hb hby at_371) rfl 373 rfl ?_
  refine Own.g_stC X16 hx hZ e16 V_d4 (109 : Int32) rfl (by decide) 15 rfl (Nat.le_of_ble_eq_true rfl) [(.int (89 : Int32)), (.int (89 : Int32)), (.int (89 : Int32)), (.int (89 : Int32)), (.int (45 : Int32)), (.int (77 : Int32)), (.int (77 : Int32)), (.int (45 : Int32)), (.int (68 : Int32)), (.int (68 : Int32)), (.int (84 : Int32)), (.int (104 : Int32)), (.int (104 : Int32)), (.int (58 : Int32)), (.int (109 : Int32)), (.int (109 : Int32)), (.int (0 : Int32)), (.int (0 : Int32)), (.int (0 : Int32)), (.int (0 : Int32)), (.int (0 : Int32))] rfl (hb hby at_373) 374 rfl ?_
  clear V_d4; intro T17 h17 X17 e17 W17 V_d4
  have CR' := CR.trans (CHr.wr W17 S_d4 CR.1)
  replace S_d1 := Safe.wr W17 S_d4 CR.1 S_d1
  replace S_d2 := Safe.wr W17 S_d4 CR.1 S_d2
  replace S_d3 := Safe.wr W17 S_d4 CR.1 S_d3
  replace S_d4 := Safe.wr W17 S_d4 CR.1 S_d4
  replace CR := CR'
  replace hk := Nat.le_trans hk (Keep.of_wr W17).1
  replace V_d1 := V_d1.other W17 ne_d1_d4
  replace V_d2 := V_d2.other W17 ne_d2_d4
  replace V_d3 := V_d3.other W17 ne_d3_d4
  replace O := O.wr W17 n0_d4
  have N17 := Fr.snoc X17 N16 n0_d4
  refine Own.g_dup X17 hx (hb hby at_374) rfl 375 rfl ?_
  refine Own.g_bipush X17 hx (16 : Int32) (hb hby at_375) rfl 377 rfl ?_
  refine Own.g_bipush X17 hx (58 : Int32) (hb hby at_377) rfl 379 rfl ?_
  refine Own.g_stC X17 hx hZ e17 V_d4 (58 : Int32) rfl (by decide) 16 rfl (Nat.le_of_ble_eq_true rfl) [(.int (89 : Int32)), (.int (89 : Int32)), (.int (89 : Int32)), (.int (89 : Int32)), (.int (45 : Int32)), (.int (77 : Int32)), (.int (77 : Int32)), (.int (45 : Int32)), (.int (68 : Int32)), (.int (68 : Int32)), (.int (84 : Int32)), (.int (104 : Int32)), (.int (104 : Int32)), (.int (58 : Int32)), (.int (109 : Int32)), (.int (109 : Int32)), (.int (58 : Int32)), (.int (0 : Int32)), (.int (0 : Int32)), (.int (0 : Int32)), (.int (0 : Int32))] rfl (hb hby at_379) 380 rfl ?_
  clear V_d4; intro T18 h18 X18 e18 W18 V_d4
  have CR' := CR.trans (CHr.wr W18 S_d4 CR.1)
  replace S_d1 := Safe.wr W18 S_d4 CR.1 S_d1
  replace S_d2 := Safe.wr W18 S_d4 CR.1 S_d2
  replace S_d3 := Safe.wr W18 S_d4 CR.1 S_d3
  replace S_d4 := Safe.wr W18 S_d4 CR.1 S_d4
  replace CR := CR'
  replace hk := Nat.le_trans hk (Keep.of_wr W18).1
  replace V_d1 := V_d1.other W18 ne_d1_d4
  replace V_d2 := V_d2.other W18 ne_d2_d4
  replace V_d3 := V_d3.other W18 ne_d3_d4
  replace O := O.wr W18 n0_d4
  have N18 := Fr.snoc X18 N17 n0_d4
  refine Own.g_dup X18 hx (hb hby at_380) rfl 381 rfl ?_
  refine Own.g_bipush X18 hx (17 : Int32) (hb hby at_381) rfl 383 rfl ?_
  refine Own.g_bipush X18 hx (115 : Int32) (hb hby at_383) rfl 385 rfl ?_
  refine Own.g_stC X18 hx hZ e18 V_d4 (115 : Int32) rfl (by decide) 17 rfl (Nat.le_of_ble_eq_true rfl) [(.int (89 : Int32)), (.int (89 : Int32)), (.int (89 : Int32)), (.int (89 : Int32)), (.int (45 : Int32)), (.int (77 : Int32)), (.int (77 : Int32)), (.int (45 : Int32)), (.int (68 : Int32)), (.int (68 : Int32)), (.int (84 : Int32)), (.int (104 : Int32)), (.int (104 : Int32)), (.int (58 : Int32)), (.int (109 : Int32)), (.int (109 : Int32)), (.int (58 : Int32)), (.int (115 : Int32)), (.int (0 : Int32)), (.int (0 : Int32)), (.int (0 : Int32))] rfl (hb hby at_385) 386 rfl ?_
  clear V_d4; intro T19 h19 X19 e19 W19 V_d4
  have CR' := CR.trans (CHr.wr W19 S_d4 CR.1)
  replace S_d1 := Safe.wr W19 S_d4 CR.1 S_d1
  replace S_d2 := Safe.wr W19 S_d4 CR.1 S_d2
  replace S_d3 := Safe.wr W19 S_d4 CR.1 S_d3
  replace S_d4 := Safe.wr W19 S_d4 CR.1 S_d4
  replace CR := CR'
  replace hk := Nat.le_trans hk (Keep.of_wr W19).1
  replace V_d1 := V_d1.other W19 ne_d1_d4
  replace V_d2 := V_d2.other W19 ne_d2_d4
  replace V_d3 := V_d3.other W19 ne_d3_d4
  replace O := O.wr W19 n0_d4
  have N19 := Fr.snoc X19 N18 n0_d4
  refine Own.g_dup X19 hx (hb hby at_386) rfl 387 rfl ?_
  refine Own.g_bipush X19 hx (18 : Int32) (hb hby at_387) rfl 389 rfl ?_
  refine Own.g_bipush X19 hx (115 : Int32) (hb hby at_389) rfl 391 rfl ?_
  refine Own.g_stC X19 hx hZ e19 V_d4 (115 : Int32) rfl (by decide) 18 rfl (Nat.le_of_ble_eq_true rfl) [(.int (89 : Int32)), (.int (89 : Int32)), (.int (89 : Int32)), (.int (89 : Int32)), (.int (45 : Int32)), (.int (77 : Int32)), (.int (77 : Int32)), (.int (45 : Int32)), (.int (68 : Int32)), (.int (68 : Int32)), (.int (84 : Int32)), (.int (104 : Int32)), (.int (104 : Int32)), (.int (58 : Int32)), (.int (109 : Int32)), (.int (109 : Int32)), (.int (58 : Int32)), (.int (115 : Int32)), (.int (115 : Int32)), (.int (0 : Int32)), (.int (0 : Int32))] rfl (hb hby at_391) 392 rfl ?_
  clear V_d4; intro T20 h20 X20 e20 W20 V_d4
  have CR' := CR.trans (CHr.wr W20 S_d4 CR.1)
  replace S_d1 := Safe.wr W20 S_d4 CR.1 S_d1
  replace S_d2 := Safe.wr W20 S_d4 CR.1 S_d2
  replace S_d3 := Safe.wr W20 S_d4 CR.1 S_d3
  replace S_d4 := Safe.wr W20 S_d4 CR.1 S_d4
  replace CR := CR'
  replace hk := Nat.le_trans hk (Keep.of_wr W20).1
  replace V_d1 := V_d1.other W20 ne_d1_d4
  replace V_d2 := V_d2.other W20 ne_d2_d4
  replace V_d3 := V_d3.other W20 ne_d3_d4
  replace O := O.wr W20 n0_d4
  have N20 := Fr.snoc X20 N19 n0_d4
  refine Own.g_dup X20 hx (hb hby at_392) rfl 393 rfl ?_
  refine Own.g_bipush X20 hx (19 : Int32) (hb hby at_393) rfl 395 rfl ?_
  refine Own.g_bipush X20 hx (90 : Int32) (hb hby at_395) rfl 397 rfl ?_
  refine Own.g_stC X20 hx hZ e20 V_d4 (90 : Int32) rfl (by decide) 19 rfl (Nat.le_of_ble_eq_true rfl) [(.int (89 : Int32)), (.int (89 : Int32)), (.int (89 : Int32)), (.int (89 : Int32)), (.int (45 : Int32)), (.int (77 : Int32)), (.int (77 : Int32)), (.int (45 : Int32)), (.int (68 : Int32)), (.int (68 : Int32)), (.int (84 : Int32)), (.int (104 : Int32)), (.int (104 : Int32)), (.int (58 : Int32)), (.int (109 : Int32)), (.int (109 : Int32)), (.int (58 : Int32)), (.int (115 : Int32)), (.int (115 : Int32)), (.int (90 : Int32)), (.int (0 : Int32))] rfl (hb hby at_397) 398 rfl ?_
  clear V_d4; intro T21 h21 X21 e21 W21 V_d4
  have CR' := CR.trans (CHr.wr W21 S_d4 CR.1)
  replace S_d1 := Safe.wr W21 S_d4 CR.1 S_d1
  replace S_d2 := Safe.wr W21 S_d4 CR.1 S_d2
  replace S_d3 := Safe.wr W21 S_d4 CR.1 S_d3
  replace S_d4 := Safe.wr W21 S_d4 CR.1 S_d4
  replace CR := CR'
  replace hk := Nat.le_trans hk (Keep.of_wr W21).1
  replace V_d1 := V_d1.other W21 ne_d1_d4
  replace V_d2 := V_d2.other W21 ne_d2_d4
  replace V_d3 := V_d3.other W21 ne_d3_d4
  replace O := O.wr W21 n0_d4
  have N21 := Fr.snoc X21 N20 n0_d4
  refine Own.g_dup X21 hx (hb hby at_398) rfl 399 rfl ?_
  refine Own.g_bipush X21 hx (20 : Int32) (hb hby at_399) rfl 401 rfl ?_
  refine Own.g_iload X21 hx (hb hby at_401) rfl 403 rfl ?_
  refine Own.g_stC X21 hx hZ e21 V_d4 ch (Own.nar_lat L_ch) (by decide) 20 rfl (Nat.le_of_ble_eq_true rfl) [(.int (89 : Int32)), (.int (89 : Int32)), (.int (89 : Int32)), (.int (89 : Int32)), (.int (45 : Int32)), (.int (77 : Int32)), (.int (77 : Int32)), (.int (45 : Int32)), (.int (68 : Int32)), (.int (68 : Int32)), (.int (84 : Int32)), (.int (104 : Int32)), (.int (104 : Int32)), (.int (58 : Int32)), (.int (109 : Int32)), (.int (109 : Int32)), (.int (58 : Int32)), (.int (115 : Int32)), (.int (115 : Int32)), (.int (90 : Int32)), (.int ch)] rfl (hb hby at_403) 404 rfl ?_
  clear V_d4; intro T22 h22 X22 e22 W22 V_d4
  have CR' := CR.trans (CHr.wr W22 S_d4 CR.1)
  replace S_d1 := Safe.wr W22 S_d4 CR.1 S_d1
  replace S_d2 := Safe.wr W22 S_d4 CR.1 S_d2
  replace S_d3 := Safe.wr W22 S_d4 CR.1 S_d3
  replace S_d4 := Safe.wr W22 S_d4 CR.1 S_d4
  replace CR := CR'
  replace hk := Nat.le_trans hk (Keep.of_wr W22).1
  replace V_d1 := V_d1.other W22 ne_d1_d4
  replace V_d2 := V_d2.other W22 ne_d2_d4
  replace V_d3 := V_d3.other W22 ne_d3_d4
  replace O := O.wr W22 n0_d4
  have N22 := Fr.snoc X22 N21 n0_d4
  refine Own.g_astore X22 hx #[.val (.int p1), .val (.int p2), .val (.int p3), .val (.int mm), .val (.int kp), .val (.int ch), .val (.int pp), .val (.ref d1), .val (.ref d2), .val (.ref d3), .val (.ref d4), .unset, .unset, .unset, .unset, .unset, .unset] (hb hby at_404) rfl rfl 406 rfl ?_
  replace V_d4 : Arv Z h22 d4 k_d4 .char 21 ((SECL ++ [ch]).map Value.int) (.int 0) := V_d4
  exact st_406 hQ hx hZ hw hby hml hown hret hlocks hEL hS hk CR p1 p2 p3 mm kp ch pp G1 u nm t kk va kv oe d1 d2 d3 d4 kd1 kd2 kd3 k_d4 X22 e22 N22 O V_d1 V_d2 V_d3 V_d4 S_d1 S_d2 S_d3 S_d4  O2 P5 SV AV EV SE EE FE H S0 S1 L_ch N_pp n0_d1 n0_d2 n0_d3 n0_d4 ne_d1_d2 ne_d1_d3 ne_d2_d3 ne_d1_d4 ne_d2_d4 ne_d3_d4
set_option maxRecDepth 65536 in
set_option maxHeartbeats 40000000 in
theorem st_214 {p : Program} {l : Launch} {e : Env} {s : State} {m : MethodId} {args : Array Value} {below : List Frame} {meth : Method} {c : Code} {T0 : State} {locs : List Loc} {Z : State} {a0 : Array Value} {hh : Heap} {n0 : Nat} {Q : Option Value → Heap → List Loc → Prop} (hQ : ∀ h L, Fr n0 L → Q (some (.int 1)) h L) {vm : Vm} {k0 : Nat} (hx : p.tables.exec = Jvm.exec) (hZ : Z.Warmed39 (s.setVm vm).vm) (hw : ∀ d ∈ tables_1, d.before a0 Z = true) (hby : c.code = code) (hml : c.maxLocals = 17) (hown : (s.setVm vm).vm.findClass "com/example/bowerbird/bowerbird/model/GranularityNamedPinLaw" = some m.cls) (hret : meth.sig.returnType = (some .boolean)) (hlocks : meth.locks = false) (hEL : EW Z a0 EL) (hS : s.Since vm k0) (hk : k0 ≤ hh.size) (CR : CHr Z EL s.vm s.heap vm hh)
    (p1 p2 p3 mm kp ch pp G1 : Int32) (u : Nat → Addr) (nm : Nat → Addr) (t : Nat → Addr) (kk : Nat → ClassId) (va : Addr) (kv : ClassId) (oe : Addr) (d1 d2 : Addr) (kd1 kd2 : ClassId) (X0 : Stand p l e room_1 (s.setVm vm) m args below meth c T0 locs 2 30) (e0 : T0.heap = hh) (N0 : Fr n0 locs) (O : Old Z n0 hh) (V_d1 : Arv Z hh d1 kd1 .char 10 (DAYL.map Value.int) (.int 0)) (V_d2 : Arv Z hh d2 kd2 .char 20 (SECL.map Value.int) (.int 0)) (S_d1 : Safe Z EL vm hh d1) (S_d2 : Safe Z EL vm hh d2)  (O2 : Sta Z Z.heap "java/lang/String" "COMPACT_STRINGS" "Z" (.int G1)) (P5 : ¬ (G1 = (0 : Int32))) (SV : Sta Z Z.heap "com/example/bowerbird/bowerbird/model/Datestamp$Granularity" "$VALUES" "[Lcom/example/bowerbird/bowerbird/model/Datestamp$Granularity;" (.ref va)) (AV : Arv Z Z.heap va kv (.object "com/example/bowerbird/bowerbird/model/Datestamp$Granularity") 2 [(.ref (u 0)), (.ref (u 1))] .null) (EV : Exa Z Z.heap va "[Lcom/example/bowerbird/bowerbird/model/Datestamp$Granularity;") (SE : Sta Z Z.heap "java/util/Optional" "EMPTY" "Ljava/util/Optional;" (.ref oe)) (EE : Exa Z Z.heap oe "java/util/Optional") (FE : Fld Z Z.heap oe "java/util/Optional" "value" "Ljava/lang/Object;" .null) (H : ∀ i, i < 2 → UnitOk Z (u i) (nm i) (t i) (kk i) (nmOf i)) (S0 : Sta Z Z.heap "com/example/bowerbird/bowerbird/model/Datestamp$Granularity" "DAY" "Lcom/example/bowerbird/bowerbird/model/Datestamp$Granularity;" (.ref (u 0))) (S1 : Sta Z Z.heap "com/example/bowerbird/bowerbird/model/Datestamp$Granularity" "SECOND" "Lcom/example/bowerbird/bowerbird/model/Datestamp$Granularity;" (.ref (u 1))) (L_ch : Own.Lat ch) (N_pp : ¬ pp < 0) (n0_d1 : n0 ≤ d1) (n0_d2 : n0 ≤ d2) (ne_d1_d2 : d1 ≠ d2) :
    Own.Go p e below (Own.EndW Z EL s Q 32 1344) (T0.setTop (mkF m 214 #[.val (.int p1), .val (.int p2), .val (.int p3), .val (.int mm), .val (.int kp), .val (.int ch), .val (.int pp), .val (.ref d1), .val (.ref d2), .unset, .unset, .unset, .unset, .unset, .unset, .unset, .unset] [])) := by
  refine Own.g_bipush X0 hx (11 : Int32) (hb hby at_214) rfl 216 rfl ?_
  refine Own.g_newP X0 hx hZ (hw _ (List.mem_of_getElem? (i := 1) rfl)) e0 (hb hby at_216) (by decide) 11 (by decide) (by decide) (by decide) (by decide) 218 rfl .char rfl [(.int (0 : Int32)), (.int (0 : Int32)), (.int (0 : Int32)), (.int (0 : Int32)), (.int (0 : Int32)), (.int (0 : Int32)), (.int (0 : Int32)), (.int (0 : Int32)), (.int (0 : Int32)), (.int (0 : Int32)), (.int (0 : Int32))] (by intro i; first | rfl | (rcases i with _ | _ | _ | _ | _ | _ | _ | _ | _ | _ | _ | _ | _ | _ | _ | _ | _ | _ | _ | _ | _ | _ | _ | _ | i <;> rfl)) ?_
  intro T1 h1 d3 k_d3 X1 e1 E1 g1 V_d3
  have ne_d1_d3 : d1 ≠ d3 := Nat.ne_of_lt (Nat.lt_of_lt_of_le (V_d1.lt) (Nat.le_of_eq g1.symm))
  have ne_d2_d3 : d2 ≠ d3 := Nat.ne_of_lt (Nat.lt_of_lt_of_le (V_d2.lt) (Nat.le_of_eq g1.symm))
  have n0_d3 : n0 ≤ d3 := Nat.le_trans (Nat.le_of_eq O.1.symm) (Nat.le_trans O.2.1 (Nat.le_of_eq g1.symm))
  have S_d3 : Safe Z EL vm hh d3 := Safe.new (Nat.le_of_eq g1.symm)
  replace V_d1 := V_d1.ext E1
  replace V_d2 := V_d2.ext E1
  replace S_d1 := S_d1.ext E1 CR.1
  replace S_d2 := S_d2.ext E1 CR.1
  replace S_d3 := S_d3.ext E1 CR.1
  replace O := O.ext E1
  replace hk := Nat.le_trans hk E1.1
  replace CR := CR.trans (CHr.ext E1 CR.1)
  change Arv Z h1 d3 k_d3 .char (11 : Int32) [(.int (0 : Int32)), (.int (0 : Int32)), (.int (0 : Int32)), (.int (0 : Int32)), (.int (0 : Int32)), (.int (0 : Int32)), (.int (0 : Int32)), (.int (0 : Int32)), (.int (0 : Int32)), (.int (0 : Int32)), (.int (0 : Int32))] (.int (0 : Int32)) at V_d3
  refine Own.g_dup X1 hx (hb hby at_218) rfl 219 rfl ?_
  refine Own.g_iconst X1 hx (0 : Int32) (hb hby at_219) rfl 220 rfl ?_
  refine Own.g_bipush X1 hx (89 : Int32) (hb hby at_220) rfl 222 rfl ?_
  refine Own.g_stC X1 hx hZ e1 V_d3 (89 : Int32) rfl (by decide) 0 rfl (Nat.le_of_ble_eq_true rfl) [(.int (89 : Int32)), (.int (0 : Int32)), (.int (0 : Int32)), (.int (0 : Int32)), (.int (0 : Int32)), (.int (0 : Int32)), (.int (0 : Int32)), (.int (0 : Int32)), (.int (0 : Int32)), (.int (0 : Int32)), (.int (0 : Int32))] rfl (hb hby at_222) 223 rfl ?_
  clear V_d3; intro T2 h2 X2 e2 W2 V_d3
  have CR' := CR.trans (CHr.wr W2 S_d3 CR.1)
  replace S_d1 := Safe.wr W2 S_d3 CR.1 S_d1
  replace S_d2 := Safe.wr W2 S_d3 CR.1 S_d2
  replace S_d3 := Safe.wr W2 S_d3 CR.1 S_d3
  replace CR := CR'
  replace hk := Nat.le_trans hk (Keep.of_wr W2).1
  replace V_d1 := V_d1.other W2 ne_d1_d3
  replace V_d2 := V_d2.other W2 ne_d2_d3
  replace O := O.wr W2 n0_d3
  have N2 := Fr.snoc X2 N0 n0_d3
  refine Own.g_dup X2 hx (hb hby at_223) rfl 224 rfl ?_
  refine Own.g_iconst X2 hx (1 : Int32) (hb hby at_224) rfl 225 rfl ?_
  refine Own.g_bipush X2 hx (89 : Int32) (hb hby at_225) rfl 227 rfl ?_
  refine Own.g_stC X2 hx hZ e2 V_d3 (89 : Int32) rfl (by decide) 1 rfl (Nat.le_of_ble_eq_true rfl) [(.int (89 : Int32)), (.int (89 : Int32)), (.int (0 : Int32)), (.int (0 : Int32)), (.int (0 : Int32)), (.int (0 : Int32)), (.int (0 : Int32)), (.int (0 : Int32)), (.int (0 : Int32)), (.int (0 : Int32)), (.int (0 : Int32))] rfl (hb hby at_227) 228 rfl ?_
  clear V_d3; intro T3 h3 X3 e3 W3 V_d3
  have CR' := CR.trans (CHr.wr W3 S_d3 CR.1)
  replace S_d1 := Safe.wr W3 S_d3 CR.1 S_d1
  replace S_d2 := Safe.wr W3 S_d3 CR.1 S_d2
  replace S_d3 := Safe.wr W3 S_d3 CR.1 S_d3
  replace CR := CR'
  replace hk := Nat.le_trans hk (Keep.of_wr W3).1
  replace V_d1 := V_d1.other W3 ne_d1_d3
  replace V_d2 := V_d2.other W3 ne_d2_d3
  replace O := O.wr W3 n0_d3
  have N3 := Fr.snoc X3 N2 n0_d3
  refine Own.g_dup X3 hx (hb hby at_228) rfl 229 rfl ?_
  refine Own.g_iconst X3 hx (2 : Int32) (hb hby at_229) rfl 230 rfl ?_
  refine Own.g_bipush X3 hx (89 : Int32) (hb hby at_230) rfl 232 rfl ?_
  refine Own.g_stC X3 hx hZ e3 V_d3 (89 : Int32) rfl (by decide) 2 rfl (Nat.le_of_ble_eq_true rfl) [(.int (89 : Int32)), (.int (89 : Int32)), (.int (89 : Int32)), (.int (0 : Int32)), (.int (0 : Int32)), (.int (0 : Int32)), (.int (0 : Int32)), (.int (0 : Int32)), (.int (0 : Int32)), (.int (0 : Int32)), (.int (0 : Int32))] rfl (hb hby at_232) 233 rfl ?_
  clear V_d3; intro T4 h4 X4 e4 W4 V_d3
  have CR' := CR.trans (CHr.wr W4 S_d3 CR.1)
  replace S_d1 := Safe.wr W4 S_d3 CR.1 S_d1
  replace S_d2 := Safe.wr W4 S_d3 CR.1 S_d2
  replace S_d3 := Safe.wr W4 S_d3 CR.1 S_d3
  replace CR := CR'
  replace hk := Nat.le_trans hk (Keep.of_wr W4).1
  replace V_d1 := V_d1.other W4 ne_d1_d3
  replace V_d2 := V_d2.other W4 ne_d2_d3
  replace O := O.wr W4 n0_d3
  have N4 := Fr.snoc X4 N3 n0_d3
  refine Own.g_dup X4 hx (hb hby at_233) rfl 234 rfl ?_
  refine Own.g_iconst X4 hx (3 : Int32) (hb hby at_234) rfl 235 rfl ?_
  refine Own.g_bipush X4 hx (89 : Int32) (hb hby at_235) rfl 237 rfl ?_
  refine Own.g_stC X4 hx hZ e4 V_d3 (89 : Int32) rfl (by decide) 3 rfl (Nat.le_of_ble_eq_true rfl) [(.int (89 : Int32)), (.int (89 : Int32)), (.int (89 : Int32)), (.int (89 : Int32)), (.int (0 : Int32)), (.int (0 : Int32)), (.int (0 : Int32)), (.int (0 : Int32)), (.int (0 : Int32)), (.int (0 : Int32)), (.int (0 : Int32))] rfl (hb hby at_237) 238 rfl ?_
  clear V_d3; intro T5 h5 X5 e5 W5 V_d3
  have CR' := CR.trans (CHr.wr W5 S_d3 CR.1)
  replace S_d1 := Safe.wr W5 S_d3 CR.1 S_d1
  replace S_d2 := Safe.wr W5 S_d3 CR.1 S_d2
  replace S_d3 := Safe.wr W5 S_d3 CR.1 S_d3
  replace CR := CR'
  replace hk := Nat.le_trans hk (Keep.of_wr W5).1
  replace V_d1 := V_d1.other W5 ne_d1_d3
  replace V_d2 := V_d2.other W5 ne_d2_d3
  replace O := O.wr W5 n0_d3
  have N5 := Fr.snoc X5 N4 n0_d3
  refine Own.g_dup X5 hx (hb hby at_238) rfl 239 rfl ?_
  refine Own.g_iconst X5 hx (4 : Int32) (hb hby at_239) rfl 240 rfl ?_
  refine Own.g_bipush X5 hx (45 : Int32) (hb hby at_240) rfl 242 rfl ?_
  refine Own.g_stC X5 hx hZ e5 V_d3 (45 : Int32) rfl (by decide) 4 rfl (Nat.le_of_ble_eq_true rfl) [(.int (89 : Int32)), (.int (89 : Int32)), (.int (89 : Int32)), (.int (89 : Int32)), (.int (45 : Int32)), (.int (0 : Int32)), (.int (0 : Int32)), (.int (0 : Int32)), (.int (0 : Int32)), (.int (0 : Int32)), (.int (0 : Int32))] rfl (hb hby at_242) 243 rfl ?_
  clear V_d3; intro T6 h6 X6 e6 W6 V_d3
  have CR' := CR.trans (CHr.wr W6 S_d3 CR.1)
  replace S_d1 := Safe.wr W6 S_d3 CR.1 S_d1
  replace S_d2 := Safe.wr W6 S_d3 CR.1 S_d2
  replace S_d3 := Safe.wr W6 S_d3 CR.1 S_d3
  replace CR := CR'
  replace hk := Nat.le_trans hk (Keep.of_wr W6).1
  replace V_d1 := V_d1.other W6 ne_d1_d3
  replace V_d2 := V_d2.other W6 ne_d2_d3
  replace O := O.wr W6 n0_d3
  have N6 := Fr.snoc X6 N5 n0_d3
  refine Own.g_dup X6 hx (hb hby at_243) rfl 244 rfl ?_
  refine Own.g_iconst X6 hx (5 : Int32) (hb hby at_244) rfl 245 rfl ?_
  refine Own.g_bipush X6 hx (77 : Int32) (hb hby at_245) rfl 247 rfl ?_
  refine Own.g_stC X6 hx hZ e6 V_d3 (77 : Int32) rfl (by decide) 5 rfl (Nat.le_of_ble_eq_true rfl) [(.int (89 : Int32)), (.int (89 : Int32)), (.int (89 : Int32)), (.int (89 : Int32)), (.int (45 : Int32)), (.int (77 : Int32)), (.int (0 : Int32)), (.int (0 : Int32)), (.int (0 : Int32)), (.int (0 : Int32)), (.int (0 : Int32))] rfl (hb hby at_247) 248 rfl ?_
  clear V_d3; intro T7 h7 X7 e7 W7 V_d3
  have CR' := CR.trans (CHr.wr W7 S_d3 CR.1)
  replace S_d1 := Safe.wr W7 S_d3 CR.1 S_d1
  replace S_d2 := Safe.wr W7 S_d3 CR.1 S_d2
  replace S_d3 := Safe.wr W7 S_d3 CR.1 S_d3
  replace CR := CR'
  replace hk := Nat.le_trans hk (Keep.of_wr W7).1
  replace V_d1 := V_d1.other W7 ne_d1_d3
  replace V_d2 := V_d2.other W7 ne_d2_d3
  replace O := O.wr W7 n0_d3
  have N7 := Fr.snoc X7 N6 n0_d3
  refine Own.g_dup X7 hx (hb hby at_248) rfl 249 rfl ?_
  refine Own.g_bipush X7 hx (6 : Int32) (hb hby at_249) rfl 251 rfl ?_
  refine Own.g_bipush X7 hx (77 : Int32) (hb hby at_251) rfl 253 rfl ?_
  refine Own.g_stC X7 hx hZ e7 V_d3 (77 : Int32) rfl (by decide) 6 rfl (Nat.le_of_ble_eq_true rfl) [(.int (89 : Int32)), (.int (89 : Int32)), (.int (89 : Int32)), (.int (89 : Int32)), (.int (45 : Int32)), (.int (77 : Int32)), (.int (77 : Int32)), (.int (0 : Int32)), (.int (0 : Int32)), (.int (0 : Int32)), (.int (0 : Int32))] rfl (hb hby at_253) 254 rfl ?_
  clear V_d3; intro T8 h8 X8 e8 W8 V_d3
  have CR' := CR.trans (CHr.wr W8 S_d3 CR.1)
  replace S_d1 := Safe.wr W8 S_d3 CR.1 S_d1
  replace S_d2 := Safe.wr W8 S_d3 CR.1 S_d2
  replace S_d3 := Safe.wr W8 S_d3 CR.1 S_d3
  replace CR := CR'
  replace hk := Nat.le_trans hk (Keep.of_wr W8).1
  replace V_d1 := V_d1.other W8 ne_d1_d3
  replace V_d2 := V_d2.other W8 ne_d2_d3
  replace O := O.wr W8 n0_d3
  have N8 := Fr.snoc X8 N7 n0_d3
  refine Own.g_dup X8 hx (hb hby at_254) rfl 255 rfl ?_
  refine Own.g_bipush X8 hx (7 : Int32) (hb hby at_255) rfl 257 rfl ?_
  refine Own.g_bipush X8 hx (45 : Int32) (hb hby at_257) rfl 259 rfl ?_
  refine Own.g_stC X8 hx hZ e8 V_d3 (45 : Int32) rfl (by decide) 7 rfl (Nat.le_of_ble_eq_true rfl) [(.int (89 : Int32)), (.int (89 : Int32)), (.int (89 : Int32)), (.int (89 : Int32)), (.int (45 : Int32)), (.int (77 : Int32)), (.int (77 : Int32)), (.int (45 : Int32)), (.int (0 : Int32)), (.int (0 : Int32)), (.int (0 : Int32))] rfl (hb hby at_259) 260 rfl ?_
  clear V_d3; intro T9 h9 X9 e9 W9 V_d3
  have CR' := CR.trans (CHr.wr W9 S_d3 CR.1)
  replace S_d1 := Safe.wr W9 S_d3 CR.1 S_d1
  replace S_d2 := Safe.wr W9 S_d3 CR.1 S_d2
  replace S_d3 := Safe.wr W9 S_d3 CR.1 S_d3
  replace CR := CR'
  replace hk := Nat.le_trans hk (Keep.of_wr W9).1
  replace V_d1 := V_d1.other W9 ne_d1_d3
  replace V_d2 := V_d2.other W9 ne_d2_d3
  replace O := O.wr W9 n0_d3
  have N9 := Fr.snoc X9 N8 n0_d3
  refine Own.g_dup X9 hx (hb hby at_260) rfl 261 rfl ?_
  refine Own.g_bipush X9 hx (8 : Int32) (hb hby at_261) rfl 263 rfl ?_
  refine Own.g_bipush X9 hx (68 : Int32) (hb hby at_263) rfl 265 rfl ?_
  refine Own.g_stC X9 hx hZ e9 V_d3 (68 : Int32) rfl (by decide) 8 rfl (Nat.le_of_ble_eq_true rfl) [(.int (89 : Int32)), (.int (89 : Int32)), (.int (89 : Int32)), (.int (89 : Int32)), (.int (45 : Int32)), (.int (77 : Int32)), (.int (77 : Int32)), (.int (45 : Int32)), (.int (68 : Int32)), (.int (0 : Int32)), (.int (0 : Int32))] rfl (hb hby at_265) 266 rfl ?_
  clear V_d3; intro T10 h10 X10 e10 W10 V_d3
  have CR' := CR.trans (CHr.wr W10 S_d3 CR.1)
  replace S_d1 := Safe.wr W10 S_d3 CR.1 S_d1
  replace S_d2 := Safe.wr W10 S_d3 CR.1 S_d2
  replace S_d3 := Safe.wr W10 S_d3 CR.1 S_d3
  replace CR := CR'
  replace hk := Nat.le_trans hk (Keep.of_wr W10).1
  replace V_d1 := V_d1.other W10 ne_d1_d3
  replace V_d2 := V_d2.other W10 ne_d2_d3
  replace O := O.wr W10 n0_d3
  have N10 := Fr.snoc X10 N9 n0_d3
  refine Own.g_dup X10 hx (hb hby at_266) rfl 267 rfl ?_
  refine Own.g_bipush X10 hx (9 : Int32) (hb hby at_267) rfl 269 rfl ?_
  refine Own.g_bipush X10 hx (68 : Int32) (hb hby at_269) rfl 271 rfl ?_
  refine Own.g_stC X10 hx hZ e10 V_d3 (68 : Int32) rfl (by decide) 9 rfl (Nat.le_of_ble_eq_true rfl) [(.int (89 : Int32)), (.int (89 : Int32)), (.int (89 : Int32)), (.int (89 : Int32)), (.int (45 : Int32)), (.int (77 : Int32)), (.int (77 : Int32)), (.int (45 : Int32)), (.int (68 : Int32)), (.int (68 : Int32)), (.int (0 : Int32))] rfl (hb hby at_271) 272 rfl ?_
  clear V_d3; intro T11 h11 X11 e11 W11 V_d3
  have CR' := CR.trans (CHr.wr W11 S_d3 CR.1)
  replace S_d1 := Safe.wr W11 S_d3 CR.1 S_d1
  replace S_d2 := Safe.wr W11 S_d3 CR.1 S_d2
  replace S_d3 := Safe.wr W11 S_d3 CR.1 S_d3
  replace CR := CR'
  replace hk := Nat.le_trans hk (Keep.of_wr W11).1
  replace V_d1 := V_d1.other W11 ne_d1_d3
  replace V_d2 := V_d2.other W11 ne_d2_d3
  replace O := O.wr W11 n0_d3
  have N11 := Fr.snoc X11 N10 n0_d3
  refine Own.g_dup X11 hx (hb hby at_272) rfl 273 rfl ?_
  refine Own.g_bipush X11 hx (10 : Int32) (hb hby at_273) rfl 275 rfl ?_
  refine Own.g_iload X11 hx (hb hby at_275) rfl 277 rfl ?_
  refine Own.g_stC X11 hx hZ e11 V_d3 ch (Own.nar_lat L_ch) (by decide) 10 rfl (Nat.le_of_ble_eq_true rfl) [(.int (89 : Int32)), (.int (89 : Int32)), (.int (89 : Int32)), (.int (89 : Int32)), (.int (45 : Int32)), (.int (77 : Int32)), (.int (77 : Int32)), (.int (45 : Int32)), (.int (68 : Int32)), (.int (68 : Int32)), (.int ch)] rfl (hb hby at_277) 278 rfl ?_
  clear V_d3; intro T12 h12 X12 e12 W12 V_d3
  have CR' := CR.trans (CHr.wr W12 S_d3 CR.1)
  replace S_d1 := Safe.wr W12 S_d3 CR.1 S_d1
  replace S_d2 := Safe.wr W12 S_d3 CR.1 S_d2
  replace S_d3 := Safe.wr W12 S_d3 CR.1 S_d3
  replace CR := CR'
  replace hk := Nat.le_trans hk (Keep.of_wr W12).1
  replace V_d1 := V_d1.other W12 ne_d1_d3
  replace V_d2 := V_d2.other W12 ne_d2_d3
  replace O := O.wr W12 n0_d3
  have N12 := Fr.snoc X12 N11 n0_d3
  refine Own.g_astore X12 hx #[.val (.int p1), .val (.int p2), .val (.int p3), .val (.int mm), .val (.int kp), .val (.int ch), .val (.int pp), .val (.ref d1), .val (.ref d2), .val (.ref d3), .unset, .unset, .unset, .unset, .unset, .unset, .unset] (hb hby at_278) rfl rfl 280 rfl ?_
  replace V_d3 : Arv Z h12 d3 k_d3 .char 11 ((DAYL ++ [ch]).map Value.int) (.int 0) := V_d3
  exact st_280 hQ hx hZ hw hby hml hown hret hlocks hEL hS hk CR p1 p2 p3 mm kp ch pp G1 u nm t kk va kv oe d1 d2 d3 kd1 kd2 k_d3 X12 e12 N12 O V_d1 V_d2 V_d3 S_d1 S_d2 S_d3  O2 P5 SV AV EV SE EE FE H S0 S1 L_ch N_pp n0_d1 n0_d2 n0_d3 ne_d1_d2 ne_d1_d3 ne_d2_d3
set_option maxRecDepth 65536 in
set_option maxHeartbeats 40000000 in
theorem st_94 {p : Program} {l : Launch} {e : Env} {s : State} {m : MethodId} {args : Array Value} {below : List Frame} {meth : Method} {c : Code} {T0 : State} {locs : List Loc} {Z : State} {a0 : Array Value} {hh : Heap} {n0 : Nat} {Q : Option Value → Heap → List Loc → Prop} (hQ : ∀ h L, Fr n0 L → Q (some (.int 1)) h L) {vm : Vm} {k0 : Nat} (hx : p.tables.exec = Jvm.exec) (hZ : Z.Warmed39 (s.setVm vm).vm) (hw : ∀ d ∈ tables_1, d.before a0 Z = true) (hby : c.code = code) (hml : c.maxLocals = 17) (hown : (s.setVm vm).vm.findClass "com/example/bowerbird/bowerbird/model/GranularityNamedPinLaw" = some m.cls) (hret : meth.sig.returnType = (some .boolean)) (hlocks : meth.locks = false) (hEL : EW Z a0 EL) (hS : s.Since vm k0) (hk : k0 ≤ hh.size) (CR : CHr Z EL s.vm s.heap vm hh)
    (p1 p2 p3 mm kp ch pp G1 : Int32) (u : Nat → Addr) (nm : Nat → Addr) (t : Nat → Addr) (kk : Nat → ClassId) (va : Addr) (kv : ClassId) (oe : Addr) (d1 : Addr) (kd1 : ClassId) (X0 : Stand p l e room_1 (s.setVm vm) m args below meth c T0 locs 1 10) (e0 : T0.heap = hh) (N0 : Fr n0 locs) (O : Old Z n0 hh) (V_d1 : Arv Z hh d1 kd1 .char 10 (DAYL.map Value.int) (.int 0)) (S_d1 : Safe Z EL vm hh d1)  (O2 : Sta Z Z.heap "java/lang/String" "COMPACT_STRINGS" "Z" (.int G1)) (P5 : ¬ (G1 = (0 : Int32))) (SV : Sta Z Z.heap "com/example/bowerbird/bowerbird/model/Datestamp$Granularity" "$VALUES" "[Lcom/example/bowerbird/bowerbird/model/Datestamp$Granularity;" (.ref va)) (AV : Arv Z Z.heap va kv (.object "com/example/bowerbird/bowerbird/model/Datestamp$Granularity") 2 [(.ref (u 0)), (.ref (u 1))] .null) (EV : Exa Z Z.heap va "[Lcom/example/bowerbird/bowerbird/model/Datestamp$Granularity;") (SE : Sta Z Z.heap "java/util/Optional" "EMPTY" "Ljava/util/Optional;" (.ref oe)) (EE : Exa Z Z.heap oe "java/util/Optional") (FE : Fld Z Z.heap oe "java/util/Optional" "value" "Ljava/lang/Object;" .null) (H : ∀ i, i < 2 → UnitOk Z (u i) (nm i) (t i) (kk i) (nmOf i)) (S0 : Sta Z Z.heap "com/example/bowerbird/bowerbird/model/Datestamp$Granularity" "DAY" "Lcom/example/bowerbird/bowerbird/model/Datestamp$Granularity;" (.ref (u 0))) (S1 : Sta Z Z.heap "com/example/bowerbird/bowerbird/model/Datestamp$Granularity" "SECOND" "Lcom/example/bowerbird/bowerbird/model/Datestamp$Granularity;" (.ref (u 1))) (L_ch : Own.Lat ch) (N_pp : ¬ pp < 0) (n0_d1 : n0 ≤ d1) :
    Own.Go p e below (Own.EndW Z EL s Q 32 1344) (T0.setTop (mkF m 94 #[.val (.int p1), .val (.int p2), .val (.int p3), .val (.int mm), .val (.int kp), .val (.int ch), .val (.int pp), .val (.ref d1), .unset, .unset, .unset, .unset, .unset, .unset, .unset, .unset, .unset] [])) := by
  refine Own.g_bipush X0 hx (20 : Int32) (hb hby at_94) rfl 96 rfl ?_
  refine Own.g_newP X0 hx hZ (hw _ (List.mem_of_getElem? (i := 1) rfl)) e0 (hb hby at_96) (by decide) 20 (by decide) (by decide) (by decide) (by decide) 98 rfl .char rfl [(.int (0 : Int32)), (.int (0 : Int32)), (.int (0 : Int32)), (.int (0 : Int32)), (.int (0 : Int32)), (.int (0 : Int32)), (.int (0 : Int32)), (.int (0 : Int32)), (.int (0 : Int32)), (.int (0 : Int32)), (.int (0 : Int32)), (.int (0 : Int32)), (.int (0 : Int32)), (.int (0 : Int32)), (.int (0 : Int32)), (.int (0 : Int32)), (.int (0 : Int32)), (.int (0 : Int32)), (.int (0 : Int32)), (.int (0 : Int32))] (by intro i; first | rfl | (rcases i with _ | _ | _ | _ | _ | _ | _ | _ | _ | _ | _ | _ | _ | _ | _ | _ | _ | _ | _ | _ | _ | _ | _ | _ | i <;> rfl)) ?_
  intro T1 h1 d2 k_d2 X1 e1 E1 g1 V_d2
  have ne_d1_d2 : d1 ≠ d2 := Nat.ne_of_lt (Nat.lt_of_lt_of_le (V_d1.lt) (Nat.le_of_eq g1.symm))
  have n0_d2 : n0 ≤ d2 := Nat.le_trans (Nat.le_of_eq O.1.symm) (Nat.le_trans O.2.1 (Nat.le_of_eq g1.symm))
  have S_d2 : Safe Z EL vm hh d2 := Safe.new (Nat.le_of_eq g1.symm)
  replace V_d1 := V_d1.ext E1
  replace S_d1 := S_d1.ext E1 CR.1
  replace S_d2 := S_d2.ext E1 CR.1
  replace O := O.ext E1
  replace hk := Nat.le_trans hk E1.1
  replace CR := CR.trans (CHr.ext E1 CR.1)
  change Arv Z h1 d2 k_d2 .char (20 : Int32) [(.int (0 : Int32)), (.int (0 : Int32)), (.int (0 : Int32)), (.int (0 : Int32)), (.int (0 : Int32)), (.int (0 : Int32)), (.int (0 : Int32)), (.int (0 : Int32)), (.int (0 : Int32)), (.int (0 : Int32)), (.int (0 : Int32)), (.int (0 : Int32)), (.int (0 : Int32)), (.int (0 : Int32)), (.int (0 : Int32)), (.int (0 : Int32)), (.int (0 : Int32)), (.int (0 : Int32)), (.int (0 : Int32)), (.int (0 : Int32))] (.int (0 : Int32)) at V_d2
  refine Own.g_dup X1 hx (hb hby at_98) rfl 99 rfl ?_
  refine Own.g_iconst X1 hx (0 : Int32) (hb hby at_99) rfl 100 rfl ?_
  refine Own.g_bipush X1 hx (89 : Int32) (hb hby at_100) rfl 102 rfl ?_
  refine Own.g_stC X1 hx hZ e1 V_d2 (89 : Int32) rfl (by decide) 0 rfl (Nat.le_of_ble_eq_true rfl) [(.int (89 : Int32)), (.int (0 : Int32)), (.int (0 : Int32)), (.int (0 : Int32)), (.int (0 : Int32)), (.int (0 : Int32)), (.int (0 : Int32)), (.int (0 : Int32)), (.int (0 : Int32)), (.int (0 : Int32)), (.int (0 : Int32)), (.int (0 : Int32)), (.int (0 : Int32)), (.int (0 : Int32)), (.int (0 : Int32)), (.int (0 : Int32)), (.int (0 : Int32)), (.int (0 : Int32)), (.int (0 : Int32)), (.int (0 : Int32))] rfl (hb hby at_102) 103 rfl ?_
  clear V_d2; intro T2 h2 X2 e2 W2 V_d2
  have CR' := CR.trans (CHr.wr W2 S_d2 CR.1)
  replace S_d1 := Safe.wr W2 S_d2 CR.1 S_d1
  replace S_d2 := Safe.wr W2 S_d2 CR.1 S_d2
  replace CR := CR'
  replace hk := Nat.le_trans hk (Keep.of_wr W2).1
  replace V_d1 := V_d1.other W2 ne_d1_d2
  replace O := O.wr W2 n0_d2
  have N2 := Fr.snoc X2 N0 n0_d2
  refine Own.g_dup X2 hx (hb hby at_103) rfl 104 rfl ?_
  refine Own.g_iconst X2 hx (1 : Int32) (hb hby at_104) rfl 105 rfl ?_
  refine Own.g_bipush X2 hx (89 : Int32) (hb hby at_105) rfl 107 rfl ?_
  refine Own.g_stC X2 hx hZ e2 V_d2 (89 : Int32) rfl (by decide) 1 rfl (Nat.le_of_ble_eq_true rfl) [(.int (89 : Int32)), (.int (89 : Int32)), (.int (0 : Int32)), (.int (0 : Int32)), (.int (0 : Int32)), (.int (0 : Int32)), (.int (0 : Int32)), (.int (0 : Int32)), (.int (0 : Int32)), (.int (0 : Int32)), (.int (0 : Int32)), (.int (0 : Int32)), (.int (0 : Int32)), (.int (0 : Int32)), (.int (0 : Int32)), (.int (0 : Int32)), (.int (0 : Int32)), (.int (0 : Int32)), (.int (0 : Int32)), (.int (0 : Int32))] rfl (hb hby at_107) 108 rfl ?_
  clear V_d2; intro T3 h3 X3 e3 W3 V_d2
  have CR' := CR.trans (CHr.wr W3 S_d2 CR.1)
  replace S_d1 := Safe.wr W3 S_d2 CR.1 S_d1
  replace S_d2 := Safe.wr W3 S_d2 CR.1 S_d2
  replace CR := CR'
  replace hk := Nat.le_trans hk (Keep.of_wr W3).1
  replace V_d1 := V_d1.other W3 ne_d1_d2
  replace O := O.wr W3 n0_d2
  have N3 := Fr.snoc X3 N2 n0_d2
  refine Own.g_dup X3 hx (hb hby at_108) rfl 109 rfl ?_
  refine Own.g_iconst X3 hx (2 : Int32) (hb hby at_109) rfl 110 rfl ?_
  refine Own.g_bipush X3 hx (89 : Int32) (hb hby at_110) rfl 112 rfl ?_
  refine Own.g_stC X3 hx hZ e3 V_d2 (89 : Int32) rfl (by decide) 2 rfl (Nat.le_of_ble_eq_true rfl) [(.int (89 : Int32)), (.int (89 : Int32)), (.int (89 : Int32)), (.int (0 : Int32)), (.int (0 : Int32)), (.int (0 : Int32)), (.int (0 : Int32)), (.int (0 : Int32)), (.int (0 : Int32)), (.int (0 : Int32)), (.int (0 : Int32)), (.int (0 : Int32)), (.int (0 : Int32)), (.int (0 : Int32)), (.int (0 : Int32)), (.int (0 : Int32)), (.int (0 : Int32)), (.int (0 : Int32)), (.int (0 : Int32)), (.int (0 : Int32))] rfl (hb hby at_112) 113 rfl ?_
  clear V_d2; intro T4 h4 X4 e4 W4 V_d2
  have CR' := CR.trans (CHr.wr W4 S_d2 CR.1)
  replace S_d1 := Safe.wr W4 S_d2 CR.1 S_d1
  replace S_d2 := Safe.wr W4 S_d2 CR.1 S_d2
  replace CR := CR'
  replace hk := Nat.le_trans hk (Keep.of_wr W4).1
  replace V_d1 := V_d1.other W4 ne_d1_d2
  replace O := O.wr W4 n0_d2
  have N4 := Fr.snoc X4 N3 n0_d2
  refine Own.g_dup X4 hx (hb hby at_113) rfl 114 rfl ?_
  refine Own.g_iconst X4 hx (3 : Int32) (hb hby at_114) rfl 115 rfl ?_
  refine Own.g_bipush X4 hx (89 : Int32) (hb hby at_115) rfl 117 rfl ?_
  refine Own.g_stC X4 hx hZ e4 V_d2 (89 : Int32) rfl (by decide) 3 rfl (Nat.le_of_ble_eq_true rfl) [(.int (89 : Int32)), (.int (89 : Int32)), (.int (89 : Int32)), (.int (89 : Int32)), (.int (0 : Int32)), (.int (0 : Int32)), (.int (0 : Int32)), (.int (0 : Int32)), (.int (0 : Int32)), (.int (0 : Int32)), (.int (0 : Int32)), (.int (0 : Int32)), (.int (0 : Int32)), (.int (0 : Int32)), (.int (0 : Int32)), (.int (0 : Int32)), (.int (0 : Int32)), (.int (0 : Int32)), (.int (0 : Int32)), (.int (0 : Int32))] rfl (hb hby at_117) 118 rfl ?_
  clear V_d2; intro T5 h5 X5 e5 W5 V_d2
  have CR' := CR.trans (CHr.wr W5 S_d2 CR.1)
  replace S_d1 := Safe.wr W5 S_d2 CR.1 S_d1
  replace S_d2 := Safe.wr W5 S_d2 CR.1 S_d2
  replace CR := CR'
  replace hk := Nat.le_trans hk (Keep.of_wr W5).1
  replace V_d1 := V_d1.other W5 ne_d1_d2
  replace O := O.wr W5 n0_d2
  have N5 := Fr.snoc X5 N4 n0_d2
  refine Own.g_dup X5 hx (hb hby at_118) rfl 119 rfl ?_
  refine Own.g_iconst X5 hx (4 : Int32) (hb hby at_119) rfl 120 rfl ?_
  refine Own.g_bipush X5 hx (45 : Int32) (hb hby at_120) rfl 122 rfl ?_
  refine Own.g_stC X5 hx hZ e5 V_d2 (45 : Int32) rfl (by decide) 4 rfl (Nat.le_of_ble_eq_true rfl) [(.int (89 : Int32)), (.int (89 : Int32)), (.int (89 : Int32)), (.int (89 : Int32)), (.int (45 : Int32)), (.int (0 : Int32)), (.int (0 : Int32)), (.int (0 : Int32)), (.int (0 : Int32)), (.int (0 : Int32)), (.int (0 : Int32)), (.int (0 : Int32)), (.int (0 : Int32)), (.int (0 : Int32)), (.int (0 : Int32)), (.int (0 : Int32)), (.int (0 : Int32)), (.int (0 : Int32)), (.int (0 : Int32)), (.int (0 : Int32))] rfl (hb hby at_122) 123 rfl ?_
  clear V_d2; intro T6 h6 X6 e6 W6 V_d2
  have CR' := CR.trans (CHr.wr W6 S_d2 CR.1)
  replace S_d1 := Safe.wr W6 S_d2 CR.1 S_d1
  replace S_d2 := Safe.wr W6 S_d2 CR.1 S_d2
  replace CR := CR'
  replace hk := Nat.le_trans hk (Keep.of_wr W6).1
  replace V_d1 := V_d1.other W6 ne_d1_d2
  replace O := O.wr W6 n0_d2
  have N6 := Fr.snoc X6 N5 n0_d2
  refine Own.g_dup X6 hx (hb hby at_123) rfl 124 rfl ?_
  refine Own.g_iconst X6 hx (5 : Int32) (hb hby at_124) rfl 125 rfl ?_
  refine Own.g_bipush X6 hx (77 : Int32) (hb hby at_125) rfl 127 rfl ?_
  refine Own.g_stC X6 hx hZ e6 V_d2 (77 : Int32) rfl (by decide) 5 rfl (Nat.le_of_ble_eq_true rfl) [(.int (89 : Int32)), (.int (89 : Int32)), (.int (89 : Int32)), (.int (89 : Int32)), (.int (45 : Int32)), (.int (77 : Int32)), (.int (0 : Int32)), (.int (0 : Int32)), (.int (0 : Int32)), (.int (0 : Int32)), (.int (0 : Int32)), (.int (0 : Int32)), (.int (0 : Int32)), (.int (0 : Int32)), (.int (0 : Int32)), (.int (0 : Int32)), (.int (0 : Int32)), (.int (0 : Int32)), (.int (0 : Int32)), (.int (0 : Int32))] rfl (hb hby at_127) 128 rfl ?_
  clear V_d2; intro T7 h7 X7 e7 W7 V_d2
  have CR' := CR.trans (CHr.wr W7 S_d2 CR.1)
  replace S_d1 := Safe.wr W7 S_d2 CR.1 S_d1
  replace S_d2 := Safe.wr W7 S_d2 CR.1 S_d2
  replace CR := CR'
  replace hk := Nat.le_trans hk (Keep.of_wr W7).1
  replace V_d1 := V_d1.other W7 ne_d1_d2
  replace O := O.wr W7 n0_d2
  have N7 := Fr.snoc X7 N6 n0_d2
  refine Own.g_dup X7 hx (hb hby at_128) rfl 129 rfl ?_
  refine Own.g_bipush X7 hx (6 : Int32) (hb hby at_129) rfl 131 rfl ?_
  refine Own.g_bipush X7 hx (77 : Int32) (hb hby at_131) rfl 133 rfl ?_
  refine Own.g_stC X7 hx hZ e7 V_d2 (77 : Int32) rfl (by decide) 6 rfl (Nat.le_of_ble_eq_true rfl) [(.int (89 : Int32)), (.int (89 : Int32)), (.int (89 : Int32)), (.int (89 : Int32)), (.int (45 : Int32)), (.int (77 : Int32)), (.int (77 : Int32)), (.int (0 : Int32)), (.int (0 : Int32)), (.int (0 : Int32)), (.int (0 : Int32)), (.int (0 : Int32)), (.int (0 : Int32)), (.int (0 : Int32)), (.int (0 : Int32)), (.int (0 : Int32)), (.int (0 : Int32)), (.int (0 : Int32)), (.int (0 : Int32)), (.int (0 : Int32))] rfl (hb hby at_133) 134 rfl ?_
  clear V_d2; intro T8 h8 X8 e8 W8 V_d2
  have CR' := CR.trans (CHr.wr W8 S_d2 CR.1)
  replace S_d1 := Safe.wr W8 S_d2 CR.1 S_d1
  replace S_d2 := Safe.wr W8 S_d2 CR.1 S_d2
  replace CR := CR'
  replace hk := Nat.le_trans hk (Keep.of_wr W8).1
  replace V_d1 := V_d1.other W8 ne_d1_d2
  replace O := O.wr W8 n0_d2
  have N8 := Fr.snoc X8 N7 n0_d2
  refine Own.g_dup X8 hx (hb hby at_134) rfl 135 rfl ?_
  refine Own.g_bipush X8 hx (7 : Int32) (hb hby at_135) rfl 137 rfl ?_
  refine Own.g_bipush X8 hx (45 : Int32) (hb hby at_137) rfl 139 rfl ?_
  refine Own.g_stC X8 hx hZ e8 V_d2 (45 : Int32) rfl (by decide) 7 rfl (Nat.le_of_ble_eq_true rfl) [(.int (89 : Int32)), (.int (89 : Int32)), (.int (89 : Int32)), (.int (89 : Int32)), (.int (45 : Int32)), (.int (77 : Int32)), (.int (77 : Int32)), (.int (45 : Int32)), (.int (0 : Int32)), (.int (0 : Int32)), (.int (0 : Int32)), (.int (0 : Int32)), (.int (0 : Int32)), (.int (0 : Int32)), (.int (0 : Int32)), (.int (0 : Int32)), (.int (0 : Int32)), (.int (0 : Int32)), (.int (0 : Int32)), (.int (0 : Int32))] rfl (hb hby at_139) 140 rfl ?_
  clear V_d2; intro T9 h9 X9 e9 W9 V_d2
  have CR' := CR.trans (CHr.wr W9 S_d2 CR.1)
  replace S_d1 := Safe.wr W9 S_d2 CR.1 S_d1
  replace S_d2 := Safe.wr W9 S_d2 CR.1 S_d2
  replace CR := CR'
  replace hk := Nat.le_trans hk (Keep.of_wr W9).1
  replace V_d1 := V_d1.other W9 ne_d1_d2
  replace O := O.wr W9 n0_d2
  have N9 := Fr.snoc X9 N8 n0_d2
  refine Own.g_dup X9 hx (hb hby at_140) rfl 141 rfl ?_
  refine Own.g_bipush X9 hx (8 : Int32) (hb hby at_141) rfl 143 rfl ?_
  refine Own.g_bipush X9 hx (68 : Int32) (hb hby at_143) rfl 145 rfl ?_
  refine Own.g_stC X9 hx hZ e9 V_d2 (68 : Int32) rfl (by decide) 8 rfl (Nat.le_of_ble_eq_true rfl) [(.int (89 : Int32)), (.int (89 : Int32)), (.int (89 : Int32)), (.int (89 : Int32)), (.int (45 : Int32)), (.int (77 : Int32)), (.int (77 : Int32)), (.int (45 : Int32)), (.int (68 : Int32)), (.int (0 : Int32)), (.int (0 : Int32)), (.int (0 : Int32)), (.int (0 : Int32)), (.int (0 : Int32)), (.int (0 : Int32)), (.int (0 : Int32)), (.int (0 : Int32)), (.int (0 : Int32)), (.int (0 : Int32)), (.int (0 : Int32))] rfl (hb hby at_145) 146 rfl ?_
  clear V_d2; intro T10 h10 X10 e10 W10 V_d2
  have CR' := CR.trans (CHr.wr W10 S_d2 CR.1)
  replace S_d1 := Safe.wr W10 S_d2 CR.1 S_d1
  replace S_d2 := Safe.wr W10 S_d2 CR.1 S_d2
  replace CR := CR'
  replace hk := Nat.le_trans hk (Keep.of_wr W10).1
  replace V_d1 := V_d1.other W10 ne_d1_d2
  replace O := O.wr W10 n0_d2
  have N10 := Fr.snoc X10 N9 n0_d2
  refine Own.g_dup X10 hx (hb hby at_146) rfl 147 rfl ?_
  refine Own.g_bipush X10 hx (9 : Int32) (hb hby at_147) rfl 149 rfl ?_
  refine Own.g_bipush X10 hx (68 : Int32) (hb hby at_149) rfl 151 rfl ?_
  refine Own.g_stC X10 hx hZ e10 V_d2 (68 : Int32) rfl (by decide) 9 rfl (Nat.le_of_ble_eq_true rfl) [(.int (89 : Int32)), (.int (89 : Int32)), (.int (89 : Int32)), (.int (89 : Int32)), (.int (45 : Int32)), (.int (77 : Int32)), (.int (77 : Int32)), (.int (45 : Int32)), (.int (68 : Int32)), (.int (68 : Int32)), (.int (0 : Int32)), (.int (0 : Int32)), (.int (0 : Int32)), (.int (0 : Int32)), (.int (0 : Int32)), (.int (0 : Int32)), (.int (0 : Int32)), (.int (0 : Int32)), (.int (0 : Int32)), (.int (0 : Int32))] rfl (hb hby at_151) 152 rfl ?_
  clear V_d2; intro T11 h11 X11 e11 W11 V_d2
  have CR' := CR.trans (CHr.wr W11 S_d2 CR.1)
  replace S_d1 := Safe.wr W11 S_d2 CR.1 S_d1
  replace S_d2 := Safe.wr W11 S_d2 CR.1 S_d2
  replace CR := CR'
  replace hk := Nat.le_trans hk (Keep.of_wr W11).1
  replace V_d1 := V_d1.other W11 ne_d1_d2
  replace O := O.wr W11 n0_d2
  have N11 := Fr.snoc X11 N10 n0_d2
  refine Own.g_dup X11 hx (hb hby at_152) rfl 153 rfl ?_
  refine Own.g_bipush X11 hx (10 : Int32) (hb hby at_153) rfl 155 rfl ?_
  refine Own.g_bipush X11 hx (84 : Int32) (hb hby at_155) rfl 157 rfl ?_
  refine Own.g_stC X11 hx hZ e11 V_d2 (84 : Int32) rfl (by decide) 10 rfl (Nat.le_of_ble_eq_true rfl) [(.int (89 : Int32)), (.int (89 : Int32)), (.int (89 : Int32)), (.int (89 : Int32)), (.int (45 : Int32)), (.int (77 : Int32)), (.int (77 : Int32)), (.int (45 : Int32)), (.int (68 : Int32)), (.int (68 : Int32)), (.int (84 : Int32)), (.int (0 : Int32)), (.int (0 : Int32)), (.int (0 : Int32)), (.int (0 : Int32)), (.int (0 : Int32)), (.int (0 : Int32)), (.int (0 : Int32)), (.int (0 : Int32)), (.int (0 : Int32))] rfl (hb hby at_157) 158 rfl ?_
  clear V_d2; intro T12 h12 X12 e12 W12 V_d2
  have CR' := CR.trans (CHr.wr W12 S_d2 CR.1)
  replace S_d1 := Safe.wr W12 S_d2 CR.1 S_d1
  replace S_d2 := Safe.wr W12 S_d2 CR.1 S_d2
  replace CR := CR'
  replace hk := Nat.le_trans hk (Keep.of_wr W12).1
  replace V_d1 := V_d1.other W12 ne_d1_d2
  replace O := O.wr W12 n0_d2
  have N12 := Fr.snoc X12 N11 n0_d2
  refine Own.g_dup X12 hx (hb hby at_158) rfl 159 rfl ?_
  refine Own.g_bipush X12 hx (11 : Int32) (hb hby at_159) rfl 161 rfl ?_
  refine Own.g_bipush X12 hx (104 : Int32) (hb hby at_161) rfl 163 rfl ?_
  refine Own.g_stC X12 hx hZ e12 V_d2 (104 : Int32) rfl (by decide) 11 rfl (Nat.le_of_ble_eq_true rfl) [(.int (89 : Int32)), (.int (89 : Int32)), (.int (89 : Int32)), (.int (89 : Int32)), (.int (45 : Int32)), (.int (77 : Int32)), (.int (77 : Int32)), (.int (45 : Int32)), (.int (68 : Int32)), (.int (68 : Int32)), (.int (84 : Int32)), (.int (104 : Int32)), (.int (0 : Int32)), (.int (0 : Int32)), (.int (0 : Int32)), (.int (0 : Int32)), (.int (0 : Int32)), (.int (0 : Int32)), (.int (0 : Int32)), (.int (0 : Int32))] rfl (hb hby at_163) 164 rfl ?_
  clear V_d2; intro T13 h13 X13 e13 W13 V_d2
  have CR' := CR.trans (CHr.wr W13 S_d2 CR.1)
  replace S_d1 := Safe.wr W13 S_d2 CR.1 S_d1
  replace S_d2 := Safe.wr W13 S_d2 CR.1 S_d2
  replace CR := CR'
  replace hk := Nat.le_trans hk (Keep.of_wr W13).1
  replace V_d1 := V_d1.other W13 ne_d1_d2
  replace O := O.wr W13 n0_d2
  have N13 := Fr.snoc X13 N12 n0_d2
  refine Own.g_dup X13 hx (hb hby at_164) rfl 165 rfl ?_
  refine Own.g_bipush X13 hx (12 : Int32) (hb hby at_165) rfl 167 rfl ?_
  refine Own.g_bipush X13 hx (104 : Int32) (hb hby at_167) rfl 169 rfl ?_
  refine Own.g_stC X13 hx hZ e13 V_d2 (104 : Int32) rfl (by decide) 12 rfl (Nat.le_of_ble_eq_true rfl) [(.int (89 : Int32)), (.int (89 : Int32)), (.int (89 : Int32)), (.int (89 : Int32)), (.int (45 : Int32)), (.int (77 : Int32)), (.int (77 : Int32)), (.int (45 : Int32)), (.int (68 : Int32)), (.int (68 : Int32)), (.int (84 : Int32)), (.int (104 : Int32)), (.int (104 : Int32)), (.int (0 : Int32)), (.int (0 : Int32)), (.int (0 : Int32)), (.int (0 : Int32)), (.int (0 : Int32)), (.int (0 : Int32)), (.int (0 : Int32))] rfl (hb hby at_169) 170 rfl ?_
  clear V_d2; intro T14 h14 X14 e14 W14 V_d2
  have CR' := CR.trans (CHr.wr W14 S_d2 CR.1)
  replace S_d1 := Safe.wr W14 S_d2 CR.1 S_d1
  replace S_d2 := Safe.wr W14 S_d2 CR.1 S_d2
  replace CR := CR'
  replace hk := Nat.le_trans hk (Keep.of_wr W14).1
  replace V_d1 := V_d1.other W14 ne_d1_d2
  replace O := O.wr W14 n0_d2
  have N14 := Fr.snoc X14 N13 n0_d2
  refine Own.g_dup X14 hx (hb hby at_170) rfl 171 rfl ?_
  refine Own.g_bipush X14 hx (13 : Int32) (hb hby at_171) rfl 173 rfl ?_
  refine Own.g_bipush X14 hx (58 : Int32) (hb hby at_173) rfl 175 rfl ?_
  refine Own.g_stC X14 hx hZ e14 V_d2 (58 : Int32) rfl (by decide) 13 rfl (Nat.le_of_ble_eq_true rfl) [(.int (89 : Int32)), (.int (89 : Int32)), (.int (89 : Int32)), (.int (89 : Int32)), (.int (45 : Int32)), (.int (77 : Int32)), (.int (77 : Int32)), (.int (45 : Int32)), (.int (68 : Int32)), (.int (68 : Int32)), (.int (84 : Int32)), (.int (104 : Int32)), (.int (104 : Int32)), (.int (58 : Int32)), (.int (0 : Int32)), (.int (0 : Int32)), (.int (0 : Int32)), (.int (0 : Int32)), (.int (0 : Int32)), (.int (0 : Int32))] rfl (hb hby at_175) 176 rfl ?_
  clear V_d2; intro T15 h15 X15 e15 W15 V_d2
  have CR' := CR.trans (CHr.wr W15 S_d2 CR.1)
  replace S_d1 := Safe.wr W15 S_d2 CR.1 S_d1
  replace S_d2 := Safe.wr W15 S_d2 CR.1 S_d2
  replace CR := CR'
  replace hk := Nat.le_trans hk (Keep.of_wr W15).1
  replace V_d1 := V_d1.other W15 ne_d1_d2
  replace O := O.wr W15 n0_d2
  have N15 := Fr.snoc X15 N14 n0_d2
  refine Own.g_dup X15 hx (hb hby at_176) rfl 177 rfl ?_
  refine Own.g_bipush X15 hx (14 : Int32) (hb hby at_177) rfl 179 rfl ?_
  refine Own.g_bipush X15 hx (109 : Int32) (hb hby at_179) rfl 181 rfl ?_
  refine Own.g_stC X15 hx hZ e15 V_d2 (109 : Int32) rfl (by decide) 14 rfl (Nat.le_of_ble_eq_true rfl) [(.int (89 : Int32)), (.int (89 : Int32)), (.int (89 : Int32)), (.int (89 : Int32)), (.int (45 : Int32)), (.int (77 : Int32)), (.int (77 : Int32)), (.int (45 : Int32)), (.int (68 : Int32)), (.int (68 : Int32)), (.int (84 : Int32)), (.int (104 : Int32)), (.int (104 : Int32)), (.int (58 : Int32)), (.int (109 : Int32)), (.int (0 : Int32)), (.int (0 : Int32)), (.int (0 : Int32)), (.int (0 : Int32)), (.int (0 : Int32))] rfl (hb hby at_181) 182 rfl ?_
  clear V_d2; intro T16 h16 X16 e16 W16 V_d2
  have CR' := CR.trans (CHr.wr W16 S_d2 CR.1)
  replace S_d1 := Safe.wr W16 S_d2 CR.1 S_d1
  replace S_d2 := Safe.wr W16 S_d2 CR.1 S_d2
  replace CR := CR'
  replace hk := Nat.le_trans hk (Keep.of_wr W16).1
  replace V_d1 := V_d1.other W16 ne_d1_d2
  replace O := O.wr W16 n0_d2
  have N16 := Fr.snoc X16 N15 n0_d2
  refine Own.g_dup X16 hx (hb hby at_182) rfl 183 rfl ?_
  refine Own.g_bipush X16 hx (15 : Int32) (hb hby at_183) rfl 185 rfl ?_
  refine Own.g_bipush X16 hx (109 : Int32) (hb hby at_185) rfl 187 rfl ?_
  refine Own.g_stC X16 hx hZ e16 V_d2 (109 : Int32) rfl (by decide) 15 rfl (Nat.le_of_ble_eq_true rfl) [(.int (89 : Int32)), (.int (89 : Int32)), (.int (89 : Int32)), (.int (89 : Int32)), (.int (45 : Int32)), (.int (77 : Int32)), (.int (77 : Int32)), (.int (45 : Int32)), (.int (68 : Int32)), (.int (68 : Int32)), (.int (84 : Int32)), (.int (104 : Int32)), (.int (104 : Int32)), (.int (58 : Int32)), (.int (109 : Int32)), (.int (109 : Int32)), (.int (0 : Int32)), (.int (0 : Int32)), (.int (0 : Int32)), (.int (0 : Int32))] rfl (hb hby at_187) 188 rfl ?_
  clear V_d2; intro T17 h17 X17 e17 W17 V_d2
  have CR' := CR.trans (CHr.wr W17 S_d2 CR.1)
  replace S_d1 := Safe.wr W17 S_d2 CR.1 S_d1
  replace S_d2 := Safe.wr W17 S_d2 CR.1 S_d2
  replace CR := CR'
  replace hk := Nat.le_trans hk (Keep.of_wr W17).1
  replace V_d1 := V_d1.other W17 ne_d1_d2
  replace O := O.wr W17 n0_d2
  have N17 := Fr.snoc X17 N16 n0_d2
  refine Own.g_dup X17 hx (hb hby at_188) rfl 189 rfl ?_
  refine Own.g_bipush X17 hx (16 : Int32) (hb hby at_189) rfl 191 rfl ?_
  refine Own.g_bipush X17 hx (58 : Int32) (hb hby at_191) rfl 193 rfl ?_
  refine Own.g_stC X17 hx hZ e17 V_d2 (58 : Int32) rfl (by decide) 16 rfl (Nat.le_of_ble_eq_true rfl) [(.int (89 : Int32)), (.int (89 : Int32)), (.int (89 : Int32)), (.int (89 : Int32)), (.int (45 : Int32)), (.int (77 : Int32)), (.int (77 : Int32)), (.int (45 : Int32)), (.int (68 : Int32)), (.int (68 : Int32)), (.int (84 : Int32)), (.int (104 : Int32)), (.int (104 : Int32)), (.int (58 : Int32)), (.int (109 : Int32)), (.int (109 : Int32)), (.int (58 : Int32)), (.int (0 : Int32)), (.int (0 : Int32)), (.int (0 : Int32))] rfl (hb hby at_193) 194 rfl ?_
  clear V_d2; intro T18 h18 X18 e18 W18 V_d2
  have CR' := CR.trans (CHr.wr W18 S_d2 CR.1)
  replace S_d1 := Safe.wr W18 S_d2 CR.1 S_d1
  replace S_d2 := Safe.wr W18 S_d2 CR.1 S_d2
  replace CR := CR'
  replace hk := Nat.le_trans hk (Keep.of_wr W18).1
  replace V_d1 := V_d1.other W18 ne_d1_d2
  replace O := O.wr W18 n0_d2
  have N18 := Fr.snoc X18 N17 n0_d2
  refine Own.g_dup X18 hx (hb hby at_194) rfl 195 rfl ?_
  refine Own.g_bipush X18 hx (17 : Int32) (hb hby at_195) rfl 197 rfl ?_
  refine Own.g_bipush X18 hx (115 : Int32) (hb hby at_197) rfl 199 rfl ?_
  refine Own.g_stC X18 hx hZ e18 V_d2 (115 : Int32) rfl (by decide) 17 rfl (Nat.le_of_ble_eq_true rfl) [(.int (89 : Int32)), (.int (89 : Int32)), (.int (89 : Int32)), (.int (89 : Int32)), (.int (45 : Int32)), (.int (77 : Int32)), (.int (77 : Int32)), (.int (45 : Int32)), (.int (68 : Int32)), (.int (68 : Int32)), (.int (84 : Int32)), (.int (104 : Int32)), (.int (104 : Int32)), (.int (58 : Int32)), (.int (109 : Int32)), (.int (109 : Int32)), (.int (58 : Int32)), (.int (115 : Int32)), (.int (0 : Int32)), (.int (0 : Int32))] rfl (hb hby at_199) 200 rfl ?_
  clear V_d2; intro T19 h19 X19 e19 W19 V_d2
  have CR' := CR.trans (CHr.wr W19 S_d2 CR.1)
  replace S_d1 := Safe.wr W19 S_d2 CR.1 S_d1
  replace S_d2 := Safe.wr W19 S_d2 CR.1 S_d2
  replace CR := CR'
  replace hk := Nat.le_trans hk (Keep.of_wr W19).1
  replace V_d1 := V_d1.other W19 ne_d1_d2
  replace O := O.wr W19 n0_d2
  have N19 := Fr.snoc X19 N18 n0_d2
  refine Own.g_dup X19 hx (hb hby at_200) rfl 201 rfl ?_
  refine Own.g_bipush X19 hx (18 : Int32) (hb hby at_201) rfl 203 rfl ?_
  refine Own.g_bipush X19 hx (115 : Int32) (hb hby at_203) rfl 205 rfl ?_
  refine Own.g_stC X19 hx hZ e19 V_d2 (115 : Int32) rfl (by decide) 18 rfl (Nat.le_of_ble_eq_true rfl) [(.int (89 : Int32)), (.int (89 : Int32)), (.int (89 : Int32)), (.int (89 : Int32)), (.int (45 : Int32)), (.int (77 : Int32)), (.int (77 : Int32)), (.int (45 : Int32)), (.int (68 : Int32)), (.int (68 : Int32)), (.int (84 : Int32)), (.int (104 : Int32)), (.int (104 : Int32)), (.int (58 : Int32)), (.int (109 : Int32)), (.int (109 : Int32)), (.int (58 : Int32)), (.int (115 : Int32)), (.int (115 : Int32)), (.int (0 : Int32))] rfl (hb hby at_205) 206 rfl ?_
  clear V_d2; intro T20 h20 X20 e20 W20 V_d2
  have CR' := CR.trans (CHr.wr W20 S_d2 CR.1)
  replace S_d1 := Safe.wr W20 S_d2 CR.1 S_d1
  replace S_d2 := Safe.wr W20 S_d2 CR.1 S_d2
  replace CR := CR'
  replace hk := Nat.le_trans hk (Keep.of_wr W20).1
  replace V_d1 := V_d1.other W20 ne_d1_d2
  replace O := O.wr W20 n0_d2
  have N20 := Fr.snoc X20 N19 n0_d2
  refine Own.g_dup X20 hx (hb hby at_206) rfl 207 rfl ?_
  refine Own.g_bipush X20 hx (19 : Int32) (hb hby at_207) rfl 209 rfl ?_
  refine Own.g_bipush X20 hx (90 : Int32) (hb hby at_209) rfl 211 rfl ?_
  refine Own.g_stC X20 hx hZ e20 V_d2 (90 : Int32) rfl (by decide) 19 rfl (Nat.le_of_ble_eq_true rfl) [(.int (89 : Int32)), (.int (89 : Int32)), (.int (89 : Int32)), (.int (89 : Int32)), (.int (45 : Int32)), (.int (77 : Int32)), (.int (77 : Int32)), (.int (45 : Int32)), (.int (68 : Int32)), (.int (68 : Int32)), (.int (84 : Int32)), (.int (104 : Int32)), (.int (104 : Int32)), (.int (58 : Int32)), (.int (109 : Int32)), (.int (109 : Int32)), (.int (58 : Int32)), (.int (115 : Int32)), (.int (115 : Int32)), (.int (90 : Int32))] rfl (hb hby at_211) 212 rfl ?_
  clear V_d2; intro T21 h21 X21 e21 W21 V_d2
  have CR' := CR.trans (CHr.wr W21 S_d2 CR.1)
  replace S_d1 := Safe.wr W21 S_d2 CR.1 S_d1
  replace S_d2 := Safe.wr W21 S_d2 CR.1 S_d2
  replace CR := CR'
  replace hk := Nat.le_trans hk (Keep.of_wr W21).1
  replace V_d1 := V_d1.other W21 ne_d1_d2
  replace O := O.wr W21 n0_d2
  have N21 := Fr.snoc X21 N20 n0_d2
  refine Own.g_astore X21 hx #[.val (.int p1), .val (.int p2), .val (.int p3), .val (.int mm), .val (.int kp), .val (.int ch), .val (.int pp), .val (.ref d1), .val (.ref d2), .unset, .unset, .unset, .unset, .unset, .unset, .unset, .unset] (hb hby at_212) rfl rfl 214 rfl ?_
  replace V_d2 : Arv Z h21 d2 k_d2 .char 20 (SECL.map Value.int) (.int 0) := V_d2
  exact st_214 hQ hx hZ hw hby hml hown hret hlocks hEL hS hk CR p1 p2 p3 mm kp ch pp G1 u nm t kk va kv oe d1 d2 kd1 k_d2 X21 e21 N21 O V_d1 V_d2 S_d1 S_d2  O2 P5 SV AV EV SE EE FE H S0 S1 L_ch N_pp n0_d1 n0_d2 ne_d1_d2
set_option maxRecDepth 65536 in
set_option maxHeartbeats 40000000 in
theorem st_34 {p : Program} {l : Launch} {e : Env} {s : State} {m : MethodId} {args : Array Value} {below : List Frame} {meth : Method} {c : Code} {T0 : State} {locs : List Loc} {Z : State} {a0 : Array Value} {hh : Heap} {n0 : Nat} {Q : Option Value → Heap → List Loc → Prop} (hQ : ∀ h L, Fr n0 L → Q (some (.int 1)) h L) {vm : Vm} {k0 : Nat} (hx : p.tables.exec = Jvm.exec) (hZ : Z.Warmed39 (s.setVm vm).vm) (hw : ∀ d ∈ tables_1, d.before a0 Z = true) (hby : c.code = code) (hml : c.maxLocals = 17) (hown : (s.setVm vm).vm.findClass "com/example/bowerbird/bowerbird/model/GranularityNamedPinLaw" = some m.cls) (hret : meth.sig.returnType = (some .boolean)) (hlocks : meth.locks = false) (hEL : EW Z a0 EL) (hS : s.Since vm k0) (hk : k0 ≤ hh.size) (CR : CHr Z EL s.vm s.heap vm hh)
    (p1 p2 p3 mm kp ch pp G1 : Int32) (u : Nat → Addr) (nm : Nat → Addr) (t : Nat → Addr) (kk : Nat → ClassId) (va : Addr) (kv : ClassId) (oe : Addr)  (X0 : Stand p l e room_1 (s.setVm vm) m args below meth c T0 locs 0 0) (e0 : T0.heap = hh) (N0 : Fr n0 locs) (O : Old Z n0 hh)    (O2 : Sta Z Z.heap "java/lang/String" "COMPACT_STRINGS" "Z" (.int G1)) (P5 : ¬ (G1 = (0 : Int32))) (SV : Sta Z Z.heap "com/example/bowerbird/bowerbird/model/Datestamp$Granularity" "$VALUES" "[Lcom/example/bowerbird/bowerbird/model/Datestamp$Granularity;" (.ref va)) (AV : Arv Z Z.heap va kv (.object "com/example/bowerbird/bowerbird/model/Datestamp$Granularity") 2 [(.ref (u 0)), (.ref (u 1))] .null) (EV : Exa Z Z.heap va "[Lcom/example/bowerbird/bowerbird/model/Datestamp$Granularity;") (SE : Sta Z Z.heap "java/util/Optional" "EMPTY" "Ljava/util/Optional;" (.ref oe)) (EE : Exa Z Z.heap oe "java/util/Optional") (FE : Fld Z Z.heap oe "java/util/Optional" "value" "Ljava/lang/Object;" .null) (H : ∀ i, i < 2 → UnitOk Z (u i) (nm i) (t i) (kk i) (nmOf i)) (S0 : Sta Z Z.heap "com/example/bowerbird/bowerbird/model/Datestamp$Granularity" "DAY" "Lcom/example/bowerbird/bowerbird/model/Datestamp$Granularity;" (.ref (u 0))) (S1 : Sta Z Z.heap "com/example/bowerbird/bowerbird/model/Datestamp$Granularity" "SECOND" "Lcom/example/bowerbird/bowerbird/model/Datestamp$Granularity;" (.ref (u 1))) (L_ch : Own.Lat ch) (N_pp : ¬ pp < 0) :
    Own.Go p e below (Own.EndW Z EL s Q 32 1344) (T0.setTop (mkF m 34 #[.val (.int p1), .val (.int p2), .val (.int p3), .val (.int mm), .val (.int kp), .val (.int ch), .val (.int pp), .unset, .unset, .unset, .unset, .unset, .unset, .unset, .unset, .unset, .unset] [])) := by
  refine Own.g_bipush X0 hx (10 : Int32) (hb hby at_34) rfl 36 rfl ?_
  refine Own.g_newP X0 hx hZ (hw _ (List.mem_of_getElem? (i := 1) rfl)) e0 (hb hby at_36) (by decide) 10 (by decide) (by decide) (by decide) (by decide) 38 rfl .char rfl [(.int (0 : Int32)), (.int (0 : Int32)), (.int (0 : Int32)), (.int (0 : Int32)), (.int (0 : Int32)), (.int (0 : Int32)), (.int (0 : Int32)), (.int (0 : Int32)), (.int (0 : Int32)), (.int (0 : Int32))] (by intro i; first | rfl | (rcases i with _ | _ | _ | _ | _ | _ | _ | _ | _ | _ | _ | _ | _ | _ | _ | _ | _ | _ | _ | _ | _ | _ | _ | _ | i <;> rfl)) ?_
  intro T1 h1 d1 k_d1 X1 e1 E1 g1 V_d1
  have n0_d1 : n0 ≤ d1 := Nat.le_trans (Nat.le_of_eq O.1.symm) (Nat.le_trans O.2.1 (Nat.le_of_eq g1.symm))
  have S_d1 : Safe Z EL vm hh d1 := Safe.new (Nat.le_of_eq g1.symm)
  replace S_d1 := S_d1.ext E1 CR.1
  replace O := O.ext E1
  replace hk := Nat.le_trans hk E1.1
  replace CR := CR.trans (CHr.ext E1 CR.1)
  change Arv Z h1 d1 k_d1 .char (10 : Int32) [(.int (0 : Int32)), (.int (0 : Int32)), (.int (0 : Int32)), (.int (0 : Int32)), (.int (0 : Int32)), (.int (0 : Int32)), (.int (0 : Int32)), (.int (0 : Int32)), (.int (0 : Int32)), (.int (0 : Int32))] (.int (0 : Int32)) at V_d1
  refine Own.g_dup X1 hx (hb hby at_38) rfl 39 rfl ?_
  refine Own.g_iconst X1 hx (0 : Int32) (hb hby at_39) rfl 40 rfl ?_
  refine Own.g_bipush X1 hx (89 : Int32) (hb hby at_40) rfl 42 rfl ?_
  refine Own.g_stC X1 hx hZ e1 V_d1 (89 : Int32) rfl (by decide) 0 rfl (Nat.le_of_ble_eq_true rfl) [(.int (89 : Int32)), (.int (0 : Int32)), (.int (0 : Int32)), (.int (0 : Int32)), (.int (0 : Int32)), (.int (0 : Int32)), (.int (0 : Int32)), (.int (0 : Int32)), (.int (0 : Int32)), (.int (0 : Int32))] rfl (hb hby at_42) 43 rfl ?_
  clear V_d1; intro T2 h2 X2 e2 W2 V_d1
  have CR' := CR.trans (CHr.wr W2 S_d1 CR.1)
  replace S_d1 := Safe.wr W2 S_d1 CR.1 S_d1
  replace CR := CR'
  replace hk := Nat.le_trans hk (Keep.of_wr W2).1
  replace O := O.wr W2 n0_d1
  have N2 := Fr.snoc X2 N0 n0_d1
  refine Own.g_dup X2 hx (hb hby at_43) rfl 44 rfl ?_
  refine Own.g_iconst X2 hx (1 : Int32) (hb hby at_44) rfl 45 rfl ?_
  refine Own.g_bipush X2 hx (89 : Int32) (hb hby at_45) rfl 47 rfl ?_
  refine Own.g_stC X2 hx hZ e2 V_d1 (89 : Int32) rfl (by decide) 1 rfl (Nat.le_of_ble_eq_true rfl) [(.int (89 : Int32)), (.int (89 : Int32)), (.int (0 : Int32)), (.int (0 : Int32)), (.int (0 : Int32)), (.int (0 : Int32)), (.int (0 : Int32)), (.int (0 : Int32)), (.int (0 : Int32)), (.int (0 : Int32))] rfl (hb hby at_47) 48 rfl ?_
  clear V_d1; intro T3 h3 X3 e3 W3 V_d1
  have CR' := CR.trans (CHr.wr W3 S_d1 CR.1)
  replace S_d1 := Safe.wr W3 S_d1 CR.1 S_d1
  replace CR := CR'
  replace hk := Nat.le_trans hk (Keep.of_wr W3).1
  replace O := O.wr W3 n0_d1
  have N3 := Fr.snoc X3 N2 n0_d1
  refine Own.g_dup X3 hx (hb hby at_48) rfl 49 rfl ?_
  refine Own.g_iconst X3 hx (2 : Int32) (hb hby at_49) rfl 50 rfl ?_
  refine Own.g_bipush X3 hx (89 : Int32) (hb hby at_50) rfl 52 rfl ?_
  refine Own.g_stC X3 hx hZ e3 V_d1 (89 : Int32) rfl (by decide) 2 rfl (Nat.le_of_ble_eq_true rfl) [(.int (89 : Int32)), (.int (89 : Int32)), (.int (89 : Int32)), (.int (0 : Int32)), (.int (0 : Int32)), (.int (0 : Int32)), (.int (0 : Int32)), (.int (0 : Int32)), (.int (0 : Int32)), (.int (0 : Int32))] rfl (hb hby at_52) 53 rfl ?_
  clear V_d1; intro T4 h4 X4 e4 W4 V_d1
  have CR' := CR.trans (CHr.wr W4 S_d1 CR.1)
  replace S_d1 := Safe.wr W4 S_d1 CR.1 S_d1
  replace CR := CR'
  replace hk := Nat.le_trans hk (Keep.of_wr W4).1
  replace O := O.wr W4 n0_d1
  have N4 := Fr.snoc X4 N3 n0_d1
  refine Own.g_dup X4 hx (hb hby at_53) rfl 54 rfl ?_
  refine Own.g_iconst X4 hx (3 : Int32) (hb hby at_54) rfl 55 rfl ?_
  refine Own.g_bipush X4 hx (89 : Int32) (hb hby at_55) rfl 57 rfl ?_
  refine Own.g_stC X4 hx hZ e4 V_d1 (89 : Int32) rfl (by decide) 3 rfl (Nat.le_of_ble_eq_true rfl) [(.int (89 : Int32)), (.int (89 : Int32)), (.int (89 : Int32)), (.int (89 : Int32)), (.int (0 : Int32)), (.int (0 : Int32)), (.int (0 : Int32)), (.int (0 : Int32)), (.int (0 : Int32)), (.int (0 : Int32))] rfl (hb hby at_57) 58 rfl ?_
  clear V_d1; intro T5 h5 X5 e5 W5 V_d1
  have CR' := CR.trans (CHr.wr W5 S_d1 CR.1)
  replace S_d1 := Safe.wr W5 S_d1 CR.1 S_d1
  replace CR := CR'
  replace hk := Nat.le_trans hk (Keep.of_wr W5).1
  replace O := O.wr W5 n0_d1
  have N5 := Fr.snoc X5 N4 n0_d1
  refine Own.g_dup X5 hx (hb hby at_58) rfl 59 rfl ?_
  refine Own.g_iconst X5 hx (4 : Int32) (hb hby at_59) rfl 60 rfl ?_
  refine Own.g_bipush X5 hx (45 : Int32) (hb hby at_60) rfl 62 rfl ?_
  refine Own.g_stC X5 hx hZ e5 V_d1 (45 : Int32) rfl (by decide) 4 rfl (Nat.le_of_ble_eq_true rfl) [(.int (89 : Int32)), (.int (89 : Int32)), (.int (89 : Int32)), (.int (89 : Int32)), (.int (45 : Int32)), (.int (0 : Int32)), (.int (0 : Int32)), (.int (0 : Int32)), (.int (0 : Int32)), (.int (0 : Int32))] rfl (hb hby at_62) 63 rfl ?_
  clear V_d1; intro T6 h6 X6 e6 W6 V_d1
  have CR' := CR.trans (CHr.wr W6 S_d1 CR.1)
  replace S_d1 := Safe.wr W6 S_d1 CR.1 S_d1
  replace CR := CR'
  replace hk := Nat.le_trans hk (Keep.of_wr W6).1
  replace O := O.wr W6 n0_d1
  have N6 := Fr.snoc X6 N5 n0_d1
  refine Own.g_dup X6 hx (hb hby at_63) rfl 64 rfl ?_
  refine Own.g_iconst X6 hx (5 : Int32) (hb hby at_64) rfl 65 rfl ?_
  refine Own.g_bipush X6 hx (77 : Int32) (hb hby at_65) rfl 67 rfl ?_
  refine Own.g_stC X6 hx hZ e6 V_d1 (77 : Int32) rfl (by decide) 5 rfl (Nat.le_of_ble_eq_true rfl) [(.int (89 : Int32)), (.int (89 : Int32)), (.int (89 : Int32)), (.int (89 : Int32)), (.int (45 : Int32)), (.int (77 : Int32)), (.int (0 : Int32)), (.int (0 : Int32)), (.int (0 : Int32)), (.int (0 : Int32))] rfl (hb hby at_67) 68 rfl ?_
  clear V_d1; intro T7 h7 X7 e7 W7 V_d1
  have CR' := CR.trans (CHr.wr W7 S_d1 CR.1)
  replace S_d1 := Safe.wr W7 S_d1 CR.1 S_d1
  replace CR := CR'
  replace hk := Nat.le_trans hk (Keep.of_wr W7).1
  replace O := O.wr W7 n0_d1
  have N7 := Fr.snoc X7 N6 n0_d1
  refine Own.g_dup X7 hx (hb hby at_68) rfl 69 rfl ?_
  refine Own.g_bipush X7 hx (6 : Int32) (hb hby at_69) rfl 71 rfl ?_
  refine Own.g_bipush X7 hx (77 : Int32) (hb hby at_71) rfl 73 rfl ?_
  refine Own.g_stC X7 hx hZ e7 V_d1 (77 : Int32) rfl (by decide) 6 rfl (Nat.le_of_ble_eq_true rfl) [(.int (89 : Int32)), (.int (89 : Int32)), (.int (89 : Int32)), (.int (89 : Int32)), (.int (45 : Int32)), (.int (77 : Int32)), (.int (77 : Int32)), (.int (0 : Int32)), (.int (0 : Int32)), (.int (0 : Int32))] rfl (hb hby at_73) 74 rfl ?_
  clear V_d1; intro T8 h8 X8 e8 W8 V_d1
  have CR' := CR.trans (CHr.wr W8 S_d1 CR.1)
  replace S_d1 := Safe.wr W8 S_d1 CR.1 S_d1
  replace CR := CR'
  replace hk := Nat.le_trans hk (Keep.of_wr W8).1
  replace O := O.wr W8 n0_d1
  have N8 := Fr.snoc X8 N7 n0_d1
  refine Own.g_dup X8 hx (hb hby at_74) rfl 75 rfl ?_
  refine Own.g_bipush X8 hx (7 : Int32) (hb hby at_75) rfl 77 rfl ?_
  refine Own.g_bipush X8 hx (45 : Int32) (hb hby at_77) rfl 79 rfl ?_
  refine Own.g_stC X8 hx hZ e8 V_d1 (45 : Int32) rfl (by decide) 7 rfl (Nat.le_of_ble_eq_true rfl) [(.int (89 : Int32)), (.int (89 : Int32)), (.int (89 : Int32)), (.int (89 : Int32)), (.int (45 : Int32)), (.int (77 : Int32)), (.int (77 : Int32)), (.int (45 : Int32)), (.int (0 : Int32)), (.int (0 : Int32))] rfl (hb hby at_79) 80 rfl ?_
  clear V_d1; intro T9 h9 X9 e9 W9 V_d1
  have CR' := CR.trans (CHr.wr W9 S_d1 CR.1)
  replace S_d1 := Safe.wr W9 S_d1 CR.1 S_d1
  replace CR := CR'
  replace hk := Nat.le_trans hk (Keep.of_wr W9).1
  replace O := O.wr W9 n0_d1
  have N9 := Fr.snoc X9 N8 n0_d1
  refine Own.g_dup X9 hx (hb hby at_80) rfl 81 rfl ?_
  refine Own.g_bipush X9 hx (8 : Int32) (hb hby at_81) rfl 83 rfl ?_
  refine Own.g_bipush X9 hx (68 : Int32) (hb hby at_83) rfl 85 rfl ?_
  refine Own.g_stC X9 hx hZ e9 V_d1 (68 : Int32) rfl (by decide) 8 rfl (Nat.le_of_ble_eq_true rfl) [(.int (89 : Int32)), (.int (89 : Int32)), (.int (89 : Int32)), (.int (89 : Int32)), (.int (45 : Int32)), (.int (77 : Int32)), (.int (77 : Int32)), (.int (45 : Int32)), (.int (68 : Int32)), (.int (0 : Int32))] rfl (hb hby at_85) 86 rfl ?_
  clear V_d1; intro T10 h10 X10 e10 W10 V_d1
  have CR' := CR.trans (CHr.wr W10 S_d1 CR.1)
  replace S_d1 := Safe.wr W10 S_d1 CR.1 S_d1
  replace CR := CR'
  replace hk := Nat.le_trans hk (Keep.of_wr W10).1
  replace O := O.wr W10 n0_d1
  have N10 := Fr.snoc X10 N9 n0_d1
  refine Own.g_dup X10 hx (hb hby at_86) rfl 87 rfl ?_
  refine Own.g_bipush X10 hx (9 : Int32) (hb hby at_87) rfl 89 rfl ?_
  refine Own.g_bipush X10 hx (68 : Int32) (hb hby at_89) rfl 91 rfl ?_
  refine Own.g_stC X10 hx hZ e10 V_d1 (68 : Int32) rfl (by decide) 9 rfl (Nat.le_of_ble_eq_true rfl) [(.int (89 : Int32)), (.int (89 : Int32)), (.int (89 : Int32)), (.int (89 : Int32)), (.int (45 : Int32)), (.int (77 : Int32)), (.int (77 : Int32)), (.int (45 : Int32)), (.int (68 : Int32)), (.int (68 : Int32))] rfl (hb hby at_91) 92 rfl ?_
  clear V_d1; intro T11 h11 X11 e11 W11 V_d1
  have CR' := CR.trans (CHr.wr W11 S_d1 CR.1)
  replace S_d1 := Safe.wr W11 S_d1 CR.1 S_d1
  replace CR := CR'
  replace hk := Nat.le_trans hk (Keep.of_wr W11).1
  replace O := O.wr W11 n0_d1
  have N11 := Fr.snoc X11 N10 n0_d1
  refine Own.g_astore X11 hx #[.val (.int p1), .val (.int p2), .val (.int p3), .val (.int mm), .val (.int kp), .val (.int ch), .val (.int pp), .val (.ref d1), .unset, .unset, .unset, .unset, .unset, .unset, .unset, .unset, .unset] (hb hby at_92) rfl rfl 94 rfl ?_
  replace V_d1 : Arv Z h11 d1 k_d1 .char 10 (DAYL.map Value.int) (.int 0) := V_d1
  exact st_94 hQ hx hZ hw hby hml hown hret hlocks hEL hS hk CR p1 p2 p3 mm kp ch pp G1 u nm t kk va kv oe d1  k_d1 X11 e11 N11 O V_d1 S_d1  O2 P5 SV AV EV SE EE FE H S0 S1 L_ch N_pp n0_d1 
theorem ef_law (m : MethodId) (x0 : Int32) (x1 : Int32) (x2 : Int32) : entryFrame m #[.int x0, .int x1, .int x2] maxLocals = mkF m 0 #[.val (.int x0), .val (.int x1), .val (.int x2), .unset, .unset, .unset, .unset, .unset, .unset, .unset, .unset, .unset, .unset, .unset, .unset, .unset, .unset] [] := by first | (simp [entryFrame, mkF, argsToLocals, Value.category, maxLocals]; done) | rfl
def Q_law (Z : State) (p1 : Int32) (p2 : Int32) (p3 : Int32) (G1 : Int32) (u : Nat → Addr) (nm : Nat → Addr) (t : Nat → Addr) (kk : Nat → ClassId) (va : Addr) (kv : ClassId) (oe : Addr) (h0 : Heap) (n0 : Nat) (v : Option Value) (h : Heap) (L : List Loc) : Prop := v = some (.int 1) ∧ Fr n0 L
set_option maxRecDepth 65536 in
set_option maxHeartbeats 40000000 in
theorem rm_law (l : Launch) (Z : State) (a0 : Array Value) (hw : ∀ d ∈ tables_1, d.before a0 Z = true) (ws : List Jvm.Cond) (p1 : Int32) (p2 : Int32) (p3 : Int32) (G1 : Int32) (u : Nat → Addr) (nm : Nat → Addr) (t : Nat → Addr) (kk : Nat → ClassId) (va : Addr) (kv : ClassId) (oe : Addr) (h0 : Heap) (n0 : Nat) (O : Old Z n0 h0) (O2 : Sta Z Z.heap "java/lang/String" "COMPACT_STRINGS" "Z" (.int G1)) (P5 : ¬ (G1 = (0 : Int32))) (SV : Sta Z Z.heap "com/example/bowerbird/bowerbird/model/Datestamp$Granularity" "$VALUES" "[Lcom/example/bowerbird/bowerbird/model/Datestamp$Granularity;" (.ref va)) (AV : Arv Z Z.heap va kv (.object "com/example/bowerbird/bowerbird/model/Datestamp$Granularity") 2 [(.ref (u 0)), (.ref (u 1))] .null) (EV : Exa Z Z.heap va "[Lcom/example/bowerbird/bowerbird/model/Datestamp$Granularity;") (SE : Sta Z Z.heap "java/util/Optional" "EMPTY" "Ljava/util/Optional;" (.ref oe)) (EE : Exa Z Z.heap oe "java/util/Optional") (FE : Fld Z Z.heap oe "java/util/Optional" "value" "Ljava/lang/Object;" .null) (H : ∀ i, i < 2 → UnitOk Z (u i) (nm i) (t i) (kk i) (nmOf i)) (S0 : Sta Z Z.heap "com/example/bowerbird/bowerbird/model/Datestamp$Granularity" "DAY" "Lcom/example/bowerbird/bowerbird/model/Datestamp$Granularity;" (.ref (u 0))) (S1 : Sta Z Z.heap "com/example/bowerbird/bowerbird/model/Datestamp$Granularity" "SECOND" "Lcom/example/bowerbird/bowerbird/model/Datestamp$Granularity;" (.ref (u 1))) :
    MetFree l x (head1 (Jvm.Cond.code x code maxLocals ret :: ws) room_1) (fun aa U => aa = #[.int p1, .int p2, .int p3] ∧ Z.Warmed39 U.vm ∧ U.heap = h0 ∧ CHv Z EL U.vm h0 ∧ ∀ yy ∈ ([] : List Addr), Safe Z EL U.vm h0 yy) (fun _ _ _ _ _ => True) (fun _ U o U' => Own.EndW Z EL U (Q_law Z p1 p2 p3 G1 u nm t kk va kv oe h0 n0) 32 1344 o U') := by
  refine MetFree.of_bodySF (plainFor_of_name pn_5) hisR ?_
  intro p e s m args below meth c s₁ Bd hml0 hP hK
  obtain ⟨rfl, hZ, hh, hH, hSF⟩ := hP
  replace hZ : Z.Warmed39 (s.setVm s.vm).vm := hZ
  have hEL := own_EL hw
  have hx := Bd.exec
  have hby := Bd.bytes
  have hml : c.maxLocals = 17 := hml0
  have hown : (s.setVm s.vm).vm.findClass "com/example/bowerbird/bowerbird/model/GranularityNamedPinLaw" = some m.cls := findClass_of_methodNamed Bd.named
  have hnm := (name_of_methodNamed Bd.named Bd.method).1
  have hret := Bd.returns
  have hlocks : meth.locks = false := Bd.notSynchronized
  have X0 : Stand p l e room_1 (s.setVm s.vm) m #[.int p1, .int p2, .int p3] below meth c s₁ [] 0 0 := Stand.of_body Bd
  have e0 : s₁.heap = h0 := by rw [← hh, Bd.state]; rfl
  have N0 := Fr.nil n0
  have CR : CHr Z EL s.vm s.heap s.vm h0 := by rw [hh]; exact CHr.refl hH
  have hS : s.Since s.vm h0.size := (State.WarmedH.refl s).since _
  have hk : h0.size ≤ h0.size := Nat.le_refl _
  show Own.Go p e below (Own.EndW Z EL s (Q_law Z p1 p2 p3 G1 u nm t kk va kv oe h0 n0) 32 1344) (s₁.setTop (entryFrame m #[.int p1, .int p2, .int p3] maxLocals))
  refine Own.Go.eq (ef_law m p1 p2 p3) ?_
  have hQ : ∀ h L, Fr n0 L → Q_law Z p1 p2 p3 G1 u nm t kk va kv oe h0 n0 (some (.int 1)) h L := fun _ _ N => ⟨rfl, N⟩
  refine Own.g_iloadN X0 hx (hb hby at_0) rfl 1 rfl ?_
  refine Own.g_bipush X0 hx (7 : Int32) (hb hby at_1) rfl 3 rfl ?_
  refine Own.g_iand X0 hx (hb hby at_3) 4 rfl ?_
  refine Own.g_istoreN X0 hx #[.val (.int p1), .val (.int p2), .val (.int p3), .val (.int (p1 &&& (7 : Int32))), .unset, .unset, .unset, .unset, .unset, .unset, .unset, .unset, .unset, .unset, .unset, .unset, .unset] (hb hby at_4) rfl 5 rfl ?_
  obtain ⟨mm, hmm⟩ : ∃ z : Int32, z = (p1 &&& (7 : Int32)) := ⟨_, rfl⟩
  rw [← hmm]
  refine Own.g_iloadN X0 hx (hb hby at_5) rfl 6 rfl ?_
  refine Own.g_sipush X0 hx (256 : Int32) (hb hby at_6) rfl 9 rfl ?_
  refine Own.g_iand X0 hx (hb hby at_9) 10 rfl ?_
  refine Own.g_if_ne X0 hx (hb hby at_10) 17 13 (by decide) rfl ?_ ?_
  · intro hkk
    refine Own.g_iconst X0 hx (0 : Int32) (hb hby at_17) rfl 18 rfl ?_
    refine Own.g_istore X0 hx #[.val (.int p1), .val (.int p2), .val (.int p3), .val (.int mm), .val (.int (0 : Int32)), .unset, .unset, .unset, .unset, .unset, .unset, .unset, .unset, .unset, .unset, .unset, .unset] (hb hby at_18) rfl 20 rfl ?_
    refine Own.g_iloadN X0 hx (hb hby at_20) rfl 21 rfl ?_
    refine Own.g_sipush X0 hx (255 : Int32) (hb hby at_21) rfl 24 rfl ?_
    refine Own.g_iand X0 hx (hb hby at_24) 25 rfl ?_
    refine Own.g_i2c X0 hx (hb hby at_25) 26 rfl ?_
    refine Own.g_istore X0 hx #[.val (.int p1), .val (.int p2), .val (.int p3), .val (.int mm), .val (.int (0 : Int32)), .val (.int ((p3 &&& (255 : Int32)).toUInt32.toUInt16.toUInt32.toInt32)), .unset, .unset, .unset, .unset, .unset, .unset, .unset, .unset, .unset, .unset, .unset] (hb hby at_26) rfl 28 rfl ?_
    obtain ⟨ch, hch⟩ : ∃ z : Int32, z = ((p3 &&& (255 : Int32)).toUInt32.toUInt16.toUInt32.toInt32) := ⟨_, rfl⟩
    rw [← hch]
    have L_ch : Own.Lat ch := by rw [hch]; exact Own.lat255c _
    refine Own.g_iloadN X0 hx (hb hby at_28) rfl 29 rfl ?_
    refine Own.g_ldcI X0 hx hown (mvT hZ (hw _ (List.mem_of_getElem? (i := 0) rfl))) (hb hby at_29) 31 rfl ?_
    refine Own.g_iand X0 hx (hb hby at_31) 32 rfl ?_
    refine Own.g_istore X0 hx #[.val (.int p1), .val (.int p2), .val (.int p3), .val (.int mm), .val (.int (0 : Int32)), .val (.int ch), .val (.int (p2 &&& (2147483647 : Int32))), .unset, .unset, .unset, .unset, .unset, .unset, .unset, .unset, .unset, .unset] (hb hby at_32) rfl 34 rfl ?_
    obtain ⟨pp, hpp⟩ : ∃ z : Int32, z = (p2 &&& (2147483647 : Int32)) := ⟨_, rfl⟩
    rw [← hpp]
    have N_pp : ¬ pp < 0 := by rw [hpp]; exact Own.mask31 _
    exact st_34 hQ hx hZ hw hby hml hown hret hlocks hEL hS hk CR p1 p2 p3 mm (0 : Int32) ch pp G1 u nm t kk va kv oe X0 e0 N0 O    O2 P5 SV AV EV SE EE FE H S0 S1 L_ch N_pp
  · intro hkk
    refine Own.g_iconst X0 hx (1 : Int32) (hb hby at_13) rfl 14 rfl ?_
    refine Own.g_goto X0 hx (hb hby at_14) 18 (by decide) ?_
    refine Own.g_istore X0 hx #[.val (.int p1), .val (.int p2), .val (.int p3), .val (.int mm), .val (.int (1 : Int32)), .unset, .unset, .unset, .unset, .unset, .unset, .unset, .unset, .unset, .unset, .unset, .unset] (hb hby at_18) rfl 20 rfl ?_
    refine Own.g_iloadN X0 hx (hb hby at_20) rfl 21 rfl ?_
    refine Own.g_sipush X0 hx (255 : Int32) (hb hby at_21) rfl 24 rfl ?_
    refine Own.g_iand X0 hx (hb hby at_24) 25 rfl ?_
    refine Own.g_i2c X0 hx (hb hby at_25) 26 rfl ?_
    refine Own.g_istore X0 hx #[.val (.int p1), .val (.int p2), .val (.int p3), .val (.int mm), .val (.int (1 : Int32)), .val (.int ((p3 &&& (255 : Int32)).toUInt32.toUInt16.toUInt32.toInt32)), .unset, .unset, .unset, .unset, .unset, .unset, .unset, .unset, .unset, .unset, .unset] (hb hby at_26) rfl 28 rfl ?_
    obtain ⟨ch, hch⟩ : ∃ z : Int32, z = ((p3 &&& (255 : Int32)).toUInt32.toUInt16.toUInt32.toInt32) := ⟨_, rfl⟩
    rw [← hch]
    have L_ch : Own.Lat ch := by rw [hch]; exact Own.lat255c _
    refine Own.g_iloadN X0 hx (hb hby at_28) rfl 29 rfl ?_
    refine Own.g_ldcI X0 hx hown (mvT hZ (hw _ (List.mem_of_getElem? (i := 0) rfl))) (hb hby at_29) 31 rfl ?_
    refine Own.g_iand X0 hx (hb hby at_31) 32 rfl ?_
    refine Own.g_istore X0 hx #[.val (.int p1), .val (.int p2), .val (.int p3), .val (.int mm), .val (.int (1 : Int32)), .val (.int ch), .val (.int (p2 &&& (2147483647 : Int32))), .unset, .unset, .unset, .unset, .unset, .unset, .unset, .unset, .unset, .unset] (hb hby at_32) rfl 34 rfl ?_
    obtain ⟨pp, hpp⟩ : ∃ z : Int32, z = (p2 &&& (2147483647 : Int32)) := ⟨_, rfl⟩
    rw [← hpp]
    have N_pp : ¬ pp < 0 := by rw [hpp]; exact Own.mask31 _
    exact st_34 hQ hx hZ hw hby hml hown hret hlocks hEL hS hk CR p1 p2 p3 mm (1 : Int32) ch pp G1 u nm t kk va kv oe X0 e0 N0 O    O2 P5 SV AV EV SE EE FE H S0 S1 L_ch N_pp
theorem own_null {args : Array Value} {s : State} {t : Jvm.Term} (h : (Jvm.Cond.eq t Jvm.Term.null).value args s none s [] = some true) : t.eval args s none [] s = some .null := by
  obtain ⟨x, y, e1, e2, -, -⟩ := cmp_v (Or.inl h)
  have e3 : Jvm.Term.null.eval args s none [] s = some .null := rfl
  cases e3.symm.trans e2
  simp only [Jvm.Cond.value, e1, e3] at h
  cases x <;> simp_all
set_option maxRecDepth 65536 in
set_option maxHeartbeats 40000000 in
theorem comes_1 {Post : Tables → Env → Array Value → State → Outcome → State → Prop} (hpost : ∀ tb e args s v u, (limb_1_1.after args s (.returned v) u = true ∧ limb_1_2.after args s (.returned v) u = true ∧ True) → ReturnedEndW s (.returned v) u (Jvm.fieldLocs frame_1_writes args s ++ Jvm.arrayLocs frame_1_arrays args s ++ Jvm.staticLocs frame_1_statics s) 32 1344 → Post tb e args s (.returned v) u) :
    ArmFor flags0 classFile x code maxLocals ret World_1 tables_1 room_1 Calls_1 rest_1 Pre_1 Post := by
  intro l hfl _ _ p e ha hc hk s m args below hf hA hF happ hP
  obtain ⟨hcalls, hrest, hpre⟩ := hP
  obtain ⟨-, -, -, hnamed, -, -, -, hat⟩ := (Spec.applies_iff hf).mp happ
  obtain ⟨hg, hn⟩ := and_e (Cond.before_iff.mp (show (Jvm.Cond.and given_1 narrow_1).before args s = true from hpre))
  obtain ⟨g0, q0⟩ := and_e hg
  obtain ⟨g1, q1⟩ := and_e q0
  obtain ⟨g2, q2⟩ := and_e q1
  obtain ⟨w0, w1, w2, rfl⟩ : ∃ w0 w1 w2 : Value, args = #[w0, w1, w2] := by
    have hs : args.size = 3 := by simpa [Cond.value, given_1] using g0
    obtain ⟨L⟩ := args
    match L, hs with
    | [w0, w1, w2], _ => exact ⟨w0, w1, w2, rfl⟩
  have hw := fun d (hd : d ∈ tables_1) => atoms_spec (ws := Jvm.Cond.code x code maxLocals ret :: tables_1) hat d (List.mem_cons_of_mem _ hd)
  have hfit : Fit s := fun {y c} hc i hi => by
    obtain ⟨ha, rfl⟩ := Array.getElem?_eq_some_iff.mp hc
    have q := List.all_eq_true.mp ((Array.all_eq_true_iff_forall_mem.mp hF) _ (Array.getElem_mem ha)) i (List.mem_range.mpr hi)
    simpa [Array.getElem?_eq_getElem hi] using q
  obtain ⟨hsets, hown0⟩ := atoms_of _ (rest_1_c_eq ▸ (show rest_1_c.before _ s = true from hrest))
  obtain ⟨i0, ei0⟩ := is_v g1
  obtain rfl : w0 = (.int i0) := Option.some.inj ei0
  obtain ⟨i1, ei1⟩ := is_v g2
  obtain rfl : w1 = (.int i1) := Option.some.inj ei1
  obtain ⟨i2, ei2⟩ := is_v q2
  obtain rfl : w2 = (.int i2) := Option.some.inj ei2
  have nz := not_v (Cond.before_iff.mp (hsets _ (List.mem_of_getElem? (i := 2) rfl)))
  obtain ⟨G1, eG1⟩ := is_v (Cond.before_iff.mp (hsets _ (List.mem_of_getElem? (i := 1) rfl)))
  have O2 : Sta s s.heap "java/lang/String" "COMPACT_STRINGS" "Z" (.int G1) := Sta.start eG1 (Or.inl (hsets _ (List.mem_of_getElem? (i := 0) rfl)))
  have P5 : ¬ (G1 = (0 : Int32)) := gotF (Cond.eq_ints eG1 (Term.int_eval (0))) nz
  obtain ⟨G3, eG3, rG3⟩ := isR_v (Cond.before_iff.mp (hsets _ (List.mem_of_getElem? (i := 8) rfl)))
  have O4 : Sta s s.heap "jdk/internal/util/Preconditions" "SIOOBE_FORMATTER" "Ljava/util/function/BiFunction;" G3 := Sta.start eG3 (Or.inl (hsets _ (List.mem_of_getElem? (i := 7) rfl)))
  obtain ⟨c0, r0⟩ := and_e hn
  obtain ⟨c1, r1⟩ := and_e r0
  obtain ⟨c2, r2⟩ := and_e r1
  obtain ⟨c3, r3⟩ := and_e r2
  obtain ⟨c4, r4⟩ := and_e r3
  obtain ⟨c5, r5⟩ := and_e r4
  obtain ⟨c6, r6⟩ := and_e r5
  obtain ⟨c7, r7⟩ := and_e r6
  obtain ⟨c8, r8⟩ := and_e r7
  obtain ⟨c9, r9⟩ := and_e r8
  obtain ⟨c10, r10⟩ := and_e r9
  obtain ⟨c11, r11⟩ := and_e r10
  obtain ⟨c12, r12⟩ := and_e r11
  obtain ⟨c13, r13⟩ := and_e r12
  obtain ⟨c14, r14⟩ := and_e r13
  obtain ⟨c15, r15⟩ := and_e r14
  obtain ⟨c16, r16⟩ := and_e r15
  obtain ⟨c17, r17⟩ := and_e r16
  obtain ⟨c18, r18⟩ := and_e r17
  obtain ⟨c19, r19⟩ := and_e r18
  obtain ⟨c20, r20⟩ := and_e r19
  obtain ⟨c21, r21⟩ := and_e r20
  obtain ⟨c22, r22⟩ := and_e r21
  obtain ⟨c23, r23⟩ := and_e r22
  obtain ⟨c24, r24⟩ := and_e r23
  obtain ⟨c25, r25⟩ := and_e r24
  obtain ⟨c26, r26⟩ := and_e r25
  obtain ⟨c27, r27⟩ := and_e r26
  obtain ⟨c28, r28⟩ := and_e r27
  obtain ⟨c29, r29⟩ := and_e r28
  obtain ⟨c30, r30⟩ := and_e r29
  obtain ⟨c31, r31⟩ := and_e r30
  obtain ⟨c32, r32⟩ := and_e r31
  obtain ⟨c33, r33⟩ := and_e r32
  obtain ⟨c34, r34⟩ := and_e r33
  obtain ⟨c35, r35⟩ := and_e r34
  obtain ⟨c36, r36⟩ := and_e r35
  obtain ⟨c37, r37⟩ := and_e r36
  obtain ⟨u0, eu0⟩ := exa_v c3
  have S0 : Sta s s.heap "com/example/bowerbird/bowerbird/model/Datestamp$Granularity" "DAY" "Lcom/example/bowerbird/bowerbird/model/Datestamp$Granularity;" (.ref u0) := Sta.start eu0 (Or.inr ⟨(hw _ (List.mem_of_getElem? (i := 33) rfl)), (hw _ (List.mem_of_getElem? (i := 47) rfl))⟩)
  have EU0 : Exa s s.heap u0 "com/example/bowerbird/bowerbird/model/Datestamp$Granularity" := Exa.start eu0 c3
  obtain ⟨u1, eu1⟩ := exa_v c5
  have S1 : Sta s s.heap "com/example/bowerbird/bowerbird/model/Datestamp$Granularity" "SECOND" "Lcom/example/bowerbird/bowerbird/model/Datestamp$Granularity;" (.ref u1) := Sta.start eu1 (Or.inr ⟨(hw _ (List.mem_of_getElem? (i := 33) rfl)), (hw _ (List.mem_of_getElem? (i := 48) rfl))⟩)
  have EU1 : Exa s s.heap u1 "com/example/bowerbird/bowerbird/model/Datestamp$Granularity" := Exa.start eu1 c5
  obtain ⟨va, eva⟩ := exa_v c1
  have SV : Sta s s.heap "com/example/bowerbird/bowerbird/model/Datestamp$Granularity" "$VALUES" "[Lcom/example/bowerbird/bowerbird/model/Datestamp$Granularity;" (.ref va) := Sta.start eva (Or.inl (hw _ (List.mem_of_getElem? (i := 49) rfl)))
  have EV : Exa s s.heap va "[Lcom/example/bowerbird/bowerbird/model/Datestamp$Granularity;" := Exa.start eva c1
  obtain ⟨kv, AV⟩ := Own.start_arv hfit c0 eva c2 (by decide) [.ref u0, .ref u1] rfl (fun cl hcl => ⟨Own.start_elem c4 eva hcl eu0, Own.start_elem c6 eva hcl eu1, trivial⟩) .null
  obtain ⟨n0, en0⟩ := exa_v c7
  have FN0 : Fld s s.heap u0 "com/example/bowerbird/bowerbird/model/Datestamp$Granularity" "pattern" "Ljava/lang/String;" (.ref n0) := Fld.start ((fld_at eu0).symm.trans en0)
  have EN0 : Exa s s.heap n0 "java/lang/String" := Exa.start en0 c7
  have FC0 : Fld s s.heap n0 "java/lang/String" "coder" "B" (.int 0) := Fld.start ((fld_at en0).symm.trans (Own.start_int c8))
  obtain ⟨t0, et0⟩ := arr_v c9
  have FV0 : Fld s s.heap n0 "java/lang/String" "value" "[B" (.ref t0) := Fld.start ((fld_at en0).symm.trans et0)
  obtain ⟨k0, AT0⟩ := Own.start_arv hfit c9 et0 c10 (by decide) [.int 89, .int 89, .int 89, .int 89, .int 45, .int 77, .int 77, .int 45, .int 68, .int 68] rfl (fun cl hcl => ⟨Own.start_all c15 c10 et0 hcl 0 et0 (by decide) (by decide) (by decide) (by decide), Own.start_all c15 c10 et0 hcl 1 et0 (by decide) (by decide) (by decide) (by decide), Own.start_all c15 c10 et0 hcl 2 et0 (by decide) (by decide) (by decide) (by decide), Own.start_all c15 c10 et0 hcl 3 et0 (by decide) (by decide) (by decide) (by decide), Own.start_elem c16 et0 hcl (Term.int_eval _), Own.start_elem c17 et0 hcl (Term.int_eval _), Own.start_elem c18 et0 hcl (Term.int_eval _), Own.start_elem c19 et0 hcl (Term.int_eval _), Own.start_elem c20 et0 hcl (Term.int_eval _), Own.start_elem c21 et0 hcl (Term.int_eval _), trivial⟩) (.int 0)
  obtain ⟨n1, en1⟩ := exa_v c11
  have FN1 : Fld s s.heap u1 "com/example/bowerbird/bowerbird/model/Datestamp$Granularity" "pattern" "Ljava/lang/String;" (.ref n1) := Fld.start ((fld_at eu1).symm.trans en1)
  have EN1 : Exa s s.heap n1 "java/lang/String" := Exa.start en1 c11
  have FC1 : Fld s s.heap n1 "java/lang/String" "coder" "B" (.int 0) := Fld.start ((fld_at en1).symm.trans (Own.start_int c12))
  obtain ⟨t1, et1⟩ := arr_v c13
  have FV1 : Fld s s.heap n1 "java/lang/String" "value" "[B" (.ref t1) := Fld.start ((fld_at en1).symm.trans et1)
  obtain ⟨k1, AT1⟩ := Own.start_arv hfit c13 et1 c14 (by decide) [.int 89, .int 89, .int 89, .int 89, .int 45, .int 77, .int 77, .int 45, .int 68, .int 68, .int 84, .int 104, .int 104, .int 58, .int 109, .int 109, .int 58, .int 115, .int 115, .int 90] rfl (fun cl hcl => ⟨Own.start_all c22 c14 et1 hcl 0 et1 (by decide) (by decide) (by decide) (by decide), Own.start_all c22 c14 et1 hcl 1 et1 (by decide) (by decide) (by decide) (by decide), Own.start_all c22 c14 et1 hcl 2 et1 (by decide) (by decide) (by decide) (by decide), Own.start_all c22 c14 et1 hcl 3 et1 (by decide) (by decide) (by decide) (by decide), Own.start_elem c23 et1 hcl (Term.int_eval _), Own.start_elem c24 et1 hcl (Term.int_eval _), Own.start_elem c25 et1 hcl (Term.int_eval _), Own.start_elem c26 et1 hcl (Term.int_eval _), Own.start_elem c27 et1 hcl (Term.int_eval _), Own.start_elem c28 et1 hcl (Term.int_eval _), Own.start_elem c29 et1 hcl (Term.int_eval _), Own.start_elem c30 et1 hcl (Term.int_eval _), Own.start_elem c31 et1 hcl (Term.int_eval _), Own.start_elem c32 et1 hcl (Term.int_eval _), Own.start_elem c33 et1 hcl (Term.int_eval _), Own.start_elem c34 et1 hcl (Term.int_eval _), Own.start_elem c35 et1 hcl (Term.int_eval _), Own.start_elem c36 et1 hcl (Term.int_eval _), Own.start_elem c37 et1 hcl (Term.int_eval _), Own.start_elem r37 et1 hcl (Term.int_eval _), trivial⟩) (.int 0)
  obtain ⟨oe, eoe⟩ := exa_v (Cond.before_iff.mp (hsets _ (List.mem_of_getElem? (i := 11) rfl)))
  have SE : Sta s s.heap "java/util/Optional" "EMPTY" "Ljava/util/Optional;" (.ref oe) := Sta.start eoe (Or.inl (hsets _ (List.mem_of_getElem? (i := 10) rfl)))
  have EE : Exa s s.heap oe "java/util/Optional" := Exa.start eoe (Cond.before_iff.mp (hsets _ (List.mem_of_getElem? (i := 11) rfl)))
  have FE : Fld s s.heap oe "java/util/Optional" "value" "Ljava/lang/Object;" .null := Fld.start ((fld_at eoe).symm.trans (own_null (Cond.before_iff.mp (hsets _ (List.mem_of_getElem? (i := 12) rfl)))))
  have H : ∀ i, i < 2 → UnitOk s ((fun i => match i with | 0 => u0 | _ => u1) i) ((fun i => match i with | 0 => n0 | _ => n1) i) ((fun i => match i with | 0 => t0 | _ => t1) i) ((fun i => match i with | 0 => k0 | _ => k1) i) (nmOf i) := by
    intro i hi
    match i, hi with
    | 0, _ => exact ⟨EU0, FN0, EN0, FV0, FC0, AT0⟩
    | 1, _ => exact ⟨EU1, FN1, EN1, FV1, FC1, AT1⟩
  have hCH : CHv s EL s.vm s.heap := CHv.start (own_EL hw) (fun p hp => hcalls.1 p hp) (hsets _ (List.mem_of_getElem? (i := 2) rfl)) (hw _ (List.mem_of_getElem? (i := 20) rfl)) (hw _ (List.mem_of_getElem? (i := 3) rfl))
  obtain ⟨n, o, h1, h2, h3, v, L, rfl, ⟨rfl, N⟩, -, hq⟩ := rm_law l s _ hw tables_1 i0 i1 i2 G1 (fun i => match i with | 0 => u0 | _ => u1) (fun i => match i with | 0 => n0 | _ => n1) (fun i => match i with | 0 => t0 | _ => t1) (fun i => match i with | 0 => k0 | _ => k1) va kv oe s.heap s.heap.size (Old.start s) O2 P5 SV AV EV SE EE FE H S0 S1 p e ha hc hk s m _ below hf ((Spec.applies_iff_loose hf).mp happ).1 ⟨rfl, State.Warmed39.refl s, rfl, hCH, all0⟩ trivial
  refine ⟨n, _, h1, h2, h3, hpost _ _ _ _ _ _ ⟨Cond.after_iff.mpr rfl, Cond.after_iff.mpr (eq_i res_at (Term.int_eval (1)) rfl), trivial⟩ ⟨hq.1, hq.2.1, hq.2.2.1, (hq.2.2.2.sift fun y hy => Or.inr (N y hy)).mono (by decide) (by decide)⟩⟩
theorem main_1_1 : Claimed_1_1 := comes_1 fun _ _ _ _ _ _ h hF => ⟨h.1, hF⟩
theorem main_1_2 : Claimed_1_2 := comes_1 fun _ _ _ _ _ _ h hF => ⟨h.2.1, hF⟩
end Jvm.Pilot.@@N@@
namespace Jvm.Pilot.@@N@@
open Jvm Jvm.ClassFile Sem Op Lib Jvm.Free Jvm.Stand Jvm.Pilot.@@N@@.Jvm.D
/-! MADE BY PROGRAM (witnessworld.py) out of the Statement's table words and the real class files: 24 classes; the members and pool entries that the words name. The judged class is class 1, her method 1. -/
namespace start1
open Jvm.ClassFile
def u (s : String) : CpInfo := .utf8 (stringToUtf16 s)
/-- a pool by its gaps: so many unusable entries, then the entry; so many at the end -/
def gap : Nat → List CpInfo → List CpInfo
  | 0, r => r
  | n + 1, r => .unusable :: gap n r
def poolList (es : List (Nat × CpInfo)) (last : Nat) : List CpInfo := es.foldr (fun e r => gap e.1 (e.2 :: r)) (gap last [])
def pool (es : List (Nat × CpInfo)) (last : Nat) : Array CpInfo := ⟨poolList es last⟩
def fileOf (pool : Array CpInfo) (this : Nat) (attrs : Array Attribute := #[]) (ms : Array MethodInfo := #[]) (fl : Nat := 33) (sup : Nat := 0) (ifs : Array Nat := #[]) (fds : Array FieldInfo := #[]) : ClassFile where
  minorVersion := 0
  majorVersion := 65
  constantPool := pool
  accessFlags := fl
  thisClass := this
  superClass := sup
  interfaces := ifs
  fields := fds
  methods := ms
  attributes := attrs
def plain (name : String) (sup : Option ClassId) : Class where
  name := name
  kind := .ordinary
  loader := none
  accessFlags := 33
  super := sup
  interfaces := #[]
  cf := none
  fields := #[]
  methods := #[]
  instanceTypes := #[]
  staticTypes := #[]
  resolved := #[]
  callSites := []
  init := .initialized
  statics := none
  mirror := none

def pool0 : Array CpInfo := pool [(5, u "<init>"), (0, u "()V"), (1, .class_ 10), (1, u "java/lang/Object"), (85, u "clone"), (0, u "()Ljava/lang/Object;")] 26

def k0c0 : Code := { maxStack := 0, maxLocals := 1, code := object_method_1_code, exceptionTable := #[], attributes := #[] }
def k0m0 : Method := { name := "<init>", desc := "()V", sig := { parameters := [], returnType := none }, accessFlags := 1, code := some k0c0 }
def k0m1 : Method := { name := "clone", desc := "()Ljava/lang/Object;", sig := { parameters := [], returnType := some (.object "java/lang/Object") }, accessFlags := 260, code := none }
/-- java/lang/Object -/
def k0 : Class := { plain "java/lang/Object" none with
  accessFlags := 33
  interfaces := #[]
  cf := some (fileOf pool0 8 #[] #[{ accessFlags := 1, nameIndex := 5, descriptorIndex := 6, attributes := #[] }, { accessFlags := 260, nameIndex := 96, descriptorIndex := 97, attributes := #[] }] 33 0 #[] #[])
  fields := #[]
  methods := #[k0m0, k0m1]
  instanceTypes := #[]
  staticTypes := #[]
  resolved := Array.replicate 124 none
  statics := none }

def pool1 : Array CpInfo := pool [(2, .class_ 4), (1, u "java/lang/Object"), (0, u "<init>"), (0, u "()V"), (0, .integer 2147483647), (0, .class_ 9), (0, u "java/lang/String"), (0, .methodref 8 11), (0, .nameAndType 5 12), (0, u "([C)V"), (0, .methodref 8 14), (0, .nameAndType 15 16), (0, u "valueOf"), (0, u "(C)Ljava/lang/String;"), (0, .methodref 18 19), (0, .class_ 20), (0, .nameAndType 21 22), (0, u "com/example/bowerbird/bowerbird/model/Datestamp$Granularity"), (0, u "named"), (0, u "(Ljava/lang/String;)Ljava/util/Optional;"), (0, .methodref 24 25), (0, .class_ 26), (0, .nameAndType 27 28), (0, u "java/util/Optional"), (0, u "isPresent"), (0, u "()Z"), (0, .methodref 24 30), (0, .nameAndType 31 32), (0, u "get"), (0, u "()Ljava/lang/Object;"), (0, .fieldref 18 34), (0, .nameAndType 35 36), (0, u "DAY"), (0, u "Lcom/example/bowerbird/bowerbird/model/Datestamp$Granularity;"), (0, .fieldref 18 38), (0, .nameAndType 39 36), (0, u "SECOND"), (0, .class_ 41), (0, u "com/example/bowerbird/bowerbird/model/GranularityNamedPinLaw"), (2, u "law"), (0, u "(III)Z")] 9

def k1m0 : Method := { name := "<init>", desc := "()V", sig := { parameters := [], returnType := none }, accessFlags := 1, code := none }
def k1c1 : Code := { maxStack := 4, maxLocals := 17, code := code, exceptionTable := #[], attributes := #[] }
def k1m1 : Method := { name := "law", desc := "(III)Z", sig := { parameters := [.int, .int, .int], returnType := some .boolean }, accessFlags := 9, code := some k1c1 }
/-- com/example/bowerbird/bowerbird/model/GranularityNamedPinLaw -/
def k1 : Class := { plain "com/example/bowerbird/bowerbird/model/GranularityNamedPinLaw" (some 0) with
  accessFlags := 49
  interfaces := #[]
  cf := some (fileOf pool1 40 #[] #[{ accessFlags := 1, nameIndex := 5, descriptorIndex := 6, attributes := #[] }, { accessFlags := 9, nameIndex := 44, descriptorIndex := 45, attributes := #[] }] 49 2 #[] #[])
  fields := #[]
  methods := #[k1m0, k1m1]
  instanceTypes := #[]
  staticTypes := #[]
  resolved := Array.replicate 55 none
  statics := none }

def pool2 : Array CpInfo := pool [(1, .class_ 2), (0, u "java/io/Serializable"), (0, .class_ 4), (0, u "java/lang/Object")] 2

/-- java/io/Serializable -/
def k2 : Class := { plain "java/io/Serializable" (some 0) with
  accessFlags := 1537
  interfaces := #[]
  cf := some (fileOf pool2 1 #[] #[] 1537 3 #[] #[])
  fields := #[]
  methods := #[]
  instanceTypes := #[]
  staticTypes := #[]
  resolved := Array.replicate 7 none
  statics := none }

def pool3 : Array CpInfo := pool [(1, .class_ 2), (0, u "java/lang/Comparable"), (0, .class_ 4), (0, u "java/lang/Object")] 7

/-- java/lang/Comparable -/
def k3 : Class := { plain "java/lang/Comparable" (some 0) with
  accessFlags := 1537
  interfaces := #[]
  cf := some (fileOf pool3 1 #[] #[] 1537 3 #[] #[])
  fields := #[]
  methods := #[]
  instanceTypes := #[]
  staticTypes := #[]
  resolved := Array.replicate 12 none
  statics := none }

def pool4 : Array CpInfo := pool [(2, .class_ 4), (1, u "java/lang/CharSequence"), (42, .class_ 48), (0, u "java/lang/CharSequence$1CodePointIterator"), (10, .class_ 60), (0, u "java/lang/CharSequence$1CharIterator"), (5, .class_ 67), (0, u "java/lang/Object")] 63

/-- java/lang/CharSequence -/
def k4 : Class := { plain "java/lang/CharSequence" (some 0) with
  accessFlags := 1537
  interfaces := #[]
  cf := some (fileOf pool4 2 #[.nestMembers #[47, 59]] #[] 1537 66 #[] #[])
  fields := #[]
  methods := #[]
  instanceTypes := #[]
  staticTypes := #[]
  resolved := Array.replicate 131 none
  statics := none }

def pool5 : Array CpInfo := pool [(1, .class_ 2), (0, u "java/lang/constant/Constable"), (0, .class_ 4), (0, u "java/lang/Object")] 6

/-- java/lang/constant/Constable -/
def k5 : Class := { plain "java/lang/constant/Constable" (some 0) with
  accessFlags := 1537
  interfaces := #[]
  cf := some (fileOf pool5 1 #[] #[] 1537 3 #[] #[])
  fields := #[]
  methods := #[]
  instanceTypes := #[]
  staticTypes := #[]
  resolved := Array.replicate 11 none
  statics := none }

def pool6 : Array CpInfo := pool [(1, .class_ 2), (0, u "java/lang/constant/ConstantDesc"), (0, .class_ 4), (0, u "java/lang/Object")] 32

/-- java/lang/constant/ConstantDesc -/
def k6 : Class := { plain "java/lang/constant/ConstantDesc" (some 0) with
  accessFlags := 1537
  interfaces := #[]
  cf := some (fileOf pool6 1 #[] #[] 1537 3 #[] #[])
  fields := #[]
  methods := #[]
  instanceTypes := #[]
  staticTypes := #[]
  resolved := Array.replicate 37 none
  statics := none }

def pool7 : Array CpInfo := pool [(1, .methodref 2 3), (0, .class_ 4), (0, .nameAndType 5 6), (0, u "java/lang/Object"), (0, u "<init>"), (0, u "()V"), (0, .string 8), (0, u ""), (0, .fieldref 10 11), (0, .class_ 12), (0, .nameAndType 13 14), (0, u "java/lang/String"), (0, u "value"), (0, u "[B"), (0, .fieldref 10 16), (0, .nameAndType 17 18), (0, u "coder"), (0, u "B"), (2, u "hash"), (0, u "I"), (2, u "hashIsZero"), (0, u "Z"), (0, .methodref 10 28), (0, .nameAndType 5 29), (0, u "([CIILjava/lang/Void;)V"), (8, .fieldref 10 39), (0, .nameAndType 40 26), (0, u "COMPACT_STRINGS"), (1, .class_ 44), (1, u "java/lang/StringUTF16"), (0, u "compress"), (1, .methodref 42 48), (0, .nameAndType 49 50), (0, u "coderFromArrayLen"), (0, u "([BI)B"), (2, u "toBytes"), (53, .class_ 109), (1, u "java/lang/StringLatin1"), (67, .methodref 42 178), (0, .nameAndType 45 179), (0, u "([CII)[B"), (29, .methodref 10 210), (0, .nameAndType 5 211), (0, u "([BB)V"), (157, u "(C)Z"), (171, .methodref 107 542), (0, .nameAndType 543 544), (0, u "equals"), (0, u "([B[B)Z"), (28, u "(Ljava/lang/Object;)Z"), (1, .class_ 576), (0, u "java/lang/CharSequence"), (22, u "CASE_INSENSITIVE_ORDER"), (0, u "Ljava/util/Comparator;"), (181, u "valueOf"), (0, u "(C)Ljava/lang/String;"), (226, u "([C)V"), (4, .methodref 107 1016), (0, .nameAndType 1017 369), (0, u "canEncode"), (0, .methodref 107 1019), (0, .nameAndType 53 1020), (0, u "(C)[B"), (80, u "serialPersistentFields"), (0, u "[Ljava/io/ObjectStreamField;"), (0, .class_ 1104), (0, u "java/lang/String$CaseInsensitiveComparator"), (1, .class_ 1107), (0, u "java/io/Serializable"), (0, .class_ 1109), (0, u "java/lang/Comparable"), (0, .class_ 1111), (0, u "java/lang/constant/Constable"), (0, .class_ 1113), (0, u "java/lang/constant/ConstantDesc"), (2, u "serialVersionUID"), (0, u "J"), (3, u "REPL"), (0, u "C"), (2, u "LATIN1"), (1, u "UTF16")] 323

def k7m0 : Method := { name := "<init>", desc := "()V", sig := { parameters := [], returnType := none }, accessFlags := 1, code := none }
def k7c1 : Code := { maxStack := 5, maxLocals := 2, code := jdk_42_method_3_code, exceptionTable := #[], attributes := #[] }
def k7m1 : Method := { name := "<init>", desc := "([C)V", sig := { parameters := [(.array .char)], returnType := none }, accessFlags := 1, code := some k7c1 }
def k7c2 : Code := { maxStack := 2, maxLocals := 3, code := jdk_42_method_66_code, exceptionTable := #[], attributes := #[] }
def k7m2 : Method := { name := "equals", desc := "(Ljava/lang/Object;)Z", sig := { parameters := [(.object "java/lang/Object")], returnType := some .boolean }, accessFlags := 1, code := some k7c2 }
def k7c3 : Code := { maxStack := 4, maxLocals := 1, code := jdk_42_method_139_code, exceptionTable := #[], attributes := #[] }
def k7m3 : Method := { name := "valueOf", desc := "(C)Ljava/lang/String;", sig := { parameters := [.char], returnType := some (.object "java/lang/String") }, accessFlags := 9, code := some k7c3 }
def k7c4 : Code := { maxStack := 4, maxLocals := 6, code := jdk_42_method_149_code, exceptionTable := #[], attributes := #[] }
def k7m4 : Method := { name := "<init>", desc := "([CIILjava/lang/Void;)V", sig := { parameters := [(.array .char), .int, .int, (.object "java/lang/Void")], returnType := none }, accessFlags := 2, code := some k7c4 }
def k7c5 : Code := { maxStack := 2, maxLocals := 3, code := jdk_42_method_151_code, exceptionTable := #[], attributes := #[] }
def k7m5 : Method := { name := "<init>", desc := "([BB)V", sig := { parameters := [(.array .byte), .byte], returnType := none }, accessFlags := 0, code := some k7c5 }
/-- java/lang/String -/
def k7 : Class := { plain "java/lang/String" (some 0) with
  accessFlags := 49
  interfaces := #[2, 3, 4, 5, 6]
  cf := some (fileOf pool7 10 #[.nestMembers #[1103]] #[{ accessFlags := 1, nameIndex := 5, descriptorIndex := 6, attributes := #[] }, { accessFlags := 1, nameIndex := 5, descriptorIndex := 1010, attributes := #[] }, { accessFlags := 1, nameIndex := 543, descriptorIndex := 573, attributes := #[] }, { accessFlags := 9, nameIndex := 782, descriptorIndex := 783, attributes := #[] }, { accessFlags := 2, nameIndex := 5, descriptorIndex := 29, attributes := #[] }, { accessFlags := 0, nameIndex := 5, descriptorIndex := 211, attributes := #[] }] 49 2 #[1106, 1108, 575, 1110, 1112] #[{ accessFlags := 18, nameIndex := 13, descriptorIndex := 14, attributes := #[] }, { accessFlags := 18, nameIndex := 17, descriptorIndex := 18, attributes := #[] }, { accessFlags := 2, nameIndex := 21, descriptorIndex := 22, attributes := #[] }, { accessFlags := 2, nameIndex := 25, descriptorIndex := 26, attributes := #[] }, { accessFlags := 26, nameIndex := 1116, descriptorIndex := 1117, attributes := #[] }, { accessFlags := 24, nameIndex := 40, descriptorIndex := 26, attributes := #[] }, { accessFlags := 26, nameIndex := 1101, descriptorIndex := 1102, attributes := #[] }, { accessFlags := 26, nameIndex := 1121, descriptorIndex := 1122, attributes := #[] }, { accessFlags := 25, nameIndex := 599, descriptorIndex := 600, attributes := #[] }, { accessFlags := 24, nameIndex := 1125, descriptorIndex := 18, attributes := #[] }, { accessFlags := 24, nameIndex := 1127, descriptorIndex := 18, attributes := #[] }])
  fields := #[{ name := "value", type := (.array .byte), accessFlags := 18, slot := 0, constantValue := 0 }, { name := "coder", type := .byte, accessFlags := 18, slot := 1, constantValue := 0 }, { name := "hash", type := .int, accessFlags := 2, slot := 2, constantValue := 0 }, { name := "hashIsZero", type := .boolean, accessFlags := 2, slot := 3, constantValue := 0 }, { name := "serialVersionUID", type := .long, accessFlags := 26, slot := 0, constantValue := 0 }, { name := "COMPACT_STRINGS", type := .boolean, accessFlags := 24, slot := 1, constantValue := 0 }, { name := "serialPersistentFields", type := (.array (.object "java/io/ObjectStreamField")), accessFlags := 26, slot := 2, constantValue := 0 }, { name := "REPL", type := .char, accessFlags := 26, slot := 3, constantValue := 0 }, { name := "CASE_INSENSITIVE_ORDER", type := (.object "java/util/Comparator"), accessFlags := 25, slot := 4, constantValue := 0 }, { name := "LATIN1", type := .byte, accessFlags := 24, slot := 5, constantValue := 0 }, { name := "UTF16", type := .byte, accessFlags := 24, slot := 6, constantValue := 0 }]
  methods := #[k7m0, k7m1, k7m2, k7m3, k7m4, k7m5]
  instanceTypes := #[(.array .byte), .byte, .int, .boolean]
  staticTypes := #[.long, .boolean, (.array (.object "java/io/ObjectStreamField")), .char, (.object "java/util/Comparator"), .byte, .byte]
  resolved := Array.replicate 1451 none
  statics := some 0 }

def pool8 : Array CpInfo := pool [(6, .class_ 8), (1, u "java/lang/Object"), (0, u "<init>"), (0, u "()V"), (1, .class_ 14), (1, u "java/lang/StringUTF16"), (31, u "$assertionsDisabled"), (0, u "Z"), (13, u "HI_BYTE_SHIFT"), (0, u "I"), (2, u "LO_BYTE_SHIFT"), (49, .methodref 12 116), (0, .nameAndType 117 118), (0, u "compress"), (0, u "([CI[BII)I"), (3, u "([CII)[B"), (138, u "coderFromArrayLen"), (0, u "([BI)B"), (106, .class_ 371), (1, u "java/lang/StringUTF16$LinesSpliterator"), (58, u "MAX_LENGTH"), (196, .class_ 628), (0, u "java/lang/StringUTF16$CodePointsSpliterator"), (0, .class_ 630), (0, u "java/lang/StringUTF16$CharsSpliterator")] 4

def k8m0 : Method := { name := "<init>", desc := "()V", sig := { parameters := [], returnType := none }, accessFlags := 0, code := none }
def k8c1 : Code := { maxStack := 2, maxLocals := 2, code := jdk_52_method_15_code, exceptionTable := #[], attributes := #[] }
def k8m1 : Method := { name := "coderFromArrayLen", desc := "([BI)B", sig := { parameters := [(.array .byte), .int], returnType := some .byte }, accessFlags := 8, code := some k8c1 }
def k8c2 : Code := { maxStack := 5, maxLocals := 6, code := jdk_52_method_16_code, exceptionTable := #[], attributes := #[] }
def k8m2 : Method := { name := "compress", desc := "([CII)[B", sig := { parameters := [(.array .char), .int, .int], returnType := some (.array .byte) }, accessFlags := 9, code := some k8c2 }
def k8c3 : Code := { maxStack := 3, maxLocals := 7, code := jdk_52_method_21_code, exceptionTable := #[], attributes := #[] }
def k8m3 : Method := { name := "compress", desc := "([CI[BII)I", sig := { parameters := [(.array .char), .int, (.array .byte), .int, .int], returnType := some .int }, accessFlags := 9, code := some k8c3 }
/-- java/lang/StringUTF16 -/
def k8 : Class := { plain "java/lang/StringUTF16" (some 0) with
  accessFlags := 48
  interfaces := #[]
  cf := some (fileOf pool8 12 #[.nestMembers #[627, 629, 369]] #[{ accessFlags := 0, nameIndex := 9, descriptorIndex := 10, attributes := #[] }, { accessFlags := 8, nameIndex := 261, descriptorIndex := 262, attributes := #[] }, { accessFlags := 9, nameIndex := 117, descriptorIndex := 122, attributes := #[] }, { accessFlags := 9, nameIndex := 117, descriptorIndex := 118, attributes := #[] }] 48 6 #[] #[{ accessFlags := 26, nameIndex := 61, descriptorIndex := 62, attributes := #[] }, { accessFlags := 26, nameIndex := 65, descriptorIndex := 62, attributes := #[] }, { accessFlags := 24, nameIndex := 430, descriptorIndex := 62, attributes := #[] }, { accessFlags := 4120, nameIndex := 46, descriptorIndex := 47, attributes := #[] }])
  fields := #[{ name := "HI_BYTE_SHIFT", type := .int, accessFlags := 26, slot := 0, constantValue := 0 }, { name := "LO_BYTE_SHIFT", type := .int, accessFlags := 26, slot := 1, constantValue := 0 }, { name := "MAX_LENGTH", type := .int, accessFlags := 24, slot := 2, constantValue := 0 }, { name := "$assertionsDisabled", type := .boolean, accessFlags := 4120, slot := 3, constantValue := 0 }]
  methods := #[k8m0, k8m1, k8m2, k8m3]
  instanceTypes := #[]
  staticTypes := #[.int, .int, .int, .boolean]
  resolved := Array.replicate 635 none
  statics := none }

def pool9 : Array CpInfo := pool [(2, .class_ 4), (1, u "java/lang/Enum"), (0, u "name"), (0, u "Ljava/lang/String;"), (2, u "ordinal"), (0, u "I"), (1, .class_ 14), (1, u "java/lang/Object"), (4, u "hash"), (86, .class_ 108), (1, u "java/lang/Enum$EnumDesc"), (2, .class_ 112), (0, u "java/lang/constant/Constable"), (0, .class_ 114), (0, u "java/lang/Comparable"), (0, .class_ 116), (0, u "java/io/Serializable")] 87

/-- java/lang/Enum -/
def k9 : Class := { plain "java/lang/Enum" (some 0) with
  accessFlags := 1057
  interfaces := #[5, 3, 2]
  cf := some (fileOf pool9 2 #[.nestMembers #[106]] #[] 1057 12 #[111, 113, 115] #[{ accessFlags := 18, nameIndex := 5, descriptorIndex := 6, attributes := #[] }, { accessFlags := 18, nameIndex := 9, descriptorIndex := 10, attributes := #[] }, { accessFlags := 2, nameIndex := 19, descriptorIndex := 10, attributes := #[] }])
  fields := #[{ name := "name", type := (.object "java/lang/String"), accessFlags := 18, slot := 0, constantValue := 0 }, { name := "ordinal", type := .int, accessFlags := 18, slot := 1, constantValue := 0 }, { name := "hash", type := .int, accessFlags := 2, slot := 2, constantValue := 0 }]
  methods := #[]
  instanceTypes := #[(.object "java/lang/String"), .int, .int]
  staticTypes := #[]
  resolved := Array.replicate 204 none
  statics := none }

def pool10 : Array CpInfo := pool [(1, .class_ 2), (0, u "com/example/bowerbird/bowerbird/model/Datestamp$Granularity"), (2, u "DAY"), (0, u "Lcom/example/bowerbird/bowerbird/model/Datestamp$Granularity;"), (2, u "SECOND"), (0, .fieldref 1 11), (0, .nameAndType 12 13), (0, u "$VALUES"), (0, u "[Lcom/example/bowerbird/bowerbird/model/Datestamp$Granularity;"), (0, .methodref 15 16), (0, .class_ 13), (0, .nameAndType 17 18), (0, u "clone"), (0, u "()Ljava/lang/Object;"), (1, .class_ 22), (1, u "java/lang/Enum"), (6, .fieldref 1 30), (0, .nameAndType 31 32), (0, u "pattern"), (0, u "Ljava/lang/String;"), (18, u "formatter"), (0, u "Ljava/time/format/DateTimeFormatter;"), (2, u "unit"), (0, u "Ljava/time/temporal/ChronoUnit;"), (0, .methodref 1 58), (0, .nameAndType 59 60), (0, u "values"), (0, u "()[Lcom/example/bowerbird/bowerbird/model/Datestamp$Granularity;"), (0, .methodref 62 63), (0, .class_ 64), (0, .nameAndType 65 66), (0, u "java/lang/String"), (0, u "equals"), (0, u "(Ljava/lang/Object;)Z"), (0, .methodref 68 69), (0, .class_ 70), (0, .nameAndType 71 72), (0, u "java/util/Optional"), (0, u "of"), (0, u "(Ljava/lang/Object;)Ljava/util/Optional;"), (0, .methodref 68 74), (0, .nameAndType 75 76), (0, u "empty"), (0, u "()Ljava/util/Optional;"), (31, u "named"), (0, u "(Ljava/lang/String;)Ljava/util/Optional;"), (8, .class_ 119), (0, u "com/example/bowerbird/bowerbird/model/Datestamp")] 2

def k10c0 : Code := { maxStack := 1, maxLocals := 0, code := prog_8_method_1_code, exceptionTable := #[], attributes := #[] }
def k10m0 : Method := { name := "values", desc := "()[Lcom/example/bowerbird/bowerbird/model/Datestamp$Granularity;", sig := { parameters := [], returnType := some (.array (.object "com/example/bowerbird/bowerbird/model/Datestamp$Granularity")) }, accessFlags := 9, code := some k10c0 }
def k10c1 : Code := { maxStack := 2, maxLocals := 5, code := prog_8_method_5_code, exceptionTable := #[], attributes := #[] }
def k10m1 : Method := { name := "named", desc := "(Ljava/lang/String;)Ljava/util/Optional;", sig := { parameters := [(.object "java/lang/String")], returnType := some (.object "java/util/Optional") }, accessFlags := 9, code := some k10c1 }
/-- com/example/bowerbird/bowerbird/model/Datestamp$Granularity -/
def k10 : Class := { plain "com/example/bowerbird/bowerbird/model/Datestamp$Granularity" (some 9) with
  accessFlags := 16433
  interfaces := #[]
  cf := some (fileOf pool10 1 #[.nestHost 118] #[{ accessFlags := 9, nameIndex := 59, descriptorIndex := 60, attributes := #[] }, { accessFlags := 9, nameIndex := 108, descriptorIndex := 109, attributes := #[] }] 16433 20 #[] #[{ accessFlags := 16409, nameIndex := 5, descriptorIndex := 6, attributes := #[] }, { accessFlags := 16409, nameIndex := 9, descriptorIndex := 6, attributes := #[] }, { accessFlags := 18, nameIndex := 31, descriptorIndex := 32, attributes := #[] }, { accessFlags := 18, nameIndex := 51, descriptorIndex := 52, attributes := #[] }, { accessFlags := 18, nameIndex := 55, descriptorIndex := 56, attributes := #[] }, { accessFlags := 4122, nameIndex := 12, descriptorIndex := 13, attributes := #[] }])
  fields := #[{ name := "DAY", type := (.object "com/example/bowerbird/bowerbird/model/Datestamp$Granularity"), accessFlags := 16409, slot := 0, constantValue := 0 }, { name := "SECOND", type := (.object "com/example/bowerbird/bowerbird/model/Datestamp$Granularity"), accessFlags := 16409, slot := 1, constantValue := 0 }, { name := "pattern", type := (.object "java/lang/String"), accessFlags := 18, slot := 3, constantValue := 0 }, { name := "formatter", type := (.object "java/time/format/DateTimeFormatter"), accessFlags := 18, slot := 4, constantValue := 0 }, { name := "unit", type := (.object "java/time/temporal/ChronoUnit"), accessFlags := 18, slot := 5, constantValue := 0 }, { name := "$VALUES", type := (.array (.object "com/example/bowerbird/bowerbird/model/Datestamp$Granularity")), accessFlags := 4122, slot := 2, constantValue := 0 }]
  methods := #[k10m0, k10m1]
  instanceTypes := #[(.object "java/lang/String"), .int, .int, (.object "java/lang/String"), (.object "java/time/format/DateTimeFormatter"), (.object "java/time/temporal/ChronoUnit")]
  staticTypes := #[(.object "com/example/bowerbird/bowerbird/model/Datestamp$Granularity"), (.object "com/example/bowerbird/bowerbird/model/Datestamp$Granularity"), (.array (.object "com/example/bowerbird/bowerbird/model/Datestamp$Granularity"))]
  resolved := Array.replicate 122 none
  statics := some 1 }

def pool11 : Array CpInfo := pool [(1, .class_ 2), (0, u "java/lang/Cloneable"), (0, .class_ 4), (0, u "java/lang/Object")] 2

/-- java/lang/Cloneable -/
def k11 : Class := { plain "java/lang/Cloneable" (some 0) with
  accessFlags := 1537
  interfaces := #[]
  cf := some (fileOf pool11 1 #[] #[] 1537 3 #[] #[])
  fields := #[]
  methods := #[]
  instanceTypes := #[]
  staticTypes := #[]
  resolved := Array.replicate 7 none
  statics := none }

def pool12 : Array CpInfo := pool [(4, .class_ 6), (1, u "java/lang/Object"), (0, u "<init>"), (0, u "()V"), (5, .class_ 16), (1, u "java/lang/StringLatin1"), (73, u "canEncode"), (14, u "(C)Z"), (15, u "$assertionsDisabled"), (0, u "Z"), (98, .class_ 223), (1, u "java/lang/StringLatin1$LinesSpliterator"), (57, u "equals"), (0, u "([B[B)Z"), (97, u "toBytes"), (1, u "(C)[B"), (7, .class_ 391), (0, u "java/lang/StringLatin1$CharsSpliterator")] 3

def k12m0 : Method := { name := "<init>", desc := "()V", sig := { parameters := [], returnType := none }, accessFlags := 0, code := none }
def k12c1 : Code := { maxStack := 2, maxLocals := 1, code := jdk_43_method_3_code, exceptionTable := #[], attributes := #[] }
def k12m1 : Method := { name := "canEncode", desc := "(C)Z", sig := { parameters := [.char], returnType := some .boolean }, accessFlags := 9, code := some k12c1 }
def k12c2 : Code := { maxStack := 3, maxLocals := 3, code := jdk_43_method_13_code, exceptionTable := #[], attributes := #[] }
def k12m2 : Method := { name := "equals", desc := "([B[B)Z", sig := { parameters := [(.array .byte), (.array .byte)], returnType := some .boolean }, accessFlags := 9, code := some k12c2 }
def k12c3 : Code := { maxStack := 4, maxLocals := 1, code := jdk_43_method_46_code, exceptionTable := #[], attributes := #[] }
def k12m3 : Method := { name := "toBytes", desc := "(C)[B", sig := { parameters := [.char], returnType := some (.array .byte) }, accessFlags := 9, code := some k12c3 }
/-- java/lang/StringLatin1 -/
def k12 : Class := { plain "java/lang/StringLatin1" (some 0) with
  accessFlags := 48
  interfaces := #[]
  cf := some (fileOf pool12 14 #[.nestMembers #[390, 221]] #[{ accessFlags := 0, nameIndex := 7, descriptorIndex := 8, attributes := #[] }, { accessFlags := 9, nameIndex := 90, descriptorIndex := 105, attributes := #[] }, { accessFlags := 9, nameIndex := 281, descriptorIndex := 282, attributes := #[] }, { accessFlags := 9, nameIndex := 380, descriptorIndex := 382, attributes := #[] }] 48 4 #[] #[{ accessFlags := 4120, nameIndex := 121, descriptorIndex := 122, attributes := #[] }])
  fields := #[{ name := "$assertionsDisabled", type := .boolean, accessFlags := 4120, slot := 0, constantValue := 0 }]
  methods := #[k12m0, k12m1, k12m2, k12m3]
  instanceTypes := #[]
  staticTypes := #[.boolean]
  resolved := Array.replicate 395 none
  statics := none }

def pool13 : Array CpInfo := pool [(1, .fieldref 2 3), (0, .class_ 4), (0, .nameAndType 5 6), (0, u "java/util/Optional"), (0, u "EMPTY"), (0, u "Ljava/util/Optional;"), (0, .methodref 8 9), (0, .class_ 10), (0, .nameAndType 11 12), (0, u "java/lang/Object"), (0, u "<init>"), (0, u "()V"), (0, .fieldref 2 14), (0, .nameAndType 15 16), (0, u "value"), (0, u "Ljava/lang/Object;"), (0, .methodref 18 19), (0, .class_ 20), (0, .nameAndType 21 22), (0, u "java/util/Objects"), (0, u "requireNonNull"), (0, u "(Ljava/lang/Object;)Ljava/lang/Object;"), (0, .methodref 2 24), (0, .nameAndType 11 25), (0, u "(Ljava/lang/Object;)V"), (20, u "()Z"), (8, u "empty"), (0, u "()Ljava/util/Optional;"), (8, u "(Ljava/lang/Object;)Ljava/util/Optional;"), (2, u "isPresent"), (4, u "get"), (0, u "()Ljava/lang/Object;"), (7, u "of")] 104

def k13c0 : Code := { maxStack := 1, maxLocals := 1, code := jdk_32_method_1_code, exceptionTable := #[], attributes := #[] }
def k13m0 : Method := { name := "empty", desc := "()Ljava/util/Optional;", sig := { parameters := [], returnType := some (.object "java/util/Optional") }, accessFlags := 9, code := some k13c0 }
def k13c1 : Code := { maxStack := 2, maxLocals := 2, code := jdk_32_method_2_code, exceptionTable := #[], attributes := #[] }
def k13m1 : Method := { name := "<init>", desc := "(Ljava/lang/Object;)V", sig := { parameters := [(.object "java/lang/Object")], returnType := none }, accessFlags := 2, code := some k13c1 }
def k13c2 : Code := { maxStack := 3, maxLocals := 1, code := jdk_32_method_3_code, exceptionTable := #[], attributes := #[] }
def k13m2 : Method := { name := "of", desc := "(Ljava/lang/Object;)Ljava/util/Optional;", sig := { parameters := [(.object "java/lang/Object")], returnType := some (.object "java/util/Optional") }, accessFlags := 9, code := some k13c2 }
def k13c3 : Code := { maxStack := 3, maxLocals := 1, code := jdk_32_method_5_code, exceptionTable := #[], attributes := #[] }
def k13m3 : Method := { name := "get", desc := "()Ljava/lang/Object;", sig := { parameters := [], returnType := some (.object "java/lang/Object") }, accessFlags := 1, code := some k13c3 }
def k13c4 : Code := { maxStack := 1, maxLocals := 1, code := jdk_32_method_6_code, exceptionTable := #[], attributes := #[] }
def k13m4 : Method := { name := "isPresent", desc := "()Z", sig := { parameters := [], returnType := some .boolean }, accessFlags := 1, code := some k13c4 }
/-- java/util/Optional -/
def k13 : Class := { plain "java/util/Optional" (some 0) with
  accessFlags := 49
  interfaces := #[]
  cf := some (fileOf pool13 2 #[] #[{ accessFlags := 9, nameIndex := 55, descriptorIndex := 56, attributes := #[] }, { accessFlags := 2, nameIndex := 11, descriptorIndex := 25, attributes := #[] }, { accessFlags := 9, nameIndex := 82, descriptorIndex := 65, attributes := #[] }, { accessFlags := 1, nameIndex := 73, descriptorIndex := 74, attributes := #[] }, { accessFlags := 1, nameIndex := 68, descriptorIndex := 46, attributes := #[] }] 49 8 #[] #[{ accessFlags := 26, nameIndex := 5, descriptorIndex := 6, attributes := #[] }, { accessFlags := 18, nameIndex := 15, descriptorIndex := 16, attributes := #[] }])
  fields := #[{ name := "EMPTY", type := (.object "java/util/Optional"), accessFlags := 26, slot := 0, constantValue := 0 }, { name := "value", type := (.object "java/lang/Object"), accessFlags := 18, slot := 0, constantValue := 0 }]
  methods := #[k13m0, k13m1, k13m2, k13m3, k13m4]
  instanceTypes := #[(.object "java/lang/Object")]
  staticTypes := #[(.object "java/util/Optional")]
  resolved := Array.replicate 187 none
  statics := some 2 }

def pool14 : Array CpInfo := pool [(2, .class_ 4), (1, u "java/lang/Object"), (0, u "<init>"), (0, u "()V"), (35, .class_ 44), (1, u "java/util/Objects"), (0, u "requireNonNull"), (0, u "(Ljava/lang/Object;)Ljava/lang/Object;")] 137

def k14m0 : Method := { name := "<init>", desc := "()V", sig := { parameters := [], returnType := none }, accessFlags := 2, code := none }
def k14c1 : Code := { maxStack := 2, maxLocals := 1, code := jdk_31_method_10_code, exceptionTable := #[], attributes := #[] }
def k14m1 : Method := { name := "requireNonNull", desc := "(Ljava/lang/Object;)Ljava/lang/Object;", sig := { parameters := [(.object "java/lang/Object")], returnType := some (.object "java/lang/Object") }, accessFlags := 9, code := some k14c1 }
/-- java/util/Objects -/
def k14 : Class := { plain "java/util/Objects" (some 0) with
  accessFlags := 49
  interfaces := #[]
  cf := some (fileOf pool14 42 #[] #[{ accessFlags := 2, nameIndex := 5, descriptorIndex := 6, attributes := #[] }, { accessFlags := 9, nameIndex := 45, descriptorIndex := 46, attributes := #[] }] 49 2 #[] #[])
  fields := #[]
  methods := #[k14m0, k14m1]
  instanceTypes := #[]
  staticTypes := #[]
  resolved := Array.replicate 184 none
  statics := none }

def pool15 : Array CpInfo := pool [(2, .class_ 4), (1, u "java/lang/Object"), (0, u "<init>"), (0, u "()V"), (17, .class_ 26), (1, u "jdk/internal/util/Preconditions"), (28, .class_ 56), (0, u "jdk/internal/util/Preconditions$4"), (57, .class_ 115), (0, u "jdk/internal/util/Preconditions$1"), (7, u "SIOOBE_FORMATTER"), (0, u "Ljava/util/function/BiFunction;"), (0, .class_ 126), (0, u "jdk/internal/util/Preconditions$2"), (3, u "AIOOBE_FORMATTER"), (0, .class_ 132), (0, u "jdk/internal/util/Preconditions$3"), (3, u "IOOBE_FORMATTER")] 57

def k15m0 : Method := { name := "<init>", desc := "()V", sig := { parameters := [], returnType := none }, accessFlags := 1, code := none }
/-- jdk/internal/util/Preconditions -/
def k15 : Class := { plain "jdk/internal/util/Preconditions" (some 0) with
  accessFlags := 33
  interfaces := #[]
  cf := some (fileOf pool15 24 #[.nestMembers #[55, 131, 125, 114]] #[{ accessFlags := 1, nameIndex := 5, descriptorIndex := 6, attributes := #[] }] 33 2 #[] #[{ accessFlags := 25, nameIndex := 123, descriptorIndex := 124, attributes := #[] }, { accessFlags := 25, nameIndex := 130, descriptorIndex := 124, attributes := #[] }, { accessFlags := 25, nameIndex := 136, descriptorIndex := 124, attributes := #[] }])
  fields := #[{ name := "SIOOBE_FORMATTER", type := (.object "java/util/function/BiFunction"), accessFlags := 25, slot := 0, constantValue := 0 }, { name := "AIOOBE_FORMATTER", type := (.object "java/util/function/BiFunction"), accessFlags := 25, slot := 1, constantValue := 0 }, { name := "IOOBE_FORMATTER", type := (.object "java/util/function/BiFunction"), accessFlags := 25, slot := 2, constantValue := 0 }]
  methods := #[k15m0]
  instanceTypes := #[]
  staticTypes := #[(.object "java/util/function/BiFunction"), (.object "java/util/function/BiFunction"), (.object "java/util/function/BiFunction")]
  resolved := Array.replicate 194 none
  statics := some 3 }

def pool16 : Array CpInfo := pool [(9, u "<init>"), (6, .class_ 18), (1, u "java/lang/Object"), (0, u "()V"), (1, .class_ 23), (1, u "jdk/internal/util/ArraysSupport"), (0, u "LOG2_ARRAY_LONG_INDEX_SCALE"), (0, u "I"), (2, u "U"), (0, u "Ljdk/internal/misc/Unsafe;"), (8, u "BIG_ENDIAN"), (0, u "Z"), (8, u "LOG2_BYTE_BIT_SIZE"), (4, u "LOG2_ARRAY_INT_INDEX_SCALE"), (54, u "JLA"), (0, u "Ljdk/internal/access/JavaLangAccess;"), (11, u "LOG2_ARRAY_BOOLEAN_INDEX_SCALE"), (9, u "LOG2_ARRAY_BYTE_INDEX_SCALE"), (5, u "LOG2_ARRAY_CHAR_INDEX_SCALE"), (5, u "LOG2_ARRAY_SHORT_INDEX_SCALE"), (18, u "LOG2_ARRAY_FLOAT_INDEX_SCALE"), (24, u "LOG2_ARRAY_DOUBLE_INDEX_SCALE"), (89, u "T_BOOLEAN"), (2, u "T_CHAR"), (1, u "T_FLOAT"), (1, u "T_DOUBLE"), (1, u "T_BYTE"), (1, u "T_SHORT"), (1, u "T_INT"), (1, u "T_LONG"), (1, u "SOFT_MAX_ARRAY_LENGTH")] 83

def k16m0 : Method := { name := "<init>", desc := "()V", sig := { parameters := [], returnType := none }, accessFlags := 2, code := none }
/-- jdk/internal/util/ArraysSupport -/
def k16 : Class := { plain "jdk/internal/util/ArraysSupport" (some 0) with
  accessFlags := 33
  interfaces := #[]
  cf := some (fileOf pool16 21 #[] #[{ accessFlags := 2, nameIndex := 9, descriptorIndex := 19, attributes := #[] }] 33 16 #[] #[{ accessFlags := 24, nameIndex := 28, descriptorIndex := 29, attributes := #[] }, { accessFlags := 26, nameIndex := 38, descriptorIndex := 39, attributes := #[] }, { accessFlags := 25, nameIndex := 121, descriptorIndex := 25, attributes := #[] }, { accessFlags := 25, nameIndex := 131, descriptorIndex := 25, attributes := #[] }, { accessFlags := 25, nameIndex := 137, descriptorIndex := 25, attributes := #[] }, { accessFlags := 25, nameIndex := 143, descriptorIndex := 25, attributes := #[] }, { accessFlags := 25, nameIndex := 53, descriptorIndex := 25, attributes := #[] }, { accessFlags := 25, nameIndex := 24, descriptorIndex := 25, attributes := #[] }, { accessFlags := 25, nameIndex := 162, descriptorIndex := 25, attributes := #[] }, { accessFlags := 25, nameIndex := 187, descriptorIndex := 25, attributes := #[] }, { accessFlags := 26, nameIndex := 48, descriptorIndex := 25, attributes := #[] }, { accessFlags := 25, nameIndex := 277, descriptorIndex := 25, attributes := #[] }, { accessFlags := 25, nameIndex := 280, descriptorIndex := 25, attributes := #[] }, { accessFlags := 25, nameIndex := 282, descriptorIndex := 25, attributes := #[] }, { accessFlags := 25, nameIndex := 284, descriptorIndex := 25, attributes := #[] }, { accessFlags := 25, nameIndex := 286, descriptorIndex := 25, attributes := #[] }, { accessFlags := 25, nameIndex := 288, descriptorIndex := 25, attributes := #[] }, { accessFlags := 25, nameIndex := 290, descriptorIndex := 25, attributes := #[] }, { accessFlags := 25, nameIndex := 292, descriptorIndex := 25, attributes := #[] }, { accessFlags := 26, nameIndex := 108, descriptorIndex := 109, attributes := #[] }, { accessFlags := 25, nameIndex := 294, descriptorIndex := 25, attributes := #[] }])
  fields := #[{ name := "U", type := (.object "jdk/internal/misc/Unsafe"), accessFlags := 24, slot := 0, constantValue := 0 }, { name := "BIG_ENDIAN", type := .boolean, accessFlags := 26, slot := 1, constantValue := 0 }, { name := "LOG2_ARRAY_BOOLEAN_INDEX_SCALE", type := .int, accessFlags := 25, slot := 2, constantValue := 0 }, { name := "LOG2_ARRAY_BYTE_INDEX_SCALE", type := .int, accessFlags := 25, slot := 3, constantValue := 0 }, { name := "LOG2_ARRAY_CHAR_INDEX_SCALE", type := .int, accessFlags := 25, slot := 4, constantValue := 0 }, { name := "LOG2_ARRAY_SHORT_INDEX_SCALE", type := .int, accessFlags := 25, slot := 5, constantValue := 0 }, { name := "LOG2_ARRAY_INT_INDEX_SCALE", type := .int, accessFlags := 25, slot := 6, constantValue := 0 }, { name := "LOG2_ARRAY_LONG_INDEX_SCALE", type := .int, accessFlags := 25, slot := 7, constantValue := 0 }, { name := "LOG2_ARRAY_FLOAT_INDEX_SCALE", type := .int, accessFlags := 25, slot := 8, constantValue := 0 }, { name := "LOG2_ARRAY_DOUBLE_INDEX_SCALE", type := .int, accessFlags := 25, slot := 9, constantValue := 0 }, { name := "LOG2_BYTE_BIT_SIZE", type := .int, accessFlags := 26, slot := 10, constantValue := 0 }, { name := "T_BOOLEAN", type := .int, accessFlags := 25, slot := 11, constantValue := 0 }, { name := "T_CHAR", type := .int, accessFlags := 25, slot := 12, constantValue := 0 }, { name := "T_FLOAT", type := .int, accessFlags := 25, slot := 13, constantValue := 0 }, { name := "T_DOUBLE", type := .int, accessFlags := 25, slot := 14, constantValue := 0 }, { name := "T_BYTE", type := .int, accessFlags := 25, slot := 15, constantValue := 0 }, { name := "T_SHORT", type := .int, accessFlags := 25, slot := 16, constantValue := 0 }, { name := "T_INT", type := .int, accessFlags := 25, slot := 17, constantValue := 0 }, { name := "T_LONG", type := .int, accessFlags := 25, slot := 18, constantValue := 0 }, { name := "JLA", type := (.object "jdk/internal/access/JavaLangAccess"), accessFlags := 26, slot := 19, constantValue := 0 }, { name := "SOFT_MAX_ARRAY_LENGTH", type := .int, accessFlags := 25, slot := 20, constantValue := 0 }]
  methods := #[k16m0]
  instanceTypes := #[]
  staticTypes := #[(.object "jdk/internal/misc/Unsafe"), .boolean, .int, .int, .int, .int, .int, .int, .int, .int, .int, .int, .int, .int, .int, .int, .int, .int, .int, (.object "jdk/internal/access/JavaLangAccess"), .int]
  resolved := Array.replicate 378 none
  statics := none }

/-- the primitive byte -/
def k17 : Class := { plain "byte" none with kind := .primitive 'B', accessFlags := 0x411 }
/-- [B -/
def k18 : Class := { plain "[B" (some 0) with kind := .array 17 .byte, interfaces := #[11, 2], accessFlags := 1041 }

/-- the primitive char -/
def k19 : Class := { plain "char" none with kind := .primitive 'C', accessFlags := 0x411 }
/-- [C -/
def k20 : Class := { plain "[C" (some 0) with kind := .array 19 .char, interfaces := #[11, 2], accessFlags := 1041 }

/-- the primitive int -/
def k21 : Class := { plain "int" none with kind := .primitive 'I', accessFlags := 0x411 }
/-- [I -/
def k22 : Class := { plain "[I" (some 0) with kind := .array 21 .int, interfaces := #[11, 2], accessFlags := 1041 }

/-- [Lcom/example/bowerbird/bowerbird/model/Datestamp$Granularity; -/
def k23 : Class := { plain "[Lcom/example/bowerbird/bowerbird/model/Datestamp$Granularity;" (some 0) with kind := .array 10 (.object "com/example/bowerbird/bowerbird/model/Datestamp$Granularity"), interfaces := #[11, 2], accessFlags := 1041 }

def heap : Heap := #[{ cls := 7, slots := #[.long 0, .int 1, .null, .int 0, .null, .int 0, .int 0], vm := .statics 7 },
  { cls := 10, slots := #[.ref 5, .ref 8, .ref 4], vm := .statics 10 },
  { cls := 13, slots := #[.ref 11], vm := .statics 13 },
  { cls := 15, slots := #[.null, .null, .null], vm := .statics 15 },
  { cls := 23, slots := #[.ref 5, .ref 8], vm := .none },
  { cls := 10, slots := #[.null, .int 0, .int 0, .ref 6, .null, .null], vm := .none },
  { cls := 7, slots := #[.ref 7, .int 0, .int 0, .int 0], vm := .none },
  { cls := 18, slots := #[.int 89, .int 89, .int 89, .int 89, .int 45, .int 77, .int 77, .int 45, .int 68, .int 68], vm := .none },
  { cls := 10, slots := #[.null, .int 0, .int 0, .ref 9, .null, .null], vm := .none },
  { cls := 7, slots := #[.ref 10, .int 0, .int 0, .int 0], vm := .none },
  { cls := 18, slots := #[.int 89, .int 89, .int 89, .int 89, .int 45, .int 77, .int 77, .int 45, .int 68, .int 68, .int 84, .int 104, .int 104, .int 58, .int 109, .int 109, .int 58, .int 115, .int 115, .int 90], vm := .none },
  { cls := 13, slots := #[.null], vm := .none }]
def classes : Array Class := #[k0, k1, k2, k3, k4, k5, k6, k7, k8, k9, k10, k11, k12, k13, k14, k15, k16, k17, k18, k19, k20, k21, k22, k23]
def interned : List (Array UInt16 × Addr) := []
def slotsUsed : Nat := 67
def theMethod : MethodId := ⟨1, 1⟩
def args0 : Array Value := #[.int 1, .int 3, .int 66]
def aboutOver (below : List Frame) : State where
  vm := { classes := classes, interned := interned.toArray }
  heap := heap
  slotsUsed := slotsUsed
  threads := #[{ frames := .invoking theMethod args0 :: below }]
def below0 : List Frame := [.native { method := ⟨0, 0⟩, args := #[] }]
def about1 : State := aboutOver below0
def p0 : Program := .bare "" "" ""
def e0 : Env := launch0.env 0 0 0
theorem w_frames : about1.frames = Frame.invoking theMethod args0 :: below0 := rfl
set_option maxRecDepth 65536 in
theorem w_args : argsFit about1.vm theMethod args0 = true := by decide +kernel
set_option maxRecDepth 65536 in
theorem w_heap : heapFits about1 = true := by decide +kernel
set_option maxRecDepth 65536 in
theorem w_runnable : about1.curStatus? = some .runnable := by decide +kernel
set_option maxRecDepth 65536 in
theorem w_alone : about1.alone = true := by decide +kernel
set_option maxRecDepth 65536 in
theorem w_named : about1.methodNamed? x = some theMethod := by decide +kernel
set_option maxRecDepth 65536 in
theorem w_hears : about1.hears theMethod below0 = true := by decide +kernel
set_option maxRecDepth 65536 in
theorem w_ripe : about1.ripe theMethod args0 below0 = true := by decide +kernel
theorem w_running : about1.status = .running := rfl
set_option maxRecDepth 65536 in
theorem w_room : about1.hasRoom e0.platform room_1 = true :=
  launch0.hasRoom_least _ room_1 (by decide +kernel) (by decide +kernel) (by decide +kernel) (by decide +kernel) (by decide +kernel) (by decide +kernel)
theorem allAtoms_all (ts : List Jvm.Cond) (a : Array Jvm.Value) (st : Jvm.State) : (allAtoms ts).before a st = ts.all (fun c => c.before a st) := by
  induction ts with
  | nil => rfl
  | cons c t ih =>
    show (Jvm.Cond.and c (allAtoms t)).before a st = _
    rw [Jvm.Cond.before_and, ih, List.all_cons]
def words1 : List Jvm.Cond := Jvm.Cond.code x code maxLocals ret :: tables_1
/-- a 'code' word, met by the world's own term for the bytes: nothing is compared byte by byte -/
theorem code_word {y : MethodName} {bytes : ByteArray} {mx : Nat} {rt : Option FieldType} {a : Array Value} {s : State} {m : MethodId} {meth : Method} {c : Code} (h1 : s.methodNamed? y = some m) (h2 : s.vm.method? m = some meth) (h3 : meth.code = some c) (h4 : c.code = bytes)
    (h5 : (c.maxLocals == mx && c.exceptionTable.isEmpty && decide (c.maxStack ≤ mostOperands) && decide (meth.sig.returnType = rt) && !meth.locks && decide (parseMethodDescriptor y.desc = some meth.sig)) = true) : (Jvm.Cond.code y bytes mx rt).before a s = true := by
  simp only [Bool.and_eq_true, beq_iff_eq, Bool.not_eq_true', decide_eq_true_eq] at h5
  obtain ⟨⟨⟨⟨⟨g1, g2⟩, g3⟩, g4⟩, g5⟩, g6⟩ := h5
  simp [Cond.before, Cond.holds, Cond.value, h1, h2, h3, h4, g1, g2, g3, g4, g5, g6]
def isCode : Jvm.Cond → Bool
  | .code _ _ _ _ => true
  | _ => false
theorem all_split {L : List Jvm.Cond} {P : Jvm.Cond → Bool} (h1 : L.all (fun c => isCode c || P c) = true) (h2 : ∀ c ∈ L.filter isCode, P c = true) : L.all P = true := by
  refine List.all_eq_true.mpr fun c hc => ?_
  have h := List.all_eq_true.mp h1 c hc
  rcases Bool.eq_false_or_eq_true (isCode c) with hi | hi
  · exact h2 c (List.mem_filter.mpr ⟨hc, hi⟩)
  · simpa [hi] using h
set_option maxRecDepth 65536 in
theorem w_c0 : (Jvm.Cond.code x code maxLocals ret).before args0 about1 = true := code_word (m := ⟨1, 1⟩) (meth := k1m1) (c := k1c1) (by decide +kernel) rfl rfl rfl (by decide +kernel)
set_option maxRecDepth 65536 in
theorem w_c1 : (Jvm.Cond.code ({ cls := "java/lang/String", name := "<init>", desc := "([C)V" } : Jvm.MethodName) jdk_42_method_3_code (2 : Nat) (Option.none : Option Jvm.ClassFile.FieldType)).before args0 about1 = true := code_word (m := ⟨7, 1⟩) (meth := k7m1) (c := k7c1) (by decide +kernel) rfl rfl rfl (by decide +kernel)
set_option maxRecDepth 65536 in
theorem w_c2 : (Jvm.Cond.code ({ cls := "java/lang/String", name := "<init>", desc := "([CIILjava/lang/Void;)V" } : Jvm.MethodName) jdk_42_method_149_code (6 : Nat) (Option.none : Option Jvm.ClassFile.FieldType)).before args0 about1 = true := code_word (m := ⟨7, 4⟩) (meth := k7m4) (c := k7c4) (by decide +kernel) rfl rfl rfl (by decide +kernel)
set_option maxRecDepth 65536 in
theorem w_c3 : (Jvm.Cond.code ({ cls := "java/lang/Object", name := "<init>", desc := "()V" } : Jvm.MethodName) object_method_1_code (1 : Nat) (Option.none : Option Jvm.ClassFile.FieldType)).before args0 about1 = true := code_word (m := ⟨0, 0⟩) (meth := k0m0) (c := k0c0) (by decide +kernel) rfl rfl rfl (by decide +kernel)
set_option maxRecDepth 65536 in
theorem w_c4 : (Jvm.Cond.code ({ cls := "java/lang/StringUTF16", name := "compress", desc := "([CII)[B" } : Jvm.MethodName) jdk_52_method_16_code (6 : Nat) (Option.some (Jvm.ClassFile.FieldType.array Jvm.ClassFile.FieldType.byte))).before args0 about1 = true := code_word (m := ⟨8, 2⟩) (meth := k8m2) (c := k8c2) (by decide +kernel) rfl rfl rfl (by decide +kernel)
set_option maxRecDepth 65536 in
theorem w_c5 : (Jvm.Cond.code ({ cls := "java/lang/StringUTF16", name := "compress", desc := "([CI[BII)I" } : Jvm.MethodName) jdk_52_method_21_code (7 : Nat) (Option.some Jvm.ClassFile.FieldType.int)).before args0 about1 = true := code_word (m := ⟨8, 3⟩) (meth := k8m3) (c := k8c3) (by decide +kernel) rfl rfl rfl (by decide +kernel)
set_option maxRecDepth 65536 in
theorem w_c6 : (Jvm.Cond.code ({ cls := "java/lang/StringUTF16", name := "coderFromArrayLen", desc := "([BI)B" } : Jvm.MethodName) jdk_52_method_15_code (2 : Nat) (Option.some Jvm.ClassFile.FieldType.byte)).before args0 about1 = true := code_word (m := ⟨8, 1⟩) (meth := k8m1) (c := k8c1) (by decide +kernel) rfl rfl rfl (by decide +kernel)
set_option maxRecDepth 65536 in
theorem w_c7 : (Jvm.Cond.code ({ cls := "com/example/bowerbird/bowerbird/model/Datestamp$Granularity", name := "named", desc := "(Ljava/lang/String;)Ljava/util/Optional;" } : Jvm.MethodName) prog_8_method_5_code (5 : Nat) (Option.some (Jvm.ClassFile.FieldType.object "java/util/Optional"))).before args0 about1 = true := code_word (m := ⟨10, 1⟩) (meth := k10m1) (c := k10c1) (by decide +kernel) rfl rfl rfl (by decide +kernel)
set_option maxRecDepth 65536 in
theorem w_c8 : (Jvm.Cond.code ({ cls := "com/example/bowerbird/bowerbird/model/Datestamp$Granularity", name := "values", desc := "()[Lcom/example/bowerbird/bowerbird/model/Datestamp$Granularity;" } : Jvm.MethodName) prog_8_method_1_code (0 : Nat) (Option.some (Jvm.ClassFile.FieldType.array (Jvm.ClassFile.FieldType.object "com/example/bowerbird/bowerbird/model/Datestamp$Granularity")))).before args0 about1 = true := code_word (m := ⟨10, 0⟩) (meth := k10m0) (c := k10c0) (by decide +kernel) rfl rfl rfl (by decide +kernel)
set_option maxRecDepth 65536 in
theorem w_c9 : (Jvm.Cond.code ({ cls := "java/lang/String", name := "equals", desc := "(Ljava/lang/Object;)Z" } : Jvm.MethodName) jdk_42_method_66_code (3 : Nat) (Option.some Jvm.ClassFile.FieldType.boolean)).before args0 about1 = true := code_word (m := ⟨7, 2⟩) (meth := k7m2) (c := k7c2) (by decide +kernel) rfl rfl rfl (by decide +kernel)
set_option maxRecDepth 65536 in
theorem w_c10 : (Jvm.Cond.code ({ cls := "java/lang/StringLatin1", name := "equals", desc := "([B[B)Z" } : Jvm.MethodName) jdk_43_method_13_code (3 : Nat) (Option.some Jvm.ClassFile.FieldType.boolean)).before args0 about1 = true := code_word (m := ⟨12, 2⟩) (meth := k12m2) (c := k12c2) (by decide +kernel) rfl rfl rfl (by decide +kernel)
set_option maxRecDepth 65536 in
theorem w_c11 : (Jvm.Cond.code ({ cls := "java/util/Optional", name := "of", desc := "(Ljava/lang/Object;)Ljava/util/Optional;" } : Jvm.MethodName) jdk_32_method_3_code (1 : Nat) (Option.some (Jvm.ClassFile.FieldType.object "java/util/Optional"))).before args0 about1 = true := code_word (m := ⟨13, 2⟩) (meth := k13m2) (c := k13c2) (by decide +kernel) rfl rfl rfl (by decide +kernel)
set_option maxRecDepth 65536 in
theorem w_c12 : (Jvm.Cond.code ({ cls := "java/util/Objects", name := "requireNonNull", desc := "(Ljava/lang/Object;)Ljava/lang/Object;" } : Jvm.MethodName) jdk_31_method_10_code (1 : Nat) (Option.some (Jvm.ClassFile.FieldType.object "java/lang/Object"))).before args0 about1 = true := code_word (m := ⟨14, 1⟩) (meth := k14m1) (c := k14c1) (by decide +kernel) rfl rfl rfl (by decide +kernel)
set_option maxRecDepth 65536 in
theorem w_c13 : (Jvm.Cond.code ({ cls := "java/util/Optional", name := "<init>", desc := "(Ljava/lang/Object;)V" } : Jvm.MethodName) jdk_32_method_2_code (2 : Nat) (Option.none : Option Jvm.ClassFile.FieldType)).before args0 about1 = true := code_word (m := ⟨13, 1⟩) (meth := k13m1) (c := k13c1) (by decide +kernel) rfl rfl rfl (by decide +kernel)
set_option maxRecDepth 65536 in
theorem w_c14 : (Jvm.Cond.code ({ cls := "java/util/Optional", name := "isPresent", desc := "()Z" } : Jvm.MethodName) jdk_32_method_6_code (1 : Nat) (Option.some Jvm.ClassFile.FieldType.boolean)).before args0 about1 = true := code_word (m := ⟨13, 4⟩) (meth := k13m4) (c := k13c4) (by decide +kernel) rfl rfl rfl (by decide +kernel)
set_option maxRecDepth 65536 in
theorem w_c15 : (Jvm.Cond.code ({ cls := "java/util/Optional", name := "get", desc := "()Ljava/lang/Object;" } : Jvm.MethodName) jdk_32_method_5_code (1 : Nat) (Option.some (Jvm.ClassFile.FieldType.object "java/lang/Object"))).before args0 about1 = true := code_word (m := ⟨13, 3⟩) (meth := k13m3) (c := k13c3) (by decide +kernel) rfl rfl rfl (by decide +kernel)
set_option maxRecDepth 65536 in
theorem w_c16 : (Jvm.Cond.code ({ cls := "java/lang/String", name := "valueOf", desc := "(C)Ljava/lang/String;" } : Jvm.MethodName) jdk_42_method_139_code (1 : Nat) (Option.some (Jvm.ClassFile.FieldType.object "java/lang/String"))).before args0 about1 = true := code_word (m := ⟨7, 3⟩) (meth := k7m3) (c := k7c3) (by decide +kernel) rfl rfl rfl (by decide +kernel)
set_option maxRecDepth 65536 in
theorem w_c17 : (Jvm.Cond.code ({ cls := "java/lang/StringLatin1", name := "canEncode", desc := "(C)Z" } : Jvm.MethodName) jdk_43_method_3_code (1 : Nat) (Option.some Jvm.ClassFile.FieldType.boolean)).before args0 about1 = true := code_word (m := ⟨12, 1⟩) (meth := k12m1) (c := k12c1) (by decide +kernel) rfl rfl rfl (by decide +kernel)
set_option maxRecDepth 65536 in
theorem w_c18 : (Jvm.Cond.code ({ cls := "java/lang/StringLatin1", name := "toBytes", desc := "(C)[B" } : Jvm.MethodName) jdk_43_method_46_code (1 : Nat) (Option.some (Jvm.ClassFile.FieldType.array Jvm.ClassFile.FieldType.byte))).before args0 about1 = true := code_word (m := ⟨12, 3⟩) (meth := k12m3) (c := k12c3) (by decide +kernel) rfl rfl rfl (by decide +kernel)
set_option maxRecDepth 65536 in
theorem w_c19 : (Jvm.Cond.code ({ cls := "java/lang/String", name := "<init>", desc := "([BB)V" } : Jvm.MethodName) jdk_42_method_151_code (3 : Nat) (Option.none : Option Jvm.ClassFile.FieldType)).before args0 about1 = true := code_word (m := ⟨7, 5⟩) (meth := k7m5) (c := k7c5) (by decide +kernel) rfl rfl rfl (by decide +kernel)
set_option maxRecDepth 65536 in
theorem w_c20 : (Jvm.Cond.code ({ cls := "java/util/Optional", name := "empty", desc := "()Ljava/util/Optional;" } : Jvm.MethodName) jdk_32_method_1_code (1 : Nat) (Option.some (Jvm.ClassFile.FieldType.object "java/util/Optional"))).before args0 about1 = true := code_word (m := ⟨13, 0⟩) (meth := k13m0) (c := k13c0) (by decide +kernel) rfl rfl rfl (by decide +kernel)
def codes1 : List Jvm.Cond := [Jvm.Cond.code x code maxLocals ret, Jvm.Cond.code ({ cls := "java/lang/String", name := "<init>", desc := "([C)V" } : Jvm.MethodName) jdk_42_method_3_code (2 : Nat) (Option.none : Option Jvm.ClassFile.FieldType), Jvm.Cond.code ({ cls := "java/lang/String", name := "<init>", desc := "([CIILjava/lang/Void;)V" } : Jvm.MethodName) jdk_42_method_149_code (6 : Nat) (Option.none : Option Jvm.ClassFile.FieldType), Jvm.Cond.code ({ cls := "java/lang/Object", name := "<init>", desc := "()V" } : Jvm.MethodName) object_method_1_code (1 : Nat) (Option.none : Option Jvm.ClassFile.FieldType), Jvm.Cond.code ({ cls := "java/lang/StringUTF16", name := "compress", desc := "([CII)[B" } : Jvm.MethodName) jdk_52_method_16_code (6 : Nat) (Option.some (Jvm.ClassFile.FieldType.array Jvm.ClassFile.FieldType.byte)), Jvm.Cond.code ({ cls := "java/lang/StringUTF16", name := "compress", desc := "([CI[BII)I" } : Jvm.MethodName) jdk_52_method_21_code (7 : Nat) (Option.some Jvm.ClassFile.FieldType.int), Jvm.Cond.code ({ cls := "java/lang/StringUTF16", name := "coderFromArrayLen", desc := "([BI)B" } : Jvm.MethodName) jdk_52_method_15_code (2 : Nat) (Option.some Jvm.ClassFile.FieldType.byte), Jvm.Cond.code ({ cls := "com/example/bowerbird/bowerbird/model/Datestamp$Granularity", name := "named", desc := "(Ljava/lang/String;)Ljava/util/Optional;" } : Jvm.MethodName) prog_8_method_5_code (5 : Nat) (Option.some (Jvm.ClassFile.FieldType.object "java/util/Optional")), Jvm.Cond.code ({ cls := "com/example/bowerbird/bowerbird/model/Datestamp$Granularity", name := "values", desc := "()[Lcom/example/bowerbird/bowerbird/model/Datestamp$Granularity;" } : Jvm.MethodName) prog_8_method_1_code (0 : Nat) (Option.some (Jvm.ClassFile.FieldType.array (Jvm.ClassFile.FieldType.object "com/example/bowerbird/bowerbird/model/Datestamp$Granularity"))), Jvm.Cond.code ({ cls := "java/lang/String", name := "equals", desc := "(Ljava/lang/Object;)Z" } : Jvm.MethodName) jdk_42_method_66_code (3 : Nat) (Option.some Jvm.ClassFile.FieldType.boolean), Jvm.Cond.code ({ cls := "java/lang/StringLatin1", name := "equals", desc := "([B[B)Z" } : Jvm.MethodName) jdk_43_method_13_code (3 : Nat) (Option.some Jvm.ClassFile.FieldType.boolean), Jvm.Cond.code ({ cls := "java/util/Optional", name := "of", desc := "(Ljava/lang/Object;)Ljava/util/Optional;" } : Jvm.MethodName) jdk_32_method_3_code (1 : Nat) (Option.some (Jvm.ClassFile.FieldType.object "java/util/Optional")), Jvm.Cond.code ({ cls := "java/util/Objects", name := "requireNonNull", desc := "(Ljava/lang/Object;)Ljava/lang/Object;" } : Jvm.MethodName) jdk_31_method_10_code (1 : Nat) (Option.some (Jvm.ClassFile.FieldType.object "java/lang/Object")), Jvm.Cond.code ({ cls := "java/util/Optional", name := "<init>", desc := "(Ljava/lang/Object;)V" } : Jvm.MethodName) jdk_32_method_2_code (2 : Nat) (Option.none : Option Jvm.ClassFile.FieldType), Jvm.Cond.code ({ cls := "java/util/Optional", name := "isPresent", desc := "()Z" } : Jvm.MethodName) jdk_32_method_6_code (1 : Nat) (Option.some Jvm.ClassFile.FieldType.boolean), Jvm.Cond.code ({ cls := "java/util/Optional", name := "get", desc := "()Ljava/lang/Object;" } : Jvm.MethodName) jdk_32_method_5_code (1 : Nat) (Option.some (Jvm.ClassFile.FieldType.object "java/lang/Object")), Jvm.Cond.code ({ cls := "java/lang/String", name := "valueOf", desc := "(C)Ljava/lang/String;" } : Jvm.MethodName) jdk_42_method_139_code (1 : Nat) (Option.some (Jvm.ClassFile.FieldType.object "java/lang/String")), Jvm.Cond.code ({ cls := "java/lang/StringLatin1", name := "canEncode", desc := "(C)Z" } : Jvm.MethodName) jdk_43_method_3_code (1 : Nat) (Option.some Jvm.ClassFile.FieldType.boolean), Jvm.Cond.code ({ cls := "java/lang/StringLatin1", name := "toBytes", desc := "(C)[B" } : Jvm.MethodName) jdk_43_method_46_code (1 : Nat) (Option.some (Jvm.ClassFile.FieldType.array Jvm.ClassFile.FieldType.byte)), Jvm.Cond.code ({ cls := "java/lang/String", name := "<init>", desc := "([BB)V" } : Jvm.MethodName) jdk_42_method_151_code (3 : Nat) (Option.none : Option Jvm.ClassFile.FieldType), Jvm.Cond.code ({ cls := "java/util/Optional", name := "empty", desc := "()Ljava/util/Optional;" } : Jvm.MethodName) jdk_32_method_1_code (1 : Nat) (Option.some (Jvm.ClassFile.FieldType.object "java/util/Optional"))]
set_option maxRecDepth 65536 in
theorem codes_eq : words1.filter isCode = codes1 := rfl
theorem w_codes : ∀ c ∈ words1.filter isCode, c.before args0 about1 = true := by
  rw [codes_eq]
  intro c hc
  simp only [codes1, List.mem_cons, List.not_mem_nil, or_false] at hc
  rcases hc with rfl | rfl | rfl | rfl | rfl | rfl | rfl | rfl | rfl | rfl | rfl | rfl | rfl | rfl | rfl | rfl | rfl | rfl | rfl | rfl | rfl
  · exact w_c0
  · exact w_c1
  · exact w_c2
  · exact w_c3
  · exact w_c4
  · exact w_c5
  · exact w_c6
  · exact w_c7
  · exact w_c8
  · exact w_c9
  · exact w_c10
  · exact w_c11
  · exact w_c12
  · exact w_c13
  · exact w_c14
  · exact w_c15
  · exact w_c16
  · exact w_c17
  · exact w_c18
  · exact w_c19
  · exact w_c20
set_option maxRecDepth 65536 in
theorem w_t1 : (words1.take 24).all (fun c => isCode c || c.before args0 about1) = true := by decide +kernel
set_option maxRecDepth 65536 in
theorem w_t2 : ((words1.drop 24).take 24).all (fun c => isCode c || c.before args0 about1) = true := by decide +kernel
set_option maxRecDepth 65536 in
theorem w_t3 : (((words1.drop 24).drop 24).take 24).all (fun c => isCode c || c.before args0 about1) = true := by decide +kernel
set_option maxRecDepth 65536 in
theorem w_t4 : ((((words1.drop 24).drop 24).drop 24).take 24).all (fun c => isCode c || c.before args0 about1) = true := by decide +kernel
set_option maxRecDepth 65536 in
theorem w_t5 : ((((words1.drop 24).drop 24).drop 24).drop 24).all (fun c => isCode c || c.before args0 about1) = true := by decide +kernel
theorem w_tables : (allAtoms (Jvm.Cond.code x code maxLocals ret :: tables_1)).before args0 about1 = true := by
  rw [allAtoms_all]
  show words1.all (fun c => c.before args0 about1) = true
  refine all_split ?_ w_codes
  rw [← List.take_append_drop 24 words1, List.all_append, w_t1, ← List.take_append_drop 24 (words1.drop 24), List.all_append, w_t2, ← List.take_append_drop 24 ((words1.drop 24).drop 24), List.all_append, w_t3, ← List.take_append_drop 24 (((words1.drop 24).drop 24).drop 24), List.all_append, w_t4, w_t5]
  rfl
set_option maxRecDepth 65536 in
theorem w_rest : rest_1_c.before args0 about1 = true := by decide +kernel
set_option maxRecDepth 65536 in
theorem w_case : (Jvm.Cond.and given_1 narrow_1).before args0 about1 = true := by decide +kernel
set_option maxRecDepth 65536 in
theorem w_consts : constsHeld consts_1 about1 := Jvm.Lit.constsHeldB_iff.mp (by decide +kernel)
theorem w_applies : (headSpec (Jvm.Cond.code x code maxLocals ret :: tables_1) room_1).applies x e0.platform about1 = true :=
  (Spec.applies_iff w_frames).mpr ⟨w_running, w_runnable, w_alone, w_named, w_hears, w_ripe, w_room, w_tables⟩
theorem atStart : AtStart classFile x code maxLocals ret World_1 tables_1 room_1 Calls_1 rest_1 Pre_1 launch0 p0 e0 about1 theMethod args0 below0 :=
  ⟨lists_1, trivial, launch0.admits_env _ _ _, launch0.least_env, fairChoices_fair.cas, fairChoices_fair.clock, w_frames, w_args, w_heap, w_applies, ⟨w_consts, trivial⟩, w_rest, w_case⟩
end start1
theorem witness_1 : WitnessClaimed_1 := ⟨start1.p0, start1.e0, start1.about1, start1.theMethod, start1.args0, start1.below0, start1.atStart⟩
end Jvm.Pilot.@@N@@
