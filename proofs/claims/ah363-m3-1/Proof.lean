import JvmDerived
import JvmDerived.Pilot.@@N@@Statement
import JvmDerived.Pilot.@@N@@Code
set_option linter.unusedVariables false
set_option linter.unusedSimpArgs false
namespace Jvm.Own
open Jvm Sem ClassFile Op Lib Jvm.Stand Jvm.Free Jvm.LawKit Jvm.RoadKit
/-- the run from S ends well: it returns with P -/
def Go (p : Program) (e : Env) (below : List Frame) (P : Outcome → State → Prop) (S : State) : Prop := ∃ s₂ o, Steps p.tables e below S s₂ ∧ s₂.status = .running ∧ Ended s₂ below o ∧ P o s₂
section Steps
variable {p : Program} {l : Launch} {e : Env} {R : Room} {s : State} {m : MethodId} {args : Array Value} {below : List Frame} {meth : Method} {c : Code} {T : State} {locs : List Loc} {cells slots : Nat} {P : Outcome → State → Prop} {pc : Nat} {Ls : Array Slot} {st : List Value}
theorem Go.mv {S S' : State} (k : ∀ target, Steps p.tables e below S' target → Steps p.tables e below S target) (g : Go p e below P S') : Go p e below P S := by
  obtain ⟨s2, o, h1, h2⟩ := g
  exact ⟨s2, o, k _ h1, h2⟩
theorem Go.tr {S S' : State} (k : Steps p.tables e below S S') (g : Go p e below P S') : Go p e below P S := Go.mv (fun _ h => k.trans h) g
theorem Go.eq {S : State} {g g' : JFrame} (q : g = g') (k : Go p e below P (S.setTop g')) : Go p e below P (S.setTop g) := q ▸ k
theorem g_iload (X : Stand p l e R s m args below meth c T locs cells slots) (hx : p.tables.exec = Jvm.exec) {k : Nat} {v : Int32} (hd : decode c.code pc = .ok (.iload k, 2)) (hl : Ls[k]? = some (.val (.int v))) (pc' : Nat) (hp : pc + 2 = pc') (K : Go p e below P (T.setTop (mkF m pc' Ls (.int v :: st)))) : Go p e below P (T.setTop (mkF m pc Ls st)) := by
  subst hp; exact Go.mv (fun _ h => XS.iload X.here hx rfl hd hl h) K
theorem g_iloadN (X : Stand p l e R s m args below meth c T locs cells slots) (hx : p.tables.exec = Jvm.exec) {k : Fin 4} {v : Int32} (hd : decode c.code pc = .ok (.iload_n k, 1)) (hl : Ls[k.val]? = some (.val (.int v))) (pc' : Nat) (hp : pc + 1 = pc') (K : Go p e below P (T.setTop (mkF m pc' Ls (.int v :: st)))) : Go p e below P (T.setTop (mkF m pc Ls st)) := by
  subst hp; exact Go.mv (fun _ h => XS.iloadN X.here hx rfl hd hl h) K
theorem g_istore (X : Stand p l e R s m args below meth c T locs cells slots) (hx : p.tables.exec = Jvm.exec) {k : Nat} {v : Int32} (l' : Array Slot) (hd : decode c.code pc = .ok (.istore k, 2)) (hl : storeLocals Ls k (.int v) = some l') (pc' : Nat) (hp : pc + 2 = pc') (K : Go p e below P (T.setTop (mkF m pc' l' st))) : Go p e below P (T.setTop (mkF m pc Ls (.int v :: st))) := by
  subst hp; exact Go.mv (fun _ h => XS.istore X.here hx rfl hd rfl hl h) K
theorem g_istoreN (X : Stand p l e R s m args below meth c T locs cells slots) (hx : p.tables.exec = Jvm.exec) {k : Fin 4} {v : Int32} (l' : Array Slot) (hd : decode c.code pc = .ok (.istore_n k, 1)) (hl : storeLocals Ls k.val (.int v) = some l') (pc' : Nat) (hp : pc + 1 = pc') (K : Go p e below P (T.setTop (mkF m pc' l' st))) : Go p e below P (T.setTop (mkF m pc Ls (.int v :: st))) := by
  subst hp; exact Go.mv (fun _ h => XS.istoreN X.here hx rfl hd rfl hl h) K
theorem g_lload (X : Stand p l e R s m args below meth c T locs cells slots) (hx : p.tables.exec = Jvm.exec) {k : Nat} {v : Int64} (hd : decode c.code pc = .ok (.lload k, 2)) (hl : Ls[k]? = some (.val (.long v))) (pc' : Nat) (hp : pc + 2 = pc') (K : Go p e below P (T.setTop (mkF m pc' Ls (.long v :: st)))) : Go p e below P (T.setTop (mkF m pc Ls st)) := by
  subst hp; exact Go.mv (fun _ h => XS.lload X.here hx rfl hd hl h) K
theorem g_lloadN (X : Stand p l e R s m args below meth c T locs cells slots) (hx : p.tables.exec = Jvm.exec) {k : Fin 4} {v : Int64} (hd : decode c.code pc = .ok (.lload_n k, 1)) (hl : Ls[k.val]? = some (.val (.long v))) (pc' : Nat) (hp : pc + 1 = pc') (K : Go p e below P (T.setTop (mkF m pc' Ls (.long v :: st)))) : Go p e below P (T.setTop (mkF m pc Ls st)) := by
  subst hp; exact Go.mv (fun _ h => XS.lloadN X.here hx rfl hd hl h) K
theorem g_lstore (X : Stand p l e R s m args below meth c T locs cells slots) (hx : p.tables.exec = Jvm.exec) {k : Nat} {v : Int64} (l' : Array Slot) (hd : decode c.code pc = .ok (.lstore k, 2)) (hl : storeLocals Ls k (.long v) = some l') (pc' : Nat) (hp : pc + 2 = pc') (K : Go p e below P (T.setTop (mkF m pc' l' st))) : Go p e below P (T.setTop (mkF m pc Ls (.long v :: st))) := by
  subst hp; exact Go.mv (fun _ h => XS.lstore X.here hx rfl hd rfl hl h) K
theorem g_lstoreN (X : Stand p l e R s m args below meth c T locs cells slots) (hx : p.tables.exec = Jvm.exec) {k : Fin 4} {v : Int64} (l' : Array Slot) (hd : decode c.code pc = .ok (.lstore_n k, 1)) (hl : storeLocals Ls k.val (.long v) = some l') (pc' : Nat) (hp : pc + 1 = pc') (K : Go p e below P (T.setTop (mkF m pc' l' st))) : Go p e below P (T.setTop (mkF m pc Ls (.long v :: st))) := by
  subst hp; exact Go.mv (fun _ h => XS.lstoreN X.here hx rfl hd rfl hl h) K
theorem g_aload (X : Stand p l e R s m args below meth c T locs cells slots) (hx : p.tables.exec = Jvm.exec) {k : Nat} {v : Value} (hd : decode c.code pc = .ok (.aload k, 2)) (hl : Ls[k]? = some (.val v)) (hv : v.isRef = true) (pc' : Nat) (hp : pc + 2 = pc') (K : Go p e below P (T.setTop (mkF m pc' Ls (v :: st)))) : Go p e below P (T.setTop (mkF m pc Ls st)) := by
  subst hp; exact Go.mv (fun _ h => XS.aload X.here hx rfl hd hl hv h) K
theorem g_aloadN (X : Stand p l e R s m args below meth c T locs cells slots) (hx : p.tables.exec = Jvm.exec) {k : Fin 4} {v : Value} (hd : decode c.code pc = .ok (.aload_n k, 1)) (hl : Ls[k.val]? = some (.val v)) (hv : v.isRef = true) (pc' : Nat) (hp : pc + 1 = pc') (K : Go p e below P (T.setTop (mkF m pc' Ls (v :: st)))) : Go p e below P (T.setTop (mkF m pc Ls st)) := by
  subst hp; exact Go.mv (fun _ h => XS.aloadN X.here hx rfl hd hl hv h) K
theorem g_astore (X : Stand p l e R s m args below meth c T locs cells slots) (hx : p.tables.exec = Jvm.exec) {k : Nat} {v : Value} (l' : Array Slot) (hd : decode c.code pc = .ok (.astore k, 2)) (hv : v.isRef = true) (hl : storeLocals Ls k v = some l') (pc' : Nat) (hp : pc + 2 = pc') (K : Go p e below P (T.setTop (mkF m pc' l' st))) : Go p e below P (T.setTop (mkF m pc Ls (v :: st))) := by
  subst hp; exact Go.mv (fun _ h => XS.astore X.here hx rfl hd rfl hv hl h) K
theorem g_astoreN (X : Stand p l e R s m args below meth c T locs cells slots) (hx : p.tables.exec = Jvm.exec) {k : Fin 4} {v : Value} (l' : Array Slot) (hd : decode c.code pc = .ok (.astore_n k, 1)) (hv : v.isRef = true) (hl : storeLocals Ls k.val v = some l') (pc' : Nat) (hp : pc + 1 = pc') (K : Go p e below P (T.setTop (mkF m pc' l' st))) : Go p e below P (T.setTop (mkF m pc Ls (v :: st))) := by
  subst hp; exact Go.mv (fun _ h => XS.astoreN X.here hx rfl hd rfl hv hl h) K
theorem g_iconst (X : Stand p l e R s m args below meth c T locs cells slots) (hx : p.tables.exec = Jvm.exec) {i : Int} (v : Int32) (hd : decode c.code pc = .ok (.iconst i, 1)) (hv : Int32.ofInt i = v) (pc' : Nat) (hp : pc + 1 = pc') (K : Go p e below P (T.setTop (mkF m pc' Ls (.int v :: st)))) : Go p e below P (T.setTop (mkF m pc Ls st)) := by
  subst hp hv; exact Go.mv (fun _ h => XS.iconst X.here hx rfl hd h) K
theorem g_bipush (X : Stand p l e R s m args below meth c T locs cells slots) (hx : p.tables.exec = Jvm.exec) {i : Int} (v : Int32) (hd : decode c.code pc = .ok (.bipush i, 2)) (hv : (Int8.ofInt i).toInt32 = v) (pc' : Nat) (hp : pc + 2 = pc') (K : Go p e below P (T.setTop (mkF m pc' Ls (.int v :: st)))) : Go p e below P (T.setTop (mkF m pc Ls st)) := by
  subst hp hv; exact Go.mv (fun _ h => XS.bipush X.here hx rfl hd h) K
theorem g_sipush (X : Stand p l e R s m args below meth c T locs cells slots) (hx : p.tables.exec = Jvm.exec) {i : Int} (v : Int32) (hd : decode c.code pc = .ok (.sipush i, 3)) (hv : (Int16.ofInt i).toInt32 = v) (pc' : Nat) (hp : pc + 3 = pc') (K : Go p e below P (T.setTop (mkF m pc' Ls (.int v :: st)))) : Go p e below P (T.setTop (mkF m pc Ls st)) := by
  subst hp hv; exact Go.mv (fun _ h => XS.sipush X.here hx rfl hd h) K
theorem g_lconst (X : Stand p l e R s m args below meth c T locs cells slots) (hx : p.tables.exec = Jvm.exec) {k : Fin 2} (v : Int64) (hd : decode c.code pc = .ok (.lconst k, 1)) (hv : Int64.ofNat k = v) (pc' : Nat) (hp : pc + 1 = pc') (K : Go p e below P (T.setTop (mkF m pc' Ls (.long v :: st)))) : Go p e below P (T.setTop (mkF m pc Ls st)) := by
  subst hp hv; exact Go.mv (fun _ h => XS.lconst X.here hx rfl hd h) K
theorem g_aconstNull (X : Stand p l e R s m args below meth c T locs cells slots) (hx : p.tables.exec = Jvm.exec)  (hd : decode c.code pc = .ok (.aconst_null, 1))  (pc' : Nat) (hp : pc + 1 = pc') (K : Go p e below P (T.setTop (mkF m pc' Ls (.null :: st)))) : Go p e below P (T.setTop (mkF m pc Ls st)) := by
  subst hp; exact Go.mv (fun _ h => XS.aconstNull X.here hx rfl hd  h) K
theorem g_iadd (X : Stand p l e R s m args below meth c T locs cells slots) (hx : p.tables.exec = Jvm.exec) {x y : Int32} (hd : decode c.code pc = .ok (.iadd, 1))  (pc' : Nat) (hp : pc + 1 = pc') (K : Go p e below P (T.setTop (mkF m pc' Ls (.int (x + y) :: st)))) : Go p e below P (T.setTop (mkF m pc Ls (.int y :: .int x :: st))) := by
  subst hp; exact Go.mv (fun _ h => XS.iadd X.here hx rfl hd rfl h) K
theorem g_ladd (X : Stand p l e R s m args below meth c T locs cells slots) (hx : p.tables.exec = Jvm.exec) {x y : Int64} (hd : decode c.code pc = .ok (.ladd, 1))  (pc' : Nat) (hp : pc + 1 = pc') (K : Go p e below P (T.setTop (mkF m pc' Ls (.long (x + y) :: st)))) : Go p e below P (T.setTop (mkF m pc Ls (.long y :: .long x :: st))) := by
  subst hp; exact Go.mv (fun _ h => XS.ladd X.here hx rfl hd rfl h) K
theorem g_isub (X : Stand p l e R s m args below meth c T locs cells slots) (hx : p.tables.exec = Jvm.exec) {x y : Int32} (hd : decode c.code pc = .ok (.isub, 1))  (pc' : Nat) (hp : pc + 1 = pc') (K : Go p e below P (T.setTop (mkF m pc' Ls (.int (x - y) :: st)))) : Go p e below P (T.setTop (mkF m pc Ls (.int y :: .int x :: st))) := by
  subst hp; exact Go.mv (fun _ h => XS.isub X.here hx rfl hd rfl h) K
theorem g_lsub (X : Stand p l e R s m args below meth c T locs cells slots) (hx : p.tables.exec = Jvm.exec) {x y : Int64} (hd : decode c.code pc = .ok (.lsub, 1))  (pc' : Nat) (hp : pc + 1 = pc') (K : Go p e below P (T.setTop (mkF m pc' Ls (.long (x - y) :: st)))) : Go p e below P (T.setTop (mkF m pc Ls (.long y :: .long x :: st))) := by
  subst hp; exact Go.mv (fun _ h => XS.lsub X.here hx rfl hd rfl h) K
theorem g_imul (X : Stand p l e R s m args below meth c T locs cells slots) (hx : p.tables.exec = Jvm.exec) {x y : Int32} (hd : decode c.code pc = .ok (.imul, 1))  (pc' : Nat) (hp : pc + 1 = pc') (K : Go p e below P (T.setTop (mkF m pc' Ls (.int (x * y) :: st)))) : Go p e below P (T.setTop (mkF m pc Ls (.int y :: .int x :: st))) := by
  subst hp; exact Go.mv (fun _ h => XS.imul X.here hx rfl hd rfl h) K
theorem g_lmul (X : Stand p l e R s m args below meth c T locs cells slots) (hx : p.tables.exec = Jvm.exec) {x y : Int64} (hd : decode c.code pc = .ok (.lmul, 1))  (pc' : Nat) (hp : pc + 1 = pc') (K : Go p e below P (T.setTop (mkF m pc' Ls (.long (x * y) :: st)))) : Go p e below P (T.setTop (mkF m pc Ls (.long y :: .long x :: st))) := by
  subst hp; exact Go.mv (fun _ h => XS.lmul X.here hx rfl hd rfl h) K
theorem g_iand (X : Stand p l e R s m args below meth c T locs cells slots) (hx : p.tables.exec = Jvm.exec) {x y : Int32} (hd : decode c.code pc = .ok (.iand, 1))  (pc' : Nat) (hp : pc + 1 = pc') (K : Go p e below P (T.setTop (mkF m pc' Ls (.int (x &&& y) :: st)))) : Go p e below P (T.setTop (mkF m pc Ls (.int y :: .int x :: st))) := by
  subst hp; exact Go.mv (fun _ h => XS.iand X.here hx rfl hd rfl h) K
theorem g_land (X : Stand p l e R s m args below meth c T locs cells slots) (hx : p.tables.exec = Jvm.exec) {x y : Int64} (hd : decode c.code pc = .ok (.land, 1))  (pc' : Nat) (hp : pc + 1 = pc') (K : Go p e below P (T.setTop (mkF m pc' Ls (.long (x &&& y) :: st)))) : Go p e below P (T.setTop (mkF m pc Ls (.long y :: .long x :: st))) := by
  subst hp; exact Go.mv (fun _ h => XS.land X.here hx rfl hd rfl h) K
theorem g_ior (X : Stand p l e R s m args below meth c T locs cells slots) (hx : p.tables.exec = Jvm.exec) {x y : Int32} (hd : decode c.code pc = .ok (.ior, 1))  (pc' : Nat) (hp : pc + 1 = pc') (K : Go p e below P (T.setTop (mkF m pc' Ls (.int (x ||| y) :: st)))) : Go p e below P (T.setTop (mkF m pc Ls (.int y :: .int x :: st))) := by
  subst hp; exact Go.mv (fun _ h => XS.ior X.here hx rfl hd rfl h) K
theorem g_lor (X : Stand p l e R s m args below meth c T locs cells slots) (hx : p.tables.exec = Jvm.exec) {x y : Int64} (hd : decode c.code pc = .ok (.lor, 1))  (pc' : Nat) (hp : pc + 1 = pc') (K : Go p e below P (T.setTop (mkF m pc' Ls (.long (x ||| y) :: st)))) : Go p e below P (T.setTop (mkF m pc Ls (.long y :: .long x :: st))) := by
  subst hp; exact Go.mv (fun _ h => XS.lor X.here hx rfl hd rfl h) K
theorem g_ixor (X : Stand p l e R s m args below meth c T locs cells slots) (hx : p.tables.exec = Jvm.exec) {x y : Int32} (hd : decode c.code pc = .ok (.ixor, 1))  (pc' : Nat) (hp : pc + 1 = pc') (K : Go p e below P (T.setTop (mkF m pc' Ls (.int (x ^^^ y) :: st)))) : Go p e below P (T.setTop (mkF m pc Ls (.int y :: .int x :: st))) := by
  subst hp; exact Go.mv (fun _ h => XS.ixor X.here hx rfl hd rfl h) K
theorem g_lxor (X : Stand p l e R s m args below meth c T locs cells slots) (hx : p.tables.exec = Jvm.exec) {x y : Int64} (hd : decode c.code pc = .ok (.lxor, 1))  (pc' : Nat) (hp : pc + 1 = pc') (K : Go p e below P (T.setTop (mkF m pc' Ls (.long (x ^^^ y) :: st)))) : Go p e below P (T.setTop (mkF m pc Ls (.long y :: .long x :: st))) := by
  subst hp; exact Go.mv (fun _ h => XS.lxor X.here hx rfl hd rfl h) K
theorem g_ishl (X : Stand p l e R s m args below meth c T locs cells slots) (hx : p.tables.exec = Jvm.exec) {x y : Int32} (hd : decode c.code pc = .ok (.ishl, 1))  (pc' : Nat) (hp : pc + 1 = pc') (K : Go p e below P (T.setTop (mkF m pc' Ls (.int (x <<< (y &&& 31)) :: st)))) : Go p e below P (T.setTop (mkF m pc Ls (.int y :: .int x :: st))) := by
  subst hp; exact Go.mv (fun _ h => XS.ishl X.here hx rfl hd rfl h) K
theorem g_ishr (X : Stand p l e R s m args below meth c T locs cells slots) (hx : p.tables.exec = Jvm.exec) {x y : Int32} (hd : decode c.code pc = .ok (.ishr, 1))  (pc' : Nat) (hp : pc + 1 = pc') (K : Go p e below P (T.setTop (mkF m pc' Ls (.int (x >>> (y &&& 31)) :: st)))) : Go p e below P (T.setTop (mkF m pc Ls (.int y :: .int x :: st))) := by
  subst hp; exact Go.mv (fun _ h => XS.ishr X.here hx rfl hd rfl h) K
theorem g_iushr (X : Stand p l e R s m args below meth c T locs cells slots) (hx : p.tables.exec = Jvm.exec) {x y : Int32} (hd : decode c.code pc = .ok (.iushr, 1))  (pc' : Nat) (hp : pc + 1 = pc') (K : Go p e below P (T.setTop (mkF m pc' Ls (.int ((x.toUInt32 >>> (y &&& 31).toUInt32).toInt32) :: st)))) : Go p e below P (T.setTop (mkF m pc Ls (.int y :: .int x :: st))) := by
  subst hp; exact Go.mv (fun _ h => XS.iushr X.here hx rfl hd rfl h) K
theorem g_lshl (X : Stand p l e R s m args below meth c T locs cells slots) (hx : p.tables.exec = Jvm.exec) {x : Int64} {y : Int32} (hd : decode c.code pc = .ok (.lshl, 1))  (pc' : Nat) (hp : pc + 1 = pc') (K : Go p e below P (T.setTop (mkF m pc' Ls (.long (x <<< (y &&& 0x3f).toInt64) :: st)))) : Go p e below P (T.setTop (mkF m pc Ls (.int y :: .long x :: st))) := by
  subst hp; exact Go.mv (fun _ h => XS.lshl X.here hx rfl hd rfl h) K
theorem g_lushr (X : Stand p l e R s m args below meth c T locs cells slots) (hx : p.tables.exec = Jvm.exec) {x : Int64} {y : Int32} (hd : decode c.code pc = .ok (.lushr, 1))  (pc' : Nat) (hp : pc + 1 = pc') (K : Go p e below P (T.setTop (mkF m pc' Ls (.long ((x.toUInt64 >>> (y &&& 0x3f).toInt64.toUInt64).toInt64) :: st)))) : Go p e below P (T.setTop (mkF m pc Ls (.int y :: .long x :: st))) := by
  subst hp; exact Go.mv (fun _ h => XS.lushr X.here hx rfl hd rfl h) K
theorem g_ineg (X : Stand p l e R s m args below meth c T locs cells slots) (hx : p.tables.exec = Jvm.exec) {x : Int32} (hd : decode c.code pc = .ok (.ineg, 1))  (pc' : Nat) (hp : pc + 1 = pc') (K : Go p e below P (T.setTop (mkF m pc' Ls (.int (-x) :: st)))) : Go p e below P (T.setTop (mkF m pc Ls (.int x :: st))) := by
  subst hp; exact Go.mv (fun _ h => XS.ineg X.here hx rfl hd rfl h) K
theorem g_lneg (X : Stand p l e R s m args below meth c T locs cells slots) (hx : p.tables.exec = Jvm.exec) {x : Int64} (hd : decode c.code pc = .ok (.lneg, 1))  (pc' : Nat) (hp : pc + 1 = pc') (K : Go p e below P (T.setTop (mkF m pc' Ls (.long (-x) :: st)))) : Go p e below P (T.setTop (mkF m pc Ls (.long x :: st))) := by
  subst hp; exact Go.mv (fun _ h => XS.lneg X.here hx rfl hd rfl h) K
theorem g_i2l (X : Stand p l e R s m args below meth c T locs cells slots) (hx : p.tables.exec = Jvm.exec) {x : Int32} (hd : decode c.code pc = .ok (.i2l, 1))  (pc' : Nat) (hp : pc + 1 = pc') (K : Go p e below P (T.setTop (mkF m pc' Ls (.long (x.toInt64) :: st)))) : Go p e below P (T.setTop (mkF m pc Ls (.int x :: st))) := by
  subst hp; exact Go.mv (fun _ h => XS.i2l X.here hx rfl hd rfl h) K
theorem g_l2i (X : Stand p l e R s m args below meth c T locs cells slots) (hx : p.tables.exec = Jvm.exec) {x : Int64} (hd : decode c.code pc = .ok (.l2i, 1))  (pc' : Nat) (hp : pc + 1 = pc') (K : Go p e below P (T.setTop (mkF m pc' Ls (.int (x.toInt32) :: st)))) : Go p e below P (T.setTop (mkF m pc Ls (.long x :: st))) := by
  subst hp; exact Go.mv (fun _ h => XS.l2i X.here hx rfl hd rfl h) K
theorem g_i2b (X : Stand p l e R s m args below meth c T locs cells slots) (hx : p.tables.exec = Jvm.exec) {x : Int32} (hd : decode c.code pc = .ok (.i2b, 1))  (pc' : Nat) (hp : pc + 1 = pc') (K : Go p e below P (T.setTop (mkF m pc' Ls (.int (x.toInt8.toInt32) :: st)))) : Go p e below P (T.setTop (mkF m pc Ls (.int x :: st))) := by
  subst hp; exact Go.mv (fun _ h => XS.i2b X.here hx rfl hd rfl h) K
theorem g_i2s (X : Stand p l e R s m args below meth c T locs cells slots) (hx : p.tables.exec = Jvm.exec) {x : Int32} (hd : decode c.code pc = .ok (.i2s, 1))  (pc' : Nat) (hp : pc + 1 = pc') (K : Go p e below P (T.setTop (mkF m pc' Ls (.int (x.toInt16.toInt32) :: st)))) : Go p e below P (T.setTop (mkF m pc Ls (.int x :: st))) := by
  subst hp; exact Go.mv (fun _ h => XS.i2s X.here hx rfl hd rfl h) K
theorem g_i2c (X : Stand p l e R s m args below meth c T locs cells slots) (hx : p.tables.exec = Jvm.exec) {x : Int32} (hd : decode c.code pc = .ok (.i2c, 1))  (pc' : Nat) (hp : pc + 1 = pc') (K : Go p e below P (T.setTop (mkF m pc' Ls (.int (x.toUInt32.toUInt16.toUInt32.toInt32) :: st)))) : Go p e below P (T.setTop (mkF m pc Ls (.int x :: st))) := by
  subst hp; exact Go.mv (fun _ h => XS.i2c X.here hx rfl hd rfl h) K
theorem g_lcmp (X : Stand p l e R s m args below meth c T locs cells slots) (hx : p.tables.exec = Jvm.exec) {x y : Int64} (hd : decode c.code pc = .ok (.lcmp, 1))  (pc' : Nat) (hp : pc + 1 = pc') (K : Go p e below P (T.setTop (mkF m pc' Ls (.int (lcmpW x y) :: st)))) : Go p e below P (T.setTop (mkF m pc Ls (.long y :: .long x :: st))) := by
  subst hp; exact Go.mv (fun _ h => XS.lcmp X.here hx rfl hd rfl h) K
theorem g_idiv (X : Stand p l e R s m args below meth c T locs cells slots) (hx : p.tables.exec = Jvm.exec) {x y : Int32} (hd : decode c.code pc = .ok (.idiv, 1)) (hy : y ≠ 0) (pc' : Nat) (hp : pc + 1 = pc') (K : Go p e below P (T.setTop (mkF m pc' Ls (.int (x / y) :: st)))) : Go p e below P (T.setTop (mkF m pc Ls (.int y :: .int x :: st))) := by
  subst hp; exact Go.mv (fun _ h => XS.idiv X.here hx rfl hd rfl hy h) K
theorem g_ldiv (X : Stand p l e R s m args below meth c T locs cells slots) (hx : p.tables.exec = Jvm.exec) {x y : Int64} (hd : decode c.code pc = .ok (.ldiv, 1)) (hy : y ≠ 0) (pc' : Nat) (hp : pc + 1 = pc') (K : Go p e below P (T.setTop (mkF m pc' Ls (.long (x / y) :: st)))) : Go p e below P (T.setTop (mkF m pc Ls (.long y :: .long x :: st))) := by
  subst hp; exact Go.mv (fun _ h => XS.ldiv X.here hx rfl hd rfl hy h) K
theorem g_irem (X : Stand p l e R s m args below meth c T locs cells slots) (hx : p.tables.exec = Jvm.exec) {x y : Int32} (hd : decode c.code pc = .ok (.irem, 1)) (hy : y ≠ 0) (pc' : Nat) (hp : pc + 1 = pc') (K : Go p e below P (T.setTop (mkF m pc' Ls (.int (x % y) :: st)))) : Go p e below P (T.setTop (mkF m pc Ls (.int y :: .int x :: st))) := by
  subst hp; exact Go.mv (fun _ h => iremM X hx rfl hd rfl hy h) K
theorem lrem_eq_mod (x y : Int64) : x - (x / y) * y = x % y := by
  apply Int64.toInt_inj.mp
  have h1 := Int64.le_toInt (x % y)
  have h2 := Int64.toInt_lt (x % y)
  rw [Int64.toInt_sub, Int64.toInt_mul, Int64.toInt_div, Int.bmod_mul_bmod, Int.sub_bmod_bmod, Int.mul_comm (x.toInt.tdiv y.toInt), ← Int.tmod_def, ← Int64.toInt_mod]
  exact Int.bmod_eq_of_le_mul_two (by omega) (by omega)
theorem g_lrem (X : Stand p l e R s m args below meth c T locs cells slots) (hx : p.tables.exec = Jvm.exec) {x y : Int64} (hd : decode c.code pc = .ok (.lrem, 1)) (hy : y ≠ 0) (pc' : Nat) (hp : pc + 1 = pc') (K : Go p e below P (T.setTop (mkF m pc' Ls (.long (x % y) :: st)))) : Go p e below P (T.setTop (mkF m pc Ls (.long y :: .long x :: st))) := by
  subst hp; rw [← lrem_eq_mod] at K; exact Go.mv (fun _ h => XS.lrem X.here hx rfl hd rfl hy h) K
theorem g_dup (X : Stand p l e R s m args below meth c T locs cells slots) (hx : p.tables.exec = Jvm.exec) {x : Value} (hd : decode c.code pc = .ok (.dup, 1)) (hc : x.category = 1) (pc' : Nat) (hp : pc + 1 = pc') (K : Go p e below P (T.setTop (mkF m pc' Ls (x :: x :: st)))) : Go p e below P (T.setTop (mkF m pc Ls (x :: st))) := by
  subst hp; exact Go.mv (fun _ h => XS.dup X.here hx rfl hd rfl hc h) K
theorem g_pop (X : Stand p l e R s m args below meth c T locs cells slots) (hx : p.tables.exec = Jvm.exec) {x : Value} (hd : decode c.code pc = .ok (.pop, 1)) (hc : x.category = 1) (pc' : Nat) (hp : pc + 1 = pc') (K : Go p e below P (T.setTop (mkF m pc' Ls st))) : Go p e below P (T.setTop (mkF m pc Ls (x :: st))) := by
  subst hp; exact Go.mv (fun _ h => XS.pop X.here hx rfl hd rfl hc h) K
theorem g_dupX1 (X : Stand p l e R s m args below meth c T locs cells slots) (hx : p.tables.exec = Jvm.exec) {x y : Value} (hd : decode c.code pc = .ok (.dup_x1, 1)) (hc : x.category = 1) (hc2 : y.category = 1) (pc' : Nat) (hp : pc + 1 = pc') (K : Go p e below P (T.setTop (mkF m pc' Ls (x :: y :: x :: st)))) : Go p e below P (T.setTop (mkF m pc Ls (x :: y :: st))) := by
  subst hp; exact Go.mv (fun _ h => XS.dupX1 X.here hx rfl hd rfl hc hc2 h) K
theorem g_iinc (X : Stand p l e R s m args below meth c T locs cells slots) (hx : p.tables.exec = Jvm.exec) {k : Nat} {cst : Int} {x : Int32} (l' : Array Slot) (hd : decode c.code pc = .ok (.iinc k cst, 3)) (hl : Ls[k]? = some (.val (.int x))) (hl' : storeLocals Ls k (.int (x + Int32.ofInt cst)) = some l') (pc' : Nat) (hp : pc + 3 = pc') (K : Go p e below P (T.setTop (mkF m pc' l' st))) : Go p e below P (T.setTop (mkF m pc Ls st)) := by
  subst hp; exact Go.mv (fun _ h => XS.iinc X.here hx rfl hd hl hl' h) K
theorem g_goto (X : Stand p l e R s m args below meth c T locs cells slots) (hx : p.tables.exec = Jvm.exec) {o : Int} (hd : decode c.code pc = .ok (.goto o, 3)) (pc' : Nat) (hp : ((pc : Int) + o).toNat = pc' ∧ 0 ≤ (pc : Int) + o) (K : Go p e below P (T.setTop (mkF m pc' Ls st))) : Go p e below P (T.setTop (mkF m pc Ls st)) :=
  Go.mv (fun _ h => XS.goto X.here hx rfl (pc0 := pc) (pc' := pc') rfl hd hp.2 hp.1 h) K
theorem g_icmp_lt_t (X : Stand p l e R s m args below meth c T locs cells slots) (hx : p.tables.exec = Jvm.exec) {x y : Int32} {o : Int} (hd : decode c.code pc = .ok (.if_icmp .lt o, 3)) (h : x < y) (pc' : Nat) (hp : ((pc : Int) + o).toNat = pc' ∧ 0 ≤ (pc : Int) + o) (K : Go p e below P (T.setTop (mkF m pc' Ls st))) : Go p e below P (T.setTop (mkF m pc Ls (.int y :: .int x :: st))) :=
  Go.mv (fun _ q => XS.icmpYes X.here hx rfl (pc0 := pc) (pc' := pc') rfl hd rfl (tlt h).1 hp.2 hp.1 q) K
theorem g_icmp_lt_f (X : Stand p l e R s m args below meth c T locs cells slots) (hx : p.tables.exec = Jvm.exec) {x y : Int32} {o : Int} (hd : decode c.code pc = .ok (.if_icmp .lt o, 3)) (h : ¬ x < y) (pc' : Nat) (hp : pc + 3 = pc') (K : Go p e below P (T.setTop (mkF m pc' Ls st))) : Go p e below P (T.setTop (mkF m pc Ls (.int y :: .int x :: st))) := by
  subst hp; exact Go.mv (fun _ q => XS.icmpNo X.here hx rfl hd rfl (flt h).1 q) K
theorem g_icmp_lt (X : Stand p l e R s m args below meth c T locs cells slots) (hx : p.tables.exec = Jvm.exec) {x y : Int32} {o : Int} (hd : decode c.code pc = .ok (.if_icmp .lt o, 3)) (pcT pcF : Nat) (hT : ((pc : Int) + o).toNat = pcT ∧ 0 ≤ (pc : Int) + o) (hF : pc + 3 = pcF) (KT : (x < y) → Go p e below P (T.setTop (mkF m pcT Ls st))) (KF : (¬ x < y) → Go p e below P (T.setTop (mkF m pcF Ls st))) : Go p e below P (T.setTop (mkF m pc Ls (.int y :: .int x :: st))) := by
  by_cases h : x < y
  · exact g_icmp_lt_t X hx hd h _ hT (KT h)
  · exact g_icmp_lt_f X hx hd h _ hF (KF h)
theorem g_if_lt_t (X : Stand p l e R s m args below meth c T locs cells slots) (hx : p.tables.exec = Jvm.exec) {x : Int32} {o : Int} (hd : decode c.code pc = .ok (.ifCond .lt o, 3)) (h : x < 0) (pc' : Nat) (hp : ((pc : Int) + o).toNat = pc' ∧ 0 ≤ (pc : Int) + o) (K : Go p e below P (T.setTop (mkF m pc' Ls st))) : Go p e below P (T.setTop (mkF m pc Ls (.int x :: st))) :=
  Go.mv (fun _ q => XS.ifYes X.here hx rfl (pc0 := pc) (pc' := pc') rfl hd rfl ((if0 _ _).trans (tlt h).1) hp.2 hp.1 q) K
theorem g_if_lt_f (X : Stand p l e R s m args below meth c T locs cells slots) (hx : p.tables.exec = Jvm.exec) {x : Int32} {o : Int} (hd : decode c.code pc = .ok (.ifCond .lt o, 3)) (h : ¬ x < 0) (pc' : Nat) (hp : pc + 3 = pc') (K : Go p e below P (T.setTop (mkF m pc' Ls st))) : Go p e below P (T.setTop (mkF m pc Ls (.int x :: st))) := by
  subst hp; exact Go.mv (fun _ q => XS.ifNo X.here hx rfl hd rfl ((if0 _ _).trans (flt h).1) q) K
theorem g_if_lt (X : Stand p l e R s m args below meth c T locs cells slots) (hx : p.tables.exec = Jvm.exec) {x : Int32} {o : Int} (hd : decode c.code pc = .ok (.ifCond .lt o, 3)) (pcT pcF : Nat) (hT : ((pc : Int) + o).toNat = pcT ∧ 0 ≤ (pc : Int) + o) (hF : pc + 3 = pcF) (KT : (x < 0) → Go p e below P (T.setTop (mkF m pcT Ls st))) (KF : (¬ x < 0) → Go p e below P (T.setTop (mkF m pcF Ls st))) : Go p e below P (T.setTop (mkF m pc Ls (.int x :: st))) := by
  by_cases h : x < 0
  · exact g_if_lt_t X hx hd h _ hT (KT h)
  · exact g_if_lt_f X hx hd h _ hF (KF h)
theorem g_icmp_ge_t (X : Stand p l e R s m args below meth c T locs cells slots) (hx : p.tables.exec = Jvm.exec) {x y : Int32} {o : Int} (hd : decode c.code pc = .ok (.if_icmp .ge o, 3)) (h : ¬ x < y) (pc' : Nat) (hp : ((pc : Int) + o).toNat = pc' ∧ 0 ≤ (pc : Int) + o) (K : Go p e below P (T.setTop (mkF m pc' Ls st))) : Go p e below P (T.setTop (mkF m pc Ls (.int y :: .int x :: st))) :=
  Go.mv (fun _ q => XS.icmpYes X.here hx rfl (pc0 := pc) (pc' := pc') rfl hd rfl (flt h).2.1 hp.2 hp.1 q) K
theorem g_icmp_ge_f (X : Stand p l e R s m args below meth c T locs cells slots) (hx : p.tables.exec = Jvm.exec) {x y : Int32} {o : Int} (hd : decode c.code pc = .ok (.if_icmp .ge o, 3)) (h : x < y) (pc' : Nat) (hp : pc + 3 = pc') (K : Go p e below P (T.setTop (mkF m pc' Ls st))) : Go p e below P (T.setTop (mkF m pc Ls (.int y :: .int x :: st))) := by
  subst hp; exact Go.mv (fun _ q => XS.icmpNo X.here hx rfl hd rfl (tlt h).2.1 q) K
theorem g_icmp_ge (X : Stand p l e R s m args below meth c T locs cells slots) (hx : p.tables.exec = Jvm.exec) {x y : Int32} {o : Int} (hd : decode c.code pc = .ok (.if_icmp .ge o, 3)) (pcT pcF : Nat) (hT : ((pc : Int) + o).toNat = pcT ∧ 0 ≤ (pc : Int) + o) (hF : pc + 3 = pcF) (KT : (¬ x < y) → Go p e below P (T.setTop (mkF m pcT Ls st))) (KF : (x < y) → Go p e below P (T.setTop (mkF m pcF Ls st))) : Go p e below P (T.setTop (mkF m pc Ls (.int y :: .int x :: st))) := by
  by_cases h : x < y
  · exact g_icmp_ge_f X hx hd h _ hF (KF h)
  · exact g_icmp_ge_t X hx hd h _ hT (KT h)
theorem g_if_ge_t (X : Stand p l e R s m args below meth c T locs cells slots) (hx : p.tables.exec = Jvm.exec) {x : Int32} {o : Int} (hd : decode c.code pc = .ok (.ifCond .ge o, 3)) (h : ¬ x < 0) (pc' : Nat) (hp : ((pc : Int) + o).toNat = pc' ∧ 0 ≤ (pc : Int) + o) (K : Go p e below P (T.setTop (mkF m pc' Ls st))) : Go p e below P (T.setTop (mkF m pc Ls (.int x :: st))) :=
  Go.mv (fun _ q => XS.ifYes X.here hx rfl (pc0 := pc) (pc' := pc') rfl hd rfl ((if0 _ _).trans (flt h).2.1) hp.2 hp.1 q) K
theorem g_if_ge_f (X : Stand p l e R s m args below meth c T locs cells slots) (hx : p.tables.exec = Jvm.exec) {x : Int32} {o : Int} (hd : decode c.code pc = .ok (.ifCond .ge o, 3)) (h : x < 0) (pc' : Nat) (hp : pc + 3 = pc') (K : Go p e below P (T.setTop (mkF m pc' Ls st))) : Go p e below P (T.setTop (mkF m pc Ls (.int x :: st))) := by
  subst hp; exact Go.mv (fun _ q => XS.ifNo X.here hx rfl hd rfl ((if0 _ _).trans (tlt h).2.1) q) K
theorem g_if_ge (X : Stand p l e R s m args below meth c T locs cells slots) (hx : p.tables.exec = Jvm.exec) {x : Int32} {o : Int} (hd : decode c.code pc = .ok (.ifCond .ge o, 3)) (pcT pcF : Nat) (hT : ((pc : Int) + o).toNat = pcT ∧ 0 ≤ (pc : Int) + o) (hF : pc + 3 = pcF) (KT : (¬ x < 0) → Go p e below P (T.setTop (mkF m pcT Ls st))) (KF : (x < 0) → Go p e below P (T.setTop (mkF m pcF Ls st))) : Go p e below P (T.setTop (mkF m pc Ls (.int x :: st))) := by
  by_cases h : x < 0
  · exact g_if_ge_f X hx hd h _ hF (KF h)
  · exact g_if_ge_t X hx hd h _ hT (KT h)
theorem g_icmp_gt_t (X : Stand p l e R s m args below meth c T locs cells slots) (hx : p.tables.exec = Jvm.exec) {x y : Int32} {o : Int} (hd : decode c.code pc = .ok (.if_icmp .gt o, 3)) (h : y < x) (pc' : Nat) (hp : ((pc : Int) + o).toNat = pc' ∧ 0 ≤ (pc : Int) + o) (K : Go p e below P (T.setTop (mkF m pc' Ls st))) : Go p e below P (T.setTop (mkF m pc Ls (.int y :: .int x :: st))) :=
  Go.mv (fun _ q => XS.icmpYes X.here hx rfl (pc0 := pc) (pc' := pc') rfl hd rfl (tlt h).2.2.1 hp.2 hp.1 q) K
theorem g_icmp_gt_f (X : Stand p l e R s m args below meth c T locs cells slots) (hx : p.tables.exec = Jvm.exec) {x y : Int32} {o : Int} (hd : decode c.code pc = .ok (.if_icmp .gt o, 3)) (h : ¬ y < x) (pc' : Nat) (hp : pc + 3 = pc') (K : Go p e below P (T.setTop (mkF m pc' Ls st))) : Go p e below P (T.setTop (mkF m pc Ls (.int y :: .int x :: st))) := by
  subst hp; exact Go.mv (fun _ q => XS.icmpNo X.here hx rfl hd rfl (flt h).2.2.1 q) K
theorem g_icmp_gt (X : Stand p l e R s m args below meth c T locs cells slots) (hx : p.tables.exec = Jvm.exec) {x y : Int32} {o : Int} (hd : decode c.code pc = .ok (.if_icmp .gt o, 3)) (pcT pcF : Nat) (hT : ((pc : Int) + o).toNat = pcT ∧ 0 ≤ (pc : Int) + o) (hF : pc + 3 = pcF) (KT : (y < x) → Go p e below P (T.setTop (mkF m pcT Ls st))) (KF : (¬ y < x) → Go p e below P (T.setTop (mkF m pcF Ls st))) : Go p e below P (T.setTop (mkF m pc Ls (.int y :: .int x :: st))) := by
  by_cases h : y < x
  · exact g_icmp_gt_t X hx hd h _ hT (KT h)
  · exact g_icmp_gt_f X hx hd h _ hF (KF h)
theorem g_if_gt_t (X : Stand p l e R s m args below meth c T locs cells slots) (hx : p.tables.exec = Jvm.exec) {x : Int32} {o : Int} (hd : decode c.code pc = .ok (.ifCond .gt o, 3)) (h : 0 < x) (pc' : Nat) (hp : ((pc : Int) + o).toNat = pc' ∧ 0 ≤ (pc : Int) + o) (K : Go p e below P (T.setTop (mkF m pc' Ls st))) : Go p e below P (T.setTop (mkF m pc Ls (.int x :: st))) :=
  Go.mv (fun _ q => XS.ifYes X.here hx rfl (pc0 := pc) (pc' := pc') rfl hd rfl ((if0 _ _).trans (tlt h).2.2.1) hp.2 hp.1 q) K
theorem g_if_gt_f (X : Stand p l e R s m args below meth c T locs cells slots) (hx : p.tables.exec = Jvm.exec) {x : Int32} {o : Int} (hd : decode c.code pc = .ok (.ifCond .gt o, 3)) (h : ¬ 0 < x) (pc' : Nat) (hp : pc + 3 = pc') (K : Go p e below P (T.setTop (mkF m pc' Ls st))) : Go p e below P (T.setTop (mkF m pc Ls (.int x :: st))) := by
  subst hp; exact Go.mv (fun _ q => XS.ifNo X.here hx rfl hd rfl ((if0 _ _).trans (flt h).2.2.1) q) K
theorem g_if_gt (X : Stand p l e R s m args below meth c T locs cells slots) (hx : p.tables.exec = Jvm.exec) {x : Int32} {o : Int} (hd : decode c.code pc = .ok (.ifCond .gt o, 3)) (pcT pcF : Nat) (hT : ((pc : Int) + o).toNat = pcT ∧ 0 ≤ (pc : Int) + o) (hF : pc + 3 = pcF) (KT : (0 < x) → Go p e below P (T.setTop (mkF m pcT Ls st))) (KF : (¬ 0 < x) → Go p e below P (T.setTop (mkF m pcF Ls st))) : Go p e below P (T.setTop (mkF m pc Ls (.int x :: st))) := by
  by_cases h : 0 < x
  · exact g_if_gt_t X hx hd h _ hT (KT h)
  · exact g_if_gt_f X hx hd h _ hF (KF h)
theorem g_icmp_le_t (X : Stand p l e R s m args below meth c T locs cells slots) (hx : p.tables.exec = Jvm.exec) {x y : Int32} {o : Int} (hd : decode c.code pc = .ok (.if_icmp .le o, 3)) (h : ¬ y < x) (pc' : Nat) (hp : ((pc : Int) + o).toNat = pc' ∧ 0 ≤ (pc : Int) + o) (K : Go p e below P (T.setTop (mkF m pc' Ls st))) : Go p e below P (T.setTop (mkF m pc Ls (.int y :: .int x :: st))) :=
  Go.mv (fun _ q => XS.icmpYes X.here hx rfl (pc0 := pc) (pc' := pc') rfl hd rfl (flt h).2.2.2 hp.2 hp.1 q) K
theorem g_icmp_le_f (X : Stand p l e R s m args below meth c T locs cells slots) (hx : p.tables.exec = Jvm.exec) {x y : Int32} {o : Int} (hd : decode c.code pc = .ok (.if_icmp .le o, 3)) (h : y < x) (pc' : Nat) (hp : pc + 3 = pc') (K : Go p e below P (T.setTop (mkF m pc' Ls st))) : Go p e below P (T.setTop (mkF m pc Ls (.int y :: .int x :: st))) := by
  subst hp; exact Go.mv (fun _ q => XS.icmpNo X.here hx rfl hd rfl (tlt h).2.2.2 q) K
theorem g_icmp_le (X : Stand p l e R s m args below meth c T locs cells slots) (hx : p.tables.exec = Jvm.exec) {x y : Int32} {o : Int} (hd : decode c.code pc = .ok (.if_icmp .le o, 3)) (pcT pcF : Nat) (hT : ((pc : Int) + o).toNat = pcT ∧ 0 ≤ (pc : Int) + o) (hF : pc + 3 = pcF) (KT : (¬ y < x) → Go p e below P (T.setTop (mkF m pcT Ls st))) (KF : (y < x) → Go p e below P (T.setTop (mkF m pcF Ls st))) : Go p e below P (T.setTop (mkF m pc Ls (.int y :: .int x :: st))) := by
  by_cases h : y < x
  · exact g_icmp_le_f X hx hd h _ hF (KF h)
  · exact g_icmp_le_t X hx hd h _ hT (KT h)
theorem g_if_le_t (X : Stand p l e R s m args below meth c T locs cells slots) (hx : p.tables.exec = Jvm.exec) {x : Int32} {o : Int} (hd : decode c.code pc = .ok (.ifCond .le o, 3)) (h : ¬ 0 < x) (pc' : Nat) (hp : ((pc : Int) + o).toNat = pc' ∧ 0 ≤ (pc : Int) + o) (K : Go p e below P (T.setTop (mkF m pc' Ls st))) : Go p e below P (T.setTop (mkF m pc Ls (.int x :: st))) :=
  Go.mv (fun _ q => XS.ifYes X.here hx rfl (pc0 := pc) (pc' := pc') rfl hd rfl ((if0 _ _).trans (flt h).2.2.2) hp.2 hp.1 q) K
theorem g_if_le_f (X : Stand p l e R s m args below meth c T locs cells slots) (hx : p.tables.exec = Jvm.exec) {x : Int32} {o : Int} (hd : decode c.code pc = .ok (.ifCond .le o, 3)) (h : 0 < x) (pc' : Nat) (hp : pc + 3 = pc') (K : Go p e below P (T.setTop (mkF m pc' Ls st))) : Go p e below P (T.setTop (mkF m pc Ls (.int x :: st))) := by
  subst hp; exact Go.mv (fun _ q => XS.ifNo X.here hx rfl hd rfl ((if0 _ _).trans (tlt h).2.2.2) q) K
theorem g_if_le (X : Stand p l e R s m args below meth c T locs cells slots) (hx : p.tables.exec = Jvm.exec) {x : Int32} {o : Int} (hd : decode c.code pc = .ok (.ifCond .le o, 3)) (pcT pcF : Nat) (hT : ((pc : Int) + o).toNat = pcT ∧ 0 ≤ (pc : Int) + o) (hF : pc + 3 = pcF) (KT : (¬ 0 < x) → Go p e below P (T.setTop (mkF m pcT Ls st))) (KF : (0 < x) → Go p e below P (T.setTop (mkF m pcF Ls st))) : Go p e below P (T.setTop (mkF m pc Ls (.int x :: st))) := by
  by_cases h : 0 < x
  · exact g_if_le_f X hx hd h _ hF (KF h)
  · exact g_if_le_t X hx hd h _ hT (KT h)
theorem g_icmp_eq_t (X : Stand p l e R s m args below meth c T locs cells slots) (hx : p.tables.exec = Jvm.exec) {x y : Int32} {o : Int} (hd : decode c.code pc = .ok (.if_icmp .eq o, 3)) (h : x = y) (pc' : Nat) (hp : ((pc : Int) + o).toNat = pc' ∧ 0 ≤ (pc : Int) + o) (K : Go p e below P (T.setTop (mkF m pc' Ls st))) : Go p e below P (T.setTop (mkF m pc Ls (.int y :: .int x :: st))) :=
  Go.mv (fun _ q => XS.icmpYes X.here hx rfl (pc0 := pc) (pc' := pc') rfl hd rfl (teq h).1 hp.2 hp.1 q) K
theorem g_icmp_eq_f (X : Stand p l e R s m args below meth c T locs cells slots) (hx : p.tables.exec = Jvm.exec) {x y : Int32} {o : Int} (hd : decode c.code pc = .ok (.if_icmp .eq o, 3)) (h : ¬ x = y) (pc' : Nat) (hp : pc + 3 = pc') (K : Go p e below P (T.setTop (mkF m pc' Ls st))) : Go p e below P (T.setTop (mkF m pc Ls (.int y :: .int x :: st))) := by
  subst hp; exact Go.mv (fun _ q => XS.icmpNo X.here hx rfl hd rfl (feq h).1 q) K
theorem g_icmp_eq (X : Stand p l e R s m args below meth c T locs cells slots) (hx : p.tables.exec = Jvm.exec) {x y : Int32} {o : Int} (hd : decode c.code pc = .ok (.if_icmp .eq o, 3)) (pcT pcF : Nat) (hT : ((pc : Int) + o).toNat = pcT ∧ 0 ≤ (pc : Int) + o) (hF : pc + 3 = pcF) (KT : (x = y) → Go p e below P (T.setTop (mkF m pcT Ls st))) (KF : (¬ x = y) → Go p e below P (T.setTop (mkF m pcF Ls st))) : Go p e below P (T.setTop (mkF m pc Ls (.int y :: .int x :: st))) := by
  by_cases h : x = y
  · exact g_icmp_eq_t X hx hd h _ hT (KT h)
  · exact g_icmp_eq_f X hx hd h _ hF (KF h)
theorem g_if_eq_t (X : Stand p l e R s m args below meth c T locs cells slots) (hx : p.tables.exec = Jvm.exec) {x : Int32} {o : Int} (hd : decode c.code pc = .ok (.ifCond .eq o, 3)) (h : x = 0) (pc' : Nat) (hp : ((pc : Int) + o).toNat = pc' ∧ 0 ≤ (pc : Int) + o) (K : Go p e below P (T.setTop (mkF m pc' Ls st))) : Go p e below P (T.setTop (mkF m pc Ls (.int x :: st))) :=
  Go.mv (fun _ q => XS.ifYes X.here hx rfl (pc0 := pc) (pc' := pc') rfl hd rfl ((if0 _ _).trans (teq h).1) hp.2 hp.1 q) K
theorem g_if_eq_f (X : Stand p l e R s m args below meth c T locs cells slots) (hx : p.tables.exec = Jvm.exec) {x : Int32} {o : Int} (hd : decode c.code pc = .ok (.ifCond .eq o, 3)) (h : ¬ x = 0) (pc' : Nat) (hp : pc + 3 = pc') (K : Go p e below P (T.setTop (mkF m pc' Ls st))) : Go p e below P (T.setTop (mkF m pc Ls (.int x :: st))) := by
  subst hp; exact Go.mv (fun _ q => XS.ifNo X.here hx rfl hd rfl ((if0 _ _).trans (feq h).1) q) K
theorem g_if_eq (X : Stand p l e R s m args below meth c T locs cells slots) (hx : p.tables.exec = Jvm.exec) {x : Int32} {o : Int} (hd : decode c.code pc = .ok (.ifCond .eq o, 3)) (pcT pcF : Nat) (hT : ((pc : Int) + o).toNat = pcT ∧ 0 ≤ (pc : Int) + o) (hF : pc + 3 = pcF) (KT : (x = 0) → Go p e below P (T.setTop (mkF m pcT Ls st))) (KF : (¬ x = 0) → Go p e below P (T.setTop (mkF m pcF Ls st))) : Go p e below P (T.setTop (mkF m pc Ls (.int x :: st))) := by
  by_cases h : x = 0
  · exact g_if_eq_t X hx hd h _ hT (KT h)
  · exact g_if_eq_f X hx hd h _ hF (KF h)
theorem g_icmp_ne_t (X : Stand p l e R s m args below meth c T locs cells slots) (hx : p.tables.exec = Jvm.exec) {x y : Int32} {o : Int} (hd : decode c.code pc = .ok (.if_icmp .ne o, 3)) (h : ¬ x = y) (pc' : Nat) (hp : ((pc : Int) + o).toNat = pc' ∧ 0 ≤ (pc : Int) + o) (K : Go p e below P (T.setTop (mkF m pc' Ls st))) : Go p e below P (T.setTop (mkF m pc Ls (.int y :: .int x :: st))) :=
  Go.mv (fun _ q => XS.icmpYes X.here hx rfl (pc0 := pc) (pc' := pc') rfl hd rfl (feq h).2 hp.2 hp.1 q) K
theorem g_icmp_ne_f (X : Stand p l e R s m args below meth c T locs cells slots) (hx : p.tables.exec = Jvm.exec) {x y : Int32} {o : Int} (hd : decode c.code pc = .ok (.if_icmp .ne o, 3)) (h : x = y) (pc' : Nat) (hp : pc + 3 = pc') (K : Go p e below P (T.setTop (mkF m pc' Ls st))) : Go p e below P (T.setTop (mkF m pc Ls (.int y :: .int x :: st))) := by
  subst hp; exact Go.mv (fun _ q => XS.icmpNo X.here hx rfl hd rfl (teq h).2 q) K
theorem g_icmp_ne (X : Stand p l e R s m args below meth c T locs cells slots) (hx : p.tables.exec = Jvm.exec) {x y : Int32} {o : Int} (hd : decode c.code pc = .ok (.if_icmp .ne o, 3)) (pcT pcF : Nat) (hT : ((pc : Int) + o).toNat = pcT ∧ 0 ≤ (pc : Int) + o) (hF : pc + 3 = pcF) (KT : (¬ x = y) → Go p e below P (T.setTop (mkF m pcT Ls st))) (KF : (x = y) → Go p e below P (T.setTop (mkF m pcF Ls st))) : Go p e below P (T.setTop (mkF m pc Ls (.int y :: .int x :: st))) := by
  by_cases h : x = y
  · exact g_icmp_ne_f X hx hd h _ hF (KF h)
  · exact g_icmp_ne_t X hx hd h _ hT (KT h)
theorem g_if_ne_t (X : Stand p l e R s m args below meth c T locs cells slots) (hx : p.tables.exec = Jvm.exec) {x : Int32} {o : Int} (hd : decode c.code pc = .ok (.ifCond .ne o, 3)) (h : ¬ x = 0) (pc' : Nat) (hp : ((pc : Int) + o).toNat = pc' ∧ 0 ≤ (pc : Int) + o) (K : Go p e below P (T.setTop (mkF m pc' Ls st))) : Go p e below P (T.setTop (mkF m pc Ls (.int x :: st))) :=
  Go.mv (fun _ q => XS.ifYes X.here hx rfl (pc0 := pc) (pc' := pc') rfl hd rfl ((if0 _ _).trans (feq h).2) hp.2 hp.1 q) K
theorem g_if_ne_f (X : Stand p l e R s m args below meth c T locs cells slots) (hx : p.tables.exec = Jvm.exec) {x : Int32} {o : Int} (hd : decode c.code pc = .ok (.ifCond .ne o, 3)) (h : x = 0) (pc' : Nat) (hp : pc + 3 = pc') (K : Go p e below P (T.setTop (mkF m pc' Ls st))) : Go p e below P (T.setTop (mkF m pc Ls (.int x :: st))) := by
  subst hp; exact Go.mv (fun _ q => XS.ifNo X.here hx rfl hd rfl ((if0 _ _).trans (teq h).2) q) K
theorem g_if_ne (X : Stand p l e R s m args below meth c T locs cells slots) (hx : p.tables.exec = Jvm.exec) {x : Int32} {o : Int} (hd : decode c.code pc = .ok (.ifCond .ne o, 3)) (pcT pcF : Nat) (hT : ((pc : Int) + o).toNat = pcT ∧ 0 ≤ (pc : Int) + o) (hF : pc + 3 = pcF) (KT : (¬ x = 0) → Go p e below P (T.setTop (mkF m pcT Ls st))) (KF : (x = 0) → Go p e below P (T.setTop (mkF m pcF Ls st))) : Go p e below P (T.setTop (mkF m pc Ls (.int x :: st))) := by
  by_cases h : x = 0
  · exact g_if_ne_f X hx hd h _ hF (KF h)
  · exact g_if_ne_t X hx hd h _ hT (KT h)
theorem g_ifnull_t (X : Stand p l e R s m args below meth c T locs cells slots) (hx : p.tables.exec = Jvm.exec)  {o : Int} (hd : decode c.code pc = .ok (.ifnull o, 3)) (pc' : Nat) (hp : ((pc : Int) + o).toNat = pc' ∧ 0 ≤ (pc : Int) + o) (K : Go p e below P (T.setTop (mkF m pc' Ls st))) : Go p e below P (T.setTop (mkF m pc Ls (.null :: st))) :=
  Go.mv (fun _ q => XS.ifnullYes X.here hx rfl (pc0 := pc) (pc' := pc') rfl hd rfl hp.2 hp.1 q) K
theorem g_ifnull_f (X : Stand p l e R s m args below meth c T locs cells slots) (hx : p.tables.exec = Jvm.exec) {b : Addr} {o : Int} (hd : decode c.code pc = .ok (.ifnull o, 3)) (pc' : Nat) (hp : pc + 3 = pc') (K : Go p e below P (T.setTop (mkF m pc' Ls st))) : Go p e below P (T.setTop (mkF m pc Ls (.ref b :: st))) := by
  subst hp; exact Go.mv (fun _ q => XS.ifnullNo X.here hx rfl hd rfl q) K
theorem g_ifnonnull_t (X : Stand p l e R s m args below meth c T locs cells slots) (hx : p.tables.exec = Jvm.exec) {b : Addr} {o : Int} (hd : decode c.code pc = .ok (.ifnonnull o, 3)) (pc' : Nat) (hp : ((pc : Int) + o).toNat = pc' ∧ 0 ≤ (pc : Int) + o) (K : Go p e below P (T.setTop (mkF m pc' Ls st))) : Go p e below P (T.setTop (mkF m pc Ls (.ref b :: st))) :=
  Go.mv (fun _ q => XS.ifnonnullYes X.here hx rfl (pc0 := pc) (pc' := pc') rfl hd rfl hp.2 hp.1 q) K
theorem g_ifnonnull_f (X : Stand p l e R s m args below meth c T locs cells slots) (hx : p.tables.exec = Jvm.exec)  {o : Int} (hd : decode c.code pc = .ok (.ifnonnull o, 3)) (pc' : Nat) (hp : pc + 3 = pc') (K : Go p e below P (T.setTop (mkF m pc' Ls st))) : Go p e below P (T.setTop (mkF m pc Ls (.null :: st))) := by
  subst hp; exact Go.mv (fun _ q => XS.ifnonnullNo X.here hx rfl hd rfl q) K
theorem g_acmp (X : Stand p l e R s m args below meth c T locs cells slots) (hx : p.tables.exec = Jvm.exec) {cd : ACond} {x y : Value} (h1 : x.isRef = true) (h2 : y.isRef = true) {o : Int} (hd : decode c.code pc = .ok (.if_acmp cd o, 3)) (same : Bool) (hq : decide (x = y) = same) (pc' : Nat) (hp : (pc' = if acV cd same = true then ((pc : Int) + o).toNat else pc + 3) ∧ 0 ≤ (pc : Int) + o) (K : Go p e below P (T.setTop (mkF m pc' Ls st))) : Go p e below P (T.setTop (mkF m pc Ls (y :: x :: st))) :=
  Go.mv (fun _ q => Jvm.RoadKit.acmp (g := mkF m pc Ls (y :: x :: st)) X hx rfl h1 h2 (pc0 := pc) (pc' := pc') (same := same) rfl hd rfl hq hp.2 hp.1 q) K
end Steps
section Laws
variable {p : Program} {l : Launch} {e : Env} {R : Room} {s : State} {m : MethodId} {args : Array Value} {below : List Frame} {meth : Method} {c : Code} {T : State} {locs : List Loc} {cells slots : Nat} {P : Outcome → State → Prop} {pc : Nat} {Ls : Array Slot} {st : List Value} {Z : State} {a0 : Array Value} {h : Heap}
theorem g_getF (X : Stand p l e R s m args below meth c T locs cells slots) (hx : p.tables.exec = Jvm.exec) (hZ : Z.Warmed39 s.vm) {own R0 O n d host : String} {index : Nat} (hown : s.vm.findClass own = some m.cls) (w : (Cond.fieldLink own index R0 n d).before a0 Z = true ∨ (Cond.fieldLinkNest own index R0 n d host).before a0 Z = true) (via : Via Z R0 O n d)
    (eT : T.heap = h) {a : Addr} {v : Value} (F : Fld Z h a O n d v) (hd : decode c.code pc = .ok (.getfield index, 3)) (pc' : Nat) (hp : pc + 3 = pc')
    (K : ∀ T', Stand p l e R s m args below meth c T' locs cells slots → T'.heap = h → Go p e below P (T'.setTop (mkF m pc' Ls (v :: st)))) : Go p e below P (T.setTop (mkF m pc Ls (.ref a :: st))) := by
  subst hp
  obtain ⟨T', X', e', k⟩ := getF X hx hZ hown w via eT F (g := mkF m pc Ls (.ref a :: st)) rfl rfl hd
  exact Go.mv k (K T' X' e')
theorem g_putF (X : Stand p l e R s m args below meth c T locs cells slots) (hx : p.tables.exec = Jvm.exec) (hZ : Z.Warmed39 s.vm) {own R0 O n d host C : String} {index kk : Nat} {ty : FieldType} (hown : s.vm.findClass own = some m.cls) (w : (Cond.fieldLink own index R0 n d).before a0 Z = true ∨ (Cond.fieldLinkNest own index R0 n d host).before a0 Z = true) (via : Via Z R0 O n d)
    (eT : T.heap = h) {a : Addr} {v old : Value} (F : Fld Z h a O n d old) (E : Exa Z h a C) (L : (Cond.lays C O n d).before a0 Z = true ∨ ((Cond.laysFinal C O n d).before a0 Z = true ∧ own = O ∧ meth.name = "<init>")) (wi : (Cond.instantiable C kk).before a0 Z = true)
    (hty : parseFieldDescriptor d = some ty) (hn : narrow ty v = v) (hf : fits ty v = true) (hd : decode c.code pc = .ok (.putfield index, 3)) (pc' : Nat) (hp : pc + 3 = pc')
    (K : ∀ T' h', Stand p l e R s m args below meth c T' (locs ++ [⟨a, Jvm.RoadKit.slotOf Z O n d⟩]) cells slots → T'.heap = h' → Wr h h' a (Jvm.RoadKit.slotOf Z O n d) v → Fld Z h' a O n d v → Exa Z h' a C → Go p e below P (T'.setTop (mkF m pc' Ls st))) : Go p e below P (T.setTop (mkF m pc Ls (v :: .ref a :: st))) := by
  subst hp
  obtain ⟨T', h', X', e', W, k⟩ := putF X hx hZ hown w via eT F E L wi hty hn hf (g := mkF m pc Ls (v :: .ref a :: st)) rfl rfl hd
  exact Go.mv k (K T' h' X' e' W (F.same W) (E.wr W))
theorem g_getS (X : Stand p l e R s m args below meth c T locs cells slots) (hx : p.tables.exec = Jvm.exec) (hZ : Z.Warmed39 s.vm) {own R0 O n d host : String} {index : Nat} (hown : s.vm.findClass own = some m.cls) (w : (Cond.fieldLink own index R0 n d).before a0 Z = true ∨ (Cond.fieldLinkNest own index R0 n d host).before a0 Z = true) (via : Via Z R0 O n d)
    (eT : T.heap = h) {v : Value} (F : Sta Z h O n d v) (hd : decode c.code pc = .ok (.getstatic index, 3)) (pc' : Nat) (hp : pc + 3 = pc')
    (K : ∀ T', Stand p l e R s m args below meth c T' locs cells slots → T'.heap = h → Go p e below P (T'.setTop (mkF m pc' Ls (v :: st)))) : Go p e below P (T.setTop (mkF m pc Ls st)) := by
  subst hp
  obtain ⟨T', X', e', k⟩ := getS2 X hx hZ hown w via eT F (g := mkF m pc Ls st) rfl hd
  exact Go.mv k (K T' X' e')
theorem g_new (X : Stand p l e R s m args below meth c T locs cells slots) (hx : p.tables.exec = Jvm.exec) (hZ : Z.Warmed39 s.vm) {own C : String} {index n : Nat} (hown : s.vm.findClass own = some m.cls) (w : (Cond.classLink own index C).before a0 Z = true) (wi : (Cond.instantiable C n).before a0 Z = true) (wz : (Cond.initialized C).before a0 Z = true) (eT : T.heap = h)
    (hd : decode c.code pc = .ok (.new index, 3)) (hc : cells + 1 ≤ R.cells) (hl : slots + n ≤ R.slots) (pc' : Nat) (hp : pc + 3 = pc')
    (K : ∀ T' h' b, Stand p l e R s m args below meth c T' locs (cells + 1) (slots + n) → T'.heap = h' → Ext h h' → b = h.size → Exa Z h' b C → (∀ {O nm d : String} {ty : FieldType}, Laid Z a0 C O nm d → parseFieldDescriptor d = some ty → Fld Z h' b O nm d (defaultValue ty)) → Go p e below P (T'.setTop (mkF m pc' Ls (.ref b :: st)))) : Go p e below P (T.setTop (mkF m pc Ls st)) := by
  subst hp
  obtain ⟨T', h', X', e', E, A, D, -, k⟩ := newO X hx hZ hown w wi wz eT (g := mkF m pc Ls st) rfl hd hc hl
  exact Go.mv k (K T' h' h.size X' e' E rfl A D)
theorem g_initO (X : Stand p l e R s m args below meth c T locs cells slots) (hx : p.tables.exec = Jvm.exec) (hZ : Z.Warmed39 s.vm) {own : String} {idx : Nat} (hown : s.vm.findClass own = some m.cls) (w1 : (Cond.methodLink own idx Lib.objectInit).before a0 Z = true) (w2 : (Cond.instanceMethod Lib.objectInit).before a0 Z = true)
    (w3 : (Cond.code Lib.objectInit ⟨#[0xb1]⟩ 1 none).before a0 Z = true) (eT : T.heap = h) (hsize : Ls.size = c.maxLocals) {a : Addr} (hd : decode c.code pc = .ok (.invokespecial idx, 3)) (hf : 1 ≤ R.frames) {W : Nat} (hW : (st.map fun v => v.category).sum ≤ W) (hl : W + 12 ≤ R.locals) (pc' : Nat) (hp : pc + 3 = pc')
    (K : ∀ T', Stand p l e R s m args below meth c T' locs cells slots → T'.heap = h → Go p e below P (T'.setTop (mkF m pc' Ls st))) : Go p e below P (T.setTop (mkF m pc Ls (.ref a :: st))) := by
  subst hp
  obtain ⟨T', X', e', k⟩ := initO X hx hZ hown w1 w2 w3 eT (g := mkF m pc Ls (.ref a :: st)) rfl hsize rfl hd hf (W := W) (by show 2 * 0 + _ ≤ _; omega) hl
  exact Go.mv k (K T' X' e')
theorem g_newP (X : Stand p l e R s m args below meth c T locs cells slots) (hx : p.tables.exec = Jvm.exec) (hZ : Z.Warmed39 s.vm) {aty : ArrayType} (w : (Cond.arrayClass (newarray.typeOf aty)).before a0 Z = true) (eT : T.heap = h) (hd : decode c.code pc = .ok (.newarray aty, 2)) {n : Int32}
    (hn : ¬ n < 0) (cap : Nat) (hcap : n.toNatClampNeg ≤ cap) (hb : cap * 8 ≤ 536870912) (hc : cells + 1 ≤ R.cells) (hl : slots + cap ≤ R.slots) (pc' : Nat) (hp : pc + 2 = pc') (ty : FieldType) (hty : newarray.typeOf aty = ty) (vs : List Value) (hvs : ∀ i, vs.getD i (defaultValue ty) = defaultValue ty)
    (K : ∀ T' h' b k, Stand p l e R s m args below meth c T' locs (cells + 1) (slots + cap) → T'.heap = h' → Ext h h' → b = h.size → Arv Z h' b k ty n vs (defaultValue ty) → Go p e below P (T'.setTop (mkF m pc' Ls (.ref b :: st)))) : Go p e below P (T.setTop (mkF m pc Ls (.int n :: st))) := by
  subst hp hty
  obtain ⟨T', h', cA, X', e', E, A, k⟩ := newP X hx hZ w eT (g := mkF m pc Ls (.int n :: st)) rfl hd rfl hn hcap hb hc hl
  exact Go.mv k (K T' h' h.size cA X' e' E rfl ((Arv.new A hn).pad (fun i => by rw [hvs]; simp)))
theorem g_newR (X : Stand p l e R s m args below meth c T locs cells slots) (hx : p.tables.exec = Jvm.exec) (hZ : Z.Warmed39 s.vm) {own C : String} {index : Nat} (hown : s.vm.findClass own = some m.cls) (w1 : (Cond.classLink own index C).before a0 Z = true) (w2 : (Cond.arrayOver (.object C)).before a0 Z = true) (eT : T.heap = h) (hd : decode c.code pc = .ok (.anewarray index, 3)) {n : Int32}
    (hn : ¬ n < 0) (cap : Nat) (hcap : n.toNatClampNeg ≤ cap) (hb : cap * 8 ≤ 536870912) (hc : cells + 1 ≤ R.cells) (hl : slots + cap ≤ R.slots) (pc' : Nat) (hp : pc + 3 = pc') (vs : List Value) (hvs : ∀ i, vs.getD i Value.null = Value.null)
    (K : ∀ T' h' b k, Stand p l e R s m args below meth c T' locs (cells + 1) (slots + cap) → T'.heap = h' → Ext h h' → b = h.size → Arv Z h' b k (.object C) n vs .null → Ovr Z k C → Go p e below P (T'.setTop (mkF m pc' Ls (.ref b :: st)))) : Go p e below P (T.setTop (mkF m pc Ls (.int n :: st))) := by
  subst hp
  obtain ⟨T', h', cA, X', e', E, A, O, k⟩ := newR X hx hZ hown w1 w2 eT (g := mkF m pc Ls (.int n :: st)) rfl hd rfl hn hcap hb hc hl
  exact Go.mv k (K T' h' h.size cA X' e' E rfl ((Arv.new A hn).pad (fun i => by show _ = _; rw [show defaultValue (.object C) = Value.null from rfl, hvs]; simp)) O)
theorem set_pad {vs : List Value} {n : Nat} {dv : Value} : ∀ i, vs.getD i dv = vs.getD i dv := fun _ => rfl
theorem g_stC (X : Stand p l e R s m args below meth c T locs cells slots) (hx : p.tables.exec = Jvm.exec) (hZ : Z.Warmed39 s.vm) (eT : T.heap = h) {a : Addr} {k : ClassId} {z : Int32} {vs : List Value} {dv : Value} (V : Arv Z h a k .char z vs dv) {j : Int32} {x : Int32} (x' : Int32) (hxx : nar .char x = x') (hj : ¬ j < 0 ∧ j < z) (i : Nat) (hji : j.toNatClampNeg = i) (hi : i < vs.length) (vs' : List Value) (hvs : vs.set i (.int x') = vs') (hd : decode c.code pc = .ok (.castore, 1)) (pc' : Nat) (hp : pc + 1 = pc')
    (K : ∀ T' h', Stand p l e R s m args below meth c T' (locs ++ [⟨a, j.toNatClampNeg⟩]) cells slots → T'.heap = h' → Wr h h' a j.toNatClampNeg (.int x') → Arv Z h' a k .char z vs' dv → Go p e below P (T'.setTop (mkF m pc' Ls st))) : Go p e below P (T.setTop (mkF m pc Ls (.int x :: .int j :: .ref a :: st))) := by
  subst hp hxx hvs
  obtain ⟨cl, A, q1, S, N, H, G⟩ := V
  obtain ⟨T', h', X', e', W, kk⟩ := stC X hx hZ eT A (j := j) (inb_of S hj) (g := mkF m pc Ls (.int x :: .int j :: .ref a :: st)) rfl rfl hd
  exact Go.mv kk (K T' h' X' e' W (Arv.set A q1 S N H G (fits_nar_char _) W i hji hi))
theorem g_stB (X : Stand p l e R s m args below meth c T locs cells slots) (hx : p.tables.exec = Jvm.exec) (hZ : Z.Warmed39 s.vm) (eT : T.heap = h) {a : Addr} {k : ClassId} {z : Int32} {vs : List Value} {dv : Value} (V : Arv Z h a k .byte z vs dv) {j : Int32} {x : Int32} (x' : Int32) (hxx : nar .byte x = x') (hj : ¬ j < 0 ∧ j < z) (i : Nat) (hji : j.toNatClampNeg = i) (hi : i < vs.length) (vs' : List Value) (hvs : vs.set i (.int x') = vs') (hd : decode c.code pc = .ok (.bastore, 1)) (pc' : Nat) (hp : pc + 1 = pc')
    (K : ∀ T' h', Stand p l e R s m args below meth c T' (locs ++ [⟨a, j.toNatClampNeg⟩]) cells slots → T'.heap = h' → Wr h h' a j.toNatClampNeg (.int x') → Arv Z h' a k .byte z vs' dv → Go p e below P (T'.setTop (mkF m pc' Ls st))) : Go p e below P (T.setTop (mkF m pc Ls (.int x :: .int j :: .ref a :: st))) := by
  subst hp hxx hvs
  obtain ⟨cl, A, q1, S, N, H, G⟩ := V
  obtain ⟨T', h', X', e', W, kk⟩ := stB X hx hZ eT A (j := j) (inb_of S hj) (g := mkF m pc Ls (.int x :: .int j :: .ref a :: st)) rfl rfl hd
  exact Go.mv kk (K T' h' X' e' W (Arv.set A q1 S N H G (fits_nar_byte _) W i hji hi))
theorem g_stZ (X : Stand p l e R s m args below meth c T locs cells slots) (hx : p.tables.exec = Jvm.exec) (hZ : Z.Warmed39 s.vm) (eT : T.heap = h) {a : Addr} {k : ClassId} {z : Int32} {vs : List Value} {dv : Value} (V : Arv Z h a k .boolean z vs dv) {j : Int32} {x : Int32} (x' : Int32) (hxx : nar .boolean x = x') (hj : ¬ j < 0 ∧ j < z) (i : Nat) (hji : j.toNatClampNeg = i) (hi : i < vs.length) (vs' : List Value) (hvs : vs.set i (.int x') = vs') (hd : decode c.code pc = .ok (.bastore, 1)) (pc' : Nat) (hp : pc + 1 = pc')
    (K : ∀ T' h', Stand p l e R s m args below meth c T' (locs ++ [⟨a, j.toNatClampNeg⟩]) cells slots → T'.heap = h' → Wr h h' a j.toNatClampNeg (.int x') → Arv Z h' a k .boolean z vs' dv → Go p e below P (T'.setTop (mkF m pc' Ls st))) : Go p e below P (T.setTop (mkF m pc Ls (.int x :: .int j :: .ref a :: st))) := by
  subst hp hxx hvs
  obtain ⟨cl, A, q1, S, N, H, G⟩ := V
  obtain ⟨T', h', X', e', W, kk⟩ := stZ X hx hZ eT A (j := j) (inb_of S hj) (g := mkF m pc Ls (.int x :: .int j :: .ref a :: st)) rfl rfl hd
  exact Go.mv kk (K T' h' X' e' W (Arv.set A q1 S N H G (fits_nar_bool _) W i hji hi))
theorem g_stI (X : Stand p l e R s m args below meth c T locs cells slots) (hx : p.tables.exec = Jvm.exec) (hZ : Z.Warmed39 s.vm) (eT : T.heap = h) {a : Addr} {k : ClassId} {z : Int32} {vs : List Value} {dv : Value} (V : Arv Z h a k .int z vs dv) {j : Int32} {x : Int32} (x' : Int32) (hxx : x = x') (hj : ¬ j < 0 ∧ j < z) (i : Nat) (hji : j.toNatClampNeg = i) (hi : i < vs.length) (vs' : List Value) (hvs : vs.set i (.int x') = vs') (hd : decode c.code pc = .ok (.iastore, 1)) (pc' : Nat) (hp : pc + 1 = pc')
    (K : ∀ T' h', Stand p l e R s m args below meth c T' (locs ++ [⟨a, j.toNatClampNeg⟩]) cells slots → T'.heap = h' → Wr h h' a j.toNatClampNeg (.int x') → Arv Z h' a k .int z vs' dv → Go p e below P (T'.setTop (mkF m pc' Ls st))) : Go p e below P (T.setTop (mkF m pc Ls (.int x :: .int j :: .ref a :: st))) := by
  subst hp hxx hvs
  obtain ⟨cl, A, q1, S, N, H, G⟩ := V
  obtain ⟨T', h', X', e', W, kk⟩ := stI X hx hZ eT A (j := j) (inb_of S hj) (g := mkF m pc Ls (.int x :: .int j :: .ref a :: st)) rfl rfl hd
  exact Go.mv kk (K T' h' X' e' W (Arv.set A q1 S N H G (rfl) W i hji hi))
theorem g_stJ (X : Stand p l e R s m args below meth c T locs cells slots) (hx : p.tables.exec = Jvm.exec) (hZ : Z.Warmed39 s.vm) (eT : T.heap = h) {a : Addr} {k : ClassId} {z : Int32} {vs : List Value} {dv : Value} (V : Arv Z h a k .long z vs dv) {j : Int32} {x : Int64} (x' : Int64) (hxx : x = x') (hj : ¬ j < 0 ∧ j < z) (i : Nat) (hji : j.toNatClampNeg = i) (hi : i < vs.length) (vs' : List Value) (hvs : vs.set i (.long x') = vs') (hd : decode c.code pc = .ok (.lastore, 1)) (pc' : Nat) (hp : pc + 1 = pc')
    (K : ∀ T' h', Stand p l e R s m args below meth c T' (locs ++ [⟨a, j.toNatClampNeg⟩]) cells slots → T'.heap = h' → Wr h h' a j.toNatClampNeg (.long x') → Arv Z h' a k .long z vs' dv → Go p e below P (T'.setTop (mkF m pc' Ls st))) : Go p e below P (T.setTop (mkF m pc Ls (.long x :: .int j :: .ref a :: st))) := by
  subst hp hxx hvs
  obtain ⟨cl, A, q1, S, N, H, G⟩ := V
  obtain ⟨T', h', X', e', W, kk⟩ := stJ X hx hZ eT A (j := j) (inb_of S hj) (g := mkF m pc Ls (.long x :: .int j :: .ref a :: st)) rfl rfl hd
  exact Go.mv kk (K T' h' X' e' W (Arv.set A q1 S N H G (rfl) W i hji hi))
theorem g_stR (X : Stand p l e R s m args below meth c T locs cells slots) (hx : p.tables.exec = Jvm.exec) (hZ : Z.Warmed39 s.vm) (eT : T.heap = h) {a : Addr} {k : ClassId} {z : Int32} {C : String} {vs : List Value} {dv : Value} (V : Arv Z h a k (.object C) z vs dv) {j : Int32} {x : Value} (hr : x.isRef = true) (hs : Sto Z h a x) (hj : ¬ j < 0 ∧ j < z) (i : Nat) (hji : j.toNatClampNeg = i) (hi : i < vs.length) (vs' : List Value) (hvs : vs.set i x = vs') (hd : decode c.code pc = .ok (.aastore, 1)) (pc' : Nat) (hp : pc + 1 = pc')
    (K : ∀ T' h', Stand p l e R s m args below meth c T' (locs ++ [⟨a, j.toNatClampNeg⟩]) cells slots → T'.heap = h' → Wr h h' a j.toNatClampNeg x → Arv Z h' a k (.object C) z vs' dv → Go p e below P (T'.setTop (mkF m pc' Ls st))) : Go p e below P (T.setTop (mkF m pc Ls (x :: .int j :: .ref a :: st))) := by
  subst hp hvs
  obtain ⟨cl, A, q1, S, N, H, G⟩ := V
  obtain ⟨T', h', X', e', W, kk⟩ := stR X hx hZ eT A (j := j) (inb_of S hj) rfl hs (g := mkF m pc Ls (x :: .int j :: .ref a :: st)) rfl rfl hd
  exact Go.mv kk (K T' h' X' e' W (Arv.set A q1 S N H G (by rcases ref_cases hr with rfl | ⟨_, rfl⟩ <;> rfl) W i hji hi))
theorem g_alen (X : Stand p l e R s m args below meth c T locs cells slots) (hx : p.tables.exec = Jvm.exec) (hZ : Z.Warmed39 s.vm) (eT : T.heap = h) {a : Addr} {k : ClassId} {ty : FieldType} {z : Int32} {vs : List Value} {dv : Value} (V : Arv Z h a k ty z vs dv) (hd : decode c.code pc = .ok (.arraylength, 1)) (pc' : Nat) (hp : pc + 1 = pc')
    (K : Go p e below P (T.setTop (mkF m pc' Ls (.int z :: st)))) : Go p e below P (T.setTop (mkF m pc Ls (.ref a :: st))) := by
  subst hp
  obtain ⟨cl, A, q1, S, N, H, G⟩ := V
  refine Go.mv (X.arraylength hx (by rw [eT]; exact A.1) (State.isArrayOf_alike hZ.alike A.2.1) (g := mkF m pc Ls (.ref a :: st)) rfl rfl hd) ?_
  rw [len_of S N]; exact K
theorem g_ldC (X : Stand p l e R s m args below meth c T locs cells slots) (hx : p.tables.exec = Jvm.exec) (hZ : Z.Warmed39 s.vm) (eT : T.heap = h) {a : Addr} {k : ClassId} {z : Int32} {vs : List Value} {dv : Value} (V : Arv Z h a k .char z vs dv) {j : Int32} (hj : ¬ j < 0 ∧ j < z) (v : Int32) (hv : vs.getD j.toNatClampNeg dv = .int v) (hd : decode c.code pc = .ok (.caload, 1)) (pc' : Nat) (hp : pc + 1 = pc')
    (K : Go p e below P (T.setTop (mkF m pc' Ls (.int v :: st)))) : Go p e below P (T.setTop (mkF m pc Ls (.int j :: .ref a :: st))) := by
  subst hp
  obtain ⟨cl, A, q1, S, N, H, G⟩ := V
  exact Go.mv (X.caload hx (j := j) (v := .int v) (by rw [eT]; exact A.1) (State.isArrayOf_alike hZ.alike A.2.1)  A.2.2 (inb_of S hj) (H.at (inb_of S hj) hv) (g := mkF m pc Ls (.int j :: .ref a :: st)) rfl rfl hd) K
theorem g_ldB (X : Stand p l e R s m args below meth c T locs cells slots) (hx : p.tables.exec = Jvm.exec) (hZ : Z.Warmed39 s.vm) (eT : T.heap = h) {a : Addr} {k : ClassId} {z : Int32} {vs : List Value} {dv : Value} (V : Arv Z h a k .byte z vs dv) {j : Int32} (hj : ¬ j < 0 ∧ j < z) (v : Int32) (hv : vs.getD j.toNatClampNeg dv = .int v) (hd : decode c.code pc = .ok (.baload, 1)) (pc' : Nat) (hp : pc + 1 = pc')
    (K : Go p e below P (T.setTop (mkF m pc' Ls (.int v :: st)))) : Go p e below P (T.setTop (mkF m pc Ls (.int j :: .ref a :: st))) := by
  subst hp
  obtain ⟨cl, A, q1, S, N, H, G⟩ := V
  exact Go.mv (X.baloadBytes hx (j := j) (v := .int v) (by rw [eT]; exact A.1) (State.isArrayOf_alike hZ.alike A.2.1)  A.2.2 (inb_of S hj) (H.at (inb_of S hj) hv) (g := mkF m pc Ls (.int j :: .ref a :: st)) rfl rfl hd) K
theorem g_ldI (X : Stand p l e R s m args below meth c T locs cells slots) (hx : p.tables.exec = Jvm.exec) (hZ : Z.Warmed39 s.vm) (eT : T.heap = h) {a : Addr} {k : ClassId} {z : Int32} {vs : List Value} {dv : Value} (V : Arv Z h a k .int z vs dv) {j : Int32} (hj : ¬ j < 0 ∧ j < z) (v : Int32) (hv : vs.getD j.toNatClampNeg dv = .int v) (hd : decode c.code pc = .ok (.iaload, 1)) (pc' : Nat) (hp : pc + 1 = pc')
    (K : Go p e below P (T.setTop (mkF m pc' Ls (.int v :: st)))) : Go p e below P (T.setTop (mkF m pc Ls (.int j :: .ref a :: st))) := by
  subst hp
  obtain ⟨cl, A, q1, S, N, H, G⟩ := V
  exact Go.mv (X.iaload hx (j := j) (v := .int v) (by rw [eT]; exact A.1) (State.isArrayOf_alike hZ.alike A.2.1)  A.2.2 (inb_of S hj) (H.at (inb_of S hj) hv) (g := mkF m pc Ls (.int j :: .ref a :: st)) rfl rfl hd) K
theorem g_ldJ (X : Stand p l e R s m args below meth c T locs cells slots) (hx : p.tables.exec = Jvm.exec) (hZ : Z.Warmed39 s.vm) (eT : T.heap = h) {a : Addr} {k : ClassId} {z : Int32} {vs : List Value} {dv : Value} (V : Arv Z h a k .long z vs dv) {j : Int32} (hj : ¬ j < 0 ∧ j < z) (v : Int64) (hv : vs.getD j.toNatClampNeg dv = .long v) (hd : decode c.code pc = .ok (.laload, 1)) (pc' : Nat) (hp : pc + 1 = pc')
    (K : Go p e below P (T.setTop (mkF m pc' Ls (.long v :: st)))) : Go p e below P (T.setTop (mkF m pc Ls (.int j :: .ref a :: st))) := by
  subst hp
  obtain ⟨cl, A, q1, S, N, H, G⟩ := V
  exact Go.mv (X.laload hx (j := j) (v := .long v) (by rw [eT]; exact A.1) (State.isArrayOf_alike hZ.alike A.2.1)  A.2.2 (inb_of S hj) (H.at (inb_of S hj) hv) (g := mkF m pc Ls (.int j :: .ref a :: st)) rfl rfl hd) K
theorem g_ldR (X : Stand p l e R s m args below meth c T locs cells slots) (hx : p.tables.exec = Jvm.exec) (hZ : Z.Warmed39 s.vm) (eT : T.heap = h) {a : Addr} {k : ClassId} {z : Int32} {C : String} {vs : List Value} {dv : Value} (V : Arv Z h a k (.object C) z vs dv) {j : Int32} (hj : ¬ j < 0 ∧ j < z) (v : Value) (hv : vs.getD j.toNatClampNeg dv = v) (hd : decode c.code pc = .ok (.aaload, 1)) (pc' : Nat) (hp : pc + 1 = pc')
    (K : Go p e below P (T.setTop (mkF m pc' Ls (v :: st)))) : Go p e below P (T.setTop (mkF m pc Ls (.int j :: .ref a :: st))) := by
  subst hp
  obtain ⟨cl, A, q1, S, N, H, G⟩ := V
  exact Go.mv (X.aaload hx (j := j) (v := v) (by rw [eT]; exact A.1) (State.isArrayOf_alike hZ.alike A.2.1) rfl A.2.2 (inb_of S hj) (H.at (inb_of S hj) hv) (g := mkF m pc Ls (.int j :: .ref a :: st)) rfl rfl hd) K
theorem g_castY (X : Stand p l e R s m args below meth c T locs cells slots) (hx : p.tables.exec = Jvm.exec) (hZ : Z.Warmed39 s.vm) {own K0 : String} {index : Nat} (hown : s.vm.findClass own = some m.cls) (w : (Cond.classLink own index K0).before a0 Z = true) (eT : T.heap = h) {a : Addr} (F : Ins Z h a K0 true) (hd : decode c.code pc = .ok (.checkcast index, 3)) (pc' : Nat) (hp : pc + 3 = pc')
    (K : ∀ T', Stand p l e R s m args below meth c T' locs cells slots → T'.heap = h → Go p e below P (T'.setTop (mkF m pc' Ls (.ref a :: st)))) : Go p e below P (T.setTop (mkF m pc Ls (.ref a :: st))) := by
  subst hp
  obtain ⟨T', X', e', k⟩ := castY X hx hZ hown w eT F (g := mkF m pc Ls (.ref a :: st)) rfl rfl hd
  exact Go.mv k (K T' X' e')
theorem g_instY (X : Stand p l e R s m args below meth c T locs cells slots) (hx : p.tables.exec = Jvm.exec) (hZ : Z.Warmed39 s.vm) {own K0 : String} {index : Nat} (hown : s.vm.findClass own = some m.cls) (w : (Cond.classLink own index K0).before a0 Z = true) (eT : T.heap = h) {a : Addr} (F : Ins Z h a K0 true) (hd : decode c.code pc = .ok (.instanceof index, 3)) (pc' : Nat) (hp : pc + 3 = pc')
    (K : ∀ T', Stand p l e R s m args below meth c T' locs cells slots → T'.heap = h → Go p e below P (T'.setTop (mkF m pc' Ls (.int 1 :: st)))) : Go p e below P (T.setTop (mkF m pc Ls (.ref a :: st))) := by
  subst hp
  obtain ⟨T', X', e', k⟩ := instY X hx hZ hown w eT F (g := mkF m pc Ls (.ref a :: st)) rfl rfl hd
  exact Go.mv k (K T' X' e')
/-- a static call by a payer of the house's form -/
theorem g_callS (X : Stand p l e R s m args below meth c T locs cells slots) (hx : p.tables.exec = Jvm.exec) {own : String} {index : Nat} {y : MethodName} {bytes : ByteArray} {maxL : Nat} {ret : Option FieldType}
    (hown : s.vm.findClass own = some m.cls) (hlink : (Cond.methodLink own index y).before args s = true) (hstat : (Cond.static y).before args s = true) (hinit : (Cond.initialized y.cls).before args s = true)
    (hcode : (Cond.code y bytes maxL ret).before args s = true) (hy : y.cls ≠ "java/lang/invoke/MethodHandle" ∧ y.cls ≠ "java/lang/invoke/VarHandle")
    {W rc rs : Nat} (argsL : List Value) {Q : Option Value → Heap → List Loc → Prop} (hK : Back l R p e below s args y 3 W (fun A a => a = argsL.toArray ∧ A.U.heap = h ∧ A.cells + rc ≤ R.cells ∧ A.slots + rs ≤ R.slots) (fun A _ v B => ∃ L, Q v B.U.heap L ∧ B.locs = A.locs ++ L ∧ B.cells = A.cells + rc ∧ B.slots = A.slots + rs))
    (eT : T.heap = h) (hsize : Ls.size = c.maxLocals) (rest : List Value) (hlen : ∀ sig, parseMethodDescriptor y.desc = some sig → argsL.length = sig.parameters.length)
    (hstack : st = argsL.reverse ++ rest) (hW : (rest.map fun v => v.category).sum ≤ W) (hd : decode c.code pc = .ok (.invokestatic index, 3)) (hc : cells + rc ≤ R.cells) (hl : slots + rs ≤ R.slots) (pc' : Nat) (hp : pc + 3 = pc')
    (K : ∀ v T' L, Stand p l e R s m args below meth c T' (locs ++ L) (cells + rc) (slots + rs) → Q v T'.heap L → Go p e below P (T'.setTop (mkF m pc' Ls (v.toList ++ rest)))) : Go p e below P (T.setTop (mkF m pc Ls st)) := by
  subst hp
  obtain ⟨v, vm, ⟨T', L', k', n'⟩, -, X', ⟨Lc, hQ, l1, y1, z1⟩, k⟩ := Jvm.LawKit.callS X hx (y := y) hown hlink hstat hinit hcode hy hK (g := mkF m pc Ls st) rfl hsize (argsL := argsL) (rest := rest) hlen hstack (by show 2 * 0 + _ ≤ _; omega) hd (fun _ _ => ⟨rfl, eT, hc, hl⟩)
  dsimp only [Pt.U, Pt.locs, Pt.cells, Pt.slots] at X' l1 y1 z1 k hQ
  subst l1 y1 z1
  exact Go.mv k (K v T' Lc X' hQ)
theorem g_special (X : Stand p l e R s m args below meth c T locs cells slots) (hx : p.tables.exec = Jvm.exec) {own : String} {index : Nat} {y : MethodName} (hy1 : y.name = "<init>")
    (hown : s.vm.findClass own = some m.cls) (hlink : (Cond.methodLink own index y).before args s = true) (hinst : (Cond.instanceMethod y).before args s = true)
    {bytes : ByteArray} {maxL : Nat} (hcode : (Cond.code y bytes maxL none).before args s = true) (hy : y.cls ≠ "java/lang/invoke/MethodHandle" ∧ y.cls ≠ "java/lang/invoke/VarHandle")
    {W rc rs : Nat} {a : Addr} (argsL : List Value) {Q : Option Value → Heap → List Loc → Prop} (hK : Back l R p e below s args y 3 W (fun A b => b = (.ref a :: argsL).toArray ∧ A.U.heap = h ∧ A.cells + rc ≤ R.cells ∧ A.slots + rs ≤ R.slots) (fun A _ v B => ∃ L, Q v B.U.heap L ∧ B.locs = A.locs ++ L ∧ B.cells = A.cells + rc ∧ B.slots = A.slots + rs))
    (eT : T.heap = h) (hsize : Ls.size = c.maxLocals) (rest : List Value) (hlen : ∀ sig, parseMethodDescriptor y.desc = some sig → argsL.length = sig.parameters.length)
    (hstack : st = argsL.reverse ++ .ref a :: rest) (hW : (rest.map fun v => v.category).sum ≤ W) (hd : decode c.code pc = .ok (.invokespecial index, 3)) (hc : cells + rc ≤ R.cells) (hl : slots + rs ≤ R.slots) (pc' : Nat) (hp : pc + 3 = pc')
    (K : ∀ v T' L, Stand p l e R s m args below meth c T' (locs ++ L) (cells + rc) (slots + rs) → Q v T'.heap L → Go p e below P (T'.setTop (mkF m pc' Ls (v.toList ++ rest)))) : Go p e below P (T.setTop (mkF m pc Ls st)) := by
  subst hp
  obtain ⟨v, vm, ⟨T', L', k', n'⟩, -, X', ⟨Lc, hQ, l1, y1, z1⟩, k⟩ := X.specialBack hx (y := y) hy1 hown hlink hinst hcode hy hK (g := mkF m pc Ls st) rfl hsize (Steps.refl _) (a := a) (argsL := argsL) (rest := rest) hlen hstack (by show 2 * 0 + _ ≤ _; omega) hd (fun _ _ => ⟨rfl, eT, hc, hl⟩)
  dsimp only [Pt.U, Pt.locs, Pt.cells, Pt.slots] at X' l1 y1 z1 k hQ
  subst l1 y1 z1
  exact Go.tr k (K v T' Lc X' hQ)
theorem g_virtual (X : Stand p l e R s m args below meth c T locs cells slots) (hx : p.tables.exec = Jvm.exec) (hZ : Z.Warmed39 s.vm) {own C : String} {index : Nat} {y z : MethodName}
    (hown : s.vm.findClass own = some m.cls) (hlink : (Cond.methodLink own index y).before args s = true) (hdecl : (Cond.declares y).before args s = true) (hnf : NotFace s y)
    (hsel : (Cond.selects C y z).before args s = true) (hinst : (Cond.instanceMethod z).before args s = true) (hy : y.cls ≠ "java/lang/invoke/MethodHandle" ∧ y.cls ≠ "java/lang/invoke/VarHandle")
    {W rc rs : Nat} {a : Addr} (argsL : List Value) {Q : Option Value → Heap → List Loc → Prop} (hK : Back l R p e below s args z 3 W (fun A b => b = (.ref a :: argsL).toArray ∧ A.U.heap = h ∧ A.cells + rc ≤ R.cells ∧ A.slots + rs ≤ R.slots) (fun A _ v B => ∃ L, Q v B.U.heap L ∧ B.locs = A.locs ++ L ∧ B.cells = A.cells + rc ∧ B.slots = A.slots + rs))
    (E : Exa Z h a C) (eT : T.heap = h) (hsize : Ls.size = c.maxLocals) (rest : List Value) (hlen : ∀ sig, parseMethodDescriptor y.desc = some sig → argsL.length = sig.parameters.length)
    (hstack : st = argsL.reverse ++ .ref a :: rest) (hW : (rest.map fun v => v.category).sum ≤ W) (hd : decode c.code pc = .ok (.invokevirtual index, 3)) (hc : cells + rc ≤ R.cells) (hl : slots + rs ≤ R.slots) (pc' : Nat) (hp : pc + 3 = pc')
    (K : ∀ v T' L, Stand p l e R s m args below meth c T' (locs ++ L) (cells + rc) (slots + rs) → Q v T'.heap L → Go p e below P (T'.setTop (mkF m pc' Ls (v.toList ++ rest)))) : Go p e below P (T.setTop (mkF m pc Ls st)) := by
  subst hp
  obtain ⟨cq, kq, qa, qb, qc⟩ := isOf hZ eT E
  obtain ⟨v, vm, ⟨T', L', k', n'⟩, -, X', ⟨Lc, hQ, l1, y1, z1⟩, k⟩ := X.virtualBack hx (y := y) (z := z) hown hlink hdecl hnf hsel hinst hy hK qa qc (g := mkF m pc Ls st) rfl hsize (Steps.refl _) (argsL := argsL) (rest := rest) hlen hstack (by show 2 * 0 + _ ≤ _; omega) hd (fun _ _ => ⟨rfl, eT, hc, hl⟩)
  dsimp only [Pt.U, Pt.locs, Pt.cells, Pt.slots] at X' l1 y1 z1 k hQ
  subst l1 y1 z1
  exact Go.tr k (K v T' Lc X' hQ)
theorem g_private (X : Stand p l e R s m args below meth c T locs cells slots) (hx : p.tables.exec = Jvm.exec) (hZ : Z.Warmed39 s.vm) {own C : String} {index : Nat} {y : MethodName} {bytes : ByteArray} {maxL : Nat} {ret : Option FieldType}
    (hown : s.vm.findClass own = some m.cls) (hlink : (Cond.methodLink own index y).before args s = true) (hinst : (Cond.instanceMethod y).before args s = true) (hsel : (Cond.selects y.cls y y).before args s = true)
    (hpriv : (Cond.privateMethod y).before a0 Z = true) (hcode : (Cond.code y bytes maxL ret).before args s = true) (hy : y.cls ≠ "java/lang/invoke/MethodHandle" ∧ y.cls ≠ "java/lang/invoke/VarHandle")
    {W rc rs : Nat} {a : Addr} (argsL : List Value) {Q : Option Value → Heap → List Loc → Prop} (hK : Back l R p e below s args y 3 W (fun A b => b = (.ref a :: argsL).toArray ∧ A.U.heap = h ∧ A.cells + rc ≤ R.cells ∧ A.slots + rs ≤ R.slots) (fun A _ v B => ∃ L, Q v B.U.heap L ∧ B.locs = A.locs ++ L ∧ B.cells = A.cells + rc ∧ B.slots = A.slots + rs))
    (E : Exa Z h a C) (eT : T.heap = h) (hsize : Ls.size = c.maxLocals) (rest : List Value) (hlen : ∀ sig, parseMethodDescriptor y.desc = some sig → argsL.length = sig.parameters.length)
    (hstack : st = argsL.reverse ++ .ref a :: rest) (hW : (rest.map fun v => v.category).sum ≤ W) (hd : decode c.code pc = .ok (.invokevirtual index, 3)) (hc : cells + rc ≤ R.cells) (hl : slots + rs ≤ R.slots) (pc' : Nat) (hp : pc + 3 = pc')
    (K : ∀ v T' L, Stand p l e R s m args below meth c T' (locs ++ L) (cells + rc) (slots + rs) → Q v T'.heap L → Go p e below P (T'.setTop (mkF m pc' Ls (v.toList ++ rest)))) : Go p e below P (T.setTop (mkF m pc Ls st)) := by
  subst hp
  obtain ⟨cq, q1, q2⟩ := E.cell
  obtain ⟨v, vm, ⟨T', L', k', n'⟩, -, X', ⟨Lc, hQ, l1, y1, z1⟩, k⟩ := X.privateBack hx (y := y) hown hlink hinst hsel (Cond.privateMethod_at (mvP hZ hpriv (args := #[]))) hcode hy hK (g := mkF m pc Ls st) rfl hsize (Steps.refl _) (a := a) (by rw [eT]; exact q1) q2 (argsL := argsL) (rest := rest) hlen hstack (by show 2 * 0 + _ ≤ _; omega) hd (fun _ _ => ⟨rfl, eT, hc, hl⟩)
  dsimp only [Pt.U, Pt.locs, Pt.cells, Pt.slots] at X' l1 y1 z1 k hQ
  subst l1 y1 z1
  exact Go.tr k (K v T' Lc X' hQ)
/-- the end of a body: what it owes -/
def End (s : State) (Q : Option Value → Heap → List Loc → Prop) (C N : Nat) (o : Outcome) (t : State) : Prop := ∃ v L, o = .returned v ∧ Q v t.heap L ∧ FrameEnd s o t L C N
theorem g_ret (X : Stand p l e R s m args below meth c T locs cells slots) (hx : p.tables.exec = Jvm.exec) {t : FieldType} {v : Value} {i : Instr} (hret : meth.sig.returnType = some t) (hlocks : meth.locks = false) (hn : narrow t v = v)
    (hi : (i = .ireturn ∧ (t = .int ∨ t = .boolean ∨ t = .byte ∨ t = .char ∨ t = .short) ∧ ∃ z, v = .int z) ∨ (i = .lreturn ∧ t = .long ∧ ∃ z, v = .long z) ∨ (i = .dreturn ∧ t = .double ∧ ∃ z, v = .double z) ∨ (i = .freturn ∧ t = .float ∧ ∃ z, v = .float z) ∨ (i = .areturn ∧ t.isReference = true ∧ v.isRef = true))
    (hd : decode c.code pc = .ok (i, 1)) {Q : Option Value → Heap → List Loc → Prop} {C N : Nat} (hC : cells ≤ C) (hN : slots ≤ N) (eT : T.heap = h) (hQ : Q (some v) h locs) : Go p e below (End s Q C N) (T.setTop (mkF m pc Ls (v :: st))) := by
  obtain ⟨fs, hr, hrun, hended, hW, hsame⟩ := X.leave (v := some v) (fun h => by rw [hret] at h; cases h) hlocks
  exact ⟨_, _, retOut X hx hret hn hi hd hr, hrun, hended, _, _, rfl, by show Q _ T.heap _; rw [eT]; exact hQ, ⟨_, rfl⟩, hW, hsame.mono hC hN⟩
theorem g_retV (X : Stand p l e R s m args below meth c T locs cells slots) (hx : p.tables.exec = Jvm.exec) (hret : meth.sig.returnType = none) (hlocks : meth.locks = false)
    (hd : decode c.code pc = .ok (.return_, 1)) {Q : Option Value → Heap → List Loc → Prop} {C N : Nat} (hC : cells ≤ C) (hN : slots ≤ N) (eT : T.heap = h) (hQ : Q none h locs) : Go p e below (End s Q C N) (T.setTop (mkF m pc Ls [])) := by
  obtain ⟨fs, hr, hrun, hended, hW, hsame⟩ := X.leave (v := none) (fun _ => rfl) hlocks
  exact ⟨_, _, X.returnOut hx hret hd hr, hrun, hended, _, _, rfl, by show Q _ T.heap _; rw [eT]; exact hQ, ⟨_, rfl⟩, hW, hsame.mono hC hN⟩
end Laws
end Jvm.Own
namespace Jvm.Own
open Jvm Sem ClassFile Op Lib Jvm.Stand Jvm.Free Jvm.LawKit Jvm.RoadKit
theorem isref {v : Value} (h : v.isRef = true) : v = .null ∨ ∃ a, v = .ref a := by
  cases v <;> first | exact Or.inl rfl | exact Or.inr ⟨_, rfl⟩ | exact nomatch h
theorem mask255 (x : Int32) : (x &&& 255) = Int32.ofNat (x &&& 255).toBitVec.toNat ∧ (x &&& 255).toBitVec.toNat < 256 := by
  constructor
  · apply Int32.toBitVec_inj.mp
    show _ = BitVec.ofNat 32 _
    rw [BitVec.ofNat_toNat]; simp
  · simp only [Int32.toBitVec_and, BitVec.toNat_and]
    exact Nat.lt_succ_of_le Nat.and_le_right
theorem lat255 (x : Int32) : ¬ (x &&& 255) < 0 ∧ ¬ (255 : Int32) < (x &&& 255) := by
  have t : ∀ k : Fin 256, ¬ (Int32.ofNat k.val) < 0 ∧ ¬ (255 : Int32) < (Int32.ofNat k.val) := by decide +kernel
  obtain ⟨e, h⟩ := mask255 x
  rw [e]
  exact t ⟨_, h⟩
theorem c255 (x : Int32) : (x &&& 255).toUInt32.toUInt16.toUInt32.toInt32 = x &&& 255 := i2c_mask x
theorem nar255 (x : Int32) : nar .char (x &&& 255) = x &&& 255 := i2c_mask x
theorem narc255 (x : Int32) : nar .char ((x &&& 255).toUInt32.toUInt16.toUInt32.toInt32) = x &&& 255 := by rw [c255]; exact nar255 x
theorem mem1 {P : Int32 → Prop} {a : Int32} (ha : P a) : ∀ c ∈ ([a] : List Int32), P c := fun c hc => by cases List.mem_singleton.mp hc; exact ha
theorem mem2 {P : Int32 → Prop} {a b : Int32} (ha : P a) (hb : P b) : ∀ c ∈ ([a, b] : List Int32), P c := fun c hc => by
  simp only [List.mem_cons, List.not_mem_nil, or_false] at hc
  rcases hc with rfl | rfl
  · exact ha
  · exact hb
/-- a contract's payer -/
theorem back {p : Program} {l : Launch} {e : Env} {R : Room} {s : State} {args : Array Value} {below : List Frame} {Z : State} {a0 : Array Value} {h : Heap} {y : MethodName} {bytes : ByteArray} {maxL : Nat} {ret : Option FieldType} {rm : Room} {len W : Nat} {as' : Array Value} {Q : Option Value → Heap → List Loc → Prop}
    (hM : MetFree l y (head1 [Cond.code y bytes maxL ret] rm) (fun a U => a = as' ∧ Z.Warmed39 U.vm ∧ U.heap = h) (fun _ _ _ _ _ => True) (fun _ U o U' => End U Q rm.cells rm.slots o U'))
    (hZ : Z.Warmed39 s.vm) (wc : (Cond.code y bytes maxL ret).before a0 Z = true) (wz : (Cond.initialized y.cls).before a0 Z = true) (hf : rm.frames + 1 ≤ R.frames) (hl : W + (maxL + 11) + rm.locals ≤ R.locals) :
    Back l R p e below s args y len W (fun A a => a = as' ∧ A.U.heap = h ∧ A.cells + rm.cells ≤ R.cells ∧ A.slots + rm.slots ≤ R.slots)
      (fun A _ v B => ∃ L, Q v B.U.heap L ∧ B.locs = A.locs ++ L ∧ B.cells = A.cells + rm.cells ∧ B.slots = A.slots + rm.slots) := backOf (Q := Q) hM hZ wc wz hf hl
end Jvm.Own
namespace Jvm.Own
open Jvm Sem ClassFile Op Lib Jvm.Stand Jvm.Free Jvm.LawKit Jvm.RoadKit
/-- what equals leaves -/
def QEq (h : Heap) (cs ds : List Int32) (v : Option Value) (h' : Heap) (L : List Loc) : Prop := ((v = some (.int 1) ∧ cs = ds) ∨ (v = some (.int 0) ∧ ¬ cs = ds)) ∧ L = [] ∧ h' = h
/-- a value, the heap as it was -/
def QVal (h : Heap) (r : Value) (v : Option Value) (h' : Heap) (L : List Loc) : Prop := v = some r ∧ L = [] ∧ h' = h
section Start
variable {s : State} {args : Array Value}
theorem start_len {t : Term} {a : Addr} {cl : Cell} {n : Int32} (h : (Cond.eq (Term.length t) (Term.int n)).value args s none s [] = some true) (ht : t.eval args s none [] s = some (.ref a)) (hc : s.heap[a]? = some cl) : cl.slots.size < 2 ^ 31 ∧ cl.slots.size.toInt32 = n := by
  obtain ⟨x, y, e1, e2, -, -⟩ := cmp_v (Or.inl h)
  obtain ⟨a', c', q1, q2, rfl⟩ := Term.length_spec e1
  cases ht.symm.trans q1
  cases hc.symm.trans (State.arrayAt?_spec q2).1
  have e3 := gotT (Cond.eq_ints e1 (Term.int_eval n)) h
  refine ⟨?_, e3⟩
  simp only [Term.eval, ht, q2, Option.bind_eq_bind, Option.bind_some] at e1
  split at e1
  · assumption
  · cases e1
theorem start_elem {t u : Term} {a : Addr} {cl : Cell} {i : Int32} {v : Value} (h : (Cond.eq (Term.elem t (Term.int i)) u).value args s none s [] = some true) (ht : t.eval args s none [] s = some (.ref a)) (hc : s.heap[a]? = some cl) (hu : u.eval args s none [] s = some v) : cl.slots[i.toNatClampNeg]? = some v := by
  obtain ⟨x, y, e1, e2, -, -⟩ := cmp_v (Or.inl h)
  cases hu.symm.trans e2
  have e3 := (elem_in e1 ht (Term.int_eval i) hc).2
  have e4 : x = v := by
    simp only [Cond.value, e1, e2] at h
    cases x <;> cases v <;> simp_all
  rw [e3, e4]
theorem start_int {t : Term} {n : Int32} (h : (Cond.eq t (Term.int n)).value args s none s [] = some true) : t.eval args s none [] s = some (.int n) := by
  obtain ⟨x, y, e1, e2, -, -⟩ := cmp_v (Or.inl h)
  cases (Term.int_eval n).symm.trans e2
  simp only [Cond.value, e1, e2] at h
  cases x <;> simp_all
theorem start_arv (hf : Fit s) {t : Term} {a : Addr} {ty : FieldType} (ha : (Cond.arrayOf t ty).value args s none s [] = some true) (ht : t.eval args s none [] s = some (.ref a)) {n : Int32} (hl : (Cond.eq (Term.length t) (Term.int n)).value args s none s [] = some true) (hn : ¬ n < 0) (vs : List Value) (hvl : n.toNatClampNeg = vs.length)
    (H : ∀ cl, s.heap[a]? = some cl → HasL cl 0 vs) (dv : Value) : ∃ k, Arv s s.heap a k ty n vs dv := by
  obtain ⟨cl, A⟩ := Arr.start ht ha
  obtain ⟨q1, q2⟩ := start_len hl ht A.1
  exact ⟨_, Arv.start hf A q1 q2 hn hvl (H cl A.1)⟩
end Start
section Clone
variable {p : Program} {l : Launch} {e : Env} {R : Room} {s : State} {m : MethodId} {args : Array Value} {below : List Frame} {meth : Method} {c : Code} {T : State} {locs : List Loc} {cells slots : Nat} {P : Outcome → State → Prop} {pc : Nat} {Ls : Array Slot} {st : List Value} {Z : State} {a0 : Array Value} {h : Heap}
theorem g_clone (X : Stand p l e R s m args below meth c T locs cells slots) (hx : p.tables.exec = Jvm.exec) (hZ : Z.Warmed39 s.vm) {own ad : String} {index : Nat} (hown : s.vm.findClass own = some m.cls)
    (w1 : (Cond.methodLink own index ⟨ad, "clone", "()Ljava/lang/Object;"⟩).before a0 Z = true) (w2 : (Cond.sameMethod ad "java/lang/Object" "clone" "()Ljava/lang/Object;").before a0 Z = true) (w3 : (Cond.native ⟨"java/lang/Object", "clone", "()Ljava/lang/Object;"⟩).before a0 Z = true)
    (w4 : (Cond.instanceMethod ⟨"java/lang/Object", "clone", "()Ljava/lang/Object;"⟩).before a0 Z = true) (w5 : (Cond.selects ad ⟨ad, "clone", "()Ljava/lang/Object;"⟩ ⟨"java/lang/Object", "clone", "()Ljava/lang/Object;"⟩).before a0 Z = true) (w6 : (Cond.castable ad "java/lang/Cloneable").before a0 Z = true)
    (eT : T.heap = h) {a : Addr} {ty : FieldType} {k : ClassId} {z : Int32} {vs : List Value} {dv : Value} (F : Arv Z h a k ty z vs dv) (E : Exa Z h a ad) (hsize : Ls.size = c.maxLocals) (hd : decode c.code pc = .ok (.invokevirtual index, 3))
    (hf : 1 ≤ R.frames) {W : Nat} (cap : Nat) (hW : (st.map fun v => v.category).sum ≤ W) (hl : W + 14 ≤ R.locals) (hcap : z.toNatClampNeg ≤ cap) (hc : cells + 1 ≤ R.cells) (hsl : slots + cap ≤ R.slots) (pc' : Nat) (hp : pc + 3 = pc')
    (K : ∀ T' h' b, Stand p l e R s m args below meth c T' locs (cells + 1) (slots + cap) → T'.heap = h' → Ext h h' → b = h.size → Arv Z h' b k ty z vs dv → Exa Z h' b ad → Go p e below P (T'.setTop (mkF m pc' Ls (.ref b :: st)))) : Go p e below P (T.setTop (mkF m pc Ls (.ref a :: st))) := by
  subst hp
  obtain ⟨T', h', X', e', E', V', A', k'⟩ := cloneH X hx hZ hown w1 w2 w3 w4 w5 w6 eT F.arh E (g := mkF m pc Ls (.ref a :: st)) rfl hsize rfl hd hf (W := W) (cap := cap) (by show 2 * 0 + _ ≤ _; omega) hl hcap hc hsl
  exact Go.mv k' (K T' h' h.size X' e' E' rfl V' A')
theorem g_ldcI (X : Stand p l e R s m args below meth c T locs cells slots) (hx : p.tables.exec = Jvm.exec) {own : String} {index : Nat} {v : Int32} (hown : s.vm.findClass own = some m.cls) (hconst : (Cond.constant own index v).before args s = true) (hd : decode c.code pc = .ok (.ldc index, 2)) (pc' : Nat) (hp : pc + 2 = pc')
    (K : Go p e below P (T.setTop (mkF m pc' Ls (.int v :: st)))) : Go p e below P (T.setTop (mkF m pc Ls st)) := by
  subst hp
  exact Go.mv (fun t q => X.ldcInt hx hown hconst (g := mkF m pc Ls st) rfl hd t q) K
theorem g_ldc2J (X : Stand p l e R s m args below meth c T locs cells slots) (hx : p.tables.exec = Jvm.exec) {own : String} {index : Nat} {v : Int64} (hown : s.vm.findClass own = some m.cls) (hconst : (Cond.constantLong own index v).before args s = true) (hd : decode c.code pc = .ok (.ldc2_w index, 3)) (pc' : Nat) (hp : pc + 3 = pc')
    (K : Go p e below P (T.setTop (mkF m pc' Ls (.long v :: st)))) : Go p e below P (T.setTop (mkF m pc Ls st)) := by
  subst hp
  exact Go.mv (fun t q => X.ldc2Long hx hown hconst (g := mkF m pc Ls st) rfl hd t q) K
theorem g_instNo (X : Stand p l e R s m args below meth c T locs cells slots) (hx : p.tables.exec = Jvm.exec) (hZ : Z.Warmed39 s.vm) {own K0 C : String} {index : Nat} (hown : s.vm.findClass own = some m.cls) (w : (Cond.classLink own index K0).before a0 Z = true) (eT : T.heap = h) {a : Addr} (E : Exa Z h a C) (F : ∃ c t, Z.vm.findClass C = some c ∧ Z.vm.findClass K0 = some t ∧ Z.vm.assignable c t = false) (hd : decode c.code pc = .ok (.instanceof index, 3)) (pc' : Nat) (hp : pc + 3 = pc')
    (K : ∀ T', Stand p l e R s m args below meth c T' locs cells slots → T'.heap = h → Go p e below P (T'.setTop (mkF m pc' Ls (.int 0 :: st)))) : Go p e below P (T.setTop (mkF m pc Ls (.ref a :: st))) := by
  subst hp
  obtain ⟨T', X', e', k⟩ := instNo X hx hZ hown w eT E F (g := mkF m pc Ls (.ref a :: st)) rfl rfl hd
  exact Go.mv k (K T' X' e')
theorem g_instNull (X : Stand p l e R s m args below meth c T locs cells slots) (hx : p.tables.exec = Jvm.exec) {index : Nat} (hd : decode c.code pc = .ok (.instanceof index, 3)) (pc' : Nat) (hp : pc + 3 = pc')
    (K : Go p e below P (T.setTop (mkF m pc' Ls (.int 0 :: st)))) : Go p e below P (T.setTop (mkF m pc Ls (.null :: st))) := by
  subst hp
  exact Go.mv (fun t q => X.instanceofNull hx (g := mkF m pc Ls (.null :: st)) rfl rfl hd t q) K
/-- an object of C (whose superclass is Object) is no K -/
theorem notSub {C O K0 : String} {n : Nat} (w : (Cond.superclass C O).before a0 Z = true) (wo : (Cond.noSuperclass O).before a0 Z = true) (wk : (Cond.instantiable K0 n).before a0 Z = true) (hn : C ≠ K0) (ho : O ≠ K0) : ∃ c t, Z.vm.findClass C = some c ∧ Z.vm.findClass K0 = some t ∧ Z.vm.assignable c t = false := by
  obtain ⟨t, k', g0, g2, g5, g7, -⟩ := Cond.instantiable_spec wk
  obtain ⟨c, h0⟩ := found_sup w
  obtain ⟨p0, k, kp, h1, h2, h3, h4, h5, -, h7⟩ := Cond.superclass_spec h0 w
  obtain ⟨cO, kO, i1, i2, i3, -, -⟩ := Cond.noSuperclass_spec wo
  cases h1.symm.trans i1
  have ne := ids_ne h0 g0 hn
  have ne2 := ids_ne h1 g0 ho
  have g8 : k'.isInterface = false := by cases hq : k'.isInterface <;> simp [hq] at g7 ⊢
  refine ⟨c, t, h0, g0, ?_⟩
  show Z.vm.assignableAux (255 + 1) c t = false
  have n3 : ∀ fuel, Z.vm.isSubclassAux fuel c t = false := fun fuel => by
    cases fuel with
    | zero => rfl
    | succ f =>
      have : Z.vm.isSubclassAux f p0 t = false := by
        cases f with
        | zero => rfl
        | succ f => simp [Vm.isSubclassAux, ne2, i2, i3]
      simp [Vm.isSubclassAux, ne, h2, h4, this]
  simp [Vm.assignableAux, ne, h2, g2, h5, g5, g8, Vm.isSubclass, n3]
end Clone
end Jvm.Own
namespace Jvm.Own
open Jvm Sem ClassFile Op Lib Jvm.Stand Jvm.Free Jvm.LawKit Jvm.RoadKit
/-- a sign of Latin-1 -/
abbrev Lat (x : Int32) : Prop := ¬ x < 0 ∧ ¬ (255 : Int32) < x
theorem Lat.nat {x : Int32} (h : Lat x) : ∃ k : Fin 256, x = Int32.ofNat k.val := by
  obtain ⟨h1, h2⟩ := h
  rw [Int32.lt_iff_toInt_lt] at h1 h2
  have e0 : (0 : Int32).toInt = 0 := rfl
  have e1 : (255 : Int32).toInt = 255 := rfl
  refine ⟨⟨x.toInt.toNat, by omega⟩, ?_⟩
  rw [← Int32.toInt_inj]
  show x.toInt = (Int32.ofNat x.toInt.toNat).toInt
  rw [Int32.toInt_ofNat_of_lt (by omega)]; omega
theorem lat_case {P : Int32 → Prop} (t : ∀ k : Fin 256, P (Int32.ofNat k.val)) {x : Int32} (h : Lat x) : P x := by
  obtain ⟨k, rfl⟩ := h.nat; exact t k
theorem lat255c (x : Int32) : Lat ((x &&& 255).toUInt32.toUInt16.toUInt32.toInt32) := by rw [c255]; exact lat255 x
theorem nar_lat {x : Int32} (h : Lat x) : nar .char x = x := lat_case (P := fun x => nar .char x = x) (by decide +kernel) h
theorem i2c_lat {x : Int32} (h : Lat x) : x.toUInt32.toUInt16.toUInt32.toInt32 = x := nar_lat h
theorem narrow_lat {x : Int32} (h : Lat x) : narrow .char (.int x) = .int x := congrArg Value.int (nar_lat h)
theorem lo_lat {x : Int32} (h : Lat x) : x.toInt8.toInt32 &&& 255 = x := lat_case (P := fun x => x.toInt8.toInt32 &&& 255 = x) (by decide +kernel) h
theorem narrow_if (P : Prop) [Decidable P] : narrow .boolean (.int (if P then 1 else 0)) = .int (if P then 1 else 0) := by split <;> rfl
theorem lat_up {cs : List Int32} (h : ∀ c ∈ cs, Lat c) : ∀ c ∈ cs, ¬ c < 0 ∧ ¬ (65535 : Int32) < c := fun c hc => ⟨(h c hc).1, fun q => (h c hc).2 (by rw [Int32.lt_iff_toInt_lt] at q ⊢; have e1 : (65535 : Int32).toInt = 65535 := rfl; have e2 : (255 : Int32).toInt = 255 := rfl; omega)⟩
theorem lat_xor1 (a b : Int32) (h : Lat a) : Lat ((a ^^^ (b &&& 1)).toUInt32.toUInt16.toUInt32.toInt32) := by
  have t : ∀ k : Fin 256, Lat ((Int32.ofNat k.val ^^^ 0).toUInt32.toUInt16.toUInt32.toInt32) ∧ Lat ((Int32.ofNat k.val ^^^ 1).toUInt32.toUInt16.toUInt32.toInt32) := by decide +kernel
  obtain ⟨k, rfl⟩ := h.nat
  rcases and_one b with e | e <;> rw [e]
  · exact (t k).1
  · exact (t k).2
theorem len12 (x : Int32) : (1 : Int32) + (x &&& 1) = 1 ∨ (1 : Int32) + (x &&& 1) = 2 := by
  rcases and_one x with e | e <;> rw [e]
  · exact Or.inl rfl
  · exact Or.inr rfl
theorem if1_ne {P : Prop} [Decidable P] (h : ¬ (if P then (1 : Int32) else 0) = 0) : P := by
  by_cases q : P
  · exact q
  · rw [if_neg q] at h; exact absurd rfl h
theorem if1_eq {P : Prop} [Decidable P] (h : (if P then (1 : Int32) else 0) = 0) : ¬ P := fun q => by rw [if_pos q] at h; exact absurd h (by decide)
end Jvm.Own
namespace Jvm.Own
open Jvm Sem ClassFile Op Lib Jvm.Stand Jvm.Free Jvm.LawKit Jvm.RoadKit
theorem nar_b (x : Int32) : nar .byte x.toInt8.toInt32 = x.toInt8.toInt32 := by show x.toInt8.toInt32.toInt8.toInt32 = _; rw [Int8.toInt8_toInt32]
end Jvm.Own
namespace Jvm.Own
open Jvm Sem ClassFile Op Lib Jvm.Stand Jvm.Free Jvm.LawKit Jvm.RoadKit
theorem mask31 (x : Int32) : ¬ (x &&& 2147483647) < 0 := fun q => absurd ((XT.and_neg32 x 2147483647).mp q).2 (by decide)
theorem mod_lt (x m : Int32) (hx : ¬ x < 0) (hm : 0 < m.toInt) : 0 ≤ (x % m).toInt ∧ (x % m).toInt < m.toInt := by
  rw [Int32.lt_iff_toInt_lt] at hx
  have e0 : (0 : Int32).toInt = 0 := rfl
  rw [Int32.toInt_mod]
  exact ⟨Int.tmod_nonneg _ (by omega), Int.tmod_lt_of_pos _ hm⟩
theorem mod3 (x : Int32) : (x &&& 2147483647) % 3 = 0 ∨ (x &&& 2147483647) % 3 = 1 ∨ (x &&& 2147483647) % 3 = 2 := by
  obtain ⟨h1, h2⟩ := mod_lt (x &&& 2147483647) 3 (mask31 x) (by decide)
  generalize (x &&& 2147483647) % 3 = y at *
  have e3 : (3 : Int32).toInt = 3 := rfl
  have : y.toInt = 0 ∨ y.toInt = 1 ∨ y.toInt = 2 := by omega
  rcases this with h | h | h
  · exact Or.inl (Int32.toInt_inj.mp (h.trans rfl))
  · exact Or.inr (Or.inl (Int32.toInt_inj.mp (h.trans rfl)))
  · exact Or.inr (Or.inr (Int32.toInt_inj.mp (h.trans rfl)))
theorem mod5 (x : Int32) : (x &&& 2147483647) % 5 = 0 ∨ (x &&& 2147483647) % 5 = 1 ∨ (x &&& 2147483647) % 5 = 2 ∨ (x &&& 2147483647) % 5 = 3 ∨ (x &&& 2147483647) % 5 = 4 := by
  obtain ⟨h1, h2⟩ := mod_lt (x &&& 2147483647) 5 (mask31 x) (by decide)
  generalize (x &&& 2147483647) % 5 = y at *
  have e3 : (5 : Int32).toInt = 5 := rfl
  have : y.toInt = 0 ∨ y.toInt = 1 ∨ y.toInt = 2 ∨ y.toInt = 3 ∨ y.toInt = 4 := by omega
  rcases this with h | h | h | h | h
  · exact Or.inl (Int32.toInt_inj.mp (h.trans rfl))
  · exact Or.inr (Or.inl (Int32.toInt_inj.mp (h.trans rfl)))
  · exact Or.inr (Or.inr (Or.inl (Int32.toInt_inj.mp (h.trans rfl))))
  · exact Or.inr (Or.inr (Or.inr (Or.inl (Int32.toInt_inj.mp (h.trans rfl)))))
  · exact Or.inr (Or.inr (Or.inr (Or.inr (Int32.toInt_inj.mp (h.trans rfl)))))
end Jvm.Own
namespace Jvm.Own
open Jvm Sem ClassFile Op Lib Jvm.Stand Jvm.Free Jvm.LawKit Jvm.RoadKit
theorem mem3 {P : Int32 → Prop} {a b c : Int32} (ha : P a) (hb : P b) (hc : P c) : ∀ x ∈ ([a, b, c] : List Int32), P x := fun x hx => by
  simp only [List.mem_cons, List.not_mem_nil, or_false] at hx
  rcases hx with rfl | rfl | rfl
  · exact ha
  · exact hb
  · exact hc
theorem mem4 {P : Int32 → Prop} {a b c d : Int32} (ha : P a) (hb : P b) (hc : P c) (hd : P d) : ∀ x ∈ ([a, b, c, d] : List Int32), P x := fun x hx => by
  simp only [List.mem_cons, List.not_mem_nil, or_false] at hx
  rcases hx with rfl | rfl | rfl | rfl
  · exact ha
  · exact hb
  · exact hc
  · exact hd
theorem and3 (x : Int32) : x &&& 3 = 0 ∨ x &&& 3 = 1 ∨ x &&& 3 = 2 ∨ x &&& 3 = 3 := by
  have h : (x &&& 3).toBitVec.toNat < 4 := by
    simp only [Int32.toBitVec_and, BitVec.toNat_and]
    exact Nat.lt_succ_of_le Nat.and_le_right
  have e : (x &&& 3) = Int32.ofNat (x &&& 3).toBitVec.toNat := by
    apply Int32.toBitVec_inj.mp
    show _ = BitVec.ofNat 32 _
    rw [BitVec.ofNat_toNat]; simp
  have t : ∀ k : Fin 4, Int32.ofNat k.val = 0 ∨ Int32.ofNat k.val = 1 ∨ Int32.ofNat k.val = 2 ∨ Int32.ofNat k.val = 3 := by decide
  rw [e]; exact t ⟨_, h⟩
end Jvm.Own
namespace Jvm.Own
open Jvm Sem ClassFile Op Lib Jvm.Stand Jvm.Free Jvm.LawKit Jvm.RoadKit
section Wide
variable {p : Program} {l : Launch} {e : Env} {R : Room} {s : State} {m : MethodId} {args : Array Value} {below : List Frame} {meth : Method} {c : Code} {T : State} {locs : List Loc} {cells slots : Nat} {P : Outcome → State → Prop} {pc : Nat} {Ls : Array Slot} {st : List Value} {Z : State} {a0 : Array Value} {h : Heap} {EL : List (String × Nat)} {vm : Vm}
/-- the end of a body that may intern -/
def EndW (Z : State) (EL : List (String × Nat)) (s : State) (Q : Option Value → Heap → List Loc → Prop) (C N : Nat) (o : Outcome) (t : State) : Prop := ∃ v L, o = .returned v ∧ Q v t.heap L ∧ CHr Z EL s.vm s.heap t.vm t.heap ∧ ReturnedEndW s o t L C N
theorem w_ret (X : Stand p l e R (s.setVm vm) m args below meth c T locs cells slots) (hx : p.tables.exec = Jvm.exec) (hZ : Z.Warmed39 (s.setVm vm).vm) (hEL : EW Z a0 EL) {k0 : Nat} (hS : s.Since vm k0) (hk : k0 ≤ h.size) (CR : CHr Z EL s.vm s.heap vm h) {t : FieldType} {v : Value} {i : Instr} (hret : meth.sig.returnType = some t) (hlocks : meth.locks = false) (hn : narrow t v = v)
    (hi : (i = .ireturn ∧ (t = .int ∨ t = .boolean ∨ t = .byte ∨ t = .char ∨ t = .short) ∧ ∃ z, v = .int z) ∨ (i = .lreturn ∧ t = .long ∧ ∃ z, v = .long z) ∨ (i = .dreturn ∧ t = .double ∧ ∃ z, v = .double z) ∨ (i = .freturn ∧ t = .float ∧ ∃ z, v = .float z) ∨ (i = .areturn ∧ t.isReference = true ∧ v.isRef = true))
    (hd : decode c.code pc = .ok (i, 1)) {Q : Option Value → Heap → List Loc → Prop} {C N : Nat} (hC : cells ≤ C) (hN : slots ≤ N) (eT : T.heap = h) (hQ : Q (some v) h locs) : Go p e below (EndW Z EL s Q C N) (T.setTop (mkF m pc Ls (v :: st))) := by
  obtain ⟨fs, hr, hrun, hended, hE⟩ := X.leaveW hS (by rw [eT]; exact hk) (v := some v) (fun h => by rw [hret] at h; cases h) hlocks
  refine ⟨_, _, retOut X hx hret hn hi hd hr, hrun, hended, _, _, rfl, by show Q _ T.heap _; rw [eT]; exact hQ, ?_, hE.1, hE.2.1, hE.2.2.1, hE.2.2.2.mono hC hN⟩
  show CHr Z EL s.vm s.heap T.vm T.heap
  rw [eT]; exact CR.trans (CHv.at X hZ hEL CR.1)
theorem w_retV (X : Stand p l e R (s.setVm vm) m args below meth c T locs cells slots) (hx : p.tables.exec = Jvm.exec) (hZ : Z.Warmed39 (s.setVm vm).vm) (hEL : EW Z a0 EL) {k0 : Nat} (hS : s.Since vm k0) (hk : k0 ≤ h.size) (CR : CHr Z EL s.vm s.heap vm h) (hret : meth.sig.returnType = none) (hlocks : meth.locks = false)
    (hd : decode c.code pc = .ok (.return_, 1)) {Q : Option Value → Heap → List Loc → Prop} {C N : Nat} (hC : cells ≤ C) (hN : slots ≤ N) (eT : T.heap = h) (hQ : Q none h locs) : Go p e below (EndW Z EL s Q C N) (T.setTop (mkF m pc Ls [])) := by
  obtain ⟨fs, hr, hrun, hended, hE⟩ := X.leaveW hS (by rw [eT]; exact hk) (v := none) (fun _ => rfl) hlocks
  refine ⟨_, _, X.returnOut hx hret hd hr, hrun, hended, _, _, rfl, by show Q _ T.heap _; rw [eT]; exact hQ, ?_, hE.1, hE.2.1, hE.2.2.1, hE.2.2.2.mono hC hN⟩
  show CHr Z EL s.vm s.heap T.vm T.heap
  rw [eT]; exact CR.trans (CHv.at X hZ hEL CR.1)
theorem w_ldc (X : Stand p l e R (s.setVm vm) m args below meth c T locs cells slots) (hx : p.tables.exec = Jvm.exec) (hZ : Z.Warmed39 (s.setVm vm).vm) {own text : String} {index : Nat} (hown : (s.setVm vm).vm.findClass own = some m.cls) (w : (Cond.stringLink own index text).before a0 Z = true) (wS : ∀ a ∈ Bundle.stringAtoms, a.before a0 Z = true)
    (eT : T.heap = h) {k0 : Nat} (hS : s.Since vm k0) (hk : k0 ≤ h.size) (hEL : EW Z a0 EL) (hmem : (own, index) ∈ EL) (H : CHv Z EL vm h) (vs : List Value) (z : Int32) (ht : (∀ c ∈ text.toList, c.toNat < 256) ∧ text.toList.map (fun c => Value.int (Jvm.Lit.byteI c.toNat.toUInt16)) = vs) (hz : ¬ z < 0) (hl : z.toNatClampNeg = vs.length)
    (hd : decode c.code pc = .ok (.ldc index, 2)) (n : Nat) (hn : 4 * text.toList.length ≤ n) (hbig : n ≤ 536870912) (hc : cells + 2 ≤ R.cells) (hl' : slots + (n + 4) ≤ R.slots) (pc' : Nat) (hp : pc + 2 = pc')
    (K : ∀ a T' h' k1 b k, Stand p l e R (s.setVm T'.vm) m args below meth c T' locs (cells + 2) (slots + (n + 4)) → T'.heap = h' → Ext h h' → s.Since T'.vm k1 → k1 ≤ h'.size → Z.Warmed39 (s.setVm T'.vm).vm → (s.setVm T'.vm).vm.findClass own = some m.cls →
      Exa Z h' a "java/lang/String" → Fld Z h' a "java/lang/String" "coder" "B" (.int 0) → Fld Z h' a "java/lang/String" "value" "[B" (.ref b) → Arv Z h' b k .byte z vs (.int 0) → CHr Z EL vm h T'.vm h' → (∀ x, Safe Z EL T'.vm h' x → x ≠ a ∧ x ≠ b) → Go p e below P (T'.setTop (mkF m pc' Ls (.ref a :: st)))) : Go p e below P (T.setTop (mkF m pc Ls st)) := by
  subst hp
  obtain ⟨a, T', h', k1, b, k, X', e', E, hS', hk', hZ', hown', A, F1, F2, V, -, -, CR, -, hs, stp⟩ := ldcCH X hx hZ hown w wS eT hS hk hEL hmem H ht hz hl (g := mkF m pc Ls st) rfl hd hn hbig hc hl'
  exact Go.mv stp (K a T' h' k1 b k X' e' E hS' hk' hZ' hown' A F1 F2 V CR hs)
theorem w_special (X : Stand p l e R (s.setVm vm) m args below meth c T locs cells slots) (hx : p.tables.exec = Jvm.exec) (hZ : Z.Warmed39 (s.setVm vm).vm) {own : String} {index : Nat} {y : MethodName} (hy1 : y.name = "<init>")
    (hown : (s.setVm vm).vm.findClass own = some m.cls) (hlink : (Cond.methodLink own index y).before args (s.setVm vm) = true) (hinst : (Cond.instanceMethod y).before args (s.setVm vm) = true)
    {bytes : ByteArray} {maxL : Nat} (hcode : (Cond.code y bytes maxL none).before args (s.setVm vm) = true) (hy : y.cls ≠ "java/lang/invoke/MethodHandle" ∧ y.cls ≠ "java/lang/invoke/VarHandle")
    {W rc rs : Nat} {a : Addr} (argsL : List Value) {Q : Option Value → Heap → List Loc → Prop} (hK : BackS l R p e below (s.setVm vm) args y 3 W (fun A b => b = (.ref a :: argsL).toArray ∧ A.U.heap = h ∧ A.cells + rc ≤ R.cells ∧ A.slots + rs ≤ R.slots) (fun A _ v B => ∃ L, Q v B.U.heap L ∧ B.locs = A.locs ++ L ∧ B.cells = A.cells + rc ∧ B.slots = A.slots + rs ∧ CHr Z EL vm h B.U.vm B.U.heap))
    (eT : T.heap = h) {k0 : Nat} (hS : s.Since vm k0) (hk : k0 ≤ h.size) (hsize : Ls.size = c.maxLocals) (rest : List Value) (hlen : ∀ sig, parseMethodDescriptor y.desc = some sig → argsL.length = sig.parameters.length)
    (hstack : st = argsL.reverse ++ .ref a :: rest) (hW : (rest.map fun v => v.category).sum ≤ W) (hd : decode c.code pc = .ok (.invokespecial index, 3)) (hc : cells + rc ≤ R.cells) (hl : slots + rs ≤ R.slots) (pc' : Nat) (hp : pc + 3 = pc')
    (K : ∀ v T' L, Stand p l e R (s.setVm T'.vm) m args below meth c T' (locs ++ L) (cells + rc) (slots + rs) → s.Since T'.vm T'.heap.size → Z.Warmed39 (s.setVm T'.vm).vm → (s.setVm T'.vm).vm.findClass own = some m.cls → CHr Z EL vm h T'.vm T'.heap → Q v T'.heap L → Go p e below P (T'.setTop (mkF m pc' Ls (v.toList ++ rest)))) : Go p e below P (T.setTop (mkF m pc Ls st)) := by
  subst hp
  obtain ⟨v, vm1, ⟨T', L', k', n'⟩, -, X', hS2, hgr, ⟨Lc, hQ, l1, y1, z1, CR⟩, k⟩ := X.specialBackS hx (y := y) hy1 hown hlink hinst hcode hy hK (g := mkF m pc Ls st) rfl hsize (Steps.refl _) (a := a) (argsL := argsL) (rest := rest) hlen hstack (by show 2 * 0 + _ ≤ _; omega) hd (fun _ _ => ⟨rfl, eT, hc, hl⟩)
  dsimp only [Pt.U, Pt.locs, Pt.cells, Pt.slots] at X' l1 y1 z1 k hQ hS2 hgr CR
  subst l1 y1 z1
  obtain ⟨X2, q1, q2, q3⟩ := rebS hS hk X' hS2 (by rw [← eT]; exact hgr) hZ hown
  exact Go.tr k (K v T' Lc X2 q1 q2 q3 CR hQ)
theorem w_callS (X : Stand p l e R (s.setVm vm) m args below meth c T locs cells slots) (hx : p.tables.exec = Jvm.exec) (hZ : Z.Warmed39 (s.setVm vm).vm) {own : String} {index : Nat} {y : MethodName} {bytes : ByteArray} {maxL : Nat} {ret : Option FieldType}
    (hown : (s.setVm vm).vm.findClass own = some m.cls) (hlink : (Cond.methodLink own index y).before args (s.setVm vm) = true) (hstat : (Cond.static y).before args (s.setVm vm) = true) (hinit : (Cond.initialized y.cls).before args (s.setVm vm) = true)
    (hcode : (Cond.code y bytes maxL ret).before args (s.setVm vm) = true) (hy : y.cls ≠ "java/lang/invoke/MethodHandle" ∧ y.cls ≠ "java/lang/invoke/VarHandle")
    {W rc rs : Nat} (argsL : List Value) {Q : Option Value → Heap → List Loc → Prop} (hK : BackS l R p e below (s.setVm vm) args y 3 W (fun A b => b = argsL.toArray ∧ A.U.heap = h ∧ A.cells + rc ≤ R.cells ∧ A.slots + rs ≤ R.slots) (fun A _ v B => ∃ L, Q v B.U.heap L ∧ B.locs = A.locs ++ L ∧ B.cells = A.cells + rc ∧ B.slots = A.slots + rs ∧ CHr Z EL vm h B.U.vm B.U.heap))
    (eT : T.heap = h) {k0 : Nat} (hS : s.Since vm k0) (hk : k0 ≤ h.size) (hsize : Ls.size = c.maxLocals) (rest : List Value) (hlen : ∀ sig, parseMethodDescriptor y.desc = some sig → argsL.length = sig.parameters.length)
    (hstack : st = argsL.reverse ++ rest) (hW : (rest.map fun v => v.category).sum ≤ W) (hd : decode c.code pc = .ok (.invokestatic index, 3)) (hc : cells + rc ≤ R.cells) (hl : slots + rs ≤ R.slots) (pc' : Nat) (hp : pc + 3 = pc')
    (K : ∀ v T' L, Stand p l e R (s.setVm T'.vm) m args below meth c T' (locs ++ L) (cells + rc) (slots + rs) → s.Since T'.vm T'.heap.size → Z.Warmed39 (s.setVm T'.vm).vm → (s.setVm T'.vm).vm.findClass own = some m.cls → CHr Z EL vm h T'.vm T'.heap → Q v T'.heap L → Go p e below P (T'.setTop (mkF m pc' Ls (v.toList ++ rest)))) : Go p e below P (T.setTop (mkF m pc Ls st)) := by
  subst hp
  obtain ⟨v, vm1, ⟨T', L', k', n'⟩, -, X', hS2, hgr, ⟨Lc, hQ, l1, y1, z1, CR⟩, k⟩ := callSS X hx (y := y) hown hlink hstat hinit hcode hy hK (g := mkF m pc Ls st) rfl hsize (argsL := argsL) (rest := rest) hlen hstack (by show 2 * 0 + _ ≤ _; omega) hd (fun _ _ => ⟨rfl, eT, hc, hl⟩)
  dsimp only [Pt.U, Pt.locs, Pt.cells, Pt.slots] at X' l1 y1 z1 k hQ hS2 hgr CR
  subst l1 y1 z1
  obtain ⟨X2, q1, q2, q3⟩ := rebS hS hk X' hS2 (by rw [← eT]; exact hgr) hZ hown
  exact Go.tr k (K v T' Lc X2 q1 q2 q3 CR hQ)
theorem w_virtual (X : Stand p l e R (s.setVm vm) m args below meth c T locs cells slots) (hx : p.tables.exec = Jvm.exec) (hZ : Z.Warmed39 (s.setVm vm).vm) {own C : String} {index : Nat} {y z : MethodName}
    (hown : (s.setVm vm).vm.findClass own = some m.cls) (hlink : (Cond.methodLink own index y).before args (s.setVm vm) = true) (hdecl : (Cond.declares y).before args (s.setVm vm) = true) (hnf : NotFace (s.setVm vm) y)
    (hsel : (Cond.selects C y z).before args (s.setVm vm) = true) (hinst : (Cond.instanceMethod z).before args (s.setVm vm) = true) (hy : y.cls ≠ "java/lang/invoke/MethodHandle" ∧ y.cls ≠ "java/lang/invoke/VarHandle")
    {W rc rs : Nat} {a : Addr} (argsL : List Value) {Q : Option Value → Heap → List Loc → Prop} (hK : BackS l R p e below (s.setVm vm) args z 3 W (fun A b => b = (.ref a :: argsL).toArray ∧ A.U.heap = h ∧ A.cells + rc ≤ R.cells ∧ A.slots + rs ≤ R.slots) (fun A _ v B => ∃ L, Q v B.U.heap L ∧ B.locs = A.locs ++ L ∧ B.cells = A.cells + rc ∧ B.slots = A.slots + rs ∧ CHr Z EL vm h B.U.vm B.U.heap))
    (E : Exa Z h a C) (eT : T.heap = h) {k0 : Nat} (hS : s.Since vm k0) (hk : k0 ≤ h.size) (hsize : Ls.size = c.maxLocals) (rest : List Value) (hlen : ∀ sig, parseMethodDescriptor y.desc = some sig → argsL.length = sig.parameters.length)
    (hstack : st = argsL.reverse ++ .ref a :: rest) (hW : (rest.map fun v => v.category).sum ≤ W) (hd : decode c.code pc = .ok (.invokevirtual index, 3)) (hc : cells + rc ≤ R.cells) (hl : slots + rs ≤ R.slots) (pc' : Nat) (hp : pc + 3 = pc')
    (K : ∀ v T' L, Stand p l e R (s.setVm T'.vm) m args below meth c T' (locs ++ L) (cells + rc) (slots + rs) → s.Since T'.vm T'.heap.size → Z.Warmed39 (s.setVm T'.vm).vm → (s.setVm T'.vm).vm.findClass own = some m.cls → CHr Z EL vm h T'.vm T'.heap → Q v T'.heap L → Go p e below P (T'.setTop (mkF m pc' Ls (v.toList ++ rest)))) : Go p e below P (T.setTop (mkF m pc Ls st)) := by
  subst hp
  obtain ⟨cq, kq, qa, qb, qc⟩ := isOf hZ eT E
  obtain ⟨v, vm1, ⟨T', L', k', n'⟩, -, X', hS2, hgr, ⟨Lc, hQ, l1, y1, z1, CR⟩, k⟩ := X.virtualBackS hx (y := y) (z := z) hown hlink hdecl hnf hsel hinst hy hK qa qc (g := mkF m pc Ls st) rfl hsize (Steps.refl _) (argsL := argsL) (rest := rest) hlen hstack (by show 2 * 0 + _ ≤ _; omega) hd (fun _ _ => ⟨rfl, eT, hc, hl⟩)
  dsimp only [Pt.U, Pt.locs, Pt.cells, Pt.slots] at X' l1 y1 z1 k hQ hS2 hgr CR
  subst l1 y1 z1
  obtain ⟨X2, q1, q2, q3⟩ := rebS hS hk X' hS2 (by rw [← eT]; exact hgr) hZ hown
  exact Go.tr k (K v T' Lc X2 q1 q2 q3 CR hQ)
theorem backW {y : MethodName} {bytes : ByteArray} {maxL : Nat} {ret : Option FieldType} {rm : Room} {len W : Nat} {as' : Array Value} {Q : Option Value → Heap → List Loc → Prop} {SF : List Addr}
    (hM : MetFree l y (head1 [Cond.code y bytes maxL ret] rm) (fun a U => a = as' ∧ Z.Warmed39 U.vm ∧ U.heap = h ∧ CHv Z EL U.vm h ∧ ∀ x ∈ SF, Safe Z EL U.vm h x) (fun _ _ _ _ _ => True) (fun _ U o U' => EndW Z EL U Q rm.cells rm.slots o U'))
    (hZ : Z.Warmed39 (s.setVm vm).vm) (wc : (Cond.code y bytes maxL ret).before a0 Z = true) (wz : (Cond.initialized y.cls).before a0 Z = true) (hf : rm.frames + 1 ≤ R.frames) (hl : W + (maxL + 11) + rm.locals ≤ R.locals) (hEL : EW Z a0 EL) (H : CHv Z EL vm h) (hSF : ∀ x ∈ SF, x < h.size ∧ Safe Z EL vm h x) :
    BackS l R p e below (s.setVm vm) args y len W (fun A a => a = as' ∧ A.U.heap = h ∧ A.cells + rm.cells ≤ R.cells ∧ A.slots + rm.slots ≤ R.slots)
      (fun A _ v B => ∃ L, Q v B.U.heap L ∧ B.locs = A.locs ++ L ∧ B.cells = A.cells + rm.cells ∧ B.slots = A.slots + rm.slots ∧ CHr Z EL vm h B.U.vm B.U.heap) :=
  BackS.of_freeW (bytes := bytes) (maxL := maxL) (ret := ret) (E := fun _ first o t L k n => k = rm.cells ∧ n = rm.slots ∧ (∃ v, o = .returned v ∧ Q v t.heap L) ∧ CHr Z EL first.vm first.heap t.vm t.heap) hM hf hl
    (fun m meth c A a Y hp => have hU : Z.Warmed39 A.U.vm := wtrans (s := s.setVm vm) hZ Y.warmed
      ⟨by show (Cond.and _ .tt).before a A.U = true; rw [Cond.before_and, mv hU wc]; rfl, mv hU wc, mv hU wz, hp.2.2.1, hp.2.2.2⟩)
    (fun m meth c A a g mk Y hp => ⟨hp.1, wtrans (s := s.setVm vm) hZ Y.warmed, hp.2.1, (CHv.at Y hZ hEL H).1, fun x hx => (CHv.at Y hZ hEL H).safe (hSF x hx).1 (hSF x hx).2⟩) (fun _ _ _ _ _ _ _ _ _ => trivial)
    (fun _ _ _ _ ⟨v, L, h1, h2, h3, h4⟩ => ⟨L, _, _, h4, rfl, rfl, ⟨v, h1, h2⟩, h3⟩)
    (fun m meth c A a g mk v t L k n Y hp _ _ ⟨e1, e2, ⟨v', e3, e4⟩, e5⟩ => by
      cases e3; subst e1 e2
      refine ⟨L, e4, rfl, rfl, rfl, (CHv.at Y hZ hEL H).trans ?_⟩
      rw [← hp.2.1]; exact e5)
end Wide
end Jvm.Own
/- laws to paste: Road.backV, Road.lenW, Road.chN, Road.codOf (cut by pick.py; bodies as the Statement names them) -/
namespace Jvm.Pilot.@@N@@
namespace StrChars
open Jvm Sem ClassFile Op Lib Jvm.Stand Jvm.Free.XT Jvm.Free.ALB Jvm.Free.JM Jvm.Free
open Jvm.Lib.Cold (StaticIs)
/-- a char array whose places are chars -/
def Ch (a : Addr) (A : Cell) (U : State) : Prop := Arr .char a A U ∧ Typed .char A
theorem Ch.mv {a : Addr} {A : Cell} {U U' : State} (h : Ch a A U) (hal : U.vm.Alike U'.vm) (hh : U'.heap = U.heap) : Ch a A U' := ⟨h.1.mv hal hh, h.2⟩
theorem Ch.keep {a : Addr} {A : Cell} {U U' : State} (h : Ch a A U) (hal : U.vm.Alike U'.vm) (hk : U'.heap[a]? = some A) : Ch a A U' := ⟨h.1.keep hal hk, h.2⟩
/-- what place i of a char[]'s cell holds -/
def cv (A : Cell) (i : Nat) : Int32 := match A.slots[i]? with | some (.int x) => x | _ => 0
theorem Ch.get {a : Addr} {A : Cell} {U : State} (h : Ch a A U) {i : Nat} (hi : i < A.slots.size) : A.slots[i]? = some (.int (cv A i)) := by
  have e := Array.getElem?_eq_getElem hi
  have f := h.2 i _ e
  unfold cv; rw [e]
  generalize A.slots[i] = v at f
  cases v <;> simp [fits] at f ⊢
/-- the byte that i2b leaves of a char -/
def lo8 (x : Int32) : Int32 := x.toInt8.toInt32
theorem fits_lo8 (y : Int32) : fits .byte (.int (lo8 y)) = true := by
  have h1 := y.toInt8.le_toInt
  have h2 := y.toInt8.toInt_lt
  simp only [lo8, fits, Bool.and_eq_true, decide_eq_true_eq, Int32.le_iff_toInt_le, Int8.toInt_toInt32, show (-128 : Int32).toInt = -128 from by decide, show (127 : Int32).toInt = 127 from by decide]
  omega
/-- A' is A but that each place j of lo .. hi - 1 holds f j -/
def Laid (A A' : Cell) (lo hi : Nat) (f : Nat → Value) : Prop := A'.cls = A.cls ∧ A'.vm = A.vm ∧ A'.slots.size = A.slots.size ∧ ∀ i, A'.slots[i]? = if lo ≤ i ∧ i < hi then some (f i) else A.slots[i]?
theorem Laid.zero (A : Cell) (lo : Nat) (f : Nat → Value) : Laid A A lo (lo + 0) f := ⟨rfl, rfl, rfl, fun i => by rw [if_neg (by omega)]⟩
theorem Laid.step {A Ak : Cell} {lo k : Nat} {f : Nat → Value} {v : Value} (h : Laid A Ak lo k f) (hlo : lo ≤ k) (hk : k < Ak.slots.size) (hv : v = f k) : Laid A (Ak.setSlot k v) lo (k + 1) f := by
  refine ⟨h.1, h.2.1, by simpa [Cell.setSlot] using h.2.2.1, fun i => ?_⟩
  by_cases e : k = i
  · subst e; rw [Cell.slots_setSlot_self v hk, if_pos (by omega), hv]
  · rw [Cell.slots_setSlot_ne v e, h.2.2.2 i]
    by_cases q : lo ≤ i ∧ i < k
    · rw [if_pos q, if_pos (by omega)]
    · rw [if_neg q, if_neg (by omega)]
def U16 : String := "java/lang/StringUTF16"
namespace Cmp5
def yN : MethodName := ⟨"java/lang/StringUTF16", "compress", "([CI[BII)I"⟩
abbrev yB : ByteArray := jdk_52_method_21_code
theorem d0 : decode yB 0 = .ok (.iconst 0, 1) := by decide +kernel
theorem d1 : decode yB 1 = .ok (.istore 5, 2) := by decide +kernel
theorem d3 : decode yB 3 = .ok (.iload 5, 2) := by decide +kernel
theorem d5 : decode yB 5 = .ok (.iload 4, 2) := by decide +kernel
theorem d7 : decode yB 7 = .ok (.if_icmp (.ge) 37, 3) := by decide +kernel
theorem d10 : decode yB 10 = .ok (.aload_n 0, 1) := by decide +kernel
theorem d11 : decode yB 11 = .ok (.iload_n 1, 1) := by decide +kernel
theorem d12 : decode yB 12 = .ok (.caload, 1) := by decide +kernel
theorem d13 : decode yB 13 = .ok (.istore 6, 2) := by decide +kernel
theorem d15 : decode yB 15 = .ok (.iload 6, 2) := by decide +kernel
theorem d17 : decode yB 17 = .ok (.sipush 255, 3) := by decide +kernel
theorem d20 : decode yB 20 = .ok (.if_icmp (.le) 6, 3) := by decide +kernel
theorem d26 : decode yB 26 = .ok (.aload_n 2, 1) := by decide +kernel
theorem d27 : decode yB 27 = .ok (.iload_n 3, 1) := by decide +kernel
theorem d28 : decode yB 28 = .ok (.iload 6, 2) := by decide +kernel
theorem d30 : decode yB 30 = .ok (.i2b, 1) := by decide +kernel
theorem d31 : decode yB 31 = .ok (.bastore, 1) := by decide +kernel
theorem d32 : decode yB 32 = .ok (.iinc 1 1, 3) := by decide +kernel
theorem d35 : decode yB 35 = .ok (.iinc 3 1, 3) := by decide +kernel
theorem d38 : decode yB 38 = .ok (.iinc 5 1, 3) := by decide +kernel
theorem d41 : decode yB 41 = .ok (.goto (-38), 3) := by decide +kernel
theorem d44 : decode yB 44 = .ok (.iload 4, 2) := by decide +kernel
theorem d46 : decode yB 46 = .ok (.ireturn, 1) := by decide +kernel
def site : List Cond := []
def tab : Cond := tabOf yN yB 7 (some .int) site
def P (b : Addr) (A : Cell) (d : Addr) (B : Cell) (o q len : Nat) (args : Array Value) (s : State) : Prop := args = #[.ref b, .int (Int32.ofNat o), .ref d, .int (Int32.ofNat q), .int (Int32.ofNat len)] ∧ Ch b A s ∧ Arr .byte d B s ∧ b ≠ d ∧ o + len ≤ A.slots.size ∧ q + len ≤ B.slots.size ∧ ∀ i, i < len → ¬ 255 < cv A (o + i)
def E (b : Addr) (A : Cell) (d : Addr) (B : Cell) (o q len : Nat) (r : Option Value) (s u : State) : Prop := r = some (.int (Int32.ofNat len)) ∧ ∃ B', Put d B' s u ∧ Laid B B' q (q + len) (fun j => Value.int (lo8 (cv A (o + (j - q)))))
/-- no char of the range above 255: len; the places written hold each char's low byte -/
theorem law (l : Launch) (b : Addr) (A : Cell) (d : Addr) (B : Cell) (o q len : Nat) : Law l yN 5 5 0 0 yB 7 (some .int) site (P b A d B o q len) (E b A d B o q len) (copyLocs d q len) 0 0 := by
  refine Law.of_walk (plainFor_of_name (by decide +kernel)) (by decide +kernel) (by decide +kernel) (by decide) (fun _ _ h => by rw [h.1]; rfl) (fun _ U U' hal hh h => ⟨h.1, h.2.1.mv hal hh, h.2.2.1.mv hal hh, h.2.2.2⟩) (fun r U U' V V' h1 hal h2 h => ⟨h.1, h.2.elim fun B' q => ⟨B', q.1.mv h1 h2, q.2⟩⟩) ?_
  intro p e s m args below meth c s₁ X0 hexec hbytes hml hret hlk hnm hown hh0 W hP
  obtain ⟨rfl, hA, hB, hne, l1, l2, hp⟩ := hP
  have c1 : Steps p.tables e below (s₁.setTop (entryFrame m #[.ref b, .int (Int32.ofNat o), .ref d, .int (Int32.ofNat q), .int (Int32.ofNat len)] 7)) (s₁.setTop (mkF m 0 #[.val (.ref b), .val (.int (Int32.ofNat o)), .val (.ref d), .val (.int (Int32.ofNat q)), .val (.int (Int32.ofNat len)), .unset, .unset] [])) := entry rfl
  have hA0 := hA.1.mv X0.warmed.alike hh0
  have hB0 := hB.mv X0.warmed.alike hh0
  have a31 := hA.1.2.2.2
  have c2 : Steps p.tables e below (s₁.setTop (entryFrame m #[.ref b, .int (Int32.ofNat o), .ref d, .int (Int32.ofNat q), .int (Int32.ofNat len)] 7)) (s₁.setTop (mkF m 3 #[.val (.ref b), .val (.int (Int32.ofNat o)), .val (.ref d), .val (.int (Int32.ofNat q)), .val (.int (Int32.ofNat len)), .val (.int 0), .unset] [])) := c1.trans (by
    refine iconstV X0.here hexec rfl 0 (hb hbytes d0) (by decide) ?_
    refine XS.istore X0.here hexec rfl (hb hbytes d1) rfl rfl ?_
    exact Steps.refl _)
  have loop : ∀ (r i : Nat), i + r = len → ∀ (z : Slot), (z = .unset ∨ ∃ w, z = .val w ∧ w.category = 1) → ∀ (Tl : State) (Bk : Cell), Stand p l e { frames := 0, locals := 0, cells := 0, slots := 0 } s m #[.ref b, .int (Int32.ofNat o), .ref d, .int (Int32.ofNat q), .int (Int32.ofNat len)] below meth c Tl ([] ++ copyLocs d q i) 0 0 → Put d Bk s₁ Tl → Laid B Bk q (q + i) (fun j => Value.int (lo8 (cv A (o + (j - q))))) →
      Steps p.tables e below (s₁.setTop (entryFrame m #[.ref b, .int (Int32.ofNat o), .ref d, .int (Int32.ofNat q), .int (Int32.ofNat len)] 7)) (Tl.setTop (mkF m 3 #[.val (.ref b), .val (.int (Int32.ofNat (o + i))), .val (.ref d), .val (.int (Int32.ofNat (q + i))), .val (.int (Int32.ofNat len)), .val (.int (Int32.ofNat i)), z] [])) → ∃ (T' : State) (B' : Cell) (z' : Slot), Stand p l e { frames := 0, locals := 0, cells := 0, slots := 0 } s m #[.ref b, .int (Int32.ofNat o), .ref d, .int (Int32.ofNat q), .int (Int32.ofNat len)] below meth c T' ([] ++ copyLocs d q len) 0 0 ∧ Put d B' s₁ T' ∧ Laid B B' q (q + len) (fun j => Value.int (lo8 (cv A (o + (j - q))))) ∧
      Steps p.tables e below (s₁.setTop (entryFrame m #[.ref b, .int (Int32.ofNat o), .ref d, .int (Int32.ofNat q), .int (Int32.ofNat len)] 7)) (T'.setTop (mkF m 3 #[.val (.ref b), .val (.int (Int32.ofNat (o + len))), .val (.ref d), .val (.int (Int32.ofNat (q + len))), .val (.int (Int32.ofNat len)), .val (.int (Int32.ofNat len)), z'] [])) := by
    intro r
    induction r with
    | zero =>
      intro i hi z hz Tl Bk Xl pl fl cl
      have hil : i = len := by omega
      rw [hil] at Xl fl cl
      exact ⟨Tl, Bk, z, Xl, pl, fl, cl⟩
    | succ r ih =>
      intro i hi z hz Tl Bk Xl pl fl cl
      have all := X0.warmed.alike.symm.trans Xl.warmed.alike
      have hAl := hA0.keep all (pl.other hne hA0.1)
      have hBk := hB0.like all pl.1 fl.1 fl.2.1 fl.2.2.1
      have hlt : q + i < Bk.slots.size := by rw [fl.2.2.1]; omega
      have c3 : Steps p.tables e below (s₁.setTop (entryFrame m #[.ref b, .int (Int32.ofNat o), .ref d, .int (Int32.ofNat q), .int (Int32.ofNat len)] 7)) (Tl.setTop (mkF m 12 #[.val (.ref b), .val (.int (Int32.ofNat (o + i))), .val (.ref d), .val (.int (Int32.ofNat (q + i))), .val (.int (Int32.ofNat len)), .val (.int (Int32.ofNat i)), z] [.int (Int32.ofNat (o + i)), .ref b])) := cl.trans (by
        refine XS.iload Xl.here hexec rfl (hb hbytes d3) rfl ?_
        refine XS.iload Xl.here hexec rfl (hb hbytes d5) rfl ?_
        refine XS.icmpNo Xl.here hexec rfl (hb hbytes d7) rfl (ii_ge_f (lt32 (by omega) (by omega))) ?_
        refine XS.aloadN Xl.here hexec rfl (hb hbytes d10) rfl rfl ?_
        refine XS.iloadN Xl.here hexec rfl (hb hbytes d11) rfl ?_
        exact Steps.refl _)
      have c4 : Steps p.tables e below (s₁.setTop (entryFrame m #[.ref b, .int (Int32.ofNat o), .ref d, .int (Int32.ofNat q), .int (Int32.ofNat len)] 7)) (Tl.setTop (mkF m 13 #[.val (.ref b), .val (.int (Int32.ofNat (o + i))), .val (.ref d), .val (.int (Int32.ofNat (q + i))), .val (.int (Int32.ofNat len)), .val (.int (Int32.ofNat i)), z] [.int (cv A (o + i))])) := c3.trans (by
        refine Xl.aget hexec hAl rfl (hA.get (i := o + i) (by omega)) rfl rfl (hb hbytes d12) ?_
        exact Steps.refl _)
      have c5 : Steps p.tables e below (s₁.setTop (entryFrame m #[.ref b, .int (Int32.ofNat o), .ref d, .int (Int32.ofNat q), .int (Int32.ofNat len)] 7)) (Tl.setTop (mkF m 15 #[.val (.ref b), .val (.int (Int32.ofNat (o + i))), .val (.ref d), .val (.int (Int32.ofNat (q + i))), .val (.int (Int32.ofNat len)), .val (.int (Int32.ofNat i)), .val (.int (cv A (o + i)))] [])) := c4.trans (by
        refine XS.istoreS Xl.here hexec rfl (hb hbytes d13) rfl rfl hz ?_
        exact Steps.refl _)
      have c6 : Steps p.tables e below (s₁.setTop (entryFrame m #[.ref b, .int (Int32.ofNat o), .ref d, .int (Int32.ofNat q), .int (Int32.ofNat len)] 7)) (Tl.setTop (mkF m 31 #[.val (.ref b), .val (.int (Int32.ofNat (o + i))), .val (.ref d), .val (.int (Int32.ofNat (q + i))), .val (.int (Int32.ofNat len)), .val (.int (Int32.ofNat i)), .val (.int (cv A (o + i)))] [.int (lo8 (cv A (o + i))), .int (Int32.ofNat (q + i)), .ref d])) := c5.trans (by
        refine XS.iload Xl.here hexec rfl (hb hbytes d15) rfl ?_
        refine sipushV Xl.here hexec rfl 255 (hb hbytes d17) (by decide) ?_
        refine XS.icmpYes Xl.here hexec rfl (pc0 := 20) rfl (hb hbytes d20) rfl (ii_le_t (hp i (by omega))) (by decide) rfl ?_
        refine XS.aloadN Xl.here hexec rfl (hb hbytes d26) rfl rfl ?_
        refine XS.iloadN Xl.here hexec rfl (hb hbytes d27) rfl ?_
        refine XS.iload Xl.here hexec rfl (hb hbytes d28) rfl ?_
        refine i2b Xl.here hexec rfl (hb hbytes d30) rfl ?_
        exact Steps.refl _)
      obtain ⟨T7, X7, p7, st7⟩ := Xl.aput hexec hBk rfl hlt rfl (fits_lo8 (cv A (o + i))) (g := (mkF m 31 #[.val (.ref b), .val (.int (Int32.ofNat (o + i))), .val (.ref d), .val (.int (Int32.ofNat (q + i))), .val (.int (Int32.ofNat len)), .val (.int (Int32.ofNat i)), .val (.int (cv A (o + i)))] [.int (lo8 (cv A (o + i))), .int (Int32.ofNat (q + i)), .ref d])) rfl (rest := []) rfl (hb hbytes d31)
      have c8 : Steps p.tables e below (s₁.setTop (entryFrame m #[.ref b, .int (Int32.ofNat o), .ref d, .int (Int32.ofNat q), .int (Int32.ofNat len)] 7)) (T7.setTop (mkF m 32 #[.val (.ref b), .val (.int (Int32.ofNat (o + i))), .val (.ref d), .val (.int (Int32.ofNat (q + i))), .val (.int (Int32.ofNat len)), .val (.int (Int32.ofNat i)), .val (.int (cv A (o + i)))] [])) := c6.trans (st7 _ (Steps.refl _))
      have c9 : Steps p.tables e below (s₁.setTop (entryFrame m #[.ref b, .int (Int32.ofNat o), .ref d, .int (Int32.ofNat q), .int (Int32.ofNat len)] 7)) (T7.setTop (mkF m 3 #[.val (.ref b), .val (.int (Int32.ofNat (o + i) + 1)), .val (.ref d), .val (.int (Int32.ofNat (q + i) + 1)), .val (.int (Int32.ofNat len)), .val (.int (Int32.ofNat i + 1)), .val (.int (cv A (o + i)))] [])) := c8.trans (by
        refine iincV X7.here hexec rfl 1 (hb hbytes d32) (by decide) rfl rfl ?_
        refine iincV X7.here hexec rfl 1 (hb hbytes d35) (by decide) rfl rfl ?_
        refine iincV X7.here hexec rfl 1 (hb hbytes d38) (by decide) rfl rfl ?_
        refine XS.goto X7.here hexec rfl (pc0 := 41) rfl (hb hbytes d41) (by decide) rfl ?_
        exact Steps.refl _)
      have c10 : Steps p.tables e below (s₁.setTop (entryFrame m #[.ref b, .int (Int32.ofNat o), .ref d, .int (Int32.ofNat q), .int (Int32.ofNat len)] 7)) (T7.setTop (mkF m 3 #[.val (.ref b), .val (.int (Int32.ofNat (o + (i + 1)))), .val (.ref d), .val (.int (Int32.ofNat (q + (i + 1)))), .val (.int (Int32.ofNat len)), .val (.int (Int32.ofNat (i + 1))), .val (.int (cv A (o + i)))] [])) := by
        have := c9
        rw [succ32, succ32, succ32] at this
        exact this
      exact ih (i + 1) (by omega) _ (Or.inr ⟨_, rfl, rfl⟩) T7 _ (by rw [copyLocs_step, ← List.append_assoc]; exact X7) (pl.trans p7) (fl.step (by omega) hlt (by simp)) c10
  obtain ⟨T9, B9, z9, X9, p9, f9, g9⟩ := loop len 0 (by omega) .unset (Or.inl rfl) s₁ B (by simpa [copyLocs] using X0) ⟨hB0.1, fun _ _ => rfl, rfl⟩ (Laid.zero _ _ _) c2
  have c11 : Steps p.tables e below (s₁.setTop (entryFrame m #[.ref b, .int (Int32.ofNat o), .ref d, .int (Int32.ofNat q), .int (Int32.ofNat len)] 7)) (T9.setTop (mkF m 46 #[.val (.ref b), .val (.int (Int32.ofNat (o + len))), .val (.ref d), .val (.int (Int32.ofNat (q + len))), .val (.int (Int32.ofNat len)), .val (.int (Int32.ofNat len)), z9] [.int (Int32.ofNat len)])) := g9.trans (by
    refine XS.iload X9.here hexec rfl (hb hbytes d3) rfl ?_
    refine XS.iload X9.here hexec rfl (hb hbytes d5) rfl ?_
    refine XS.icmpYes X9.here hexec rfl (pc0 := 7) rfl (hb hbytes d7) rfl (ii_ge_t (nlt32 (by omega) (Nat.le_refl _))) (by decide) rfl ?_
    refine XS.iload X9.here hexec rfl (hb hbytes d44) rfl ?_
    exact Steps.refl _)
  exact ⟨T9, some (.int (Int32.ofNat len)), _, _, _, X9, by simp, rfl, rfl, (fun h => by cases h), ⟨rfl, B9, p9.from hh0, f9⟩, fun fs hl => c11.trans (X9.ireturnOut hexec hret rfl (Or.inl rfl) (hb hbytes d46) hl)⟩
end Cmp5
namespace Cmp3
def yN : MethodName := ⟨"java/lang/StringUTF16", "compress", "([CII)[B"⟩
abbrev yB : ByteArray := jdk_52_method_16_code
theorem d0 : decode yB 0 = .ok (.iload_n 2, 1) := by decide +kernel
theorem d1 : decode yB 1 = .ok (.newarray .byte, 2) := by decide +kernel
theorem d3 : decode yB 3 = .ok (.astore_n 3, 1) := by decide +kernel
theorem d4 : decode yB 4 = .ok (.aload_n 0, 1) := by decide +kernel
theorem d5 : decode yB 5 = .ok (.iload_n 1, 1) := by decide +kernel
theorem d6 : decode yB 6 = .ok (.aload_n 3, 1) := by decide +kernel
theorem d7 : decode yB 7 = .ok (.iconst 0, 1) := by decide +kernel
theorem d8 : decode yB 8 = .ok (.iload_n 2, 1) := by decide +kernel
theorem d9 : decode yB 9 = .ok (.invokestatic 115, 3) := by decide +kernel
theorem d12 : decode yB 12 = .ok (.istore 4, 2) := by decide +kernel
theorem d14 : decode yB 14 = .ok (.iload 4, 2) := by decide +kernel
theorem d16 : decode yB 16 = .ok (.iload_n 2, 1) := by decide +kernel
theorem d17 : decode yB 17 = .ok (.if_icmp (.eq) 40, 3) := by decide +kernel
theorem d57 : decode yB 57 = .ok (.aload_n 3, 1) := by decide +kernel
theorem d58 : decode yB 58 = .ok (.areturn, 1) := by decide +kernel
def site : List Cond := [.arrayClass .byte, Cmp5.tab] ++ staticW U16 115 Cmp5.yN
def tab : Cond := tabOf yN yB 6 (some (.array .byte)) site
def P (b : Addr) (A : Cell) (o len : Nat) (args : Array Value) (s : State) : Prop := args = #[.ref b, .int (Int32.ofNat o), .int (Int32.ofNat len)] ∧ Ch b A s ∧ o + len ≤ A.slots.size ∧ len ≤ 536870912 ∧ ∀ i, i < len → ¬ 255 < cv A (o + i)
def E (b : Addr) (A : Cell) (o len : Nat) (r : Option Value) (s u : State) : Prop := NewArr .byte "[B" len (fun j => .int (lo8 (cv A (o + j)))) r s u ∧ u.heap.size = s.heap.size + 1
/-- no char of the range above 255: a new byte[] of their low bytes -/
theorem law (l : Launch) (b : Addr) (A : Cell) (o len : Nat) : Law l yN 3 3 1 18 yB 6 (some (.array .byte)) site (P b A o len) (E b A o len) [] 1 len := by
  refine Law.of_walk (plainFor_of_name (by decide +kernel)) (by decide +kernel) (by decide +kernel) (by decide) (fun _ _ h => by rw [h.1]; rfl) (fun _ U U' hal hh h => ⟨h.1, h.2.1.mv hal hh, h.2.2⟩) (fun r U U' V V' h1 hal h2 h => ⟨NewArr.mv r U U' V V' h1 hal h2 h.1, by rw [h1, h2]; exact h.2⟩) ?_
  intro p e s m args below meth c s₁ X0 hexec hbytes hml hret hlk hnm hown hh0 W hP
  obtain ⟨rfl, hA, l1, l2, hp⟩ := hP
  have a31 := hA.1.2.2.2
  have c1 : Steps p.tables e below (s₁.setTop (entryFrame m #[.ref b, .int (Int32.ofNat o), .int (Int32.ofNat len)] 6)) (s₁.setTop (mkF m 0 #[.val (.ref b), .val (.int (Int32.ofNat o)), .val (.int (Int32.ofNat len)), .unset, .unset, .unset] [])) := entry rfl
  have c2 : Steps p.tables e below (s₁.setTop (entryFrame m #[.ref b, .int (Int32.ofNat o), .int (Int32.ofNat len)] 6)) (s₁.setTop (mkF m 1 #[.val (.ref b), .val (.int (Int32.ofNat o)), .val (.int (Int32.ofNat len)), .unset, .unset, .unset] [.int (Int32.ofNat len)])) := c1.trans (by
    refine XS.iloadN X0.here hexec rfl (hb hbytes d0) rfl ?_
    exact Steps.refl _)
  obtain ⟨T3, B3, X3, ba3, bs3, bv3, bh3, bf3, st3⟩ := X0.anew hexec (atype := .byte) (wk W (.arrayClass .byte)) rfl (by show len * 1 ≤ _; omega) (by omega) (g := (mkF m 1 #[.val (.ref b), .val (.int (Int32.ofNat o)), .val (.int (Int32.ofNat len)), .unset, .unset, .unset] [.int (Int32.ofNat len)])) rfl (hb hbytes d1) (rest := []) rfl (Nat.le_refl _) (by show 0 + len ≤ len; omega)
  rw [hh0] at ba3 st3
  have kp3 : XT.Kept s T3 := (XT.Kept.of_eq hh0).push bh3
  have hA3 := hA.keep X3.warmed.alike (kp3 _ _ hA.1.1)
  have hne : b ≠ s.heap.size := hA.1.ne
  have c4 : Steps p.tables e below (s₁.setTop (entryFrame m #[.ref b, .int (Int32.ofNat o), .int (Int32.ofNat len)] 6)) (T3.setTop (mkF m 3 #[.val (.ref b), .val (.int (Int32.ofNat o)), .val (.int (Int32.ofNat len)), .unset, .unset, .unset] [.ref s.heap.size])) := c2.trans (st3 _ (Steps.refl _))
  have c5 : Steps p.tables e below (s₁.setTop (entryFrame m #[.ref b, .int (Int32.ofNat o), .int (Int32.ofNat len)] 6)) (T3.setTop (mkF m 9 #[.val (.ref b), .val (.int (Int32.ofNat o)), .val (.int (Int32.ofNat len)), .val (.ref s.heap.size), .unset, .unset] [.int (Int32.ofNat len), .int 0, .ref s.heap.size, .int (Int32.ofNat o), .ref b])) := c4.trans (by
    refine XS.astoreN X3.here hexec rfl (hb hbytes d3) rfl rfl rfl ?_
    refine XS.aloadN X3.here hexec rfl (hb hbytes d4) rfl rfl ?_
    refine XS.iloadN X3.here hexec rfl (hb hbytes d5) rfl ?_
    refine XS.aloadN X3.here hexec rfl (hb hbytes d6) rfl rfl ?_
    refine iconstV X3.here hexec rfl 0 (hb hbytes d7) (by decide) ?_
    refine XS.iloadN X3.here hexec rfl (hb hbytes d8) rfl ?_
    exact Steps.refl _)
  obtain ⟨v6, T6, X6, E6, g6⟩ := X3.callS hexec (Cmp5.law l b A s.heap.size B3 o 0 len) hown (wks W (staticW U16 115 Cmp5.yN)) (wk W Cmp5.tab) (W := 0) (Nat.le_of_ble_eq_true rfl) (Nat.le_of_ble_eq_true rfl) (Nat.le_refl _) (by show 0 + len + 0 ≤ len; omega) (g := (mkF m 9 #[.val (.ref b), .val (.int (Int32.ofNat o)), .val (.int (Int32.ofNat len)), .val (.ref s.heap.size), .unset, .unset] [.int (Int32.ofNat len), .int (Int32.ofNat 0), .ref s.heap.size, .int (Int32.ofNat o), .ref b])) rfl (by rw [hml]; rfl) c5 (argsL := [.ref b, .int (Int32.ofNat o), .ref s.heap.size, .int (Int32.ofNat 0), .int (Int32.ofNat len)]) (rest := []) rfl rfl (by show 2 * 0 + 0 ≤ _; decide) (hb hbytes d9) (⟨rfl, hA3, ba3, hne, l1, by rw [bs3]; simp, hp⟩)
  obtain ⟨rfl, B6, p6, f6⟩ := E6
  have c7 : Steps p.tables e below (s₁.setTop (entryFrame m #[.ref b, .int (Int32.ofNat o), .int (Int32.ofNat len)] 6)) (T6.setTop (mkF m 12 #[.val (.ref b), .val (.int (Int32.ofNat o)), .val (.int (Int32.ofNat len)), .val (.ref s.heap.size), .unset, .unset] [.int (Int32.ofNat len)])) := g6
  have c8 : Steps p.tables e below (s₁.setTop (entryFrame m #[.ref b, .int (Int32.ofNat o), .int (Int32.ofNat len)] 6)) (T6.setTop (mkF m 58 #[.val (.ref b), .val (.int (Int32.ofNat o)), .val (.int (Int32.ofNat len)), .val (.ref s.heap.size), .val (.int (Int32.ofNat len)), .unset] [.ref s.heap.size])) := c7.trans (by
    refine XS.istore X6.here hexec rfl (hb hbytes d12) rfl rfl ?_
    refine XS.iload X6.here hexec rfl (hb hbytes d14) rfl ?_
    refine XS.iloadN X6.here hexec rfl (hb hbytes d16) rfl ?_
    refine XS.icmpYes X6.here hexec rfl (pc0 := 17) rfl (hb hbytes d17) rfl (ii_eq_t rfl) (by decide) rfl ?_
    refine XS.aloadN X6.here hexec rfl (hb hbytes d57) rfl rfl ?_
    exact Steps.refl _)
  have X8 := X6.wide (L' := []) (cells' := 1) (slots' := len) (fun x hx hlt => by
    simp only [List.nil_append, copyLocs, List.mem_map, List.mem_range] at hx
    obtain ⟨i, -, rfl⟩ := hx
    exact absurd hlt (Nat.lt_irrefl _)) (Nat.le_refl _) (by omega)
  exact ⟨T6, some (.ref s.heap.size), _, _, _, X8, rfl, rfl, rfl, (fun h => by cases h), ⟨⟨rfl, B6, ba3.like (X3.warmed.alike.symm.trans X6.warmed.alike) p6.1 f6.1 f6.2.1 f6.2.2.1, f6.2.1.trans bv3, by rw [X6.warmed.alike.findClass, f6.1]; exact bf3, by rw [f6.2.2.1, bs3]; simp, fun j hj => by rw [f6.2.2.2 j, if_pos (by omega)]; rfl, kp3.put p6 (Nat.le_refl _)⟩, by rw [p6.2.2, bh3, hh0]; simp⟩, fun fs hl => c8.trans (X8.areturnOut hexec rfl hret rfl (hb hbytes d58) hl)⟩
end Cmp3
namespace CodL
def yN : MethodName := ⟨"java/lang/StringUTF16", "coderFromArrayLen", "([BI)B"⟩
abbrev yB : ByteArray := jdk_52_method_15_code
theorem d0 : decode yB 0 = .ok (.iload_n 1, 1) := by decide +kernel
theorem d1 : decode yB 1 = .ok (.aload_n 0, 1) := by decide +kernel
theorem d2 : decode yB 2 = .ok (.arraylength, 1) := by decide +kernel
theorem d3 : decode yB 3 = .ok (.isub, 1) := by decide +kernel
theorem d4 : decode yB 4 = .ok (.bipush 31, 2) := by decide +kernel
theorem d6 : decode yB 6 = .ok (.iushr, 1) := by decide +kernel
theorem d7 : decode yB 7 = .ok (.i2b, 1) := by decide +kernel
theorem d8 : decode yB 8 = .ok (.ireturn, 1) := by decide +kernel
def site : List Cond := []
def tab : Cond := tabOf yN yB 2 (some .byte) site
def P (d : Addr) (B : Cell) (args : Array Value) (s : State) : Prop := args = #[.ref d, .int (Int32.ofNat B.slots.size)] ∧ Arr .byte d B s
def E (r : Option Value) (s u : State) : Prop := XT.PureE (some (.int 0)) r s u
/-- an array as long as the number of chars: LATIN1 -/
theorem law (l : Launch) (d : Addr) (B : Cell) : Law l yN 2 2 0 0 yB 2 (some .byte) site (P d B) E [] 0 0 := by
  refine Law.of_walk (plainFor_of_name (by decide +kernel)) (by decide +kernel) (by decide +kernel) (by decide) (fun _ _ h => by rw [h.1]; rfl) (fun _ U U' hal hh h => ⟨h.1, h.2.mv hal hh⟩) (fun r U U' V V' h1 hal h2 h => XT.PureE.mv r U U' V V' h1 hal h2 h) ?_
  intro p e s m args below meth c s₁ X0 hexec hbytes hml hret hlk hnm hown hh0 W hP
  obtain ⟨rfl, hB⟩ := hP
  have hB0 := hB.mv X0.warmed.alike hh0
  have c1 : Steps p.tables e below (s₁.setTop (entryFrame m #[.ref d, .int (Int32.ofNat B.slots.size)] 2)) (s₁.setTop (mkF m 0 #[.val (.ref d), .val (.int (Int32.ofNat B.slots.size))] [])) := entry rfl
  have c2 : Steps p.tables e below (s₁.setTop (entryFrame m #[.ref d, .int (Int32.ofNat B.slots.size)] 2)) (s₁.setTop (mkF m 2 #[.val (.ref d), .val (.int (Int32.ofNat B.slots.size))] [.ref d, .int (Int32.ofNat B.slots.size)])) := c1.trans (by
    refine XS.iloadN X0.here hexec rfl (hb hbytes d0) rfl ?_
    refine XS.aloadN X0.here hexec rfl (hb hbytes d1) rfl rfl ?_
    exact Steps.refl _)
  have c3 : Steps p.tables e below (s₁.setTop (entryFrame m #[.ref d, .int (Int32.ofNat B.slots.size)] 2)) (s₁.setTop (mkF m 8 #[.val (.ref d), .val (.int (Int32.ofNat B.slots.size))] [.int (lo8 (ushr (Int32.ofNat B.slots.size - Int32.ofNat B.slots.size) 31))])) := c2.trans (by
    refine X0.alen hexec hB0 rfl rfl (hb hbytes d2) ?_
    refine XS.isub X0.here hexec rfl (hb hbytes d3) rfl ?_
    refine bipushV X0.here hexec rfl 31 (hb hbytes d4) (by decide) ?_
    refine iushr X0.here hexec rfl (hb hbytes d6) rfl ?_
    refine i2b X0.here hexec rfl (hb hbytes d7) rfl ?_
    exact Steps.refl _)
  have e0 : lo8 (ushr (Int32.ofNat B.slots.size - Int32.ofNat B.slots.size) 31) = 0 := by rw [Int32.sub_self]; decide
  rw [e0] at c3
  exact ⟨s₁, some (.int 0), _, _, _, X0, rfl, rfl, rfl, (fun h => by cases h), ⟨rfl, hh0⟩, fun fs hl => c3.trans (X0.ireturnOut hexec hret rfl (Or.inr (Or.inr (Or.inl rfl))) (hb hbytes d8) hl)⟩
end CodL
/-- the String at a is Latin-1 over a new byte[] (the heap's one new cell): the low bytes of the len chars of A from o on; every cell but a is kept -/
def Got (a : Addr) (D : Cell) (fV fC : Field) (A : Cell) (o len : Nat) (r : Option Value) (s u : State) : Prop := r = none ∧ ∃ D' V : Cell, Blank "java/lang/String" a D' u ∧ Same D D' [fV.slot, fC.slot] ∧ D'.slots[fV.slot]? = some (.ref s.heap.size) ∧ D'.slots[fC.slot]? = some (.int 0) ∧ Arr .byte s.heap.size V u ∧ V.vm = .none ∧ u.vm.findClass "[B" = some V.cls ∧ V.slots.size = len ∧ (∀ j, j < len → V.slots[j]? = some (.int (lo8 (cv A (o + j))))) ∧ (∀ (y : Addr) (c : Cell), y ≠ a → s.heap[y]? = some c → u.heap[y]? = some c) ∧ u.heap.size = s.heap.size + 1
theorem Got.mv {a : Addr} {D A : Cell} {fV fC : Field} {o len : Nat} : ∀ r (U U' V V' : State), U'.heap = U.heap → V.vm.Alike V'.vm → V'.heap = V.heap → Got a D fV fC A o len r U V → Got a D fV fC A o len r U' V' :=
  fun r U U' V V' h1 hal h2 ⟨e0, D', X, a1, a2, a3, a4, a5, a6, a7, a8, a9, a10, a11⟩ => ⟨e0, D', X, a1.mv hal h2, a2, by rw [h1]; exact a3, a4, by rw [h1]; exact a5.mv hal h2, a6, by rw [hal.findClass]; exact a7, a8, a9, by rw [h1, h2]; exact a10, by rw [h1, h2]; exact a11⟩
namespace New4
def yN : MethodName := ⟨"java/lang/String", "<init>", "([CIILjava/lang/Void;)V"⟩
abbrev yB : ByteArray := jdk_42_method_149_code
theorem d0 : decode yB 0 = .ok (.aload_n 0, 1) := by decide +kernel
theorem d1 : decode yB 1 = .ok (.invokespecial 1, 3) := by decide +kernel
theorem d4 : decode yB 4 = .ok (.iload_n 3, 1) := by decide +kernel
theorem d5 : decode yB 5 = .ok (.ifCond (.ne) 22, 3) := by decide +kernel
theorem d27 : decode yB 27 = .ok (.getstatic 38, 3) := by decide +kernel
theorem d30 : decode yB 30 = .ok (.ifCond (.eq) 28, 3) := by decide +kernel
theorem d33 : decode yB 33 = .ok (.aload_n 1, 1) := by decide +kernel
theorem d34 : decode yB 34 = .ok (.iload_n 2, 1) := by decide +kernel
theorem d35 : decode yB 35 = .ok (.iload_n 3, 1) := by decide +kernel
theorem d36 : decode yB 36 = .ok (.invokestatic 177, 3) := by decide +kernel
theorem d39 : decode yB 39 = .ok (.astore 5, 2) := by decide +kernel
theorem d41 : decode yB 41 = .ok (.aload_n 0, 1) := by decide +kernel
theorem d42 : decode yB 42 = .ok (.aload 5, 2) := by decide +kernel
theorem d44 : decode yB 44 = .ok (.iload_n 3, 1) := by decide +kernel
theorem d45 : decode yB 45 = .ok (.invokestatic 47, 3) := by decide +kernel
theorem d48 : decode yB 48 = .ok (.putfield 15, 3) := by decide +kernel
theorem d51 : decode yB 51 = .ok (.aload_n 0, 1) := by decide +kernel
theorem d52 : decode yB 52 = .ok (.aload 5, 2) := by decide +kernel
theorem d54 : decode yB 54 = .ok (.putfield 9, 3) := by decide +kernel
theorem d57 : decode yB 57 = .ok (.return_, 1) := by decide +kernel
def site : List Cond := [.fieldLink "java/lang/String" 38 "java/lang/String" "COMPACT_STRINGS" "Z", Cmp3.tab, CodL.tab, .laysFinal "java/lang/String" "java/lang/String" "value" "[B", .fieldLink "java/lang/String" 9 "java/lang/String" "value" "[B", .laysFinal "java/lang/String" "java/lang/String" "coder" "B", .fieldLink "java/lang/String" 15 "java/lang/String" "coder" "B"] ++ objW "java/lang/String" 1 ++ staticW "java/lang/String" 177 Cmp3.yN ++ staticW "java/lang/String" 47 CodL.yN
def tab : Cond := tabOf yN yB 6 none site
def P (a : Addr) (D : Cell) (fV fC : Field) (b : Addr) (A : Cell) (z : Int32) (o len : Nat) (args : Array Value) (s : State) : Prop := args = #[.ref a, .ref b, .int (Int32.ofNat o), .int (Int32.ofNat len), .null] ∧ Blank "java/lang/String" a D s ∧ Found "java/lang/String" "value" "[B" fV s ∧ Found "java/lang/String" "coder" "B" fC s ∧ Ch b A s ∧ StaticIs s "java/lang/String" "COMPACT_STRINGS" "Z" (.int z) ∧ ¬ z = 0 ∧ 0 < len ∧ o + len ≤ A.slots.size ∧ len ≤ 536870912 ∧ ∀ i, i < len → ¬ 255 < cv A (o + i)
def E (a : Addr) (D : Cell) (fV fC : Field) (A : Cell) (o len : Nat) (r : Option Value) (s u : State) : Prop := Got a D fV fC A o len r s u
/-- len > 0, no char of the range above 255: a Latin-1 String of their low bytes -/
theorem law (l : Launch) (a : Addr) (D : Cell) (fV fC : Field) (b : Addr) (A : Cell) (z : Int32) (o len : Nat) : Law l yN 5 4 2 35 yB 6 none site (P a D fV fC b A z o len) (E a D fV fC A o len) [⟨a, fC.slot⟩, ⟨a, fV.slot⟩] 1 len := by
  refine Law.of_walk (plainFor_of_name (by decide +kernel)) (by decide +kernel) (by decide +kernel) (by decide) (fun _ _ h => by rw [h.1]; rfl) (fun _ U U' hal hh h => ⟨h.1, h.2.1.mv hal hh, h.2.2.1.al hal, h.2.2.2.1.al hal, h.2.2.2.2.1.mv hal hh, h.2.2.2.2.2.1.there hal hh, h.2.2.2.2.2.2⟩) (fun r U U' V V' h1 hal h2 h => Got.mv r U U' V V' h1 hal h2 h) ?_
  intro p e s m args below meth c s₁ X0 hexec hbytes hml hret hlk hnm hown hh0 W hP
  obtain ⟨rfl, hB, f1, f2, hA, s1, hz, l0, l1, l2, hp⟩ := hP
  have a31 := hA.1.2.2.2
  have c1 : Steps p.tables e below (s₁.setTop (entryFrame m #[.ref a, .ref b, .int (Int32.ofNat o), .int (Int32.ofNat len), .null] 6)) (s₁.setTop (mkF m 0 #[.val (.ref a), .val (.ref b), .val (.int (Int32.ofNat o)), .val (.int (Int32.ofNat len)), .val .null, .unset] [])) := entry rfl
  have c2 : Steps p.tables e below (s₁.setTop (entryFrame m #[.ref a, .ref b, .int (Int32.ofNat o), .int (Int32.ofNat len), .null] 6)) (s₁.setTop (mkF m 1 #[.val (.ref a), .val (.ref b), .val (.int (Int32.ofNat o)), .val (.int (Int32.ofNat len)), .val .null, .unset] [.ref a])) := c1.trans (by
    refine XS.aloadN X0.here hexec rfl (hb hbytes d0) rfl rfl ?_
    exact Steps.refl _)
  obtain ⟨T3, X3, q3, st3⟩ := X0.oinit hexec hown (wks W (objW "java/lang/String" 1)) (g := (mkF m 1 #[.val (.ref a), .val (.ref b), .val (.int (Int32.ofNat o)), .val (.int (Int32.ofNat len)), .val .null, .unset] [.ref a])) rfl (by rw [hml]; rfl) (rest := []) rfl (hb hbytes d1) (W := 0) (by show 2 * 0 + 0 ≤ _; decide) (Nat.le_of_ble_eq_true rfl) (Nat.le_of_ble_eq_true rfl)
  have hh3 := q3.trans hh0
  have c4 : Steps p.tables e below (s₁.setTop (entryFrame m #[.ref a, .ref b, .int (Int32.ofNat o), .int (Int32.ofNat len), .null] 6)) (T3.setTop (mkF m 27 #[.val (.ref a), .val (.ref b), .val (.int (Int32.ofNat o)), .val (.int (Int32.ofNat len)), .val .null, .unset] [])) := (c2.trans (st3 _ (Steps.refl _))).trans (by
    refine XS.iloadN X3.here hexec rfl (hb hbytes d4) rfl ?_
    refine XS.ifYes X3.here hexec rfl (pc0 := 5) rfl (hb hbytes d5) rfl (i0_ne_t (nz32 (by omega) l0)) (by decide) rfl ?_
    exact Steps.refl _)
  obtain ⟨T5, X5, q5, st5⟩ := X3.sget hexec hown (wk W (.fieldLink "java/lang/String" 38 "java/lang/String" "COMPACT_STRINGS" "Z")) s1 (fun _ _ h => by rw [hh3]; exact h) (g := (mkF m 27 #[.val (.ref a), .val (.ref b), .val (.int (Int32.ofNat o)), .val (.int (Int32.ofNat len)), .val .null, .unset] [])) rfl (hb hbytes d27)
  have hh5 := q5.trans hh3
  have c6 : Steps p.tables e below (s₁.setTop (entryFrame m #[.ref a, .ref b, .int (Int32.ofNat o), .int (Int32.ofNat len), .null] 6)) (T5.setTop (mkF m 30 #[.val (.ref a), .val (.ref b), .val (.int (Int32.ofNat o)), .val (.int (Int32.ofNat len)), .val .null, .unset] [.int z])) := c4.trans (st5 _ (Steps.refl _))
  have c7 : Steps p.tables e below (s₁.setTop (entryFrame m #[.ref a, .ref b, .int (Int32.ofNat o), .int (Int32.ofNat len), .null] 6)) (T5.setTop (mkF m 36 #[.val (.ref a), .val (.ref b), .val (.int (Int32.ofNat o)), .val (.int (Int32.ofNat len)), .val .null, .unset] [.int (Int32.ofNat len), .int (Int32.ofNat o), .ref b])) := c6.trans (by
    refine XS.ifNo X5.here hexec rfl (hb hbytes d30) rfl (i0_eq_f hz) ?_
    refine XS.aloadN X5.here hexec rfl (hb hbytes d33) rfl rfl ?_
    refine XS.iloadN X5.here hexec rfl (hb hbytes d34) rfl ?_
    refine XS.iloadN X5.here hexec rfl (hb hbytes d35) rfl ?_
    exact Steps.refl _)
  obtain ⟨v8, T8, X8, E8, g8⟩ := X5.callS hexec (Cmp3.law l b A o len) hown (wks W (staticW "java/lang/String" 177 Cmp3.yN)) (wk W Cmp3.tab) (W := 0) (Nat.le_of_ble_eq_true rfl) (Nat.le_of_ble_eq_true rfl) (Nat.le_refl _) (by show 0 + len ≤ len; omega) (g := (mkF m 36 #[.val (.ref a), .val (.ref b), .val (.int (Int32.ofNat o)), .val (.int (Int32.ofNat len)), .val .null, .unset] [.int (Int32.ofNat len), .int (Int32.ofNat o), .ref b])) rfl (by rw [hml]; rfl) c7 (argsL := [.ref b, .int (Int32.ofNat o), .int (Int32.ofNat len)]) (rest := []) rfl rfl (by show 2 * 0 + 0 ≤ _; decide) (hb hbytes d36) (⟨rfl, hA.mv X5.warmed.alike hh5, l1, l2, hp⟩)
  obtain ⟨e8, z8⟩ := E8
  obtain ⟨rfl, N, n1, n2, n3, n4, n5, n6⟩ := NewArr.mv _ T5 s _ _ hh5.symm (Vm.Alike.refl _) rfl e8
  rw [hh5] at z8
  have hB1 := hB.keep X8.warmed.alike (n6 _ _ hB.1)
  have hne : s.heap.size ≠ a := (Nat.ne_of_lt (Array.getElem?_eq_some_iff.mp hB.1).1).symm
  have c9 : Steps p.tables e below (s₁.setTop (entryFrame m #[.ref a, .ref b, .int (Int32.ofNat o), .int (Int32.ofNat len), .null] 6)) (T8.setTop (mkF m 39 #[.val (.ref a), .val (.ref b), .val (.int (Int32.ofNat o)), .val (.int (Int32.ofNat len)), .val .null, .unset] [.ref s.heap.size])) := g8
  have c10 : Steps p.tables e below (s₁.setTop (entryFrame m #[.ref a, .ref b, .int (Int32.ofNat o), .int (Int32.ofNat len), .null] 6)) (T8.setTop (mkF m 45 #[.val (.ref a), .val (.ref b), .val (.int (Int32.ofNat o)), .val (.int (Int32.ofNat len)), .val .null, .val (.ref s.heap.size)] [.int (Int32.ofNat N.slots.size), .ref s.heap.size, .ref a])) := by
    have hc : Steps p.tables e below (s₁.setTop (entryFrame m #[.ref a, .ref b, .int (Int32.ofNat o), .int (Int32.ofNat len), .null] 6)) (T8.setTop (mkF m 45 #[.val (.ref a), .val (.ref b), .val (.int (Int32.ofNat o)), .val (.int (Int32.ofNat len)), .val .null, .val (.ref s.heap.size)] [.int (Int32.ofNat len), .ref s.heap.size, .ref a])) := c9.trans (by
      refine XS.astore X8.here hexec rfl (hb hbytes d39) rfl rfl rfl ?_
      refine XS.aloadN X8.here hexec rfl (hb hbytes d41) rfl rfl ?_
      refine XS.aload X8.here hexec rfl (hb hbytes d42) rfl rfl ?_
      refine XS.iloadN X8.here hexec rfl (hb hbytes d44) rfl ?_
      exact Steps.refl _)
    rw [n4]; exact hc
  obtain ⟨v11, T11, X11, E11, g11⟩ := X8.callS hexec (CodL.law l s.heap.size N) hown (wks W (staticW "java/lang/String" 47 CodL.yN)) (wk W CodL.tab) (W := 1) (Nat.le_of_ble_eq_true rfl) (Nat.le_of_ble_eq_true rfl) (Nat.le_refl _) (by show 0 + len + 0 ≤ len; omega) (g := (mkF m 45 #[.val (.ref a), .val (.ref b), .val (.int (Int32.ofNat o)), .val (.int (Int32.ofNat len)), .val .null, .val (.ref s.heap.size)] [.int (Int32.ofNat N.slots.size), .ref s.heap.size, .ref a])) rfl (by rw [hml]; rfl) c10 (argsL := [.ref s.heap.size, .int (Int32.ofNat N.slots.size)]) (rest := [.ref a]) rfl rfl (by show 2 * 0 + (1 + 0) ≤ _; decide) (hb hbytes d45) (⟨rfl, n1⟩)
  obtain ⟨rfl, q11⟩ := E11
  have hB11 := hB1.mv (X8.warmed.alike.symm.trans X11.warmed.alike) q11
  have c12 : Steps p.tables e below (s₁.setTop (entryFrame m #[.ref a, .ref b, .int (Int32.ofNat o), .int (Int32.ofNat len), .null] 6)) (T11.setTop (mkF m 48 #[.val (.ref a), .val (.ref b), .val (.int (Int32.ofNat o)), .val (.int (Int32.ofNat len)), .val .null, .val (.ref s.heap.size)] [.int 0, .ref a])) := g11
  obtain ⟨T13, X13, p13, bl13, sl13, st13⟩ := X11.finit hexec hown (wk W (.fieldLink "java/lang/String" 15 "java/lang/String" "coder" "B")) (Or.inr ⟨_, (wk W (.laysFinal "java/lang/String" "java/lang/String" "coder" "B"))⟩) (Or.inl ⟨rfl, hnm⟩) f2 (Or.inl rfl) hB11 (t := .byte) (by decide +kernel) rfl (g := (mkF m 48 #[.val (.ref a), .val (.ref b), .val (.int (Int32.ofNat o)), .val (.int (Int32.ofNat len)), .val .null, .val (.ref s.heap.size)] [.int 0, .ref a])) rfl (rest := []) rfl (hb hbytes d48)
  have c14 : Steps p.tables e below (s₁.setTop (entryFrame m #[.ref a, .ref b, .int (Int32.ofNat o), .int (Int32.ofNat len), .null] 6)) (T13.setTop (mkF m 54 #[.val (.ref a), .val (.ref b), .val (.int (Int32.ofNat o)), .val (.int (Int32.ofNat len)), .val .null, .val (.ref s.heap.size)] [.ref s.heap.size, .ref a])) := (c12.trans (st13 _ (Steps.refl _))).trans (by
    refine XS.aloadN X13.here hexec rfl (hb hbytes d51) rfl rfl ?_
    refine XS.aload X13.here hexec rfl (hb hbytes d52) rfl rfl ?_
    exact Steps.refl _)
  obtain ⟨T15, X15, p15, bl15, sl15, st15⟩ := X13.finit hexec hown (wk W (.fieldLink "java/lang/String" 9 "java/lang/String" "value" "[B")) (Or.inr ⟨_, (wk W (.laysFinal "java/lang/String" "java/lang/String" "value" "[B"))⟩) (Or.inl ⟨rfl, hnm⟩) f1 (Or.inl rfl) bl13 (t := (.array .byte)) (by decide +kernel) rfl (g := (mkF m 54 #[.val (.ref a), .val (.ref b), .val (.int (Int32.ofNat o)), .val (.int (Int32.ofNat len)), .val .null, .val (.ref s.heap.size)] [.ref s.heap.size, .ref a])) rfl (rest := []) rfl (hb hbytes d54)
  have c16 : Steps p.tables e below (s₁.setTop (entryFrame m #[.ref a, .ref b, .int (Int32.ofNat o), .int (Int32.ofNat len), .null] 6)) (T15.setTop (mkF m 57 #[.val (.ref a), .val (.ref b), .val (.int (Int32.ofNat o)), .val (.int (Int32.ofNat len)), .val .null, .val (.ref s.heap.size)] [])) := c14.trans (st15 _ (Steps.refl _))
  have ap := apart (Or.inr ⟨_, (wk W (.laysFinal "java/lang/String" "java/lang/String" "value" "[B"))⟩) (Or.inr ⟨_, (wk W (.laysFinal "java/lang/String" "java/lang/String" "coder" "B"))⟩) f1 f2 (t₁ := .array .byte) (t₂ := .byte) (by decide +kernel) (by decide +kernel) (by decide)
  have al := X8.warmed.alike.symm.trans X15.warmed.alike
  have n7 : T11.heap[s.heap.size]? = some N := by rw [q11]; exact n1.1
  exact ⟨T15, none, _, _, _, X15, by simp, rfl, by omega, (fun _ => rfl), ⟨rfl, _, N, bl15, ((Same.refl D _).set _ (by simp)).set _ (by simp), sl15, (Cell.slots_setSlot_ne _ ap).trans sl13, n1.keep al (p15.other hne (p13.other hne n7)), n2, by rw [al.findClass]; exact n3, n4, n5, fun y c h1 h2 => p15.other h1 (p13.other h1 (by rw [q11]; exact n6 y c h2)), by rw [p15.2.2, p13.2.2, q11]; exact z8⟩, fun fs hl => c16.trans (X15.returnOut hexec hret (hb hbytes d57) hl)⟩
end New4
namespace New1
def yN : MethodName := ⟨"java/lang/String", "<init>", "([C)V"⟩
abbrev yB : ByteArray := jdk_42_method_3_code
theorem d0 : decode yB 0 = .ok (.aload_n 0, 1) := by decide +kernel
theorem d1 : decode yB 1 = .ok (.aload_n 1, 1) := by decide +kernel
theorem d2 : decode yB 2 = .ok (.iconst 0, 1) := by decide +kernel
theorem d3 : decode yB 3 = .ok (.aload_n 1, 1) := by decide +kernel
theorem d4 : decode yB 4 = .ok (.arraylength, 1) := by decide +kernel
theorem d5 : decode yB 5 = .ok (.aconst_null, 1) := by decide +kernel
theorem d6 : decode yB 6 = .ok (.invokespecial 27, 3) := by decide +kernel
theorem d9 : decode yB 9 = .ok (.return_, 1) := by decide +kernel
def site : List Cond := [New4.tab] ++ initW "java/lang/String" 27 New4.yN
def tab : Cond := tabOf yN yB 2 none site
def P (a : Addr) (D : Cell) (fV fC : Field) (b : Addr) (A : Cell) (z : Int32) (args : Array Value) (s : State) : Prop := args = #[.ref a, .ref b] ∧ Blank "java/lang/String" a D s ∧ Found "java/lang/String" "value" "[B" fV s ∧ Found "java/lang/String" "coder" "B" fC s ∧ Ch b A s ∧ StaticIs s "java/lang/String" "COMPACT_STRINGS" "Z" (.int z) ∧ ¬ z = 0 ∧ 0 < A.slots.size ∧ A.slots.size ≤ 536870912 ∧ ∀ i, i < A.slots.size → ¬ 255 < cv A i
def E (a : Addr) (D : Cell) (fV fC : Field) (A : Cell) (r : Option Value) (s u : State) : Prop := Got a D fV fC A 0 A.slots.size r s u
/-- new String(chars), not empty, no char above 255: a Latin-1 String of their low bytes -/
theorem law (l : Launch) (a : Addr) (D : Cell) (fV fC : Field) (b : Addr) (A : Cell) (z : Int32) : Law l yN 2 1 3 52 yB 2 none site (P a D fV fC b A z) (E a D fV fC A) [⟨a, fC.slot⟩, ⟨a, fV.slot⟩] 1 A.slots.size := by
  refine Law.of_walk (plainFor_of_name (by decide +kernel)) (by decide +kernel) (by decide +kernel) (by decide) (fun _ _ h => by rw [h.1]; rfl) (fun _ U U' hal hh h => ⟨h.1, h.2.1.mv hal hh, h.2.2.1.al hal, h.2.2.2.1.al hal, h.2.2.2.2.1.mv hal hh, h.2.2.2.2.2.1.there hal hh, h.2.2.2.2.2.2⟩) (fun r U U' V V' h1 hal h2 h => Got.mv r U U' V V' h1 hal h2 h) ?_
  intro p e s m args below meth c s₁ X0 hexec hbytes hml hret hlk hnm hown hh0 W hP
  obtain ⟨rfl, hB, f1, f2, hA, s1, hz, l0, l2, hp⟩ := hP
  have c1 : Steps p.tables e below (s₁.setTop (entryFrame m #[.ref a, .ref b] 2)) (s₁.setTop (mkF m 0 #[.val (.ref a), .val (.ref b)] [])) := entry rfl
  have c2 : Steps p.tables e below (s₁.setTop (entryFrame m #[.ref a, .ref b] 2)) (s₁.setTop (mkF m 6 #[.val (.ref a), .val (.ref b)] [.null, .int (Int32.ofNat A.slots.size), .int 0, .ref b, .ref a])) := c1.trans (by
    refine XS.aloadN X0.here hexec rfl (hb hbytes d0) rfl rfl ?_
    refine XS.aloadN X0.here hexec rfl (hb hbytes d1) rfl rfl ?_
    refine iconstV X0.here hexec rfl 0 (hb hbytes d2) (by decide) ?_
    refine XS.aloadN X0.here hexec rfl (hb hbytes d3) rfl rfl ?_
    refine X0.alen hexec (hA.1.mv X0.warmed.alike hh0) rfl rfl (hb hbytes d4) ?_
    refine XS.aconstNull X0.here hexec rfl (hb hbytes d5) ?_
    exact Steps.refl _)
  obtain ⟨v3, T3, X3, E3, g3⟩ := X0.callN hexec (New4.law l a D fV fC b A z 0 A.slots.size) rfl hown (wks W (initW "java/lang/String" 27 New4.yN)) (W New4.tab (by simp only [site, List.mem_cons, List.mem_append, true_or, or_true])) (W := 0) (Nat.le_of_ble_eq_true rfl) (Nat.le_of_ble_eq_true rfl) (Nat.le_refl _) (by show 0 + A.slots.size ≤ A.slots.size; omega) (g := (mkF m 6 #[.val (.ref a), .val (.ref b)] [.null, .int (Int32.ofNat A.slots.size), .int (Int32.ofNat 0), .ref b, .ref a])) rfl (by rw [hml]; rfl) c2 (argsL := [.ref b, .int (Int32.ofNat 0), .int (Int32.ofNat A.slots.size), .null]) (rest := []) rfl rfl (by show 2 * 0 + 0 ≤ _; decide) (hb hbytes d6) (⟨rfl, hB.mv X0.warmed.alike hh0, f1.al X0.warmed.alike, f2.al X0.warmed.alike, hA.mv X0.warmed.alike hh0, s1.there X0.warmed.alike hh0, hz, l0, by omega, l2, fun i hi => by rw [Nat.zero_add]; exact hp i hi⟩)
  have e0 := Got.mv _ s₁ s _ _ hh0.symm (Vm.Alike.refl _) rfl E3
  obtain rfl := e0.1
  have c4 : Steps p.tables e below (s₁.setTop (entryFrame m #[.ref a, .ref b] 2)) (T3.setTop (mkF m 9 #[.val (.ref a), .val (.ref b)] [])) := g3
  exact ⟨T3, none, _, _, _, X3, by simp, rfl, by omega, (fun _ => rfl), e0, fun fs hl => c4.trans (X3.returnOut hexec hret (hb hbytes d9) hl)⟩
theorem pays {l : Launch} {R : Room} {p : Program} {e : Env} {below : List Frame} {s : State} {sargs : Array Value} {len W : Nat} (a : Addr) (D : Cell) (fV fC : Field) (b : Addr) (A : Cell) (z : Int32) (htab : tab.before sargs s = true) (hfr : 4 ≤ R.frames) (hlo : W + 65 ≤ R.locals) :
    Back l R p e below s sargs yN len W (fun A₁ a₁ => A₁.cells + 1 ≤ R.cells ∧ A₁.slots + A.slots.size ≤ R.slots ∧ P a D fV fC b A z a₁ A₁.U) (fun A₁ _ v₁ B₁ => E a D fV fC A v₁ A₁.U B₁.U ∧ B₁.locs = A₁.locs ++ [⟨a, fC.slot⟩, ⟨a, fV.slot⟩] ∧ B₁.cells = A₁.cells + 1 ∧ B₁.slots = A₁.slots + A.slots.size) :=
  (law l a D fV fC b A z).pays htab hfr (by omega)
end New1
/-- the byte, read back as charAt reads it, is the char -/
theorem lo8_mask {x : Int32} (h0 : ¬ x < 0) (h1 : ¬ 255 < x) : lo8 x &&& 255 = x := by
  have t : ∀ k : Fin 256, lo8 (Int32.ofNat k.val) &&& 255 = Int32.ofNat k.val := by decide +kernel
  rw [Int32.lt_iff_toInt_lt] at h0 h1
  have e0 : (0 : Int32).toInt = 0 := rfl
  have e1 : (255 : Int32).toInt = 255 := rfl
  obtain ⟨k, hk⟩ : ∃ k : Nat, x.toInt = k := ⟨x.toInt.toNat, by omega⟩
  have hx : x = Int32.ofNat k := Int32.toInt_inj.mp (by rw [hk, Int32.toInt_ofNat_small (by omega)])
  rw [hx]
  exact t ⟨k, by omega⟩
end StrChars
namespace StrChars.Road
open Jvm Sem ClassFile Op Lib Jvm.Stand Jvm.Free Jvm.Free.XT
open Jvm.Lib.Cold (StaticIs)
abbrev ST : String := "java/lang/String"
/-- every table word that New1's law asks, flat -/
abbrev words : List Jvm.Cond := [.code New1.yN New1.yB 2 none, .initialized ST, .methodLink ST 27 New4.yN, .instanceMethod New4.yN,
  .code New4.yN New4.yB 6 none, .fieldLink ST 38 ST "COMPACT_STRINGS" "Z", .laysFinal ST ST "value" "[B", .fieldLink ST 9 ST "value" "[B", .laysFinal ST ST "coder" "B", .fieldLink ST 15 ST "coder" "B",
  .methodLink ST 1 Lib.objectInit, .instanceMethod Lib.objectInit, .code Lib.objectInit ⟨#[0xb1]⟩ 1 none, .methodLink ST 177 Cmp3.yN, .static Cmp3.yN, .methodLink ST 47 CodL.yN, .static CodL.yN,
  .code Cmp3.yN Cmp3.yB 6 (some (.array .byte)), .initialized U16, .arrayClass .byte, .methodLink U16 115 Cmp5.yN, .static Cmp5.yN, .code Cmp5.yN Cmp5.yB 7 (some .int), .code CodL.yN CodL.yB 2 (some .byte)]
theorem tab_of {a : Array Value} {s : State} (h : ∀ w ∈ words, w.before a s = true) : New1.tab.before a s = true := by
  have h5 : Cmp5.tab.before a s = true := unparts (wk h (.code Cmp5.yN Cmp5.yB 7 (some .int))) (wks h (.initialized Cmp5.yN.cls :: Cmp5.site))
  have hc : CodL.tab.before a s = true := unparts (wk h (.code CodL.yN CodL.yB 2 (some .byte))) (wks h (.initialized CodL.yN.cls :: CodL.site))
  have q5 : ∀ w ∈ Cmp5.tab :: words, w.before a s = true := fun w hw => (List.mem_cons.mp hw).elim (fun e => e ▸ h5) (h w)
  have h3 : Cmp3.tab.before a s = true := unparts (wk q5 (.code Cmp3.yN Cmp3.yB 6 (some (.array .byte)))) (wks q5 (.initialized Cmp3.yN.cls :: Cmp3.site))
  have q3 : ∀ w ∈ Cmp3.tab :: CodL.tab :: words, w.before a s = true := fun w hw => (List.mem_cons.mp hw).elim (fun e => e ▸ h3) fun hw => (List.mem_cons.mp hw).elim (fun e => e ▸ hc) (h w)
  have h4 : New4.tab.before a s = true := unparts (wk q3 (.code New4.yN New4.yB 6 none)) (wks q3 (.initialized New4.yN.cls :: New4.site))
  have q4 : ∀ w ∈ New4.tab :: words, w.before a s = true := fun w hw => (List.mem_cons.mp hw).elim (fun e => e ▸ h4) (h w)
  exact unparts (wk q4 (.code New1.yN New1.yB 2 none)) (wks q4 (.initialized New1.yN.cls :: New1.site))
/-- the words ride from the start Z to the walk's own state -/
theorem moved {Z s : State} {a0 args : Array Value} (hZ : Z.Warmed39 s.vm) (hw : ∀ d ∈ words, d.before a0 Z = true) : ∀ d ∈ words, d.before args s = true := fun d hd => by
  have q := hw d hd
  have t : ∀ d ∈ words, d = .arrayClass .byte ∨ (d.onTables && d.keepsFace) = true := by decide +kernel
  rcases t d hd with rfl | t
  · exact RoadKit.mvA hZ q
  · exact RoadKit.mv hZ q t
/-- WHAT COMES BACK, over the tables of the start Z: h the heap at the call, h' behind it -/
def Q (Z : State) (x : Addr) (A : Cell) (h : Heap) (v : Option Value) (h' : Heap) (L : List Loc) : Prop := v = none ∧ (∀ y ∈ L, y.base = x) ∧ RoadKit.Keep h h' [x] ∧ h'.size = h.size + 1 ∧ RoadKit.Exa Z h' x ST ∧ RoadKit.Fld Z h' x ST "value" "[B" (.ref h.size) ∧ RoadKit.Fld Z h' x ST "coder" "B" (.int 0) ∧
  (∃ V : Cell, RoadKit.Arr Z h' h.size V .byte ∧ V.vm = .none ∧ Z.vm.findClass "[B" = some V.cls ∧ V.slots.size = A.slots.size ∧ ∀ j, j < A.slots.size → V.slots[j]? = some (.int (lo8 (cv A j)))) ∧
  ∀ (O n d : String) (w : Value), RoadKit.Fld Z h x O n d w → RoadKit.slotOf Z O n d ≠ RoadKit.slotOf Z ST "value" "[B" → RoadKit.slotOf Z O n d ≠ RoadKit.slotOf Z ST "coder" "B" → RoadKit.Fld Z h' x O n d w
/-- **new String(chars) AT A CALL, IN THE ROAD'S FORM**: for specialBack behind newO: x the fresh String, b the char[] with the cell A -/
theorem back {p : Program} {l : Launch} {e : Env} {R : Room} {s : State} {args : Array Value} {below : List Frame} {len W : Nat} {Z : State} {a0 : Array Value} {h : Heap} (hZ : Z.Warmed39 s.vm) (hw : ∀ d ∈ words, d.before a0 Z = true) {kI : Nat} (wi : (Jvm.Cond.instantiable ST kI).before a0 Z = true)
    {x b : Addr} {A : Cell} {z : Int32} {v0 c0 : Value} (E : RoadKit.Exa Z h x ST) (V : RoadKit.Fld Z h x ST "value" "[B" v0) (C : RoadKit.Fld Z h x ST "coder" "B" c0) (K : RoadKit.Arr Z h b A .char) (hty : Typed .char A) (S : RoadKit.Sta Z h ST "COMPACT_STRINGS" "Z" (.int z)) (hz : ¬ z = 0)
    (l0 : 0 < A.slots.size) (l2 : A.slots.size ≤ 536870912) (hp : ∀ i, i < A.slots.size → ¬ 255 < cv A i) (hfr : 4 ≤ R.frames) (hlo : W + 65 ≤ R.locals) :
    Back l R p e below s args New1.yN len W (fun P a => a = #[.ref x, .ref b] ∧ P.U.heap = h ∧ P.cells + 1 ≤ R.cells ∧ P.slots + A.slots.size ≤ R.slots)
      (fun P _ v B => ∃ L, Q Z x A h v B.U.heap L ∧ B.locs = P.locs ++ L ∧ B.cells = P.cells + 1 ∧ B.slots = P.slots + A.slots.size) := by
  intro m meth c P g ig mk a X hg hsize hdg hW hn hp'
  obtain ⟨rfl, rfl, r1, r2⟩ := hp'
  have al : Z.vm.Alike P.U.vm := hZ.alike.trans X.warmed.alike
  obtain ⟨D, cfV, kV, iV, fV, hD, gV, stV, knV, obV, asV, slV⟩ := id V
  obtain ⟨D', cfC, kC, iC, fC, hD', gC, stC, -, -, asC, slC⟩ := id C
  cases hD.symm.trans hD'
  obtain ⟨D2, kD, e1, e2, e3, e4, e5⟩ := id E
  cases hD.symm.trans e1
  obtain ⟨c2, k2, i1, i2, i3, -⟩ := Cond.instantiable_spec wi
  cases e2.symm.trans i1
  cases e3.symm.trans i2
  obtain ⟨kU, u1, u2⟩ := al.2.2 _ _ e3
  have hB : Blank ST x D P.U := ⟨hD, ⟨knV, fun q hq => by rw [hq] at obV; cases obV⟩, by rw [al.findClass]; exact e2, kU, u1, by rw [u2]; exact i3, by rw [u2]; exact e5 i3⟩
  have F1 : Found ST "value" "[B" fV P.U := ⟨SBG.found_only al ⟨cfV, kV, iV, gV⟩, stV⟩
  have F2 : Found ST "coder" "B" fC P.U := ⟨SBG.found_only al ⟨cfC, kC, iC, gC⟩, stC⟩
  have hA : Ch b A P.U := ⟨⟨K.1, State.isArrayOf_alike al K.2.1, K.2.2, by omega⟩, hty⟩
  have hS : StaticIs P.U ST "COMPACT_STRINGS" "Z" (.int z) := by
    obtain ⟨cfS, iS, kS, fS, st, cS, t1, t2, t3, t4, t5, t6, t7⟩ := S
    exact StaticIs.there (s := { Z with heap := P.U.heap }) ⟨cfS, iS, kS, fS, st, cS, t1, t2, t3, t4, t5, (fun q => by rw [q] at t6; cases t6), t7⟩ al rfl
  obtain ⟨v, B, X', ⟨⟨hv, E', V', q1, q2, q3, q4, q5, q6, q7, q8, q9, q10, q11⟩, hl, hc, hs⟩, st⟩ := New1.pays x D fV fC b A z (tab_of (moved hZ hw)) hfr hlo m meth c P g ig mk _ X hg hsize hdg hW hn ⟨r1, r2, rfl, hB, F1, F2, hA, hS, hz, l0, l2, hp⟩
  have al' : Z.vm.Alike B.U.vm := hZ.alike.trans X'.warmed.alike
  have hsz : E'.slots.size = D.slots.size := by
    obtain ⟨-, -, -, kB, w1, w2, w3⟩ := q1
    obtain ⟨kB', y1, y2⟩ := al'.2.2 _ _ e3
    rw [q2.2.1] at w1
    cases w1.symm.trans y1
    rw [w3, e5 i3, y2]
  refine ⟨v, B, X', ⟨_, ⟨hv, ?_, ⟨by omega, fun y cy hy hn' => q10 y cy (by simpa using hn') hy, fun y cy hy => ?_⟩, q11, ⟨E', _, q1.1, by rw [q2.2.1]; exact e2, by rw [q2.2.1]; exact e3, by rw [q2.1]; exact obV, fun _ => by rw [hsz]; exact e5 i3⟩,
    ⟨E', cfV, kV, iV, fV, q1.1, gV, stV, by rw [q2.1]; exact knV, by rw [q2.1]; exact obV, by rw [q2.2.1]; exact asV, q3⟩, ⟨E', cfC, kC, iC, fC, q1.1, gC, stC, by rw [q2.1]; exact knV, by rw [q2.1]; exact obV, by rw [q2.2.1]; exact asC, q4⟩,
    ⟨V', ⟨q5.1, State.isArrayOf_alike al'.symm q5.2.1, q5.2.2.1⟩, q6, by rw [← al'.findClass]; exact q7, q8, fun j hj => by have := q9 j hj; rwa [Nat.zero_add] at this⟩, fun O n d w F n1 n2 => ?_⟩, hl, hc, hs⟩, st⟩
  · intro y hy
    simp only [List.mem_cons, List.not_mem_nil, or_false] at hy
    rcases hy with rfl | rfl <;> rfl
  · by_cases q : y = x
    · subst q
      cases hD.symm.trans hy
      exact ⟨E', q1.1, q2.2.1, q2.1, hsz⟩
    · exact ⟨cy, q10 y cy q hy, rfl, rfl, rfl⟩
  · obtain ⟨D3, cf, k, i, f, g1, g2, g3, g4, g5, g6, g7⟩ := F
    cases hD.symm.trans g1
    simp only [RoadKit.slotOf, g2, gV, gC, Option.map_some, Option.getD_some] at n1 n2
    exact ⟨E', cf, k, i, f, q1.1, g2, g3, by rw [q2.1]; exact g4, by rw [q2.1]; exact g5, by rw [q2.2.1]; exact g6, by rw [q2.2.2 f.slot (by simp [n1, n2])]; exact g7⟩
end StrChars.Road
namespace StrChars.Road
open Jvm Sem ClassFile Op Lib Jvm.Stand Jvm.Free Jvm.Free.XT
/-- WHAT COMES BACK, the byte[] as a list of values -/
def QA (Z : State) (x : Addr) (zn : Int32) (cs : List Int32) (h : Heap) (v : Option Value) (h' : Heap) (L : List Loc) : Prop := v = none ∧ (∀ y ∈ L, y.base = x) ∧ RoadKit.Keep h h' [x] ∧ h'.size = h.size + 1 ∧ RoadKit.Exa Z h' x ST ∧ RoadKit.Fld Z h' x ST "value" "[B" (.ref h.size) ∧ RoadKit.Fld Z h' x ST "coder" "B" (.int 0) ∧
  (∃ kb, Z.vm.findClass "[B" = some kb ∧ RoadKit.Arv Z h' h.size kb .byte zn (cs.map fun c => .int (lo8 c)) (.int 0)) ∧
  ∀ (O n d : String) (w : Value), RoadKit.Fld Z h x O n d w → RoadKit.slotOf Z O n d ≠ RoadKit.slotOf Z ST "value" "[B" → RoadKit.slotOf Z O n d ≠ RoadKit.slotOf Z ST "coder" "B" → RoadKit.Fld Z h' x O n d w
/-- **new String(chars) AT A CALL, THE ARRAYS AS LISTS**: the char[] at b holds cs, not empty, no char above 255 -/
theorem backArv {p : Program} {l : Launch} {e : Env} {R : Room} {s : State} {args : Array Value} {below : List Frame} {len W : Nat} {Z : State} {a0 : Array Value} {h : Heap} (hZ : Z.Warmed39 s.vm) (hw : ∀ d ∈ words, d.before a0 Z = true) {kI : Nat} (wi : (Jvm.Cond.instantiable ST kI).before a0 Z = true)
    {x b : Addr} {k : ClassId} {zn z : Int32} {cs : List Int32} {dv v0 c0 : Value} (E : RoadKit.Exa Z h x ST) (V : RoadKit.Fld Z h x ST "value" "[B" v0) (C : RoadKit.Fld Z h x ST "coder" "B" c0) (K : RoadKit.Arv Z h b k .char zn (cs.map Value.int) dv) (S : RoadKit.Sta Z h ST "COMPACT_STRINGS" "Z" (.int z)) (hz : ¬ z = 0)
    (hlen : zn.toNatClampNeg = cs.length) (h0 : 0 < cs.length) (hbig : cs.length ≤ 536870912) (hall : ∀ c ∈ cs, ¬ 255 < c) (hfr : 4 ≤ R.frames) (hlo : W + 65 ≤ R.locals) :
    Back l R p e below s args New1.yN len W (fun P a => a = #[.ref x, .ref b] ∧ P.U.heap = h ∧ P.cells + 1 ≤ R.cells ∧ P.slots + cs.length ≤ R.slots)
      (fun P _ v B => ∃ L, QA Z x zn cs h v B.U.heap L ∧ B.locs = P.locs ++ L ∧ B.cells = P.cells + 1 ∧ B.slots = P.slots + cs.length) := by
  obtain ⟨A, K1, K2, K3, K4, K5, K6⟩ := K
  have e : A.slots.size = cs.length := K3.trans hlen
  have hat : ∀ (i : Nat) (hi : i < cs.length), A.slots[i]? = some (.int cs[i]) := fun i hi => by rw [K5 i (by omega)]; simp [List.getD_eq_getElem?_getD, hi]
  have hcv : ∀ (i : Nat) (hi : i < cs.length), cv A i = cs[i] := fun i hi => by unfold cv; rw [hat i hi]
  have hty : Typed .char A := fun i v hv => by
    have hi : i < A.slots.size := (Array.getElem?_eq_some_iff.mp hv).1
    have q := K5 i hi
    rw [hv] at q
    rw [Option.some.inj q]
    exact K6 i hi
  refine Back.mono (back hZ hw wi E V C K1 hty S hz (by omega) (by omega) (fun i hi => by rw [hcv i (by omega)]; exact hall _ (List.getElem_mem _)) hfr hlo) (fun P a hp => ⟨hp.1, hp.2.1, hp.2.2.1, by rw [e]; exact hp.2.2.2⟩) (fun P a v B hp hq => ?_)
  obtain ⟨L, ⟨q1, q2, q3, q4, q5, q6, q7, ⟨V', v1, v2, v3, v4, v5⟩, q9⟩, hl, hc, hs⟩ := hq
  refine ⟨L, ⟨q1, q2, q3, q4, q5, q6, q7, ⟨V'.cls, v3, V', v1, rfl, by rw [v4, e, hlen], K4, fun i hi => ?_, fun i hi => ?_⟩, q9⟩, hl, hc, by rw [hs, e]⟩
  · have hi' : i < cs.length := by omega
    rw [v5 i (by omega), hcv i hi']; simp [List.getD_eq_getElem?_getD, hi']
  · have hi' : i < cs.length := by omega
    simp only [List.getD_eq_getElem?_getD, List.getElem?_map, List.getElem?_eq_getElem hi', Option.map_some, Option.getD_some]
    exact fits_lo8 _
end StrChars.Road
namespace StrChars.Road
open Jvm Sem ClassFile Op Lib Jvm.Stand Jvm.Free Jvm.Free.XT
/-- WHAT COMES BACK, in the writer's own shape -/
def QV (Z : State) (x : Addr) (N : Int32) (bs : List Int32) (h : Heap) (n0 : Nat) (v : Option Value) (h' : Heap) (L : List Loc) : Prop := v = none ∧ RoadKit.Fr n0 L ∧ RoadKit.Keep h h' [x] ∧ RoadKit.Exa Z h' x ST ∧ RoadKit.Fld Z h' x ST "coder" "B" (.int 0) ∧
  ∃ (t : Addr) (kb : ClassId), n0 ≤ t ∧ h.size ≤ t ∧ ¬ t = x ∧ RoadKit.Fld Z h' x ST "value" "[B" (.ref t) ∧ RoadKit.Arv Z h' t kb .byte N (bs.map Value.int) (.int 0)
/-- **new String(chars) AT A CALL, FOR THE WRITER**: a char[] of n known ints, each 0 to 255 -/
theorem backV {p : Program} {l : Launch} {e : Env} {R : Room} {s : State} {args : Array Value} {below : List Frame} {len W : Nat} {Z : State} {a0 : Array Value} {h : Heap} (hZ : Z.Warmed39 s.vm) (hw : ∀ d ∈ words, d.before a0 Z = true) {kI : Nat} (wi : (Jvm.Cond.instantiable ST kI).before a0 Z = true)
    {x b : Addr} {kC : ClassId} {cs bs : List Int32} {d v0 c0 : Value} {z N : Int32} {n n0 : Nat} (hx0 : n0 ≤ x) (hh0 : n0 ≤ h.size) (E : RoadKit.Exa Z h x ST) (V : RoadKit.Fld Z h x ST "value" "[B" v0) (C : RoadKit.Fld Z h x ST "coder" "B" c0) (K : RoadKit.Arv Z h b kC .char N (cs.map Value.int) d) (S : RoadKit.Sta Z h ST "COMPACT_STRINGS" "Z" (.int z)) (hz : ¬ z = 0)
    (hn : cs.length = n) (hN : N = Int32.ofNat n) (l0 : 0 < n) (l2 : n ≤ 4000) (hp : ∀ c ∈ cs, ¬ c < 0 ∧ ¬ (255 : Int32) < c) (hb : bs = cs.map (fun c => c.toInt8.toInt32)) (hfr : 4 ≤ R.frames) (hlo : W + 65 ≤ R.locals) :
    Back l R p e below s args (⟨"java/lang/String", "<init>", "([C)V"⟩ : MethodName) len W (fun P a => a = #[.ref x, .ref b] ∧ P.U.heap = h ∧ P.cells + 1 ≤ R.cells ∧ P.slots + n ≤ R.slots)
      (fun P _ v B => ∃ L, QV Z x N bs h n0 v B.U.heap L ∧ B.locs = P.locs ++ L ∧ B.cells = P.cells + 1 ∧ B.slots = P.slots + n) := by
  subst hn hN hb
  refine Back.mono (backArv hZ hw wi E V C K S hz (n32 (by omega)) l0 (by omega) (fun c hc => (hp c hc).2) hfr hlo) (fun P a hp => hp) (fun P a v B hp hq => ?_)
  obtain ⟨L, ⟨q1, q2, q3, q4, q5, q6, q7, ⟨kb, v1, v2⟩, q9⟩, hl, hc, hs⟩ := hq
  exact ⟨L, ⟨q1, fun y hy => by rw [q2 y hy]; exact hx0, q3, q5, q7, h.size, kb, hh0, Nat.le_refl _, Nat.ne_of_gt E.lt, q6, by rw [List.map_map]; exact v2⟩, hl, hc, hs⟩
end StrChars.Road
namespace StrChars
open Jvm Sem ClassFile Op Lib Jvm.Stand Jvm.Free.XT Jvm.Free.ALB Jvm.Free.JM Jvm.Free
open Jvm.Lib.Cold (StaticIs)
def hi8 (x : Int32) : Int32 := lo8 (x >>> ((8 : Int32) &&& 31))
/-- what StringUTF16.getChar makes of two bytes -/
def pairCh (u v : Int32) : Int32 := (((u &&& 255) <<< ((0 : Int32) &&& 31)) ||| ((v &&& 255) <<< ((8 : Int32) &&& 31))).toUInt32.toUInt16.toUInt32.toInt32
theorem shr0 (c : Int32) : c >>> ((0 : Int32) &&& 31) = c := by
  have e : ((0 : Int32) &&& 31) = 0 := by decide
  rw [e]
  apply Int32.toBitVec_inj.mp
  rw [Int32.toBitVec_shiftRight]
  have e1 : ((0 : Int32).toBitVec.smod 32) = 0#32 := by decide
  rw [e1, BitVec.sshiftRight_eq']
  exact BitVec.sshiftRight_zero
theorem lo8_and (x : Int32) : (lo8 x &&& 255).toBitVec.toNat = x.toBitVec.toNat % 256 := by
  have h : (lo8 x).toBitVec = (x.toBitVec.signExtend 8).signExtend 32 := by rw [lo8, Int8.toBitVec_toInt32, Int32.toBitVec_toInt8]
  rw [Int32.toBitVec_and, BitVec.toNat_and, h]
  have e : ((x.toBitVec.signExtend 8).signExtend 32).toNat % 256 = x.toBitVec.toNat % 256 := by
    rw [BitVec.toNat_signExtend]
    have hlt := x.toBitVec.isLt
    simp only [BitVec.toNat_setWidth, BitVec.toNat_signExtend]
    split <;> split <;> omega
  rw [← e]
  exact Nat.and_two_pow_sub_one_eq_mod _ 8
theorem pair_says {c : Int32} (h0 : ¬ c < 0) (h1 : ¬ 65535 < c) : pairCh (lo8 c) (hi8 c) = c := by
  rw [Int32.lt_iff_toInt_lt] at h0 h1
  have e0 : (0 : Int32).toInt = 0 := rfl
  have e1 : (65535 : Int32).toInt = 65535 := rfl
  have hc : c.toInt = c.toBitVec.toNat := by
    have := c.toBitVec.isLt
    have e : c.toInt = c.toBitVec.toInt := rfl
    rw [e] at h0 h1
    rw [e]
    rw [BitVec.toInt_eq_toNat_cond] at h0 h1 ⊢
    split at h0 <;> split <;> omega
  have hn : c.toBitVec.toNat < 65536 := by omega
  have a1 := lo8_and c
  have a2 : (hi8 c &&& 255).toBitVec.toNat = c.toBitVec.toNat / 256 := by
    rw [hi8, lo8_and]
    have e : ((8 : Int32) &&& 31) = 8 := by decide
    rw [e, Int32.toBitVec_shiftRight]
    have e2 : ((8 : Int32).toBitVec.smod 32) = 8#32 := by decide
    rw [e2, BitVec.sshiftRight_eq', BitVec.toNat_sshiftRight_of_msb_false (by rw [BitVec.msb_eq_false_iff_two_mul_lt]; omega)]
    show c.toBitVec.toNat >>> 8 % 256 = _
    rw [Nat.shiftRight_eq_div_pow]
    omega
  unfold pairCh
  apply Int32.toBitVec_inj.mp
  apply BitVec.eq_of_toNat_eq
  have f0 : ((0 : Int32) &&& 31) = 0 := by decide
  have f8 : ((8 : Int32) &&& 31) = 8 := by decide
  rw [f0, f8]
  have g : (((lo8 c &&& 255) <<< (0 : Int32)) ||| ((hi8 c &&& 255) <<< (8 : Int32))).toBitVec.toNat = c.toBitVec.toNat := by
    rw [Int32.toBitVec_or, Int32.toBitVec_shiftLeft, Int32.toBitVec_shiftLeft]
    have s0 : ((0 : Int32).toBitVec.smod 32) = 0#32 := by decide
    have s8 : ((8 : Int32).toBitVec.smod 32) = 8#32 := by decide
    rw [s0, s8, BitVec.toNat_or]
    simp only [BitVec.shiftLeft_eq', BitVec.toNat_shiftLeft, a1, a2]
    show (c.toBitVec.toNat % 256) <<< 0 % 2 ^ 32 ||| (c.toBitVec.toNat / 256) <<< 8 % 2 ^ 32 = _
    rw [Nat.shiftLeft_zero, Nat.mod_eq_of_lt (show c.toBitVec.toNat % 256 < 2 ^ 32 by omega), Nat.mod_eq_of_lt (show (c.toBitVec.toNat / 256) <<< 8 < 2 ^ 32 by rw [Nat.shiftLeft_eq]; omega), Nat.or_comm, ← Nat.shiftLeft_add_eq_or_of_lt (by omega), Nat.shiftLeft_eq]
    omega
  show BitVec.toNat (((((lo8 c &&& 255) <<< (0 : Int32)) ||| ((hi8 c &&& 255) <<< (8 : Int32))).toBitVec.setWidth 16).setWidth 32) = _
  rw [BitVec.toNat_setWidth, BitVec.toNat_setWidth, g]
  omega
end StrChars
namespace StrChars
open Jvm Sem ClassFile Op Lib Jvm.Stand Jvm.Free.XT Jvm.Free.ALB Jvm.Free.JM Jvm.Free
open Jvm.Lib.Cold (StaticIs)
theorem shr1 {n : Nat} (h : 2 * n < 2 ^ 31) : Int32.ofNat (2 * n) >>> ((1 : Int32) &&& 31) = Int32.ofNat n := by
  have e : ((1 : Int32) &&& 31) = 1 := by decide
  rw [e]
  apply Int32.toBitVec_inj.mp
  rw [Int32.toBitVec_shiftRight]
  have e1 : ((1 : Int32).toBitVec.smod 32) = 1#32 := by decide
  have hm : (BitVec.ofNat 32 (2 * n)).toNat = 2 * n := by rw [BitVec.toNat_ofNat, Nat.mod_eq_of_lt (by omega)]
  rw [e1, BitVec.sshiftRight_eq']
  apply BitVec.eq_of_toNat_eq
  show ((BitVec.ofNat 32 (2 * n)).sshiftRight 1).toNat = (BitVec.ofNat 32 n).toNat
  rw [BitVec.toNat_sshiftRight_of_msb_false (by rw [BitVec.msb_eq_false_iff_two_mul_lt, hm]; omega), hm, BitVec.toNat_ofNat, Nat.shiftRight_eq_div_pow]
  omega
/-- charAt's cast of a byte read back -/
def chr8 (u : Int32) : Int32 := (u &&& 255).toUInt32.toUInt16.toUInt32.toInt32
theorem chr8_lo8 {c : Int32} (h0 : ¬ c < 0) (h1 : ¬ 255 < c) : chr8 (lo8 c) = c := by
  have t : ∀ k : Fin 256, (Int32.ofNat k.val).toUInt32.toUInt16.toUInt32.toInt32 = Int32.ofNat k.val := by decide +kernel
  unfold chr8
  rw [lo8_mask h0 h1]
  rw [Int32.lt_iff_toInt_lt] at h0 h1
  have e0 : (0 : Int32).toInt = 0 := rfl
  have e1 : (255 : Int32).toInt = 255 := rfl
  obtain ⟨k, hk⟩ : ∃ k : Nat, c.toInt = k := ⟨c.toInt.toNat, by omega⟩
  have hx : c = Int32.ofNat k := Int32.toInt_inj.mp (by rw [hk, Int32.toInt_ofNat_small (by omega)])
  rw [hx]
  exact t ⟨k, by omega⟩
theorem narrow_ch {c : Int32} (h0 : ¬ c < 0) (h1 : ¬ 65535 < c) : narrow .char (.int c) = .int c := by
  have q : narrow .char (.int (pairCh (lo8 c) (hi8 c))) = .int (pairCh (lo8 c) (hi8 c)) := narrow_c _
  rwa [pair_says h0 h1] at q
/-- the array's cell V codes the n chars f 0 .. f (n - 1) by the coder cd, as the JDK does: coder 1 just where some char is above 255 -/
def Cod (cd : Int32) (n : Nat) (f : Nat → Int32) (V : Cell) : Prop := (cd = 0 ∧ V.slots.size = n ∧ ∀ j, j < n → V.slots[j]? = some (.int (lo8 (f j))) ∧ ¬ 255 < f j) ∨ (cd = 1 ∧ V.slots.size = 2 * n ∧ (∀ j, j < n → V.slots[2 * j]? = some (.int (lo8 (f j))) ∧ V.slots[2 * j + 1]? = some (.int (hi8 (f j)))) ∧ ∃ j, j < n ∧ 255 < f j)
theorem Cod.cd {cd : Int32} {n : Nat} {f : Nat → Int32} {V : Cell} (h : Cod cd n f V) : cd = 0 ∨ cd = 1 := h.imp (fun q => q.1) fun q => q.1
theorem Cod.len {cd : Int32} {n : Nat} {f : Nat → Int32} {V : Cell} (h : Cod cd n f V) (hs : V.slots.size < 2 ^ 31) : Int32.ofNat V.slots.size >>> (cd &&& 31) = Int32.ofNat n := by
  rcases h with ⟨rfl, h, -⟩ | ⟨rfl, h, -⟩
  · rw [shr0, h]
  · rw [h, shr1 (by omega)]
/-- **x is a String of the n chars f 0 .. f (n - 1)**, Latin-1 or UTF-16; its array at t has the cell V -/
def Txt (x t : Addr) (V : Cell) (cd : Int32) (n : Nat) (f : Nat → Int32) (U : State) : Prop := Exact "java/lang/String" x U ∧ Has x "java/lang/String" "value" "[B" (.ref t) U ∧ Has x "java/lang/String" "coder" "B" (.int cd) U ∧ XT.Arr .byte t V U ∧ Cod cd n f V ∧ ∀ j, j < n → ¬ f j < 0 ∧ ¬ 65535 < f j
theorem Txt.mv {x t : Addr} {V : Cell} {cd : Int32} {n : Nat} {f : Nat → Int32} {U U' : State} (h : Txt x t V cd n f U) (hal : U.vm.Alike U'.vm) (hh : U'.heap = U.heap) : Txt x t V cd n f U' := ⟨h.1.mv hal hh, h.2.1.mv hal hh, h.2.2.1.mv hal hh, h.2.2.2.1.mv hal hh, h.2.2.2.2⟩
namespace Cdr
def yN : MethodName := ⟨"java/lang/String", "coder", "()B"⟩
abbrev yB : ByteArray := jdk_42_method_152_code
theorem d0 : decode yB 0 = .ok (.getstatic 38, 3) := by decide +kernel
theorem d3 : decode yB 3 = .ok (.ifCond (.eq) 10, 3) := by decide +kernel
theorem d6 : decode yB 6 = .ok (.aload_n 0, 1) := by decide +kernel
theorem d7 : decode yB 7 = .ok (.getfield 15, 3) := by decide +kernel
theorem d10 : decode yB 10 = .ok (.goto 4, 3) := by decide +kernel
theorem d14 : decode yB 14 = .ok (.ireturn, 1) := by decide +kernel
def site : List Cond := [.fieldLink "java/lang/String" 38 "java/lang/String" "COMPACT_STRINGS" "Z", .fieldLink "java/lang/String" 15 "java/lang/String" "coder" "B"]
def tab : Cond := tabOf yN yB 1 (some .byte) site
def P (x : Addr) (cd z : Int32) (args : Array Value) (s : State) : Prop := args = #[.ref x] ∧ Has x "java/lang/String" "coder" "B" (.int cd) s ∧ (cd = 0 ∨ cd = 1) ∧ StaticIs s "java/lang/String" "COMPACT_STRINGS" "Z" (.int z) ∧ ¬ z = 0
def E (cd : Int32) (r : Option Value) (s u : State) : Prop := XT.PureE (some (.int cd)) r s u
theorem law (l : Launch) (x : Addr) (cd z : Int32) : Law l yN 1 0 0 0 yB 1 (some .byte) site (P x cd z) (E cd) [] 0 0 := by
  refine Law.of_walk (plainFor_of_name (by decide +kernel)) (by decide +kernel) (by decide +kernel) (by decide) (fun _ _ h => by rw [h.1]; rfl) (fun _ U U' hal hh h => ⟨h.1, h.2.1.mv hal hh, h.2.2.1, h.2.2.2.1.there hal hh, h.2.2.2.2⟩) (fun r U U' V V' h1 hal h2 h => XT.PureE.mv r U U' V V' h1 hal h2 h) ?_
  intro p e s m args below meth c s₁ X0 hexec hbytes hml hret hlk hnm hown hh0 W hP
  obtain ⟨rfl, hx, hc, s1, hz⟩ := hP
  have c1 : Steps p.tables e below (s₁.setTop (entryFrame m #[.ref x] 1)) (s₁.setTop (mkF m 0 #[.val (.ref x)] [])) := entry rfl
  obtain ⟨T2, X2, q2, st2⟩ := X0.sget hexec hown (wk W (.fieldLink "java/lang/String" 38 "java/lang/String" "COMPACT_STRINGS" "Z")) s1 (fun _ _ h => by rw [hh0]; exact h) (g := (mkF m 0 #[.val (.ref x)] [])) rfl (hb hbytes d0)
  have hh2 := q2.trans hh0
  have c3 : Steps p.tables e below (s₁.setTop (entryFrame m #[.ref x] 1)) (T2.setTop (mkF m 7 #[.val (.ref x)] [.ref x])) := (c1.trans (st2 _ (Steps.refl _))).trans (by
    refine XS.ifNo X2.here hexec rfl (hb hbytes d3) rfl (i0_eq_f hz) ?_
    refine XS.aloadN X2.here hexec rfl (hb hbytes d6) rfl rfl ?_
    exact Steps.refl _)
  obtain ⟨T4, X4, q4, st4⟩ := X2.hget hexec hown (wk W (.fieldLink "java/lang/String" 15 "java/lang/String" "coder" "B")) (hx.mv X2.warmed.alike hh2) (g := (mkF m 7 #[.val (.ref x)] [.ref x])) rfl (rest := []) rfl (hb hbytes d7)
  have c5 : Steps p.tables e below (s₁.setTop (entryFrame m #[.ref x] 1)) (T4.setTop (mkF m 14 #[.val (.ref x)] [.int cd])) := (c3.trans (st4 _ (Steps.refl _))).trans (by
    refine XS.goto X4.here hexec rfl (pc0 := 10) rfl (hb hbytes d10) (by decide) rfl ?_
    exact Steps.refl _)
  exact ⟨T4, some (.int cd), _, _, _, X4, rfl, rfl, rfl, (fun h => by cases h), ⟨rfl, q4.trans hh2⟩, fun fs hl => c5.trans (X4.ireturnOut hexec hret (by rcases hc with rfl | rfl <;> rfl) (Or.inr (Or.inr (Or.inl rfl))) (hb hbytes d14) hl)⟩
end Cdr
namespace Len
def yN : MethodName := ⟨"java/lang/String", "length", "()I"⟩
abbrev yB : ByteArray := jdk_42_method_54_code
theorem d0 : decode yB 0 = .ok (.aload_n 0, 1) := by decide +kernel
theorem d1 : decode yB 1 = .ok (.getfield 9, 3) := by decide +kernel
theorem d4 : decode yB 4 = .ok (.arraylength, 1) := by decide +kernel
theorem d5 : decode yB 5 = .ok (.aload_n 0, 1) := by decide +kernel
theorem d6 : decode yB 6 = .ok (.invokevirtual 335, 3) := by decide +kernel
theorem d9 : decode yB 9 = .ok (.ishr, 1) := by decide +kernel
theorem d10 : decode yB 10 = .ok (.ireturn, 1) := by decide +kernel
def site : List Cond := [.fieldLink "java/lang/String" 9 "java/lang/String" "value" "[B", Cdr.tab] ++ virtW "java/lang/String" 335 "java/lang/String" Cdr.yN Cdr.yN
def tab : Cond := tabOf yN yB 1 (some .int) site
def P (x t : Addr) (V : Cell) (cd : Int32) (n : Nat) (f : Nat → Int32) (z : Int32) (args : Array Value) (s : State) : Prop := args = #[.ref x] ∧ Txt x t V cd n f s ∧ StaticIs s "java/lang/String" "COMPACT_STRINGS" "Z" (.int z) ∧ ¬ z = 0
def E (n : Nat) (r : Option Value) (s u : State) : Prop := XT.PureE (some (.int (Int32.ofNat n))) r s u
/-- length() of a String of n chars, in either coding -/
theorem law (l : Launch) (x t : Addr) (V : Cell) (cd : Int32) (n : Nat) (f : Nat → Int32) (z : Int32) : Law l yN 1 0 1 13 yB 1 (some .int) site (P x t V cd n f z) (E n) [] 0 0 := by
  refine Law.of_walk (plainFor_of_name (by decide +kernel)) (by decide +kernel) (by decide +kernel) (by decide) (fun _ _ h => by rw [h.1]; rfl) (fun _ U U' hal hh h => ⟨h.1, h.2.1.mv hal hh, h.2.2.1.there hal hh, h.2.2.2⟩) (fun r U U' V V' h1 hal h2 h => XT.PureE.mv r U U' V V' h1 hal h2 h) ?_
  intro p e s m args below meth c s₁ X0 hexec hbytes hml hret hlk hnm hown hh0 W hP
  obtain ⟨rfl, hx, s1, hz⟩ := hP
  have v31 := hx.2.2.2.1.2.2.2
  have c1 : Steps p.tables e below (s₁.setTop (entryFrame m #[.ref x] 1)) (s₁.setTop (mkF m 1 #[.val (.ref x)] [.ref x])) := Steps.trans (entry rfl) (by
    show Steps p.tables e below (s₁.setTop (mkF m 0 #[.val (.ref x)] [])) _
    refine XS.aloadN X0.here hexec rfl (hb hbytes d0) rfl rfl ?_
    exact Steps.refl _)
  obtain ⟨T2, X2, q2, st2⟩ := X0.hget hexec hown (wk W (.fieldLink "java/lang/String" 9 "java/lang/String" "value" "[B")) (hx.mv X0.warmed.alike hh0).2.1 (g := (mkF m 1 #[.val (.ref x)] [.ref x])) rfl (rest := []) rfl (hb hbytes d1)
  have hh2 := q2.trans hh0
  have hx2 := hx.mv X2.warmed.alike hh2
  have c3 : Steps p.tables e below (s₁.setTop (entryFrame m #[.ref x] 1)) (T2.setTop (mkF m 6 #[.val (.ref x)] [.ref x, .int (Int32.ofNat V.slots.size)])) := (c1.trans (st2 _ (Steps.refl _))).trans (by
    refine X2.alen hexec hx2.2.2.2.1 rfl rfl (hb hbytes d4) ?_
    refine XS.aloadN X2.here hexec rfl (hb hbytes d5) rfl rfl ?_
    exact Steps.refl _)
  obtain ⟨v4, T4, X4, E4, g4⟩ := X2.callV hexec (Cdr.law l x cd z) hown (wks W (virtW "java/lang/String" 335 "java/lang/String" Cdr.yN Cdr.yN)) rfl (by decide) (wk W Cdr.tab) (W := 1) (Nat.le_of_ble_eq_true rfl) (Nat.le_of_ble_eq_true rfl) (Nat.le_refl _) (Nat.le_refl _) (hx2.1.fc X2.warmed.alike) hx2.1.is (g := (mkF m 6 #[.val (.ref x)] [.ref x, .int (Int32.ofNat V.slots.size)])) rfl (by rw [hml]; rfl) c3 (argsL := []) (rest := [.int (Int32.ofNat V.slots.size)]) rfl rfl (by show 2 * 0 + (1 + 0) ≤ _; decide) (hb hbytes d6) (⟨rfl, hx2.2.2.1, hx.2.2.2.2.1.cd, s1.there X2.warmed.alike hh2, hz⟩)
  obtain ⟨rfl, q4⟩ := E4
  have c5 : Steps p.tables e below (s₁.setTop (entryFrame m #[.ref x] 1)) (T4.setTop (mkF m 10 #[.val (.ref x)] [.int (Int32.ofNat V.slots.size >>> (cd &&& 31))])) := Steps.trans g4 (by
    refine ishr X4.here hexec rfl (hb hbytes d9) rfl ?_
    exact Steps.refl _)
  rw [hx.2.2.2.2.1.len v31] at c5
  exact ⟨T4, some (.int (Int32.ofNat n)), _, _, _, X4, rfl, rfl, rfl, (fun h => by cases h), ⟨rfl, q4.trans hh2⟩, fun fs hl => c5.trans (X4.ireturnOut hexec hret rfl (Or.inl rfl) (hb hbytes d10) hl)⟩
theorem pays {l : Launch} {R : Room} {p : Program} {e : Env} {below : List Frame} {s : State} {sargs : Array Value} {len W : Nat} (x t : Addr) (V : Cell) (cd : Int32) (n : Nat) (f : Nat → Int32) (z : Int32) (htab : tab.before sargs s = true) (hfr : 2 ≤ R.frames) (hlo : W + 25 ≤ R.locals) :
    Back l R p e below s sargs yN len W (fun A₁ a₁ => A₁.cells + 0 ≤ R.cells ∧ A₁.slots + 0 ≤ R.slots ∧ P x t V cd n f z a₁ A₁.U) (fun A₁ _ v₁ B₁ => E n v₁ A₁.U B₁.U ∧ B₁.locs = A₁.locs ++ [] ∧ B₁.cells = A₁.cells + 0 ∧ B₁.slots = A₁.slots + 0) :=
  (law l x t V cd n f z).pays htab hfr (by omega)
end Len
namespace IsL
def yN : MethodName := ⟨"java/lang/String", "isLatin1", "()Z"⟩
abbrev yB : ByteArray := jdk_42_method_154_code
theorem d0 : decode yB 0 = .ok (.getstatic 38, 3) := by decide +kernel
theorem d3 : decode yB 3 = .ok (.ifCond (.eq) 14, 3) := by decide +kernel
theorem d6 : decode yB 6 = .ok (.aload_n 0, 1) := by decide +kernel
theorem d7 : decode yB 7 = .ok (.getfield 15, 3) := by decide +kernel
theorem d10 : decode yB 10 = .ok (.ifCond (.ne) 7, 3) := by decide +kernel
theorem d13 : decode yB 13 = .ok (.iconst 1, 1) := by decide +kernel
theorem d14 : decode yB 14 = .ok (.goto 4, 3) := by decide +kernel
theorem d17 : decode yB 17 = .ok (.iconst 0, 1) := by decide +kernel
theorem d18 : decode yB 18 = .ok (.ireturn, 1) := by decide +kernel
def site : List Cond := [.fieldLink "java/lang/String" 38 "java/lang/String" "COMPACT_STRINGS" "Z", .fieldLink "java/lang/String" 15 "java/lang/String" "coder" "B"]
def tab : Cond := tabOf yN yB 1 (some .boolean) site
def P (x : Addr) (cd z : Int32) (args : Array Value) (s : State) : Prop := args = #[.ref x] ∧ Has x "java/lang/String" "coder" "B" (.int cd) s ∧ (cd = 0 ∨ cd = 1) ∧ StaticIs s "java/lang/String" "COMPACT_STRINGS" "Z" (.int z) ∧ ¬ z = 0
def E (cd : Int32) (r : Option Value) (s u : State) : Prop := XT.PureE (some (.int (1 - cd))) r s u
theorem law (l : Launch) (x : Addr) (cd z : Int32) : Law l yN 1 0 0 0 yB 1 (some .boolean) site (P x cd z) (E cd) [] 0 0 := by
  refine Law.of_walk (plainFor_of_name (by decide +kernel)) (by decide +kernel) (by decide +kernel) (by decide) (fun _ _ h => by rw [h.1]; rfl) (fun _ U U' hal hh h => ⟨h.1, h.2.1.mv hal hh, h.2.2.1, h.2.2.2.1.there hal hh, h.2.2.2.2⟩) (fun r U U' V V' h1 hal h2 h => XT.PureE.mv r U U' V V' h1 hal h2 h) ?_
  intro p e s m args below meth c s₁ X0 hexec hbytes hml hret hlk hnm hown hh0 W hP
  obtain ⟨rfl, hx, hc, s1, hz⟩ := hP
  have c1 : Steps p.tables e below (s₁.setTop (entryFrame m #[.ref x] 1)) (s₁.setTop (mkF m 0 #[.val (.ref x)] [])) := entry rfl
  obtain ⟨T2, X2, q2, st2⟩ := X0.sget hexec hown (wk W (.fieldLink "java/lang/String" 38 "java/lang/String" "COMPACT_STRINGS" "Z")) s1 (fun _ _ h => by rw [hh0]; exact h) (g := (mkF m 0 #[.val (.ref x)] [])) rfl (hb hbytes d0)
  have hh2 := q2.trans hh0
  have c3 : Steps p.tables e below (s₁.setTop (entryFrame m #[.ref x] 1)) (T2.setTop (mkF m 7 #[.val (.ref x)] [.ref x])) := (c1.trans (st2 _ (Steps.refl _))).trans (by
    refine XS.ifNo X2.here hexec rfl (hb hbytes d3) rfl (i0_eq_f hz) ?_
    refine XS.aloadN X2.here hexec rfl (hb hbytes d6) rfl rfl ?_
    exact Steps.refl _)
  obtain ⟨T4, X4, q4, st4⟩ := X2.hget hexec hown (wk W (.fieldLink "java/lang/String" 15 "java/lang/String" "coder" "B")) (hx.mv X2.warmed.alike hh2) (g := (mkF m 7 #[.val (.ref x)] [.ref x])) rfl (rest := []) rfl (hb hbytes d7)
  have c5 : Steps p.tables e below (s₁.setTop (entryFrame m #[.ref x] 1)) (T4.setTop (mkF m 10 #[.val (.ref x)] [.int cd])) := c3.trans (st4 _ (Steps.refl _))
  have c6 : Steps p.tables e below (s₁.setTop (entryFrame m #[.ref x] 1)) (T4.setTop (mkF m 18 #[.val (.ref x)] [.int (1 - cd)])) := by
    rcases hc with rfl | rfl
    · exact c5.trans (by
        refine XS.ifNo X4.here hexec rfl (hb hbytes d10) rfl (i0_ne_f rfl) ?_
        refine iconstV X4.here hexec rfl 1 (hb hbytes d13) (by decide) ?_
        refine XS.goto X4.here hexec rfl (pc0 := 14) rfl (hb hbytes d14) (by decide) rfl ?_
        exact Steps.refl _)
    · exact c5.trans (by
        refine XS.ifYes X4.here hexec rfl (pc0 := 10) rfl (hb hbytes d10) rfl (i0_ne_t (by decide)) (by decide) rfl ?_
        refine iconstV X4.here hexec rfl 0 (hb hbytes d17) (by decide) ?_
        exact Steps.refl _)
  exact ⟨T4, some (.int (1 - cd)), _, _, _, X4, rfl, rfl, rfl, (fun h => by cases h), ⟨rfl, q4.trans hh2⟩, fun fs hl => c6.trans (X4.ireturnOut hexec hret (by rcases hc with rfl | rfl <;> rfl) (Or.inr (Or.inl rfl)) (hb hbytes d18) hl)⟩
end IsL
namespace LChA
def yN : MethodName := ⟨"java/lang/StringLatin1", "charAt", "([BI)C"⟩
abbrev yB : ByteArray := jdk_43_method_2_code
theorem d0 : decode yB 0 = .ok (.iload_n 1, 1) := by decide +kernel
theorem d1 : decode yB 1 = .ok (.aload_n 0, 1) := by decide +kernel
theorem d2 : decode yB 2 = .ok (.arraylength, 1) := by decide +kernel
theorem d3 : decode yB 3 = .ok (.invokestatic 9, 3) := by decide +kernel
theorem d6 : decode yB 6 = .ok (.aload_n 0, 1) := by decide +kernel
theorem d7 : decode yB 7 = .ok (.iload_n 1, 1) := by decide +kernel
theorem d8 : decode yB 8 = .ok (.baload, 1) := by decide +kernel
theorem d9 : decode yB 9 = .ok (.sipush 255, 3) := by decide +kernel
theorem d12 : decode yB 12 = .ok (.iand, 1) := by decide +kernel
theorem d13 : decode yB 13 = .ok (.i2c, 1) := by decide +kernel
theorem d14 : decode yB 14 = .ok (.ireturn, 1) := by decide +kernel
def site : List Cond := [JO.Str_checkIndex.tab] ++ staticW "java/lang/StringLatin1" 9 JO.Str_checkIndex.yN
def tab : Cond := tabOf yN yB 2 (some .char) site
def P (t : Addr) (V : Cell) (i : Nat) (u : Int32) (fm : Value) (args : Array Value) (s : State) : Prop := args = #[.ref t, .int (Int32.ofNat i)] ∧ XT.Arr .byte t V s ∧ V.slots[i]? = some (.int u) ∧ (StaticIs s "jdk/internal/util/Preconditions" "SIOOBE_FORMATTER" "Ljava/util/function/BiFunction;" fm ∧ fm.isRef = true)
def E (u : Int32) (r : Option Value) (s w : State) : Prop := XT.PureE (some (.int (chr8 u))) r s w
theorem law (l : Launch) (t : Addr) (V : Cell) (i : Nat) (u : Int32) (fm : Value) : Law l yN 2 2 2 27 yB 2 (some .char) site (P t V i u fm) (E u) [] 0 0 := by
  refine Law.of_walk (plainFor_of_name (by decide +kernel)) (by decide +kernel) (by decide +kernel) (by decide) (fun _ _ h => by rw [h.1]; rfl) (fun _ U U' hal hh h => ⟨h.1, h.2.1.mv hal hh, h.2.2.1, h.2.2.2.1.there hal hh, h.2.2.2.2⟩) (fun r U U' V V' h1 hal h2 h => XT.PureE.mv r U U' V V' h1 hal h2 h) ?_
  intro p e s m args below meth c s₁ X0 hexec hbytes hml hret hlk hnm hown hh0 W hP
  obtain ⟨rfl, hV, hu, s1, rf⟩ := hP
  have v31 := hV.2.2.2
  have hi : i < V.slots.size := (Array.getElem?_eq_some_iff.mp hu).1
  have c1 : Steps p.tables e below (s₁.setTop (entryFrame m #[.ref t, .int (Int32.ofNat i)] 2)) (s₁.setTop (mkF m 0 #[.val (.ref t), .val (.int (Int32.ofNat i))] [])) := entry rfl
  have c2 : Steps p.tables e below (s₁.setTop (entryFrame m #[.ref t, .int (Int32.ofNat i)] 2)) (s₁.setTop (mkF m 3 #[.val (.ref t), .val (.int (Int32.ofNat i))] [.int (Int32.ofNat V.slots.size), .int (Int32.ofNat i)])) := c1.trans (by
    refine XS.iloadN X0.here hexec rfl (hb hbytes d0) rfl ?_
    refine XS.aloadN X0.here hexec rfl (hb hbytes d1) rfl rfl ?_
    refine X0.alen hexec (hV.mv X0.warmed.alike hh0) rfl rfl (hb hbytes d2) ?_
    exact Steps.refl _)
  obtain ⟨v3, T3, X3, E3, g3⟩ := X0.callS hexec (JO.Str_checkIndex.law l (Int32.ofNat i) (Int32.ofNat V.slots.size) fm) hown (wks W (staticW "java/lang/StringLatin1" 9 JO.Str_checkIndex.yN)) (wk W JO.Str_checkIndex.tab) (W := 0) (Nat.le_of_ble_eq_true rfl) (Nat.le_of_ble_eq_true rfl) (Nat.le_refl _) (Nat.le_refl _) (g := (mkF m 3 #[.val (.ref t), .val (.int (Int32.ofNat i))] [.int (Int32.ofNat V.slots.size), .int (Int32.ofNat i)])) rfl (by rw [hml]; rfl) c2 (argsL := [.int (Int32.ofNat i), .int (Int32.ofNat V.slots.size)]) (rest := []) rfl rfl (by show 2 * 0 + 0 ≤ _; decide) (hb hbytes d3) (⟨rfl, rf, s1.there X0.warmed.alike hh0, Int32.ofNat_not_neg (by omega), lt32 v31 hi⟩)
  obtain ⟨rfl, q3⟩ := E3
  have hh3 := q3.trans hh0
  have c4 : Steps p.tables e below (s₁.setTop (entryFrame m #[.ref t, .int (Int32.ofNat i)] 2)) (T3.setTop (mkF m 14 #[.val (.ref t), .val (.int (Int32.ofNat i))] [.int (chr8 u)])) := Steps.trans g3 (by
    refine XS.aloadN X3.here hexec rfl (hb hbytes d6) rfl rfl ?_
    refine XS.iloadN X3.here hexec rfl (hb hbytes d7) rfl ?_
    refine X3.aget hexec (hV.mv X3.warmed.alike hh3) rfl hu rfl rfl (hb hbytes d8) ?_
    refine sipushV X3.here hexec rfl 255 (hb hbytes d9) (by decide) ?_
    refine XS.iand X3.here hexec rfl (hb hbytes d12) rfl ?_
    refine i2c X3.here hexec rfl (hb hbytes d13) rfl ?_
    exact Steps.refl _)
  exact ⟨T3, some (.int (chr8 u)), _, _, _, X3, rfl, rfl, rfl, (fun h => by cases h), ⟨rfl, hh3⟩, fun fs hl => c4.trans (X3.ireturnOut hexec hret (narrow_c _) (Or.inr (Or.inr (Or.inr (Or.inl rfl)))) (hb hbytes d14) hl)⟩
end LChA
end StrChars
namespace StrChars.Road
open Jvm Sem ClassFile Op Lib Jvm.Stand Jvm.Free Jvm.Free.XT
open Jvm.Lib.Cold (StaticIs)
theorem consq {a : Array Value} {s : State} {c : Jvm.Cond} {L : List Jvm.Cond} (h0 : c.before a s = true) (h : ∀ w ∈ L, w.before a s = true) : ∀ w ∈ c :: L, w.before a s = true := fun w hw => (List.mem_cons.mp hw).elim (fun e => e ▸ h0) (h w)
/-- the words of String.length(), either coding -/
abbrev wordsLen : List Jvm.Cond := [.code Len.yN Len.yB 1 (some .int), .initialized ST, .fieldLink ST 9 ST "value" "[B", .fieldLink ST 38 ST "COMPACT_STRINGS" "Z", .fieldLink ST 15 ST "coder" "B", .code Cdr.yN Cdr.yB 1 (some .byte), .methodLink ST 335 Cdr.yN, .declares Cdr.yN, .selects ST Cdr.yN Cdr.yN, .instanceMethod Cdr.yN]
theorem tabLen_of {a : Array Value} {s : State} (h : ∀ w ∈ wordsLen, w.before a s = true) : Len.tab.before a s = true := by
  have hc : Cdr.tab.before a s = true := unparts (wk h (.code Cdr.yN Cdr.yB 1 (some .byte))) (wks h (.initialized Cdr.yN.cls :: Cdr.site))
  have q := consq hc h
  exact unparts (wk q (.code Len.yN Len.yB 1 (some .int))) (wks q (.initialized Len.yN.cls :: Len.site))
theorem movedLen {Z s : State} {a0 args : Array Value} (hZ : Z.Warmed39 s.vm) (hw : ∀ d ∈ wordsLen, d.before a0 Z = true) : ∀ d ∈ wordsLen, d.before args s = true := fun d hd => by
  have q := hw d hd
  have t : ∀ d ∈ wordsLen, d = .arrayClass .byte ∨ (d.onTables && d.keepsFace) = true := by decide +kernel
  rcases t d hd with rfl | t
  · exact RoadKit.mvA hZ q
  · exact RoadKit.mv hZ q t
/-- the bytes of the chars cs, low before high -/
def wideBytes : List Int32 → List Value
  | [] => []
  | c :: cs => .int (lo8 c) :: .int (hi8 c) :: wideBytes cs
theorem wide_lo (d : Value) : ∀ (cs : List Int32) (j : Nat), j < cs.length → (wideBytes cs).getD (2 * j) d = .int (lo8 (cs.getD j 0))
  | [], j, h => absurd h (Nat.not_lt_zero j)
  | c :: cs, 0, _ => rfl
  | c :: cs, j + 1, h => by
    have q := wide_lo d cs j (by simpa using h)
    rw [show 2 * (j + 1) = 2 * j + 1 + 1 from by omega]
    simpa [wideBytes] using q
theorem wide_hi (d : Value) : ∀ (cs : List Int32) (j : Nat), j < cs.length → (wideBytes cs).getD (2 * j + 1) d = .int (hi8 (cs.getD j 0))
  | [], j, h => absurd h (Nat.not_lt_zero j)
  | c :: cs, 0, _ => rfl
  | c :: cs, j + 1, h => by
    have q := wide_hi d cs j (by simpa using h)
    rw [show 2 * (j + 1) + 1 = 2 * j + 1 + 1 + 1 from by omega]
    simpa [wideBytes] using q
theorem low_at (d : Value) (cs : List Int32) (j : Nat) (h : j < cs.length) : (cs.map fun c => Value.int (lo8 c)).getD j d = .int (lo8 (cs.getD j 0)) := by
  simp [List.getD_eq_getElem?_getD, h]
/-- an array of N2 bytes vs codes the chars cs by the coder cd -/
def CodA (cs : List Int32) (cd N2 : Int32) (vs : List Value) : Prop := (cd = 0 ∧ N2 = Int32.ofNat cs.length ∧ vs = (cs.map fun c => Value.int (lo8 c)) ∧ ∀ c ∈ cs, ¬ 255 < c) ∨ (cd = 1 ∧ N2 = Int32.ofNat (2 * cs.length) ∧ vs = wideBytes cs ∧ ∃ c ∈ cs, 255 < c)
theorem CodA.cod {cs : List Int32} {cd N2 : Int32} {vs : List Value} {V : Cell} (h : CodA cs cd N2 vs) (hn : 2 * cs.length < 2 ^ 31) (hs : V.slots.size = N2.toNatClampNeg) (hv : RoadKit.Has V vs (.int 0)) : Cod cd cs.length (fun j => cs.getD j 0) V := by
  rcases h with ⟨rfl, rfl, rfl, h⟩ | ⟨rfl, rfl, rfl, c, hc, hw⟩
  · rw [n32 (by omega)] at hs
    exact Or.inl ⟨rfl, hs, fun j hj => ⟨by rw [hv j (by omega), low_at _ _ _ hj], by
      have e : cs.getD j 0 = cs[j] := by simp [List.getD_eq_getElem?_getD, hj]
      show ¬ 255 < cs.getD j 0
      rw [e]; exact h _ (List.getElem_mem _)⟩⟩
  · rw [n32 (by omega)] at hs
    obtain ⟨j, hj, rfl⟩ := List.getElem_of_mem hc
    exact Or.inr ⟨rfl, hs, fun j hj => ⟨by rw [hv _ (by omega), wide_lo _ _ _ hj], by rw [hv _ (by omega), wide_hi _ _ _ hj]⟩, j, hj, by
      have e : cs.getD j 0 = cs[j] := by simp [List.getD_eq_getElem?_getD, hj]
      show 255 < cs.getD j 0
      rw [e]; exact hw⟩
/-- an object of exactly java/lang/String, its two fields found: as the laws ask it -/
theorem strObj {Z U : State} {a0 : Array Value} {kI : Nat} (wi : (Jvm.Cond.instantiable ST kI).before a0 Z = true) (al : Z.vm.Alike U.vm) {x : Addr} {v0 c0 : Value} (E : RoadKit.Exa Z U.heap x ST) (V : RoadKit.Fld Z U.heap x ST "value" "[B" v0) (C : RoadKit.Fld Z U.heap x ST "coder" "B" c0) :
    ∃ (D : Cell) (fV fC : Field), Blank ST x D U ∧ Found ST "value" "[B" fV U ∧ Found ST "coder" "B" fC U ∧ D.slots[fV.slot]? = some v0 ∧ D.slots[fC.slot]? = some c0 ∧ RoadKit.slotOf Z ST "value" "[B" = fV.slot ∧ RoadKit.slotOf Z ST "coder" "B" = fC.slot := by
  obtain ⟨D, cfV, kV, iV, fV, hD, gV, stV, knV, obV, asV, slV⟩ := V
  obtain ⟨D', cfC, kC, iC, fC, hD', gC, stC, -, -, asC, slC⟩ := C
  cases hD.symm.trans hD'
  obtain ⟨D2, kD, e1, e2, e3, e4, e5⟩ := E
  cases hD.symm.trans e1
  obtain ⟨c2, k2, i1, i2, i3, -⟩ := Cond.instantiable_spec wi
  cases e2.symm.trans i1
  cases e3.symm.trans i2
  obtain ⟨kU, u1, u2⟩ := al.2.2 _ _ e3
  exact ⟨D, fV, fC, ⟨hD, ⟨knV, fun q hq => by rw [hq] at obV; cases obV⟩, by rw [al.findClass]; exact e2, kU, u1, by rw [u2]; exact i3, by rw [u2]; exact e5 i3⟩, ⟨SBG.found_only al ⟨cfV, kV, iV, gV⟩, stV⟩, ⟨SBG.found_only al ⟨cfC, kC, iC, gC⟩, stC⟩, slV, slC, by simp [RoadKit.slotOf, gV], by simp [RoadKit.slotOf, gC]⟩
theorem sta_is {Z U : State} (al : Z.vm.Alike U.vm) {C n d : String} {v : Value} (S : RoadKit.Sta Z U.heap C n d v) : StaticIs U C n d v := by
  obtain ⟨cfS, iS, kS, fS, st, cS, t1, t2, t3, t4, t5, t6, t7⟩ := S
  exact StaticIs.there (s := { Z with heap := U.heap }) ⟨cfS, iS, kS, fS, st, cS, t1, t2, t3, t4, t5, (fun q => by rw [q] at t6; cases t6), t7⟩ al rfl
/-- **length() OF SUCH A STRING** -/
theorem lenW {p : Program} {l : Launch} {e : Env} {R : Room} {s : State} {args : Array Value} {below : List Frame} {len W : Nat} {Z : State} {a0 : Array Value} {h : Heap} (hZ : Z.Warmed39 s.vm) (hw : ∀ d ∈ wordsLen, d.before a0 Z = true) {kI : Nat} (wi : (Jvm.Cond.instantiable ST kI).before a0 Z = true)
    {x t : Addr} {kb : ClassId} {cs : List Int32} {cd N2 z : Int32} {vs : List Value} (E : RoadKit.Exa Z h x ST) (V : RoadKit.Fld Z h x ST "value" "[B" (.ref t)) (C : RoadKit.Fld Z h x ST "coder" "B" (.int cd)) (K : RoadKit.Arv Z h t kb .byte N2 vs (.int 0)) (hc : CodA cs cd N2 vs) (hb : ∀ c ∈ cs, ¬ c < 0 ∧ ¬ (65535 : Int32) < c)
    (S : RoadKit.Sta Z h ST "COMPACT_STRINGS" "Z" (.int z)) (hz : ¬ z = 0) (l2 : cs.length ≤ 4000) (hfr : 2 ≤ R.frames) (hlo : W + 25 ≤ R.locals) :
    Back l R p e below s args (⟨"java/lang/String", "length", "()I"⟩ : MethodName) len W (fun P a => a = #[.ref x] ∧ P.U.heap = h ∧ P.cells + 0 ≤ R.cells ∧ P.slots + 0 ≤ R.slots)
      (fun P _ v B => ∃ L, (v = some (.int (Int32.ofNat cs.length)) ∧ L = [] ∧ B.U.heap = h) ∧ B.locs = P.locs ++ L ∧ B.cells = P.cells + 0 ∧ B.slots = P.slots + 0) := by
  obtain ⟨A, K1, K2, K3, K4, K5, K6⟩ := K
  have hcod := hc.cod (by omega) K3 K5
  intro m meth c P g ig mk a X hg hsize hdg hW hn hp'
  obtain ⟨rfl, rfl, r1, r2⟩ := hp'
  have al : Z.vm.Alike P.U.vm := hZ.alike.trans X.warmed.alike
  obtain ⟨D, fV, fC, hB, F1, F2, g1, g2, -, -⟩ := strObj wi al E V C
  have hx : Txt x t A cd cs.length (fun j => cs.getD j 0) P.U := ⟨⟨_, hB.2.2.1, D, hB.1, rfl, by cases q : D.vm <;> first | rfl | exact absurd q (hB.2.1.2 _)⟩, Has.of hB F1 g1, Has.of hB F2 g2, ⟨K1.1, State.isArrayOf_alike al K1.2.1, K1.2.2, by rcases hcod with ⟨-, q, -⟩ | ⟨-, q, -⟩ <;> omega⟩, hcod, fun j hj => by
    have e : cs.getD j 0 = cs[j] := by simp [List.getD_eq_getElem?_getD, hj]
    show ¬ cs.getD j 0 < 0 ∧ ¬ 65535 < cs.getD j 0
    rw [e]; exact hb _ (List.getElem_mem _)⟩
  obtain ⟨v, B, X', ⟨⟨hv, hh⟩, hl, hk, hs⟩, st⟩ := Len.pays x t A cd cs.length (fun j => cs.getD j 0) z (tabLen_of (movedLen hZ hw)) hfr hlo m meth c P g ig mk _ X hg hsize hdg hW hn ⟨r1, r2, rfl, hx, sta_is al S, hz⟩
  exact ⟨v, B, X', ⟨[], ⟨hv, rfl, hh⟩, hl, hk, hs⟩, st⟩
end StrChars.Road
namespace StrChars.Road
open Jvm Sem ClassFile Op Lib Jvm.Stand Jvm.Free Jvm.Free.XT
open Jvm.Lib.Cold (StaticIs)
/-- the road's facts of a String, as the laws ask it -/
theorem txt_of {Z U : State} {a0 : Array Value} {kI : Nat} (wi : (Jvm.Cond.instantiable ST kI).before a0 Z = true) (al : Z.vm.Alike U.vm) {x t : Addr} {kb : ClassId} {cs : List Int32} {cd N2 : Int32} {vs : List Value} (E : RoadKit.Exa Z U.heap x ST) (V : RoadKit.Fld Z U.heap x ST "value" "[B" (.ref t)) (C : RoadKit.Fld Z U.heap x ST "coder" "B" (.int cd)) (K : RoadKit.Arv Z U.heap t kb .byte N2 vs (.int 0)) (hc : CodA cs cd N2 vs) (hb : ∀ c ∈ cs, ¬ c < 0 ∧ ¬ (65535 : Int32) < c) (l2 : cs.length ≤ 4000) :
    ∃ A, Txt x t A cd cs.length (fun j => cs.getD j 0) U := by
  obtain ⟨A, K1, K2, K3, K4, K5, K6⟩ := K
  have hcod := hc.cod (by omega) K3 K5
  obtain ⟨D, fV, fC, hB, F1, F2, g1, g2, -, -⟩ := strObj wi al E V C
  exact ⟨A, ⟨_, hB.2.2.1, D, hB.1, rfl, by cases q : D.vm <;> first | rfl | exact absurd q (hB.2.1.2 _)⟩, Has.of hB F1 g1, Has.of hB F2 g2, ⟨K1.1, State.isArrayOf_alike al K1.2.1, K1.2.2, by rcases hcod with ⟨-, q, -⟩ | ⟨-, q, -⟩ <;> omega⟩, hcod, fun j hj => by
    have e : cs.getD j 0 = cs[j] := by simp [List.getD_eq_getElem?_getD, hj]
    show ¬ cs.getD j 0 < 0 ∧ ¬ 65535 < cs.getD j 0
    rw [e]; exact hb _ (List.getElem_mem _)⟩
end StrChars.Road
namespace StrChars
open Jvm Sem ClassFile Op Lib Jvm.Stand Jvm.Free.XT Jvm.Free.ALB Jvm.Free.JM Jvm.Free
open Jvm.Lib.Cold (StaticIs)
namespace ChN
def yN : MethodName := ⟨"java/lang/String", "charAt", "(I)C"⟩
abbrev yB : ByteArray := jdk_42_method_56_code
theorem d0 : decode yB 0 = .ok (.aload_n 0, 1) := by decide +kernel
theorem d1 : decode yB 1 = .ok (.invokevirtual 492, 3) := by decide +kernel
theorem d4 : decode yB 4 = .ok (.ifCond (.eq) 12, 3) := by decide +kernel
theorem d7 : decode yB 7 = .ok (.aload_n 0, 1) := by decide +kernel
theorem d8 : decode yB 8 = .ok (.getfield 9, 3) := by decide +kernel
theorem d11 : decode yB 11 = .ok (.iload_n 1, 1) := by decide +kernel
theorem d12 : decode yB 12 = .ok (.invokestatic 495, 3) := by decide +kernel
theorem d15 : decode yB 15 = .ok (.ireturn, 1) := by decide +kernel
def site : List Cond := [.fieldLink "java/lang/String" 9 "java/lang/String" "value" "[B", IsL.tab, LChA.tab] ++ virtW "java/lang/String" 492 "java/lang/String" IsL.yN IsL.yN ++ staticW "java/lang/String" 495 LChA.yN
def tab : Cond := tabOf yN yB 2 (some .char) site
def P (x t : Addr) (V : Cell) (n : Nat) (f : Nat → Int32) (z : Int32) (fm : Value) (i : Nat) (args : Array Value) (s : State) : Prop := args = #[.ref x, .int (Int32.ofNat i)] ∧ Txt x t V 0 n f s ∧ i < n ∧ StaticIs s "java/lang/String" "COMPACT_STRINGS" "Z" (.int z) ∧ ¬ z = 0 ∧ StaticIs s "jdk/internal/util/Preconditions" "SIOOBE_FORMATTER" "Ljava/util/function/BiFunction;" fm ∧ fm.isRef = true
def E (f : Nat → Int32) (i : Nat) (r : Option Value) (s u : State) : Prop := XT.PureE (some (.int (f i))) r s u
/-- charAt(i) of a Latin-1 String of n chars, i < n: f i -/
theorem law (l : Launch) (x t : Addr) (V : Cell) (n : Nat) (f : Nat → Int32) (z : Int32) (fm : Value) (i : Nat) : Law l yN 2 1 3 40 yB 2 (some .char) site (P x t V n f z fm i) (E f i) [] 0 0 := by
  refine Law.of_walk (plainFor_of_name (by decide +kernel)) (by decide +kernel) (by decide +kernel) (by decide) (fun _ _ h => by rw [h.1]; rfl) (fun _ U U' hal hh h => ⟨h.1, h.2.1.mv hal hh, h.2.2.1, h.2.2.2.1.there hal hh, h.2.2.2.2.1, h.2.2.2.2.2.1.there hal hh, h.2.2.2.2.2.2⟩) (fun r U U' V V' h1 hal h2 h => XT.PureE.mv r U U' V V' h1 hal h2 h) ?_
  intro p e s m args below meth c s₁ X0 hexec hbytes hml hret hlk hnm hown hh0 W hP
  obtain ⟨rfl, hx, hi, s1, hz, s3, rf⟩ := hP
  have v31 := hx.2.2.2.1.2.2.2
  have hr := hx.2.2.2.2.2 i hi
  have hx0 := hx.mv X0.warmed.alike hh0
  have c1 : Steps p.tables e below (s₁.setTop (entryFrame m #[.ref x, .int (Int32.ofNat i)] 2)) (s₁.setTop (mkF m 1 #[.val (.ref x), .val (.int (Int32.ofNat i))] [.ref x])) := Steps.trans (entry rfl) (by
    show Steps p.tables e below (s₁.setTop (mkF m 0 #[.val (.ref x), .val (.int (Int32.ofNat i))] [])) _
    refine XS.aloadN X0.here hexec rfl (hb hbytes d0) rfl rfl ?_
    exact Steps.refl _)
  obtain ⟨v2, T2, X2, E2, g2⟩ := X0.callV hexec (IsL.law l x 0 z) hown (wks W (virtW "java/lang/String" 492 "java/lang/String" IsL.yN IsL.yN)) rfl (by decide) (wk W IsL.tab) (W := 0) (Nat.le_of_ble_eq_true rfl) (Nat.le_of_ble_eq_true rfl) (Nat.le_refl _) (Nat.le_refl _) (hx0.1.fc X0.warmed.alike) hx0.1.is (g := (mkF m 1 #[.val (.ref x), .val (.int (Int32.ofNat i))] [.ref x])) rfl (by rw [hml]; rfl) c1 (argsL := []) (rest := []) rfl rfl (by show 2 * 0 + 0 ≤ _; decide) (hb hbytes d1) (⟨rfl, hx0.2.2.1, hx.2.2.2.2.1.cd, s1.there X0.warmed.alike hh0, hz⟩)
  obtain ⟨rfl, q2⟩ := E2
  have hh2 := q2.trans hh0
  have hx2 := hx.mv X2.warmed.alike hh2
  obtain ⟨-, k1, k2⟩ | ⟨k0, -⟩ := hx.2.2.2.2.1
  · have c3 : Steps p.tables e below (s₁.setTop (entryFrame m #[.ref x, .int (Int32.ofNat i)] 2)) (T2.setTop (mkF m 8 #[.val (.ref x), .val (.int (Int32.ofNat i))] [.ref x])) := Steps.trans g2 (by
      refine XS.ifNo X2.here hexec rfl (hb hbytes d4) rfl (i0_eq_f (by decide)) ?_
      refine XS.aloadN X2.here hexec rfl (hb hbytes d7) rfl rfl ?_
      exact Steps.refl _)
    obtain ⟨T4, X4, q4, st4⟩ := X2.hget hexec hown (wk W (.fieldLink "java/lang/String" 9 "java/lang/String" "value" "[B")) hx2.2.1 (g := (mkF m 8 #[.val (.ref x), .val (.int (Int32.ofNat i))] [.ref x])) rfl (rest := []) rfl (hb hbytes d8)
    have hh4 := q4.trans hh2
    have c5 : Steps p.tables e below (s₁.setTop (entryFrame m #[.ref x, .int (Int32.ofNat i)] 2)) (T4.setTop (mkF m 12 #[.val (.ref x), .val (.int (Int32.ofNat i))] [.int (Int32.ofNat i), .ref t])) := (c3.trans (st4 _ (Steps.refl _))).trans (by
      refine XS.iloadN X4.here hexec rfl (hb hbytes d11) rfl ?_
      exact Steps.refl _)
    obtain ⟨v6, T6, X6, E6, g6⟩ := X4.callS hexec (LChA.law l t V i (lo8 (f i)) fm) hown (wks W (staticW "java/lang/String" 495 LChA.yN)) (wk W LChA.tab) (W := 0) (Nat.le_of_ble_eq_true rfl) (Nat.le_of_ble_eq_true rfl) (Nat.le_refl _) (Nat.le_refl _) (g := (mkF m 12 #[.val (.ref x), .val (.int (Int32.ofNat i))] [.int (Int32.ofNat i), .ref t])) rfl (by rw [hml]; rfl) c5 (argsL := [.ref t, .int (Int32.ofNat i)]) (rest := []) rfl rfl (by show 2 * 0 + 0 ≤ _; decide) (hb hbytes d12) (⟨rfl, hx.2.2.2.1.mv X4.warmed.alike hh4, (k2 i hi).1, s3.there X4.warmed.alike hh4, rf⟩)
    obtain ⟨rfl, q6⟩ := E6
    rw [chr8_lo8 hr.1 (k2 i hi).2] at g6
    exact ⟨T6, some (.int (f i)), _, _, _, X6, rfl, rfl, rfl, (fun h => by cases h), ⟨rfl, q6.trans hh4⟩, fun fs hl => Steps.trans g6 (X6.ireturnOut hexec hret (narrow_ch hr.1 hr.2) (Or.inr (Or.inr (Or.inr (Or.inl rfl)))) (hb hbytes d15) hl)⟩
  · exact absurd k0 (by decide)
theorem pays {l : Launch} {R : Room} {p : Program} {e : Env} {below : List Frame} {s : State} {sargs : Array Value} {len W : Nat} (x t : Addr) (V : Cell) (n : Nat) (f : Nat → Int32) (z : Int32) (fm : Value) (i : Nat) (htab : tab.before sargs s = true) (hfr : 4 ≤ R.frames) (hlo : W + 53 ≤ R.locals) :
    Back l R p e below s sargs yN len W (fun A₁ a₁ => A₁.cells + 0 ≤ R.cells ∧ A₁.slots + 0 ≤ R.slots ∧ P x t V n f z fm i a₁ A₁.U) (fun A₁ _ v₁ B₁ => E f i v₁ A₁.U B₁.U ∧ B₁.locs = A₁.locs ++ [] ∧ B₁.cells = A₁.cells + 0 ∧ B₁.slots = A₁.slots + 0) :=
  (law l x t V n f z fm i).pays htab hfr (by omega)
end ChN
end StrChars
namespace StrChars.Road
open Jvm Sem ClassFile Op Lib Jvm.Stand Jvm.Free Jvm.Free.XT
open Jvm.Lib.Cold (StaticIs)
/-- the words of String.charAt(int), the Latin-1 road alone -/
abbrev wordsChN : List Jvm.Cond := [.code ChN.yN ChN.yB 2 (some .char), .initialized ST, .fieldLink ST 9 ST "value" "[B", .fieldLink ST 38 ST "COMPACT_STRINGS" "Z", .fieldLink ST 15 ST "coder" "B", .code IsL.yN IsL.yB 1 (some .boolean), .methodLink ST 492 IsL.yN, .declares IsL.yN, .selects ST IsL.yN IsL.yN, .instanceMethod IsL.yN,
  .methodLink ST 495 LChA.yN, .static LChA.yN, .code LChA.yN LChA.yB 2 (some .char), .initialized "java/lang/StringLatin1", .methodLink "java/lang/StringLatin1" 9 JO.Str_checkIndex.yN, .static JO.Str_checkIndex.yN, .code JO.Str_checkIndex.yN JO.Str_checkIndex.yB 2 none,
  .fieldLink ST 1053 "jdk/internal/util/Preconditions" "SIOOBE_FORMATTER" "Ljava/util/function/BiFunction;", .methodLink ST 1059 JC.PreCheck.yN, .static JC.PreCheck.yN, .code JC.PreCheck.yN JC.PreCheck.yB 3 (some .int), .initialized "jdk/internal/util/Preconditions"]
theorem tabChN_of {a : Array Value} {s : State} (h : ∀ w ∈ wordsChN, w.before a s = true) : ChN.tab.before a s = true := by
  have hp : JC.PreCheck.tab.before a s = true := unparts (wk h (.code JC.PreCheck.yN JC.PreCheck.yB 3 (some .int))) (wks h (.initialized JC.PreCheck.yN.cls :: JC.PreCheck.site))
  have qk := consq hp h
  have hk : JO.Str_checkIndex.tab.before a s = true := unparts (wk qk (.code JO.Str_checkIndex.yN JO.Str_checkIndex.yB 2 none)) (wks qk (.initialized JO.Str_checkIndex.yN.cls :: JO.Str_checkIndex.site))
  have ql := consq hk h
  have hl : LChA.tab.before a s = true := unparts (wk ql (.code LChA.yN LChA.yB 2 (some .char))) (wks ql (.initialized LChA.yN.cls :: LChA.site))
  have hi : IsL.tab.before a s = true := unparts (wk h (.code IsL.yN IsL.yB 1 (some .boolean))) (wks h (.initialized IsL.yN.cls :: IsL.site))
  have q := consq hi (consq hl h)
  exact unparts (wk q (.code ChN.yN ChN.yB 2 (some .char))) (wks q (.initialized ChN.yN.cls :: ChN.site))
theorem movedChN {Z s : State} {a0 args : Array Value} (hZ : Z.Warmed39 s.vm) (hw : ∀ d ∈ wordsChN, d.before a0 Z = true) : ∀ d ∈ wordsChN, d.before args s = true := fun d hd => by
  have t : ∀ d ∈ wordsChN, (d.onTables && d.keepsFace) = true := by decide +kernel
  exact RoadKit.mv hZ (hw d hd) (t d hd)
/-- **charAt(i) OF A LATIN-1 STRING**, i < n: the char -/
theorem chN {p : Program} {l : Launch} {e : Env} {R : Room} {s : State} {args : Array Value} {below : List Frame} {len W : Nat} {Z : State} {a0 : Array Value} {h : Heap} (hZ : Z.Warmed39 s.vm) (hw : ∀ d ∈ wordsChN, d.before a0 Z = true) {kI : Nat} (wi : (Jvm.Cond.instantiable ST kI).before a0 Z = true)
    {x t : Addr} {kb : ClassId} {cs : List Int32} {N2 z : Int32} {vs : List Value} {fm : Value} {i : Nat} {j : Int32} (E : RoadKit.Exa Z h x ST) (V : RoadKit.Fld Z h x ST "value" "[B" (.ref t)) (C : RoadKit.Fld Z h x ST "coder" "B" (.int 0)) (K : RoadKit.Arv Z h t kb .byte N2 vs (.int 0)) (hc : CodA cs 0 N2 vs) (hb : ∀ c ∈ cs, ¬ c < 0 ∧ ¬ (65535 : Int32) < c)
    (S : RoadKit.Sta Z h ST "COMPACT_STRINGS" "Z" (.int z)) (hz : ¬ z = 0) (F : RoadKit.Sta Z h "jdk/internal/util/Preconditions" "SIOOBE_FORMATTER" "Ljava/util/function/BiFunction;" fm) (rf : fm.isRef = true) (l2 : cs.length ≤ 4000) (hi : i < cs.length) (hj : j = Int32.ofNat i) (hfr : 4 ≤ R.frames) (hlo : W + 53 ≤ R.locals) :
    Back l R p e below s args (⟨"java/lang/String", "charAt", "(I)C"⟩ : MethodName) len W (fun P a => a = #[.ref x, .int j] ∧ P.U.heap = h ∧ P.cells + 0 ≤ R.cells ∧ P.slots + 0 ≤ R.slots)
      (fun P _ v B => ∃ L, (v = some (.int (cs.getD i 0)) ∧ L = [] ∧ B.U.heap = h) ∧ B.locs = P.locs ++ L ∧ B.cells = P.cells + 0 ∧ B.slots = P.slots + 0) := by
  subst hj
  intro m meth c P g ig mk a X hg hsize hdg hW hn hp'
  obtain ⟨rfl, rfl, r1, r2⟩ := hp'
  have al : Z.vm.Alike P.U.vm := hZ.alike.trans X.warmed.alike
  obtain ⟨A, hx⟩ := txt_of wi al E V C K hc hb l2
  obtain ⟨v, B, X', ⟨⟨hv, hh⟩, hl, hk, hs⟩, st⟩ := ChN.pays x t A cs.length (fun j => cs.getD j 0) z fm i (tabChN_of (movedChN hZ hw)) hfr hlo m meth c P g ig mk _ X hg hsize hdg hW hn ⟨r1, r2, rfl, hx, hi, sta_is al S, hz, sta_is al F, rf⟩
  exact ⟨v, B, X', ⟨[], ⟨hv, rfl, hh⟩, hl, hk, hs⟩, st⟩
/-- what backV says of its String, as the contracts of this text ask it: cs's low bytes, coder 0 -/
theorem codOf {cs : List Int32} {n : Nat} (hn : cs.length = n) (hb : ∀ c ∈ cs, ¬ 255 < c) : CodA cs 0 (Int32.ofNat n) ((cs.map lo8).map Value.int) := Or.inl ⟨rfl, by rw [hn], by simp [List.map_map, Function.comp_def], hb⟩
end StrChars.Road
end Jvm.Pilot.@@N@@
namespace Jvm.Pilot.@@N@@
open Jvm Jvm.ClassFile Sem Op Lib Jvm.Free Jvm.Stand Jvm.LawKit Jvm.RoadKit Bundle Jvm.Pilot.@@N@@.Jvm.D
theorem d1_0 : decode jdk_42_method_3_code 0 = .ok (.aload_n 0, 1) := by decide +kernel
theorem d1_1 : decode jdk_42_method_3_code 1 = .ok (.aload_n 1, 1) := by decide +kernel
theorem d1_2 : decode jdk_42_method_3_code 2 = .ok (.iconst 0, 1) := by decide +kernel
theorem d1_3 : decode jdk_42_method_3_code 3 = .ok (.aload_n 1, 1) := by decide +kernel
theorem d1_4 : decode jdk_42_method_3_code 4 = .ok (.arraylength, 1) := by decide +kernel
theorem d1_5 : decode jdk_42_method_3_code 5 = .ok (.aconst_null, 1) := by decide +kernel
theorem d1_6 : decode jdk_42_method_3_code 6 = .ok (.invokespecial 27, 3) := by decide +kernel
theorem d1_9 : decode jdk_42_method_3_code 9 = .ok (.return_, 1) := by decide +kernel
theorem d2_0 : decode jdk_42_method_149_code 0 = .ok (.aload_n 0, 1) := by decide +kernel
theorem d2_1 : decode jdk_42_method_149_code 1 = .ok (.invokespecial 1, 3) := by decide +kernel
theorem d2_4 : decode jdk_42_method_149_code 4 = .ok (.iload_n 3, 1) := by decide +kernel
theorem d2_5 : decode jdk_42_method_149_code 5 = .ok (.ifCond .ne 22, 3) := by decide +kernel
theorem d2_8 : decode jdk_42_method_149_code 8 = .ok (.aload_n 0, 1) := by decide +kernel
theorem d2_9 : decode jdk_42_method_149_code 9 = .ok (.ldc 7, 2) := by decide +kernel
theorem d2_11 : decode jdk_42_method_149_code 11 = .ok (.getfield 9, 3) := by decide +kernel
theorem d2_14 : decode jdk_42_method_149_code 14 = .ok (.putfield 9, 3) := by decide +kernel
theorem d2_17 : decode jdk_42_method_149_code 17 = .ok (.aload_n 0, 1) := by decide +kernel
theorem d2_18 : decode jdk_42_method_149_code 18 = .ok (.ldc 7, 2) := by decide +kernel
theorem d2_20 : decode jdk_42_method_149_code 20 = .ok (.getfield 15, 3) := by decide +kernel
theorem d2_23 : decode jdk_42_method_149_code 23 = .ok (.putfield 15, 3) := by decide +kernel
theorem d2_26 : decode jdk_42_method_149_code 26 = .ok (.return_, 1) := by decide +kernel
theorem d4_0 : decode prog_11_method_2_code 0 = .ok (.aload_n 0, 1) := by decide +kernel
theorem d4_1 : decode prog_11_method_2_code 1 = .ok (.invokevirtual 7, 3) := by decide +kernel
theorem d4_4 : decode prog_11_method_2_code 4 = .ok (.sipush 256, 3) := by decide +kernel
theorem d4_7 : decode prog_11_method_2_code 7 = .ok (.if_icmp .gt 19, 3) := by decide +kernel
theorem d4_10 : decode prog_11_method_2_code 10 = .ok (.aload_n 0, 1) := by decide +kernel
theorem d4_11 : decode prog_11_method_2_code 11 = .ok (.iconst 0, 1) := by decide +kernel
theorem d4_12 : decode prog_11_method_2_code 12 = .ok (.aload_n 0, 1) := by decide +kernel
theorem d4_13 : decode prog_11_method_2_code 13 = .ok (.invokevirtual 7, 3) := by decide +kernel
theorem d4_16 : decode prog_11_method_2_code 16 = .ok (.invokestatic 15, 3) := by decide +kernel
theorem d4_19 : decode prog_11_method_2_code 19 = .ok (.ifCond .eq 7, 3) := by decide +kernel
theorem d4_22 : decode prog_11_method_2_code 22 = .ok (.iconst 1, 1) := by decide +kernel
theorem d4_23 : decode prog_11_method_2_code 23 = .ok (.goto 4, 3) := by decide +kernel
theorem d4_26 : decode prog_11_method_2_code 26 = .ok (.iconst 0, 1) := by decide +kernel
theorem d4_27 : decode prog_11_method_2_code 27 = .ok (.ireturn, 1) := by decide +kernel
theorem d7_0 : decode prog_11_method_4_code 0 = .ok (.iload_n 1, 1) := by decide +kernel
theorem d7_1 : decode prog_11_method_4_code 1 = .ok (.iload_n 2, 1) := by decide +kernel
theorem d7_2 : decode prog_11_method_4_code 2 = .ok (.if_icmp .ne 5, 3) := by decide +kernel
theorem d7_5 : decode prog_11_method_4_code 5 = .ok (.iconst 0, 1) := by decide +kernel
theorem d7_6 : decode prog_11_method_4_code 6 = .ok (.ireturn, 1) := by decide +kernel
theorem d7_7 : decode prog_11_method_4_code 7 = .ok (.iload_n 1, 1) := by decide +kernel
theorem d7_8 : decode prog_11_method_4_code 8 = .ok (.istore_n 3, 1) := by decide +kernel
theorem d7_9 : decode prog_11_method_4_code 9 = .ok (.iload_n 3, 1) := by decide +kernel
theorem d7_10 : decode prog_11_method_4_code 10 = .ok (.iload_n 2, 1) := by decide +kernel
theorem d7_11 : decode prog_11_method_4_code 11 = .ok (.if_icmp .ge 82, 3) := by decide +kernel
theorem d7_14 : decode prog_11_method_4_code 14 = .ok (.aload_n 0, 1) := by decide +kernel
theorem d7_15 : decode prog_11_method_4_code 15 = .ok (.iload_n 3, 1) := by decide +kernel
theorem d7_16 : decode prog_11_method_4_code 16 = .ok (.invokevirtual 23, 3) := by decide +kernel
theorem d7_19 : decode prog_11_method_4_code 19 = .ok (.istore 4, 2) := by decide +kernel
theorem d7_21 : decode prog_11_method_4_code 21 = .ok (.iload 4, 2) := by decide +kernel
theorem d7_23 : decode prog_11_method_4_code 23 = .ok (.bipush 65, 2) := by decide +kernel
theorem d7_25 : decode prog_11_method_4_code 25 = .ok (.if_icmp .lt 10, 3) := by decide +kernel
theorem d7_28 : decode prog_11_method_4_code 28 = .ok (.iload 4, 2) := by decide +kernel
theorem d7_30 : decode prog_11_method_4_code 30 = .ok (.bipush 90, 2) := by decide +kernel
theorem d7_32 : decode prog_11_method_4_code 32 = .ok (.if_icmp .le 41, 3) := by decide +kernel
theorem d7_35 : decode prog_11_method_4_code 35 = .ok (.iload 4, 2) := by decide +kernel
theorem d7_37 : decode prog_11_method_4_code 37 = .ok (.bipush 97, 2) := by decide +kernel
theorem d7_39 : decode prog_11_method_4_code 39 = .ok (.if_icmp .lt 10, 3) := by decide +kernel
theorem d7_42 : decode prog_11_method_4_code 42 = .ok (.iload 4, 2) := by decide +kernel
theorem d7_44 : decode prog_11_method_4_code 44 = .ok (.bipush 122, 2) := by decide +kernel
theorem d7_46 : decode prog_11_method_4_code 46 = .ok (.if_icmp .le 27, 3) := by decide +kernel
theorem d7_49 : decode prog_11_method_4_code 49 = .ok (.iload 4, 2) := by decide +kernel
theorem d7_51 : decode prog_11_method_4_code 51 = .ok (.bipush 48, 2) := by decide +kernel
theorem d7_53 : decode prog_11_method_4_code 53 = .ok (.if_icmp .lt 10, 3) := by decide +kernel
theorem d7_56 : decode prog_11_method_4_code 56 = .ok (.iload 4, 2) := by decide +kernel
theorem d7_58 : decode prog_11_method_4_code 58 = .ok (.bipush 57, 2) := by decide +kernel
theorem d7_60 : decode prog_11_method_4_code 60 = .ok (.if_icmp .le 13, 3) := by decide +kernel
theorem d7_63 : decode prog_11_method_4_code 63 = .ok (.ldc 27, 2) := by decide +kernel
theorem d7_65 : decode prog_11_method_4_code 65 = .ok (.iload 4, 2) := by decide +kernel
theorem d7_67 : decode prog_11_method_4_code 67 = .ok (.invokevirtual 29, 3) := by decide +kernel
theorem d7_70 : decode prog_11_method_4_code 70 = .ok (.ifCond .lt 7, 3) := by decide +kernel
theorem d7_73 : decode prog_11_method_4_code 73 = .ok (.iconst 1, 1) := by decide +kernel
theorem d7_74 : decode prog_11_method_4_code 74 = .ok (.goto 4, 3) := by decide +kernel
theorem d7_77 : decode prog_11_method_4_code 77 = .ok (.iconst 0, 1) := by decide +kernel
theorem d7_78 : decode prog_11_method_4_code 78 = .ok (.istore 5, 2) := by decide +kernel
theorem d7_80 : decode prog_11_method_4_code 80 = .ok (.iload 5, 2) := by decide +kernel
theorem d7_82 : decode prog_11_method_4_code 82 = .ok (.ifCond .ne 5, 3) := by decide +kernel
theorem d7_85 : decode prog_11_method_4_code 85 = .ok (.iconst 0, 1) := by decide +kernel
theorem d7_86 : decode prog_11_method_4_code 86 = .ok (.ireturn, 1) := by decide +kernel
theorem d7_87 : decode prog_11_method_4_code 87 = .ok (.iinc 3 1, 3) := by decide +kernel
theorem d7_90 : decode prog_11_method_4_code 90 = .ok (.goto (-81), 3) := by decide +kernel
theorem d7_93 : decode prog_11_method_4_code 93 = .ok (.iconst 1, 1) := by decide +kernel
theorem d7_94 : decode prog_11_method_4_code 94 = .ok (.ireturn, 1) := by decide +kernel
theorem d11_0 : decode method_2_code 0 = .ok (.iload_n 0, 1) := by decide +kernel
theorem d11_1 : decode method_2_code 1 = .ok (.bipush 65, 2) := by decide +kernel
theorem d11_3 : decode method_2_code 3 = .ok (.if_icmp .lt 11, 3) := by decide +kernel
theorem d11_6 : decode method_2_code 6 = .ok (.iload_n 0, 1) := by decide +kernel
theorem d11_7 : decode method_2_code 7 = .ok (.bipush 90, 2) := by decide +kernel
theorem d11_9 : decode method_2_code 9 = .ok (.if_icmp .gt 5, 3) := by decide +kernel
theorem d11_12 : decode method_2_code 12 = .ok (.iconst 1, 1) := by decide +kernel
theorem d11_13 : decode method_2_code 13 = .ok (.ireturn, 1) := by decide +kernel
theorem d11_14 : decode method_2_code 14 = .ok (.iload_n 0, 1) := by decide +kernel
theorem d11_15 : decode method_2_code 15 = .ok (.bipush 97, 2) := by decide +kernel
theorem d11_17 : decode method_2_code 17 = .ok (.if_icmp .lt 11, 3) := by decide +kernel
theorem d11_20 : decode method_2_code 20 = .ok (.iload_n 0, 1) := by decide +kernel
theorem d11_21 : decode method_2_code 21 = .ok (.bipush 122, 2) := by decide +kernel
theorem d11_23 : decode method_2_code 23 = .ok (.if_icmp .gt 5, 3) := by decide +kernel
theorem d11_26 : decode method_2_code 26 = .ok (.iconst 1, 1) := by decide +kernel
theorem d11_27 : decode method_2_code 27 = .ok (.ireturn, 1) := by decide +kernel
theorem d11_28 : decode method_2_code 28 = .ok (.iload_n 0, 1) := by decide +kernel
theorem d11_29 : decode method_2_code 29 = .ok (.bipush 48, 2) := by decide +kernel
theorem d11_31 : decode method_2_code 31 = .ok (.if_icmp .lt 11, 3) := by decide +kernel
theorem d11_34 : decode method_2_code 34 = .ok (.iload_n 0, 1) := by decide +kernel
theorem d11_35 : decode method_2_code 35 = .ok (.bipush 57, 2) := by decide +kernel
theorem d11_37 : decode method_2_code 37 = .ok (.if_icmp .gt 5, 3) := by decide +kernel
theorem d11_40 : decode method_2_code 40 = .ok (.iconst 1, 1) := by decide +kernel
theorem d11_41 : decode method_2_code 41 = .ok (.ireturn, 1) := by decide +kernel
theorem d11_42 : decode method_2_code 42 = .ok (.iload_n 0, 1) := by decide +kernel
theorem d11_43 : decode method_2_code 43 = .ok (.bipush 33, 2) := by decide +kernel
theorem d11_45 : decode method_2_code 45 = .ok (.if_icmp .eq 51, 3) := by decide +kernel
theorem d11_48 : decode method_2_code 48 = .ok (.iload_n 0, 1) := by decide +kernel
theorem d11_49 : decode method_2_code 49 = .ok (.bipush 39, 2) := by decide +kernel
theorem d11_51 : decode method_2_code 51 = .ok (.if_icmp .eq 45, 3) := by decide +kernel
theorem d11_54 : decode method_2_code 54 = .ok (.iload_n 0, 1) := by decide +kernel
theorem d11_55 : decode method_2_code 55 = .ok (.bipush 40, 2) := by decide +kernel
theorem d11_57 : decode method_2_code 57 = .ok (.if_icmp .eq 39, 3) := by decide +kernel
theorem d11_60 : decode method_2_code 60 = .ok (.iload_n 0, 1) := by decide +kernel
theorem d11_61 : decode method_2_code 61 = .ok (.bipush 41, 2) := by decide +kernel
theorem d11_63 : decode method_2_code 63 = .ok (.if_icmp .eq 33, 3) := by decide +kernel
theorem d11_66 : decode method_2_code 66 = .ok (.iload_n 0, 1) := by decide +kernel
theorem d11_67 : decode method_2_code 67 = .ok (.bipush 42, 2) := by decide +kernel
theorem d11_69 : decode method_2_code 69 = .ok (.if_icmp .eq 27, 3) := by decide +kernel
theorem d11_72 : decode method_2_code 72 = .ok (.iload_n 0, 1) := by decide +kernel
theorem d11_73 : decode method_2_code 73 = .ok (.bipush 45, 2) := by decide +kernel
theorem d11_75 : decode method_2_code 75 = .ok (.if_icmp .eq 21, 3) := by decide +kernel
theorem d11_78 : decode method_2_code 78 = .ok (.iload_n 0, 1) := by decide +kernel
theorem d11_79 : decode method_2_code 79 = .ok (.bipush 46, 2) := by decide +kernel
theorem d11_81 : decode method_2_code 81 = .ok (.if_icmp .eq 15, 3) := by decide +kernel
theorem d11_84 : decode method_2_code 84 = .ok (.iload_n 0, 1) := by decide +kernel
theorem d11_85 : decode method_2_code 85 = .ok (.bipush 95, 2) := by decide +kernel
theorem d11_87 : decode method_2_code 87 = .ok (.if_icmp .eq 9, 3) := by decide +kernel
theorem d11_90 : decode method_2_code 90 = .ok (.iload_n 0, 1) := by decide +kernel
theorem d11_91 : decode method_2_code 91 = .ok (.bipush 126, 2) := by decide +kernel
theorem d11_93 : decode method_2_code 93 = .ok (.if_icmp .ne 7, 3) := by decide +kernel
theorem d11_96 : decode method_2_code 96 = .ok (.iconst 1, 1) := by decide +kernel
theorem d11_97 : decode method_2_code 97 = .ok (.goto 4, 3) := by decide +kernel
theorem d11_100 : decode method_2_code 100 = .ok (.iconst 0, 1) := by decide +kernel
theorem d11_101 : decode method_2_code 101 = .ok (.ireturn, 1) := by decide +kernel
theorem d13_0 : decode jdk_42_method_154_code 0 = .ok (.getstatic 38, 3) := by decide +kernel
theorem d13_3 : decode jdk_42_method_154_code 3 = .ok (.ifCond .eq 14, 3) := by decide +kernel
theorem d13_6 : decode jdk_42_method_154_code 6 = .ok (.aload_n 0, 1) := by decide +kernel
theorem d13_7 : decode jdk_42_method_154_code 7 = .ok (.getfield 15, 3) := by decide +kernel
theorem d13_10 : decode jdk_42_method_154_code 10 = .ok (.ifCond .ne 7, 3) := by decide +kernel
theorem d13_13 : decode jdk_42_method_154_code 13 = .ok (.iconst 1, 1) := by decide +kernel
theorem d13_14 : decode jdk_42_method_154_code 14 = .ok (.goto 4, 3) := by decide +kernel
theorem d13_18 : decode jdk_42_method_154_code 18 = .ok (.ireturn, 1) := by decide +kernel
theorem d17_0 : decode jdk_42_method_79_code 0 = .ok (.aload_n 0, 1) := by decide +kernel
theorem d17_1 : decode jdk_42_method_79_code 1 = .ok (.iload_n 1, 1) := by decide +kernel
theorem d17_2 : decode jdk_42_method_79_code 2 = .ok (.iconst 0, 1) := by decide +kernel
theorem d17_3 : decode jdk_42_method_79_code 3 = .ok (.invokevirtual 633, 3) := by decide +kernel
theorem d17_6 : decode jdk_42_method_79_code 6 = .ok (.ireturn, 1) := by decide +kernel
theorem d18_0 : decode jdk_42_method_80_code 0 = .ok (.aload_n 0, 1) := by decide +kernel
theorem d18_1 : decode jdk_42_method_80_code 1 = .ok (.invokevirtual 492, 3) := by decide +kernel
theorem d18_4 : decode jdk_42_method_80_code 4 = .ok (.ifCond .eq 19, 3) := by decide +kernel
theorem d18_7 : decode jdk_42_method_80_code 7 = .ok (.aload_n 0, 1) := by decide +kernel
theorem d18_8 : decode jdk_42_method_80_code 8 = .ok (.getfield 9, 3) := by decide +kernel
theorem d18_11 : decode jdk_42_method_80_code 11 = .ok (.iload_n 1, 1) := by decide +kernel
theorem d18_12 : decode jdk_42_method_80_code 12 = .ok (.iload_n 2, 1) := by decide +kernel
theorem d18_13 : decode jdk_42_method_80_code 13 = .ok (.aload_n 0, 1) := by decide +kernel
theorem d18_14 : decode jdk_42_method_80_code 14 = .ok (.invokevirtual 505, 3) := by decide +kernel
theorem d18_17 : decode jdk_42_method_80_code 17 = .ok (.invokestatic 637, 3) := by decide +kernel
theorem d18_20 : decode jdk_42_method_80_code 20 = .ok (.goto 16, 3) := by decide +kernel
theorem d18_36 : decode jdk_42_method_80_code 36 = .ok (.ireturn, 1) := by decide +kernel
theorem d19_0 : decode jdk_43_method_22_code 0 = .ok (.iload_n 1, 1) := by decide +kernel
theorem d19_1 : decode jdk_43_method_22_code 1 = .ok (.invokestatic 88, 3) := by decide +kernel
theorem d19_4 : decode jdk_43_method_22_code 4 = .ok (.ifCond .ne 5, 3) := by decide +kernel
theorem d19_9 : decode jdk_43_method_22_code 9 = .ok (.iload_n 2, 1) := by decide +kernel
theorem d19_10 : decode jdk_43_method_22_code 10 = .ok (.iconst 0, 1) := by decide +kernel
theorem d19_11 : decode jdk_43_method_22_code 11 = .ok (.invokestatic 92, 3) := by decide +kernel
theorem d19_14 : decode jdk_43_method_22_code 14 = .ok (.istore_n 2, 1) := by decide +kernel
theorem d19_15 : decode jdk_43_method_22_code 15 = .ok (.iload_n 3, 1) := by decide +kernel
theorem d19_16 : decode jdk_43_method_22_code 16 = .ok (.aload_n 0, 1) := by decide +kernel
theorem d19_17 : decode jdk_43_method_22_code 17 = .ok (.arraylength, 1) := by decide +kernel
theorem d19_18 : decode jdk_43_method_22_code 18 = .ok (.invokestatic 38, 3) := by decide +kernel
theorem d19_21 : decode jdk_43_method_22_code 21 = .ok (.istore_n 3, 1) := by decide +kernel
theorem d19_22 : decode jdk_43_method_22_code 22 = .ok (.iload_n 2, 1) := by decide +kernel
theorem d19_23 : decode jdk_43_method_22_code 23 = .ok (.iload_n 3, 1) := by decide +kernel
theorem d19_24 : decode jdk_43_method_22_code 24 = .ok (.if_icmp .lt 5, 3) := by decide +kernel
theorem d19_29 : decode jdk_43_method_22_code 29 = .ok (.aload_n 0, 1) := by decide +kernel
theorem d19_30 : decode jdk_43_method_22_code 30 = .ok (.iload_n 1, 1) := by decide +kernel
theorem d19_31 : decode jdk_43_method_22_code 31 = .ok (.iload_n 2, 1) := by decide +kernel
theorem d19_32 : decode jdk_43_method_22_code 32 = .ok (.iload_n 3, 1) := by decide +kernel
theorem d19_33 : decode jdk_43_method_22_code 33 = .ok (.invokestatic 95, 3) := by decide +kernel
theorem d19_36 : decode jdk_43_method_22_code 36 = .ok (.ireturn, 1) := by decide +kernel
theorem d20_0 : decode jdk_43_method_4_code 0 = .ok (.iload_n 0, 1) := by decide +kernel
theorem d20_1 : decode jdk_43_method_4_code 1 = .ok (.ifCond .lt 14, 3) := by decide +kernel
theorem d20_4 : decode jdk_43_method_4_code 4 = .ok (.iload_n 0, 1) := by decide +kernel
theorem d20_5 : decode jdk_43_method_4_code 5 = .ok (.sipush 255, 3) := by decide +kernel
theorem d20_8 : decode jdk_43_method_4_code 8 = .ok (.if_icmp .gt 7, 3) := by decide +kernel
theorem d20_11 : decode jdk_43_method_4_code 11 = .ok (.iconst 1, 1) := by decide +kernel
theorem d20_12 : decode jdk_43_method_4_code 12 = .ok (.goto 4, 3) := by decide +kernel
theorem d20_16 : decode jdk_43_method_4_code 16 = .ok (.ireturn, 1) := by decide +kernel
theorem d21_0 : decode jdk_29_method_65_code 0 = .ok (.iload_n 0, 1) := by decide +kernel
theorem d21_1 : decode jdk_29_method_65_code 1 = .ok (.iload_n 1, 1) := by decide +kernel
theorem d21_2 : decode jdk_29_method_65_code 2 = .ok (.if_icmp .lt 7, 3) := by decide +kernel
theorem d21_5 : decode jdk_29_method_65_code 5 = .ok (.iload_n 0, 1) := by decide +kernel
theorem d21_6 : decode jdk_29_method_65_code 6 = .ok (.goto 4, 3) := by decide +kernel
theorem d21_9 : decode jdk_29_method_65_code 9 = .ok (.iload_n 1, 1) := by decide +kernel
theorem d21_10 : decode jdk_29_method_65_code 10 = .ok (.ireturn, 1) := by decide +kernel
theorem d22_0 : decode jdk_29_method_69_code 0 = .ok (.iload_n 0, 1) := by decide +kernel
theorem d22_1 : decode jdk_29_method_69_code 1 = .ok (.iload_n 1, 1) := by decide +kernel
theorem d22_2 : decode jdk_29_method_69_code 2 = .ok (.if_icmp .gt 7, 3) := by decide +kernel
theorem d22_5 : decode jdk_29_method_69_code 5 = .ok (.iload_n 0, 1) := by decide +kernel
theorem d22_6 : decode jdk_29_method_69_code 6 = .ok (.goto 4, 3) := by decide +kernel
theorem d22_9 : decode jdk_29_method_69_code 9 = .ok (.iload_n 1, 1) := by decide +kernel
theorem d22_10 : decode jdk_29_method_69_code 10 = .ok (.ireturn, 1) := by decide +kernel
theorem d23_0 : decode jdk_43_method_23_code 0 = .ok (.iload_n 1, 1) := by decide +kernel
theorem d23_1 : decode jdk_43_method_23_code 1 = .ok (.i2b, 1) := by decide +kernel
theorem d23_2 : decode jdk_43_method_23_code 2 = .ok (.istore 4, 2) := by decide +kernel
theorem d23_4 : decode jdk_43_method_23_code 4 = .ok (.iload_n 2, 1) := by decide +kernel
theorem d23_5 : decode jdk_43_method_23_code 5 = .ok (.istore 5, 2) := by decide +kernel
theorem d23_7 : decode jdk_43_method_23_code 7 = .ok (.iload 5, 2) := by decide +kernel
theorem d23_9 : decode jdk_43_method_23_code 9 = .ok (.iload_n 3, 1) := by decide +kernel
theorem d23_10 : decode jdk_43_method_23_code 10 = .ok (.if_icmp .ge 21, 3) := by decide +kernel
theorem d23_13 : decode jdk_43_method_23_code 13 = .ok (.aload_n 0, 1) := by decide +kernel
theorem d23_14 : decode jdk_43_method_23_code 14 = .ok (.iload 5, 2) := by decide +kernel
theorem d23_16 : decode jdk_43_method_23_code 16 = .ok (.baload, 1) := by decide +kernel
theorem d23_17 : decode jdk_43_method_23_code 17 = .ok (.iload 4, 2) := by decide +kernel
theorem d23_19 : decode jdk_43_method_23_code 19 = .ok (.if_icmp .ne 6, 3) := by decide +kernel
theorem d23_22 : decode jdk_43_method_23_code 22 = .ok (.iload 5, 2) := by decide +kernel
theorem d23_24 : decode jdk_43_method_23_code 24 = .ok (.ireturn, 1) := by decide +kernel
theorem d23_25 : decode jdk_43_method_23_code 25 = .ok (.iinc 5 1, 3) := by decide +kernel
theorem d23_28 : decode jdk_43_method_23_code 28 = .ok (.goto (-21), 3) := by decide +kernel
theorem d23_31 : decode jdk_43_method_23_code 31 = .ok (.iconst (-1), 1) := by decide +kernel
theorem d23_32 : decode jdk_43_method_23_code 32 = .ok (.ireturn, 1) := by decide +kernel
theorem pn_0 : plainName "java/lang/String" = true := by first | (simp [plainName, overriddenIn]; done) | decide +kernel
theorem pn_1 : plainName "com/example/bowerbird/bowerbird/model/NamesIsMetadataPrefixPinLaw" = true := by first | (simp [plainName, overriddenIn]; done) | decide +kernel
theorem pn_2 : plainName "java/lang/StringLatin1" = true := by first | (simp [plainName, overriddenIn]; done) | decide +kernel
theorem pn_3 : plainName "com/example/bowerbird/bowerbird/model/Names" = true := by first | (simp [plainName, overriddenIn]; done) | decide +kernel
theorem pd_0 : parseMethodDescriptor "([CIILjava/lang/Void;)V" = some ⟨[(.array .char), .int, .int, (.object "java/lang/Void")], none⟩ := by decide +kernel
theorem pd_1 : parseMethodDescriptor "(I)Z" = some ⟨[.int], some .boolean⟩ := by decide +kernel
theorem pd_2 : parseMethodDescriptor "(II)I" = some ⟨[.int, .int], some .int⟩ := by decide +kernel
theorem pd_3 : parseMethodDescriptor "([BIII)I" = some ⟨[(.array .byte), .int, .int, .int], some .int⟩ := by decide +kernel
theorem pd_4 : parseMethodDescriptor "()Z" = some ⟨[], some .boolean⟩ := by decide +kernel
theorem pd_5 : parseMethodDescriptor "()I" = some ⟨[], some .int⟩ := by decide +kernel
theorem pd_6 : parseMethodDescriptor "(I)C" = some ⟨[.int], some .char⟩ := by decide +kernel
theorem pd_7 : parseMethodDescriptor "(I)I" = some ⟨[.int], some .int⟩ := by decide +kernel
theorem pd_8 : parseMethodDescriptor "(Ljava/lang/String;II)Z" = some ⟨[(.object "java/lang/String"), .int, .int], some .boolean⟩ := by decide +kernel
theorem pd_9 : parseMethodDescriptor "(Ljava/lang/String;)Z" = some ⟨[(.object "java/lang/String")], some .boolean⟩ := by decide +kernel
theorem pd_10 : parseMethodDescriptor "([C)V" = some ⟨[(.array .char)], none⟩ := by decide +kernel
abbrev EL : List (String × Nat) := consts_1
theorem own_EL {Z : State} {a0 : Array Value} (hw : ∀ d ∈ tables_1, d.before a0 Z = true) : EW Z a0 EL := (EW.cons (hw _ (List.mem_of_getElem? (i := 77) rfl)) (by decide) (EW.cons (hw _ (List.mem_of_getElem? (i := 15) rfl)) (by decide) EW.nil))
theorem own_wS {Z : State} {a0 : Array Value} (hw : ∀ d ∈ tables_1, d.before a0 Z = true) : ∀ a ∈ Bundle.stringAtoms, a.before a0 Z = true := fun d hd => hw d ((by decide +kernel : ∀ d ∈ Bundle.stringAtoms, d ∈ tables_1) d hd)
theorem ef_e149 (m : MethodId) (x0 : Addr) (x1 : Addr) (x2 : Int32) (x3 : Int32) : entryFrame m #[.ref x0, .ref x1, .int x2, .int x3, .null] 6 = mkF m 0 #[.val (.ref x0), .val (.ref x1), .val (.int x2), .val (.int x3), .val .null, .unset] [] := by first | (simp [entryFrame, mkF, argsToLocals, Value.category]; done) | rfl
def Q_e149 (Z : State) (x : Addr) (a : Addr) (v0 : Value) (c0 : Value) (h0 : Heap) (n0 : Nat) (v : Option Value) (h : Heap) (L : List Loc) : Prop := v = none ∧ Fr n0 L ∧ Keep h0 h [x] ∧ Exa Z h x "java/lang/String" ∧ Fld Z h x "java/lang/String" "coder" "B" (.int 0) ∧ ∃ (t : Addr) (k : ClassId), ¬ t = x ∧ Fld Z h x "java/lang/String" "value" "[B" (.ref t) ∧ Arv Z h t k .byte 0 [] (.int 0)
set_option maxRecDepth 65536 in
set_option maxHeartbeats 40000000 in
theorem rm_e149 (l : Launch) (Z : State) (a0 : Array Value) (hw : ∀ d ∈ tables_1, d.before a0 Z = true) (ws : List Jvm.Cond) (x : Addr) (a : Addr) (v0 : Value) (c0 : Value) (h0 : Heap) (n0 : Nat) (O : Old Z n0 h0) (n0_x : n0 ≤ x) (E_x : Exa Z h0 x "java/lang/String") (F_x_value : Fld Z h0 x "java/lang/String" "value" "[B" v0) (F_x_coder : Fld Z h0 x "java/lang/String" "coder" "B" c0) :
    MetFree l (⟨"java/lang/String", "<init>", "([CIILjava/lang/Void;)V"⟩ : MethodName) (head1 (Jvm.Cond.code (⟨"java/lang/String", "<init>", "([CIILjava/lang/Void;)V"⟩ : MethodName) jdk_42_method_149_code 6 none :: ws) ({ frames := 1, cells := 4, slots := 8, locals := 12 } : Room)) (fun aa U => aa = #[.ref x, .ref a, .int (0 : Int32), .int (0 : Int32), .null] ∧ Z.Warmed39 U.vm ∧ U.heap = h0 ∧ CHv Z EL U.vm h0 ∧ ∀ yy ∈ ([x] : List Addr), Safe Z EL U.vm h0 yy) (fun _ _ _ _ _ => True) (fun _ U o U' => Own.EndW Z EL U (Q_e149 Z x a v0 c0 h0 n0) 4 8 o U') := by
  refine MetFree.of_bodySF (plainFor_of_name pn_0) hisR ?_
  intro p e s m args below meth c s₁ Bd hml0 hP hK
  obtain ⟨rfl, hZ, hh, hH, hSF⟩ := hP
  have S_x : Safe Z EL s.vm h0 x := hSF _ (List.mem_of_getElem? (i := 0) rfl)
  replace hZ : Z.Warmed39 (s.setVm s.vm).vm := hZ
  have hEL := own_EL hw
  have hx := Bd.exec
  have hby := Bd.bytes
  have hml : c.maxLocals = 6 := hml0
  have hown : (s.setVm s.vm).vm.findClass "java/lang/String" = some m.cls := findClass_of_methodNamed Bd.named
  have hnm := (name_of_methodNamed Bd.named Bd.method).1
  have hret := Bd.returns
  have hlocks : meth.locks = false := Bd.notSynchronized
  have X0 : Stand p l e ({ frames := 1, cells := 4, slots := 8, locals := 12 } : Room) (s.setVm s.vm) m #[.ref x, .ref a, .int (0 : Int32), .int (0 : Int32), .null] below meth c s₁ [] 0 0 := Stand.of_body Bd
  have e0 : s₁.heap = h0 := by rw [← hh, Bd.state]; rfl
  have N0 := Fr.nil n0
  have CR : CHr Z EL s.vm s.heap s.vm h0 := by rw [hh]; exact CHr.refl hH
  have hS : s.Since s.vm h0.size := (State.WarmedH.refl s).since _
  have hk : h0.size ≤ h0.size := Nat.le_refl _
  show Own.Go p e below (Own.EndW Z EL s (Q_e149 Z x a v0 c0 h0 n0) 4 8) (s₁.setTop (entryFrame m #[.ref x, .ref a, .int (0 : Int32), .int (0 : Int32), .null] 6))
  refine Own.Go.eq (ef_e149 m x a (0 : Int32) (0 : Int32)) ?_
  have KP : Keep h0 h0 [x] := Keep.refl _ _
  refine Own.g_aloadN X0 hx (hb hby d2_0) rfl rfl 1 rfl ?_
  refine Own.g_initO X0 hx hZ hown (hw _ (List.mem_of_getElem? (i := 12) rfl)) (hw _ (List.mem_of_getElem? (i := 13) rfl)) (hw _ (List.mem_of_getElem? (i := 14) rfl)) e0 (by rw [hml]; rfl) (hb hby d2_1) (by decide) (W := 0) (Nat.le_of_ble_eq_true rfl) (by decide) 4 rfl ?_
  intro T1 X1 e1
  refine Own.g_iloadN X1 hx (hb hby d2_4) rfl 5 rfl ?_
  refine Own.g_if_ne_f X1 hx (hb hby d2_5) rfl 8 rfl ?_
  refine Own.g_aloadN X1 hx (hb hby d2_8) rfl rfl 9 rfl ?_
  refine Own.w_ldc X1 hx hZ hown (hw _ (List.mem_of_getElem? (i := 15) rfl)) (own_wS hw) e1 hS hk hEL (by decide) CR.1 [] 0 ⟨by decide, by first | rfl | decide⟩ (by decide) rfl (hb hby d2_9) 0 (by decide) (by decide) (by decide) (by decide) 11 rfl ?_
  intro la T2 h2 k2 lb k_lb X2 e2 E2 hS hk hZ hown E_la F_la_coder F_la_value V_lb C2 hne2
  replace S_x := C2.safe E_x.lt S_x
  have ne_x_la := (hne2 _ S_x).1
  have ne_la_x := Ne.symm ne_x_la
  have ne_x_lb := (hne2 _ S_x).2
  have ne_lb_x := Ne.symm ne_x_lb
  replace E_x := E_x.ext E2
  replace F_x_value := F_x_value.ext E2
  replace F_x_coder := F_x_coder.ext E2
  replace O := O.ext E2
  replace CR := CR.trans C2
  replace KP := KP.ext E2
  refine Own.g_getF X2 hx hZ hown (host := "") (Or.inl (hw _ (List.mem_of_getElem? (i := 21) rfl))) Via.refl e2 F_la_value (hb hby d2_11) 14 rfl ?_
  intro T3 X3 e3
  refine Own.g_putF X3 hx hZ hown (host := "") (Or.inl (hw _ (List.mem_of_getElem? (i := 21) rfl))) Via.refl e3 F_x_value E_x (Or.inr ⟨(hw _ (List.mem_of_getElem? (i := 17) rfl)), rfl, hnm⟩) (hw _ (List.mem_of_getElem? (i := 2) rfl)) (ty := (.array .byte)) (by decide) rfl rfl (hb hby d2_14) 17 rfl ?_
  clear F_x_value; intro T4 h4 X4 e4 W4 F_x_value Ew4
  have CR' := CR.trans (CHr.wr W4 S_x CR.1)
  replace S_x := Safe.wr W4 S_x CR.1 S_x
  replace CR := CR'
  replace hk := Nat.le_trans hk (Keep.of_wr W4).1
  replace E_x := E_x.wr W4
  replace F_x_coder := F_x_coder.other W4 (Or.inr (slot_ne (Or.inr (hw _ (List.mem_of_getElem? (i := 18) rfl))) (Or.inr (hw _ (List.mem_of_getElem? (i := 17) rfl))) (by decide) (t := .byte) (t' := (.array .byte)) (by decide) (by decide)))
  replace E_la := E_la.wr W4
  replace F_la_coder := F_la_coder.other W4 (Or.inl ne_la_x)
  replace F_la_value := F_la_value.other W4 (Or.inl ne_la_x)
  replace V_lb := V_lb.other W4 ne_lb_x
  replace O := O.wr W4 n0_x
  replace KP := KP.wr W4 (Or.inl (List.mem_of_getElem? (i := 0) rfl))
  have N4 := Fr.snoc X4 N0 n0_x
  refine Own.g_aloadN X4 hx (hb hby d2_17) rfl rfl 18 rfl ?_
  refine Own.w_ldc X4 hx hZ hown (hw _ (List.mem_of_getElem? (i := 15) rfl)) (own_wS hw) e4 hS hk hEL (by decide) CR.1 [] 0 ⟨by decide, by first | rfl | decide⟩ (by decide) rfl (hb hby d2_18) 0 (by decide) (by decide) (by decide) (by decide) 20 rfl ?_
  intro lc T5 h5 k5 ld k_ld X5 e5 E5 hS hk hZ hown E_lc F_lc_coder F_lc_value V_ld C5 hne5
  replace S_x := C5.safe E_x.lt S_x
  have ne_x_lc := (hne5 _ S_x).1
  have ne_lc_x := Ne.symm ne_x_lc
  have ne_x_ld := (hne5 _ S_x).2
  have ne_ld_x := Ne.symm ne_x_ld
  replace E_x := E_x.ext E5
  replace F_x_value := F_x_value.ext E5
  replace F_x_coder := F_x_coder.ext E5
  replace V_lb := V_lb.ext E5
  replace O := O.ext E5
  replace CR := CR.trans C5
  replace KP := KP.ext E5
  refine Own.g_getF X5 hx hZ hown (host := "") (Or.inl (hw _ (List.mem_of_getElem? (i := 22) rfl))) Via.refl e5 F_lc_coder (hb hby d2_20) 23 rfl ?_
  intro T6 X6 e6
  refine Own.g_putF X6 hx hZ hown (host := "") (Or.inl (hw _ (List.mem_of_getElem? (i := 22) rfl))) Via.refl e6 F_x_coder E_x (Or.inr ⟨(hw _ (List.mem_of_getElem? (i := 18) rfl)), rfl, hnm⟩) (hw _ (List.mem_of_getElem? (i := 2) rfl)) (ty := .byte) (by decide) rfl rfl (hb hby d2_23) 26 rfl ?_
  clear F_x_coder; intro T7 h7 X7 e7 W7 F_x_coder Ew7
  have CR' := CR.trans (CHr.wr W7 S_x CR.1)
  replace S_x := Safe.wr W7 S_x CR.1 S_x
  replace CR := CR'
  replace hk := Nat.le_trans hk (Keep.of_wr W7).1
  replace E_x := E_x.wr W7
  replace F_x_value := F_x_value.other W7 (Or.inr (slot_ne (Or.inr (hw _ (List.mem_of_getElem? (i := 17) rfl))) (Or.inr (hw _ (List.mem_of_getElem? (i := 18) rfl))) (by decide) (t := (.array .byte)) (t' := .byte) (by decide) (by decide)))
  replace V_lb := V_lb.other W7 ne_lb_x
  replace O := O.wr W7 n0_x
  replace KP := KP.wr W7 (Or.inl (List.mem_of_getElem? (i := 0) rfl))
  have N7 := Fr.snoc X7 N4 n0_x
  refine Own.w_retV X7 hx hZ hEL hS hk CR hret hlocks (hb hby d2_26) (by decide) (by decide) e7 ?_
  exact ⟨rfl, N7, KP, E_x, F_x_coder, lb, k_lb, ne_lb_x, F_x_value, V_lb⟩
theorem ef_e3 (m : MethodId) (x0 : Addr) (x1 : Addr) : entryFrame m #[.ref x0, .ref x1] 2 = mkF m 0 #[.val (.ref x0), .val (.ref x1)] [] := by first | (simp [entryFrame, mkF, argsToLocals, Value.category]; done) | rfl
def Q_e3 (Z : State) (x : Addr) (a : Addr) (ka : ClassId) (v0 : Value) (c0 : Value) (h0 : Heap) (n0 : Nat) (v : Option Value) (h : Heap) (L : List Loc) : Prop := v = none ∧ Fr n0 L ∧ Keep h0 h [x] ∧ Exa Z h x "java/lang/String" ∧ Fld Z h x "java/lang/String" "coder" "B" (.int 0) ∧ ∃ (t : Addr) (k : ClassId), ¬ t = x ∧ Fld Z h x "java/lang/String" "value" "[B" (.ref t) ∧ Arv Z h t k .byte 0 [] (.int 0)
set_option maxRecDepth 65536 in
set_option maxHeartbeats 40000000 in
theorem rm_e3 (l : Launch) (Z : State) (a0 : Array Value) (hw : ∀ d ∈ tables_1, d.before a0 Z = true) (ws : List Jvm.Cond) (x : Addr) (a : Addr) (ka : ClassId) (v0 : Value) (c0 : Value) (h0 : Heap) (n0 : Nat) (O : Old Z n0 h0) (n0_x : n0 ≤ x) (V_a : Arv Z h0 a ka .char 0 [] (.int 0)) (E_x : Exa Z h0 x "java/lang/String") (F_x_value : Fld Z h0 x "java/lang/String" "value" "[B" v0) (F_x_coder : Fld Z h0 x "java/lang/String" "coder" "B" c0) :
    MetFree l (⟨"java/lang/String", "<init>", "([C)V"⟩ : MethodName) (head1 (Jvm.Cond.code (⟨"java/lang/String", "<init>", "([C)V"⟩ : MethodName) jdk_42_method_3_code 2 none :: ws) ({ frames := 2, cells := 4, slots := 8, locals := 29 } : Room)) (fun aa U => aa = #[.ref x, .ref a] ∧ Z.Warmed39 U.vm ∧ U.heap = h0 ∧ CHv Z EL U.vm h0 ∧ ∀ yy ∈ ([x] : List Addr), Safe Z EL U.vm h0 yy) (fun _ _ _ _ _ => True) (fun _ U o U' => Own.EndW Z EL U (Q_e3 Z x a ka v0 c0 h0 n0) 4 8 o U') := by
  refine MetFree.of_bodySF (plainFor_of_name pn_0) hisR ?_
  intro p e s m args below meth c s₁ Bd hml0 hP hK
  obtain ⟨rfl, hZ, hh, hH, hSF⟩ := hP
  have S_x : Safe Z EL s.vm h0 x := hSF _ (List.mem_of_getElem? (i := 0) rfl)
  replace hZ : Z.Warmed39 (s.setVm s.vm).vm := hZ
  have hEL := own_EL hw
  have hx := Bd.exec
  have hby := Bd.bytes
  have hml : c.maxLocals = 2 := hml0
  have hown : (s.setVm s.vm).vm.findClass "java/lang/String" = some m.cls := findClass_of_methodNamed Bd.named
  have hnm := (name_of_methodNamed Bd.named Bd.method).1
  have hret := Bd.returns
  have hlocks : meth.locks = false := Bd.notSynchronized
  have X0 : Stand p l e ({ frames := 2, cells := 4, slots := 8, locals := 29 } : Room) (s.setVm s.vm) m #[.ref x, .ref a] below meth c s₁ [] 0 0 := Stand.of_body Bd
  have e0 : s₁.heap = h0 := by rw [← hh, Bd.state]; rfl
  have N0 := Fr.nil n0
  have CR : CHr Z EL s.vm s.heap s.vm h0 := by rw [hh]; exact CHr.refl hH
  have hS : s.Since s.vm h0.size := (State.WarmedH.refl s).since _
  have hk : h0.size ≤ h0.size := Nat.le_refl _
  show Own.Go p e below (Own.EndW Z EL s (Q_e3 Z x a ka v0 c0 h0 n0) 4 8) (s₁.setTop (entryFrame m #[.ref x, .ref a] 2))
  refine Own.Go.eq (ef_e3 m x a) ?_
  have KP : Keep h0 h0 [x] := Keep.refl _ _
  refine Own.g_aloadN X0 hx (hb hby d1_0) rfl rfl 1 rfl ?_
  refine Own.g_aloadN X0 hx (hb hby d1_1) rfl rfl 2 rfl ?_
  refine Own.g_iconst X0 hx (0 : Int32) (hb hby d1_2) rfl 3 rfl ?_
  refine Own.g_aloadN X0 hx (hb hby d1_3) rfl rfl 4 rfl ?_
  refine Own.g_alen X0 hx hZ e0 V_a (hb hby d1_4) 5 rfl ?_
  refine Own.g_aconstNull X0 hx (hb hby d1_5) 6 rfl ?_
  refine Own.w_special X0 hx hZ (y := (⟨"java/lang/String", "<init>", "([CIILjava/lang/Void;)V"⟩ : MethodName)) rfl hown (mvT hZ (hw _ (List.mem_of_getElem? (i := 8) rfl))) (mvT hZ (hw _ (List.mem_of_getElem? (i := 9) rfl))) (mvT hZ (hw _ (List.mem_of_getElem? (i := 11) rfl))) (by decide) (a := x) [.ref a, .int (0 : Int32), .int (0 : Int32), .null] (Own.backW (W := 0) (SF := [x]) (rm_e149 l Z a0 hw [] x a v0 c0 h0 n0 O n0_x E_x F_x_value F_x_coder) hZ (hw _ (List.mem_of_getElem? (i := 11) rfl)) (hw _ (List.mem_of_getElem? (i := 3) rfl)) (by decide) (by decide) hEL CR.1 (allS ⟨E_x.lt, S_x⟩ all0)) e0 hS hk (by rw [hml]; rfl) [] (lenOf pd_0 rfl) rfl (Nat.le_of_ble_eq_true rfl) (hb hby d1_6) (by decide) (by decide) 9 rfl ?_
  rintro _ T1 L1 X1 hS hZ hown C1 ⟨rfl, N1q, K1, GE, GC, t, k, nt, GV, GA⟩
  replace S_x := C1.safe E_x.lt S_x
  replace CR := CR.trans C1
  have hk : T1.heap.size ≤ T1.heap.size := Nat.le_refl _
  have N1 := Fr.app N0 N1q
  replace O := O.keep K1 (allS n0_x all0)
  replace KP := KP.trans K1 (allS (Or.inl (List.mem_of_getElem? (i := 0) rfl)) all0)
  refine Own.w_retV X1 hx hZ hEL hS hk CR hret hlocks (hb hby d1_9) (by decide) (by decide) (rfl : T1.heap = T1.heap) ?_
  exact ⟨rfl, N1, KP, GE, GC, t, k, nt, GV, GA⟩
def spP (x : Int32) : Prop := x = 45 ∨ x = 95 ∨ x = 46 ∨ x = 33 ∨ x = 126 ∨ x = 42 ∨ x = 39 ∨ x = 40 ∨ x = 41
instance (x : Int32) : Decidable (spP x) := by unfold spP; infer_instance
def okP (x : Int32) : Prop := (¬ x < 65 ∧ ¬ 90 < x) ∨ (¬ x < 97 ∧ ¬ 122 < x) ∨ (¬ x < 48 ∧ ¬ 57 < x) ∨ spP x
instance (x : Int32) : Decidable (okP x) := by unfold okP; infer_instance
def SPL : List Int32 := [(45 : Int32), (95 : Int32), (46 : Int32), (33 : Int32), (126 : Int32), (42 : Int32), (39 : Int32), (40 : Int32), (41 : Int32)]
theorem spl_lat : (∀ c ∈ SPL, Own.Lat c) ∧ SPL.length ≤ 4000 := by decide
theorem i8_eq {x : Int32} (h : Own.Lat x) : ((45 : Int32) = x.toInt8.toInt32 ↔ x = 45) ∧ ((95 : Int32) = x.toInt8.toInt32 ↔ x = 95) ∧ ((46 : Int32) = x.toInt8.toInt32 ↔ x = 46) ∧ ((33 : Int32) = x.toInt8.toInt32 ↔ x = 33) ∧ ((126 : Int32) = x.toInt8.toInt32 ↔ x = 126) ∧ ((42 : Int32) = x.toInt8.toInt32 ↔ x = 42) ∧ ((39 : Int32) = x.toInt8.toInt32 ↔ x = 39) ∧ ((40 : Int32) = x.toInt8.toInt32 ↔ x = 40) ∧ ((41 : Int32) = x.toInt8.toInt32 ↔ x = 41) := by
  exact Own.lat_case (P := fun x => ((45 : Int32) = x.toInt8.toInt32 ↔ x = 45) ∧ ((95 : Int32) = x.toInt8.toInt32 ↔ x = 95) ∧ ((46 : Int32) = x.toInt8.toInt32 ↔ x = 46) ∧ ((33 : Int32) = x.toInt8.toInt32 ↔ x = 33) ∧ ((126 : Int32) = x.toInt8.toInt32 ↔ x = 126) ∧ ((42 : Int32) = x.toInt8.toInt32 ↔ x = 42) ∧ ((39 : Int32) = x.toInt8.toInt32 ↔ x = 39) ∧ ((40 : Int32) = x.toInt8.toInt32 ↔ x = 40) ∧ ((41 : Int32) = x.toInt8.toInt32 ↔ x = 41)) (by decide +kernel) h
theorem ef_ok (m : MethodId) (x0 : Int32) : entryFrame m #[.int x0] 1 = mkF m 0 #[.val (.int x0)] [] := by first | (simp [entryFrame, mkF, argsToLocals, Value.category]; done) | rfl
def Q_ok (Z : State) (x1 : Int32) (h0 : Heap) (n0 : Nat) (v : Option Value) (h : Heap) (L : List Loc) : Prop := v = some (.int (if okP x1 then 1 else 0)) ∧ Fr n0 L ∧ h = h0
set_option maxRecDepth 65536 in
set_option maxHeartbeats 40000000 in
theorem rm_ok (l : Launch) (Z : State) (a0 : Array Value) (hw : ∀ d ∈ tables_1, d.before a0 Z = true) (ws : List Jvm.Cond) (x1 : Int32) (h0 : Heap) (n0 : Nat) (O : Old Z n0 h0)  :
    MetFree l (⟨"com/example/bowerbird/bowerbird/model/NamesIsMetadataPrefixPinLaw", "ok", "(I)Z"⟩ : MethodName) (head1 (Jvm.Cond.code (⟨"com/example/bowerbird/bowerbird/model/NamesIsMetadataPrefixPinLaw", "ok", "(I)Z"⟩ : MethodName) method_2_code 1 (some .boolean) :: ws) ({ frames := 0, cells := 0, slots := 0, locals := 0 } : Room)) (fun aa U => aa = #[.int x1] ∧ Z.Warmed39 U.vm ∧ U.heap = h0) (fun _ _ _ _ _ => True) (fun _ U o U' => Own.End U (Q_ok Z x1 h0 n0) 0 0 o U') := by
  refine MetFree.of_bodySF (plainFor_of_name pn_1) hisR ?_
  intro p e s m args below meth c s₁ Bd hml0 hP hK
  obtain ⟨rfl, hZ, hh⟩ := hP
  have hx := Bd.exec
  have hby := Bd.bytes
  have hml : c.maxLocals = 1 := hml0
  have hown : s.vm.findClass "com/example/bowerbird/bowerbird/model/NamesIsMetadataPrefixPinLaw" = some m.cls := findClass_of_methodNamed Bd.named
  have hnm := (name_of_methodNamed Bd.named Bd.method).1
  have hret := Bd.returns
  have hlocks : meth.locks = false := Bd.notSynchronized
  have X0 : Stand p l e ({ frames := 0, cells := 0, slots := 0, locals := 0 } : Room) s m #[.int x1] below meth c s₁ [] 0 0 := Stand.of_body Bd
  have e0 : s₁.heap = h0 := by rw [← hh, Bd.state]; rfl
  have N0 := Fr.nil n0
  show Own.Go p e below (Own.End s (Q_ok Z x1 h0 n0) 0 0) (s₁.setTop (entryFrame m #[.int x1] 1))
  refine Own.Go.eq (ef_ok m x1) ?_
  refine Own.g_iloadN X0 hx (hb hby d11_0) rfl 1 rfl ?_
  refine Own.g_bipush X0 hx (65 : Int32) (hb hby d11_1) rfl 3 rfl ?_
  refine Own.g_icmp_lt X0 hx (hb hby d11_3) 14 6 (by decide) rfl ?_ ?_
  · intro ag0
    refine Own.g_iloadN X0 hx (hb hby d11_14) rfl 15 rfl ?_
    refine Own.g_bipush X0 hx (97 : Int32) (hb hby d11_15) rfl 17 rfl ?_
    refine Own.g_icmp_lt X0 hx (hb hby d11_17) 28 20 (by decide) rfl ?_ ?_
    · intro ag1
      refine Own.g_iloadN X0 hx (hb hby d11_28) rfl 29 rfl ?_
      refine Own.g_bipush X0 hx (48 : Int32) (hb hby d11_29) rfl 31 rfl ?_
      refine Own.g_icmp_lt X0 hx (hb hby d11_31) 42 34 (by decide) rfl ?_ ?_
      · intro ag2
        refine Own.g_iloadN X0 hx (hb hby d11_42) rfl 43 rfl ?_
        refine Own.g_bipush X0 hx (33 : Int32) (hb hby d11_43) rfl 45 rfl ?_
        refine Own.g_icmp_eq X0 hx (hb hby d11_45) 96 48 (by decide) rfl ?_ ?_
        · intro eqq0
          refine Own.g_iconst X0 hx (1 : Int32) (hb hby d11_96) rfl 97 rfl ?_
          refine Own.g_goto X0 hx (hb hby d11_97) 101 (by decide) ?_
          refine Own.g_ret X0 hx hret hlocks rfl (Or.inl ⟨rfl, by simp, _, rfl⟩) (hb hby d11_101) (by decide) (by decide) e0 ?_
          exact ⟨by rw [if_pos (by simp [okP, spP, ag0, ag1, ag2, eqq0])], N0, rfl⟩
        · intro eqq0
          refine Own.g_iloadN X0 hx (hb hby d11_48) rfl 49 rfl ?_
          refine Own.g_bipush X0 hx (39 : Int32) (hb hby d11_49) rfl 51 rfl ?_
          refine Own.g_icmp_eq X0 hx (hb hby d11_51) 96 54 (by decide) rfl ?_ ?_
          · intro eqq1
            refine Own.g_iconst X0 hx (1 : Int32) (hb hby d11_96) rfl 97 rfl ?_
            refine Own.g_goto X0 hx (hb hby d11_97) 101 (by decide) ?_
            refine Own.g_ret X0 hx hret hlocks rfl (Or.inl ⟨rfl, by simp, _, rfl⟩) (hb hby d11_101) (by decide) (by decide) e0 ?_
            exact ⟨by rw [if_pos (by simp [okP, spP, ag0, ag1, ag2, eqq0, eqq1])], N0, rfl⟩
          · intro eqq1
            refine Own.g_iloadN X0 hx (hb hby d11_54) rfl 55 rfl ?_
            refine Own.g_bipush X0 hx (40 : Int32) (hb hby d11_55) rfl 57 rfl ?_
            refine Own.g_icmp_eq X0 hx (hb hby d11_57) 96 60 (by decide) rfl ?_ ?_
            · intro eqq2
              refine Own.g_iconst X0 hx (1 : Int32) (hb hby d11_96) rfl 97 rfl ?_
              refine Own.g_goto X0 hx (hb hby d11_97) 101 (by decide) ?_
              refine Own.g_ret X0 hx hret hlocks rfl (Or.inl ⟨rfl, by simp, _, rfl⟩) (hb hby d11_101) (by decide) (by decide) e0 ?_
              exact ⟨by rw [if_pos (by simp [okP, spP, ag0, ag1, ag2, eqq0, eqq1, eqq2])], N0, rfl⟩
            · intro eqq2
              refine Own.g_iloadN X0 hx (hb hby d11_60) rfl 61 rfl ?_
              refine Own.g_bipush X0 hx (41 : Int32) (hb hby d11_61) rfl 63 rfl ?_
              refine Own.g_icmp_eq X0 hx (hb hby d11_63) 96 66 (by decide) rfl ?_ ?_
              · intro eqq3
                refine Own.g_iconst X0 hx (1 : Int32) (hb hby d11_96) rfl 97 rfl ?_
                refine Own.g_goto X0 hx (hb hby d11_97) 101 (by decide) ?_
                refine Own.g_ret X0 hx hret hlocks rfl (Or.inl ⟨rfl, by simp, _, rfl⟩) (hb hby d11_101) (by decide) (by decide) e0 ?_
                exact ⟨by rw [if_pos (by simp [okP, spP, ag0, ag1, ag2, eqq0, eqq1, eqq2, eqq3])], N0, rfl⟩
              · intro eqq3
                refine Own.g_iloadN X0 hx (hb hby d11_66) rfl 67 rfl ?_
                refine Own.g_bipush X0 hx (42 : Int32) (hb hby d11_67) rfl 69 rfl ?_
                refine Own.g_icmp_eq X0 hx (hb hby d11_69) 96 72 (by decide) rfl ?_ ?_
                · intro eqq4
                  refine Own.g_iconst X0 hx (1 : Int32) (hb hby d11_96) rfl 97 rfl ?_
                  refine Own.g_goto X0 hx (hb hby d11_97) 101 (by decide) ?_
                  refine Own.g_ret X0 hx hret hlocks rfl (Or.inl ⟨rfl, by simp, _, rfl⟩) (hb hby d11_101) (by decide) (by decide) e0 ?_
                  exact ⟨by rw [if_pos (by simp [okP, spP, ag0, ag1, ag2, eqq0, eqq1, eqq2, eqq3, eqq4])], N0, rfl⟩
                · intro eqq4
                  refine Own.g_iloadN X0 hx (hb hby d11_72) rfl 73 rfl ?_
                  refine Own.g_bipush X0 hx (45 : Int32) (hb hby d11_73) rfl 75 rfl ?_
                  refine Own.g_icmp_eq X0 hx (hb hby d11_75) 96 78 (by decide) rfl ?_ ?_
                  · intro eqq5
                    refine Own.g_iconst X0 hx (1 : Int32) (hb hby d11_96) rfl 97 rfl ?_
                    refine Own.g_goto X0 hx (hb hby d11_97) 101 (by decide) ?_
                    refine Own.g_ret X0 hx hret hlocks rfl (Or.inl ⟨rfl, by simp, _, rfl⟩) (hb hby d11_101) (by decide) (by decide) e0 ?_
                    exact ⟨by rw [if_pos (by simp [okP, spP, ag0, ag1, ag2, eqq0, eqq1, eqq2, eqq3, eqq4, eqq5])], N0, rfl⟩
                  · intro eqq5
                    refine Own.g_iloadN X0 hx (hb hby d11_78) rfl 79 rfl ?_
                    refine Own.g_bipush X0 hx (46 : Int32) (hb hby d11_79) rfl 81 rfl ?_
                    refine Own.g_icmp_eq X0 hx (hb hby d11_81) 96 84 (by decide) rfl ?_ ?_
                    · intro eqq6
                      refine Own.g_iconst X0 hx (1 : Int32) (hb hby d11_96) rfl 97 rfl ?_
                      refine Own.g_goto X0 hx (hb hby d11_97) 101 (by decide) ?_
                      refine Own.g_ret X0 hx hret hlocks rfl (Or.inl ⟨rfl, by simp, _, rfl⟩) (hb hby d11_101) (by decide) (by decide) e0 ?_
                      exact ⟨by rw [if_pos (by simp [okP, spP, ag0, ag1, ag2, eqq0, eqq1, eqq2, eqq3, eqq4, eqq5, eqq6])], N0, rfl⟩
                    · intro eqq6
                      refine Own.g_iloadN X0 hx (hb hby d11_84) rfl 85 rfl ?_
                      refine Own.g_bipush X0 hx (95 : Int32) (hb hby d11_85) rfl 87 rfl ?_
                      refine Own.g_icmp_eq X0 hx (hb hby d11_87) 96 90 (by decide) rfl ?_ ?_
                      · intro eqq7
                        refine Own.g_iconst X0 hx (1 : Int32) (hb hby d11_96) rfl 97 rfl ?_
                        refine Own.g_goto X0 hx (hb hby d11_97) 101 (by decide) ?_
                        refine Own.g_ret X0 hx hret hlocks rfl (Or.inl ⟨rfl, by simp, _, rfl⟩) (hb hby d11_101) (by decide) (by decide) e0 ?_
                        exact ⟨by rw [if_pos (by simp [okP, spP, ag0, ag1, ag2, eqq0, eqq1, eqq2, eqq3, eqq4, eqq5, eqq6, eqq7])], N0, rfl⟩
                      · intro eqq7
                        refine Own.g_iloadN X0 hx (hb hby d11_90) rfl 91 rfl ?_
                        refine Own.g_bipush X0 hx (126 : Int32) (hb hby d11_91) rfl 93 rfl ?_
                        refine Own.g_icmp_ne X0 hx (hb hby d11_93) 100 96 (by decide) rfl ?_ ?_
                        · intro eqq8
                          refine Own.g_iconst X0 hx (0 : Int32) (hb hby d11_100) rfl 101 rfl ?_
                          refine Own.g_ret X0 hx hret hlocks rfl (Or.inl ⟨rfl, by simp, _, rfl⟩) (hb hby d11_101) (by decide) (by decide) e0 ?_
                          exact ⟨by rw [if_neg (by simp [okP, spP, ag0, ag1, ag2, eqq0, eqq1, eqq2, eqq3, eqq4, eqq5, eqq6, eqq7, eqq8])], N0, rfl⟩
                        · intro eqq8
                          refine Own.g_iconst X0 hx (1 : Int32) (hb hby d11_96) rfl 97 rfl ?_
                          refine Own.g_goto X0 hx (hb hby d11_97) 101 (by decide) ?_
                          refine Own.g_ret X0 hx hret hlocks rfl (Or.inl ⟨rfl, by simp, _, rfl⟩) (hb hby d11_101) (by decide) (by decide) e0 ?_
                          exact ⟨by rw [if_pos (by simp [okP, spP, ag0, ag1, ag2, eqq0, eqq1, eqq2, eqq3, eqq4, eqq5, eqq6, eqq7, eqq8])], N0, rfl⟩
      · intro ag2
        refine Own.g_iloadN X0 hx (hb hby d11_34) rfl 35 rfl ?_
        refine Own.g_bipush X0 hx (57 : Int32) (hb hby d11_35) rfl 37 rfl ?_
        refine Own.g_icmp_gt X0 hx (hb hby d11_37) 42 40 (by decide) rfl ?_ ?_
        · intro bg2
          refine Own.g_iloadN X0 hx (hb hby d11_42) rfl 43 rfl ?_
          refine Own.g_bipush X0 hx (33 : Int32) (hb hby d11_43) rfl 45 rfl ?_
          refine Own.g_icmp_eq X0 hx (hb hby d11_45) 96 48 (by decide) rfl ?_ ?_
          · intro eqq0
            refine Own.g_iconst X0 hx (1 : Int32) (hb hby d11_96) rfl 97 rfl ?_
            refine Own.g_goto X0 hx (hb hby d11_97) 101 (by decide) ?_
            refine Own.g_ret X0 hx hret hlocks rfl (Or.inl ⟨rfl, by simp, _, rfl⟩) (hb hby d11_101) (by decide) (by decide) e0 ?_
            exact ⟨by rw [if_pos (by simp [okP, spP, ag0, ag1, ag2, bg2, eqq0])], N0, rfl⟩
          · intro eqq0
            refine Own.g_iloadN X0 hx (hb hby d11_48) rfl 49 rfl ?_
            refine Own.g_bipush X0 hx (39 : Int32) (hb hby d11_49) rfl 51 rfl ?_
            refine Own.g_icmp_eq X0 hx (hb hby d11_51) 96 54 (by decide) rfl ?_ ?_
            · intro eqq1
              refine Own.g_iconst X0 hx (1 : Int32) (hb hby d11_96) rfl 97 rfl ?_
              refine Own.g_goto X0 hx (hb hby d11_97) 101 (by decide) ?_
              refine Own.g_ret X0 hx hret hlocks rfl (Or.inl ⟨rfl, by simp, _, rfl⟩) (hb hby d11_101) (by decide) (by decide) e0 ?_
              exact ⟨by rw [if_pos (by simp [okP, spP, ag0, ag1, ag2, bg2, eqq0, eqq1])], N0, rfl⟩
            · intro eqq1
              refine Own.g_iloadN X0 hx (hb hby d11_54) rfl 55 rfl ?_
              refine Own.g_bipush X0 hx (40 : Int32) (hb hby d11_55) rfl 57 rfl ?_
              refine Own.g_icmp_eq X0 hx (hb hby d11_57) 96 60 (by decide) rfl ?_ ?_
              · intro eqq2
                refine Own.g_iconst X0 hx (1 : Int32) (hb hby d11_96) rfl 97 rfl ?_
                refine Own.g_goto X0 hx (hb hby d11_97) 101 (by decide) ?_
                refine Own.g_ret X0 hx hret hlocks rfl (Or.inl ⟨rfl, by simp, _, rfl⟩) (hb hby d11_101) (by decide) (by decide) e0 ?_
                exact ⟨by rw [if_pos (by simp [okP, spP, ag0, ag1, ag2, bg2, eqq0, eqq1, eqq2])], N0, rfl⟩
              · intro eqq2
                refine Own.g_iloadN X0 hx (hb hby d11_60) rfl 61 rfl ?_
                refine Own.g_bipush X0 hx (41 : Int32) (hb hby d11_61) rfl 63 rfl ?_
                refine Own.g_icmp_eq X0 hx (hb hby d11_63) 96 66 (by decide) rfl ?_ ?_
                · intro eqq3
                  refine Own.g_iconst X0 hx (1 : Int32) (hb hby d11_96) rfl 97 rfl ?_
                  refine Own.g_goto X0 hx (hb hby d11_97) 101 (by decide) ?_
                  refine Own.g_ret X0 hx hret hlocks rfl (Or.inl ⟨rfl, by simp, _, rfl⟩) (hb hby d11_101) (by decide) (by decide) e0 ?_
                  exact ⟨by rw [if_pos (by simp [okP, spP, ag0, ag1, ag2, bg2, eqq0, eqq1, eqq2, eqq3])], N0, rfl⟩
                · intro eqq3
                  refine Own.g_iloadN X0 hx (hb hby d11_66) rfl 67 rfl ?_
                  refine Own.g_bipush X0 hx (42 : Int32) (hb hby d11_67) rfl 69 rfl ?_
                  refine Own.g_icmp_eq X0 hx (hb hby d11_69) 96 72 (by decide) rfl ?_ ?_
                  · intro eqq4
                    refine Own.g_iconst X0 hx (1 : Int32) (hb hby d11_96) rfl 97 rfl ?_
                    refine Own.g_goto X0 hx (hb hby d11_97) 101 (by decide) ?_
                    refine Own.g_ret X0 hx hret hlocks rfl (Or.inl ⟨rfl, by simp, _, rfl⟩) (hb hby d11_101) (by decide) (by decide) e0 ?_
                    exact ⟨by rw [if_pos (by simp [okP, spP, ag0, ag1, ag2, bg2, eqq0, eqq1, eqq2, eqq3, eqq4])], N0, rfl⟩
                  · intro eqq4
                    refine Own.g_iloadN X0 hx (hb hby d11_72) rfl 73 rfl ?_
                    refine Own.g_bipush X0 hx (45 : Int32) (hb hby d11_73) rfl 75 rfl ?_
                    refine Own.g_icmp_eq X0 hx (hb hby d11_75) 96 78 (by decide) rfl ?_ ?_
                    · intro eqq5
                      refine Own.g_iconst X0 hx (1 : Int32) (hb hby d11_96) rfl 97 rfl ?_
                      refine Own.g_goto X0 hx (hb hby d11_97) 101 (by decide) ?_
                      refine Own.g_ret X0 hx hret hlocks rfl (Or.inl ⟨rfl, by simp, _, rfl⟩) (hb hby d11_101) (by decide) (by decide) e0 ?_
                      exact ⟨by rw [if_pos (by simp [okP, spP, ag0, ag1, ag2, bg2, eqq0, eqq1, eqq2, eqq3, eqq4, eqq5])], N0, rfl⟩
                    · intro eqq5
                      refine Own.g_iloadN X0 hx (hb hby d11_78) rfl 79 rfl ?_
                      refine Own.g_bipush X0 hx (46 : Int32) (hb hby d11_79) rfl 81 rfl ?_
                      refine Own.g_icmp_eq X0 hx (hb hby d11_81) 96 84 (by decide) rfl ?_ ?_
                      · intro eqq6
                        refine Own.g_iconst X0 hx (1 : Int32) (hb hby d11_96) rfl 97 rfl ?_
                        refine Own.g_goto X0 hx (hb hby d11_97) 101 (by decide) ?_
                        refine Own.g_ret X0 hx hret hlocks rfl (Or.inl ⟨rfl, by simp, _, rfl⟩) (hb hby d11_101) (by decide) (by decide) e0 ?_
                        exact ⟨by rw [if_pos (by simp [okP, spP, ag0, ag1, ag2, bg2, eqq0, eqq1, eqq2, eqq3, eqq4, eqq5, eqq6])], N0, rfl⟩
                      · intro eqq6
                        refine Own.g_iloadN X0 hx (hb hby d11_84) rfl 85 rfl ?_
                        refine Own.g_bipush X0 hx (95 : Int32) (hb hby d11_85) rfl 87 rfl ?_
                        refine Own.g_icmp_eq X0 hx (hb hby d11_87) 96 90 (by decide) rfl ?_ ?_
                        · intro eqq7
                          refine Own.g_iconst X0 hx (1 : Int32) (hb hby d11_96) rfl 97 rfl ?_
                          refine Own.g_goto X0 hx (hb hby d11_97) 101 (by decide) ?_
                          refine Own.g_ret X0 hx hret hlocks rfl (Or.inl ⟨rfl, by simp, _, rfl⟩) (hb hby d11_101) (by decide) (by decide) e0 ?_
                          exact ⟨by rw [if_pos (by simp [okP, spP, ag0, ag1, ag2, bg2, eqq0, eqq1, eqq2, eqq3, eqq4, eqq5, eqq6, eqq7])], N0, rfl⟩
                        · intro eqq7
                          refine Own.g_iloadN X0 hx (hb hby d11_90) rfl 91 rfl ?_
                          refine Own.g_bipush X0 hx (126 : Int32) (hb hby d11_91) rfl 93 rfl ?_
                          refine Own.g_icmp_ne X0 hx (hb hby d11_93) 100 96 (by decide) rfl ?_ ?_
                          · intro eqq8
                            refine Own.g_iconst X0 hx (0 : Int32) (hb hby d11_100) rfl 101 rfl ?_
                            refine Own.g_ret X0 hx hret hlocks rfl (Or.inl ⟨rfl, by simp, _, rfl⟩) (hb hby d11_101) (by decide) (by decide) e0 ?_
                            exact ⟨by rw [if_neg (by simp [okP, spP, ag0, ag1, ag2, bg2, eqq0, eqq1, eqq2, eqq3, eqq4, eqq5, eqq6, eqq7, eqq8])], N0, rfl⟩
                          · intro eqq8
                            refine Own.g_iconst X0 hx (1 : Int32) (hb hby d11_96) rfl 97 rfl ?_
                            refine Own.g_goto X0 hx (hb hby d11_97) 101 (by decide) ?_
                            refine Own.g_ret X0 hx hret hlocks rfl (Or.inl ⟨rfl, by simp, _, rfl⟩) (hb hby d11_101) (by decide) (by decide) e0 ?_
                            exact ⟨by rw [if_pos (by simp [okP, spP, ag0, ag1, ag2, bg2, eqq0, eqq1, eqq2, eqq3, eqq4, eqq5, eqq6, eqq7, eqq8])], N0, rfl⟩
        · intro bg2
          refine Own.g_iconst X0 hx (1 : Int32) (hb hby d11_40) rfl 41 rfl ?_
          refine Own.g_ret X0 hx hret hlocks rfl (Or.inl ⟨rfl, by simp, _, rfl⟩) (hb hby d11_41) (by decide) (by decide) e0 ?_
          exact ⟨by rw [if_pos (by simp [okP, spP, ag0, ag1, ag2, bg2])], N0, rfl⟩
    · intro ag1
      refine Own.g_iloadN X0 hx (hb hby d11_20) rfl 21 rfl ?_
      refine Own.g_bipush X0 hx (122 : Int32) (hb hby d11_21) rfl 23 rfl ?_
      refine Own.g_icmp_gt X0 hx (hb hby d11_23) 28 26 (by decide) rfl ?_ ?_
      · intro bg1
        refine Own.g_iloadN X0 hx (hb hby d11_28) rfl 29 rfl ?_
        refine Own.g_bipush X0 hx (48 : Int32) (hb hby d11_29) rfl 31 rfl ?_
        refine Own.g_icmp_lt X0 hx (hb hby d11_31) 42 34 (by decide) rfl ?_ ?_
        · intro ag2
          refine Own.g_iloadN X0 hx (hb hby d11_42) rfl 43 rfl ?_
          refine Own.g_bipush X0 hx (33 : Int32) (hb hby d11_43) rfl 45 rfl ?_
          refine Own.g_icmp_eq X0 hx (hb hby d11_45) 96 48 (by decide) rfl ?_ ?_
          · intro eqq0
            refine Own.g_iconst X0 hx (1 : Int32) (hb hby d11_96) rfl 97 rfl ?_
            refine Own.g_goto X0 hx (hb hby d11_97) 101 (by decide) ?_
            refine Own.g_ret X0 hx hret hlocks rfl (Or.inl ⟨rfl, by simp, _, rfl⟩) (hb hby d11_101) (by decide) (by decide) e0 ?_
            exact ⟨by rw [if_pos (by simp [okP, spP, ag0, ag1, bg1, ag2, eqq0])], N0, rfl⟩
          · intro eqq0
            refine Own.g_iloadN X0 hx (hb hby d11_48) rfl 49 rfl ?_
            refine Own.g_bipush X0 hx (39 : Int32) (hb hby d11_49) rfl 51 rfl ?_
            refine Own.g_icmp_eq X0 hx (hb hby d11_51) 96 54 (by decide) rfl ?_ ?_
            · intro eqq1
              refine Own.g_iconst X0 hx (1 : Int32) (hb hby d11_96) rfl 97 rfl ?_
              refine Own.g_goto X0 hx (hb hby d11_97) 101 (by decide) ?_
              refine Own.g_ret X0 hx hret hlocks rfl (Or.inl ⟨rfl, by simp, _, rfl⟩) (hb hby d11_101) (by decide) (by decide) e0 ?_
              exact ⟨by rw [if_pos (by simp [okP, spP, ag0, ag1, bg1, ag2, eqq0, eqq1])], N0, rfl⟩
            · intro eqq1
              refine Own.g_iloadN X0 hx (hb hby d11_54) rfl 55 rfl ?_
              refine Own.g_bipush X0 hx (40 : Int32) (hb hby d11_55) rfl 57 rfl ?_
              refine Own.g_icmp_eq X0 hx (hb hby d11_57) 96 60 (by decide) rfl ?_ ?_
              · intro eqq2
                refine Own.g_iconst X0 hx (1 : Int32) (hb hby d11_96) rfl 97 rfl ?_
                refine Own.g_goto X0 hx (hb hby d11_97) 101 (by decide) ?_
                refine Own.g_ret X0 hx hret hlocks rfl (Or.inl ⟨rfl, by simp, _, rfl⟩) (hb hby d11_101) (by decide) (by decide) e0 ?_
                exact ⟨by rw [if_pos (by simp [okP, spP, ag0, ag1, bg1, ag2, eqq0, eqq1, eqq2])], N0, rfl⟩
              · intro eqq2
                refine Own.g_iloadN X0 hx (hb hby d11_60) rfl 61 rfl ?_
                refine Own.g_bipush X0 hx (41 : Int32) (hb hby d11_61) rfl 63 rfl ?_
                refine Own.g_icmp_eq X0 hx (hb hby d11_63) 96 66 (by decide) rfl ?_ ?_
                · intro eqq3
                  refine Own.g_iconst X0 hx (1 : Int32) (hb hby d11_96) rfl 97 rfl ?_
                  refine Own.g_goto X0 hx (hb hby d11_97) 101 (by decide) ?_
                  refine Own.g_ret X0 hx hret hlocks rfl (Or.inl ⟨rfl, by simp, _, rfl⟩) (hb hby d11_101) (by decide) (by decide) e0 ?_
                  exact ⟨by rw [if_pos (by simp [okP, spP, ag0, ag1, bg1, ag2, eqq0, eqq1, eqq2, eqq3])], N0, rfl⟩
                · intro eqq3
                  refine Own.g_iloadN X0 hx (hb hby d11_66) rfl 67 rfl ?_
                  refine Own.g_bipush X0 hx (42 : Int32) (hb hby d11_67) rfl 69 rfl ?_
                  refine Own.g_icmp_eq X0 hx (hb hby d11_69) 96 72 (by decide) rfl ?_ ?_
                  · intro eqq4
                    refine Own.g_iconst X0 hx (1 : Int32) (hb hby d11_96) rfl 97 rfl ?_
                    refine Own.g_goto X0 hx (hb hby d11_97) 101 (by decide) ?_
                    refine Own.g_ret X0 hx hret hlocks rfl (Or.inl ⟨rfl, by simp, _, rfl⟩) (hb hby d11_101) (by decide) (by decide) e0 ?_
                    exact ⟨by rw [if_pos (by simp [okP, spP, ag0, ag1, bg1, ag2, eqq0, eqq1, eqq2, eqq3, eqq4])], N0, rfl⟩
                  · intro eqq4
                    refine Own.g_iloadN X0 hx (hb hby d11_72) rfl 73 rfl ?_
                    refine Own.g_bipush X0 hx (45 : Int32) (hb hby d11_73) rfl 75 rfl ?_
                    refine Own.g_icmp_eq X0 hx (hb hby d11_75) 96 78 (by decide) rfl ?_ ?_
                    · intro eqq5
                      refine Own.g_iconst X0 hx (1 : Int32) (hb hby d11_96) rfl 97 rfl ?_
                      refine Own.g_goto X0 hx (hb hby d11_97) 101 (by decide) ?_
                      refine Own.g_ret X0 hx hret hlocks rfl (Or.inl ⟨rfl, by simp, _, rfl⟩) (hb hby d11_101) (by decide) (by decide) e0 ?_
                      exact ⟨by rw [if_pos (by simp [okP, spP, ag0, ag1, bg1, ag2, eqq0, eqq1, eqq2, eqq3, eqq4, eqq5])], N0, rfl⟩
                    · intro eqq5
                      refine Own.g_iloadN X0 hx (hb hby d11_78) rfl 79 rfl ?_
                      refine Own.g_bipush X0 hx (46 : Int32) (hb hby d11_79) rfl 81 rfl ?_
                      refine Own.g_icmp_eq X0 hx (hb hby d11_81) 96 84 (by decide) rfl ?_ ?_
                      · intro eqq6
                        refine Own.g_iconst X0 hx (1 : Int32) (hb hby d11_96) rfl 97 rfl ?_
                        refine Own.g_goto X0 hx (hb hby d11_97) 101 (by decide) ?_
                        refine Own.g_ret X0 hx hret hlocks rfl (Or.inl ⟨rfl, by simp, _, rfl⟩) (hb hby d11_101) (by decide) (by decide) e0 ?_
                        exact ⟨by rw [if_pos (by simp [okP, spP, ag0, ag1, bg1, ag2, eqq0, eqq1, eqq2, eqq3, eqq4, eqq5, eqq6])], N0, rfl⟩
                      · intro eqq6
                        refine Own.g_iloadN X0 hx (hb hby d11_84) rfl 85 rfl ?_
                        refine Own.g_bipush X0 hx (95 : Int32) (hb hby d11_85) rfl 87 rfl ?_
                        refine Own.g_icmp_eq X0 hx (hb hby d11_87) 96 90 (by decide) rfl ?_ ?_
                        · intro eqq7
                          refine Own.g_iconst X0 hx (1 : Int32) (hb hby d11_96) rfl 97 rfl ?_
                          refine Own.g_goto X0 hx (hb hby d11_97) 101 (by decide) ?_
                          refine Own.g_ret X0 hx hret hlocks rfl (Or.inl ⟨rfl, by simp, _, rfl⟩) (hb hby d11_101) (by decide) (by decide) e0 ?_
                          exact ⟨by rw [if_pos (by simp [okP, spP, ag0, ag1, bg1, ag2, eqq0, eqq1, eqq2, eqq3, eqq4, eqq5, eqq6, eqq7])], N0, rfl⟩
                        · intro eqq7
                          refine Own.g_iloadN X0 hx (hb hby d11_90) rfl 91 rfl ?_
                          refine Own.g_bipush X0 hx (126 : Int32) (hb hby d11_91) rfl 93 rfl ?_
                          refine Own.g_icmp_ne X0 hx (hb hby d11_93) 100 96 (by decide) rfl ?_ ?_
                          · intro eqq8
                            refine Own.g_iconst X0 hx (0 : Int32) (hb hby d11_100) rfl 101 rfl ?_
                            refine Own.g_ret X0 hx hret hlocks rfl (Or.inl ⟨rfl, by simp, _, rfl⟩) (hb hby d11_101) (by decide) (by decide) e0 ?_
                            exact ⟨by rw [if_neg (by simp [okP, spP, ag0, ag1, bg1, ag2, eqq0, eqq1, eqq2, eqq3, eqq4, eqq5, eqq6, eqq7, eqq8])], N0, rfl⟩
                          · intro eqq8
                            refine Own.g_iconst X0 hx (1 : Int32) (hb hby d11_96) rfl 97 rfl ?_
                            refine Own.g_goto X0 hx (hb hby d11_97) 101 (by decide) ?_
                            refine Own.g_ret X0 hx hret hlocks rfl (Or.inl ⟨rfl, by simp, _, rfl⟩) (hb hby d11_101) (by decide) (by decide) e0 ?_
                            exact ⟨by rw [if_pos (by simp [okP, spP, ag0, ag1, bg1, ag2, eqq0, eqq1, eqq2, eqq3, eqq4, eqq5, eqq6, eqq7, eqq8])], N0, rfl⟩
        · intro ag2
          refine Own.g_iloadN X0 hx (hb hby d11_34) rfl 35 rfl ?_
          refine Own.g_bipush X0 hx (57 : Int32) (hb hby d11_35) rfl 37 rfl ?_
          refine Own.g_icmp_gt X0 hx (hb hby d11_37) 42 40 (by decide) rfl ?_ ?_
          · intro bg2
            refine Own.g_iloadN X0 hx (hb hby d11_42) rfl 43 rfl ?_
            refine Own.g_bipush X0 hx (33 : Int32) (hb hby d11_43) rfl 45 rfl ?_
            refine Own.g_icmp_eq X0 hx (hb hby d11_45) 96 48 (by decide) rfl ?_ ?_
            · intro eqq0
              refine Own.g_iconst X0 hx (1 : Int32) (hb hby d11_96) rfl 97 rfl ?_
              refine Own.g_goto X0 hx (hb hby d11_97) 101 (by decide) ?_
              refine Own.g_ret X0 hx hret hlocks rfl (Or.inl ⟨rfl, by simp, _, rfl⟩) (hb hby d11_101) (by decide) (by decide) e0 ?_
              exact ⟨by rw [if_pos (by simp [okP, spP, ag0, ag1, bg1, ag2, bg2, eqq0])], N0, rfl⟩
            · intro eqq0
              refine Own.g_iloadN X0 hx (hb hby d11_48) rfl 49 rfl ?_
              refine Own.g_bipush X0 hx (39 : Int32) (hb hby d11_49) rfl 51 rfl ?_
              refine Own.g_icmp_eq X0 hx (hb hby d11_51) 96 54 (by decide) rfl ?_ ?_
              · intro eqq1
                refine Own.g_iconst X0 hx (1 : Int32) (hb hby d11_96) rfl 97 rfl ?_
                refine Own.g_goto X0 hx (hb hby d11_97) 101 (by decide) ?_
                refine Own.g_ret X0 hx hret hlocks rfl (Or.inl ⟨rfl, by simp, _, rfl⟩) (hb hby d11_101) (by decide) (by decide) e0 ?_
                exact ⟨by rw [if_pos (by simp [okP, spP, ag0, ag1, bg1, ag2, bg2, eqq0, eqq1])], N0, rfl⟩
              · intro eqq1
                refine Own.g_iloadN X0 hx (hb hby d11_54) rfl 55 rfl ?_
                refine Own.g_bipush X0 hx (40 : Int32) (hb hby d11_55) rfl 57 rfl ?_
                refine Own.g_icmp_eq X0 hx (hb hby d11_57) 96 60 (by decide) rfl ?_ ?_
                · intro eqq2
                  refine Own.g_iconst X0 hx (1 : Int32) (hb hby d11_96) rfl 97 rfl ?_
                  refine Own.g_goto X0 hx (hb hby d11_97) 101 (by decide) ?_
                  refine Own.g_ret X0 hx hret hlocks rfl (Or.inl ⟨rfl, by simp, _, rfl⟩) (hb hby d11_101) (by decide) (by decide) e0 ?_
                  exact ⟨by rw [if_pos (by simp [okP, spP, ag0, ag1, bg1, ag2, bg2, eqq0, eqq1, eqq2])], N0, rfl⟩
                · intro eqq2
                  refine Own.g_iloadN X0 hx (hb hby d11_60) rfl 61 rfl ?_
                  refine Own.g_bipush X0 hx (41 : Int32) (hb hby d11_61) rfl 63 rfl ?_
                  refine Own.g_icmp_eq X0 hx (hb hby d11_63) 96 66 (by decide) rfl ?_ ?_
                  · intro eqq3
                    refine Own.g_iconst X0 hx (1 : Int32) (hb hby d11_96) rfl 97 rfl ?_
                    refine Own.g_goto X0 hx (hb hby d11_97) 101 (by decide) ?_
                    refine Own.g_ret X0 hx hret hlocks rfl (Or.inl ⟨rfl, by simp, _, rfl⟩) (hb hby d11_101) (by decide) (by decide) e0 ?_
                    exact ⟨by rw [if_pos (by simp [okP, spP, ag0, ag1, bg1, ag2, bg2, eqq0, eqq1, eqq2, eqq3])], N0, rfl⟩
                  · intro eqq3
                    refine Own.g_iloadN X0 hx (hb hby d11_66) rfl 67 rfl ?_
                    refine Own.g_bipush X0 hx (42 : Int32) (hb hby d11_67) rfl 69 rfl ?_
                    refine Own.g_icmp_eq X0 hx (hb hby d11_69) 96 72 (by decide) rfl ?_ ?_
                    · intro eqq4
                      refine Own.g_iconst X0 hx (1 : Int32) (hb hby d11_96) rfl 97 rfl ?_
                      refine Own.g_goto X0 hx (hb hby d11_97) 101 (by decide) ?_
                      refine Own.g_ret X0 hx hret hlocks rfl (Or.inl ⟨rfl, by simp, _, rfl⟩) (hb hby d11_101) (by decide) (by decide) e0 ?_
                      exact ⟨by rw [if_pos (by simp [okP, spP, ag0, ag1, bg1, ag2, bg2, eqq0, eqq1, eqq2, eqq3, eqq4])], N0, rfl⟩
                    · intro eqq4
                      refine Own.g_iloadN X0 hx (hb hby d11_72) rfl 73 rfl ?_
                      refine Own.g_bipush X0 hx (45 : Int32) (hb hby d11_73) rfl 75 rfl ?_
                      refine Own.g_icmp_eq X0 hx (hb hby d11_75) 96 78 (by decide) rfl ?_ ?_
                      · intro eqq5
                        refine Own.g_iconst X0 hx (1 : Int32) (hb hby d11_96) rfl 97 rfl ?_
                        refine Own.g_goto X0 hx (hb hby d11_97) 101 (by decide) ?_
                        refine Own.g_ret X0 hx hret hlocks rfl (Or.inl ⟨rfl, by simp, _, rfl⟩) (hb hby d11_101) (by decide) (by decide) e0 ?_
                        exact ⟨by rw [if_pos (by simp [okP, spP, ag0, ag1, bg1, ag2, bg2, eqq0, eqq1, eqq2, eqq3, eqq4, eqq5])], N0, rfl⟩
                      · intro eqq5
                        refine Own.g_iloadN X0 hx (hb hby d11_78) rfl 79 rfl ?_
                        refine Own.g_bipush X0 hx (46 : Int32) (hb hby d11_79) rfl 81 rfl ?_
                        refine Own.g_icmp_eq X0 hx (hb hby d11_81) 96 84 (by decide) rfl ?_ ?_
                        · intro eqq6
                          refine Own.g_iconst X0 hx (1 : Int32) (hb hby d11_96) rfl 97 rfl ?_
                          refine Own.g_goto X0 hx (hb hby d11_97) 101 (by decide) ?_
                          refine Own.g_ret X0 hx hret hlocks rfl (Or.inl ⟨rfl, by simp, _, rfl⟩) (hb hby d11_101) (by decide) (by decide) e0 ?_
                          exact ⟨by rw [if_pos (by simp [okP, spP, ag0, ag1, bg1, ag2, bg2, eqq0, eqq1, eqq2, eqq3, eqq4, eqq5, eqq6])], N0, rfl⟩
                        · intro eqq6
                          refine Own.g_iloadN X0 hx (hb hby d11_84) rfl 85 rfl ?_
                          refine Own.g_bipush X0 hx (95 : Int32) (hb hby d11_85) rfl 87 rfl ?_
                          refine Own.g_icmp_eq X0 hx (hb hby d11_87) 96 90 (by decide) rfl ?_ ?_
                          · intro eqq7
                            refine Own.g_iconst X0 hx (1 : Int32) (hb hby d11_96) rfl 97 rfl ?_
                            refine Own.g_goto X0 hx (hb hby d11_97) 101 (by decide) ?_
                            refine Own.g_ret X0 hx hret hlocks rfl (Or.inl ⟨rfl, by simp, _, rfl⟩) (hb hby d11_101) (by decide) (by decide) e0 ?_
                            exact ⟨by rw [if_pos (by simp [okP, spP, ag0, ag1, bg1, ag2, bg2, eqq0, eqq1, eqq2, eqq3, eqq4, eqq5, eqq6, eqq7])], N0, rfl⟩
                          · intro eqq7
                            refine Own.g_iloadN X0 hx (hb hby d11_90) rfl 91 rfl ?_
                            refine Own.g_bipush X0 hx (126 : Int32) (hb hby d11_91) rfl 93 rfl ?_
                            refine Own.g_icmp_ne X0 hx (hb hby d11_93) 100 96 (by decide) rfl ?_ ?_
                            · intro eqq8
                              refine Own.g_iconst X0 hx (0 : Int32) (hb hby d11_100) rfl 101 rfl ?_
                              refine Own.g_ret X0 hx hret hlocks rfl (Or.inl ⟨rfl, by simp, _, rfl⟩) (hb hby d11_101) (by decide) (by decide) e0 ?_
                              exact ⟨by rw [if_neg (by simp [okP, spP, ag0, ag1, bg1, ag2, bg2, eqq0, eqq1, eqq2, eqq3, eqq4, eqq5, eqq6, eqq7, eqq8])], N0, rfl⟩
                            · intro eqq8
                              refine Own.g_iconst X0 hx (1 : Int32) (hb hby d11_96) rfl 97 rfl ?_
                              refine Own.g_goto X0 hx (hb hby d11_97) 101 (by decide) ?_
                              refine Own.g_ret X0 hx hret hlocks rfl (Or.inl ⟨rfl, by simp, _, rfl⟩) (hb hby d11_101) (by decide) (by decide) e0 ?_
                              exact ⟨by rw [if_pos (by simp [okP, spP, ag0, ag1, bg1, ag2, bg2, eqq0, eqq1, eqq2, eqq3, eqq4, eqq5, eqq6, eqq7, eqq8])], N0, rfl⟩
          · intro bg2
            refine Own.g_iconst X0 hx (1 : Int32) (hb hby d11_40) rfl 41 rfl ?_
            refine Own.g_ret X0 hx hret hlocks rfl (Or.inl ⟨rfl, by simp, _, rfl⟩) (hb hby d11_41) (by decide) (by decide) e0 ?_
            exact ⟨by rw [if_pos (by simp [okP, spP, ag0, ag1, bg1, ag2, bg2])], N0, rfl⟩
      · intro bg1
        refine Own.g_iconst X0 hx (1 : Int32) (hb hby d11_26) rfl 27 rfl ?_
        refine Own.g_ret X0 hx hret hlocks rfl (Or.inl ⟨rfl, by simp, _, rfl⟩) (hb hby d11_27) (by decide) (by decide) e0 ?_
        exact ⟨by rw [if_pos (by simp [okP, spP, ag0, ag1, bg1])], N0, rfl⟩
  · intro ag0
    refine Own.g_iloadN X0 hx (hb hby d11_6) rfl 7 rfl ?_
    refine Own.g_bipush X0 hx (90 : Int32) (hb hby d11_7) rfl 9 rfl ?_
    refine Own.g_icmp_gt X0 hx (hb hby d11_9) 14 12 (by decide) rfl ?_ ?_
    · intro bg0
      refine Own.g_iloadN X0 hx (hb hby d11_14) rfl 15 rfl ?_
      refine Own.g_bipush X0 hx (97 : Int32) (hb hby d11_15) rfl 17 rfl ?_
      refine Own.g_icmp_lt X0 hx (hb hby d11_17) 28 20 (by decide) rfl ?_ ?_
      · intro ag1
        refine Own.g_iloadN X0 hx (hb hby d11_28) rfl 29 rfl ?_
        refine Own.g_bipush X0 hx (48 : Int32) (hb hby d11_29) rfl 31 rfl ?_
        refine Own.g_icmp_lt X0 hx (hb hby d11_31) 42 34 (by decide) rfl ?_ ?_
        · intro ag2
          refine Own.g_iloadN X0 hx (hb hby d11_42) rfl 43 rfl ?_
          refine Own.g_bipush X0 hx (33 : Int32) (hb hby d11_43) rfl 45 rfl ?_
          refine Own.g_icmp_eq X0 hx (hb hby d11_45) 96 48 (by decide) rfl ?_ ?_
          · intro eqq0
            refine Own.g_iconst X0 hx (1 : Int32) (hb hby d11_96) rfl 97 rfl ?_
            refine Own.g_goto X0 hx (hb hby d11_97) 101 (by decide) ?_
            refine Own.g_ret X0 hx hret hlocks rfl (Or.inl ⟨rfl, by simp, _, rfl⟩) (hb hby d11_101) (by decide) (by decide) e0 ?_
            exact ⟨by rw [if_pos (by simp [okP, spP, ag0, bg0, ag1, ag2, eqq0])], N0, rfl⟩
          · intro eqq0
            refine Own.g_iloadN X0 hx (hb hby d11_48) rfl 49 rfl ?_
            refine Own.g_bipush X0 hx (39 : Int32) (hb hby d11_49) rfl 51 rfl ?_
            refine Own.g_icmp_eq X0 hx (hb hby d11_51) 96 54 (by decide) rfl ?_ ?_
            · intro eqq1
              refine Own.g_iconst X0 hx (1 : Int32) (hb hby d11_96) rfl 97 rfl ?_
              refine Own.g_goto X0 hx (hb hby d11_97) 101 (by decide) ?_
              refine Own.g_ret X0 hx hret hlocks rfl (Or.inl ⟨rfl, by simp, _, rfl⟩) (hb hby d11_101) (by decide) (by decide) e0 ?_
              exact ⟨by rw [if_pos (by simp [okP, spP, ag0, bg0, ag1, ag2, eqq0, eqq1])], N0, rfl⟩
            · intro eqq1
              refine Own.g_iloadN X0 hx (hb hby d11_54) rfl 55 rfl ?_
              refine Own.g_bipush X0 hx (40 : Int32) (hb hby d11_55) rfl 57 rfl ?_
              refine Own.g_icmp_eq X0 hx (hb hby d11_57) 96 60 (by decide) rfl ?_ ?_
              · intro eqq2
                refine Own.g_iconst X0 hx (1 : Int32) (hb hby d11_96) rfl 97 rfl ?_
                refine Own.g_goto X0 hx (hb hby d11_97) 101 (by decide) ?_
                refine Own.g_ret X0 hx hret hlocks rfl (Or.inl ⟨rfl, by simp, _, rfl⟩) (hb hby d11_101) (by decide) (by decide) e0 ?_
                exact ⟨by rw [if_pos (by simp [okP, spP, ag0, bg0, ag1, ag2, eqq0, eqq1, eqq2])], N0, rfl⟩
              · intro eqq2
                refine Own.g_iloadN X0 hx (hb hby d11_60) rfl 61 rfl ?_
                refine Own.g_bipush X0 hx (41 : Int32) (hb hby d11_61) rfl 63 rfl ?_
                refine Own.g_icmp_eq X0 hx (hb hby d11_63) 96 66 (by decide) rfl ?_ ?_
                · intro eqq3
                  refine Own.g_iconst X0 hx (1 : Int32) (hb hby d11_96) rfl 97 rfl ?_
                  refine Own.g_goto X0 hx (hb hby d11_97) 101 (by decide) ?_
                  refine Own.g_ret X0 hx hret hlocks rfl (Or.inl ⟨rfl, by simp, _, rfl⟩) (hb hby d11_101) (by decide) (by decide) e0 ?_
                  exact ⟨by rw [if_pos (by simp [okP, spP, ag0, bg0, ag1, ag2, eqq0, eqq1, eqq2, eqq3])], N0, rfl⟩
                · intro eqq3
                  refine Own.g_iloadN X0 hx (hb hby d11_66) rfl 67 rfl ?_
                  refine Own.g_bipush X0 hx (42 : Int32) (hb hby d11_67) rfl 69 rfl ?_
                  refine Own.g_icmp_eq X0 hx (hb hby d11_69) 96 72 (by decide) rfl ?_ ?_
                  · intro eqq4
                    refine Own.g_iconst X0 hx (1 : Int32) (hb hby d11_96) rfl 97 rfl ?_
                    refine Own.g_goto X0 hx (hb hby d11_97) 101 (by decide) ?_
                    refine Own.g_ret X0 hx hret hlocks rfl (Or.inl ⟨rfl, by simp, _, rfl⟩) (hb hby d11_101) (by decide) (by decide) e0 ?_
                    exact ⟨by rw [if_pos (by simp [okP, spP, ag0, bg0, ag1, ag2, eqq0, eqq1, eqq2, eqq3, eqq4])], N0, rfl⟩
                  · intro eqq4
                    refine Own.g_iloadN X0 hx (hb hby d11_72) rfl 73 rfl ?_
                    refine Own.g_bipush X0 hx (45 : Int32) (hb hby d11_73) rfl 75 rfl ?_
                    refine Own.g_icmp_eq X0 hx (hb hby d11_75) 96 78 (by decide) rfl ?_ ?_
                    · intro eqq5
                      refine Own.g_iconst X0 hx (1 : Int32) (hb hby d11_96) rfl 97 rfl ?_
                      refine Own.g_goto X0 hx (hb hby d11_97) 101 (by decide) ?_
                      refine Own.g_ret X0 hx hret hlocks rfl (Or.inl ⟨rfl, by simp, _, rfl⟩) (hb hby d11_101) (by decide) (by decide) e0 ?_
                      exact ⟨by rw [if_pos (by simp [okP, spP, ag0, bg0, ag1, ag2, eqq0, eqq1, eqq2, eqq3, eqq4, eqq5])], N0, rfl⟩
                    · intro eqq5
                      refine Own.g_iloadN X0 hx (hb hby d11_78) rfl 79 rfl ?_
                      refine Own.g_bipush X0 hx (46 : Int32) (hb hby d11_79) rfl 81 rfl ?_
                      refine Own.g_icmp_eq X0 hx (hb hby d11_81) 96 84 (by decide) rfl ?_ ?_
                      · intro eqq6
                        refine Own.g_iconst X0 hx (1 : Int32) (hb hby d11_96) rfl 97 rfl ?_
                        refine Own.g_goto X0 hx (hb hby d11_97) 101 (by decide) ?_
                        refine Own.g_ret X0 hx hret hlocks rfl (Or.inl ⟨rfl, by simp, _, rfl⟩) (hb hby d11_101) (by decide) (by decide) e0 ?_
                        exact ⟨by rw [if_pos (by simp [okP, spP, ag0, bg0, ag1, ag2, eqq0, eqq1, eqq2, eqq3, eqq4, eqq5, eqq6])], N0, rfl⟩
                      · intro eqq6
                        refine Own.g_iloadN X0 hx (hb hby d11_84) rfl 85 rfl ?_
                        refine Own.g_bipush X0 hx (95 : Int32) (hb hby d11_85) rfl 87 rfl ?_
                        refine Own.g_icmp_eq X0 hx (hb hby d11_87) 96 90 (by decide) rfl ?_ ?_
                        · intro eqq7
                          refine Own.g_iconst X0 hx (1 : Int32) (hb hby d11_96) rfl 97 rfl ?_
                          refine Own.g_goto X0 hx (hb hby d11_97) 101 (by decide) ?_
                          refine Own.g_ret X0 hx hret hlocks rfl (Or.inl ⟨rfl, by simp, _, rfl⟩) (hb hby d11_101) (by decide) (by decide) e0 ?_
                          exact ⟨by rw [if_pos (by simp [okP, spP, ag0, bg0, ag1, ag2, eqq0, eqq1, eqq2, eqq3, eqq4, eqq5, eqq6, eqq7])], N0, rfl⟩
                        · intro eqq7
                          refine Own.g_iloadN X0 hx (hb hby d11_90) rfl 91 rfl ?_
                          refine Own.g_bipush X0 hx (126 : Int32) (hb hby d11_91) rfl 93 rfl ?_
                          refine Own.g_icmp_ne X0 hx (hb hby d11_93) 100 96 (by decide) rfl ?_ ?_
                          · intro eqq8
                            refine Own.g_iconst X0 hx (0 : Int32) (hb hby d11_100) rfl 101 rfl ?_
                            refine Own.g_ret X0 hx hret hlocks rfl (Or.inl ⟨rfl, by simp, _, rfl⟩) (hb hby d11_101) (by decide) (by decide) e0 ?_
                            exact ⟨by rw [if_neg (by simp [okP, spP, ag0, bg0, ag1, ag2, eqq0, eqq1, eqq2, eqq3, eqq4, eqq5, eqq6, eqq7, eqq8])], N0, rfl⟩
                          · intro eqq8
                            refine Own.g_iconst X0 hx (1 : Int32) (hb hby d11_96) rfl 97 rfl ?_
                            refine Own.g_goto X0 hx (hb hby d11_97) 101 (by decide) ?_
                            refine Own.g_ret X0 hx hret hlocks rfl (Or.inl ⟨rfl, by simp, _, rfl⟩) (hb hby d11_101) (by decide) (by decide) e0 ?_
                            exact ⟨by rw [if_pos (by simp [okP, spP, ag0, bg0, ag1, ag2, eqq0, eqq1, eqq2, eqq3, eqq4, eqq5, eqq6, eqq7, eqq8])], N0, rfl⟩
        · intro ag2
          refine Own.g_iloadN X0 hx (hb hby d11_34) rfl 35 rfl ?_
          refine Own.g_bipush X0 hx (57 : Int32) (hb hby d11_35) rfl 37 rfl ?_
          refine Own.g_icmp_gt X0 hx (hb hby d11_37) 42 40 (by decide) rfl ?_ ?_
          · intro bg2
            refine Own.g_iloadN X0 hx (hb hby d11_42) rfl 43 rfl ?_
            refine Own.g_bipush X0 hx (33 : Int32) (hb hby d11_43) rfl 45 rfl ?_
            refine Own.g_icmp_eq X0 hx (hb hby d11_45) 96 48 (by decide) rfl ?_ ?_
            · intro eqq0
              refine Own.g_iconst X0 hx (1 : Int32) (hb hby d11_96) rfl 97 rfl ?_
              refine Own.g_goto X0 hx (hb hby d11_97) 101 (by decide) ?_
              refine Own.g_ret X0 hx hret hlocks rfl (Or.inl ⟨rfl, by simp, _, rfl⟩) (hb hby d11_101) (by decide) (by decide) e0 ?_
              exact ⟨by rw [if_pos (by simp [okP, spP, ag0, bg0, ag1, ag2, bg2, eqq0])], N0, rfl⟩
            · intro eqq0
              refine Own.g_iloadN X0 hx (hb hby d11_48) rfl 49 rfl ?_
              refine Own.g_bipush X0 hx (39 : Int32) (hb hby d11_49) rfl 51 rfl ?_
              refine Own.g_icmp_eq X0 hx (hb hby d11_51) 96 54 (by decide) rfl ?_ ?_
              · intro eqq1
                refine Own.g_iconst X0 hx (1 : Int32) (hb hby d11_96) rfl 97 rfl ?_
                refine Own.g_goto X0 hx (hb hby d11_97) 101 (by decide) ?_
                refine Own.g_ret X0 hx hret hlocks rfl (Or.inl ⟨rfl, by simp, _, rfl⟩) (hb hby d11_101) (by decide) (by decide) e0 ?_
                exact ⟨by rw [if_pos (by simp [okP, spP, ag0, bg0, ag1, ag2, bg2, eqq0, eqq1])], N0, rfl⟩
              · intro eqq1
                refine Own.g_iloadN X0 hx (hb hby d11_54) rfl 55 rfl ?_
                refine Own.g_bipush X0 hx (40 : Int32) (hb hby d11_55) rfl 57 rfl ?_
                refine Own.g_icmp_eq X0 hx (hb hby d11_57) 96 60 (by decide) rfl ?_ ?_
                · intro eqq2
                  refine Own.g_iconst X0 hx (1 : Int32) (hb hby d11_96) rfl 97 rfl ?_
                  refine Own.g_goto X0 hx (hb hby d11_97) 101 (by decide) ?_
                  refine Own.g_ret X0 hx hret hlocks rfl (Or.inl ⟨rfl, by simp, _, rfl⟩) (hb hby d11_101) (by decide) (by decide) e0 ?_
                  exact ⟨by rw [if_pos (by simp [okP, spP, ag0, bg0, ag1, ag2, bg2, eqq0, eqq1, eqq2])], N0, rfl⟩
                · intro eqq2
                  refine Own.g_iloadN X0 hx (hb hby d11_60) rfl 61 rfl ?_
                  refine Own.g_bipush X0 hx (41 : Int32) (hb hby d11_61) rfl 63 rfl ?_
                  refine Own.g_icmp_eq X0 hx (hb hby d11_63) 96 66 (by decide) rfl ?_ ?_
                  · intro eqq3
                    refine Own.g_iconst X0 hx (1 : Int32) (hb hby d11_96) rfl 97 rfl ?_
                    refine Own.g_goto X0 hx (hb hby d11_97) 101 (by decide) ?_
                    refine Own.g_ret X0 hx hret hlocks rfl (Or.inl ⟨rfl, by simp, _, rfl⟩) (hb hby d11_101) (by decide) (by decide) e0 ?_
                    exact ⟨by rw [if_pos (by simp [okP, spP, ag0, bg0, ag1, ag2, bg2, eqq0, eqq1, eqq2, eqq3])], N0, rfl⟩
                  · intro eqq3
                    refine Own.g_iloadN X0 hx (hb hby d11_66) rfl 67 rfl ?_
                    refine Own.g_bipush X0 hx (42 : Int32) (hb hby d11_67) rfl 69 rfl ?_
                    refine Own.g_icmp_eq X0 hx (hb hby d11_69) 96 72 (by decide) rfl ?_ ?_
                    · intro eqq4
                      refine Own.g_iconst X0 hx (1 : Int32) (hb hby d11_96) rfl 97 rfl ?_
                      refine Own.g_goto X0 hx (hb hby d11_97) 101 (by decide) ?_
                      refine Own.g_ret X0 hx hret hlocks rfl (Or.inl ⟨rfl, by simp, _, rfl⟩) (hb hby d11_101) (by decide) (by decide) e0 ?_
                      exact ⟨by rw [if_pos (by simp [okP, spP, ag0, bg0, ag1, ag2, bg2, eqq0, eqq1, eqq2, eqq3, eqq4])], N0, rfl⟩
                    · intro eqq4
                      refine Own.g_iloadN X0 hx (hb hby d11_72) rfl 73 rfl ?_
                      refine Own.g_bipush X0 hx (45 : Int32) (hb hby d11_73) rfl 75 rfl ?_
                      refine Own.g_icmp_eq X0 hx (hb hby d11_75) 96 78 (by decide) rfl ?_ ?_
                      · intro eqq5
                        refine Own.g_iconst X0 hx (1 : Int32) (hb hby d11_96) rfl 97 rfl ?_
                        refine Own.g_goto X0 hx (hb hby d11_97) 101 (by decide) ?_
                        refine Own.g_ret X0 hx hret hlocks rfl (Or.inl ⟨rfl, by simp, _, rfl⟩) (hb hby d11_101) (by decide) (by decide) e0 ?_
                        exact ⟨by rw [if_pos (by simp [okP, spP, ag0, bg0, ag1, ag2, bg2, eqq0, eqq1, eqq2, eqq3, eqq4, eqq5])], N0, rfl⟩
                      · intro eqq5
                        refine Own.g_iloadN X0 hx (hb hby d11_78) rfl 79 rfl ?_
                        refine Own.g_bipush X0 hx (46 : Int32) (hb hby d11_79) rfl 81 rfl ?_
                        refine Own.g_icmp_eq X0 hx (hb hby d11_81) 96 84 (by decide) rfl ?_ ?_
                        · intro eqq6
                          refine Own.g_iconst X0 hx (1 : Int32) (hb hby d11_96) rfl 97 rfl ?_
                          refine Own.g_goto X0 hx (hb hby d11_97) 101 (by decide) ?_
                          refine Own.g_ret X0 hx hret hlocks rfl (Or.inl ⟨rfl, by simp, _, rfl⟩) (hb hby d11_101) (by decide) (by decide) e0 ?_
                          exact ⟨by rw [if_pos (by simp [okP, spP, ag0, bg0, ag1, ag2, bg2, eqq0, eqq1, eqq2, eqq3, eqq4, eqq5, eqq6])], N0, rfl⟩
                        · intro eqq6
                          refine Own.g_iloadN X0 hx (hb hby d11_84) rfl 85 rfl ?_
                          refine Own.g_bipush X0 hx (95 : Int32) (hb hby d11_85) rfl 87 rfl ?_
                          refine Own.g_icmp_eq X0 hx (hb hby d11_87) 96 90 (by decide) rfl ?_ ?_
                          · intro eqq7
                            refine Own.g_iconst X0 hx (1 : Int32) (hb hby d11_96) rfl 97 rfl ?_
                            refine Own.g_goto X0 hx (hb hby d11_97) 101 (by decide) ?_
                            refine Own.g_ret X0 hx hret hlocks rfl (Or.inl ⟨rfl, by simp, _, rfl⟩) (hb hby d11_101) (by decide) (by decide) e0 ?_
                            exact ⟨by rw [if_pos (by simp [okP, spP, ag0, bg0, ag1, ag2, bg2, eqq0, eqq1, eqq2, eqq3, eqq4, eqq5, eqq6, eqq7])], N0, rfl⟩
                          · intro eqq7
                            refine Own.g_iloadN X0 hx (hb hby d11_90) rfl 91 rfl ?_
                            refine Own.g_bipush X0 hx (126 : Int32) (hb hby d11_91) rfl 93 rfl ?_
                            refine Own.g_icmp_ne X0 hx (hb hby d11_93) 100 96 (by decide) rfl ?_ ?_
                            · intro eqq8
                              refine Own.g_iconst X0 hx (0 : Int32) (hb hby d11_100) rfl 101 rfl ?_
                              refine Own.g_ret X0 hx hret hlocks rfl (Or.inl ⟨rfl, by simp, _, rfl⟩) (hb hby d11_101) (by decide) (by decide) e0 ?_
                              exact ⟨by rw [if_neg (by simp [okP, spP, ag0, bg0, ag1, ag2, bg2, eqq0, eqq1, eqq2, eqq3, eqq4, eqq5, eqq6, eqq7, eqq8])], N0, rfl⟩
                            · intro eqq8
                              refine Own.g_iconst X0 hx (1 : Int32) (hb hby d11_96) rfl 97 rfl ?_
                              refine Own.g_goto X0 hx (hb hby d11_97) 101 (by decide) ?_
                              refine Own.g_ret X0 hx hret hlocks rfl (Or.inl ⟨rfl, by simp, _, rfl⟩) (hb hby d11_101) (by decide) (by decide) e0 ?_
                              exact ⟨by rw [if_pos (by simp [okP, spP, ag0, bg0, ag1, ag2, bg2, eqq0, eqq1, eqq2, eqq3, eqq4, eqq5, eqq6, eqq7, eqq8])], N0, rfl⟩
          · intro bg2
            refine Own.g_iconst X0 hx (1 : Int32) (hb hby d11_40) rfl 41 rfl ?_
            refine Own.g_ret X0 hx hret hlocks rfl (Or.inl ⟨rfl, by simp, _, rfl⟩) (hb hby d11_41) (by decide) (by decide) e0 ?_
            exact ⟨by rw [if_pos (by simp [okP, spP, ag0, bg0, ag1, ag2, bg2])], N0, rfl⟩
      · intro ag1
        refine Own.g_iloadN X0 hx (hb hby d11_20) rfl 21 rfl ?_
        refine Own.g_bipush X0 hx (122 : Int32) (hb hby d11_21) rfl 23 rfl ?_
        refine Own.g_icmp_gt X0 hx (hb hby d11_23) 28 26 (by decide) rfl ?_ ?_
        · intro bg1
          refine Own.g_iloadN X0 hx (hb hby d11_28) rfl 29 rfl ?_
          refine Own.g_bipush X0 hx (48 : Int32) (hb hby d11_29) rfl 31 rfl ?_
          refine Own.g_icmp_lt X0 hx (hb hby d11_31) 42 34 (by decide) rfl ?_ ?_
          · intro ag2
            refine Own.g_iloadN X0 hx (hb hby d11_42) rfl 43 rfl ?_
            refine Own.g_bipush X0 hx (33 : Int32) (hb hby d11_43) rfl 45 rfl ?_
            refine Own.g_icmp_eq X0 hx (hb hby d11_45) 96 48 (by decide) rfl ?_ ?_
            · intro eqq0
              refine Own.g_iconst X0 hx (1 : Int32) (hb hby d11_96) rfl 97 rfl ?_
              refine Own.g_goto X0 hx (hb hby d11_97) 101 (by decide) ?_
              refine Own.g_ret X0 hx hret hlocks rfl (Or.inl ⟨rfl, by simp, _, rfl⟩) (hb hby d11_101) (by decide) (by decide) e0 ?_
              exact ⟨by rw [if_pos (by simp [okP, spP, ag0, bg0, ag1, bg1, ag2, eqq0])], N0, rfl⟩
            · intro eqq0
              refine Own.g_iloadN X0 hx (hb hby d11_48) rfl 49 rfl ?_
              refine Own.g_bipush X0 hx (39 : Int32) (hb hby d11_49) rfl 51 rfl ?_
              refine Own.g_icmp_eq X0 hx (hb hby d11_51) 96 54 (by decide) rfl ?_ ?_
              · intro eqq1
                refine Own.g_iconst X0 hx (1 : Int32) (hb hby d11_96) rfl 97 rfl ?_
                refine Own.g_goto X0 hx (hb hby d11_97) 101 (by decide) ?_
                refine Own.g_ret X0 hx hret hlocks rfl (Or.inl ⟨rfl, by simp, _, rfl⟩) (hb hby d11_101) (by decide) (by decide) e0 ?_
                exact ⟨by rw [if_pos (by simp [okP, spP, ag0, bg0, ag1, bg1, ag2, eqq0, eqq1])], N0, rfl⟩
              · intro eqq1
                refine Own.g_iloadN X0 hx (hb hby d11_54) rfl 55 rfl ?_
                refine Own.g_bipush X0 hx (40 : Int32) (hb hby d11_55) rfl 57 rfl ?_
                refine Own.g_icmp_eq X0 hx (hb hby d11_57) 96 60 (by decide) rfl ?_ ?_
                · intro eqq2
                  refine Own.g_iconst X0 hx (1 : Int32) (hb hby d11_96) rfl 97 rfl ?_
                  refine Own.g_goto X0 hx (hb hby d11_97) 101 (by decide) ?_
                  refine Own.g_ret X0 hx hret hlocks rfl (Or.inl ⟨rfl, by simp, _, rfl⟩) (hb hby d11_101) (by decide) (by decide) e0 ?_
                  exact ⟨by rw [if_pos (by simp [okP, spP, ag0, bg0, ag1, bg1, ag2, eqq0, eqq1, eqq2])], N0, rfl⟩
                · intro eqq2
                  refine Own.g_iloadN X0 hx (hb hby d11_60) rfl 61 rfl ?_
                  refine Own.g_bipush X0 hx (41 : Int32) (hb hby d11_61) rfl 63 rfl ?_
                  refine Own.g_icmp_eq X0 hx (hb hby d11_63) 96 66 (by decide) rfl ?_ ?_
                  · intro eqq3
                    refine Own.g_iconst X0 hx (1 : Int32) (hb hby d11_96) rfl 97 rfl ?_
                    refine Own.g_goto X0 hx (hb hby d11_97) 101 (by decide) ?_
                    refine Own.g_ret X0 hx hret hlocks rfl (Or.inl ⟨rfl, by simp, _, rfl⟩) (hb hby d11_101) (by decide) (by decide) e0 ?_
                    exact ⟨by rw [if_pos (by simp [okP, spP, ag0, bg0, ag1, bg1, ag2, eqq0, eqq1, eqq2, eqq3])], N0, rfl⟩
                  · intro eqq3
                    refine Own.g_iloadN X0 hx (hb hby d11_66) rfl 67 rfl ?_
                    refine Own.g_bipush X0 hx (42 : Int32) (hb hby d11_67) rfl 69 rfl ?_
                    refine Own.g_icmp_eq X0 hx (hb hby d11_69) 96 72 (by decide) rfl ?_ ?_
                    · intro eqq4
                      refine Own.g_iconst X0 hx (1 : Int32) (hb hby d11_96) rfl 97 rfl ?_
                      refine Own.g_goto X0 hx (hb hby d11_97) 101 (by decide) ?_
                      refine Own.g_ret X0 hx hret hlocks rfl (Or.inl ⟨rfl, by simp, _, rfl⟩) (hb hby d11_101) (by decide) (by decide) e0 ?_
                      exact ⟨by rw [if_pos (by simp [okP, spP, ag0, bg0, ag1, bg1, ag2, eqq0, eqq1, eqq2, eqq3, eqq4])], N0, rfl⟩
                    · intro eqq4
                      refine Own.g_iloadN X0 hx (hb hby d11_72) rfl 73 rfl ?_
                      refine Own.g_bipush X0 hx (45 : Int32) (hb hby d11_73) rfl 75 rfl ?_
                      refine Own.g_icmp_eq X0 hx (hb hby d11_75) 96 78 (by decide) rfl ?_ ?_
                      · intro eqq5
                        refine Own.g_iconst X0 hx (1 : Int32) (hb hby d11_96) rfl 97 rfl ?_
                        refine Own.g_goto X0 hx (hb hby d11_97) 101 (by decide) ?_
                        refine Own.g_ret X0 hx hret hlocks rfl (Or.inl ⟨rfl, by simp, _, rfl⟩) (hb hby d11_101) (by decide) (by decide) e0 ?_
                        exact ⟨by rw [if_pos (by simp [okP, spP, ag0, bg0, ag1, bg1, ag2, eqq0, eqq1, eqq2, eqq3, eqq4, eqq5])], N0, rfl⟩
                      · intro eqq5
                        refine Own.g_iloadN X0 hx (hb hby d11_78) rfl 79 rfl ?_
                        refine Own.g_bipush X0 hx (46 : Int32) (hb hby d11_79) rfl 81 rfl ?_
                        refine Own.g_icmp_eq X0 hx (hb hby d11_81) 96 84 (by decide) rfl ?_ ?_
                        · intro eqq6
                          refine Own.g_iconst X0 hx (1 : Int32) (hb hby d11_96) rfl 97 rfl ?_
                          refine Own.g_goto X0 hx (hb hby d11_97) 101 (by decide) ?_
                          refine Own.g_ret X0 hx hret hlocks rfl (Or.inl ⟨rfl, by simp, _, rfl⟩) (hb hby d11_101) (by decide) (by decide) e0 ?_
                          exact ⟨by rw [if_pos (by simp [okP, spP, ag0, bg0, ag1, bg1, ag2, eqq0, eqq1, eqq2, eqq3, eqq4, eqq5, eqq6])], N0, rfl⟩
                        · intro eqq6
                          refine Own.g_iloadN X0 hx (hb hby d11_84) rfl 85 rfl ?_
                          refine Own.g_bipush X0 hx (95 : Int32) (hb hby d11_85) rfl 87 rfl ?_
                          refine Own.g_icmp_eq X0 hx (hb hby d11_87) 96 90 (by decide) rfl ?_ ?_
                          · intro eqq7
                            refine Own.g_iconst X0 hx (1 : Int32) (hb hby d11_96) rfl 97 rfl ?_
                            refine Own.g_goto X0 hx (hb hby d11_97) 101 (by decide) ?_
                            refine Own.g_ret X0 hx hret hlocks rfl (Or.inl ⟨rfl, by simp, _, rfl⟩) (hb hby d11_101) (by decide) (by decide) e0 ?_
                            exact ⟨by rw [if_pos (by simp [okP, spP, ag0, bg0, ag1, bg1, ag2, eqq0, eqq1, eqq2, eqq3, eqq4, eqq5, eqq6, eqq7])], N0, rfl⟩
                          · intro eqq7
                            refine Own.g_iloadN X0 hx (hb hby d11_90) rfl 91 rfl ?_
                            refine Own.g_bipush X0 hx (126 : Int32) (hb hby d11_91) rfl 93 rfl ?_
                            refine Own.g_icmp_ne X0 hx (hb hby d11_93) 100 96 (by decide) rfl ?_ ?_
                            · intro eqq8
                              refine Own.g_iconst X0 hx (0 : Int32) (hb hby d11_100) rfl 101 rfl ?_
                              refine Own.g_ret X0 hx hret hlocks rfl (Or.inl ⟨rfl, by simp, _, rfl⟩) (hb hby d11_101) (by decide) (by decide) e0 ?_
                              exact ⟨by rw [if_neg (by simp [okP, spP, ag0, bg0, ag1, bg1, ag2, eqq0, eqq1, eqq2, eqq3, eqq4, eqq5, eqq6, eqq7, eqq8])], N0, rfl⟩
                            · intro eqq8
                              refine Own.g_iconst X0 hx (1 : Int32) (hb hby d11_96) rfl 97 rfl ?_
                              refine Own.g_goto X0 hx (hb hby d11_97) 101 (by decide) ?_
                              refine Own.g_ret X0 hx hret hlocks rfl (Or.inl ⟨rfl, by simp, _, rfl⟩) (hb hby d11_101) (by decide) (by decide) e0 ?_
                              exact ⟨by rw [if_pos (by simp [okP, spP, ag0, bg0, ag1, bg1, ag2, eqq0, eqq1, eqq2, eqq3, eqq4, eqq5, eqq6, eqq7, eqq8])], N0, rfl⟩
          · intro ag2
            refine Own.g_iloadN X0 hx (hb hby d11_34) rfl 35 rfl ?_
            refine Own.g_bipush X0 hx (57 : Int32) (hb hby d11_35) rfl 37 rfl ?_
            refine Own.g_icmp_gt X0 hx (hb hby d11_37) 42 40 (by decide) rfl ?_ ?_
            · intro bg2
              refine Own.g_iloadN X0 hx (hb hby d11_42) rfl 43 rfl ?_
              refine Own.g_bipush X0 hx (33 : Int32) (hb hby d11_43) rfl 45 rfl ?_
              refine Own.g_icmp_eq X0 hx (hb hby d11_45) 96 48 (by decide) rfl ?_ ?_
              · intro eqq0
                refine Own.g_iconst X0 hx (1 : Int32) (hb hby d11_96) rfl 97 rfl ?_
                refine Own.g_goto X0 hx (hb hby d11_97) 101 (by decide) ?_
                refine Own.g_ret X0 hx hret hlocks rfl (Or.inl ⟨rfl, by simp, _, rfl⟩) (hb hby d11_101) (by decide) (by decide) e0 ?_
                exact ⟨by rw [if_pos (by simp [okP, spP, ag0, bg0, ag1, bg1, ag2, bg2, eqq0])], N0, rfl⟩
              · intro eqq0
                refine Own.g_iloadN X0 hx (hb hby d11_48) rfl 49 rfl ?_
                refine Own.g_bipush X0 hx (39 : Int32) (hb hby d11_49) rfl 51 rfl ?_
                refine Own.g_icmp_eq X0 hx (hb hby d11_51) 96 54 (by decide) rfl ?_ ?_
                · intro eqq1
                  refine Own.g_iconst X0 hx (1 : Int32) (hb hby d11_96) rfl 97 rfl ?_
                  refine Own.g_goto X0 hx (hb hby d11_97) 101 (by decide) ?_
                  refine Own.g_ret X0 hx hret hlocks rfl (Or.inl ⟨rfl, by simp, _, rfl⟩) (hb hby d11_101) (by decide) (by decide) e0 ?_
                  exact ⟨by rw [if_pos (by simp [okP, spP, ag0, bg0, ag1, bg1, ag2, bg2, eqq0, eqq1])], N0, rfl⟩
                · intro eqq1
                  refine Own.g_iloadN X0 hx (hb hby d11_54) rfl 55 rfl ?_
                  refine Own.g_bipush X0 hx (40 : Int32) (hb hby d11_55) rfl 57 rfl ?_
                  refine Own.g_icmp_eq X0 hx (hb hby d11_57) 96 60 (by decide) rfl ?_ ?_
                  · intro eqq2
                    refine Own.g_iconst X0 hx (1 : Int32) (hb hby d11_96) rfl 97 rfl ?_
                    refine Own.g_goto X0 hx (hb hby d11_97) 101 (by decide) ?_
                    refine Own.g_ret X0 hx hret hlocks rfl (Or.inl ⟨rfl, by simp, _, rfl⟩) (hb hby d11_101) (by decide) (by decide) e0 ?_
                    exact ⟨by rw [if_pos (by simp [okP, spP, ag0, bg0, ag1, bg1, ag2, bg2, eqq0, eqq1, eqq2])], N0, rfl⟩
                  · intro eqq2
                    refine Own.g_iloadN X0 hx (hb hby d11_60) rfl 61 rfl ?_
                    refine Own.g_bipush X0 hx (41 : Int32) (hb hby d11_61) rfl 63 rfl ?_
                    refine Own.g_icmp_eq X0 hx (hb hby d11_63) 96 66 (by decide) rfl ?_ ?_
                    · intro eqq3
                      refine Own.g_iconst X0 hx (1 : Int32) (hb hby d11_96) rfl 97 rfl ?_
                      refine Own.g_goto X0 hx (hb hby d11_97) 101 (by decide) ?_
                      refine Own.g_ret X0 hx hret hlocks rfl (Or.inl ⟨rfl, by simp, _, rfl⟩) (hb hby d11_101) (by decide) (by decide) e0 ?_
                      exact ⟨by rw [if_pos (by simp [okP, spP, ag0, bg0, ag1, bg1, ag2, bg2, eqq0, eqq1, eqq2, eqq3])], N0, rfl⟩
                    · intro eqq3
                      refine Own.g_iloadN X0 hx (hb hby d11_66) rfl 67 rfl ?_
                      refine Own.g_bipush X0 hx (42 : Int32) (hb hby d11_67) rfl 69 rfl ?_
                      refine Own.g_icmp_eq X0 hx (hb hby d11_69) 96 72 (by decide) rfl ?_ ?_
                      · intro eqq4
                        refine Own.g_iconst X0 hx (1 : Int32) (hb hby d11_96) rfl 97 rfl ?_
                        refine Own.g_goto X0 hx (hb hby d11_97) 101 (by decide) ?_
                        refine Own.g_ret X0 hx hret hlocks rfl (Or.inl ⟨rfl, by simp, _, rfl⟩) (hb hby d11_101) (by decide) (by decide) e0 ?_
                        exact ⟨by rw [if_pos (by simp [okP, spP, ag0, bg0, ag1, bg1, ag2, bg2, eqq0, eqq1, eqq2, eqq3, eqq4])], N0, rfl⟩
                      · intro eqq4
                        refine Own.g_iloadN X0 hx (hb hby d11_72) rfl 73 rfl ?_
                        refine Own.g_bipush X0 hx (45 : Int32) (hb hby d11_73) rfl 75 rfl ?_
                        refine Own.g_icmp_eq X0 hx (hb hby d11_75) 96 78 (by decide) rfl ?_ ?_
                        · intro eqq5
                          refine Own.g_iconst X0 hx (1 : Int32) (hb hby d11_96) rfl 97 rfl ?_
                          refine Own.g_goto X0 hx (hb hby d11_97) 101 (by decide) ?_
                          refine Own.g_ret X0 hx hret hlocks rfl (Or.inl ⟨rfl, by simp, _, rfl⟩) (hb hby d11_101) (by decide) (by decide) e0 ?_
                          exact ⟨by rw [if_pos (by simp [okP, spP, ag0, bg0, ag1, bg1, ag2, bg2, eqq0, eqq1, eqq2, eqq3, eqq4, eqq5])], N0, rfl⟩
                        · intro eqq5
                          refine Own.g_iloadN X0 hx (hb hby d11_78) rfl 79 rfl ?_
                          refine Own.g_bipush X0 hx (46 : Int32) (hb hby d11_79) rfl 81 rfl ?_
                          refine Own.g_icmp_eq X0 hx (hb hby d11_81) 96 84 (by decide) rfl ?_ ?_
                          · intro eqq6
                            refine Own.g_iconst X0 hx (1 : Int32) (hb hby d11_96) rfl 97 rfl ?_
                            refine Own.g_goto X0 hx (hb hby d11_97) 101 (by decide) ?_
                            refine Own.g_ret X0 hx hret hlocks rfl (Or.inl ⟨rfl, by simp, _, rfl⟩) (hb hby d11_101) (by decide) (by decide) e0 ?_
                            exact ⟨by rw [if_pos (by simp [okP, spP, ag0, bg0, ag1, bg1, ag2, bg2, eqq0, eqq1, eqq2, eqq3, eqq4, eqq5, eqq6])], N0, rfl⟩
                          · intro eqq6
                            refine Own.g_iloadN X0 hx (hb hby d11_84) rfl 85 rfl ?_
                            refine Own.g_bipush X0 hx (95 : Int32) (hb hby d11_85) rfl 87 rfl ?_
                            refine Own.g_icmp_eq X0 hx (hb hby d11_87) 96 90 (by decide) rfl ?_ ?_
                            · intro eqq7
                              refine Own.g_iconst X0 hx (1 : Int32) (hb hby d11_96) rfl 97 rfl ?_
                              refine Own.g_goto X0 hx (hb hby d11_97) 101 (by decide) ?_
                              refine Own.g_ret X0 hx hret hlocks rfl (Or.inl ⟨rfl, by simp, _, rfl⟩) (hb hby d11_101) (by decide) (by decide) e0 ?_
                              exact ⟨by rw [if_pos (by simp [okP, spP, ag0, bg0, ag1, bg1, ag2, bg2, eqq0, eqq1, eqq2, eqq3, eqq4, eqq5, eqq6, eqq7])], N0, rfl⟩
                            · intro eqq7
                              refine Own.g_iloadN X0 hx (hb hby d11_90) rfl 91 rfl ?_
                              refine Own.g_bipush X0 hx (126 : Int32) (hb hby d11_91) rfl 93 rfl ?_
                              refine Own.g_icmp_ne X0 hx (hb hby d11_93) 100 96 (by decide) rfl ?_ ?_
                              · intro eqq8
                                refine Own.g_iconst X0 hx (0 : Int32) (hb hby d11_100) rfl 101 rfl ?_
                                refine Own.g_ret X0 hx hret hlocks rfl (Or.inl ⟨rfl, by simp, _, rfl⟩) (hb hby d11_101) (by decide) (by decide) e0 ?_
                                exact ⟨by rw [if_neg (by simp [okP, spP, ag0, bg0, ag1, bg1, ag2, bg2, eqq0, eqq1, eqq2, eqq3, eqq4, eqq5, eqq6, eqq7, eqq8])], N0, rfl⟩
                              · intro eqq8
                                refine Own.g_iconst X0 hx (1 : Int32) (hb hby d11_96) rfl 97 rfl ?_
                                refine Own.g_goto X0 hx (hb hby d11_97) 101 (by decide) ?_
                                refine Own.g_ret X0 hx hret hlocks rfl (Or.inl ⟨rfl, by simp, _, rfl⟩) (hb hby d11_101) (by decide) (by decide) e0 ?_
                                exact ⟨by rw [if_pos (by simp [okP, spP, ag0, bg0, ag1, bg1, ag2, bg2, eqq0, eqq1, eqq2, eqq3, eqq4, eqq5, eqq6, eqq7, eqq8])], N0, rfl⟩
            · intro bg2
              refine Own.g_iconst X0 hx (1 : Int32) (hb hby d11_40) rfl 41 rfl ?_
              refine Own.g_ret X0 hx hret hlocks rfl (Or.inl ⟨rfl, by simp, _, rfl⟩) (hb hby d11_41) (by decide) (by decide) e0 ?_
              exact ⟨by rw [if_pos (by simp [okP, spP, ag0, bg0, ag1, bg1, ag2, bg2])], N0, rfl⟩
        · intro bg1
          refine Own.g_iconst X0 hx (1 : Int32) (hb hby d11_26) rfl 27 rfl ?_
          refine Own.g_ret X0 hx hret hlocks rfl (Or.inl ⟨rfl, by simp, _, rfl⟩) (hb hby d11_27) (by decide) (by decide) e0 ?_
          exact ⟨by rw [if_pos (by simp [okP, spP, ag0, bg0, ag1, bg1])], N0, rfl⟩
    · intro bg0
      refine Own.g_iconst X0 hx (1 : Int32) (hb hby d11_12) rfl 13 rfl ?_
      refine Own.g_ret X0 hx hret hlocks rfl (Or.inl ⟨rfl, by simp, _, rfl⟩) (hb hby d11_13) (by decide) (by decide) e0 ?_
      exact ⟨by rw [if_pos (by simp [okP, spP, ag0, bg0])], N0, rfl⟩
theorem ef_min (m : MethodId) (x0 : Int32) (x1 : Int32) : entryFrame m #[.int x0, .int x1] 2 = mkF m 0 #[.val (.int x0), .val (.int x1)] [] := by first | (simp [entryFrame, mkF, argsToLocals, Value.category]; done) | rfl
def Q_min (Z : State) (x1 : Int32) (x2 : Int32) (h0 : Heap) (n0 : Nat) (v : Option Value) (h : Heap) (L : List Loc) : Prop := v = some (.int (if x2 < x1 then x2 else x1)) ∧ Fr n0 L ∧ h = h0
set_option maxRecDepth 65536 in
set_option maxHeartbeats 40000000 in
theorem rm_min (l : Launch) (Z : State) (a0 : Array Value) (hw : ∀ d ∈ tables_1, d.before a0 Z = true) (ws : List Jvm.Cond) (x1 : Int32) (x2 : Int32) (h0 : Heap) (n0 : Nat) (O : Old Z n0 h0)  :
    MetFree l (⟨"java/lang/Math", "min", "(II)I"⟩ : MethodName) (head1 (Jvm.Cond.code (⟨"java/lang/Math", "min", "(II)I"⟩ : MethodName) jdk_29_method_69_code 2 (some .int) :: ws) ({ frames := 0, cells := 0, slots := 0, locals := 0 } : Room)) (fun aa U => aa = #[.int x1, .int x2] ∧ Z.Warmed39 U.vm ∧ U.heap = h0) (fun _ _ _ _ _ => True) (fun _ U o U' => Own.End U (Q_min Z x1 x2 h0 n0) 0 0 o U') := by
  refine MetFree.of_bodySF (Jvm.Free.JP.mathPlain rfl (by decide +kernel)) hisR ?_
  intro p e s m args below meth c s₁ Bd hml0 hP hK
  obtain ⟨rfl, hZ, hh⟩ := hP
  have hx := Bd.exec
  have hby := Bd.bytes
  have hml : c.maxLocals = 2 := hml0
  have hown : s.vm.findClass "java/lang/Math" = some m.cls := findClass_of_methodNamed Bd.named
  have hnm := (name_of_methodNamed Bd.named Bd.method).1
  have hret := Bd.returns
  have hlocks : meth.locks = false := Bd.notSynchronized
  have X0 : Stand p l e ({ frames := 0, cells := 0, slots := 0, locals := 0 } : Room) s m #[.int x1, .int x2] below meth c s₁ [] 0 0 := Stand.of_body Bd
  have e0 : s₁.heap = h0 := by rw [← hh, Bd.state]; rfl
  have N0 := Fr.nil n0
  show Own.Go p e below (Own.End s (Q_min Z x1 x2 h0 n0) 0 0) (s₁.setTop (entryFrame m #[.int x1, .int x2] 2))
  refine Own.Go.eq (ef_min m x1 x2) ?_
  refine Own.g_iloadN X0 hx (hb hby d22_0) rfl 1 rfl ?_
  refine Own.g_iloadN X0 hx (hb hby d22_1) rfl 2 rfl ?_
  refine Own.g_icmp_gt X0 hx (hb hby d22_2) 9 5 (by decide) rfl ?_ ?_
  · intro hc
    refine Own.g_iloadN X0 hx (hb hby d22_9) rfl 10 rfl ?_
    refine Own.g_ret X0 hx hret hlocks rfl (Or.inl ⟨rfl, by simp, _, rfl⟩) (hb hby d22_10) (by decide) (by decide) e0 ?_
    exact ⟨by rw [if_pos hc], N0, rfl⟩
  · intro hc
    refine Own.g_iloadN X0 hx (hb hby d22_5) rfl 6 rfl ?_
    refine Own.g_goto X0 hx (hb hby d22_6) 10 (by decide) ?_
    refine Own.g_ret X0 hx hret hlocks rfl (Or.inl ⟨rfl, by simp, _, rfl⟩) (hb hby d22_10) (by decide) (by decide) e0 ?_
    exact ⟨by rw [if_neg hc], N0, rfl⟩
theorem ef_max (m : MethodId) (x0 : Int32) (x1 : Int32) : entryFrame m #[.int x0, .int x1] 2 = mkF m 0 #[.val (.int x0), .val (.int x1)] [] := by first | (simp [entryFrame, mkF, argsToLocals, Value.category]; done) | rfl
def Q_max (Z : State) (x1 : Int32) (x2 : Int32) (h0 : Heap) (n0 : Nat) (v : Option Value) (h : Heap) (L : List Loc) : Prop := v = some (.int (if x1 < x2 then x2 else x1)) ∧ Fr n0 L ∧ h = h0
set_option maxRecDepth 65536 in
set_option maxHeartbeats 40000000 in
theorem rm_max (l : Launch) (Z : State) (a0 : Array Value) (hw : ∀ d ∈ tables_1, d.before a0 Z = true) (ws : List Jvm.Cond) (x1 : Int32) (x2 : Int32) (h0 : Heap) (n0 : Nat) (O : Old Z n0 h0)  :
    MetFree l (⟨"java/lang/Math", "max", "(II)I"⟩ : MethodName) (head1 (Jvm.Cond.code (⟨"java/lang/Math", "max", "(II)I"⟩ : MethodName) jdk_29_method_65_code 2 (some .int) :: ws) ({ frames := 0, cells := 0, slots := 0, locals := 0 } : Room)) (fun aa U => aa = #[.int x1, .int x2] ∧ Z.Warmed39 U.vm ∧ U.heap = h0) (fun _ _ _ _ _ => True) (fun _ U o U' => Own.End U (Q_max Z x1 x2 h0 n0) 0 0 o U') := by
  refine MetFree.of_bodySF (Jvm.Free.JP.mathPlain rfl (by decide +kernel)) hisR ?_
  intro p e s m args below meth c s₁ Bd hml0 hP hK
  obtain ⟨rfl, hZ, hh⟩ := hP
  have hx := Bd.exec
  have hby := Bd.bytes
  have hml : c.maxLocals = 2 := hml0
  have hown : s.vm.findClass "java/lang/Math" = some m.cls := findClass_of_methodNamed Bd.named
  have hnm := (name_of_methodNamed Bd.named Bd.method).1
  have hret := Bd.returns
  have hlocks : meth.locks = false := Bd.notSynchronized
  have X0 : Stand p l e ({ frames := 0, cells := 0, slots := 0, locals := 0 } : Room) s m #[.int x1, .int x2] below meth c s₁ [] 0 0 := Stand.of_body Bd
  have e0 : s₁.heap = h0 := by rw [← hh, Bd.state]; rfl
  have N0 := Fr.nil n0
  show Own.Go p e below (Own.End s (Q_max Z x1 x2 h0 n0) 0 0) (s₁.setTop (entryFrame m #[.int x1, .int x2] 2))
  refine Own.Go.eq (ef_max m x1 x2) ?_
  refine Own.g_iloadN X0 hx (hb hby d21_0) rfl 1 rfl ?_
  refine Own.g_iloadN X0 hx (hb hby d21_1) rfl 2 rfl ?_
  refine Own.g_icmp_lt X0 hx (hb hby d21_2) 9 5 (by decide) rfl ?_ ?_
  · intro hc
    refine Own.g_iloadN X0 hx (hb hby d21_9) rfl 10 rfl ?_
    refine Own.g_ret X0 hx hret hlocks rfl (Or.inl ⟨rfl, by simp, _, rfl⟩) (hb hby d21_10) (by decide) (by decide) e0 ?_
    exact ⟨by rw [if_pos hc], N0, rfl⟩
  · intro hc
    refine Own.g_iloadN X0 hx (hb hby d21_5) rfl 6 rfl ?_
    refine Own.g_goto X0 hx (hb hby d21_6) 10 (by decide) ?_
    refine Own.g_ret X0 hx hret hlocks rfl (Or.inl ⟨rfl, by simp, _, rfl⟩) (hb hby d21_10) (by decide) (by decide) e0 ?_
    exact ⟨by rw [if_neg hc], N0, rfl⟩
theorem ef_cei (m : MethodId) (x0 : Int32) : entryFrame m #[.int x0] 1 = mkF m 0 #[.val (.int x0)] [] := by first | (simp [entryFrame, mkF, argsToLocals, Value.category]; done) | rfl
def Q_cei (Z : State) (x1 : Int32) (h0 : Heap) (n0 : Nat) (v : Option Value) (h : Heap) (L : List Loc) : Prop := v = some (.int 1) ∧ Fr n0 L ∧ h = h0
set_option maxRecDepth 65536 in
set_option maxHeartbeats 40000000 in
theorem rm_cei (l : Launch) (Z : State) (a0 : Array Value) (hw : ∀ d ∈ tables_1, d.before a0 Z = true) (ws : List Jvm.Cond) (x1 : Int32) (h0 : Heap) (n0 : Nat) (O : Old Z n0 h0) (hlx : Own.Lat x1) :
    MetFree l (⟨"java/lang/StringLatin1", "canEncode", "(I)Z"⟩ : MethodName) (head1 (Jvm.Cond.code (⟨"java/lang/StringLatin1", "canEncode", "(I)Z"⟩ : MethodName) jdk_43_method_4_code 1 (some .boolean) :: ws) ({ frames := 0, cells := 0, slots := 0, locals := 0 } : Room)) (fun aa U => aa = #[.int x1] ∧ Z.Warmed39 U.vm ∧ U.heap = h0) (fun _ _ _ _ _ => True) (fun _ U o U' => Own.End U (Q_cei Z x1 h0 n0) 0 0 o U') := by
  refine MetFree.of_bodySF (plainFor_of_name pn_2) hisR ?_
  intro p e s m args below meth c s₁ Bd hml0 hP hK
  obtain ⟨rfl, hZ, hh⟩ := hP
  have hx := Bd.exec
  have hby := Bd.bytes
  have hml : c.maxLocals = 1 := hml0
  have hown : s.vm.findClass "java/lang/StringLatin1" = some m.cls := findClass_of_methodNamed Bd.named
  have hnm := (name_of_methodNamed Bd.named Bd.method).1
  have hret := Bd.returns
  have hlocks : meth.locks = false := Bd.notSynchronized
  have X0 : Stand p l e ({ frames := 0, cells := 0, slots := 0, locals := 0 } : Room) s m #[.int x1] below meth c s₁ [] 0 0 := Stand.of_body Bd
  have e0 : s₁.heap = h0 := by rw [← hh, Bd.state]; rfl
  have N0 := Fr.nil n0
  show Own.Go p e below (Own.End s (Q_cei Z x1 h0 n0) 0 0) (s₁.setTop (entryFrame m #[.int x1] 1))
  refine Own.Go.eq (ef_cei m x1) ?_
  refine Own.g_iloadN X0 hx (hb hby d20_0) rfl 1 rfl ?_
  refine Own.g_if_lt_f X0 hx (hb hby d20_1) hlx.1 4 rfl ?_
  refine Own.g_iloadN X0 hx (hb hby d20_4) rfl 5 rfl ?_
  refine Own.g_sipush X0 hx (255 : Int32) (hb hby d20_5) rfl 8 rfl ?_
  refine Own.g_icmp_gt_f X0 hx (hb hby d20_8) hlx.2 11 rfl ?_
  refine Own.g_iconst X0 hx (1 : Int32) (hb hby d20_11) rfl 12 rfl ?_
  refine Own.g_goto X0 hx (hb hby d20_12) 16 (by decide) ?_
  refine Own.g_ret X0 hx hret hlocks rfl (Or.inl ⟨rfl, by simp, _, rfl⟩) (hb hby d20_16) (by decide) (by decide) e0 ?_
  exact ⟨rfl, N0, rfl⟩
theorem ef_l1c (m : MethodId) (x0 : Addr) (x1 : Int32) (x2 : Int32) (x3 : Int32) : entryFrame m #[.ref x0, .int x1, .int x2, .int x3] 6 = mkF m 0 #[.val (.ref x0), .val (.int x1), .val (.int x2), .val (.int x3), .unset, .unset] [] := by first | (simp [entryFrame, mkF, argsToLocals, Value.category]; done) | rfl
def Q_l1c (Z : State) (t : Addr) (k : ClassId) (x : Int32) (h0 : Heap) (n0 : Nat) (v : Option Value) (h : Heap) (L : List Loc) : Prop := ∃ r : Int32, v = some (.int r) ∧ (r < 0 ↔ ¬ spP x) ∧ Fr n0 L ∧ h = h0
set_option maxRecDepth 65536 in
set_option maxHeartbeats 40000000 in
theorem rm_l1c (l : Launch) (Z : State) (a0 : Array Value) (hw : ∀ d ∈ tables_1, d.before a0 Z = true) (ws : List Jvm.Cond) (t : Addr) (k : ClassId) (x : Int32) (h0 : Heap) (n0 : Nat) (O : Old Z n0 h0) (hlx : Own.Lat x) (V_t : Arv Z h0 t k .byte 9 ((SPL.map fun c => c.toInt8.toInt32).map Value.int) (.int 0)) :
    MetFree l (⟨"java/lang/StringLatin1", "indexOfChar", "([BIII)I"⟩ : MethodName) (head1 (Jvm.Cond.code (⟨"java/lang/StringLatin1", "indexOfChar", "([BIII)I"⟩ : MethodName) jdk_43_method_23_code 6 (some .int) :: ws) ({ frames := 0, cells := 0, slots := 0, locals := 0 } : Room)) (fun aa U => aa = #[.ref t, .int x, .int (0 : Int32), .int (9 : Int32)] ∧ Z.Warmed39 U.vm ∧ U.heap = h0) (fun _ _ _ _ _ => True) (fun _ U o U' => Own.End U (Q_l1c Z t k x h0 n0) 0 0 o U') := by
  refine MetFree.of_bodySF (plainFor_of_name pn_2) hisR ?_
  intro p e s m args below meth c s₁ Bd hml0 hP hK
  obtain ⟨rfl, hZ, hh⟩ := hP
  have hx := Bd.exec
  have hby := Bd.bytes
  have hml : c.maxLocals = 6 := hml0
  have hown : s.vm.findClass "java/lang/StringLatin1" = some m.cls := findClass_of_methodNamed Bd.named
  have hnm := (name_of_methodNamed Bd.named Bd.method).1
  have hret := Bd.returns
  have hlocks : meth.locks = false := Bd.notSynchronized
  have X0 : Stand p l e ({ frames := 0, cells := 0, slots := 0, locals := 0 } : Room) s m #[.ref t, .int x, .int (0 : Int32), .int (9 : Int32)] below meth c s₁ [] 0 0 := Stand.of_body Bd
  have e0 : s₁.heap = h0 := by rw [← hh, Bd.state]; rfl
  have N0 := Fr.nil n0
  show Own.Go p e below (Own.End s (Q_l1c Z t k x h0 n0) 0 0) (s₁.setTop (entryFrame m #[.ref t, .int x, .int (0 : Int32), .int (9 : Int32)] 6))
  refine Own.Go.eq (ef_l1c m t x (0 : Int32) (9 : Int32)) ?_
  refine Own.g_iloadN X0 hx (hb hby d23_0) rfl 1 rfl ?_
  refine Own.g_i2b X0 hx (hb hby d23_1) 2 rfl ?_
  refine Own.g_istore X0 hx #[.val (.ref t), .val (.int x), .val (.int (0 : Int32)), .val (.int (9 : Int32)), .val (.int (x.toInt8.toInt32)), .unset] (hb hby d23_2) rfl 4 rfl ?_
  refine Own.g_iloadN X0 hx (hb hby d23_4) rfl 5 rfl ?_
  refine Own.g_istore X0 hx #[.val (.ref t), .val (.int x), .val (.int (0 : Int32)), .val (.int (9 : Int32)), .val (.int (x.toInt8.toInt32)), .val (.int (0 : Int32))] (hb hby d23_5) rfl 7 rfl ?_
  refine Own.g_iload X0 hx (hb hby d23_7) rfl 9 rfl ?_
  refine Own.g_iloadN X0 hx (hb hby d23_9) rfl 10 rfl ?_
  refine Own.g_icmp_ge_f X0 hx (hb hby d23_10) (by decide) 13 rfl ?_
  refine Own.g_aloadN X0 hx (hb hby d23_13) rfl rfl 14 rfl ?_
  refine Own.g_iload X0 hx (hb hby d23_14) rfl 16 rfl ?_
  refine Own.g_ldB X0 hx hZ e0 V_t (by decide) (45 : Int32) rfl (hb hby d23_16) 17 rfl ?_
  refine Own.g_iload X0 hx (hb hby d23_17) rfl 19 rfl ?_
  refine Own.g_icmp_ne X0 hx (hb hby d23_19) 25 22 (by decide) rfl ?_ ?_
  · intro eqq0
    replace eqq0 : ¬ x = 45 := fun q => eqq0 ((i8_eq hlx).1.mpr q)
    refine Own.g_iinc X0 hx #[.val (.ref t), .val (.int x), .val (.int (0 : Int32)), .val (.int (9 : Int32)), .val (.int (x.toInt8.toInt32)), .val (.int (1 : Int32))] (hb hby d23_25) rfl rfl 28 rfl ?_
    refine Own.g_goto X0 hx (hb hby d23_28) 7 (by decide) ?_
    refine Own.g_iload X0 hx (hb hby d23_7) rfl 9 rfl ?_
    refine Own.g_iloadN X0 hx (hb hby d23_9) rfl 10 rfl ?_
    refine Own.g_icmp_ge_f X0 hx (hb hby d23_10) (by decide) 13 rfl ?_
    refine Own.g_aloadN X0 hx (hb hby d23_13) rfl rfl 14 rfl ?_
    refine Own.g_iload X0 hx (hb hby d23_14) rfl 16 rfl ?_
    refine Own.g_ldB X0 hx hZ e0 V_t (by decide) (95 : Int32) rfl (hb hby d23_16) 17 rfl ?_
    refine Own.g_iload X0 hx (hb hby d23_17) rfl 19 rfl ?_
    refine Own.g_icmp_ne X0 hx (hb hby d23_19) 25 22 (by decide) rfl ?_ ?_
    · intro eqq1
      replace eqq1 : ¬ x = 95 := fun q => eqq1 ((i8_eq hlx).2.1.mpr q)
      refine Own.g_iinc X0 hx #[.val (.ref t), .val (.int x), .val (.int (0 : Int32)), .val (.int (9 : Int32)), .val (.int (x.toInt8.toInt32)), .val (.int (2 : Int32))] (hb hby d23_25) rfl rfl 28 rfl ?_
      refine Own.g_goto X0 hx (hb hby d23_28) 7 (by decide) ?_
      refine Own.g_iload X0 hx (hb hby d23_7) rfl 9 rfl ?_
      refine Own.g_iloadN X0 hx (hb hby d23_9) rfl 10 rfl ?_
      refine Own.g_icmp_ge_f X0 hx (hb hby d23_10) (by decide) 13 rfl ?_
      refine Own.g_aloadN X0 hx (hb hby d23_13) rfl rfl 14 rfl ?_
      refine Own.g_iload X0 hx (hb hby d23_14) rfl 16 rfl ?_
      refine Own.g_ldB X0 hx hZ e0 V_t (by decide) (46 : Int32) rfl (hb hby d23_16) 17 rfl ?_
      refine Own.g_iload X0 hx (hb hby d23_17) rfl 19 rfl ?_
      refine Own.g_icmp_ne X0 hx (hb hby d23_19) 25 22 (by decide) rfl ?_ ?_
      · intro eqq2
        replace eqq2 : ¬ x = 46 := fun q => eqq2 ((i8_eq hlx).2.2.1.mpr q)
        refine Own.g_iinc X0 hx #[.val (.ref t), .val (.int x), .val (.int (0 : Int32)), .val (.int (9 : Int32)), .val (.int (x.toInt8.toInt32)), .val (.int (3 : Int32))] (hb hby d23_25) rfl rfl 28 rfl ?_
        refine Own.g_goto X0 hx (hb hby d23_28) 7 (by decide) ?_
        refine Own.g_iload X0 hx (hb hby d23_7) rfl 9 rfl ?_
        refine Own.g_iloadN X0 hx (hb hby d23_9) rfl 10 rfl ?_
        refine Own.g_icmp_ge_f X0 hx (hb hby d23_10) (by decide) 13 rfl ?_
        refine Own.g_aloadN X0 hx (hb hby d23_13) rfl rfl 14 rfl ?_
        refine Own.g_iload X0 hx (hb hby d23_14) rfl 16 rfl ?_
        refine Own.g_ldB X0 hx hZ e0 V_t (by decide) (33 : Int32) rfl (hb hby d23_16) 17 rfl ?_
        refine Own.g_iload X0 hx (hb hby d23_17) rfl 19 rfl ?_
        refine Own.g_icmp_ne X0 hx (hb hby d23_19) 25 22 (by decide) rfl ?_ ?_
        · intro eqq3
          replace eqq3 : ¬ x = 33 := fun q => eqq3 ((i8_eq hlx).2.2.2.1.mpr q)
          refine Own.g_iinc X0 hx #[.val (.ref t), .val (.int x), .val (.int (0 : Int32)), .val (.int (9 : Int32)), .val (.int (x.toInt8.toInt32)), .val (.int (4 : Int32))] (hb hby d23_25) rfl rfl 28 rfl ?_
          refine Own.g_goto X0 hx (hb hby d23_28) 7 (by decide) ?_
          refine Own.g_iload X0 hx (hb hby d23_7) rfl 9 rfl ?_
          refine Own.g_iloadN X0 hx (hb hby d23_9) rfl 10 rfl ?_
          refine Own.g_icmp_ge_f X0 hx (hb hby d23_10) (by decide) 13 rfl ?_
          refine Own.g_aloadN X0 hx (hb hby d23_13) rfl rfl 14 rfl ?_
          refine Own.g_iload X0 hx (hb hby d23_14) rfl 16 rfl ?_
          refine Own.g_ldB X0 hx hZ e0 V_t (by decide) (126 : Int32) rfl (hb hby d23_16) 17 rfl ?_
          refine Own.g_iload X0 hx (hb hby d23_17) rfl 19 rfl ?_
          refine Own.g_icmp_ne X0 hx (hb hby d23_19) 25 22 (by decide) rfl ?_ ?_
          · intro eqq4
            replace eqq4 : ¬ x = 126 := fun q => eqq4 ((i8_eq hlx).2.2.2.2.1.mpr q)
            refine Own.g_iinc X0 hx #[.val (.ref t), .val (.int x), .val (.int (0 : Int32)), .val (.int (9 : Int32)), .val (.int (x.toInt8.toInt32)), .val (.int (5 : Int32))] (hb hby d23_25) rfl rfl 28 rfl ?_
            refine Own.g_goto X0 hx (hb hby d23_28) 7 (by decide) ?_
            refine Own.g_iload X0 hx (hb hby d23_7) rfl 9 rfl ?_
            refine Own.g_iloadN X0 hx (hb hby d23_9) rfl 10 rfl ?_
            refine Own.g_icmp_ge_f X0 hx (hb hby d23_10) (by decide) 13 rfl ?_
            refine Own.g_aloadN X0 hx (hb hby d23_13) rfl rfl 14 rfl ?_
            refine Own.g_iload X0 hx (hb hby d23_14) rfl 16 rfl ?_
            refine Own.g_ldB X0 hx hZ e0 V_t (by decide) (42 : Int32) rfl (hb hby d23_16) 17 rfl ?_
            refine Own.g_iload X0 hx (hb hby d23_17) rfl 19 rfl ?_
            refine Own.g_icmp_ne X0 hx (hb hby d23_19) 25 22 (by decide) rfl ?_ ?_
            · intro eqq5
              replace eqq5 : ¬ x = 42 := fun q => eqq5 ((i8_eq hlx).2.2.2.2.2.1.mpr q)
              refine Own.g_iinc X0 hx #[.val (.ref t), .val (.int x), .val (.int (0 : Int32)), .val (.int (9 : Int32)), .val (.int (x.toInt8.toInt32)), .val (.int (6 : Int32))] (hb hby d23_25) rfl rfl 28 rfl ?_
              refine Own.g_goto X0 hx (hb hby d23_28) 7 (by decide) ?_
              refine Own.g_iload X0 hx (hb hby d23_7) rfl 9 rfl ?_
              refine Own.g_iloadN X0 hx (hb hby d23_9) rfl 10 rfl ?_
              refine Own.g_icmp_ge_f X0 hx (hb hby d23_10) (by decide) 13 rfl ?_
              refine Own.g_aloadN X0 hx (hb hby d23_13) rfl rfl 14 rfl ?_
              refine Own.g_iload X0 hx (hb hby d23_14) rfl 16 rfl ?_
              refine Own.g_ldB X0 hx hZ e0 V_t (by decide) (39 : Int32) rfl (hb hby d23_16) 17 rfl ?_
              refine Own.g_iload X0 hx (hb hby d23_17) rfl 19 rfl ?_
              refine Own.g_icmp_ne X0 hx (hb hby d23_19) 25 22 (by decide) rfl ?_ ?_
              · intro eqq6
                replace eqq6 : ¬ x = 39 := fun q => eqq6 ((i8_eq hlx).2.2.2.2.2.2.1.mpr q)
                refine Own.g_iinc X0 hx #[.val (.ref t), .val (.int x), .val (.int (0 : Int32)), .val (.int (9 : Int32)), .val (.int (x.toInt8.toInt32)), .val (.int (7 : Int32))] (hb hby d23_25) rfl rfl 28 rfl ?_
                refine Own.g_goto X0 hx (hb hby d23_28) 7 (by decide) ?_
                refine Own.g_iload X0 hx (hb hby d23_7) rfl 9 rfl ?_
                refine Own.g_iloadN X0 hx (hb hby d23_9) rfl 10 rfl ?_
                refine Own.g_icmp_ge_f X0 hx (hb hby d23_10) (by decide) 13 rfl ?_
                refine Own.g_aloadN X0 hx (hb hby d23_13) rfl rfl 14 rfl ?_
                refine Own.g_iload X0 hx (hb hby d23_14) rfl 16 rfl ?_
                refine Own.g_ldB X0 hx hZ e0 V_t (by decide) (40 : Int32) rfl (hb hby d23_16) 17 rfl ?_
                refine Own.g_iload X0 hx (hb hby d23_17) rfl 19 rfl ?_
                refine Own.g_icmp_ne X0 hx (hb hby d23_19) 25 22 (by decide) rfl ?_ ?_
                · intro eqq7
                  replace eqq7 : ¬ x = 40 := fun q => eqq7 ((i8_eq hlx).2.2.2.2.2.2.2.1.mpr q)
                  refine Own.g_iinc X0 hx #[.val (.ref t), .val (.int x), .val (.int (0 : Int32)), .val (.int (9 : Int32)), .val (.int (x.toInt8.toInt32)), .val (.int (8 : Int32))] (hb hby d23_25) rfl rfl 28 rfl ?_
                  refine Own.g_goto X0 hx (hb hby d23_28) 7 (by decide) ?_
                  refine Own.g_iload X0 hx (hb hby d23_7) rfl 9 rfl ?_
                  refine Own.g_iloadN X0 hx (hb hby d23_9) rfl 10 rfl ?_
                  refine Own.g_icmp_ge_f X0 hx (hb hby d23_10) (by decide) 13 rfl ?_
                  refine Own.g_aloadN X0 hx (hb hby d23_13) rfl rfl 14 rfl ?_
                  refine Own.g_iload X0 hx (hb hby d23_14) rfl 16 rfl ?_
                  refine Own.g_ldB X0 hx hZ e0 V_t (by decide) (41 : Int32) rfl (hb hby d23_16) 17 rfl ?_
                  refine Own.g_iload X0 hx (hb hby d23_17) rfl 19 rfl ?_
                  refine Own.g_icmp_ne X0 hx (hb hby d23_19) 25 22 (by decide) rfl ?_ ?_
                  · intro eqq8
                    replace eqq8 : ¬ x = 41 := fun q => eqq8 ((i8_eq hlx).2.2.2.2.2.2.2.2.mpr q)
                    refine Own.g_iinc X0 hx #[.val (.ref t), .val (.int x), .val (.int (0 : Int32)), .val (.int (9 : Int32)), .val (.int (x.toInt8.toInt32)), .val (.int (9 : Int32))] (hb hby d23_25) rfl rfl 28 rfl ?_
                    refine Own.g_goto X0 hx (hb hby d23_28) 7 (by decide) ?_
                    refine Own.g_iload X0 hx (hb hby d23_7) rfl 9 rfl ?_
                    refine Own.g_iloadN X0 hx (hb hby d23_9) rfl 10 rfl ?_
                    refine Own.g_icmp_ge_t X0 hx (hb hby d23_10) (by decide) 31 (by decide) ?_
                    refine Own.g_iconst X0 hx (-1 : Int32) (hb hby d23_31) rfl 32 rfl ?_
                    refine Own.g_ret X0 hx hret hlocks rfl (Or.inl ⟨rfl, by simp, _, rfl⟩) (hb hby d23_32) (by decide) (by decide) e0 ?_
                    exact ⟨_, rfl, ⟨fun _ => by simp [spP, eqq0, eqq1, eqq2, eqq3, eqq4, eqq5, eqq6, eqq7, eqq8], fun _ => by decide⟩, N0, rfl⟩
                  · intro eqq8
                    replace eqq8 : x = 41 := (i8_eq hlx).2.2.2.2.2.2.2.2.mp eqq8
                    refine Own.g_iload X0 hx (hb hby d23_22) rfl 24 rfl ?_
                    refine Own.g_ret X0 hx hret hlocks rfl (Or.inl ⟨rfl, by simp, _, rfl⟩) (hb hby d23_24) (by decide) (by decide) e0 ?_
                    exact ⟨_, rfl, ⟨fun q => absurd q (by decide), fun q => absurd (show spP x by simp [spP, eqq8]) q⟩, N0, rfl⟩
                · intro eqq7
                  replace eqq7 : x = 40 := (i8_eq hlx).2.2.2.2.2.2.2.1.mp eqq7
                  refine Own.g_iload X0 hx (hb hby d23_22) rfl 24 rfl ?_
                  refine Own.g_ret X0 hx hret hlocks rfl (Or.inl ⟨rfl, by simp, _, rfl⟩) (hb hby d23_24) (by decide) (by decide) e0 ?_
                  exact ⟨_, rfl, ⟨fun q => absurd q (by decide), fun q => absurd (show spP x by simp [spP, eqq7]) q⟩, N0, rfl⟩
              · intro eqq6
                replace eqq6 : x = 39 := (i8_eq hlx).2.2.2.2.2.2.1.mp eqq6
                refine Own.g_iload X0 hx (hb hby d23_22) rfl 24 rfl ?_
                refine Own.g_ret X0 hx hret hlocks rfl (Or.inl ⟨rfl, by simp, _, rfl⟩) (hb hby d23_24) (by decide) (by decide) e0 ?_
                exact ⟨_, rfl, ⟨fun q => absurd q (by decide), fun q => absurd (show spP x by simp [spP, eqq6]) q⟩, N0, rfl⟩
            · intro eqq5
              replace eqq5 : x = 42 := (i8_eq hlx).2.2.2.2.2.1.mp eqq5
              refine Own.g_iload X0 hx (hb hby d23_22) rfl 24 rfl ?_
              refine Own.g_ret X0 hx hret hlocks rfl (Or.inl ⟨rfl, by simp, _, rfl⟩) (hb hby d23_24) (by decide) (by decide) e0 ?_
              exact ⟨_, rfl, ⟨fun q => absurd q (by decide), fun q => absurd (show spP x by simp [spP, eqq5]) q⟩, N0, rfl⟩
          · intro eqq4
            replace eqq4 : x = 126 := (i8_eq hlx).2.2.2.2.1.mp eqq4
            refine Own.g_iload X0 hx (hb hby d23_22) rfl 24 rfl ?_
            refine Own.g_ret X0 hx hret hlocks rfl (Or.inl ⟨rfl, by simp, _, rfl⟩) (hb hby d23_24) (by decide) (by decide) e0 ?_
            exact ⟨_, rfl, ⟨fun q => absurd q (by decide), fun q => absurd (show spP x by simp [spP, eqq4]) q⟩, N0, rfl⟩
        · intro eqq3
          replace eqq3 : x = 33 := (i8_eq hlx).2.2.2.1.mp eqq3
          refine Own.g_iload X0 hx (hb hby d23_22) rfl 24 rfl ?_
          refine Own.g_ret X0 hx hret hlocks rfl (Or.inl ⟨rfl, by simp, _, rfl⟩) (hb hby d23_24) (by decide) (by decide) e0 ?_
          exact ⟨_, rfl, ⟨fun q => absurd q (by decide), fun q => absurd (show spP x by simp [spP, eqq3]) q⟩, N0, rfl⟩
      · intro eqq2
        replace eqq2 : x = 46 := (i8_eq hlx).2.2.1.mp eqq2
        refine Own.g_iload X0 hx (hb hby d23_22) rfl 24 rfl ?_
        refine Own.g_ret X0 hx hret hlocks rfl (Or.inl ⟨rfl, by simp, _, rfl⟩) (hb hby d23_24) (by decide) (by decide) e0 ?_
        exact ⟨_, rfl, ⟨fun q => absurd q (by decide), fun q => absurd (show spP x by simp [spP, eqq2]) q⟩, N0, rfl⟩
    · intro eqq1
      replace eqq1 : x = 95 := (i8_eq hlx).2.1.mp eqq1
      refine Own.g_iload X0 hx (hb hby d23_22) rfl 24 rfl ?_
      refine Own.g_ret X0 hx hret hlocks rfl (Or.inl ⟨rfl, by simp, _, rfl⟩) (hb hby d23_24) (by decide) (by decide) e0 ?_
      exact ⟨_, rfl, ⟨fun q => absurd q (by decide), fun q => absurd (show spP x by simp [spP, eqq1]) q⟩, N0, rfl⟩
  · intro eqq0
    replace eqq0 : x = 45 := (i8_eq hlx).1.mp eqq0
    refine Own.g_iload X0 hx (hb hby d23_22) rfl 24 rfl ?_
    refine Own.g_ret X0 hx hret hlocks rfl (Or.inl ⟨rfl, by simp, _, rfl⟩) (hb hby d23_24) (by decide) (by decide) e0 ?_
    exact ⟨_, rfl, ⟨fun q => absurd q (by decide), fun q => absurd (show spP x by simp [spP, eqq0]) q⟩, N0, rfl⟩
theorem ef_l1x (m : MethodId) (x0 : Addr) (x1 : Int32) (x2 : Int32) (x3 : Int32) : entryFrame m #[.ref x0, .int x1, .int x2, .int x3] 4 = mkF m 0 #[.val (.ref x0), .val (.int x1), .val (.int x2), .val (.int x3)] [] := by first | (simp [entryFrame, mkF, argsToLocals, Value.category]; done) | rfl
def Q_l1x (Z : State) (t : Addr) (k : ClassId) (x : Int32) (h0 : Heap) (n0 : Nat) (v : Option Value) (h : Heap) (L : List Loc) : Prop := ∃ r : Int32, v = some (.int r) ∧ (r < 0 ↔ ¬ spP x) ∧ Fr n0 L ∧ h = h0
set_option maxRecDepth 65536 in
set_option maxHeartbeats 40000000 in
theorem rm_l1x (l : Launch) (Z : State) (a0 : Array Value) (hw : ∀ d ∈ tables_1, d.before a0 Z = true) (ws : List Jvm.Cond) (t : Addr) (k : ClassId) (x : Int32) (h0 : Heap) (n0 : Nat) (O : Old Z n0 h0) (hlx : Own.Lat x) (V_t : Arv Z h0 t k .byte 9 ((SPL.map fun c => c.toInt8.toInt32).map Value.int) (.int 0)) :
    MetFree l (⟨"java/lang/StringLatin1", "indexOf", "([BIII)I"⟩ : MethodName) (head1 (Jvm.Cond.code (⟨"java/lang/StringLatin1", "indexOf", "([BIII)I"⟩ : MethodName) jdk_43_method_22_code 4 (some .int) :: ws) ({ frames := 1, cells := 0, slots := 0, locals := 17 } : Room)) (fun aa U => aa = #[.ref t, .int x, .int (0 : Int32), .int (9 : Int32)] ∧ Z.Warmed39 U.vm ∧ U.heap = h0) (fun _ _ _ _ _ => True) (fun _ U o U' => Own.End U (Q_l1x Z t k x h0 n0) 0 0 o U') := by
  refine MetFree.of_bodySF (plainFor_of_name pn_2) hisR ?_
  intro p e s m args below meth c s₁ Bd hml0 hP hK
  obtain ⟨rfl, hZ, hh⟩ := hP
  have hx := Bd.exec
  have hby := Bd.bytes
  have hml : c.maxLocals = 4 := hml0
  have hown : s.vm.findClass "java/lang/StringLatin1" = some m.cls := findClass_of_methodNamed Bd.named
  have hnm := (name_of_methodNamed Bd.named Bd.method).1
  have hret := Bd.returns
  have hlocks : meth.locks = false := Bd.notSynchronized
  have X0 : Stand p l e ({ frames := 1, cells := 0, slots := 0, locals := 17 } : Room) s m #[.ref t, .int x, .int (0 : Int32), .int (9 : Int32)] below meth c s₁ [] 0 0 := Stand.of_body Bd
  have e0 : s₁.heap = h0 := by rw [← hh, Bd.state]; rfl
  have N0 := Fr.nil n0
  show Own.Go p e below (Own.End s (Q_l1x Z t k x h0 n0) 0 0) (s₁.setTop (entryFrame m #[.ref t, .int x, .int (0 : Int32), .int (9 : Int32)] 4))
  refine Own.Go.eq (ef_l1x m t x (0 : Int32) (9 : Int32)) ?_
  refine Own.g_iloadN X0 hx (hb hby d19_0) rfl 1 rfl ?_
  refine Own.g_callS X0 hx (y := (⟨"java/lang/StringLatin1", "canEncode", "(I)Z"⟩ : MethodName)) hown (mvT hZ (hw _ (List.mem_of_getElem? (i := 92) rfl))) (mvT hZ (hw _ (List.mem_of_getElem? (i := 93) rfl))) (mvT hZ (hw _ (List.mem_of_getElem? (i := 67) rfl))) (mvT hZ (hw _ (List.mem_of_getElem? (i := 94) rfl))) (by decide) [.int x] (Own.back (W := 0) (rm_cei l Z a0 hw [] x h0 n0 O hlx) hZ (hw _ (List.mem_of_getElem? (i := 94) rfl)) (hw _ (List.mem_of_getElem? (i := 67) rfl)) (by decide) (by decide)) e0 (by rw [hml]; rfl) [] (lenOf pd_1 rfl) rfl (Nat.le_of_ble_eq_true rfl) (hb hby d19_1) (by decide) (by decide) 4 rfl ?_
  rintro _ T1 L1 X1 ⟨rfl, N1q, eH1⟩
  have N1 := Fr.app N0 N1q
  show Own.Go p e below _ (T1.setTop (mkF m 4 #[.val (.ref t), .val (.int x), .val (.int (0 : Int32)), .val (.int (9 : Int32))] [(.int (1 : Int32))]))
  refine Own.g_if_ne_t X1 hx (hb hby d19_4) (by decide) 9 (by decide) ?_
  refine Own.g_iloadN X1 hx (hb hby d19_9) rfl 10 rfl ?_
  refine Own.g_iconst X1 hx (0 : Int32) (hb hby d19_10) rfl 11 rfl ?_
  refine Own.g_callS X1 hx (y := (⟨"java/lang/Math", "max", "(II)I"⟩ : MethodName)) hown (mvT hZ (hw _ (List.mem_of_getElem? (i := 95) rfl))) (mvT hZ (hw _ (List.mem_of_getElem? (i := 96) rfl))) (mvT hZ (hw _ (List.mem_of_getElem? (i := 97) rfl))) (mvT hZ (hw _ (List.mem_of_getElem? (i := 98) rfl))) (by decide) [.int (0 : Int32), .int (0 : Int32)] (Own.back (W := 0) (rm_max l Z a0 hw [] (0 : Int32) (0 : Int32) h0 n0 O ) hZ (hw _ (List.mem_of_getElem? (i := 98) rfl)) (hw _ (List.mem_of_getElem? (i := 97) rfl)) (by decide) (by decide)) eH1 (by rw [hml]; rfl) [] (lenOf pd_2 rfl) rfl (Nat.le_of_ble_eq_true rfl) (hb hby d19_11) (by decide) (by decide) 14 rfl ?_
  rintro _ T2 L2 X2 ⟨rfl, N2q, eH2⟩
  have N2 := Fr.app N1 N2q
  rw [if_neg (by decide : ¬ (0 : Int32) < (0 : Int32))]
  show Own.Go p e below _ (T2.setTop (mkF m 14 #[.val (.ref t), .val (.int x), .val (.int (0 : Int32)), .val (.int (9 : Int32))] [(.int (0 : Int32))]))
  refine Own.g_istoreN X2 hx #[.val (.ref t), .val (.int x), .val (.int (0 : Int32)), .val (.int (9 : Int32))] (hb hby d19_14) rfl 15 rfl ?_
  refine Own.g_iloadN X2 hx (hb hby d19_15) rfl 16 rfl ?_
  refine Own.g_aloadN X2 hx (hb hby d19_16) rfl rfl 17 rfl ?_
  refine Own.g_alen X2 hx hZ eH2 V_t (hb hby d19_17) 18 rfl ?_
  refine Own.g_callS X2 hx (y := (⟨"java/lang/Math", "min", "(II)I"⟩ : MethodName)) hown (mvT hZ (hw _ (List.mem_of_getElem? (i := 99) rfl))) (mvT hZ (hw _ (List.mem_of_getElem? (i := 100) rfl))) (mvT hZ (hw _ (List.mem_of_getElem? (i := 97) rfl))) (mvT hZ (hw _ (List.mem_of_getElem? (i := 101) rfl))) (by decide) [.int (9 : Int32), .int (9 : Int32)] (Own.back (W := 0) (rm_min l Z a0 hw [] (9 : Int32) (9 : Int32) h0 n0 O ) hZ (hw _ (List.mem_of_getElem? (i := 101) rfl)) (hw _ (List.mem_of_getElem? (i := 97) rfl)) (by decide) (by decide)) eH2 (by rw [hml]; rfl) [] (lenOf pd_2 rfl) rfl (Nat.le_of_ble_eq_true rfl) (hb hby d19_18) (by decide) (by decide) 21 rfl ?_
  rintro _ T3 L3 X3 ⟨rfl, N3q, eH3⟩
  have N3 := Fr.app N2 N3q
  rw [if_neg (by decide : ¬ (9 : Int32) < (9 : Int32))]
  show Own.Go p e below _ (T3.setTop (mkF m 21 #[.val (.ref t), .val (.int x), .val (.int (0 : Int32)), .val (.int (9 : Int32))] [(.int (9 : Int32))]))
  refine Own.g_istoreN X3 hx #[.val (.ref t), .val (.int x), .val (.int (0 : Int32)), .val (.int (9 : Int32))] (hb hby d19_21) rfl 22 rfl ?_
  refine Own.g_iloadN X3 hx (hb hby d19_22) rfl 23 rfl ?_
  refine Own.g_iloadN X3 hx (hb hby d19_23) rfl 24 rfl ?_
  refine Own.g_icmp_lt_t X3 hx (hb hby d19_24) (by decide) 29 (by decide) ?_
  refine Own.g_aloadN X3 hx (hb hby d19_29) rfl rfl 30 rfl ?_
  refine Own.g_iloadN X3 hx (hb hby d19_30) rfl 31 rfl ?_
  refine Own.g_iloadN X3 hx (hb hby d19_31) rfl 32 rfl ?_
  refine Own.g_iloadN X3 hx (hb hby d19_32) rfl 33 rfl ?_
  refine Own.g_callS X3 hx (y := (⟨"java/lang/StringLatin1", "indexOfChar", "([BIII)I"⟩ : MethodName)) hown (mvT hZ (hw _ (List.mem_of_getElem? (i := 102) rfl))) (mvT hZ (hw _ (List.mem_of_getElem? (i := 103) rfl))) (mvT hZ (hw _ (List.mem_of_getElem? (i := 67) rfl))) (mvT hZ (hw _ (List.mem_of_getElem? (i := 104) rfl))) (by decide) [.ref t, .int x, .int (0 : Int32), .int (9 : Int32)] (Own.back (W := 0) (rm_l1c l Z a0 hw [] t k x h0 n0 O hlx V_t) hZ (hw _ (List.mem_of_getElem? (i := 104) rfl)) (hw _ (List.mem_of_getElem? (i := 67) rfl)) (by decide) (by decide)) eH3 (by rw [hml]; rfl) [] (lenOf pd_3 rfl) rfl (Nat.le_of_ble_eq_true rfl) (hb hby d19_33) (by decide) (by decide) 36 rfl ?_
  rintro _ T4 L4 X4 ⟨r4, rfl, hr4, N4q, eH4⟩
  have N4 := Fr.app N3 N4q
  show Own.Go p e below _ (T4.setTop (mkF m 36 #[.val (.ref t), .val (.int x), .val (.int (0 : Int32)), .val (.int (9 : Int32))] [(.int r4)]))
  refine Own.g_ret X4 hx hret hlocks rfl (Or.inl ⟨rfl, by simp, _, rfl⟩) (hb hby d19_36) (by decide) (by decide) eH4 ?_
  exact ⟨_, rfl, hr4, N4, rfl⟩
theorem ef_isl (m : MethodId) (x0 : Addr) : entryFrame m #[.ref x0] 1 = mkF m 0 #[.val (.ref x0)] [] := by first | (simp [entryFrame, mkF, argsToLocals, Value.category]; done) | rfl
def Q_isl (Z : State) (b : Addr) (G1 : Int32) (h0 : Heap) (n0 : Nat) (v : Option Value) (h : Heap) (L : List Loc) : Prop := v = some (.int 1) ∧ Fr n0 L ∧ h = h0
set_option maxRecDepth 65536 in
set_option maxHeartbeats 40000000 in
theorem rm_isl (l : Launch) (Z : State) (a0 : Array Value) (hw : ∀ d ∈ tables_1, d.before a0 Z = true) (ws : List Jvm.Cond) (b : Addr) (G1 : Int32) (h0 : Heap) (n0 : Nat) (O : Old Z n0 h0) (O2 : Sta Z Z.heap "java/lang/String" "COMPACT_STRINGS" "Z" (.int G1)) (P5 : ¬ (G1 = (0 : Int32))) (F_b_coder : Fld Z h0 b "java/lang/String" "coder" "B" (.int 0)) :
    MetFree l (⟨"java/lang/String", "isLatin1", "()Z"⟩ : MethodName) (head1 (Jvm.Cond.code (⟨"java/lang/String", "isLatin1", "()Z"⟩ : MethodName) jdk_42_method_154_code 1 (some .boolean) :: ws) ({ frames := 0, cells := 0, slots := 0, locals := 0 } : Room)) (fun aa U => aa = #[.ref b] ∧ Z.Warmed39 U.vm ∧ U.heap = h0) (fun _ _ _ _ _ => True) (fun _ U o U' => Own.End U (Q_isl Z b G1 h0 n0) 0 0 o U') := by
  refine MetFree.of_bodySF (plainFor_of_name pn_0) hisR ?_
  intro p e s m args below meth c s₁ Bd hml0 hP hK
  obtain ⟨rfl, hZ, hh⟩ := hP
  have hx := Bd.exec
  have hby := Bd.bytes
  have hml : c.maxLocals = 1 := hml0
  have hown : s.vm.findClass "java/lang/String" = some m.cls := findClass_of_methodNamed Bd.named
  have hnm := (name_of_methodNamed Bd.named Bd.method).1
  have hret := Bd.returns
  have hlocks : meth.locks = false := Bd.notSynchronized
  have X0 : Stand p l e ({ frames := 0, cells := 0, slots := 0, locals := 0 } : Room) s m #[.ref b] below meth c s₁ [] 0 0 := Stand.of_body Bd
  have e0 : s₁.heap = h0 := by rw [← hh, Bd.state]; rfl
  have N0 := Fr.nil n0
  show Own.Go p e below (Own.End s (Q_isl Z b G1 h0 n0) 0 0) (s₁.setTop (entryFrame m #[.ref b] 1))
  refine Own.Go.eq (ef_isl m b) ?_
  refine Own.g_getS X0 hx hZ hown (host := "") (Or.inl (hw _ (List.mem_of_getElem? (i := 37) rfl))) Via.refl e0 (O2.ext O.2) (hb hby d13_0) 3 rfl ?_
  intro T1 X1 e1
  refine Own.g_if_eq_f X1 hx (hb hby d13_3) P5 6 rfl ?_
  refine Own.g_aloadN X1 hx (hb hby d13_6) rfl rfl 7 rfl ?_
  refine Own.g_getF X1 hx hZ hown (host := "") (Or.inl (hw _ (List.mem_of_getElem? (i := 22) rfl))) Via.refl e1 F_b_coder (hb hby d13_7) 10 rfl ?_
  intro T2 X2 e2
  refine Own.g_if_ne_f X2 hx (hb hby d13_10) rfl 13 rfl ?_
  refine Own.g_iconst X2 hx (1 : Int32) (hb hby d13_13) rfl 14 rfl ?_
  refine Own.g_goto X2 hx (hb hby d13_14) 18 (by decide) ?_
  refine Own.g_ret X2 hx hret hlocks rfl (Or.inl ⟨rfl, by simp, _, rfl⟩) (hb hby d13_18) (by decide) (by decide) e2 ?_
  exact ⟨rfl, N0, rfl⟩
theorem ef_ix2 (m : MethodId) (x0 : Addr) (x1 : Int32) (x2 : Int32) : entryFrame m #[.ref x0, .int x1, .int x2] 3 = mkF m 0 #[.val (.ref x0), .val (.int x1), .val (.int x2)] [] := by first | (simp [entryFrame, mkF, argsToLocals, Value.category]; done) | rfl
def Q_ix2 (Z : State) (b : Addr) (t : Addr) (k : ClassId) (x : Int32) (G1 : Int32) (h0 : Heap) (n0 : Nat) (v : Option Value) (h : Heap) (L : List Loc) : Prop := ∃ r : Int32, v = some (.int r) ∧ (r < 0 ↔ ¬ spP x) ∧ Fr n0 L ∧ h = h0
set_option maxRecDepth 65536 in
set_option maxHeartbeats 40000000 in
theorem rm_ix2 (l : Launch) (Z : State) (a0 : Array Value) (hw : ∀ d ∈ tables_1, d.before a0 Z = true) (ws : List Jvm.Cond) (b : Addr) (t : Addr) (k : ClassId) (x : Int32) (G1 : Int32) (h0 : Heap) (n0 : Nat) (O : Old Z n0 h0) (hlx : Own.Lat x) (O2 : Sta Z Z.heap "java/lang/String" "COMPACT_STRINGS" "Z" (.int G1)) (P5 : ¬ (G1 = (0 : Int32))) (E_b : Exa Z h0 b "java/lang/String") (F_b_value : Fld Z h0 b "java/lang/String" "value" "[B" (.ref t)) (F_b_coder : Fld Z h0 b "java/lang/String" "coder" "B" (.int 0)) (V_t : Arv Z h0 t k .byte (Int32.ofNat (SPL).length) (((SPL).map fun c => c.toInt8.toInt32).map Value.int) (.int 0)) :
    MetFree l (⟨"java/lang/String", "indexOf", "(II)I"⟩ : MethodName) (head1 (Jvm.Cond.code (⟨"java/lang/String", "indexOf", "(II)I"⟩ : MethodName) jdk_42_method_80_code 3 (some .int) :: ws) ({ frames := 2, cells := 0, slots := 0, locals := 32 } : Room)) (fun aa U => aa = #[.ref b, .int x, .int (0 : Int32)] ∧ Z.Warmed39 U.vm ∧ U.heap = h0) (fun _ _ _ _ _ => True) (fun _ U o U' => Own.End U (Q_ix2 Z b t k x G1 h0 n0) 0 0 o U') := by
  refine MetFree.of_bodySF (plainFor_of_name pn_0) hisR ?_
  intro p e s m args below meth c s₁ Bd hml0 hP hK
  obtain ⟨rfl, hZ, hh⟩ := hP
  have hx := Bd.exec
  have hby := Bd.bytes
  have hml : c.maxLocals = 3 := hml0
  have hown : s.vm.findClass "java/lang/String" = some m.cls := findClass_of_methodNamed Bd.named
  have hnm := (name_of_methodNamed Bd.named Bd.method).1
  have hret := Bd.returns
  have hlocks : meth.locks = false := Bd.notSynchronized
  have X0 : Stand p l e ({ frames := 2, cells := 0, slots := 0, locals := 32 } : Room) s m #[.ref b, .int x, .int (0 : Int32)] below meth c s₁ [] 0 0 := Stand.of_body Bd
  have e0 : s₁.heap = h0 := by rw [← hh, Bd.state]; rfl
  have N0 := Fr.nil n0
  show Own.Go p e below (Own.End s (Q_ix2 Z b t k x G1 h0 n0) 0 0) (s₁.setTop (entryFrame m #[.ref b, .int x, .int (0 : Int32)] 3))
  refine Own.Go.eq (ef_ix2 m b x (0 : Int32)) ?_
  have hln : ∀ d ∈ StrChars.Road.wordsLen, d.before a0 Z = true := fun d hd => hw d ((by decide +kernel : ∀ d ∈ StrChars.Road.wordsLen, d ∈ tables_1) d hd)
  refine Own.g_aloadN X0 hx (hb hby d18_0) rfl rfl 1 rfl ?_
  refine Own.g_virtual X0 hx hZ (y := (⟨"java/lang/String", "isLatin1", "()Z"⟩ : MethodName)) (z := (⟨"java/lang/String", "isLatin1", "()Z"⟩ : MethodName)) hown (mvT hZ (hw _ (List.mem_of_getElem? (i := 60) rfl))) (mvT hZ (hw _ (List.mem_of_getElem? (i := 61) rfl))) (notFace_of_selects (args := #[]) (mvT hZ (hw _ (List.mem_of_getElem? (i := 63) rfl)))) (mvT hZ (hw _ (List.mem_of_getElem? (i := 63) rfl))) (mvT hZ (hw _ (List.mem_of_getElem? (i := 62) rfl))) (by decide) (a := b) [] (Own.back (W := 0) (rm_isl l Z a0 hw [] b G1 h0 n0 O O2 P5 F_b_coder) hZ (hw _ (List.mem_of_getElem? (i := 64) rfl)) (hw _ (List.mem_of_getElem? (i := 3) rfl)) (by decide) (by decide)) E_b e0 (by rw [hml]; rfl) [] (lenOf pd_4 rfl) rfl (Nat.le_of_ble_eq_true rfl) (hb hby d18_1) (by decide) (by decide) 4 rfl ?_
  rintro _ T1 L1 X1 ⟨rfl, N1q, eH1⟩
  have N1 := Fr.app N0 N1q
  show Own.Go p e below _ (T1.setTop (mkF m 4 #[.val (.ref b), .val (.int x), .val (.int (0 : Int32))] [(.int (1 : Int32))]))
  refine Own.g_if_eq_f X1 hx (hb hby d18_4) (by decide) 7 rfl ?_
  refine Own.g_aloadN X1 hx (hb hby d18_7) rfl rfl 8 rfl ?_
  refine Own.g_getF X1 hx hZ hown (host := "") (Or.inl (hw _ (List.mem_of_getElem? (i := 21) rfl))) Via.refl eH1 F_b_value (hb hby d18_8) 11 rfl ?_
  intro T2 X2 e2
  refine Own.g_iloadN X2 hx (hb hby d18_11) rfl 12 rfl ?_
  refine Own.g_iloadN X2 hx (hb hby d18_12) rfl 13 rfl ?_
  refine Own.g_aloadN X2 hx (hb hby d18_13) rfl rfl 14 rfl ?_
  refine Own.g_virtual X2 hx hZ (y := (⟨"java/lang/String", "length", "()I"⟩ : MethodName)) (z := (⟨"java/lang/String", "length", "()I"⟩ : MethodName)) hown (mvT hZ (hw _ (List.mem_of_getElem? (i := 88) rfl))) (mvT hZ (hw _ (List.mem_of_getElem? (i := 28) rfl))) (notFace_of_selects (args := #[]) (mvT hZ (hw _ (List.mem_of_getElem? (i := 30) rfl)))) (mvT hZ (hw _ (List.mem_of_getElem? (i := 30) rfl))) (mvT hZ (hw _ (List.mem_of_getElem? (i := 29) rfl))) (by decide) (a := b) [] (Q := (Own.QVal h0 (.int (9 : Int32)))) (StrChars.Road.lenW (W := 3) hZ hln (kI := 4) (hw _ (List.mem_of_getElem? (i := 2) rfl)) E_b F_b_value F_b_coder V_t (StrChars.Road.codOf rfl (fun c hc => (spl_lat.1 c hc).2)) (Own.lat_up spl_lat.1) (O2.ext O.2) P5 spl_lat.2 (by decide) (by decide)) E_b e2 (by rw [hml]; rfl) [(.int (0 : Int32)), (.int x), (.ref t)] (lenOf pd_5 rfl) rfl (Nat.le_of_ble_eq_true rfl) (hb hby d18_14) (by decide) (by decide) 17 rfl ?_
  rintro _ T3 L3 X3 ⟨rfl, rfl, eH3⟩
  have N3 := Fr.app N1 (Fr.nil n0)
  show Own.Go p e below _ (T3.setTop (mkF m 17 #[.val (.ref b), .val (.int x), .val (.int (0 : Int32))] [(.int (9 : Int32)), (.int (0 : Int32)), (.int x), (.ref t)]))
  refine Own.g_callS X3 hx (y := (⟨"java/lang/StringLatin1", "indexOf", "([BIII)I"⟩ : MethodName)) hown (mvT hZ (hw _ (List.mem_of_getElem? (i := 89) rfl))) (mvT hZ (hw _ (List.mem_of_getElem? (i := 90) rfl))) (mvT hZ (hw _ (List.mem_of_getElem? (i := 67) rfl))) (mvT hZ (hw _ (List.mem_of_getElem? (i := 91) rfl))) (by decide) [.ref t, .int x, .int (0 : Int32), .int (9 : Int32)] (Own.back (W := 0) (rm_l1x l Z a0 hw [] t k x h0 n0 O hlx V_t) hZ (hw _ (List.mem_of_getElem? (i := 91) rfl)) (hw _ (List.mem_of_getElem? (i := 67) rfl)) (by decide) (by decide)) eH3 (by rw [hml]; rfl) [] (lenOf pd_3 rfl) rfl (Nat.le_of_ble_eq_true rfl) (hb hby d18_17) (by decide) (by decide) 20 rfl ?_
  rintro _ T4 L4 X4 ⟨r4, rfl, hr4, N4q, eH4⟩
  have N4 := Fr.app N3 N4q
  show Own.Go p e below _ (T4.setTop (mkF m 20 #[.val (.ref b), .val (.int x), .val (.int (0 : Int32))] [(.int r4)]))
  refine Own.g_goto X4 hx (hb hby d18_20) 36 (by decide) ?_
  refine Own.g_ret X4 hx hret hlocks rfl (Or.inl ⟨rfl, by simp, _, rfl⟩) (hb hby d18_36) (by decide) (by decide) eH4 ?_
  exact ⟨_, rfl, hr4, N4, rfl⟩
theorem ef_ix1 (m : MethodId) (x0 : Addr) (x1 : Int32) : entryFrame m #[.ref x0, .int x1] 2 = mkF m 0 #[.val (.ref x0), .val (.int x1)] [] := by first | (simp [entryFrame, mkF, argsToLocals, Value.category]; done) | rfl
def Q_ix1 (Z : State) (b : Addr) (t : Addr) (k : ClassId) (x : Int32) (G1 : Int32) (h0 : Heap) (n0 : Nat) (v : Option Value) (h : Heap) (L : List Loc) : Prop := ∃ r : Int32, v = some (.int r) ∧ (r < 0 ↔ ¬ spP x) ∧ Fr n0 L ∧ h = h0
set_option maxRecDepth 65536 in
set_option maxHeartbeats 40000000 in
theorem rm_ix1 (l : Launch) (Z : State) (a0 : Array Value) (hw : ∀ d ∈ tables_1, d.before a0 Z = true) (ws : List Jvm.Cond) (b : Addr) (t : Addr) (k : ClassId) (x : Int32) (G1 : Int32) (h0 : Heap) (n0 : Nat) (O : Old Z n0 h0) (hlx : Own.Lat x) (O2 : Sta Z Z.heap "java/lang/String" "COMPACT_STRINGS" "Z" (.int G1)) (P5 : ¬ (G1 = (0 : Int32))) (E_b : Exa Z h0 b "java/lang/String") (F_b_value : Fld Z h0 b "java/lang/String" "value" "[B" (.ref t)) (F_b_coder : Fld Z h0 b "java/lang/String" "coder" "B" (.int 0)) (V_t : Arv Z h0 t k .byte (Int32.ofNat (SPL).length) (((SPL).map fun c => c.toInt8.toInt32).map Value.int) (.int 0)) :
    MetFree l (⟨"java/lang/String", "indexOf", "(I)I"⟩ : MethodName) (head1 (Jvm.Cond.code (⟨"java/lang/String", "indexOf", "(I)I"⟩ : MethodName) jdk_42_method_79_code 2 (some .int) :: ws) ({ frames := 3, cells := 0, slots := 0, locals := 46 } : Room)) (fun aa U => aa = #[.ref b, .int x] ∧ Z.Warmed39 U.vm ∧ U.heap = h0) (fun _ _ _ _ _ => True) (fun _ U o U' => Own.End U (Q_ix1 Z b t k x G1 h0 n0) 0 0 o U') := by
  refine MetFree.of_bodySF (plainFor_of_name pn_0) hisR ?_
  intro p e s m args below meth c s₁ Bd hml0 hP hK
  obtain ⟨rfl, hZ, hh⟩ := hP
  have hx := Bd.exec
  have hby := Bd.bytes
  have hml : c.maxLocals = 2 := hml0
  have hown : s.vm.findClass "java/lang/String" = some m.cls := findClass_of_methodNamed Bd.named
  have hnm := (name_of_methodNamed Bd.named Bd.method).1
  have hret := Bd.returns
  have hlocks : meth.locks = false := Bd.notSynchronized
  have X0 : Stand p l e ({ frames := 3, cells := 0, slots := 0, locals := 46 } : Room) s m #[.ref b, .int x] below meth c s₁ [] 0 0 := Stand.of_body Bd
  have e0 : s₁.heap = h0 := by rw [← hh, Bd.state]; rfl
  have N0 := Fr.nil n0
  show Own.Go p e below (Own.End s (Q_ix1 Z b t k x G1 h0 n0) 0 0) (s₁.setTop (entryFrame m #[.ref b, .int x] 2))
  refine Own.Go.eq (ef_ix1 m b x) ?_
  refine Own.g_aloadN X0 hx (hb hby d17_0) rfl rfl 1 rfl ?_
  refine Own.g_iloadN X0 hx (hb hby d17_1) rfl 2 rfl ?_
  refine Own.g_iconst X0 hx (0 : Int32) (hb hby d17_2) rfl 3 rfl ?_
  refine Own.g_virtual X0 hx hZ (y := (⟨"java/lang/String", "indexOf", "(II)I"⟩ : MethodName)) (z := (⟨"java/lang/String", "indexOf", "(II)I"⟩ : MethodName)) hown (mvT hZ (hw _ (List.mem_of_getElem? (i := 83) rfl))) (mvT hZ (hw _ (List.mem_of_getElem? (i := 84) rfl))) (notFace_of_selects (args := #[]) (mvT hZ (hw _ (List.mem_of_getElem? (i := 86) rfl)))) (mvT hZ (hw _ (List.mem_of_getElem? (i := 86) rfl))) (mvT hZ (hw _ (List.mem_of_getElem? (i := 85) rfl))) (by decide) (a := b) [.int x, .int (0 : Int32)] (Own.back (W := 0) (rm_ix2 l Z a0 hw [] b t k x G1 h0 n0 O hlx O2 P5 E_b F_b_value F_b_coder V_t) hZ (hw _ (List.mem_of_getElem? (i := 87) rfl)) (hw _ (List.mem_of_getElem? (i := 3) rfl)) (by decide) (by decide)) E_b e0 (by rw [hml]; rfl) [] (lenOf pd_2 rfl) rfl (Nat.le_of_ble_eq_true rfl) (hb hby d17_3) (by decide) (by decide) 6 rfl ?_
  rintro _ T1 L1 X1 ⟨r1, rfl, hr1, N1q, eH1⟩
  have N1 := Fr.app N0 N1q
  show Own.Go p e below _ (T1.setTop (mkF m 6 #[.val (.ref b), .val (.int x)] [(.int r1)]))
  refine Own.g_ret X1 hx hret hlocks rfl (Or.inl ⟨rfl, by simp, _, rfl⟩) (hb hby d17_6) (by decide) (by decide) eH1 ?_
  exact ⟨_, rfl, hr1, N1, rfl⟩
def Q_isn (Z : State) (b : Addr) (bt : Addr) (kb : ClassId) (cs : List Int32) (G1 : Int32) (G3 : Value) (h0 : Heap) (n0 : Nat) (v : Option Value) (h : Heap) (L : List Loc) : Prop := v = some (.int (if ¬ cs = [] ∧ ∀ c ∈ cs, okP c then 1 else 0)) ∧ Fr n0 L
theorem n4 {cs : List Int32} (h : cs.length ≤ 4) : (Int32.ofNat cs.length).toInt = cs.length := Int32.toInt_ofNat_of_lt (by omega)
theorem lt_n {cs : List Int32} (h : cs.length ≤ 4) {j : Int32} {i : Nat} (hj : j.toInt = i) : j < Int32.ofNat cs.length ↔ i < cs.length := by
  rw [Int32.lt_iff_toInt_lt, n4 h, hj]; omega
theorem getD_mem {cs : List Int32} {i : Nat} (h : i < cs.length) : cs.getD i 0 ∈ cs := by
  rw [List.getD_eq_getElem?_getD, List.getElem?_eq_getElem h]; exact List.getElem_mem h
theorem take_all {cs : List Int32} {i : Nat} (h : ¬ i < cs.length) (H : ∀ c ∈ cs.take i, okP c) : ∀ c ∈ cs, okP c := by
  rw [List.take_of_length_le (by omega)] at H; exact H
theorem take_snoc {cs : List Int32} {i : Nat} (h : i < cs.length) (H : ∀ c ∈ cs.take i, okP c) (hlx : okP (cs.getD i 0)) : ∀ c ∈ cs.take (i + 1), okP c := by
  intro c hc
  rw [List.take_succ_eq_append_getElem h] at hc
  rcases List.mem_append.mp hc with q | q
  · exact H c q
  · cases List.mem_singleton.mp q
    rw [List.getD_eq_getElem?_getD, List.getElem?_eq_getElem h] at hlx; exact hlx
theorem l4k {cs : List Int32} (h : cs.length ≤ 4) : cs.length ≤ 4000 := by omega
theorem nil_n {cs : List Int32} (h : cs.length ≤ 4) (q : (0 : Int32) = Int32.ofNat cs.length) : cs = [] := by
  have := congrArg Int32.toInt q
  rw [n4 h] at this
  exact List.length_eq_zero_iff.mp (by have e : (0 : Int32).toInt = 0 := rfl; omega)
theorem cons_n {cs : List Int32} (q : ¬ (0 : Int32) = Int32.ofNat cs.length) : ¬ cs = [] := fun z => q (by rw [z]; rfl)
set_option maxRecDepth 65536 in
set_option maxHeartbeats 40000000 in
theorem st_isn4 {p : Program} {l : Launch} {e : Env} {s : State} {m : MethodId} {args : Array Value} {below : List Frame} {meth : Method} {c : Code} {T0 : State} {locs : List Loc} {Z : State} {a0 : Array Value} {hh : Heap} {n0 : Nat}  {vm : Vm} {k0 : Nat} (hx : p.tables.exec = Jvm.exec) (hZ : Z.Warmed39 (s.setVm vm).vm) (hw : ∀ d ∈ tables_1, d.before a0 Z = true) (hby : c.code = prog_11_method_4_code) (hml : c.maxLocals = 6) (hown : (s.setVm vm).vm.findClass "com/example/bowerbird/bowerbird/model/Names" = some m.cls) (hret : meth.sig.returnType = (some .boolean)) (hlocks : meth.locks = false) (hEL : EW Z a0 EL) (hS : s.Since vm k0) (hk : k0 ≤ hh.size) (CR : CHr Z EL s.vm s.heap vm hh)
    (b : Addr) (bt : Addr) (kb : ClassId) (cs : List Int32) (G1 : Int32) (G3 : Value) (h0 : Heap) (ch : Int32) (X0 : Stand p l e ({ frames := 4, cells := 8, slots := 160, locals := 59 } : Room) (s.setVm vm) m args below meth c T0 locs 8 160) (e0 : T0.heap = hh) (N0 : Fr n0 locs) (O : Old Z n0 hh) (E_b : Exa Z hh b "java/lang/String") (F_b_value : Fld Z hh b "java/lang/String" "value" "[B" (.ref bt)) (F_b_coder : Fld Z hh b "java/lang/String" "coder" "B" (.int 0)) (V_bt : Arv Z hh bt kb .byte (Int32.ofNat (cs).length) (((cs).map fun c => c.toInt8.toInt32).map Value.int) (.int 0))   (O2 : Sta Z Z.heap "java/lang/String" "COMPACT_STRINGS" "Z" (.int G1)) (P5 : ¬ (G1 = (0 : Int32))) (O4 : Sta Z Z.heap "jdk/internal/util/Preconditions" "SIOOBE_FORMATTER" "Ljava/util/function/BiFunction;" G3) (rG3 : G3.isRef = true) (lat : ∀ c ∈ cs, Own.Lat c) (l4 : cs.length ≤ 4) (hne : ¬ cs = []) (hok : ∀ c ∈ cs.take 4, okP c) :
    Own.Go p e below (Own.EndW Z EL s (Q_isn Z b bt kb cs G1 G3 h0 n0) 8 160) (T0.setTop (mkF m 9 #[.val (.ref b), .val (.int (0 : Int32)), .val (.int (Int32.ofNat cs.length)), .val (.int (4 : Int32)), .val (.int ch), .val (.int (1 : Int32))] [])) := by
  refine Own.g_iloadN X0 hx (hb hby d7_9) rfl 10 rfl ?_
  refine Own.g_iloadN X0 hx (hb hby d7_10) rfl 11 rfl ?_
  refine Own.g_icmp_ge X0 hx (hb hby d7_11) 93 14 (by decide) rfl ?_ ?_
  · intro hn
    replace hn : ¬ 4 < cs.length := fun q => hn ((lt_n l4 (j := (4 : Int32)) rfl).mpr q)
    refine Own.g_iconst X0 hx (1 : Int32) (hb hby d7_93) rfl 94 rfl ?_
    refine Own.w_ret X0 hx hZ hEL hS hk CR hret hlocks rfl (Or.inl ⟨rfl, by simp, _, rfl⟩) (hb hby d7_94) (by decide) (by decide) e0 ?_
    exact ⟨by rw [if_pos ⟨hne, take_all hn hok⟩], N0⟩
  · intro hn
    exact absurd ((lt_n l4 (j := (4 : Int32)) (i := 4) rfl).mp hn) (by omega)
set_option maxRecDepth 65536 in
set_option maxHeartbeats 40000000 in
theorem st_isn3 {p : Program} {l : Launch} {e : Env} {s : State} {m : MethodId} {args : Array Value} {below : List Frame} {meth : Method} {c : Code} {T0 : State} {locs : List Loc} {Z : State} {a0 : Array Value} {hh : Heap} {n0 : Nat}  {vm : Vm} {k0 : Nat} (hx : p.tables.exec = Jvm.exec) (hZ : Z.Warmed39 (s.setVm vm).vm) (hw : ∀ d ∈ tables_1, d.before a0 Z = true) (hby : c.code = prog_11_method_4_code) (hml : c.maxLocals = 6) (hown : (s.setVm vm).vm.findClass "com/example/bowerbird/bowerbird/model/Names" = some m.cls) (hret : meth.sig.returnType = (some .boolean)) (hlocks : meth.locks = false) (hEL : EW Z a0 EL) (hS : s.Since vm k0) (hk : k0 ≤ hh.size) (CR : CHr Z EL s.vm s.heap vm hh)
    (b : Addr) (bt : Addr) (kb : ClassId) (cs : List Int32) (G1 : Int32) (G3 : Value) (h0 : Heap) (ch : Int32) (X0 : Stand p l e ({ frames := 4, cells := 8, slots := 160, locals := 59 } : Room) (s.setVm vm) m args below meth c T0 locs 6 120) (e0 : T0.heap = hh) (N0 : Fr n0 locs) (O : Old Z n0 hh) (E_b : Exa Z hh b "java/lang/String") (F_b_value : Fld Z hh b "java/lang/String" "value" "[B" (.ref bt)) (F_b_coder : Fld Z hh b "java/lang/String" "coder" "B" (.int 0)) (V_bt : Arv Z hh bt kb .byte (Int32.ofNat (cs).length) (((cs).map fun c => c.toInt8.toInt32).map Value.int) (.int 0))   (O2 : Sta Z Z.heap "java/lang/String" "COMPACT_STRINGS" "Z" (.int G1)) (P5 : ¬ (G1 = (0 : Int32))) (O4 : Sta Z Z.heap "jdk/internal/util/Preconditions" "SIOOBE_FORMATTER" "Ljava/util/function/BiFunction;" G3) (rG3 : G3.isRef = true) (lat : ∀ c ∈ cs, Own.Lat c) (l4 : cs.length ≤ 4) (hne : ¬ cs = []) (hok : ∀ c ∈ cs.take 3, okP c) :
    Own.Go p e below (Own.EndW Z EL s (Q_isn Z b bt kb cs G1 G3 h0 n0) 8 160) (T0.setTop (mkF m 9 #[.val (.ref b), .val (.int (0 : Int32)), .val (.int (Int32.ofNat cs.length)), .val (.int (3 : Int32)), .val (.int ch), .val (.int (1 : Int32))] [])) := by
  refine Own.g_iloadN X0 hx (hb hby d7_9) rfl 10 rfl ?_
  refine Own.g_iloadN X0 hx (hb hby d7_10) rfl 11 rfl ?_
  refine Own.g_icmp_ge X0 hx (hb hby d7_11) 93 14 (by decide) rfl ?_ ?_
  · intro hn
    replace hn : ¬ 3 < cs.length := fun q => hn ((lt_n l4 (j := (3 : Int32)) rfl).mpr q)
    refine Own.g_iconst X0 hx (1 : Int32) (hb hby d7_93) rfl 94 rfl ?_
    refine Own.w_ret X0 hx hZ hEL hS hk CR hret hlocks rfl (Or.inl ⟨rfl, by simp, _, rfl⟩) (hb hby d7_94) (by decide) (by decide) e0 ?_
    exact ⟨by rw [if_pos ⟨hne, take_all hn hok⟩], N0⟩
  · intro hn
    have hj : 3 < cs.length := (lt_n l4 (j := (3 : Int32)) rfl).mp hn
    have hch : ∀ d ∈ StrChars.Road.wordsChN, d.before a0 Z = true := fun d hd => hw d ((by decide +kernel : ∀ d ∈ StrChars.Road.wordsChN, d ∈ tables_1) d hd)
    refine Own.g_aloadN X0 hx (hb hby d7_14) rfl rfl 15 rfl ?_
    refine Own.g_iloadN X0 hx (hb hby d7_15) rfl 16 rfl ?_
    refine Own.g_virtual X0 hx hZ (y := (⟨"java/lang/String", "charAt", "(I)C"⟩ : MethodName)) (z := (⟨"java/lang/String", "charAt", "(I)C"⟩ : MethodName)) hown (mvT hZ (hw _ (List.mem_of_getElem? (i := 55) rfl))) (mvT hZ (hw _ (List.mem_of_getElem? (i := 56) rfl))) (notFace_of_selects (args := #[]) (mvT hZ (hw _ (List.mem_of_getElem? (i := 58) rfl)))) (mvT hZ (hw _ (List.mem_of_getElem? (i := 58) rfl))) (mvT hZ (hw _ (List.mem_of_getElem? (i := 57) rfl))) (by decide) (a := b) [.int (3 : Int32)] (Q := (Own.QVal hh (.int (cs.getD 3 0)))) (StrChars.Road.chN (W := 0) hZ hch (kI := 4) (hw _ (List.mem_of_getElem? (i := 2) rfl)) E_b F_b_value F_b_coder V_bt (StrChars.Road.codOf rfl (fun c hc => (lat c hc).2)) (Own.lat_up lat) (O2.ext O.2) P5 (O4.ext O.2) rG3 (l4k l4) (i := 3) hj (j := (3 : Int32)) rfl (by decide) (by decide)) E_b e0 (by rw [hml]; rfl) [] (lenOf pd_6 rfl) rfl (Nat.le_of_ble_eq_true rfl) (hb hby d7_16) (by decide) (by decide) 19 rfl ?_
    rintro _ T1 L1 X1 ⟨rfl, rfl, eH1⟩
    have N1 := Fr.app N0 (Fr.nil n0)
    show Own.Go p e below _ (T1.setTop (mkF m 19 #[.val (.ref b), .val (.int (0 : Int32)), .val (.int (Int32.ofNat cs.length)), .val (.int (3 : Int32)), .val (.int ch), .val (.int (1 : Int32))] [(.int (cs.getD 3 0))]))
    obtain ⟨x, hxd⟩ : ∃ x, x = cs.getD 3 0 := ⟨_, rfl⟩
    have hlx : Own.Lat x := by rw [hxd]; exact lat _ (getD_mem hj)
    rw [← hxd]
    refine Own.g_istore X1 hx #[.val (.ref b), .val (.int (0 : Int32)), .val (.int (Int32.ofNat cs.length)), .val (.int (3 : Int32)), .val (.int x), .val (.int (1 : Int32))] (hb hby d7_19) rfl 21 rfl ?_
    refine Own.g_iload X1 hx (hb hby d7_21) rfl 23 rfl ?_
    refine Own.g_bipush X1 hx (65 : Int32) (hb hby d7_23) rfl 25 rfl ?_
    refine Own.g_icmp_lt X1 hx (hb hby d7_25) 35 28 (by decide) rfl ?_ ?_
    · intro ag0
      refine Own.g_iload X1 hx (hb hby d7_35) rfl 37 rfl ?_
      refine Own.g_bipush X1 hx (97 : Int32) (hb hby d7_37) rfl 39 rfl ?_
      refine Own.g_icmp_lt X1 hx (hb hby d7_39) 49 42 (by decide) rfl ?_ ?_
      · intro ag1
        refine Own.g_iload X1 hx (hb hby d7_49) rfl 51 rfl ?_
        refine Own.g_bipush X1 hx (48 : Int32) (hb hby d7_51) rfl 53 rfl ?_
        refine Own.g_icmp_lt X1 hx (hb hby d7_53) 63 56 (by decide) rfl ?_ ?_
        · intro ag2
          refine Own.w_ldc X1 hx hZ hown (hw _ (List.mem_of_getElem? (i := 77) rfl)) (own_wS hw) eH1 hS hk hEL (by decide) CR.1 [.int 45, .int 95, .int 46, .int 33, .int 126, .int 42, .int 39, .int 40, .int 41] 9 ⟨by decide, by first | rfl | decide⟩ (by decide) rfl (hb hby d7_63) 36 (by decide) (by decide) (by decide) (by decide) 65 rfl ?_
          intro la T2 h2 k2 lb k_lb X2 e2 E2 hS hk hZ hown E_la F_la_coder F_la_value V_lb C2 hne2
          replace E_b := E_b.ext E2
          replace F_b_value := F_b_value.ext E2
          replace F_b_coder := F_b_coder.ext E2
          replace V_bt := V_bt.ext E2
          replace O := O.ext E2
          replace CR := CR.trans C2
          refine Own.g_iload X2 hx (hb hby d7_65) rfl 67 rfl ?_
          have V_lb2 : Arv Z _ lb k_lb .byte (Int32.ofNat SPL.length) ((SPL.map fun c => c.toInt8.toInt32).map Value.int) (.int 0) := V_lb
          refine Own.g_virtual X2 hx hZ (y := (⟨"java/lang/String", "indexOf", "(I)I"⟩ : MethodName)) (z := (⟨"java/lang/String", "indexOf", "(I)I"⟩ : MethodName)) hown (mvT hZ (hw _ (List.mem_of_getElem? (i := 78) rfl))) (mvT hZ (hw _ (List.mem_of_getElem? (i := 79) rfl))) (notFace_of_selects (args := #[]) (mvT hZ (hw _ (List.mem_of_getElem? (i := 81) rfl)))) (mvT hZ (hw _ (List.mem_of_getElem? (i := 81) rfl))) (mvT hZ (hw _ (List.mem_of_getElem? (i := 80) rfl))) (by decide) (a := la) [.int x] (Own.back (W := 0) (rm_ix1 l Z a0 hw [] la lb k_lb x G1 h2 n0 O hlx O2 P5 E_la F_la_value F_la_coder V_lb2) hZ (hw _ (List.mem_of_getElem? (i := 82) rfl)) (hw _ (List.mem_of_getElem? (i := 3) rfl)) (by decide) (by decide)) E_la e2 (by rw [hml]; rfl) [] (lenOf pd_7 rfl) rfl (Nat.le_of_ble_eq_true rfl) (hb hby d7_67) (by decide) (by decide) 70 rfl ?_
          rintro _ T3 L3 X3 ⟨r3, rfl, hr3, N3q, eH3⟩
          have N3 := Fr.app N1 N3q
          show Own.Go p e below _ (T3.setTop (mkF m 70 #[.val (.ref b), .val (.int (0 : Int32)), .val (.int (Int32.ofNat cs.length)), .val (.int (3 : Int32)), .val (.int x), .val (.int (1 : Int32))] [(.int r3)]))
          refine Own.g_if_lt X3 hx (hb hby d7_70) 77 73 (by decide) rfl ?_ ?_
          · intro hq
            refine Own.g_iconst X3 hx (0 : Int32) (hb hby d7_77) rfl 78 rfl ?_
            refine Own.g_istore X3 hx #[.val (.ref b), .val (.int (0 : Int32)), .val (.int (Int32.ofNat cs.length)), .val (.int (3 : Int32)), .val (.int x), .val (.int (0 : Int32))] (hb hby d7_78) rfl 80 rfl ?_
            refine Own.g_iload X3 hx (hb hby d7_80) rfl 82 rfl ?_
            refine Own.g_if_ne_f X3 hx (hb hby d7_82) rfl 85 rfl ?_
            refine Own.g_iconst X3 hx (0 : Int32) (hb hby d7_85) rfl 86 rfl ?_
            refine Own.w_ret X3 hx hZ hEL hS hk CR hret hlocks rfl (Or.inl ⟨rfl, by simp, _, rfl⟩) (hb hby d7_86) (by decide) (by decide) eH3 ?_
            have nsp : ¬ spP x := hr3.mp hq
            exact ⟨by rw [if_neg (fun z => absurd (show okP x by rw [hxd]; exact z.2 _ (getD_mem hj)) (by simp [okP, nsp, ag0, ag1, ag2]))], N3⟩
          · intro hq
            refine Own.g_iconst X3 hx (1 : Int32) (hb hby d7_73) rfl 74 rfl ?_
            refine Own.g_goto X3 hx (hb hby d7_74) 78 (by decide) ?_
            refine Own.g_istore X3 hx #[.val (.ref b), .val (.int (0 : Int32)), .val (.int (Int32.ofNat cs.length)), .val (.int (3 : Int32)), .val (.int x), .val (.int (1 : Int32))] (hb hby d7_78) rfl 80 rfl ?_
            refine Own.g_iload X3 hx (hb hby d7_80) rfl 82 rfl ?_
            refine Own.g_if_ne_t X3 hx (hb hby d7_82) (by decide) 87 (by decide) ?_
            refine Own.g_iinc X3 hx #[.val (.ref b), .val (.int (0 : Int32)), .val (.int (Int32.ofNat cs.length)), .val (.int (4 : Int32)), .val (.int x), .val (.int (1 : Int32))] (hb hby d7_87) rfl rfl 90 rfl ?_
            refine Own.g_goto X3 hx (hb hby d7_90) 9 (by decide) ?_
            exact st_isn4 hx hZ hw hby hml hown hret hlocks hEL hS hk CR b bt kb cs G1 G3 h0 x (X3.more (by decide) (by decide)) eH3 N3 O E_b F_b_value F_b_coder V_bt   O2 P5 O4 rG3 lat l4 hne (take_snoc hj hok (by rw [← hxd]; exact Or.inr (Or.inr (Or.inr (Classical.byContradiction (fun q => hq (hr3.mpr q)))))))
        · intro ag2
          refine Own.g_iload X1 hx (hb hby d7_56) rfl 58 rfl ?_
          refine Own.g_bipush X1 hx (57 : Int32) (hb hby d7_58) rfl 60 rfl ?_
          refine Own.g_icmp_le X1 hx (hb hby d7_60) 73 63 (by decide) rfl ?_ ?_
          · intro bg2
            refine Own.g_iconst X1 hx (1 : Int32) (hb hby d7_73) rfl 74 rfl ?_
            refine Own.g_goto X1 hx (hb hby d7_74) 78 (by decide) ?_
            refine Own.g_istore X1 hx #[.val (.ref b), .val (.int (0 : Int32)), .val (.int (Int32.ofNat cs.length)), .val (.int (3 : Int32)), .val (.int x), .val (.int (1 : Int32))] (hb hby d7_78) rfl 80 rfl ?_
            refine Own.g_iload X1 hx (hb hby d7_80) rfl 82 rfl ?_
            refine Own.g_if_ne_t X1 hx (hb hby d7_82) (by decide) 87 (by decide) ?_
            refine Own.g_iinc X1 hx #[.val (.ref b), .val (.int (0 : Int32)), .val (.int (Int32.ofNat cs.length)), .val (.int (4 : Int32)), .val (.int x), .val (.int (1 : Int32))] (hb hby d7_87) rfl rfl 90 rfl ?_
            refine Own.g_goto X1 hx (hb hby d7_90) 9 (by decide) ?_
            exact st_isn4 hx hZ hw hby hml hown hret hlocks hEL hS hk CR b bt kb cs G1 G3 h0 x (X1.more (by decide) (by decide)) eH1 N1 O E_b F_b_value F_b_coder V_bt   O2 P5 O4 rG3 lat l4 hne (take_snoc hj hok (by rw [← hxd]; exact Or.inr (Or.inr (Or.inl ⟨ag2, bg2⟩))))
          · intro bg2
            refine Own.w_ldc X1 hx hZ hown (hw _ (List.mem_of_getElem? (i := 77) rfl)) (own_wS hw) eH1 hS hk hEL (by decide) CR.1 [.int 45, .int 95, .int 46, .int 33, .int 126, .int 42, .int 39, .int 40, .int 41] 9 ⟨by decide, by first | rfl | decide⟩ (by decide) rfl (hb hby d7_63) 36 (by decide) (by decide) (by decide) (by decide) 65 rfl ?_
            intro la T4 h4 k4 lb k_lb X4 e4 E4 hS hk hZ hown E_la F_la_coder F_la_value V_lb C4 hne4
            replace E_b := E_b.ext E4
            replace F_b_value := F_b_value.ext E4
            replace F_b_coder := F_b_coder.ext E4
            replace V_bt := V_bt.ext E4
            replace O := O.ext E4
            replace CR := CR.trans C4
            refine Own.g_iload X4 hx (hb hby d7_65) rfl 67 rfl ?_
            have V_lb2 : Arv Z _ lb k_lb .byte (Int32.ofNat SPL.length) ((SPL.map fun c => c.toInt8.toInt32).map Value.int) (.int 0) := V_lb
            refine Own.g_virtual X4 hx hZ (y := (⟨"java/lang/String", "indexOf", "(I)I"⟩ : MethodName)) (z := (⟨"java/lang/String", "indexOf", "(I)I"⟩ : MethodName)) hown (mvT hZ (hw _ (List.mem_of_getElem? (i := 78) rfl))) (mvT hZ (hw _ (List.mem_of_getElem? (i := 79) rfl))) (notFace_of_selects (args := #[]) (mvT hZ (hw _ (List.mem_of_getElem? (i := 81) rfl)))) (mvT hZ (hw _ (List.mem_of_getElem? (i := 81) rfl))) (mvT hZ (hw _ (List.mem_of_getElem? (i := 80) rfl))) (by decide) (a := la) [.int x] (Own.back (W := 0) (rm_ix1 l Z a0 hw [] la lb k_lb x G1 h4 n0 O hlx O2 P5 E_la F_la_value F_la_coder V_lb2) hZ (hw _ (List.mem_of_getElem? (i := 82) rfl)) (hw _ (List.mem_of_getElem? (i := 3) rfl)) (by decide) (by decide)) E_la e4 (by rw [hml]; rfl) [] (lenOf pd_7 rfl) rfl (Nat.le_of_ble_eq_true rfl) (hb hby d7_67) (by decide) (by decide) 70 rfl ?_
            rintro _ T5 L5 X5 ⟨r5, rfl, hr5, N5q, eH5⟩
            have N5 := Fr.app N1 N5q
            show Own.Go p e below _ (T5.setTop (mkF m 70 #[.val (.ref b), .val (.int (0 : Int32)), .val (.int (Int32.ofNat cs.length)), .val (.int (3 : Int32)), .val (.int x), .val (.int (1 : Int32))] [(.int r5)]))
            refine Own.g_if_lt X5 hx (hb hby d7_70) 77 73 (by decide) rfl ?_ ?_
            · intro hq
              refine Own.g_iconst X5 hx (0 : Int32) (hb hby d7_77) rfl 78 rfl ?_
              refine Own.g_istore X5 hx #[.val (.ref b), .val (.int (0 : Int32)), .val (.int (Int32.ofNat cs.length)), .val (.int (3 : Int32)), .val (.int x), .val (.int (0 : Int32))] (hb hby d7_78) rfl 80 rfl ?_
              refine Own.g_iload X5 hx (hb hby d7_80) rfl 82 rfl ?_
              refine Own.g_if_ne_f X5 hx (hb hby d7_82) rfl 85 rfl ?_
              refine Own.g_iconst X5 hx (0 : Int32) (hb hby d7_85) rfl 86 rfl ?_
              refine Own.w_ret X5 hx hZ hEL hS hk CR hret hlocks rfl (Or.inl ⟨rfl, by simp, _, rfl⟩) (hb hby d7_86) (by decide) (by decide) eH5 ?_
              have nsp : ¬ spP x := hr5.mp hq
              exact ⟨by rw [if_neg (fun z => absurd (show okP x by rw [hxd]; exact z.2 _ (getD_mem hj)) (by simp [okP, nsp, ag0, ag1, ag2, bg2]))], N5⟩
            · intro hq
              refine Own.g_iconst X5 hx (1 : Int32) (hb hby d7_73) rfl 74 rfl ?_
              refine Own.g_goto X5 hx (hb hby d7_74) 78 (by decide) ?_
              refine Own.g_istore X5 hx #[.val (.ref b), .val (.int (0 : Int32)), .val (.int (Int32.ofNat cs.length)), .val (.int (3 : Int32)), .val (.int x), .val (.int (1 : Int32))] (hb hby d7_78) rfl 80 rfl ?_
              refine Own.g_iload X5 hx (hb hby d7_80) rfl 82 rfl ?_
              refine Own.g_if_ne_t X5 hx (hb hby d7_82) (by decide) 87 (by decide) ?_
              refine Own.g_iinc X5 hx #[.val (.ref b), .val (.int (0 : Int32)), .val (.int (Int32.ofNat cs.length)), .val (.int (4 : Int32)), .val (.int x), .val (.int (1 : Int32))] (hb hby d7_87) rfl rfl 90 rfl ?_
              refine Own.g_goto X5 hx (hb hby d7_90) 9 (by decide) ?_
              exact st_isn4 hx hZ hw hby hml hown hret hlocks hEL hS hk CR b bt kb cs G1 G3 h0 x (X5.more (by decide) (by decide)) eH5 N5 O E_b F_b_value F_b_coder V_bt   O2 P5 O4 rG3 lat l4 hne (take_snoc hj hok (by rw [← hxd]; exact Or.inr (Or.inr (Or.inr (Classical.byContradiction (fun q => hq (hr5.mpr q)))))))
      · intro ag1
        refine Own.g_iload X1 hx (hb hby d7_42) rfl 44 rfl ?_
        refine Own.g_bipush X1 hx (122 : Int32) (hb hby d7_44) rfl 46 rfl ?_
        refine Own.g_icmp_le X1 hx (hb hby d7_46) 73 49 (by decide) rfl ?_ ?_
        · intro bg1
          refine Own.g_iconst X1 hx (1 : Int32) (hb hby d7_73) rfl 74 rfl ?_
          refine Own.g_goto X1 hx (hb hby d7_74) 78 (by decide) ?_
          refine Own.g_istore X1 hx #[.val (.ref b), .val (.int (0 : Int32)), .val (.int (Int32.ofNat cs.length)), .val (.int (3 : Int32)), .val (.int x), .val (.int (1 : Int32))] (hb hby d7_78) rfl 80 rfl ?_
          refine Own.g_iload X1 hx (hb hby d7_80) rfl 82 rfl ?_
          refine Own.g_if_ne_t X1 hx (hb hby d7_82) (by decide) 87 (by decide) ?_
          refine Own.g_iinc X1 hx #[.val (.ref b), .val (.int (0 : Int32)), .val (.int (Int32.ofNat cs.length)), .val (.int (4 : Int32)), .val (.int x), .val (.int (1 : Int32))] (hb hby d7_87) rfl rfl 90 rfl ?_
          refine Own.g_goto X1 hx (hb hby d7_90) 9 (by decide) ?_
          exact st_isn4 hx hZ hw hby hml hown hret hlocks hEL hS hk CR b bt kb cs G1 G3 h0 x (X1.more (by decide) (by decide)) eH1 N1 O E_b F_b_value F_b_coder V_bt   O2 P5 O4 rG3 lat l4 hne (take_snoc hj hok (by rw [← hxd]; exact Or.inr (Or.inl ⟨ag1, bg1⟩)))
        · intro bg1
          refine Own.g_iload X1 hx (hb hby d7_49) rfl 51 rfl ?_
          refine Own.g_bipush X1 hx (48 : Int32) (hb hby d7_51) rfl 53 rfl ?_
          refine Own.g_icmp_lt X1 hx (hb hby d7_53) 63 56 (by decide) rfl ?_ ?_
          · intro ag2
            refine Own.w_ldc X1 hx hZ hown (hw _ (List.mem_of_getElem? (i := 77) rfl)) (own_wS hw) eH1 hS hk hEL (by decide) CR.1 [.int 45, .int 95, .int 46, .int 33, .int 126, .int 42, .int 39, .int 40, .int 41] 9 ⟨by decide, by first | rfl | decide⟩ (by decide) rfl (hb hby d7_63) 36 (by decide) (by decide) (by decide) (by decide) 65 rfl ?_
            intro la T6 h6 k6 lb k_lb X6 e6 E6 hS hk hZ hown E_la F_la_coder F_la_value V_lb C6 hne6
            replace E_b := E_b.ext E6
            replace F_b_value := F_b_value.ext E6
            replace F_b_coder := F_b_coder.ext E6
            replace V_bt := V_bt.ext E6
            replace O := O.ext E6
            replace CR := CR.trans C6
            refine Own.g_iload X6 hx (hb hby d7_65) rfl 67 rfl ?_
            have V_lb2 : Arv Z _ lb k_lb .byte (Int32.ofNat SPL.length) ((SPL.map fun c => c.toInt8.toInt32).map Value.int) (.int 0) := V_lb
            refine Own.g_virtual X6 hx hZ (y := (⟨"java/lang/String", "indexOf", "(I)I"⟩ : MethodName)) (z := (⟨"java/lang/String", "indexOf", "(I)I"⟩ : MethodName)) hown (mvT hZ (hw _ (List.mem_of_getElem? (i := 78) rfl))) (mvT hZ (hw _ (List.mem_of_getElem? (i := 79) rfl))) (notFace_of_selects (args := #[]) (mvT hZ (hw _ (List.mem_of_getElem? (i := 81) rfl)))) (mvT hZ (hw _ (List.mem_of_getElem? (i := 81) rfl))) (mvT hZ (hw _ (List.mem_of_getElem? (i := 80) rfl))) (by decide) (a := la) [.int x] (Own.back (W := 0) (rm_ix1 l Z a0 hw [] la lb k_lb x G1 h6 n0 O hlx O2 P5 E_la F_la_value F_la_coder V_lb2) hZ (hw _ (List.mem_of_getElem? (i := 82) rfl)) (hw _ (List.mem_of_getElem? (i := 3) rfl)) (by decide) (by decide)) E_la e6 (by rw [hml]; rfl) [] (lenOf pd_7 rfl) rfl (Nat.le_of_ble_eq_true rfl) (hb hby d7_67) (by decide) (by decide) 70 rfl ?_
            rintro _ T7 L7 X7 ⟨r7, rfl, hr7, N7q, eH7⟩
            have N7 := Fr.app N1 N7q
            show Own.Go p e below _ (T7.setTop (mkF m 70 #[.val (.ref b), .val (.int (0 : Int32)), .val (.int (Int32.ofNat cs.length)), .val (.int (3 : Int32)), .val (.int x), .val (.int (1 : Int32))] [(.int r7)]))
            refine Own.g_if_lt X7 hx (hb hby d7_70) 77 73 (by decide) rfl ?_ ?_
            · intro hq
              refine Own.g_iconst X7 hx (0 : Int32) (hb hby d7_77) rfl 78 rfl ?_
              refine Own.g_istore X7 hx #[.val (.ref b), .val (.int (0 : Int32)), .val (.int (Int32.ofNat cs.length)), .val (.int (3 : Int32)), .val (.int x), .val (.int (0 : Int32))] (hb hby d7_78) rfl 80 rfl ?_
              refine Own.g_iload X7 hx (hb hby d7_80) rfl 82 rfl ?_
              refine Own.g_if_ne_f X7 hx (hb hby d7_82) rfl 85 rfl ?_
              refine Own.g_iconst X7 hx (0 : Int32) (hb hby d7_85) rfl 86 rfl ?_
              refine Own.w_ret X7 hx hZ hEL hS hk CR hret hlocks rfl (Or.inl ⟨rfl, by simp, _, rfl⟩) (hb hby d7_86) (by decide) (by decide) eH7 ?_
              have nsp : ¬ spP x := hr7.mp hq
              exact ⟨by rw [if_neg (fun z => absurd (show okP x by rw [hxd]; exact z.2 _ (getD_mem hj)) (by simp [okP, nsp, ag0, ag1, bg1, ag2]))], N7⟩
            · intro hq
              refine Own.g_iconst X7 hx (1 : Int32) (hb hby d7_73) rfl 74 rfl ?_
              refine Own.g_goto X7 hx (hb hby d7_74) 78 (by decide) ?_
              refine Own.g_istore X7 hx #[.val (.ref b), .val (.int (0 : Int32)), .val (.int (Int32.ofNat cs.length)), .val (.int (3 : Int32)), .val (.int x), .val (.int (1 : Int32))] (hb hby d7_78) rfl 80 rfl ?_
              refine Own.g_iload X7 hx (hb hby d7_80) rfl 82 rfl ?_
              refine Own.g_if_ne_t X7 hx (hb hby d7_82) (by decide) 87 (by decide) ?_
              refine Own.g_iinc X7 hx #[.val (.ref b), .val (.int (0 : Int32)), .val (.int (Int32.ofNat cs.length)), .val (.int (4 : Int32)), .val (.int x), .val (.int (1 : Int32))] (hb hby d7_87) rfl rfl 90 rfl ?_
              refine Own.g_goto X7 hx (hb hby d7_90) 9 (by decide) ?_
              exact st_isn4 hx hZ hw hby hml hown hret hlocks hEL hS hk CR b bt kb cs G1 G3 h0 x (X7.more (by decide) (by decide)) eH7 N7 O E_b F_b_value F_b_coder V_bt   O2 P5 O4 rG3 lat l4 hne (take_snoc hj hok (by rw [← hxd]; exact Or.inr (Or.inr (Or.inr (Classical.byContradiction (fun q => hq (hr7.mpr q)))))))
          · intro ag2
            refine Own.g_iload X1 hx (hb hby d7_56) rfl 58 rfl ?_
            refine Own.g_bipush X1 hx (57 : Int32) (hb hby d7_58) rfl 60 rfl ?_
            refine Own.g_icmp_le X1 hx (hb hby d7_60) 73 63 (by decide) rfl ?_ ?_
            · intro bg2
              refine Own.g_iconst X1 hx (1 : Int32) (hb hby d7_73) rfl 74 rfl ?_
              refine Own.g_goto X1 hx (hb hby d7_74) 78 (by decide) ?_
              refine Own.g_istore X1 hx #[.val (.ref b), .val (.int (0 : Int32)), .val (.int (Int32.ofNat cs.length)), .val (.int (3 : Int32)), .val (.int x), .val (.int (1 : Int32))] (hb hby d7_78) rfl 80 rfl ?_
              refine Own.g_iload X1 hx (hb hby d7_80) rfl 82 rfl ?_
              refine Own.g_if_ne_t X1 hx (hb hby d7_82) (by decide) 87 (by decide) ?_
              refine Own.g_iinc X1 hx #[.val (.ref b), .val (.int (0 : Int32)), .val (.int (Int32.ofNat cs.length)), .val (.int (4 : Int32)), .val (.int x), .val (.int (1 : Int32))] (hb hby d7_87) rfl rfl 90 rfl ?_
              refine Own.g_goto X1 hx (hb hby d7_90) 9 (by decide) ?_
              exact st_isn4 hx hZ hw hby hml hown hret hlocks hEL hS hk CR b bt kb cs G1 G3 h0 x (X1.more (by decide) (by decide)) eH1 N1 O E_b F_b_value F_b_coder V_bt   O2 P5 O4 rG3 lat l4 hne (take_snoc hj hok (by rw [← hxd]; exact Or.inr (Or.inr (Or.inl ⟨ag2, bg2⟩))))
            · intro bg2
              refine Own.w_ldc X1 hx hZ hown (hw _ (List.mem_of_getElem? (i := 77) rfl)) (own_wS hw) eH1 hS hk hEL (by decide) CR.1 [.int 45, .int 95, .int 46, .int 33, .int 126, .int 42, .int 39, .int 40, .int 41] 9 ⟨by decide, by first | rfl | decide⟩ (by decide) rfl (hb hby d7_63) 36 (by decide) (by decide) (by decide) (by decide) 65 rfl ?_
              intro la T8 h8 k8 lb k_lb X8 e8 E8 hS hk hZ hown E_la F_la_coder F_la_value V_lb C8 hne8
              replace E_b := E_b.ext E8
              replace F_b_value := F_b_value.ext E8
              replace F_b_coder := F_b_coder.ext E8
              replace V_bt := V_bt.ext E8
              replace O := O.ext E8
              replace CR := CR.trans C8
              refine Own.g_iload X8 hx (hb hby d7_65) rfl 67 rfl ?_
              have V_lb2 : Arv Z _ lb k_lb .byte (Int32.ofNat SPL.length) ((SPL.map fun c => c.toInt8.toInt32).map Value.int) (.int 0) := V_lb
              refine Own.g_virtual X8 hx hZ (y := (⟨"java/lang/String", "indexOf", "(I)I"⟩ : MethodName)) (z := (⟨"java/lang/String", "indexOf", "(I)I"⟩ : MethodName)) hown (mvT hZ (hw _ (List.mem_of_getElem? (i := 78) rfl))) (mvT hZ (hw _ (List.mem_of_getElem? (i := 79) rfl))) (notFace_of_selects (args := #[]) (mvT hZ (hw _ (List.mem_of_getElem? (i := 81) rfl)))) (mvT hZ (hw _ (List.mem_of_getElem? (i := 81) rfl))) (mvT hZ (hw _ (List.mem_of_getElem? (i := 80) rfl))) (by decide) (a := la) [.int x] (Own.back (W := 0) (rm_ix1 l Z a0 hw [] la lb k_lb x G1 h8 n0 O hlx O2 P5 E_la F_la_value F_la_coder V_lb2) hZ (hw _ (List.mem_of_getElem? (i := 82) rfl)) (hw _ (List.mem_of_getElem? (i := 3) rfl)) (by decide) (by decide)) E_la e8 (by rw [hml]; rfl) [] (lenOf pd_7 rfl) rfl (Nat.le_of_ble_eq_true rfl) (hb hby d7_67) (by decide) (by decide) 70 rfl ?_
              rintro _ T9 L9 X9 ⟨r9, rfl, hr9, N9q, eH9⟩
              have N9 := Fr.app N1 N9q
              show Own.Go p e below _ (T9.setTop (mkF m 70 #[.val (.ref b), .val (.int (0 : Int32)), .val (.int (Int32.ofNat cs.length)), .val (.int (3 : Int32)), .val (.int x), .val (.int (1 : Int32))] [(.int r9)]))
              refine Own.g_if_lt X9 hx (hb hby d7_70) 77 73 (by decide) rfl ?_ ?_
              · intro hq
                refine Own.g_iconst X9 hx (0 : Int32) (hb hby d7_77) rfl 78 rfl ?_
                refine Own.g_istore X9 hx #[.val (.ref b), .val (.int (0 : Int32)), .val (.int (Int32.ofNat cs.length)), .val (.int (3 : Int32)), .val (.int x), .val (.int (0 : Int32))] (hb hby d7_78) rfl 80 rfl ?_
                refine Own.g_iload X9 hx (hb hby d7_80) rfl 82 rfl ?_
                refine Own.g_if_ne_f X9 hx (hb hby d7_82) rfl 85 rfl ?_
                refine Own.g_iconst X9 hx (0 : Int32) (hb hby d7_85) rfl 86 rfl ?_
                refine Own.w_ret X9 hx hZ hEL hS hk CR hret hlocks rfl (Or.inl ⟨rfl, by simp, _, rfl⟩) (hb hby d7_86) (by decide) (by decide) eH9 ?_
                have nsp : ¬ spP x := hr9.mp hq
                exact ⟨by rw [if_neg (fun z => absurd (show okP x by rw [hxd]; exact z.2 _ (getD_mem hj)) (by simp [okP, nsp, ag0, ag1, bg1, ag2, bg2]))], N9⟩
              · intro hq
                refine Own.g_iconst X9 hx (1 : Int32) (hb hby d7_73) rfl 74 rfl ?_
                refine Own.g_goto X9 hx (hb hby d7_74) 78 (by decide) ?_
                refine Own.g_istore X9 hx #[.val (.ref b), .val (.int (0 : Int32)), .val (.int (Int32.ofNat cs.length)), .val (.int (3 : Int32)), .val (.int x), .val (.int (1 : Int32))] (hb hby d7_78) rfl 80 rfl ?_
                refine Own.g_iload X9 hx (hb hby d7_80) rfl 82 rfl ?_
                refine Own.g_if_ne_t X9 hx (hb hby d7_82) (by decide) 87 (by decide) ?_
                refine Own.g_iinc X9 hx #[.val (.ref b), .val (.int (0 : Int32)), .val (.int (Int32.ofNat cs.length)), .val (.int (4 : Int32)), .val (.int x), .val (.int (1 : Int32))] (hb hby d7_87) rfl rfl 90 rfl ?_
                refine Own.g_goto X9 hx (hb hby d7_90) 9 (by decide) ?_
                exact st_isn4 hx hZ hw hby hml hown hret hlocks hEL hS hk CR b bt kb cs G1 G3 h0 x (X9.more (by decide) (by decide)) eH9 N9 O E_b F_b_value F_b_coder V_bt   O2 P5 O4 rG3 lat l4 hne (take_snoc hj hok (by rw [← hxd]; exact Or.inr (Or.inr (Or.inr (Classical.byContradiction (fun q => hq (hr9.mpr q)))))))
    · intro ag0
      refine Own.g_iload X1 hx (hb hby d7_28) rfl 30 rfl ?_
      refine Own.g_bipush X1 hx (90 : Int32) (hb hby d7_30) rfl 32 rfl ?_
      refine Own.g_icmp_le X1 hx (hb hby d7_32) 73 35 (by decide) rfl ?_ ?_
      · intro bg0
        refine Own.g_iconst X1 hx (1 : Int32) (hb hby d7_73) rfl 74 rfl ?_
        refine Own.g_goto X1 hx (hb hby d7_74) 78 (by decide) ?_
        refine Own.g_istore X1 hx #[.val (.ref b), .val (.int (0 : Int32)), .val (.int (Int32.ofNat cs.length)), .val (.int (3 : Int32)), .val (.int x), .val (.int (1 : Int32))] (hb hby d7_78) rfl 80 rfl ?_
        refine Own.g_iload X1 hx (hb hby d7_80) rfl 82 rfl ?_
        refine Own.g_if_ne_t X1 hx (hb hby d7_82) (by decide) 87 (by decide) ?_
        refine Own.g_iinc X1 hx #[.val (.ref b), .val (.int (0 : Int32)), .val (.int (Int32.ofNat cs.length)), .val (.int (4 : Int32)), .val (.int x), .val (.int (1 : Int32))] (hb hby d7_87) rfl rfl 90 rfl ?_
        refine Own.g_goto X1 hx (hb hby d7_90) 9 (by decide) ?_
        exact st_isn4 hx hZ hw hby hml hown hret hlocks hEL hS hk CR b bt kb cs G1 G3 h0 x (X1.more (by decide) (by decide)) eH1 N1 O E_b F_b_value F_b_coder V_bt   O2 P5 O4 rG3 lat l4 hne (take_snoc hj hok (by rw [← hxd]; exact Or.inl ⟨ag0, bg0⟩))
      · intro bg0
        refine Own.g_iload X1 hx (hb hby d7_35) rfl 37 rfl ?_
        refine Own.g_bipush X1 hx (97 : Int32) (hb hby d7_37) rfl 39 rfl ?_
        refine Own.g_icmp_lt X1 hx (hb hby d7_39) 49 42 (by decide) rfl ?_ ?_
        · intro ag1
          refine Own.g_iload X1 hx (hb hby d7_49) rfl 51 rfl ?_
          refine Own.g_bipush X1 hx (48 : Int32) (hb hby d7_51) rfl 53 rfl ?_
          refine Own.g_icmp_lt X1 hx (hb hby d7_53) 63 56 (by decide) rfl ?_ ?_
          · intro ag2
            refine Own.w_ldc X1 hx hZ hown (hw _ (List.mem_of_getElem? (i := 77) rfl)) (own_wS hw) eH1 hS hk hEL (by decide) CR.1 [.int 45, .int 95, .int 46, .int 33, .int 126, .int 42, .int 39, .int 40, .int 41] 9 ⟨by decide, by first | rfl | decide⟩ (by decide) rfl (hb hby d7_63) 36 (by decide) (by decide) (by decide) (by decide) 65 rfl ?_
            intro la T10 h10 k10 lb k_lb X10 e10 E10 hS hk hZ hown E_la F_la_coder F_la_value V_lb C10 hne10
            replace E_b := E_b.ext E10
            replace F_b_value := F_b_value.ext E10
            replace F_b_coder := F_b_coder.ext E10
            replace V_bt := V_bt.ext E10
            replace O := O.ext E10
            replace CR := CR.trans C10
            refine Own.g_iload X10 hx (hb hby d7_65) rfl 67 rfl ?_
            have V_lb2 : Arv Z _ lb k_lb .byte (Int32.ofNat SPL.length) ((SPL.map fun c => c.toInt8.toInt32).map Value.int) (.int 0) := V_lb
            refine Own.g_virtual X10 hx hZ (y := (⟨"java/lang/String", "indexOf", "(I)I"⟩ : MethodName)) (z := (⟨"java/lang/String", "indexOf", "(I)I"⟩ : MethodName)) hown (mvT hZ (hw _ (List.mem_of_getElem? (i := 78) rfl))) (mvT hZ (hw _ (List.mem_of_getElem? (i := 79) rfl))) (notFace_of_selects (args := #[]) (mvT hZ (hw _ (List.mem_of_getElem? (i := 81) rfl)))) (mvT hZ (hw _ (List.mem_of_getElem? (i := 81) rfl))) (mvT hZ (hw _ (List.mem_of_getElem? (i := 80) rfl))) (by decide) (a := la) [.int x] (Own.back (W := 0) (rm_ix1 l Z a0 hw [] la lb k_lb x G1 h10 n0 O hlx O2 P5 E_la F_la_value F_la_coder V_lb2) hZ (hw _ (List.mem_of_getElem? (i := 82) rfl)) (hw _ (List.mem_of_getElem? (i := 3) rfl)) (by decide) (by decide)) E_la e10 (by rw [hml]; rfl) [] (lenOf pd_7 rfl) rfl (Nat.le_of_ble_eq_true rfl) (hb hby d7_67) (by decide) (by decide) 70 rfl ?_
            rintro _ T11 L11 X11 ⟨r11, rfl, hr11, N11q, eH11⟩
            have N11 := Fr.app N1 N11q
            show Own.Go p e below _ (T11.setTop (mkF m 70 #[.val (.ref b), .val (.int (0 : Int32)), .val (.int (Int32.ofNat cs.length)), .val (.int (3 : Int32)), .val (.int x), .val (.int (1 : Int32))] [(.int r11)]))
            refine Own.g_if_lt X11 hx (hb hby d7_70) 77 73 (by decide) rfl ?_ ?_
            · intro hq
              refine Own.g_iconst X11 hx (0 : Int32) (hb hby d7_77) rfl 78 rfl ?_
              refine Own.g_istore X11 hx #[.val (.ref b), .val (.int (0 : Int32)), .val (.int (Int32.ofNat cs.length)), .val (.int (3 : Int32)), .val (.int x), .val (.int (0 : Int32))] (hb hby d7_78) rfl 80 rfl ?_
              refine Own.g_iload X11 hx (hb hby d7_80) rfl 82 rfl ?_
              refine Own.g_if_ne_f X11 hx (hb hby d7_82) rfl 85 rfl ?_
              refine Own.g_iconst X11 hx (0 : Int32) (hb hby d7_85) rfl 86 rfl ?_
              refine Own.w_ret X11 hx hZ hEL hS hk CR hret hlocks rfl (Or.inl ⟨rfl, by simp, _, rfl⟩) (hb hby d7_86) (by decide) (by decide) eH11 ?_
              have nsp : ¬ spP x := hr11.mp hq
              exact ⟨by rw [if_neg (fun z => absurd (show okP x by rw [hxd]; exact z.2 _ (getD_mem hj)) (by simp [okP, nsp, ag0, bg0, ag1, ag2]))], N11⟩
            · intro hq
              refine Own.g_iconst X11 hx (1 : Int32) (hb hby d7_73) rfl 74 rfl ?_
              refine Own.g_goto X11 hx (hb hby d7_74) 78 (by decide) ?_
              refine Own.g_istore X11 hx #[.val (.ref b), .val (.int (0 : Int32)), .val (.int (Int32.ofNat cs.length)), .val (.int (3 : Int32)), .val (.int x), .val (.int (1 : Int32))] (hb hby d7_78) rfl 80 rfl ?_
              refine Own.g_iload X11 hx (hb hby d7_80) rfl 82 rfl ?_
              refine Own.g_if_ne_t X11 hx (hb hby d7_82) (by decide) 87 (by decide) ?_
              refine Own.g_iinc X11 hx #[.val (.ref b), .val (.int (0 : Int32)), .val (.int (Int32.ofNat cs.length)), .val (.int (4 : Int32)), .val (.int x), .val (.int (1 : Int32))] (hb hby d7_87) rfl rfl 90 rfl ?_
              refine Own.g_goto X11 hx (hb hby d7_90) 9 (by decide) ?_
              exact st_isn4 hx hZ hw hby hml hown hret hlocks hEL hS hk CR b bt kb cs G1 G3 h0 x (X11.more (by decide) (by decide)) eH11 N11 O E_b F_b_value F_b_coder V_bt   O2 P5 O4 rG3 lat l4 hne (take_snoc hj hok (by rw [← hxd]; exact Or.inr (Or.inr (Or.inr (Classical.byContradiction (fun q => hq (hr11.mpr q)))))))
          · intro ag2
            refine Own.g_iload X1 hx (hb hby d7_56) rfl 58 rfl ?_
            refine Own.g_bipush X1 hx (57 : Int32) (hb hby d7_58) rfl 60 rfl ?_
            refine Own.g_icmp_le X1 hx (hb hby d7_60) 73 63 (by decide) rfl ?_ ?_
            · intro bg2
              refine Own.g_iconst X1 hx (1 : Int32) (hb hby d7_73) rfl 74 rfl ?_
              refine Own.g_goto X1 hx (hb hby d7_74) 78 (by decide) ?_
              refine Own.g_istore X1 hx #[.val (.ref b), .val (.int (0 : Int32)), .val (.int (Int32.ofNat cs.length)), .val (.int (3 : Int32)), .val (.int x), .val (.int (1 : Int32))] (hb hby d7_78) rfl 80 rfl ?_
              refine Own.g_iload X1 hx (hb hby d7_80) rfl 82 rfl ?_
              refine Own.g_if_ne_t X1 hx (hb hby d7_82) (by decide) 87 (by decide) ?_
              refine Own.g_iinc X1 hx #[.val (.ref b), .val (.int (0 : Int32)), .val (.int (Int32.ofNat cs.length)), .val (.int (4 : Int32)), .val (.int x), .val (.int (1 : Int32))] (hb hby d7_87) rfl rfl 90 rfl ?_
              refine Own.g_goto X1 hx (hb hby d7_90) 9 (by decide) ?_
              exact st_isn4 hx hZ hw hby hml hown hret hlocks hEL hS hk CR b bt kb cs G1 G3 h0 x (X1.more (by decide) (by decide)) eH1 N1 O E_b F_b_value F_b_coder V_bt   O2 P5 O4 rG3 lat l4 hne (take_snoc hj hok (by rw [← hxd]; exact Or.inr (Or.inr (Or.inl ⟨ag2, bg2⟩))))
            · intro bg2
              refine Own.w_ldc X1 hx hZ hown (hw _ (List.mem_of_getElem? (i := 77) rfl)) (own_wS hw) eH1 hS hk hEL (by decide) CR.1 [.int 45, .int 95, .int 46, .int 33, .int 126, .int 42, .int 39, .int 40, .int 41] 9 ⟨by decide, by first | rfl | decide⟩ (by decide) rfl (hb hby d7_63) 36 (by decide) (by decide) (by decide) (by decide) 65 rfl ?_
              intro la T12 h12 k12 lb k_lb X12 e12 E12 hS hk hZ hown E_la F_la_coder F_la_value V_lb C12 hne12
              replace E_b := E_b.ext E12
              replace F_b_value := F_b_value.ext E12
              replace F_b_coder := F_b_coder.ext E12
              replace V_bt := V_bt.ext E12
              replace O := O.ext E12
              replace CR := CR.trans C12
              refine Own.g_iload X12 hx (hb hby d7_65) rfl 67 rfl ?_
              have V_lb2 : Arv Z _ lb k_lb .byte (Int32.ofNat SPL.length) ((SPL.map fun c => c.toInt8.toInt32).map Value.int) (.int 0) := V_lb
              refine Own.g_virtual X12 hx hZ (y := (⟨"java/lang/String", "indexOf", "(I)I"⟩ : MethodName)) (z := (⟨"java/lang/String", "indexOf", "(I)I"⟩ : MethodName)) hown (mvT hZ (hw _ (List.mem_of_getElem? (i := 78) rfl))) (mvT hZ (hw _ (List.mem_of_getElem? (i := 79) rfl))) (notFace_of_selects (args := #[]) (mvT hZ (hw _ (List.mem_of_getElem? (i := 81) rfl)))) (mvT hZ (hw _ (List.mem_of_getElem? (i := 81) rfl))) (mvT hZ (hw _ (List.mem_of_getElem? (i := 80) rfl))) (by decide) (a := la) [.int x] (Own.back (W := 0) (rm_ix1 l Z a0 hw [] la lb k_lb x G1 h12 n0 O hlx O2 P5 E_la F_la_value F_la_coder V_lb2) hZ (hw _ (List.mem_of_getElem? (i := 82) rfl)) (hw _ (List.mem_of_getElem? (i := 3) rfl)) (by decide) (by decide)) E_la e12 (by rw [hml]; rfl) [] (lenOf pd_7 rfl) rfl (Nat.le_of_ble_eq_true rfl) (hb hby d7_67) (by decide) (by decide) 70 rfl ?_
              rintro _ T13 L13 X13 ⟨r13, rfl, hr13, N13q, eH13⟩
              have N13 := Fr.app N1 N13q
              show Own.Go p e below _ (T13.setTop (mkF m 70 #[.val (.ref b), .val (.int (0 : Int32)), .val (.int (Int32.ofNat cs.length)), .val (.int (3 : Int32)), .val (.int x), .val (.int (1 : Int32))] [(.int r13)]))
              refine Own.g_if_lt X13 hx (hb hby d7_70) 77 73 (by decide) rfl ?_ ?_
              · intro hq
                refine Own.g_iconst X13 hx (0 : Int32) (hb hby d7_77) rfl 78 rfl ?_
                refine Own.g_istore X13 hx #[.val (.ref b), .val (.int (0 : Int32)), .val (.int (Int32.ofNat cs.length)), .val (.int (3 : Int32)), .val (.int x), .val (.int (0 : Int32))] (hb hby d7_78) rfl 80 rfl ?_
                refine Own.g_iload X13 hx (hb hby d7_80) rfl 82 rfl ?_
                refine Own.g_if_ne_f X13 hx (hb hby d7_82) rfl 85 rfl ?_
                refine Own.g_iconst X13 hx (0 : Int32) (hb hby d7_85) rfl 86 rfl ?_
                refine Own.w_ret X13 hx hZ hEL hS hk CR hret hlocks rfl (Or.inl ⟨rfl, by simp, _, rfl⟩) (hb hby d7_86) (by decide) (by decide) eH13 ?_
                have nsp : ¬ spP x := hr13.mp hq
                exact ⟨by rw [if_neg (fun z => absurd (show okP x by rw [hxd]; exact z.2 _ (getD_mem hj)) (by simp [okP, nsp, ag0, bg0, ag1, ag2, bg2]))], N13⟩
              · intro hq
                refine Own.g_iconst X13 hx (1 : Int32) (hb hby d7_73) rfl 74 rfl ?_
                refine Own.g_goto X13 hx (hb hby d7_74) 78 (by decide) ?_
                refine Own.g_istore X13 hx #[.val (.ref b), .val (.int (0 : Int32)), .val (.int (Int32.ofNat cs.length)), .val (.int (3 : Int32)), .val (.int x), .val (.int (1 : Int32))] (hb hby d7_78) rfl 80 rfl ?_
                refine Own.g_iload X13 hx (hb hby d7_80) rfl 82 rfl ?_
                refine Own.g_if_ne_t X13 hx (hb hby d7_82) (by decide) 87 (by decide) ?_
                refine Own.g_iinc X13 hx #[.val (.ref b), .val (.int (0 : Int32)), .val (.int (Int32.ofNat cs.length)), .val (.int (4 : Int32)), .val (.int x), .val (.int (1 : Int32))] (hb hby d7_87) rfl rfl 90 rfl ?_
                refine Own.g_goto X13 hx (hb hby d7_90) 9 (by decide) ?_
                exact st_isn4 hx hZ hw hby hml hown hret hlocks hEL hS hk CR b bt kb cs G1 G3 h0 x (X13.more (by decide) (by decide)) eH13 N13 O E_b F_b_value F_b_coder V_bt   O2 P5 O4 rG3 lat l4 hne (take_snoc hj hok (by rw [← hxd]; exact Or.inr (Or.inr (Or.inr (Classical.byContradiction (fun q => hq (hr13.mpr q)))))))
        · intro ag1
          refine Own.g_iload X1 hx (hb hby d7_42) rfl 44 rfl ?_
          refine Own.g_bipush X1 hx (122 : Int32) (hb hby d7_44) rfl 46 rfl ?_
          refine Own.g_icmp_le X1 hx (hb hby d7_46) 73 49 (by decide) rfl ?_ ?_
          · intro bg1
            refine Own.g_iconst X1 hx (1 : Int32) (hb hby d7_73) rfl 74 rfl ?_
            refine Own.g_goto X1 hx (hb hby d7_74) 78 (by decide) ?_
            refine Own.g_istore X1 hx #[.val (.ref b), .val (.int (0 : Int32)), .val (.int (Int32.ofNat cs.length)), .val (.int (3 : Int32)), .val (.int x), .val (.int (1 : Int32))] (hb hby d7_78) rfl 80 rfl ?_
            refine Own.g_iload X1 hx (hb hby d7_80) rfl 82 rfl ?_
            refine Own.g_if_ne_t X1 hx (hb hby d7_82) (by decide) 87 (by decide) ?_
            refine Own.g_iinc X1 hx #[.val (.ref b), .val (.int (0 : Int32)), .val (.int (Int32.ofNat cs.length)), .val (.int (4 : Int32)), .val (.int x), .val (.int (1 : Int32))] (hb hby d7_87) rfl rfl 90 rfl ?_
            refine Own.g_goto X1 hx (hb hby d7_90) 9 (by decide) ?_
            exact st_isn4 hx hZ hw hby hml hown hret hlocks hEL hS hk CR b bt kb cs G1 G3 h0 x (X1.more (by decide) (by decide)) eH1 N1 O E_b F_b_value F_b_coder V_bt   O2 P5 O4 rG3 lat l4 hne (take_snoc hj hok (by rw [← hxd]; exact Or.inr (Or.inl ⟨ag1, bg1⟩)))
          · intro bg1
            refine Own.g_iload X1 hx (hb hby d7_49) rfl 51 rfl ?_
            refine Own.g_bipush X1 hx (48 : Int32) (hb hby d7_51) rfl 53 rfl ?_
            refine Own.g_icmp_lt X1 hx (hb hby d7_53) 63 56 (by decide) rfl ?_ ?_
            · intro ag2
              refine Own.w_ldc X1 hx hZ hown (hw _ (List.mem_of_getElem? (i := 77) rfl)) (own_wS hw) eH1 hS hk hEL (by decide) CR.1 [.int 45, .int 95, .int 46, .int 33, .int 126, .int 42, .int 39, .int 40, .int 41] 9 ⟨by decide, by first | rfl | decide⟩ (by decide) rfl (hb hby d7_63) 36 (by decide) (by decide) (by decide) (by decide) 65 rfl ?_
              intro la T14 h14 k14 lb k_lb X14 e14 E14 hS hk hZ hown E_la F_la_coder F_la_value V_lb C14 hne14
              replace E_b := E_b.ext E14
              replace F_b_value := F_b_value.ext E14
              replace F_b_coder := F_b_coder.ext E14
              replace V_bt := V_bt.ext E14
              replace O := O.ext E14
              replace CR := CR.trans C14
              refine Own.g_iload X14 hx (hb hby d7_65) rfl 67 rfl ?_
              have V_lb2 : Arv Z _ lb k_lb .byte (Int32.ofNat SPL.length) ((SPL.map fun c => c.toInt8.toInt32).map Value.int) (.int 0) := V_lb
              refine Own.g_virtual X14 hx hZ (y := (⟨"java/lang/String", "indexOf", "(I)I"⟩ : MethodName)) (z := (⟨"java/lang/String", "indexOf", "(I)I"⟩ : MethodName)) hown (mvT hZ (hw _ (List.mem_of_getElem? (i := 78) rfl))) (mvT hZ (hw _ (List.mem_of_getElem? (i := 79) rfl))) (notFace_of_selects (args := #[]) (mvT hZ (hw _ (List.mem_of_getElem? (i := 81) rfl)))) (mvT hZ (hw _ (List.mem_of_getElem? (i := 81) rfl))) (mvT hZ (hw _ (List.mem_of_getElem? (i := 80) rfl))) (by decide) (a := la) [.int x] (Own.back (W := 0) (rm_ix1 l Z a0 hw [] la lb k_lb x G1 h14 n0 O hlx O2 P5 E_la F_la_value F_la_coder V_lb2) hZ (hw _ (List.mem_of_getElem? (i := 82) rfl)) (hw _ (List.mem_of_getElem? (i := 3) rfl)) (by decide) (by decide)) E_la e14 (by rw [hml]; rfl) [] (lenOf pd_7 rfl) rfl (Nat.le_of_ble_eq_true rfl) (hb hby d7_67) (by decide) (by decide) 70 rfl ?_
              rintro _ T15 L15 X15 ⟨r15, rfl, hr15, N15q, eH15⟩
              have N15 := Fr.app N1 N15q
              show Own.Go p e below _ (T15.setTop (mkF m 70 #[.val (.ref b), .val (.int (0 : Int32)), .val (.int (Int32.ofNat cs.length)), .val (.int (3 : Int32)), .val (.int x), .val (.int (1 : Int32))] [(.int r15)]))
              refine Own.g_if_lt X15 hx (hb hby d7_70) 77 73 (by decide) rfl ?_ ?_
              · intro hq
                refine Own.g_iconst X15 hx (0 : Int32) (hb hby d7_77) rfl 78 rfl ?_
                refine Own.g_istore X15 hx #[.val (.ref b), .val (.int (0 : Int32)), .val (.int (Int32.ofNat cs.length)), .val (.int (3 : Int32)), .val (.int x), .val (.int (0 : Int32))] (hb hby d7_78) rfl 80 rfl ?_
                refine Own.g_iload X15 hx (hb hby d7_80) rfl 82 rfl ?_
                refine Own.g_if_ne_f X15 hx (hb hby d7_82) rfl 85 rfl ?_
                refine Own.g_iconst X15 hx (0 : Int32) (hb hby d7_85) rfl 86 rfl ?_
                refine Own.w_ret X15 hx hZ hEL hS hk CR hret hlocks rfl (Or.inl ⟨rfl, by simp, _, rfl⟩) (hb hby d7_86) (by decide) (by decide) eH15 ?_
                have nsp : ¬ spP x := hr15.mp hq
                exact ⟨by rw [if_neg (fun z => absurd (show okP x by rw [hxd]; exact z.2 _ (getD_mem hj)) (by simp [okP, nsp, ag0, bg0, ag1, bg1, ag2]))], N15⟩
              · intro hq
                refine Own.g_iconst X15 hx (1 : Int32) (hb hby d7_73) rfl 74 rfl ?_
                refine Own.g_goto X15 hx (hb hby d7_74) 78 (by decide) ?_
                refine Own.g_istore X15 hx #[.val (.ref b), .val (.int (0 : Int32)), .val (.int (Int32.ofNat cs.length)), .val (.int (3 : Int32)), .val (.int x), .val (.int (1 : Int32))] (hb hby d7_78) rfl 80 rfl ?_
                refine Own.g_iload X15 hx (hb hby d7_80) rfl 82 rfl ?_
                refine Own.g_if_ne_t X15 hx (hb hby d7_82) (by decide) 87 (by decide) ?_
                refine Own.g_iinc X15 hx #[.val (.ref b), .val (.int (0 : Int32)), .val (.int (Int32.ofNat cs.length)), .val (.int (4 : Int32)), .val (.int x), .val (.int (1 : Int32))] (hb hby d7_87) rfl rfl 90 rfl ?_
                refine Own.g_goto X15 hx (hb hby d7_90) 9 (by decide) ?_
                exact st_isn4 hx hZ hw hby hml hown hret hlocks hEL hS hk CR b bt kb cs G1 G3 h0 x (X15.more (by decide) (by decide)) eH15 N15 O E_b F_b_value F_b_coder V_bt   O2 P5 O4 rG3 lat l4 hne (take_snoc hj hok (by rw [← hxd]; exact Or.inr (Or.inr (Or.inr (Classical.byContradiction (fun q => hq (hr15.mpr q)))))))
            · intro ag2
              refine Own.g_iload X1 hx (hb hby d7_56) rfl 58 rfl ?_
              refine Own.g_bipush X1 hx (57 : Int32) (hb hby d7_58) rfl 60 rfl ?_
              refine Own.g_icmp_le X1 hx (hb hby d7_60) 73 63 (by decide) rfl ?_ ?_
              · intro bg2
                refine Own.g_iconst X1 hx (1 : Int32) (hb hby d7_73) rfl 74 rfl ?_
                refine Own.g_goto X1 hx (hb hby d7_74) 78 (by decide) ?_
                refine Own.g_istore X1 hx #[.val (.ref b), .val (.int (0 : Int32)), .val (.int (Int32.ofNat cs.length)), .val (.int (3 : Int32)), .val (.int x), .val (.int (1 : Int32))] (hb hby d7_78) rfl 80 rfl ?_
                refine Own.g_iload X1 hx (hb hby d7_80) rfl 82 rfl ?_
                refine Own.g_if_ne_t X1 hx (hb hby d7_82) (by decide) 87 (by decide) ?_
                refine Own.g_iinc X1 hx #[.val (.ref b), .val (.int (0 : Int32)), .val (.int (Int32.ofNat cs.length)), .val (.int (4 : Int32)), .val (.int x), .val (.int (1 : Int32))] (hb hby d7_87) rfl rfl 90 rfl ?_
                refine Own.g_goto X1 hx (hb hby d7_90) 9 (by decide) ?_
                exact st_isn4 hx hZ hw hby hml hown hret hlocks hEL hS hk CR b bt kb cs G1 G3 h0 x (X1.more (by decide) (by decide)) eH1 N1 O E_b F_b_value F_b_coder V_bt   O2 P5 O4 rG3 lat l4 hne (take_snoc hj hok (by rw [← hxd]; exact Or.inr (Or.inr (Or.inl ⟨ag2, bg2⟩))))
              · intro bg2
                refine Own.w_ldc X1 hx hZ hown (hw _ (List.mem_of_getElem? (i := 77) rfl)) (own_wS hw) eH1 hS hk hEL (by decide) CR.1 [.int 45, .int 95, .int 46, .int 33, .int 126, .int 42, .int 39, .int 40, .int 41] 9 ⟨by decide, by first | rfl | decide⟩ (by decide) rfl (hb hby d7_63) 36 (by decide) (by decide) (by decide) (by decide) 65 rfl ?_
                intro la T16 h16 k16 lb k_lb X16 e16 E16 hS hk hZ hown E_la F_la_coder F_la_value V_lb C16 hne16
                replace E_b := E_b.ext E16
                replace F_b_value := F_b_value.ext E16
                replace F_b_coder := F_b_coder.ext E16
                replace V_bt := V_bt.ext E16
                replace O := O.ext E16
                replace CR := CR.trans C16
                refine Own.g_iload X16 hx (hb hby d7_65) rfl 67 rfl ?_
                have V_lb2 : Arv Z _ lb k_lb .byte (Int32.ofNat SPL.length) ((SPL.map fun c => c.toInt8.toInt32).map Value.int) (.int 0) := V_lb
                refine Own.g_virtual X16 hx hZ (y := (⟨"java/lang/String", "indexOf", "(I)I"⟩ : MethodName)) (z := (⟨"java/lang/String", "indexOf", "(I)I"⟩ : MethodName)) hown (mvT hZ (hw _ (List.mem_of_getElem? (i := 78) rfl))) (mvT hZ (hw _ (List.mem_of_getElem? (i := 79) rfl))) (notFace_of_selects (args := #[]) (mvT hZ (hw _ (List.mem_of_getElem? (i := 81) rfl)))) (mvT hZ (hw _ (List.mem_of_getElem? (i := 81) rfl))) (mvT hZ (hw _ (List.mem_of_getElem? (i := 80) rfl))) (by decide) (a := la) [.int x] (Own.back (W := 0) (rm_ix1 l Z a0 hw [] la lb k_lb x G1 h16 n0 O hlx O2 P5 E_la F_la_value F_la_coder V_lb2) hZ (hw _ (List.mem_of_getElem? (i := 82) rfl)) (hw _ (List.mem_of_getElem? (i := 3) rfl)) (by decide) (by decide)) E_la e16 (by rw [hml]; rfl) [] (lenOf pd_7 rfl) rfl (Nat.le_of_ble_eq_true rfl) (hb hby d7_67) (by decide) (by decide) 70 rfl ?_
                rintro _ T17 L17 X17 ⟨r17, rfl, hr17, N17q, eH17⟩
                have N17 := Fr.app N1 N17q
                show Own.Go p e below _ (T17.setTop (mkF m 70 #[.val (.ref b), .val (.int (0 : Int32)), .val (.int (Int32.ofNat cs.length)), .val (.int (3 : Int32)), .val (.int x), .val (.int (1 : Int32))] [(.int r17)]))
                refine Own.g_if_lt X17 hx (hb hby d7_70) 77 73 (by decide) rfl ?_ ?_
                · intro hq
                  refine Own.g_iconst X17 hx (0 : Int32) (hb hby d7_77) rfl 78 rfl ?_
                  refine Own.g_istore X17 hx #[.val (.ref b), .val (.int (0 : Int32)), .val (.int (Int32.ofNat cs.length)), .val (.int (3 : Int32)), .val (.int x), .val (.int (0 : Int32))] (hb hby d7_78) rfl 80 rfl ?_
                  refine Own.g_iload X17 hx (hb hby d7_80) rfl 82 rfl ?_
                  refine Own.g_if_ne_f X17 hx (hb hby d7_82) rfl 85 rfl ?_
                  refine Own.g_iconst X17 hx (0 : Int32) (hb hby d7_85) rfl 86 rfl ?_
                  refine Own.w_ret X17 hx hZ hEL hS hk CR hret hlocks rfl (Or.inl ⟨rfl, by simp, _, rfl⟩) (hb hby d7_86) (by decide) (by decide) eH17 ?_
                  have nsp : ¬ spP x := hr17.mp hq
                  exact ⟨by rw [if_neg (fun z => absurd (show okP x by rw [hxd]; exact z.2 _ (getD_mem hj)) (by simp [okP, nsp, ag0, bg0, ag1, bg1, ag2, bg2]))], N17⟩
                · intro hq
                  refine Own.g_iconst X17 hx (1 : Int32) (hb hby d7_73) rfl 74 rfl ?_
                  refine Own.g_goto X17 hx (hb hby d7_74) 78 (by decide) ?_
                  refine Own.g_istore X17 hx #[.val (.ref b), .val (.int (0 : Int32)), .val (.int (Int32.ofNat cs.length)), .val (.int (3 : Int32)), .val (.int x), .val (.int (1 : Int32))] (hb hby d7_78) rfl 80 rfl ?_
                  refine Own.g_iload X17 hx (hb hby d7_80) rfl 82 rfl ?_
                  refine Own.g_if_ne_t X17 hx (hb hby d7_82) (by decide) 87 (by decide) ?_
                  refine Own.g_iinc X17 hx #[.val (.ref b), .val (.int (0 : Int32)), .val (.int (Int32.ofNat cs.length)), .val (.int (4 : Int32)), .val (.int x), .val (.int (1 : Int32))] (hb hby d7_87) rfl rfl 90 rfl ?_
                  refine Own.g_goto X17 hx (hb hby d7_90) 9 (by decide) ?_
                  exact st_isn4 hx hZ hw hby hml hown hret hlocks hEL hS hk CR b bt kb cs G1 G3 h0 x (X17.more (by decide) (by decide)) eH17 N17 O E_b F_b_value F_b_coder V_bt   O2 P5 O4 rG3 lat l4 hne (take_snoc hj hok (by rw [← hxd]; exact Or.inr (Or.inr (Or.inr (Classical.byContradiction (fun q => hq (hr17.mpr q)))))))
set_option maxRecDepth 65536 in
set_option maxHeartbeats 40000000 in
theorem st_isn2 {p : Program} {l : Launch} {e : Env} {s : State} {m : MethodId} {args : Array Value} {below : List Frame} {meth : Method} {c : Code} {T0 : State} {locs : List Loc} {Z : State} {a0 : Array Value} {hh : Heap} {n0 : Nat}  {vm : Vm} {k0 : Nat} (hx : p.tables.exec = Jvm.exec) (hZ : Z.Warmed39 (s.setVm vm).vm) (hw : ∀ d ∈ tables_1, d.before a0 Z = true) (hby : c.code = prog_11_method_4_code) (hml : c.maxLocals = 6) (hown : (s.setVm vm).vm.findClass "com/example/bowerbird/bowerbird/model/Names" = some m.cls) (hret : meth.sig.returnType = (some .boolean)) (hlocks : meth.locks = false) (hEL : EW Z a0 EL) (hS : s.Since vm k0) (hk : k0 ≤ hh.size) (CR : CHr Z EL s.vm s.heap vm hh)
    (b : Addr) (bt : Addr) (kb : ClassId) (cs : List Int32) (G1 : Int32) (G3 : Value) (h0 : Heap) (ch : Int32) (X0 : Stand p l e ({ frames := 4, cells := 8, slots := 160, locals := 59 } : Room) (s.setVm vm) m args below meth c T0 locs 4 80) (e0 : T0.heap = hh) (N0 : Fr n0 locs) (O : Old Z n0 hh) (E_b : Exa Z hh b "java/lang/String") (F_b_value : Fld Z hh b "java/lang/String" "value" "[B" (.ref bt)) (F_b_coder : Fld Z hh b "java/lang/String" "coder" "B" (.int 0)) (V_bt : Arv Z hh bt kb .byte (Int32.ofNat (cs).length) (((cs).map fun c => c.toInt8.toInt32).map Value.int) (.int 0))   (O2 : Sta Z Z.heap "java/lang/String" "COMPACT_STRINGS" "Z" (.int G1)) (P5 : ¬ (G1 = (0 : Int32))) (O4 : Sta Z Z.heap "jdk/internal/util/Preconditions" "SIOOBE_FORMATTER" "Ljava/util/function/BiFunction;" G3) (rG3 : G3.isRef = true) (lat : ∀ c ∈ cs, Own.Lat c) (l4 : cs.length ≤ 4) (hne : ¬ cs = []) (hok : ∀ c ∈ cs.take 2, okP c) :
    Own.Go p e below (Own.EndW Z EL s (Q_isn Z b bt kb cs G1 G3 h0 n0) 8 160) (T0.setTop (mkF m 9 #[.val (.ref b), .val (.int (0 : Int32)), .val (.int (Int32.ofNat cs.length)), .val (.int (2 : Int32)), .val (.int ch), .val (.int (1 : Int32))] [])) := by
  refine Own.g_iloadN X0 hx (hb hby d7_9) rfl 10 rfl ?_
  refine Own.g_iloadN X0 hx (hb hby d7_10) rfl 11 rfl ?_
  refine Own.g_icmp_ge X0 hx (hb hby d7_11) 93 14 (by decide) rfl ?_ ?_
  · intro hn
    replace hn : ¬ 2 < cs.length := fun q => hn ((lt_n l4 (j := (2 : Int32)) rfl).mpr q)
    refine Own.g_iconst X0 hx (1 : Int32) (hb hby d7_93) rfl 94 rfl ?_
    refine Own.w_ret X0 hx hZ hEL hS hk CR hret hlocks rfl (Or.inl ⟨rfl, by simp, _, rfl⟩) (hb hby d7_94) (by decide) (by decide) e0 ?_
    exact ⟨by rw [if_pos ⟨hne, take_all hn hok⟩], N0⟩
  · intro hn
    have hj : 2 < cs.length := (lt_n l4 (j := (2 : Int32)) rfl).mp hn
    have hch : ∀ d ∈ StrChars.Road.wordsChN, d.before a0 Z = true := fun d hd => hw d ((by decide +kernel : ∀ d ∈ StrChars.Road.wordsChN, d ∈ tables_1) d hd)
    refine Own.g_aloadN X0 hx (hb hby d7_14) rfl rfl 15 rfl ?_
    refine Own.g_iloadN X0 hx (hb hby d7_15) rfl 16 rfl ?_
    refine Own.g_virtual X0 hx hZ (y := (⟨"java/lang/String", "charAt", "(I)C"⟩ : MethodName)) (z := (⟨"java/lang/String", "charAt", "(I)C"⟩ : MethodName)) hown (mvT hZ (hw _ (List.mem_of_getElem? (i := 55) rfl))) (mvT hZ (hw _ (List.mem_of_getElem? (i := 56) rfl))) (notFace_of_selects (args := #[]) (mvT hZ (hw _ (List.mem_of_getElem? (i := 58) rfl)))) (mvT hZ (hw _ (List.mem_of_getElem? (i := 58) rfl))) (mvT hZ (hw _ (List.mem_of_getElem? (i := 57) rfl))) (by decide) (a := b) [.int (2 : Int32)] (Q := (Own.QVal hh (.int (cs.getD 2 0)))) (StrChars.Road.chN (W := 0) hZ hch (kI := 4) (hw _ (List.mem_of_getElem? (i := 2) rfl)) E_b F_b_value F_b_coder V_bt (StrChars.Road.codOf rfl (fun c hc => (lat c hc).2)) (Own.lat_up lat) (O2.ext O.2) P5 (O4.ext O.2) rG3 (l4k l4) (i := 2) hj (j := (2 : Int32)) rfl (by decide) (by decide)) E_b e0 (by rw [hml]; rfl) [] (lenOf pd_6 rfl) rfl (Nat.le_of_ble_eq_true rfl) (hb hby d7_16) (by decide) (by decide) 19 rfl ?_
    rintro _ T1 L1 X1 ⟨rfl, rfl, eH1⟩
    have N1 := Fr.app N0 (Fr.nil n0)
    show Own.Go p e below _ (T1.setTop (mkF m 19 #[.val (.ref b), .val (.int (0 : Int32)), .val (.int (Int32.ofNat cs.length)), .val (.int (2 : Int32)), .val (.int ch), .val (.int (1 : Int32))] [(.int (cs.getD 2 0))]))
    obtain ⟨x, hxd⟩ : ∃ x, x = cs.getD 2 0 := ⟨_, rfl⟩
    have hlx : Own.Lat x := by rw [hxd]; exact lat _ (getD_mem hj)
    rw [← hxd]
    refine Own.g_istore X1 hx #[.val (.ref b), .val (.int (0 : Int32)), .val (.int (Int32.ofNat cs.length)), .val (.int (2 : Int32)), .val (.int x), .val (.int (1 : Int32))] (hb hby d7_19) rfl 21 rfl ?_
    refine Own.g_iload X1 hx (hb hby d7_21) rfl 23 rfl ?_
    refine Own.g_bipush X1 hx (65 : Int32) (hb hby d7_23) rfl 25 rfl ?_
    refine Own.g_icmp_lt X1 hx (hb hby d7_25) 35 28 (by decide) rfl ?_ ?_
    · intro ag0
      refine Own.g_iload X1 hx (hb hby d7_35) rfl 37 rfl ?_
      refine Own.g_bipush X1 hx (97 : Int32) (hb hby d7_37) rfl 39 rfl ?_
      refine Own.g_icmp_lt X1 hx (hb hby d7_39) 49 42 (by decide) rfl ?_ ?_
      · intro ag1
        refine Own.g_iload X1 hx (hb hby d7_49) rfl 51 rfl ?_
        refine Own.g_bipush X1 hx (48 : Int32) (hb hby d7_51) rfl 53 rfl ?_
        refine Own.g_icmp_lt X1 hx (hb hby d7_53) 63 56 (by decide) rfl ?_ ?_
        · intro ag2
          refine Own.w_ldc X1 hx hZ hown (hw _ (List.mem_of_getElem? (i := 77) rfl)) (own_wS hw) eH1 hS hk hEL (by decide) CR.1 [.int 45, .int 95, .int 46, .int 33, .int 126, .int 42, .int 39, .int 40, .int 41] 9 ⟨by decide, by first | rfl | decide⟩ (by decide) rfl (hb hby d7_63) 36 (by decide) (by decide) (by decide) (by decide) 65 rfl ?_
          intro la T2 h2 k2 lb k_lb X2 e2 E2 hS hk hZ hown E_la F_la_coder F_la_value V_lb C2 hne2
          replace E_b := E_b.ext E2
          replace F_b_value := F_b_value.ext E2
          replace F_b_coder := F_b_coder.ext E2
          replace V_bt := V_bt.ext E2
          replace O := O.ext E2
          replace CR := CR.trans C2
          refine Own.g_iload X2 hx (hb hby d7_65) rfl 67 rfl ?_
          have V_lb2 : Arv Z _ lb k_lb .byte (Int32.ofNat SPL.length) ((SPL.map fun c => c.toInt8.toInt32).map Value.int) (.int 0) := V_lb
          refine Own.g_virtual X2 hx hZ (y := (⟨"java/lang/String", "indexOf", "(I)I"⟩ : MethodName)) (z := (⟨"java/lang/String", "indexOf", "(I)I"⟩ : MethodName)) hown (mvT hZ (hw _ (List.mem_of_getElem? (i := 78) rfl))) (mvT hZ (hw _ (List.mem_of_getElem? (i := 79) rfl))) (notFace_of_selects (args := #[]) (mvT hZ (hw _ (List.mem_of_getElem? (i := 81) rfl)))) (mvT hZ (hw _ (List.mem_of_getElem? (i := 81) rfl))) (mvT hZ (hw _ (List.mem_of_getElem? (i := 80) rfl))) (by decide) (a := la) [.int x] (Own.back (W := 0) (rm_ix1 l Z a0 hw [] la lb k_lb x G1 h2 n0 O hlx O2 P5 E_la F_la_value F_la_coder V_lb2) hZ (hw _ (List.mem_of_getElem? (i := 82) rfl)) (hw _ (List.mem_of_getElem? (i := 3) rfl)) (by decide) (by decide)) E_la e2 (by rw [hml]; rfl) [] (lenOf pd_7 rfl) rfl (Nat.le_of_ble_eq_true rfl) (hb hby d7_67) (by decide) (by decide) 70 rfl ?_
          rintro _ T3 L3 X3 ⟨r3, rfl, hr3, N3q, eH3⟩
          have N3 := Fr.app N1 N3q
          show Own.Go p e below _ (T3.setTop (mkF m 70 #[.val (.ref b), .val (.int (0 : Int32)), .val (.int (Int32.ofNat cs.length)), .val (.int (2 : Int32)), .val (.int x), .val (.int (1 : Int32))] [(.int r3)]))
          refine Own.g_if_lt X3 hx (hb hby d7_70) 77 73 (by decide) rfl ?_ ?_
          · intro hq
            refine Own.g_iconst X3 hx (0 : Int32) (hb hby d7_77) rfl 78 rfl ?_
            refine Own.g_istore X3 hx #[.val (.ref b), .val (.int (0 : Int32)), .val (.int (Int32.ofNat cs.length)), .val (.int (2 : Int32)), .val (.int x), .val (.int (0 : Int32))] (hb hby d7_78) rfl 80 rfl ?_
            refine Own.g_iload X3 hx (hb hby d7_80) rfl 82 rfl ?_
            refine Own.g_if_ne_f X3 hx (hb hby d7_82) rfl 85 rfl ?_
            refine Own.g_iconst X3 hx (0 : Int32) (hb hby d7_85) rfl 86 rfl ?_
            refine Own.w_ret X3 hx hZ hEL hS hk CR hret hlocks rfl (Or.inl ⟨rfl, by simp, _, rfl⟩) (hb hby d7_86) (by decide) (by decide) eH3 ?_
            have nsp : ¬ spP x := hr3.mp hq
            exact ⟨by rw [if_neg (fun z => absurd (show okP x by rw [hxd]; exact z.2 _ (getD_mem hj)) (by simp [okP, nsp, ag0, ag1, ag2]))], N3⟩
          · intro hq
            refine Own.g_iconst X3 hx (1 : Int32) (hb hby d7_73) rfl 74 rfl ?_
            refine Own.g_goto X3 hx (hb hby d7_74) 78 (by decide) ?_
            refine Own.g_istore X3 hx #[.val (.ref b), .val (.int (0 : Int32)), .val (.int (Int32.ofNat cs.length)), .val (.int (2 : Int32)), .val (.int x), .val (.int (1 : Int32))] (hb hby d7_78) rfl 80 rfl ?_
            refine Own.g_iload X3 hx (hb hby d7_80) rfl 82 rfl ?_
            refine Own.g_if_ne_t X3 hx (hb hby d7_82) (by decide) 87 (by decide) ?_
            refine Own.g_iinc X3 hx #[.val (.ref b), .val (.int (0 : Int32)), .val (.int (Int32.ofNat cs.length)), .val (.int (3 : Int32)), .val (.int x), .val (.int (1 : Int32))] (hb hby d7_87) rfl rfl 90 rfl ?_
            refine Own.g_goto X3 hx (hb hby d7_90) 9 (by decide) ?_
            exact st_isn3 hx hZ hw hby hml hown hret hlocks hEL hS hk CR b bt kb cs G1 G3 h0 x (X3.more (by decide) (by decide)) eH3 N3 O E_b F_b_value F_b_coder V_bt   O2 P5 O4 rG3 lat l4 hne (take_snoc hj hok (by rw [← hxd]; exact Or.inr (Or.inr (Or.inr (Classical.byContradiction (fun q => hq (hr3.mpr q)))))))
        · intro ag2
          refine Own.g_iload X1 hx (hb hby d7_56) rfl 58 rfl ?_
          refine Own.g_bipush X1 hx (57 : Int32) (hb hby d7_58) rfl 60 rfl ?_
          refine Own.g_icmp_le X1 hx (hb hby d7_60) 73 63 (by decide) rfl ?_ ?_
          · intro bg2
            refine Own.g_iconst X1 hx (1 : Int32) (hb hby d7_73) rfl 74 rfl ?_
            refine Own.g_goto X1 hx (hb hby d7_74) 78 (by decide) ?_
            refine Own.g_istore X1 hx #[.val (.ref b), .val (.int (0 : Int32)), .val (.int (Int32.ofNat cs.length)), .val (.int (2 : Int32)), .val (.int x), .val (.int (1 : Int32))] (hb hby d7_78) rfl 80 rfl ?_
            refine Own.g_iload X1 hx (hb hby d7_80) rfl 82 rfl ?_
            refine Own.g_if_ne_t X1 hx (hb hby d7_82) (by decide) 87 (by decide) ?_
            refine Own.g_iinc X1 hx #[.val (.ref b), .val (.int (0 : Int32)), .val (.int (Int32.ofNat cs.length)), .val (.int (3 : Int32)), .val (.int x), .val (.int (1 : Int32))] (hb hby d7_87) rfl rfl 90 rfl ?_
            refine Own.g_goto X1 hx (hb hby d7_90) 9 (by decide) ?_
            exact st_isn3 hx hZ hw hby hml hown hret hlocks hEL hS hk CR b bt kb cs G1 G3 h0 x (X1.more (by decide) (by decide)) eH1 N1 O E_b F_b_value F_b_coder V_bt   O2 P5 O4 rG3 lat l4 hne (take_snoc hj hok (by rw [← hxd]; exact Or.inr (Or.inr (Or.inl ⟨ag2, bg2⟩))))
          · intro bg2
            refine Own.w_ldc X1 hx hZ hown (hw _ (List.mem_of_getElem? (i := 77) rfl)) (own_wS hw) eH1 hS hk hEL (by decide) CR.1 [.int 45, .int 95, .int 46, .int 33, .int 126, .int 42, .int 39, .int 40, .int 41] 9 ⟨by decide, by first | rfl | decide⟩ (by decide) rfl (hb hby d7_63) 36 (by decide) (by decide) (by decide) (by decide) 65 rfl ?_
            intro la T4 h4 k4 lb k_lb X4 e4 E4 hS hk hZ hown E_la F_la_coder F_la_value V_lb C4 hne4
            replace E_b := E_b.ext E4
            replace F_b_value := F_b_value.ext E4
            replace F_b_coder := F_b_coder.ext E4
            replace V_bt := V_bt.ext E4
            replace O := O.ext E4
            replace CR := CR.trans C4
            refine Own.g_iload X4 hx (hb hby d7_65) rfl 67 rfl ?_
            have V_lb2 : Arv Z _ lb k_lb .byte (Int32.ofNat SPL.length) ((SPL.map fun c => c.toInt8.toInt32).map Value.int) (.int 0) := V_lb
            refine Own.g_virtual X4 hx hZ (y := (⟨"java/lang/String", "indexOf", "(I)I"⟩ : MethodName)) (z := (⟨"java/lang/String", "indexOf", "(I)I"⟩ : MethodName)) hown (mvT hZ (hw _ (List.mem_of_getElem? (i := 78) rfl))) (mvT hZ (hw _ (List.mem_of_getElem? (i := 79) rfl))) (notFace_of_selects (args := #[]) (mvT hZ (hw _ (List.mem_of_getElem? (i := 81) rfl)))) (mvT hZ (hw _ (List.mem_of_getElem? (i := 81) rfl))) (mvT hZ (hw _ (List.mem_of_getElem? (i := 80) rfl))) (by decide) (a := la) [.int x] (Own.back (W := 0) (rm_ix1 l Z a0 hw [] la lb k_lb x G1 h4 n0 O hlx O2 P5 E_la F_la_value F_la_coder V_lb2) hZ (hw _ (List.mem_of_getElem? (i := 82) rfl)) (hw _ (List.mem_of_getElem? (i := 3) rfl)) (by decide) (by decide)) E_la e4 (by rw [hml]; rfl) [] (lenOf pd_7 rfl) rfl (Nat.le_of_ble_eq_true rfl) (hb hby d7_67) (by decide) (by decide) 70 rfl ?_
            rintro _ T5 L5 X5 ⟨r5, rfl, hr5, N5q, eH5⟩
            have N5 := Fr.app N1 N5q
            show Own.Go p e below _ (T5.setTop (mkF m 70 #[.val (.ref b), .val (.int (0 : Int32)), .val (.int (Int32.ofNat cs.length)), .val (.int (2 : Int32)), .val (.int x), .val (.int (1 : Int32))] [(.int r5)]))
            refine Own.g_if_lt X5 hx (hb hby d7_70) 77 73 (by decide) rfl ?_ ?_
            · intro hq
              refine Own.g_iconst X5 hx (0 : Int32) (hb hby d7_77) rfl 78 rfl ?_
              refine Own.g_istore X5 hx #[.val (.ref b), .val (.int (0 : Int32)), .val (.int (Int32.ofNat cs.length)), .val (.int (2 : Int32)), .val (.int x), .val (.int (0 : Int32))] (hb hby d7_78) rfl 80 rfl ?_
              refine Own.g_iload X5 hx (hb hby d7_80) rfl 82 rfl ?_
              refine Own.g_if_ne_f X5 hx (hb hby d7_82) rfl 85 rfl ?_
              refine Own.g_iconst X5 hx (0 : Int32) (hb hby d7_85) rfl 86 rfl ?_
              refine Own.w_ret X5 hx hZ hEL hS hk CR hret hlocks rfl (Or.inl ⟨rfl, by simp, _, rfl⟩) (hb hby d7_86) (by decide) (by decide) eH5 ?_
              have nsp : ¬ spP x := hr5.mp hq
              exact ⟨by rw [if_neg (fun z => absurd (show okP x by rw [hxd]; exact z.2 _ (getD_mem hj)) (by simp [okP, nsp, ag0, ag1, ag2, bg2]))], N5⟩
            · intro hq
              refine Own.g_iconst X5 hx (1 : Int32) (hb hby d7_73) rfl 74 rfl ?_
              refine Own.g_goto X5 hx (hb hby d7_74) 78 (by decide) ?_
              refine Own.g_istore X5 hx #[.val (.ref b), .val (.int (0 : Int32)), .val (.int (Int32.ofNat cs.length)), .val (.int (2 : Int32)), .val (.int x), .val (.int (1 : Int32))] (hb hby d7_78) rfl 80 rfl ?_
              refine Own.g_iload X5 hx (hb hby d7_80) rfl 82 rfl ?_
              refine Own.g_if_ne_t X5 hx (hb hby d7_82) (by decide) 87 (by decide) ?_
              refine Own.g_iinc X5 hx #[.val (.ref b), .val (.int (0 : Int32)), .val (.int (Int32.ofNat cs.length)), .val (.int (3 : Int32)), .val (.int x), .val (.int (1 : Int32))] (hb hby d7_87) rfl rfl 90 rfl ?_
              refine Own.g_goto X5 hx (hb hby d7_90) 9 (by decide) ?_
              exact st_isn3 hx hZ hw hby hml hown hret hlocks hEL hS hk CR b bt kb cs G1 G3 h0 x (X5.more (by decide) (by decide)) eH5 N5 O E_b F_b_value F_b_coder V_bt   O2 P5 O4 rG3 lat l4 hne (take_snoc hj hok (by rw [← hxd]; exact Or.inr (Or.inr (Or.inr (Classical.byContradiction (fun q => hq (hr5.mpr q)))))))
      · intro ag1
        refine Own.g_iload X1 hx (hb hby d7_42) rfl 44 rfl ?_
        refine Own.g_bipush X1 hx (122 : Int32) (hb hby d7_44) rfl 46 rfl ?_
        refine Own.g_icmp_le X1 hx (hb hby d7_46) 73 49 (by decide) rfl ?_ ?_
        · intro bg1
          refine Own.g_iconst X1 hx (1 : Int32) (hb hby d7_73) rfl 74 rfl ?_
          refine Own.g_goto X1 hx (hb hby d7_74) 78 (by decide) ?_
          refine Own.g_istore X1 hx #[.val (.ref b), .val (.int (0 : Int32)), .val (.int (Int32.ofNat cs.length)), .val (.int (2 : Int32)), .val (.int x), .val (.int (1 : Int32))] (hb hby d7_78) rfl 80 rfl ?_
          refine Own.g_iload X1 hx (hb hby d7_80) rfl 82 rfl ?_
          refine Own.g_if_ne_t X1 hx (hb hby d7_82) (by decide) 87 (by decide) ?_
          refine Own.g_iinc X1 hx #[.val (.ref b), .val (.int (0 : Int32)), .val (.int (Int32.ofNat cs.length)), .val (.int (3 : Int32)), .val (.int x), .val (.int (1 : Int32))] (hb hby d7_87) rfl rfl 90 rfl ?_
          refine Own.g_goto X1 hx (hb hby d7_90) 9 (by decide) ?_
          exact st_isn3 hx hZ hw hby hml hown hret hlocks hEL hS hk CR b bt kb cs G1 G3 h0 x (X1.more (by decide) (by decide)) eH1 N1 O E_b F_b_value F_b_coder V_bt   O2 P5 O4 rG3 lat l4 hne (take_snoc hj hok (by rw [← hxd]; exact Or.inr (Or.inl ⟨ag1, bg1⟩)))
        · intro bg1
          refine Own.g_iload X1 hx (hb hby d7_49) rfl 51 rfl ?_
          refine Own.g_bipush X1 hx (48 : Int32) (hb hby d7_51) rfl 53 rfl ?_
          refine Own.g_icmp_lt X1 hx (hb hby d7_53) 63 56 (by decide) rfl ?_ ?_
          · intro ag2
            refine Own.w_ldc X1 hx hZ hown (hw _ (List.mem_of_getElem? (i := 77) rfl)) (own_wS hw) eH1 hS hk hEL (by decide) CR.1 [.int 45, .int 95, .int 46, .int 33, .int 126, .int 42, .int 39, .int 40, .int 41] 9 ⟨by decide, by first | rfl | decide⟩ (by decide) rfl (hb hby d7_63) 36 (by decide) (by decide) (by decide) (by decide) 65 rfl ?_
            intro la T6 h6 k6 lb k_lb X6 e6 E6 hS hk hZ hown E_la F_la_coder F_la_value V_lb C6 hne6
            replace E_b := E_b.ext E6
            replace F_b_value := F_b_value.ext E6
            replace F_b_coder := F_b_coder.ext E6
            replace V_bt := V_bt.ext E6
            replace O := O.ext E6
            replace CR := CR.trans C6
            refine Own.g_iload X6 hx (hb hby d7_65) rfl 67 rfl ?_
            have V_lb2 : Arv Z _ lb k_lb .byte (Int32.ofNat SPL.length) ((SPL.map fun c => c.toInt8.toInt32).map Value.int) (.int 0) := V_lb
            refine Own.g_virtual X6 hx hZ (y := (⟨"java/lang/String", "indexOf", "(I)I"⟩ : MethodName)) (z := (⟨"java/lang/String", "indexOf", "(I)I"⟩ : MethodName)) hown (mvT hZ (hw _ (List.mem_of_getElem? (i := 78) rfl))) (mvT hZ (hw _ (List.mem_of_getElem? (i := 79) rfl))) (notFace_of_selects (args := #[]) (mvT hZ (hw _ (List.mem_of_getElem? (i := 81) rfl)))) (mvT hZ (hw _ (List.mem_of_getElem? (i := 81) rfl))) (mvT hZ (hw _ (List.mem_of_getElem? (i := 80) rfl))) (by decide) (a := la) [.int x] (Own.back (W := 0) (rm_ix1 l Z a0 hw [] la lb k_lb x G1 h6 n0 O hlx O2 P5 E_la F_la_value F_la_coder V_lb2) hZ (hw _ (List.mem_of_getElem? (i := 82) rfl)) (hw _ (List.mem_of_getElem? (i := 3) rfl)) (by decide) (by decide)) E_la e6 (by rw [hml]; rfl) [] (lenOf pd_7 rfl) rfl (Nat.le_of_ble_eq_true rfl) (hb hby d7_67) (by decide) (by decide) 70 rfl ?_
            rintro _ T7 L7 X7 ⟨r7, rfl, hr7, N7q, eH7⟩
            have N7 := Fr.app N1 N7q
            show Own.Go p e below _ (T7.setTop (mkF m 70 #[.val (.ref b), .val (.int (0 : Int32)), .val (.int (Int32.ofNat cs.length)), .val (.int (2 : Int32)), .val (.int x), .val (.int (1 : Int32))] [(.int r7)]))
            refine Own.g_if_lt X7 hx (hb hby d7_70) 77 73 (by decide) rfl ?_ ?_
            · intro hq
              refine Own.g_iconst X7 hx (0 : Int32) (hb hby d7_77) rfl 78 rfl ?_
              refine Own.g_istore X7 hx #[.val (.ref b), .val (.int (0 : Int32)), .val (.int (Int32.ofNat cs.length)), .val (.int (2 : Int32)), .val (.int x), .val (.int (0 : Int32))] (hb hby d7_78) rfl 80 rfl ?_
              refine Own.g_iload X7 hx (hb hby d7_80) rfl 82 rfl ?_
              refine Own.g_if_ne_f X7 hx (hb hby d7_82) rfl 85 rfl ?_
              refine Own.g_iconst X7 hx (0 : Int32) (hb hby d7_85) rfl 86 rfl ?_
              refine Own.w_ret X7 hx hZ hEL hS hk CR hret hlocks rfl (Or.inl ⟨rfl, by simp, _, rfl⟩) (hb hby d7_86) (by decide) (by decide) eH7 ?_
              have nsp : ¬ spP x := hr7.mp hq
              exact ⟨by rw [if_neg (fun z => absurd (show okP x by rw [hxd]; exact z.2 _ (getD_mem hj)) (by simp [okP, nsp, ag0, ag1, bg1, ag2]))], N7⟩
            · intro hq
              refine Own.g_iconst X7 hx (1 : Int32) (hb hby d7_73) rfl 74 rfl ?_
              refine Own.g_goto X7 hx (hb hby d7_74) 78 (by decide) ?_
              refine Own.g_istore X7 hx #[.val (.ref b), .val (.int (0 : Int32)), .val (.int (Int32.ofNat cs.length)), .val (.int (2 : Int32)), .val (.int x), .val (.int (1 : Int32))] (hb hby d7_78) rfl 80 rfl ?_
              refine Own.g_iload X7 hx (hb hby d7_80) rfl 82 rfl ?_
              refine Own.g_if_ne_t X7 hx (hb hby d7_82) (by decide) 87 (by decide) ?_
              refine Own.g_iinc X7 hx #[.val (.ref b), .val (.int (0 : Int32)), .val (.int (Int32.ofNat cs.length)), .val (.int (3 : Int32)), .val (.int x), .val (.int (1 : Int32))] (hb hby d7_87) rfl rfl 90 rfl ?_
              refine Own.g_goto X7 hx (hb hby d7_90) 9 (by decide) ?_
              exact st_isn3 hx hZ hw hby hml hown hret hlocks hEL hS hk CR b bt kb cs G1 G3 h0 x (X7.more (by decide) (by decide)) eH7 N7 O E_b F_b_value F_b_coder V_bt   O2 P5 O4 rG3 lat l4 hne (take_snoc hj hok (by rw [← hxd]; exact Or.inr (Or.inr (Or.inr (Classical.byContradiction (fun q => hq (hr7.mpr q)))))))
          · intro ag2
            refine Own.g_iload X1 hx (hb hby d7_56) rfl 58 rfl ?_
            refine Own.g_bipush X1 hx (57 : Int32) (hb hby d7_58) rfl 60 rfl ?_
            refine Own.g_icmp_le X1 hx (hb hby d7_60) 73 63 (by decide) rfl ?_ ?_
            · intro bg2
              refine Own.g_iconst X1 hx (1 : Int32) (hb hby d7_73) rfl 74 rfl ?_
              refine Own.g_goto X1 hx (hb hby d7_74) 78 (by decide) ?_
              refine Own.g_istore X1 hx #[.val (.ref b), .val (.int (0 : Int32)), .val (.int (Int32.ofNat cs.length)), .val (.int (2 : Int32)), .val (.int x), .val (.int (1 : Int32))] (hb hby d7_78) rfl 80 rfl ?_
              refine Own.g_iload X1 hx (hb hby d7_80) rfl 82 rfl ?_
              refine Own.g_if_ne_t X1 hx (hb hby d7_82) (by decide) 87 (by decide) ?_
              refine Own.g_iinc X1 hx #[.val (.ref b), .val (.int (0 : Int32)), .val (.int (Int32.ofNat cs.length)), .val (.int (3 : Int32)), .val (.int x), .val (.int (1 : Int32))] (hb hby d7_87) rfl rfl 90 rfl ?_
              refine Own.g_goto X1 hx (hb hby d7_90) 9 (by decide) ?_
              exact st_isn3 hx hZ hw hby hml hown hret hlocks hEL hS hk CR b bt kb cs G1 G3 h0 x (X1.more (by decide) (by decide)) eH1 N1 O E_b F_b_value F_b_coder V_bt   O2 P5 O4 rG3 lat l4 hne (take_snoc hj hok (by rw [← hxd]; exact Or.inr (Or.inr (Or.inl ⟨ag2, bg2⟩))))
            · intro bg2
              refine Own.w_ldc X1 hx hZ hown (hw _ (List.mem_of_getElem? (i := 77) rfl)) (own_wS hw) eH1 hS hk hEL (by decide) CR.1 [.int 45, .int 95, .int 46, .int 33, .int 126, .int 42, .int 39, .int 40, .int 41] 9 ⟨by decide, by first | rfl | decide⟩ (by decide) rfl (hb hby d7_63) 36 (by decide) (by decide) (by decide) (by decide) 65 rfl ?_
              intro la T8 h8 k8 lb k_lb X8 e8 E8 hS hk hZ hown E_la F_la_coder F_la_value V_lb C8 hne8
              replace E_b := E_b.ext E8
              replace F_b_value := F_b_value.ext E8
              replace F_b_coder := F_b_coder.ext E8
              replace V_bt := V_bt.ext E8
              replace O := O.ext E8
              replace CR := CR.trans C8
              refine Own.g_iload X8 hx (hb hby d7_65) rfl 67 rfl ?_
              have V_lb2 : Arv Z _ lb k_lb .byte (Int32.ofNat SPL.length) ((SPL.map fun c => c.toInt8.toInt32).map Value.int) (.int 0) := V_lb
              refine Own.g_virtual X8 hx hZ (y := (⟨"java/lang/String", "indexOf", "(I)I"⟩ : MethodName)) (z := (⟨"java/lang/String", "indexOf", "(I)I"⟩ : MethodName)) hown (mvT hZ (hw _ (List.mem_of_getElem? (i := 78) rfl))) (mvT hZ (hw _ (List.mem_of_getElem? (i := 79) rfl))) (notFace_of_selects (args := #[]) (mvT hZ (hw _ (List.mem_of_getElem? (i := 81) rfl)))) (mvT hZ (hw _ (List.mem_of_getElem? (i := 81) rfl))) (mvT hZ (hw _ (List.mem_of_getElem? (i := 80) rfl))) (by decide) (a := la) [.int x] (Own.back (W := 0) (rm_ix1 l Z a0 hw [] la lb k_lb x G1 h8 n0 O hlx O2 P5 E_la F_la_value F_la_coder V_lb2) hZ (hw _ (List.mem_of_getElem? (i := 82) rfl)) (hw _ (List.mem_of_getElem? (i := 3) rfl)) (by decide) (by decide)) E_la e8 (by rw [hml]; rfl) [] (lenOf pd_7 rfl) rfl (Nat.le_of_ble_eq_true rfl) (hb hby d7_67) (by decide) (by decide) 70 rfl ?_
              rintro _ T9 L9 X9 ⟨r9, rfl, hr9, N9q, eH9⟩
              have N9 := Fr.app N1 N9q
              show Own.Go p e below _ (T9.setTop (mkF m 70 #[.val (.ref b), .val (.int (0 : Int32)), .val (.int (Int32.ofNat cs.length)), .val (.int (2 : Int32)), .val (.int x), .val (.int (1 : Int32))] [(.int r9)]))
              refine Own.g_if_lt X9 hx (hb hby d7_70) 77 73 (by decide) rfl ?_ ?_
              · intro hq
                refine Own.g_iconst X9 hx (0 : Int32) (hb hby d7_77) rfl 78 rfl ?_
                refine Own.g_istore X9 hx #[.val (.ref b), .val (.int (0 : Int32)), .val (.int (Int32.ofNat cs.length)), .val (.int (2 : Int32)), .val (.int x), .val (.int (0 : Int32))] (hb hby d7_78) rfl 80 rfl ?_
                refine Own.g_iload X9 hx (hb hby d7_80) rfl 82 rfl ?_
                refine Own.g_if_ne_f X9 hx (hb hby d7_82) rfl 85 rfl ?_
                refine Own.g_iconst X9 hx (0 : Int32) (hb hby d7_85) rfl 86 rfl ?_
                refine Own.w_ret X9 hx hZ hEL hS hk CR hret hlocks rfl (Or.inl ⟨rfl, by simp, _, rfl⟩) (hb hby d7_86) (by decide) (by decide) eH9 ?_
                have nsp : ¬ spP x := hr9.mp hq
                exact ⟨by rw [if_neg (fun z => absurd (show okP x by rw [hxd]; exact z.2 _ (getD_mem hj)) (by simp [okP, nsp, ag0, ag1, bg1, ag2, bg2]))], N9⟩
              · intro hq
                refine Own.g_iconst X9 hx (1 : Int32) (hb hby d7_73) rfl 74 rfl ?_
                refine Own.g_goto X9 hx (hb hby d7_74) 78 (by decide) ?_
                refine Own.g_istore X9 hx #[.val (.ref b), .val (.int (0 : Int32)), .val (.int (Int32.ofNat cs.length)), .val (.int (2 : Int32)), .val (.int x), .val (.int (1 : Int32))] (hb hby d7_78) rfl 80 rfl ?_
                refine Own.g_iload X9 hx (hb hby d7_80) rfl 82 rfl ?_
                refine Own.g_if_ne_t X9 hx (hb hby d7_82) (by decide) 87 (by decide) ?_
                refine Own.g_iinc X9 hx #[.val (.ref b), .val (.int (0 : Int32)), .val (.int (Int32.ofNat cs.length)), .val (.int (3 : Int32)), .val (.int x), .val (.int (1 : Int32))] (hb hby d7_87) rfl rfl 90 rfl ?_
                refine Own.g_goto X9 hx (hb hby d7_90) 9 (by decide) ?_
                exact st_isn3 hx hZ hw hby hml hown hret hlocks hEL hS hk CR b bt kb cs G1 G3 h0 x (X9.more (by decide) (by decide)) eH9 N9 O E_b F_b_value F_b_coder V_bt   O2 P5 O4 rG3 lat l4 hne (take_snoc hj hok (by rw [← hxd]; exact Or.inr (Or.inr (Or.inr (Classical.byContradiction (fun q => hq (hr9.mpr q)))))))
    · intro ag0
      refine Own.g_iload X1 hx (hb hby d7_28) rfl 30 rfl ?_
      refine Own.g_bipush X1 hx (90 : Int32) (hb hby d7_30) rfl 32 rfl ?_
      refine Own.g_icmp_le X1 hx (hb hby d7_32) 73 35 (by decide) rfl ?_ ?_
      · intro bg0
        refine Own.g_iconst X1 hx (1 : Int32) (hb hby d7_73) rfl 74 rfl ?_
        refine Own.g_goto X1 hx (hb hby d7_74) 78 (by decide) ?_
        refine Own.g_istore X1 hx #[.val (.ref b), .val (.int (0 : Int32)), .val (.int (Int32.ofNat cs.length)), .val (.int (2 : Int32)), .val (.int x), .val (.int (1 : Int32))] (hb hby d7_78) rfl 80 rfl ?_
        refine Own.g_iload X1 hx (hb hby d7_80) rfl 82 rfl ?_
        refine Own.g_if_ne_t X1 hx (hb hby d7_82) (by decide) 87 (by decide) ?_
        refine Own.g_iinc X1 hx #[.val (.ref b), .val (.int (0 : Int32)), .val (.int (Int32.ofNat cs.length)), .val (.int (3 : Int32)), .val (.int x), .val (.int (1 : Int32))] (hb hby d7_87) rfl rfl 90 rfl ?_
        refine Own.g_goto X1 hx (hb hby d7_90) 9 (by decide) ?_
        exact st_isn3 hx hZ hw hby hml hown hret hlocks hEL hS hk CR b bt kb cs G1 G3 h0 x (X1.more (by decide) (by decide)) eH1 N1 O E_b F_b_value F_b_coder V_bt   O2 P5 O4 rG3 lat l4 hne (take_snoc hj hok (by rw [← hxd]; exact Or.inl ⟨ag0, bg0⟩))
      · intro bg0
        refine Own.g_iload X1 hx (hb hby d7_35) rfl 37 rfl ?_
        refine Own.g_bipush X1 hx (97 : Int32) (hb hby d7_37) rfl 39 rfl ?_
        refine Own.g_icmp_lt X1 hx (hb hby d7_39) 49 42 (by decide) rfl ?_ ?_
        · intro ag1
          refine Own.g_iload X1 hx (hb hby d7_49) rfl 51 rfl ?_
          refine Own.g_bipush X1 hx (48 : Int32) (hb hby d7_51) rfl 53 rfl ?_
          refine Own.g_icmp_lt X1 hx (hb hby d7_53) 63 56 (by decide) rfl ?_ ?_
          · intro ag2
            refine Own.w_ldc X1 hx hZ hown (hw _ (List.mem_of_getElem? (i := 77) rfl)) (own_wS hw) eH1 hS hk hEL (by decide) CR.1 [.int 45, .int 95, .int 46, .int 33, .int 126, .int 42, .int 39, .int 40, .int 41] 9 ⟨by decide, by first | rfl | decide⟩ (by decide) rfl (hb hby d7_63) 36 (by decide) (by decide) (by decide) (by decide) 65 rfl ?_
            intro la T10 h10 k10 lb k_lb X10 e10 E10 hS hk hZ hown E_la F_la_coder F_la_value V_lb C10 hne10
            replace E_b := E_b.ext E10
            replace F_b_value := F_b_value.ext E10
            replace F_b_coder := F_b_coder.ext E10
            replace V_bt := V_bt.ext E10
            replace O := O.ext E10
            replace CR := CR.trans C10
            refine Own.g_iload X10 hx (hb hby d7_65) rfl 67 rfl ?_
            have V_lb2 : Arv Z _ lb k_lb .byte (Int32.ofNat SPL.length) ((SPL.map fun c => c.toInt8.toInt32).map Value.int) (.int 0) := V_lb
            refine Own.g_virtual X10 hx hZ (y := (⟨"java/lang/String", "indexOf", "(I)I"⟩ : MethodName)) (z := (⟨"java/lang/String", "indexOf", "(I)I"⟩ : MethodName)) hown (mvT hZ (hw _ (List.mem_of_getElem? (i := 78) rfl))) (mvT hZ (hw _ (List.mem_of_getElem? (i := 79) rfl))) (notFace_of_selects (args := #[]) (mvT hZ (hw _ (List.mem_of_getElem? (i := 81) rfl)))) (mvT hZ (hw _ (List.mem_of_getElem? (i := 81) rfl))) (mvT hZ (hw _ (List.mem_of_getElem? (i := 80) rfl))) (by decide) (a := la) [.int x] (Own.back (W := 0) (rm_ix1 l Z a0 hw [] la lb k_lb x G1 h10 n0 O hlx O2 P5 E_la F_la_value F_la_coder V_lb2) hZ (hw _ (List.mem_of_getElem? (i := 82) rfl)) (hw _ (List.mem_of_getElem? (i := 3) rfl)) (by decide) (by decide)) E_la e10 (by rw [hml]; rfl) [] (lenOf pd_7 rfl) rfl (Nat.le_of_ble_eq_true rfl) (hb hby d7_67) (by decide) (by decide) 70 rfl ?_
            rintro _ T11 L11 X11 ⟨r11, rfl, hr11, N11q, eH11⟩
            have N11 := Fr.app N1 N11q
            show Own.Go p e below _ (T11.setTop (mkF m 70 #[.val (.ref b), .val (.int (0 : Int32)), .val (.int (Int32.ofNat cs.length)), .val (.int (2 : Int32)), .val (.int x), .val (.int (1 : Int32))] [(.int r11)]))
            refine Own.g_if_lt X11 hx (hb hby d7_70) 77 73 (by decide) rfl ?_ ?_
            · intro hq
              refine Own.g_iconst X11 hx (0 : Int32) (hb hby d7_77) rfl 78 rfl ?_
              refine Own.g_istore X11 hx #[.val (.ref b), .val (.int (0 : Int32)), .val (.int (Int32.ofNat cs.length)), .val (.int (2 : Int32)), .val (.int x), .val (.int (0 : Int32))] (hb hby d7_78) rfl 80 rfl ?_
              refine Own.g_iload X11 hx (hb hby d7_80) rfl 82 rfl ?_
              refine Own.g_if_ne_f X11 hx (hb hby d7_82) rfl 85 rfl ?_
              refine Own.g_iconst X11 hx (0 : Int32) (hb hby d7_85) rfl 86 rfl ?_
              refine Own.w_ret X11 hx hZ hEL hS hk CR hret hlocks rfl (Or.inl ⟨rfl, by simp, _, rfl⟩) (hb hby d7_86) (by decide) (by decide) eH11 ?_
              have nsp : ¬ spP x := hr11.mp hq
              exact ⟨by rw [if_neg (fun z => absurd (show okP x by rw [hxd]; exact z.2 _ (getD_mem hj)) (by simp [okP, nsp, ag0, bg0, ag1, ag2]))], N11⟩
            · intro hq
              refine Own.g_iconst X11 hx (1 : Int32) (hb hby d7_73) rfl 74 rfl ?_
              refine Own.g_goto X11 hx (hb hby d7_74) 78 (by decide) ?_
              refine Own.g_istore X11 hx #[.val (.ref b), .val (.int (0 : Int32)), .val (.int (Int32.ofNat cs.length)), .val (.int (2 : Int32)), .val (.int x), .val (.int (1 : Int32))] (hb hby d7_78) rfl 80 rfl ?_
              refine Own.g_iload X11 hx (hb hby d7_80) rfl 82 rfl ?_
              refine Own.g_if_ne_t X11 hx (hb hby d7_82) (by decide) 87 (by decide) ?_
              refine Own.g_iinc X11 hx #[.val (.ref b), .val (.int (0 : Int32)), .val (.int (Int32.ofNat cs.length)), .val (.int (3 : Int32)), .val (.int x), .val (.int (1 : Int32))] (hb hby d7_87) rfl rfl 90 rfl ?_
              refine Own.g_goto X11 hx (hb hby d7_90) 9 (by decide) ?_
              exact st_isn3 hx hZ hw hby hml hown hret hlocks hEL hS hk CR b bt kb cs G1 G3 h0 x (X11.more (by decide) (by decide)) eH11 N11 O E_b F_b_value F_b_coder V_bt   O2 P5 O4 rG3 lat l4 hne (take_snoc hj hok (by rw [← hxd]; exact Or.inr (Or.inr (Or.inr (Classical.byContradiction (fun q => hq (hr11.mpr q)))))))
          · intro ag2
            refine Own.g_iload X1 hx (hb hby d7_56) rfl 58 rfl ?_
            refine Own.g_bipush X1 hx (57 : Int32) (hb hby d7_58) rfl 60 rfl ?_
            refine Own.g_icmp_le X1 hx (hb hby d7_60) 73 63 (by decide) rfl ?_ ?_
            · intro bg2
              refine Own.g_iconst X1 hx (1 : Int32) (hb hby d7_73) rfl 74 rfl ?_
              refine Own.g_goto X1 hx (hb hby d7_74) 78 (by decide) ?_
              refine Own.g_istore X1 hx #[.val (.ref b), .val (.int (0 : Int32)), .val (.int (Int32.ofNat cs.length)), .val (.int (2 : Int32)), .val (.int x), .val (.int (1 : Int32))] (hb hby d7_78) rfl 80 rfl ?_
              refine Own.g_iload X1 hx (hb hby d7_80) rfl 82 rfl ?_
              refine Own.g_if_ne_t X1 hx (hb hby d7_82) (by decide) 87 (by decide) ?_
              refine Own.g_iinc X1 hx #[.val (.ref b), .val (.int (0 : Int32)), .val (.int (Int32.ofNat cs.length)), .val (.int (3 : Int32)), .val (.int x), .val (.int (1 : Int32))] (hb hby d7_87) rfl rfl 90 rfl ?_
              refine Own.g_goto X1 hx (hb hby d7_90) 9 (by decide) ?_
              exact st_isn3 hx hZ hw hby hml hown hret hlocks hEL hS hk CR b bt kb cs G1 G3 h0 x (X1.more (by decide) (by decide)) eH1 N1 O E_b F_b_value F_b_coder V_bt   O2 P5 O4 rG3 lat l4 hne (take_snoc hj hok (by rw [← hxd]; exact Or.inr (Or.inr (Or.inl ⟨ag2, bg2⟩))))
            · intro bg2
              refine Own.w_ldc X1 hx hZ hown (hw _ (List.mem_of_getElem? (i := 77) rfl)) (own_wS hw) eH1 hS hk hEL (by decide) CR.1 [.int 45, .int 95, .int 46, .int 33, .int 126, .int 42, .int 39, .int 40, .int 41] 9 ⟨by decide, by first | rfl | decide⟩ (by decide) rfl (hb hby d7_63) 36 (by decide) (by decide) (by decide) (by decide) 65 rfl ?_
              intro la T12 h12 k12 lb k_lb X12 e12 E12 hS hk hZ hown E_la F_la_coder F_la_value V_lb C12 hne12
              replace E_b := E_b.ext E12
              replace F_b_value := F_b_value.ext E12
              replace F_b_coder := F_b_coder.ext E12
              replace V_bt := V_bt.ext E12
              replace O := O.ext E12
              replace CR := CR.trans C12
              refine Own.g_iload X12 hx (hb hby d7_65) rfl 67 rfl ?_
              have V_lb2 : Arv Z _ lb k_lb .byte (Int32.ofNat SPL.length) ((SPL.map fun c => c.toInt8.toInt32).map Value.int) (.int 0) := V_lb
              refine Own.g_virtual X12 hx hZ (y := (⟨"java/lang/String", "indexOf", "(I)I"⟩ : MethodName)) (z := (⟨"java/lang/String", "indexOf", "(I)I"⟩ : MethodName)) hown (mvT hZ (hw _ (List.mem_of_getElem? (i := 78) rfl))) (mvT hZ (hw _ (List.mem_of_getElem? (i := 79) rfl))) (notFace_of_selects (args := #[]) (mvT hZ (hw _ (List.mem_of_getElem? (i := 81) rfl)))) (mvT hZ (hw _ (List.mem_of_getElem? (i := 81) rfl))) (mvT hZ (hw _ (List.mem_of_getElem? (i := 80) rfl))) (by decide) (a := la) [.int x] (Own.back (W := 0) (rm_ix1 l Z a0 hw [] la lb k_lb x G1 h12 n0 O hlx O2 P5 E_la F_la_value F_la_coder V_lb2) hZ (hw _ (List.mem_of_getElem? (i := 82) rfl)) (hw _ (List.mem_of_getElem? (i := 3) rfl)) (by decide) (by decide)) E_la e12 (by rw [hml]; rfl) [] (lenOf pd_7 rfl) rfl (Nat.le_of_ble_eq_true rfl) (hb hby d7_67) (by decide) (by decide) 70 rfl ?_
              rintro _ T13 L13 X13 ⟨r13, rfl, hr13, N13q, eH13⟩
              have N13 := Fr.app N1 N13q
              show Own.Go p e below _ (T13.setTop (mkF m 70 #[.val (.ref b), .val (.int (0 : Int32)), .val (.int (Int32.ofNat cs.length)), .val (.int (2 : Int32)), .val (.int x), .val (.int (1 : Int32))] [(.int r13)]))
              refine Own.g_if_lt X13 hx (hb hby d7_70) 77 73 (by decide) rfl ?_ ?_
              · intro hq
                refine Own.g_iconst X13 hx (0 : Int32) (hb hby d7_77) rfl 78 rfl ?_
                refine Own.g_istore X13 hx #[.val (.ref b), .val (.int (0 : Int32)), .val (.int (Int32.ofNat cs.length)), .val (.int (2 : Int32)), .val (.int x), .val (.int (0 : Int32))] (hb hby d7_78) rfl 80 rfl ?_
                refine Own.g_iload X13 hx (hb hby d7_80) rfl 82 rfl ?_
                refine Own.g_if_ne_f X13 hx (hb hby d7_82) rfl 85 rfl ?_
                refine Own.g_iconst X13 hx (0 : Int32) (hb hby d7_85) rfl 86 rfl ?_
                refine Own.w_ret X13 hx hZ hEL hS hk CR hret hlocks rfl (Or.inl ⟨rfl, by simp, _, rfl⟩) (hb hby d7_86) (by decide) (by decide) eH13 ?_
                have nsp : ¬ spP x := hr13.mp hq
                exact ⟨by rw [if_neg (fun z => absurd (show okP x by rw [hxd]; exact z.2 _ (getD_mem hj)) (by simp [okP, nsp, ag0, bg0, ag1, ag2, bg2]))], N13⟩
              · intro hq
                refine Own.g_iconst X13 hx (1 : Int32) (hb hby d7_73) rfl 74 rfl ?_
                refine Own.g_goto X13 hx (hb hby d7_74) 78 (by decide) ?_
                refine Own.g_istore X13 hx #[.val (.ref b), .val (.int (0 : Int32)), .val (.int (Int32.ofNat cs.length)), .val (.int (2 : Int32)), .val (.int x), .val (.int (1 : Int32))] (hb hby d7_78) rfl 80 rfl ?_
                refine Own.g_iload X13 hx (hb hby d7_80) rfl 82 rfl ?_
                refine Own.g_if_ne_t X13 hx (hb hby d7_82) (by decide) 87 (by decide) ?_
                refine Own.g_iinc X13 hx #[.val (.ref b), .val (.int (0 : Int32)), .val (.int (Int32.ofNat cs.length)), .val (.int (3 : Int32)), .val (.int x), .val (.int (1 : Int32))] (hb hby d7_87) rfl rfl 90 rfl ?_
                refine Own.g_goto X13 hx (hb hby d7_90) 9 (by decide) ?_
                exact st_isn3 hx hZ hw hby hml hown hret hlocks hEL hS hk CR b bt kb cs G1 G3 h0 x (X13.more (by decide) (by decide)) eH13 N13 O E_b F_b_value F_b_coder V_bt   O2 P5 O4 rG3 lat l4 hne (take_snoc hj hok (by rw [← hxd]; exact Or.inr (Or.inr (Or.inr (Classical.byContradiction (fun q => hq (hr13.mpr q)))))))
        · intro ag1
          refine Own.g_iload X1 hx (hb hby d7_42) rfl 44 rfl ?_
          refine Own.g_bipush X1 hx (122 : Int32) (hb hby d7_44) rfl 46 rfl ?_
          refine Own.g_icmp_le X1 hx (hb hby d7_46) 73 49 (by decide) rfl ?_ ?_
          · intro bg1
            refine Own.g_iconst X1 hx (1 : Int32) (hb hby d7_73) rfl 74 rfl ?_
            refine Own.g_goto X1 hx (hb hby d7_74) 78 (by decide) ?_
            refine Own.g_istore X1 hx #[.val (.ref b), .val (.int (0 : Int32)), .val (.int (Int32.ofNat cs.length)), .val (.int (2 : Int32)), .val (.int x), .val (.int (1 : Int32))] (hb hby d7_78) rfl 80 rfl ?_
            refine Own.g_iload X1 hx (hb hby d7_80) rfl 82 rfl ?_
            refine Own.g_if_ne_t X1 hx (hb hby d7_82) (by decide) 87 (by decide) ?_
            refine Own.g_iinc X1 hx #[.val (.ref b), .val (.int (0 : Int32)), .val (.int (Int32.ofNat cs.length)), .val (.int (3 : Int32)), .val (.int x), .val (.int (1 : Int32))] (hb hby d7_87) rfl rfl 90 rfl ?_
            refine Own.g_goto X1 hx (hb hby d7_90) 9 (by decide) ?_
            exact st_isn3 hx hZ hw hby hml hown hret hlocks hEL hS hk CR b bt kb cs G1 G3 h0 x (X1.more (by decide) (by decide)) eH1 N1 O E_b F_b_value F_b_coder V_bt   O2 P5 O4 rG3 lat l4 hne (take_snoc hj hok (by rw [← hxd]; exact Or.inr (Or.inl ⟨ag1, bg1⟩)))
          · intro bg1
            refine Own.g_iload X1 hx (hb hby d7_49) rfl 51 rfl ?_
            refine Own.g_bipush X1 hx (48 : Int32) (hb hby d7_51) rfl 53 rfl ?_
            refine Own.g_icmp_lt X1 hx (hb hby d7_53) 63 56 (by decide) rfl ?_ ?_
            · intro ag2
              refine Own.w_ldc X1 hx hZ hown (hw _ (List.mem_of_getElem? (i := 77) rfl)) (own_wS hw) eH1 hS hk hEL (by decide) CR.1 [.int 45, .int 95, .int 46, .int 33, .int 126, .int 42, .int 39, .int 40, .int 41] 9 ⟨by decide, by first | rfl | decide⟩ (by decide) rfl (hb hby d7_63) 36 (by decide) (by decide) (by decide) (by decide) 65 rfl ?_
              intro la T14 h14 k14 lb k_lb X14 e14 E14 hS hk hZ hown E_la F_la_coder F_la_value V_lb C14 hne14
              replace E_b := E_b.ext E14
              replace F_b_value := F_b_value.ext E14
              replace F_b_coder := F_b_coder.ext E14
              replace V_bt := V_bt.ext E14
              replace O := O.ext E14
              replace CR := CR.trans C14
              refine Own.g_iload X14 hx (hb hby d7_65) rfl 67 rfl ?_
              have V_lb2 : Arv Z _ lb k_lb .byte (Int32.ofNat SPL.length) ((SPL.map fun c => c.toInt8.toInt32).map Value.int) (.int 0) := V_lb
              refine Own.g_virtual X14 hx hZ (y := (⟨"java/lang/String", "indexOf", "(I)I"⟩ : MethodName)) (z := (⟨"java/lang/String", "indexOf", "(I)I"⟩ : MethodName)) hown (mvT hZ (hw _ (List.mem_of_getElem? (i := 78) rfl))) (mvT hZ (hw _ (List.mem_of_getElem? (i := 79) rfl))) (notFace_of_selects (args := #[]) (mvT hZ (hw _ (List.mem_of_getElem? (i := 81) rfl)))) (mvT hZ (hw _ (List.mem_of_getElem? (i := 81) rfl))) (mvT hZ (hw _ (List.mem_of_getElem? (i := 80) rfl))) (by decide) (a := la) [.int x] (Own.back (W := 0) (rm_ix1 l Z a0 hw [] la lb k_lb x G1 h14 n0 O hlx O2 P5 E_la F_la_value F_la_coder V_lb2) hZ (hw _ (List.mem_of_getElem? (i := 82) rfl)) (hw _ (List.mem_of_getElem? (i := 3) rfl)) (by decide) (by decide)) E_la e14 (by rw [hml]; rfl) [] (lenOf pd_7 rfl) rfl (Nat.le_of_ble_eq_true rfl) (hb hby d7_67) (by decide) (by decide) 70 rfl ?_
              rintro _ T15 L15 X15 ⟨r15, rfl, hr15, N15q, eH15⟩
              have N15 := Fr.app N1 N15q
              show Own.Go p e below _ (T15.setTop (mkF m 70 #[.val (.ref b), .val (.int (0 : Int32)), .val (.int (Int32.ofNat cs.length)), .val (.int (2 : Int32)), .val (.int x), .val (.int (1 : Int32))] [(.int r15)]))
              refine Own.g_if_lt X15 hx (hb hby d7_70) 77 73 (by decide) rfl ?_ ?_
              · intro hq
                refine Own.g_iconst X15 hx (0 : Int32) (hb hby d7_77) rfl 78 rfl ?_
                refine Own.g_istore X15 hx #[.val (.ref b), .val (.int (0 : Int32)), .val (.int (Int32.ofNat cs.length)), .val (.int (2 : Int32)), .val (.int x), .val (.int (0 : Int32))] (hb hby d7_78) rfl 80 rfl ?_
                refine Own.g_iload X15 hx (hb hby d7_80) rfl 82 rfl ?_
                refine Own.g_if_ne_f X15 hx (hb hby d7_82) rfl 85 rfl ?_
                refine Own.g_iconst X15 hx (0 : Int32) (hb hby d7_85) rfl 86 rfl ?_
                refine Own.w_ret X15 hx hZ hEL hS hk CR hret hlocks rfl (Or.inl ⟨rfl, by simp, _, rfl⟩) (hb hby d7_86) (by decide) (by decide) eH15 ?_
                have nsp : ¬ spP x := hr15.mp hq
                exact ⟨by rw [if_neg (fun z => absurd (show okP x by rw [hxd]; exact z.2 _ (getD_mem hj)) (by simp [okP, nsp, ag0, bg0, ag1, bg1, ag2]))], N15⟩
              · intro hq
                refine Own.g_iconst X15 hx (1 : Int32) (hb hby d7_73) rfl 74 rfl ?_
                refine Own.g_goto X15 hx (hb hby d7_74) 78 (by decide) ?_
                refine Own.g_istore X15 hx #[.val (.ref b), .val (.int (0 : Int32)), .val (.int (Int32.ofNat cs.length)), .val (.int (2 : Int32)), .val (.int x), .val (.int (1 : Int32))] (hb hby d7_78) rfl 80 rfl ?_
                refine Own.g_iload X15 hx (hb hby d7_80) rfl 82 rfl ?_
                refine Own.g_if_ne_t X15 hx (hb hby d7_82) (by decide) 87 (by decide) ?_
                refine Own.g_iinc X15 hx #[.val (.ref b), .val (.int (0 : Int32)), .val (.int (Int32.ofNat cs.length)), .val (.int (3 : Int32)), .val (.int x), .val (.int (1 : Int32))] (hb hby d7_87) rfl rfl 90 rfl ?_
                refine Own.g_goto X15 hx (hb hby d7_90) 9 (by decide) ?_
                exact st_isn3 hx hZ hw hby hml hown hret hlocks hEL hS hk CR b bt kb cs G1 G3 h0 x (X15.more (by decide) (by decide)) eH15 N15 O E_b F_b_value F_b_coder V_bt   O2 P5 O4 rG3 lat l4 hne (take_snoc hj hok (by rw [← hxd]; exact Or.inr (Or.inr (Or.inr (Classical.byContradiction (fun q => hq (hr15.mpr q)))))))
            · intro ag2
              refine Own.g_iload X1 hx (hb hby d7_56) rfl 58 rfl ?_
              refine Own.g_bipush X1 hx (57 : Int32) (hb hby d7_58) rfl 60 rfl ?_
              refine Own.g_icmp_le X1 hx (hb hby d7_60) 73 63 (by decide) rfl ?_ ?_
              · intro bg2
                refine Own.g_iconst X1 hx (1 : Int32) (hb hby d7_73) rfl 74 rfl ?_
                refine Own.g_goto X1 hx (hb hby d7_74) 78 (by decide) ?_
                refine Own.g_istore X1 hx #[.val (.ref b), .val (.int (0 : Int32)), .val (.int (Int32.ofNat cs.length)), .val (.int (2 : Int32)), .val (.int x), .val (.int (1 : Int32))] (hb hby d7_78) rfl 80 rfl ?_
                refine Own.g_iload X1 hx (hb hby d7_80) rfl 82 rfl ?_
                refine Own.g_if_ne_t X1 hx (hb hby d7_82) (by decide) 87 (by decide) ?_
                refine Own.g_iinc X1 hx #[.val (.ref b), .val (.int (0 : Int32)), .val (.int (Int32.ofNat cs.length)), .val (.int (3 : Int32)), .val (.int x), .val (.int (1 : Int32))] (hb hby d7_87) rfl rfl 90 rfl ?_
                refine Own.g_goto X1 hx (hb hby d7_90) 9 (by decide) ?_
                exact st_isn3 hx hZ hw hby hml hown hret hlocks hEL hS hk CR b bt kb cs G1 G3 h0 x (X1.more (by decide) (by decide)) eH1 N1 O E_b F_b_value F_b_coder V_bt   O2 P5 O4 rG3 lat l4 hne (take_snoc hj hok (by rw [← hxd]; exact Or.inr (Or.inr (Or.inl ⟨ag2, bg2⟩))))
              · intro bg2
                refine Own.w_ldc X1 hx hZ hown (hw _ (List.mem_of_getElem? (i := 77) rfl)) (own_wS hw) eH1 hS hk hEL (by decide) CR.1 [.int 45, .int 95, .int 46, .int 33, .int 126, .int 42, .int 39, .int 40, .int 41] 9 ⟨by decide, by first | rfl | decide⟩ (by decide) rfl (hb hby d7_63) 36 (by decide) (by decide) (by decide) (by decide) 65 rfl ?_
                intro la T16 h16 k16 lb k_lb X16 e16 E16 hS hk hZ hown E_la F_la_coder F_la_value V_lb C16 hne16
                replace E_b := E_b.ext E16
                replace F_b_value := F_b_value.ext E16
                replace F_b_coder := F_b_coder.ext E16
                replace V_bt := V_bt.ext E16
                replace O := O.ext E16
                replace CR := CR.trans C16
                refine Own.g_iload X16 hx (hb hby d7_65) rfl 67 rfl ?_
                have V_lb2 : Arv Z _ lb k_lb .byte (Int32.ofNat SPL.length) ((SPL.map fun c => c.toInt8.toInt32).map Value.int) (.int 0) := V_lb
                refine Own.g_virtual X16 hx hZ (y := (⟨"java/lang/String", "indexOf", "(I)I"⟩ : MethodName)) (z := (⟨"java/lang/String", "indexOf", "(I)I"⟩ : MethodName)) hown (mvT hZ (hw _ (List.mem_of_getElem? (i := 78) rfl))) (mvT hZ (hw _ (List.mem_of_getElem? (i := 79) rfl))) (notFace_of_selects (args := #[]) (mvT hZ (hw _ (List.mem_of_getElem? (i := 81) rfl)))) (mvT hZ (hw _ (List.mem_of_getElem? (i := 81) rfl))) (mvT hZ (hw _ (List.mem_of_getElem? (i := 80) rfl))) (by decide) (a := la) [.int x] (Own.back (W := 0) (rm_ix1 l Z a0 hw [] la lb k_lb x G1 h16 n0 O hlx O2 P5 E_la F_la_value F_la_coder V_lb2) hZ (hw _ (List.mem_of_getElem? (i := 82) rfl)) (hw _ (List.mem_of_getElem? (i := 3) rfl)) (by decide) (by decide)) E_la e16 (by rw [hml]; rfl) [] (lenOf pd_7 rfl) rfl (Nat.le_of_ble_eq_true rfl) (hb hby d7_67) (by decide) (by decide) 70 rfl ?_
                rintro _ T17 L17 X17 ⟨r17, rfl, hr17, N17q, eH17⟩
                have N17 := Fr.app N1 N17q
                show Own.Go p e below _ (T17.setTop (mkF m 70 #[.val (.ref b), .val (.int (0 : Int32)), .val (.int (Int32.ofNat cs.length)), .val (.int (2 : Int32)), .val (.int x), .val (.int (1 : Int32))] [(.int r17)]))
                refine Own.g_if_lt X17 hx (hb hby d7_70) 77 73 (by decide) rfl ?_ ?_
                · intro hq
                  refine Own.g_iconst X17 hx (0 : Int32) (hb hby d7_77) rfl 78 rfl ?_
                  refine Own.g_istore X17 hx #[.val (.ref b), .val (.int (0 : Int32)), .val (.int (Int32.ofNat cs.length)), .val (.int (2 : Int32)), .val (.int x), .val (.int (0 : Int32))] (hb hby d7_78) rfl 80 rfl ?_
                  refine Own.g_iload X17 hx (hb hby d7_80) rfl 82 rfl ?_
                  refine Own.g_if_ne_f X17 hx (hb hby d7_82) rfl 85 rfl ?_
                  refine Own.g_iconst X17 hx (0 : Int32) (hb hby d7_85) rfl 86 rfl ?_
                  refine Own.w_ret X17 hx hZ hEL hS hk CR hret hlocks rfl (Or.inl ⟨rfl, by simp, _, rfl⟩) (hb hby d7_86) (by decide) (by decide) eH17 ?_
                  have nsp : ¬ spP x := hr17.mp hq
                  exact ⟨by rw [if_neg (fun z => absurd (show okP x by rw [hxd]; exact z.2 _ (getD_mem hj)) (by simp [okP, nsp, ag0, bg0, ag1, bg1, ag2, bg2]))], N17⟩
                · intro hq
                  refine Own.g_iconst X17 hx (1 : Int32) (hb hby d7_73) rfl 74 rfl ?_
                  refine Own.g_goto X17 hx (hb hby d7_74) 78 (by decide) ?_
                  refine Own.g_istore X17 hx #[.val (.ref b), .val (.int (0 : Int32)), .val (.int (Int32.ofNat cs.length)), .val (.int (2 : Int32)), .val (.int x), .val (.int (1 : Int32))] (hb hby d7_78) rfl 80 rfl ?_
                  refine Own.g_iload X17 hx (hb hby d7_80) rfl 82 rfl ?_
                  refine Own.g_if_ne_t X17 hx (hb hby d7_82) (by decide) 87 (by decide) ?_
                  refine Own.g_iinc X17 hx #[.val (.ref b), .val (.int (0 : Int32)), .val (.int (Int32.ofNat cs.length)), .val (.int (3 : Int32)), .val (.int x), .val (.int (1 : Int32))] (hb hby d7_87) rfl rfl 90 rfl ?_
                  refine Own.g_goto X17 hx (hb hby d7_90) 9 (by decide) ?_
                  exact st_isn3 hx hZ hw hby hml hown hret hlocks hEL hS hk CR b bt kb cs G1 G3 h0 x (X17.more (by decide) (by decide)) eH17 N17 O E_b F_b_value F_b_coder V_bt   O2 P5 O4 rG3 lat l4 hne (take_snoc hj hok (by rw [← hxd]; exact Or.inr (Or.inr (Or.inr (Classical.byContradiction (fun q => hq (hr17.mpr q)))))))
set_option maxRecDepth 65536 in
set_option maxHeartbeats 40000000 in
theorem st_isn1 {p : Program} {l : Launch} {e : Env} {s : State} {m : MethodId} {args : Array Value} {below : List Frame} {meth : Method} {c : Code} {T0 : State} {locs : List Loc} {Z : State} {a0 : Array Value} {hh : Heap} {n0 : Nat}  {vm : Vm} {k0 : Nat} (hx : p.tables.exec = Jvm.exec) (hZ : Z.Warmed39 (s.setVm vm).vm) (hw : ∀ d ∈ tables_1, d.before a0 Z = true) (hby : c.code = prog_11_method_4_code) (hml : c.maxLocals = 6) (hown : (s.setVm vm).vm.findClass "com/example/bowerbird/bowerbird/model/Names" = some m.cls) (hret : meth.sig.returnType = (some .boolean)) (hlocks : meth.locks = false) (hEL : EW Z a0 EL) (hS : s.Since vm k0) (hk : k0 ≤ hh.size) (CR : CHr Z EL s.vm s.heap vm hh)
    (b : Addr) (bt : Addr) (kb : ClassId) (cs : List Int32) (G1 : Int32) (G3 : Value) (h0 : Heap) (ch : Int32) (X0 : Stand p l e ({ frames := 4, cells := 8, slots := 160, locals := 59 } : Room) (s.setVm vm) m args below meth c T0 locs 2 40) (e0 : T0.heap = hh) (N0 : Fr n0 locs) (O : Old Z n0 hh) (E_b : Exa Z hh b "java/lang/String") (F_b_value : Fld Z hh b "java/lang/String" "value" "[B" (.ref bt)) (F_b_coder : Fld Z hh b "java/lang/String" "coder" "B" (.int 0)) (V_bt : Arv Z hh bt kb .byte (Int32.ofNat (cs).length) (((cs).map fun c => c.toInt8.toInt32).map Value.int) (.int 0))   (O2 : Sta Z Z.heap "java/lang/String" "COMPACT_STRINGS" "Z" (.int G1)) (P5 : ¬ (G1 = (0 : Int32))) (O4 : Sta Z Z.heap "jdk/internal/util/Preconditions" "SIOOBE_FORMATTER" "Ljava/util/function/BiFunction;" G3) (rG3 : G3.isRef = true) (lat : ∀ c ∈ cs, Own.Lat c) (l4 : cs.length ≤ 4) (hne : ¬ cs = []) (hok : ∀ c ∈ cs.take 1, okP c) :
    Own.Go p e below (Own.EndW Z EL s (Q_isn Z b bt kb cs G1 G3 h0 n0) 8 160) (T0.setTop (mkF m 9 #[.val (.ref b), .val (.int (0 : Int32)), .val (.int (Int32.ofNat cs.length)), .val (.int (1 : Int32)), .val (.int ch), .val (.int (1 : Int32))] [])) := by
  refine Own.g_iloadN X0 hx (hb hby d7_9) rfl 10 rfl ?_
  refine Own.g_iloadN X0 hx (hb hby d7_10) rfl 11 rfl ?_
  refine Own.g_icmp_ge X0 hx (hb hby d7_11) 93 14 (by decide) rfl ?_ ?_
  · intro hn
    replace hn : ¬ 1 < cs.length := fun q => hn ((lt_n l4 (j := (1 : Int32)) rfl).mpr q)
    refine Own.g_iconst X0 hx (1 : Int32) (hb hby d7_93) rfl 94 rfl ?_
    refine Own.w_ret X0 hx hZ hEL hS hk CR hret hlocks rfl (Or.inl ⟨rfl, by simp, _, rfl⟩) (hb hby d7_94) (by decide) (by decide) e0 ?_
    exact ⟨by rw [if_pos ⟨hne, take_all hn hok⟩], N0⟩
  · intro hn
    have hj : 1 < cs.length := (lt_n l4 (j := (1 : Int32)) rfl).mp hn
    have hch : ∀ d ∈ StrChars.Road.wordsChN, d.before a0 Z = true := fun d hd => hw d ((by decide +kernel : ∀ d ∈ StrChars.Road.wordsChN, d ∈ tables_1) d hd)
    refine Own.g_aloadN X0 hx (hb hby d7_14) rfl rfl 15 rfl ?_
    refine Own.g_iloadN X0 hx (hb hby d7_15) rfl 16 rfl ?_
    refine Own.g_virtual X0 hx hZ (y := (⟨"java/lang/String", "charAt", "(I)C"⟩ : MethodName)) (z := (⟨"java/lang/String", "charAt", "(I)C"⟩ : MethodName)) hown (mvT hZ (hw _ (List.mem_of_getElem? (i := 55) rfl))) (mvT hZ (hw _ (List.mem_of_getElem? (i := 56) rfl))) (notFace_of_selects (args := #[]) (mvT hZ (hw _ (List.mem_of_getElem? (i := 58) rfl)))) (mvT hZ (hw _ (List.mem_of_getElem? (i := 58) rfl))) (mvT hZ (hw _ (List.mem_of_getElem? (i := 57) rfl))) (by decide) (a := b) [.int (1 : Int32)] (Q := (Own.QVal hh (.int (cs.getD 1 0)))) (StrChars.Road.chN (W := 0) hZ hch (kI := 4) (hw _ (List.mem_of_getElem? (i := 2) rfl)) E_b F_b_value F_b_coder V_bt (StrChars.Road.codOf rfl (fun c hc => (lat c hc).2)) (Own.lat_up lat) (O2.ext O.2) P5 (O4.ext O.2) rG3 (l4k l4) (i := 1) hj (j := (1 : Int32)) rfl (by decide) (by decide)) E_b e0 (by rw [hml]; rfl) [] (lenOf pd_6 rfl) rfl (Nat.le_of_ble_eq_true rfl) (hb hby d7_16) (by decide) (by decide) 19 rfl ?_
    rintro _ T1 L1 X1 ⟨rfl, rfl, eH1⟩
    have N1 := Fr.app N0 (Fr.nil n0)
    show Own.Go p e below _ (T1.setTop (mkF m 19 #[.val (.ref b), .val (.int (0 : Int32)), .val (.int (Int32.ofNat cs.length)), .val (.int (1 : Int32)), .val (.int ch), .val (.int (1 : Int32))] [(.int (cs.getD 1 0))]))
    obtain ⟨x, hxd⟩ : ∃ x, x = cs.getD 1 0 := ⟨_, rfl⟩
    have hlx : Own.Lat x := by rw [hxd]; exact lat _ (getD_mem hj)
    rw [← hxd]
    refine Own.g_istore X1 hx #[.val (.ref b), .val (.int (0 : Int32)), .val (.int (Int32.ofNat cs.length)), .val (.int (1 : Int32)), .val (.int x), .val (.int (1 : Int32))] (hb hby d7_19) rfl 21 rfl ?_
    refine Own.g_iload X1 hx (hb hby d7_21) rfl 23 rfl ?_
    refine Own.g_bipush X1 hx (65 : Int32) (hb hby d7_23) rfl 25 rfl ?_
    refine Own.g_icmp_lt X1 hx (hb hby d7_25) 35 28 (by decide) rfl ?_ ?_
    · intro ag0
      refine Own.g_iload X1 hx (hb hby d7_35) rfl 37 rfl ?_
      refine Own.g_bipush X1 hx (97 : Int32) (hb hby d7_37) rfl 39 rfl ?_
      refine Own.g_icmp_lt X1 hx (hb hby d7_39) 49 42 (by decide) rfl ?_ ?_
      · intro ag1
        refine Own.g_iload X1 hx (hb hby d7_49) rfl 51 rfl ?_
        refine Own.g_bipush X1 hx (48 : Int32) (hb hby d7_51) rfl 53 rfl ?_
        refine Own.g_icmp_lt X1 hx (hb hby d7_53) 63 56 (by decide) rfl ?_ ?_
        · intro ag2
          refine Own.w_ldc X1 hx hZ hown (hw _ (List.mem_of_getElem? (i := 77) rfl)) (own_wS hw) eH1 hS hk hEL (by decide) CR.1 [.int 45, .int 95, .int 46, .int 33, .int 126, .int 42, .int 39, .int 40, .int 41] 9 ⟨by decide, by first | rfl | decide⟩ (by decide) rfl (hb hby d7_63) 36 (by decide) (by decide) (by decide) (by decide) 65 rfl ?_
          intro la T2 h2 k2 lb k_lb X2 e2 E2 hS hk hZ hown E_la F_la_coder F_la_value V_lb C2 hne2
          replace E_b := E_b.ext E2
          replace F_b_value := F_b_value.ext E2
          replace F_b_coder := F_b_coder.ext E2
          replace V_bt := V_bt.ext E2
          replace O := O.ext E2
          replace CR := CR.trans C2
          refine Own.g_iload X2 hx (hb hby d7_65) rfl 67 rfl ?_
          have V_lb2 : Arv Z _ lb k_lb .byte (Int32.ofNat SPL.length) ((SPL.map fun c => c.toInt8.toInt32).map Value.int) (.int 0) := V_lb
          refine Own.g_virtual X2 hx hZ (y := (⟨"java/lang/String", "indexOf", "(I)I"⟩ : MethodName)) (z := (⟨"java/lang/String", "indexOf", "(I)I"⟩ : MethodName)) hown (mvT hZ (hw _ (List.mem_of_getElem? (i := 78) rfl))) (mvT hZ (hw _ (List.mem_of_getElem? (i := 79) rfl))) (notFace_of_selects (args := #[]) (mvT hZ (hw _ (List.mem_of_getElem? (i := 81) rfl)))) (mvT hZ (hw _ (List.mem_of_getElem? (i := 81) rfl))) (mvT hZ (hw _ (List.mem_of_getElem? (i := 80) rfl))) (by decide) (a := la) [.int x] (Own.back (W := 0) (rm_ix1 l Z a0 hw [] la lb k_lb x G1 h2 n0 O hlx O2 P5 E_la F_la_value F_la_coder V_lb2) hZ (hw _ (List.mem_of_getElem? (i := 82) rfl)) (hw _ (List.mem_of_getElem? (i := 3) rfl)) (by decide) (by decide)) E_la e2 (by rw [hml]; rfl) [] (lenOf pd_7 rfl) rfl (Nat.le_of_ble_eq_true rfl) (hb hby d7_67) (by decide) (by decide) 70 rfl ?_
          rintro _ T3 L3 X3 ⟨r3, rfl, hr3, N3q, eH3⟩
          have N3 := Fr.app N1 N3q
          show Own.Go p e below _ (T3.setTop (mkF m 70 #[.val (.ref b), .val (.int (0 : Int32)), .val (.int (Int32.ofNat cs.length)), .val (.int (1 : Int32)), .val (.int x), .val (.int (1 : Int32))] [(.int r3)]))
          refine Own.g_if_lt X3 hx (hb hby d7_70) 77 73 (by decide) rfl ?_ ?_
          · intro hq
            refine Own.g_iconst X3 hx (0 : Int32) (hb hby d7_77) rfl 78 rfl ?_
            refine Own.g_istore X3 hx #[.val (.ref b), .val (.int (0 : Int32)), .val (.int (Int32.ofNat cs.length)), .val (.int (1 : Int32)), .val (.int x), .val (.int (0 : Int32))] (hb hby d7_78) rfl 80 rfl ?_
            refine Own.g_iload X3 hx (hb hby d7_80) rfl 82 rfl ?_
            refine Own.g_if_ne_f X3 hx (hb hby d7_82) rfl 85 rfl ?_
            refine Own.g_iconst X3 hx (0 : Int32) (hb hby d7_85) rfl 86 rfl ?_
            refine Own.w_ret X3 hx hZ hEL hS hk CR hret hlocks rfl (Or.inl ⟨rfl, by simp, _, rfl⟩) (hb hby d7_86) (by decide) (by decide) eH3 ?_
            have nsp : ¬ spP x := hr3.mp hq
            exact ⟨by rw [if_neg (fun z => absurd (show okP x by rw [hxd]; exact z.2 _ (getD_mem hj)) (by simp [okP, nsp, ag0, ag1, ag2]))], N3⟩
          · intro hq
            refine Own.g_iconst X3 hx (1 : Int32) (hb hby d7_73) rfl 74 rfl ?_
            refine Own.g_goto X3 hx (hb hby d7_74) 78 (by decide) ?_
            refine Own.g_istore X3 hx #[.val (.ref b), .val (.int (0 : Int32)), .val (.int (Int32.ofNat cs.length)), .val (.int (1 : Int32)), .val (.int x), .val (.int (1 : Int32))] (hb hby d7_78) rfl 80 rfl ?_
            refine Own.g_iload X3 hx (hb hby d7_80) rfl 82 rfl ?_
            refine Own.g_if_ne_t X3 hx (hb hby d7_82) (by decide) 87 (by decide) ?_
            refine Own.g_iinc X3 hx #[.val (.ref b), .val (.int (0 : Int32)), .val (.int (Int32.ofNat cs.length)), .val (.int (2 : Int32)), .val (.int x), .val (.int (1 : Int32))] (hb hby d7_87) rfl rfl 90 rfl ?_
            refine Own.g_goto X3 hx (hb hby d7_90) 9 (by decide) ?_
            exact st_isn2 hx hZ hw hby hml hown hret hlocks hEL hS hk CR b bt kb cs G1 G3 h0 x (X3.more (by decide) (by decide)) eH3 N3 O E_b F_b_value F_b_coder V_bt   O2 P5 O4 rG3 lat l4 hne (take_snoc hj hok (by rw [← hxd]; exact Or.inr (Or.inr (Or.inr (Classical.byContradiction (fun q => hq (hr3.mpr q)))))))
        · intro ag2
          refine Own.g_iload X1 hx (hb hby d7_56) rfl 58 rfl ?_
          refine Own.g_bipush X1 hx (57 : Int32) (hb hby d7_58) rfl 60 rfl ?_
          refine Own.g_icmp_le X1 hx (hb hby d7_60) 73 63 (by decide) rfl ?_ ?_
          · intro bg2
            refine Own.g_iconst X1 hx (1 : Int32) (hb hby d7_73) rfl 74 rfl ?_
            refine Own.g_goto X1 hx (hb hby d7_74) 78 (by decide) ?_
            refine Own.g_istore X1 hx #[.val (.ref b), .val (.int (0 : Int32)), .val (.int (Int32.ofNat cs.length)), .val (.int (1 : Int32)), .val (.int x), .val (.int (1 : Int32))] (hb hby d7_78) rfl 80 rfl ?_
            refine Own.g_iload X1 hx (hb hby d7_80) rfl 82 rfl ?_
            refine Own.g_if_ne_t X1 hx (hb hby d7_82) (by decide) 87 (by decide) ?_
            refine Own.g_iinc X1 hx #[.val (.ref b), .val (.int (0 : Int32)), .val (.int (Int32.ofNat cs.length)), .val (.int (2 : Int32)), .val (.int x), .val (.int (1 : Int32))] (hb hby d7_87) rfl rfl 90 rfl ?_
            refine Own.g_goto X1 hx (hb hby d7_90) 9 (by decide) ?_
            exact st_isn2 hx hZ hw hby hml hown hret hlocks hEL hS hk CR b bt kb cs G1 G3 h0 x (X1.more (by decide) (by decide)) eH1 N1 O E_b F_b_value F_b_coder V_bt   O2 P5 O4 rG3 lat l4 hne (take_snoc hj hok (by rw [← hxd]; exact Or.inr (Or.inr (Or.inl ⟨ag2, bg2⟩))))
          · intro bg2
            refine Own.w_ldc X1 hx hZ hown (hw _ (List.mem_of_getElem? (i := 77) rfl)) (own_wS hw) eH1 hS hk hEL (by decide) CR.1 [.int 45, .int 95, .int 46, .int 33, .int 126, .int 42, .int 39, .int 40, .int 41] 9 ⟨by decide, by first | rfl | decide⟩ (by decide) rfl (hb hby d7_63) 36 (by decide) (by decide) (by decide) (by decide) 65 rfl ?_
            intro la T4 h4 k4 lb k_lb X4 e4 E4 hS hk hZ hown E_la F_la_coder F_la_value V_lb C4 hne4
            replace E_b := E_b.ext E4
            replace F_b_value := F_b_value.ext E4
            replace F_b_coder := F_b_coder.ext E4
            replace V_bt := V_bt.ext E4
            replace O := O.ext E4
            replace CR := CR.trans C4
            refine Own.g_iload X4 hx (hb hby d7_65) rfl 67 rfl ?_
            have V_lb2 : Arv Z _ lb k_lb .byte (Int32.ofNat SPL.length) ((SPL.map fun c => c.toInt8.toInt32).map Value.int) (.int 0) := V_lb
            refine Own.g_virtual X4 hx hZ (y := (⟨"java/lang/String", "indexOf", "(I)I"⟩ : MethodName)) (z := (⟨"java/lang/String", "indexOf", "(I)I"⟩ : MethodName)) hown (mvT hZ (hw _ (List.mem_of_getElem? (i := 78) rfl))) (mvT hZ (hw _ (List.mem_of_getElem? (i := 79) rfl))) (notFace_of_selects (args := #[]) (mvT hZ (hw _ (List.mem_of_getElem? (i := 81) rfl)))) (mvT hZ (hw _ (List.mem_of_getElem? (i := 81) rfl))) (mvT hZ (hw _ (List.mem_of_getElem? (i := 80) rfl))) (by decide) (a := la) [.int x] (Own.back (W := 0) (rm_ix1 l Z a0 hw [] la lb k_lb x G1 h4 n0 O hlx O2 P5 E_la F_la_value F_la_coder V_lb2) hZ (hw _ (List.mem_of_getElem? (i := 82) rfl)) (hw _ (List.mem_of_getElem? (i := 3) rfl)) (by decide) (by decide)) E_la e4 (by rw [hml]; rfl) [] (lenOf pd_7 rfl) rfl (Nat.le_of_ble_eq_true rfl) (hb hby d7_67) (by decide) (by decide) 70 rfl ?_
            rintro _ T5 L5 X5 ⟨r5, rfl, hr5, N5q, eH5⟩
            have N5 := Fr.app N1 N5q
            show Own.Go p e below _ (T5.setTop (mkF m 70 #[.val (.ref b), .val (.int (0 : Int32)), .val (.int (Int32.ofNat cs.length)), .val (.int (1 : Int32)), .val (.int x), .val (.int (1 : Int32))] [(.int r5)]))
            refine Own.g_if_lt X5 hx (hb hby d7_70) 77 73 (by decide) rfl ?_ ?_
            · intro hq
              refine Own.g_iconst X5 hx (0 : Int32) (hb hby d7_77) rfl 78 rfl ?_
              refine Own.g_istore X5 hx #[.val (.ref b), .val (.int (0 : Int32)), .val (.int (Int32.ofNat cs.length)), .val (.int (1 : Int32)), .val (.int x), .val (.int (0 : Int32))] (hb hby d7_78) rfl 80 rfl ?_
              refine Own.g_iload X5 hx (hb hby d7_80) rfl 82 rfl ?_
              refine Own.g_if_ne_f X5 hx (hb hby d7_82) rfl 85 rfl ?_
              refine Own.g_iconst X5 hx (0 : Int32) (hb hby d7_85) rfl 86 rfl ?_
              refine Own.w_ret X5 hx hZ hEL hS hk CR hret hlocks rfl (Or.inl ⟨rfl, by simp, _, rfl⟩) (hb hby d7_86) (by decide) (by decide) eH5 ?_
              have nsp : ¬ spP x := hr5.mp hq
              exact ⟨by rw [if_neg (fun z => absurd (show okP x by rw [hxd]; exact z.2 _ (getD_mem hj)) (by simp [okP, nsp, ag0, ag1, ag2, bg2]))], N5⟩
            · intro hq
              refine Own.g_iconst X5 hx (1 : Int32) (hb hby d7_73) rfl 74 rfl ?_
              refine Own.g_goto X5 hx (hb hby d7_74) 78 (by decide) ?_
              refine Own.g_istore X5 hx #[.val (.ref b), .val (.int (0 : Int32)), .val (.int (Int32.ofNat cs.length)), .val (.int (1 : Int32)), .val (.int x), .val (.int (1 : Int32))] (hb hby d7_78) rfl 80 rfl ?_
              refine Own.g_iload X5 hx (hb hby d7_80) rfl 82 rfl ?_
              refine Own.g_if_ne_t X5 hx (hb hby d7_82) (by decide) 87 (by decide) ?_
              refine Own.g_iinc X5 hx #[.val (.ref b), .val (.int (0 : Int32)), .val (.int (Int32.ofNat cs.length)), .val (.int (2 : Int32)), .val (.int x), .val (.int (1 : Int32))] (hb hby d7_87) rfl rfl 90 rfl ?_
              refine Own.g_goto X5 hx (hb hby d7_90) 9 (by decide) ?_
              exact st_isn2 hx hZ hw hby hml hown hret hlocks hEL hS hk CR b bt kb cs G1 G3 h0 x (X5.more (by decide) (by decide)) eH5 N5 O E_b F_b_value F_b_coder V_bt   O2 P5 O4 rG3 lat l4 hne (take_snoc hj hok (by rw [← hxd]; exact Or.inr (Or.inr (Or.inr (Classical.byContradiction (fun q => hq (hr5.mpr q)))))))
      · intro ag1
        refine Own.g_iload X1 hx (hb hby d7_42) rfl 44 rfl ?_
        refine Own.g_bipush X1 hx (122 : Int32) (hb hby d7_44) rfl 46 rfl ?_
        refine Own.g_icmp_le X1 hx (hb hby d7_46) 73 49 (by decide) rfl ?_ ?_
        · intro bg1
          refine Own.g_iconst X1 hx (1 : Int32) (hb hby d7_73) rfl 74 rfl ?_
          refine Own.g_goto X1 hx (hb hby d7_74) 78 (by decide) ?_
          refine Own.g_istore X1 hx #[.val (.ref b), .val (.int (0 : Int32)), .val (.int (Int32.ofNat cs.length)), .val (.int (1 : Int32)), .val (.int x), .val (.int (1 : Int32))] (hb hby d7_78) rfl 80 rfl ?_
          refine Own.g_iload X1 hx (hb hby d7_80) rfl 82 rfl ?_
          refine Own.g_if_ne_t X1 hx (hb hby d7_82) (by decide) 87 (by decide) ?_
          refine Own.g_iinc X1 hx #[.val (.ref b), .val (.int (0 : Int32)), .val (.int (Int32.ofNat cs.length)), .val (.int (2 : Int32)), .val (.int x), .val (.int (1 : Int32))] (hb hby d7_87) rfl rfl 90 rfl ?_
          refine Own.g_goto X1 hx (hb hby d7_90) 9 (by decide) ?_
          exact st_isn2 hx hZ hw hby hml hown hret hlocks hEL hS hk CR b bt kb cs G1 G3 h0 x (X1.more (by decide) (by decide)) eH1 N1 O E_b F_b_value F_b_coder V_bt   O2 P5 O4 rG3 lat l4 hne (take_snoc hj hok (by rw [← hxd]; exact Or.inr (Or.inl ⟨ag1, bg1⟩)))
        · intro bg1
          refine Own.g_iload X1 hx (hb hby d7_49) rfl 51 rfl ?_
          refine Own.g_bipush X1 hx (48 : Int32) (hb hby d7_51) rfl 53 rfl ?_
          refine Own.g_icmp_lt X1 hx (hb hby d7_53) 63 56 (by decide) rfl ?_ ?_
          · intro ag2
            refine Own.w_ldc X1 hx hZ hown (hw _ (List.mem_of_getElem? (i := 77) rfl)) (own_wS hw) eH1 hS hk hEL (by decide) CR.1 [.int 45, .int 95, .int 46, .int 33, .int 126, .int 42, .int 39, .int 40, .int 41] 9 ⟨by decide, by first | rfl | decide⟩ (by decide) rfl (hb hby d7_63) 36 (by decide) (by decide) (by decide) (by decide) 65 rfl ?_
            intro la T6 h6 k6 lb k_lb X6 e6 E6 hS hk hZ hown E_la F_la_coder F_la_value V_lb C6 hne6
            replace E_b := E_b.ext E6
            replace F_b_value := F_b_value.ext E6
            replace F_b_coder := F_b_coder.ext E6
            replace V_bt := V_bt.ext E6
            replace O := O.ext E6
            replace CR := CR.trans C6
            refine Own.g_iload X6 hx (hb hby d7_65) rfl 67 rfl ?_
            have V_lb2 : Arv Z _ lb k_lb .byte (Int32.ofNat SPL.length) ((SPL.map fun c => c.toInt8.toInt32).map Value.int) (.int 0) := V_lb
            refine Own.g_virtual X6 hx hZ (y := (⟨"java/lang/String", "indexOf", "(I)I"⟩ : MethodName)) (z := (⟨"java/lang/String", "indexOf", "(I)I"⟩ : MethodName)) hown (mvT hZ (hw _ (List.mem_of_getElem? (i := 78) rfl))) (mvT hZ (hw _ (List.mem_of_getElem? (i := 79) rfl))) (notFace_of_selects (args := #[]) (mvT hZ (hw _ (List.mem_of_getElem? (i := 81) rfl)))) (mvT hZ (hw _ (List.mem_of_getElem? (i := 81) rfl))) (mvT hZ (hw _ (List.mem_of_getElem? (i := 80) rfl))) (by decide) (a := la) [.int x] (Own.back (W := 0) (rm_ix1 l Z a0 hw [] la lb k_lb x G1 h6 n0 O hlx O2 P5 E_la F_la_value F_la_coder V_lb2) hZ (hw _ (List.mem_of_getElem? (i := 82) rfl)) (hw _ (List.mem_of_getElem? (i := 3) rfl)) (by decide) (by decide)) E_la e6 (by rw [hml]; rfl) [] (lenOf pd_7 rfl) rfl (Nat.le_of_ble_eq_true rfl) (hb hby d7_67) (by decide) (by decide) 70 rfl ?_
            rintro _ T7 L7 X7 ⟨r7, rfl, hr7, N7q, eH7⟩
            have N7 := Fr.app N1 N7q
            show Own.Go p e below _ (T7.setTop (mkF m 70 #[.val (.ref b), .val (.int (0 : Int32)), .val (.int (Int32.ofNat cs.length)), .val (.int (1 : Int32)), .val (.int x), .val (.int (1 : Int32))] [(.int r7)]))
            refine Own.g_if_lt X7 hx (hb hby d7_70) 77 73 (by decide) rfl ?_ ?_
            · intro hq
              refine Own.g_iconst X7 hx (0 : Int32) (hb hby d7_77) rfl 78 rfl ?_
              refine Own.g_istore X7 hx #[.val (.ref b), .val (.int (0 : Int32)), .val (.int (Int32.ofNat cs.length)), .val (.int (1 : Int32)), .val (.int x), .val (.int (0 : Int32))] (hb hby d7_78) rfl 80 rfl ?_
              refine Own.g_iload X7 hx (hb hby d7_80) rfl 82 rfl ?_
              refine Own.g_if_ne_f X7 hx (hb hby d7_82) rfl 85 rfl ?_
              refine Own.g_iconst X7 hx (0 : Int32) (hb hby d7_85) rfl 86 rfl ?_
              refine Own.w_ret X7 hx hZ hEL hS hk CR hret hlocks rfl (Or.inl ⟨rfl, by simp, _, rfl⟩) (hb hby d7_86) (by decide) (by decide) eH7 ?_
              have nsp : ¬ spP x := hr7.mp hq
              exact ⟨by rw [if_neg (fun z => absurd (show okP x by rw [hxd]; exact z.2 _ (getD_mem hj)) (by simp [okP, nsp, ag0, ag1, bg1, ag2]))], N7⟩
            · intro hq
              refine Own.g_iconst X7 hx (1 : Int32) (hb hby d7_73) rfl 74 rfl ?_
              refine Own.g_goto X7 hx (hb hby d7_74) 78 (by decide) ?_
              refine Own.g_istore X7 hx #[.val (.ref b), .val (.int (0 : Int32)), .val (.int (Int32.ofNat cs.length)), .val (.int (1 : Int32)), .val (.int x), .val (.int (1 : Int32))] (hb hby d7_78) rfl 80 rfl ?_
              refine Own.g_iload X7 hx (hb hby d7_80) rfl 82 rfl ?_
              refine Own.g_if_ne_t X7 hx (hb hby d7_82) (by decide) 87 (by decide) ?_
              refine Own.g_iinc X7 hx #[.val (.ref b), .val (.int (0 : Int32)), .val (.int (Int32.ofNat cs.length)), .val (.int (2 : Int32)), .val (.int x), .val (.int (1 : Int32))] (hb hby d7_87) rfl rfl 90 rfl ?_
              refine Own.g_goto X7 hx (hb hby d7_90) 9 (by decide) ?_
              exact st_isn2 hx hZ hw hby hml hown hret hlocks hEL hS hk CR b bt kb cs G1 G3 h0 x (X7.more (by decide) (by decide)) eH7 N7 O E_b F_b_value F_b_coder V_bt   O2 P5 O4 rG3 lat l4 hne (take_snoc hj hok (by rw [← hxd]; exact Or.inr (Or.inr (Or.inr (Classical.byContradiction (fun q => hq (hr7.mpr q)))))))
          · intro ag2
            refine Own.g_iload X1 hx (hb hby d7_56) rfl 58 rfl ?_
            refine Own.g_bipush X1 hx (57 : Int32) (hb hby d7_58) rfl 60 rfl ?_
            refine Own.g_icmp_le X1 hx (hb hby d7_60) 73 63 (by decide) rfl ?_ ?_
            · intro bg2
              refine Own.g_iconst X1 hx (1 : Int32) (hb hby d7_73) rfl 74 rfl ?_
              refine Own.g_goto X1 hx (hb hby d7_74) 78 (by decide) ?_
              refine Own.g_istore X1 hx #[.val (.ref b), .val (.int (0 : Int32)), .val (.int (Int32.ofNat cs.length)), .val (.int (1 : Int32)), .val (.int x), .val (.int (1 : Int32))] (hb hby d7_78) rfl 80 rfl ?_
              refine Own.g_iload X1 hx (hb hby d7_80) rfl 82 rfl ?_
              refine Own.g_if_ne_t X1 hx (hb hby d7_82) (by decide) 87 (by decide) ?_
              refine Own.g_iinc X1 hx #[.val (.ref b), .val (.int (0 : Int32)), .val (.int (Int32.ofNat cs.length)), .val (.int (2 : Int32)), .val (.int x), .val (.int (1 : Int32))] (hb hby d7_87) rfl rfl 90 rfl ?_
              refine Own.g_goto X1 hx (hb hby d7_90) 9 (by decide) ?_
              exact st_isn2 hx hZ hw hby hml hown hret hlocks hEL hS hk CR b bt kb cs G1 G3 h0 x (X1.more (by decide) (by decide)) eH1 N1 O E_b F_b_value F_b_coder V_bt   O2 P5 O4 rG3 lat l4 hne (take_snoc hj hok (by rw [← hxd]; exact Or.inr (Or.inr (Or.inl ⟨ag2, bg2⟩))))
            · intro bg2
              refine Own.w_ldc X1 hx hZ hown (hw _ (List.mem_of_getElem? (i := 77) rfl)) (own_wS hw) eH1 hS hk hEL (by decide) CR.1 [.int 45, .int 95, .int 46, .int 33, .int 126, .int 42, .int 39, .int 40, .int 41] 9 ⟨by decide, by first | rfl | decide⟩ (by decide) rfl (hb hby d7_63) 36 (by decide) (by decide) (by decide) (by decide) 65 rfl ?_
              intro la T8 h8 k8 lb k_lb X8 e8 E8 hS hk hZ hown E_la F_la_coder F_la_value V_lb C8 hne8
              replace E_b := E_b.ext E8
              replace F_b_value := F_b_value.ext E8
              replace F_b_coder := F_b_coder.ext E8
              replace V_bt := V_bt.ext E8
              replace O := O.ext E8
              replace CR := CR.trans C8
              refine Own.g_iload X8 hx (hb hby d7_65) rfl 67 rfl ?_
              have V_lb2 : Arv Z _ lb k_lb .byte (Int32.ofNat SPL.length) ((SPL.map fun c => c.toInt8.toInt32).map Value.int) (.int 0) := V_lb
              refine Own.g_virtual X8 hx hZ (y := (⟨"java/lang/String", "indexOf", "(I)I"⟩ : MethodName)) (z := (⟨"java/lang/String", "indexOf", "(I)I"⟩ : MethodName)) hown (mvT hZ (hw _ (List.mem_of_getElem? (i := 78) rfl))) (mvT hZ (hw _ (List.mem_of_getElem? (i := 79) rfl))) (notFace_of_selects (args := #[]) (mvT hZ (hw _ (List.mem_of_getElem? (i := 81) rfl)))) (mvT hZ (hw _ (List.mem_of_getElem? (i := 81) rfl))) (mvT hZ (hw _ (List.mem_of_getElem? (i := 80) rfl))) (by decide) (a := la) [.int x] (Own.back (W := 0) (rm_ix1 l Z a0 hw [] la lb k_lb x G1 h8 n0 O hlx O2 P5 E_la F_la_value F_la_coder V_lb2) hZ (hw _ (List.mem_of_getElem? (i := 82) rfl)) (hw _ (List.mem_of_getElem? (i := 3) rfl)) (by decide) (by decide)) E_la e8 (by rw [hml]; rfl) [] (lenOf pd_7 rfl) rfl (Nat.le_of_ble_eq_true rfl) (hb hby d7_67) (by decide) (by decide) 70 rfl ?_
              rintro _ T9 L9 X9 ⟨r9, rfl, hr9, N9q, eH9⟩
              have N9 := Fr.app N1 N9q
              show Own.Go p e below _ (T9.setTop (mkF m 70 #[.val (.ref b), .val (.int (0 : Int32)), .val (.int (Int32.ofNat cs.length)), .val (.int (1 : Int32)), .val (.int x), .val (.int (1 : Int32))] [(.int r9)]))
              refine Own.g_if_lt X9 hx (hb hby d7_70) 77 73 (by decide) rfl ?_ ?_
              · intro hq
                refine Own.g_iconst X9 hx (0 : Int32) (hb hby d7_77) rfl 78 rfl ?_
                refine Own.g_istore X9 hx #[.val (.ref b), .val (.int (0 : Int32)), .val (.int (Int32.ofNat cs.length)), .val (.int (1 : Int32)), .val (.int x), .val (.int (0 : Int32))] (hb hby d7_78) rfl 80 rfl ?_
                refine Own.g_iload X9 hx (hb hby d7_80) rfl 82 rfl ?_
                refine Own.g_if_ne_f X9 hx (hb hby d7_82) rfl 85 rfl ?_
                refine Own.g_iconst X9 hx (0 : Int32) (hb hby d7_85) rfl 86 rfl ?_
                refine Own.w_ret X9 hx hZ hEL hS hk CR hret hlocks rfl (Or.inl ⟨rfl, by simp, _, rfl⟩) (hb hby d7_86) (by decide) (by decide) eH9 ?_
                have nsp : ¬ spP x := hr9.mp hq
                exact ⟨by rw [if_neg (fun z => absurd (show okP x by rw [hxd]; exact z.2 _ (getD_mem hj)) (by simp [okP, nsp, ag0, ag1, bg1, ag2, bg2]))], N9⟩
              · intro hq
                refine Own.g_iconst X9 hx (1 : Int32) (hb hby d7_73) rfl 74 rfl ?_
                refine Own.g_goto X9 hx (hb hby d7_74) 78 (by decide) ?_
                refine Own.g_istore X9 hx #[.val (.ref b), .val (.int (0 : Int32)), .val (.int (Int32.ofNat cs.length)), .val (.int (1 : Int32)), .val (.int x), .val (.int (1 : Int32))] (hb hby d7_78) rfl 80 rfl ?_
                refine Own.g_iload X9 hx (hb hby d7_80) rfl 82 rfl ?_
                refine Own.g_if_ne_t X9 hx (hb hby d7_82) (by decide) 87 (by decide) ?_
                refine Own.g_iinc X9 hx #[.val (.ref b), .val (.int (0 : Int32)), .val (.int (Int32.ofNat cs.length)), .val (.int (2 : Int32)), .val (.int x), .val (.int (1 : Int32))] (hb hby d7_87) rfl rfl 90 rfl ?_
                refine Own.g_goto X9 hx (hb hby d7_90) 9 (by decide) ?_
                exact st_isn2 hx hZ hw hby hml hown hret hlocks hEL hS hk CR b bt kb cs G1 G3 h0 x (X9.more (by decide) (by decide)) eH9 N9 O E_b F_b_value F_b_coder V_bt   O2 P5 O4 rG3 lat l4 hne (take_snoc hj hok (by rw [← hxd]; exact Or.inr (Or.inr (Or.inr (Classical.byContradiction (fun q => hq (hr9.mpr q)))))))
    · intro ag0
      refine Own.g_iload X1 hx (hb hby d7_28) rfl 30 rfl ?_
      refine Own.g_bipush X1 hx (90 : Int32) (hb hby d7_30) rfl 32 rfl ?_
      refine Own.g_icmp_le X1 hx (hb hby d7_32) 73 35 (by decide) rfl ?_ ?_
      · intro bg0
        refine Own.g_iconst X1 hx (1 : Int32) (hb hby d7_73) rfl 74 rfl ?_
        refine Own.g_goto X1 hx (hb hby d7_74) 78 (by decide) ?_
        refine Own.g_istore X1 hx #[.val (.ref b), .val (.int (0 : Int32)), .val (.int (Int32.ofNat cs.length)), .val (.int (1 : Int32)), .val (.int x), .val (.int (1 : Int32))] (hb hby d7_78) rfl 80 rfl ?_
        refine Own.g_iload X1 hx (hb hby d7_80) rfl 82 rfl ?_
        refine Own.g_if_ne_t X1 hx (hb hby d7_82) (by decide) 87 (by decide) ?_
        refine Own.g_iinc X1 hx #[.val (.ref b), .val (.int (0 : Int32)), .val (.int (Int32.ofNat cs.length)), .val (.int (2 : Int32)), .val (.int x), .val (.int (1 : Int32))] (hb hby d7_87) rfl rfl 90 rfl ?_
        refine Own.g_goto X1 hx (hb hby d7_90) 9 (by decide) ?_
        exact st_isn2 hx hZ hw hby hml hown hret hlocks hEL hS hk CR b bt kb cs G1 G3 h0 x (X1.more (by decide) (by decide)) eH1 N1 O E_b F_b_value F_b_coder V_bt   O2 P5 O4 rG3 lat l4 hne (take_snoc hj hok (by rw [← hxd]; exact Or.inl ⟨ag0, bg0⟩))
      · intro bg0
        refine Own.g_iload X1 hx (hb hby d7_35) rfl 37 rfl ?_
        refine Own.g_bipush X1 hx (97 : Int32) (hb hby d7_37) rfl 39 rfl ?_
        refine Own.g_icmp_lt X1 hx (hb hby d7_39) 49 42 (by decide) rfl ?_ ?_
        · intro ag1
          refine Own.g_iload X1 hx (hb hby d7_49) rfl 51 rfl ?_
          refine Own.g_bipush X1 hx (48 : Int32) (hb hby d7_51) rfl 53 rfl ?_
          refine Own.g_icmp_lt X1 hx (hb hby d7_53) 63 56 (by decide) rfl ?_ ?_
          · intro ag2
            refine Own.w_ldc X1 hx hZ hown (hw _ (List.mem_of_getElem? (i := 77) rfl)) (own_wS hw) eH1 hS hk hEL (by decide) CR.1 [.int 45, .int 95, .int 46, .int 33, .int 126, .int 42, .int 39, .int 40, .int 41] 9 ⟨by decide, by first | rfl | decide⟩ (by decide) rfl (hb hby d7_63) 36 (by decide) (by decide) (by decide) (by decide) 65 rfl ?_
            intro la T10 h10 k10 lb k_lb X10 e10 E10 hS hk hZ hown E_la F_la_coder F_la_value V_lb C10 hne10
            replace E_b := E_b.ext E10
            replace F_b_value := F_b_value.ext E10
            replace F_b_coder := F_b_coder.ext E10
            replace V_bt := V_bt.ext E10
            replace O := O.ext E10
            replace CR := CR.trans C10
            refine Own.g_iload X10 hx (hb hby d7_65) rfl 67 rfl ?_
            have V_lb2 : Arv Z _ lb k_lb .byte (Int32.ofNat SPL.length) ((SPL.map fun c => c.toInt8.toInt32).map Value.int) (.int 0) := V_lb
            refine Own.g_virtual X10 hx hZ (y := (⟨"java/lang/String", "indexOf", "(I)I"⟩ : MethodName)) (z := (⟨"java/lang/String", "indexOf", "(I)I"⟩ : MethodName)) hown (mvT hZ (hw _ (List.mem_of_getElem? (i := 78) rfl))) (mvT hZ (hw _ (List.mem_of_getElem? (i := 79) rfl))) (notFace_of_selects (args := #[]) (mvT hZ (hw _ (List.mem_of_getElem? (i := 81) rfl)))) (mvT hZ (hw _ (List.mem_of_getElem? (i := 81) rfl))) (mvT hZ (hw _ (List.mem_of_getElem? (i := 80) rfl))) (by decide) (a := la) [.int x] (Own.back (W := 0) (rm_ix1 l Z a0 hw [] la lb k_lb x G1 h10 n0 O hlx O2 P5 E_la F_la_value F_la_coder V_lb2) hZ (hw _ (List.mem_of_getElem? (i := 82) rfl)) (hw _ (List.mem_of_getElem? (i := 3) rfl)) (by decide) (by decide)) E_la e10 (by rw [hml]; rfl) [] (lenOf pd_7 rfl) rfl (Nat.le_of_ble_eq_true rfl) (hb hby d7_67) (by decide) (by decide) 70 rfl ?_
            rintro _ T11 L11 X11 ⟨r11, rfl, hr11, N11q, eH11⟩
            have N11 := Fr.app N1 N11q
            show Own.Go p e below _ (T11.setTop (mkF m 70 #[.val (.ref b), .val (.int (0 : Int32)), .val (.int (Int32.ofNat cs.length)), .val (.int (1 : Int32)), .val (.int x), .val (.int (1 : Int32))] [(.int r11)]))
            refine Own.g_if_lt X11 hx (hb hby d7_70) 77 73 (by decide) rfl ?_ ?_
            · intro hq
              refine Own.g_iconst X11 hx (0 : Int32) (hb hby d7_77) rfl 78 rfl ?_
              refine Own.g_istore X11 hx #[.val (.ref b), .val (.int (0 : Int32)), .val (.int (Int32.ofNat cs.length)), .val (.int (1 : Int32)), .val (.int x), .val (.int (0 : Int32))] (hb hby d7_78) rfl 80 rfl ?_
              refine Own.g_iload X11 hx (hb hby d7_80) rfl 82 rfl ?_
              refine Own.g_if_ne_f X11 hx (hb hby d7_82) rfl 85 rfl ?_
              refine Own.g_iconst X11 hx (0 : Int32) (hb hby d7_85) rfl 86 rfl ?_
              refine Own.w_ret X11 hx hZ hEL hS hk CR hret hlocks rfl (Or.inl ⟨rfl, by simp, _, rfl⟩) (hb hby d7_86) (by decide) (by decide) eH11 ?_
              have nsp : ¬ spP x := hr11.mp hq
              exact ⟨by rw [if_neg (fun z => absurd (show okP x by rw [hxd]; exact z.2 _ (getD_mem hj)) (by simp [okP, nsp, ag0, bg0, ag1, ag2]))], N11⟩
            · intro hq
              refine Own.g_iconst X11 hx (1 : Int32) (hb hby d7_73) rfl 74 rfl ?_
              refine Own.g_goto X11 hx (hb hby d7_74) 78 (by decide) ?_
              refine Own.g_istore X11 hx #[.val (.ref b), .val (.int (0 : Int32)), .val (.int (Int32.ofNat cs.length)), .val (.int (1 : Int32)), .val (.int x), .val (.int (1 : Int32))] (hb hby d7_78) rfl 80 rfl ?_
              refine Own.g_iload X11 hx (hb hby d7_80) rfl 82 rfl ?_
              refine Own.g_if_ne_t X11 hx (hb hby d7_82) (by decide) 87 (by decide) ?_
              refine Own.g_iinc X11 hx #[.val (.ref b), .val (.int (0 : Int32)), .val (.int (Int32.ofNat cs.length)), .val (.int (2 : Int32)), .val (.int x), .val (.int (1 : Int32))] (hb hby d7_87) rfl rfl 90 rfl ?_
              refine Own.g_goto X11 hx (hb hby d7_90) 9 (by decide) ?_
              exact st_isn2 hx hZ hw hby hml hown hret hlocks hEL hS hk CR b bt kb cs G1 G3 h0 x (X11.more (by decide) (by decide)) eH11 N11 O E_b F_b_value F_b_coder V_bt   O2 P5 O4 rG3 lat l4 hne (take_snoc hj hok (by rw [← hxd]; exact Or.inr (Or.inr (Or.inr (Classical.byContradiction (fun q => hq (hr11.mpr q)))))))
          · intro ag2
            refine Own.g_iload X1 hx (hb hby d7_56) rfl 58 rfl ?_
            refine Own.g_bipush X1 hx (57 : Int32) (hb hby d7_58) rfl 60 rfl ?_
            refine Own.g_icmp_le X1 hx (hb hby d7_60) 73 63 (by decide) rfl ?_ ?_
            · intro bg2
              refine Own.g_iconst X1 hx (1 : Int32) (hb hby d7_73) rfl 74 rfl ?_
              refine Own.g_goto X1 hx (hb hby d7_74) 78 (by decide) ?_
              refine Own.g_istore X1 hx #[.val (.ref b), .val (.int (0 : Int32)), .val (.int (Int32.ofNat cs.length)), .val (.int (1 : Int32)), .val (.int x), .val (.int (1 : Int32))] (hb hby d7_78) rfl 80 rfl ?_
              refine Own.g_iload X1 hx (hb hby d7_80) rfl 82 rfl ?_
              refine Own.g_if_ne_t X1 hx (hb hby d7_82) (by decide) 87 (by decide) ?_
              refine Own.g_iinc X1 hx #[.val (.ref b), .val (.int (0 : Int32)), .val (.int (Int32.ofNat cs.length)), .val (.int (2 : Int32)), .val (.int x), .val (.int (1 : Int32))] (hb hby d7_87) rfl rfl 90 rfl ?_
              refine Own.g_goto X1 hx (hb hby d7_90) 9 (by decide) ?_
              exact st_isn2 hx hZ hw hby hml hown hret hlocks hEL hS hk CR b bt kb cs G1 G3 h0 x (X1.more (by decide) (by decide)) eH1 N1 O E_b F_b_value F_b_coder V_bt   O2 P5 O4 rG3 lat l4 hne (take_snoc hj hok (by rw [← hxd]; exact Or.inr (Or.inr (Or.inl ⟨ag2, bg2⟩))))
            · intro bg2
              refine Own.w_ldc X1 hx hZ hown (hw _ (List.mem_of_getElem? (i := 77) rfl)) (own_wS hw) eH1 hS hk hEL (by decide) CR.1 [.int 45, .int 95, .int 46, .int 33, .int 126, .int 42, .int 39, .int 40, .int 41] 9 ⟨by decide, by first | rfl | decide⟩ (by decide) rfl (hb hby d7_63) 36 (by decide) (by decide) (by decide) (by decide) 65 rfl ?_
              intro la T12 h12 k12 lb k_lb X12 e12 E12 hS hk hZ hown E_la F_la_coder F_la_value V_lb C12 hne12
              replace E_b := E_b.ext E12
              replace F_b_value := F_b_value.ext E12
              replace F_b_coder := F_b_coder.ext E12
              replace V_bt := V_bt.ext E12
              replace O := O.ext E12
              replace CR := CR.trans C12
              refine Own.g_iload X12 hx (hb hby d7_65) rfl 67 rfl ?_
              have V_lb2 : Arv Z _ lb k_lb .byte (Int32.ofNat SPL.length) ((SPL.map fun c => c.toInt8.toInt32).map Value.int) (.int 0) := V_lb
              refine Own.g_virtual X12 hx hZ (y := (⟨"java/lang/String", "indexOf", "(I)I"⟩ : MethodName)) (z := (⟨"java/lang/String", "indexOf", "(I)I"⟩ : MethodName)) hown (mvT hZ (hw _ (List.mem_of_getElem? (i := 78) rfl))) (mvT hZ (hw _ (List.mem_of_getElem? (i := 79) rfl))) (notFace_of_selects (args := #[]) (mvT hZ (hw _ (List.mem_of_getElem? (i := 81) rfl)))) (mvT hZ (hw _ (List.mem_of_getElem? (i := 81) rfl))) (mvT hZ (hw _ (List.mem_of_getElem? (i := 80) rfl))) (by decide) (a := la) [.int x] (Own.back (W := 0) (rm_ix1 l Z a0 hw [] la lb k_lb x G1 h12 n0 O hlx O2 P5 E_la F_la_value F_la_coder V_lb2) hZ (hw _ (List.mem_of_getElem? (i := 82) rfl)) (hw _ (List.mem_of_getElem? (i := 3) rfl)) (by decide) (by decide)) E_la e12 (by rw [hml]; rfl) [] (lenOf pd_7 rfl) rfl (Nat.le_of_ble_eq_true rfl) (hb hby d7_67) (by decide) (by decide) 70 rfl ?_
              rintro _ T13 L13 X13 ⟨r13, rfl, hr13, N13q, eH13⟩
              have N13 := Fr.app N1 N13q
              show Own.Go p e below _ (T13.setTop (mkF m 70 #[.val (.ref b), .val (.int (0 : Int32)), .val (.int (Int32.ofNat cs.length)), .val (.int (1 : Int32)), .val (.int x), .val (.int (1 : Int32))] [(.int r13)]))
              refine Own.g_if_lt X13 hx (hb hby d7_70) 77 73 (by decide) rfl ?_ ?_
              · intro hq
                refine Own.g_iconst X13 hx (0 : Int32) (hb hby d7_77) rfl 78 rfl ?_
                refine Own.g_istore X13 hx #[.val (.ref b), .val (.int (0 : Int32)), .val (.int (Int32.ofNat cs.length)), .val (.int (1 : Int32)), .val (.int x), .val (.int (0 : Int32))] (hb hby d7_78) rfl 80 rfl ?_
                refine Own.g_iload X13 hx (hb hby d7_80) rfl 82 rfl ?_
                refine Own.g_if_ne_f X13 hx (hb hby d7_82) rfl 85 rfl ?_
                refine Own.g_iconst X13 hx (0 : Int32) (hb hby d7_85) rfl 86 rfl ?_
                refine Own.w_ret X13 hx hZ hEL hS hk CR hret hlocks rfl (Or.inl ⟨rfl, by simp, _, rfl⟩) (hb hby d7_86) (by decide) (by decide) eH13 ?_
                have nsp : ¬ spP x := hr13.mp hq
                exact ⟨by rw [if_neg (fun z => absurd (show okP x by rw [hxd]; exact z.2 _ (getD_mem hj)) (by simp [okP, nsp, ag0, bg0, ag1, ag2, bg2]))], N13⟩
              · intro hq
                refine Own.g_iconst X13 hx (1 : Int32) (hb hby d7_73) rfl 74 rfl ?_
                refine Own.g_goto X13 hx (hb hby d7_74) 78 (by decide) ?_
                refine Own.g_istore X13 hx #[.val (.ref b), .val (.int (0 : Int32)), .val (.int (Int32.ofNat cs.length)), .val (.int (1 : Int32)), .val (.int x), .val (.int (1 : Int32))] (hb hby d7_78) rfl 80 rfl ?_
                refine Own.g_iload X13 hx (hb hby d7_80) rfl 82 rfl ?_
                refine Own.g_if_ne_t X13 hx (hb hby d7_82) (by decide) 87 (by decide) ?_
                refine Own.g_iinc X13 hx #[.val (.ref b), .val (.int (0 : Int32)), .val (.int (Int32.ofNat cs.length)), .val (.int (2 : Int32)), .val (.int x), .val (.int (1 : Int32))] (hb hby d7_87) rfl rfl 90 rfl ?_
                refine Own.g_goto X13 hx (hb hby d7_90) 9 (by decide) ?_
                exact st_isn2 hx hZ hw hby hml hown hret hlocks hEL hS hk CR b bt kb cs G1 G3 h0 x (X13.more (by decide) (by decide)) eH13 N13 O E_b F_b_value F_b_coder V_bt   O2 P5 O4 rG3 lat l4 hne (take_snoc hj hok (by rw [← hxd]; exact Or.inr (Or.inr (Or.inr (Classical.byContradiction (fun q => hq (hr13.mpr q)))))))
        · intro ag1
          refine Own.g_iload X1 hx (hb hby d7_42) rfl 44 rfl ?_
          refine Own.g_bipush X1 hx (122 : Int32) (hb hby d7_44) rfl 46 rfl ?_
          refine Own.g_icmp_le X1 hx (hb hby d7_46) 73 49 (by decide) rfl ?_ ?_
          · intro bg1
            refine Own.g_iconst X1 hx (1 : Int32) (hb hby d7_73) rfl 74 rfl ?_
            refine Own.g_goto X1 hx (hb hby d7_74) 78 (by decide) ?_
            refine Own.g_istore X1 hx #[.val (.ref b), .val (.int (0 : Int32)), .val (.int (Int32.ofNat cs.length)), .val (.int (1 : Int32)), .val (.int x), .val (.int (1 : Int32))] (hb hby d7_78) rfl 80 rfl ?_
            refine Own.g_iload X1 hx (hb hby d7_80) rfl 82 rfl ?_
            refine Own.g_if_ne_t X1 hx (hb hby d7_82) (by decide) 87 (by decide) ?_
            refine Own.g_iinc X1 hx #[.val (.ref b), .val (.int (0 : Int32)), .val (.int (Int32.ofNat cs.length)), .val (.int (2 : Int32)), .val (.int x), .val (.int (1 : Int32))] (hb hby d7_87) rfl rfl 90 rfl ?_
            refine Own.g_goto X1 hx (hb hby d7_90) 9 (by decide) ?_
            exact st_isn2 hx hZ hw hby hml hown hret hlocks hEL hS hk CR b bt kb cs G1 G3 h0 x (X1.more (by decide) (by decide)) eH1 N1 O E_b F_b_value F_b_coder V_bt   O2 P5 O4 rG3 lat l4 hne (take_snoc hj hok (by rw [← hxd]; exact Or.inr (Or.inl ⟨ag1, bg1⟩)))
          · intro bg1
            refine Own.g_iload X1 hx (hb hby d7_49) rfl 51 rfl ?_
            refine Own.g_bipush X1 hx (48 : Int32) (hb hby d7_51) rfl 53 rfl ?_
            refine Own.g_icmp_lt X1 hx (hb hby d7_53) 63 56 (by decide) rfl ?_ ?_
            · intro ag2
              refine Own.w_ldc X1 hx hZ hown (hw _ (List.mem_of_getElem? (i := 77) rfl)) (own_wS hw) eH1 hS hk hEL (by decide) CR.1 [.int 45, .int 95, .int 46, .int 33, .int 126, .int 42, .int 39, .int 40, .int 41] 9 ⟨by decide, by first | rfl | decide⟩ (by decide) rfl (hb hby d7_63) 36 (by decide) (by decide) (by decide) (by decide) 65 rfl ?_
              intro la T14 h14 k14 lb k_lb X14 e14 E14 hS hk hZ hown E_la F_la_coder F_la_value V_lb C14 hne14
              replace E_b := E_b.ext E14
              replace F_b_value := F_b_value.ext E14
              replace F_b_coder := F_b_coder.ext E14
              replace V_bt := V_bt.ext E14
              replace O := O.ext E14
              replace CR := CR.trans C14
              refine Own.g_iload X14 hx (hb hby d7_65) rfl 67 rfl ?_
              have V_lb2 : Arv Z _ lb k_lb .byte (Int32.ofNat SPL.length) ((SPL.map fun c => c.toInt8.toInt32).map Value.int) (.int 0) := V_lb
              refine Own.g_virtual X14 hx hZ (y := (⟨"java/lang/String", "indexOf", "(I)I"⟩ : MethodName)) (z := (⟨"java/lang/String", "indexOf", "(I)I"⟩ : MethodName)) hown (mvT hZ (hw _ (List.mem_of_getElem? (i := 78) rfl))) (mvT hZ (hw _ (List.mem_of_getElem? (i := 79) rfl))) (notFace_of_selects (args := #[]) (mvT hZ (hw _ (List.mem_of_getElem? (i := 81) rfl)))) (mvT hZ (hw _ (List.mem_of_getElem? (i := 81) rfl))) (mvT hZ (hw _ (List.mem_of_getElem? (i := 80) rfl))) (by decide) (a := la) [.int x] (Own.back (W := 0) (rm_ix1 l Z a0 hw [] la lb k_lb x G1 h14 n0 O hlx O2 P5 E_la F_la_value F_la_coder V_lb2) hZ (hw _ (List.mem_of_getElem? (i := 82) rfl)) (hw _ (List.mem_of_getElem? (i := 3) rfl)) (by decide) (by decide)) E_la e14 (by rw [hml]; rfl) [] (lenOf pd_7 rfl) rfl (Nat.le_of_ble_eq_true rfl) (hb hby d7_67) (by decide) (by decide) 70 rfl ?_
              rintro _ T15 L15 X15 ⟨r15, rfl, hr15, N15q, eH15⟩
              have N15 := Fr.app N1 N15q
              show Own.Go p e below _ (T15.setTop (mkF m 70 #[.val (.ref b), .val (.int (0 : Int32)), .val (.int (Int32.ofNat cs.length)), .val (.int (1 : Int32)), .val (.int x), .val (.int (1 : Int32))] [(.int r15)]))
              refine Own.g_if_lt X15 hx (hb hby d7_70) 77 73 (by decide) rfl ?_ ?_
              · intro hq
                refine Own.g_iconst X15 hx (0 : Int32) (hb hby d7_77) rfl 78 rfl ?_
                refine Own.g_istore X15 hx #[.val (.ref b), .val (.int (0 : Int32)), .val (.int (Int32.ofNat cs.length)), .val (.int (1 : Int32)), .val (.int x), .val (.int (0 : Int32))] (hb hby d7_78) rfl 80 rfl ?_
                refine Own.g_iload X15 hx (hb hby d7_80) rfl 82 rfl ?_
                refine Own.g_if_ne_f X15 hx (hb hby d7_82) rfl 85 rfl ?_
                refine Own.g_iconst X15 hx (0 : Int32) (hb hby d7_85) rfl 86 rfl ?_
                refine Own.w_ret X15 hx hZ hEL hS hk CR hret hlocks rfl (Or.inl ⟨rfl, by simp, _, rfl⟩) (hb hby d7_86) (by decide) (by decide) eH15 ?_
                have nsp : ¬ spP x := hr15.mp hq
                exact ⟨by rw [if_neg (fun z => absurd (show okP x by rw [hxd]; exact z.2 _ (getD_mem hj)) (by simp [okP, nsp, ag0, bg0, ag1, bg1, ag2]))], N15⟩
              · intro hq
                refine Own.g_iconst X15 hx (1 : Int32) (hb hby d7_73) rfl 74 rfl ?_
                refine Own.g_goto X15 hx (hb hby d7_74) 78 (by decide) ?_
                refine Own.g_istore X15 hx #[.val (.ref b), .val (.int (0 : Int32)), .val (.int (Int32.ofNat cs.length)), .val (.int (1 : Int32)), .val (.int x), .val (.int (1 : Int32))] (hb hby d7_78) rfl 80 rfl ?_
                refine Own.g_iload X15 hx (hb hby d7_80) rfl 82 rfl ?_
                refine Own.g_if_ne_t X15 hx (hb hby d7_82) (by decide) 87 (by decide) ?_
                refine Own.g_iinc X15 hx #[.val (.ref b), .val (.int (0 : Int32)), .val (.int (Int32.ofNat cs.length)), .val (.int (2 : Int32)), .val (.int x), .val (.int (1 : Int32))] (hb hby d7_87) rfl rfl 90 rfl ?_
                refine Own.g_goto X15 hx (hb hby d7_90) 9 (by decide) ?_
                exact st_isn2 hx hZ hw hby hml hown hret hlocks hEL hS hk CR b bt kb cs G1 G3 h0 x (X15.more (by decide) (by decide)) eH15 N15 O E_b F_b_value F_b_coder V_bt   O2 P5 O4 rG3 lat l4 hne (take_snoc hj hok (by rw [← hxd]; exact Or.inr (Or.inr (Or.inr (Classical.byContradiction (fun q => hq (hr15.mpr q)))))))
            · intro ag2
              refine Own.g_iload X1 hx (hb hby d7_56) rfl 58 rfl ?_
              refine Own.g_bipush X1 hx (57 : Int32) (hb hby d7_58) rfl 60 rfl ?_
              refine Own.g_icmp_le X1 hx (hb hby d7_60) 73 63 (by decide) rfl ?_ ?_
              · intro bg2
                refine Own.g_iconst X1 hx (1 : Int32) (hb hby d7_73) rfl 74 rfl ?_
                refine Own.g_goto X1 hx (hb hby d7_74) 78 (by decide) ?_
                refine Own.g_istore X1 hx #[.val (.ref b), .val (.int (0 : Int32)), .val (.int (Int32.ofNat cs.length)), .val (.int (1 : Int32)), .val (.int x), .val (.int (1 : Int32))] (hb hby d7_78) rfl 80 rfl ?_
                refine Own.g_iload X1 hx (hb hby d7_80) rfl 82 rfl ?_
                refine Own.g_if_ne_t X1 hx (hb hby d7_82) (by decide) 87 (by decide) ?_
                refine Own.g_iinc X1 hx #[.val (.ref b), .val (.int (0 : Int32)), .val (.int (Int32.ofNat cs.length)), .val (.int (2 : Int32)), .val (.int x), .val (.int (1 : Int32))] (hb hby d7_87) rfl rfl 90 rfl ?_
                refine Own.g_goto X1 hx (hb hby d7_90) 9 (by decide) ?_
                exact st_isn2 hx hZ hw hby hml hown hret hlocks hEL hS hk CR b bt kb cs G1 G3 h0 x (X1.more (by decide) (by decide)) eH1 N1 O E_b F_b_value F_b_coder V_bt   O2 P5 O4 rG3 lat l4 hne (take_snoc hj hok (by rw [← hxd]; exact Or.inr (Or.inr (Or.inl ⟨ag2, bg2⟩))))
              · intro bg2
                refine Own.w_ldc X1 hx hZ hown (hw _ (List.mem_of_getElem? (i := 77) rfl)) (own_wS hw) eH1 hS hk hEL (by decide) CR.1 [.int 45, .int 95, .int 46, .int 33, .int 126, .int 42, .int 39, .int 40, .int 41] 9 ⟨by decide, by first | rfl | decide⟩ (by decide) rfl (hb hby d7_63) 36 (by decide) (by decide) (by decide) (by decide) 65 rfl ?_
                intro la T16 h16 k16 lb k_lb X16 e16 E16 hS hk hZ hown E_la F_la_coder F_la_value V_lb C16 hne16
                replace E_b := E_b.ext E16
                replace F_b_value := F_b_value.ext E16
                replace F_b_coder := F_b_coder.ext E16
                replace V_bt := V_bt.ext E16
                replace O := O.ext E16
                replace CR := CR.trans C16
                refine Own.g_iload X16 hx (hb hby d7_65) rfl 67 rfl ?_
                have V_lb2 : Arv Z _ lb k_lb .byte (Int32.ofNat SPL.length) ((SPL.map fun c => c.toInt8.toInt32).map Value.int) (.int 0) := V_lb
                refine Own.g_virtual X16 hx hZ (y := (⟨"java/lang/String", "indexOf", "(I)I"⟩ : MethodName)) (z := (⟨"java/lang/String", "indexOf", "(I)I"⟩ : MethodName)) hown (mvT hZ (hw _ (List.mem_of_getElem? (i := 78) rfl))) (mvT hZ (hw _ (List.mem_of_getElem? (i := 79) rfl))) (notFace_of_selects (args := #[]) (mvT hZ (hw _ (List.mem_of_getElem? (i := 81) rfl)))) (mvT hZ (hw _ (List.mem_of_getElem? (i := 81) rfl))) (mvT hZ (hw _ (List.mem_of_getElem? (i := 80) rfl))) (by decide) (a := la) [.int x] (Own.back (W := 0) (rm_ix1 l Z a0 hw [] la lb k_lb x G1 h16 n0 O hlx O2 P5 E_la F_la_value F_la_coder V_lb2) hZ (hw _ (List.mem_of_getElem? (i := 82) rfl)) (hw _ (List.mem_of_getElem? (i := 3) rfl)) (by decide) (by decide)) E_la e16 (by rw [hml]; rfl) [] (lenOf pd_7 rfl) rfl (Nat.le_of_ble_eq_true rfl) (hb hby d7_67) (by decide) (by decide) 70 rfl ?_
                rintro _ T17 L17 X17 ⟨r17, rfl, hr17, N17q, eH17⟩
                have N17 := Fr.app N1 N17q
                show Own.Go p e below _ (T17.setTop (mkF m 70 #[.val (.ref b), .val (.int (0 : Int32)), .val (.int (Int32.ofNat cs.length)), .val (.int (1 : Int32)), .val (.int x), .val (.int (1 : Int32))] [(.int r17)]))
                refine Own.g_if_lt X17 hx (hb hby d7_70) 77 73 (by decide) rfl ?_ ?_
                · intro hq
                  refine Own.g_iconst X17 hx (0 : Int32) (hb hby d7_77) rfl 78 rfl ?_
                  refine Own.g_istore X17 hx #[.val (.ref b), .val (.int (0 : Int32)), .val (.int (Int32.ofNat cs.length)), .val (.int (1 : Int32)), .val (.int x), .val (.int (0 : Int32))] (hb hby d7_78) rfl 80 rfl ?_
                  refine Own.g_iload X17 hx (hb hby d7_80) rfl 82 rfl ?_
                  refine Own.g_if_ne_f X17 hx (hb hby d7_82) rfl 85 rfl ?_
                  refine Own.g_iconst X17 hx (0 : Int32) (hb hby d7_85) rfl 86 rfl ?_
                  refine Own.w_ret X17 hx hZ hEL hS hk CR hret hlocks rfl (Or.inl ⟨rfl, by simp, _, rfl⟩) (hb hby d7_86) (by decide) (by decide) eH17 ?_
                  have nsp : ¬ spP x := hr17.mp hq
                  exact ⟨by rw [if_neg (fun z => absurd (show okP x by rw [hxd]; exact z.2 _ (getD_mem hj)) (by simp [okP, nsp, ag0, bg0, ag1, bg1, ag2, bg2]))], N17⟩
                · intro hq
                  refine Own.g_iconst X17 hx (1 : Int32) (hb hby d7_73) rfl 74 rfl ?_
                  refine Own.g_goto X17 hx (hb hby d7_74) 78 (by decide) ?_
                  refine Own.g_istore X17 hx #[.val (.ref b), .val (.int (0 : Int32)), .val (.int (Int32.ofNat cs.length)), .val (.int (1 : Int32)), .val (.int x), .val (.int (1 : Int32))] (hb hby d7_78) rfl 80 rfl ?_
                  refine Own.g_iload X17 hx (hb hby d7_80) rfl 82 rfl ?_
                  refine Own.g_if_ne_t X17 hx (hb hby d7_82) (by decide) 87 (by decide) ?_
                  refine Own.g_iinc X17 hx #[.val (.ref b), .val (.int (0 : Int32)), .val (.int (Int32.ofNat cs.length)), .val (.int (2 : Int32)), .val (.int x), .val (.int (1 : Int32))] (hb hby d7_87) rfl rfl 90 rfl ?_
                  refine Own.g_goto X17 hx (hb hby d7_90) 9 (by decide) ?_
                  exact st_isn2 hx hZ hw hby hml hown hret hlocks hEL hS hk CR b bt kb cs G1 G3 h0 x (X17.more (by decide) (by decide)) eH17 N17 O E_b F_b_value F_b_coder V_bt   O2 P5 O4 rG3 lat l4 hne (take_snoc hj hok (by rw [← hxd]; exact Or.inr (Or.inr (Or.inr (Classical.byContradiction (fun q => hq (hr17.mpr q)))))))
set_option maxRecDepth 65536 in
set_option maxHeartbeats 40000000 in
theorem st_isn0 {p : Program} {l : Launch} {e : Env} {s : State} {m : MethodId} {args : Array Value} {below : List Frame} {meth : Method} {c : Code} {T0 : State} {locs : List Loc} {Z : State} {a0 : Array Value} {hh : Heap} {n0 : Nat}  {vm : Vm} {k0 : Nat} (hx : p.tables.exec = Jvm.exec) (hZ : Z.Warmed39 (s.setVm vm).vm) (hw : ∀ d ∈ tables_1, d.before a0 Z = true) (hby : c.code = prog_11_method_4_code) (hml : c.maxLocals = 6) (hown : (s.setVm vm).vm.findClass "com/example/bowerbird/bowerbird/model/Names" = some m.cls) (hret : meth.sig.returnType = (some .boolean)) (hlocks : meth.locks = false) (hEL : EW Z a0 EL) (hS : s.Since vm k0) (hk : k0 ≤ hh.size) (CR : CHr Z EL s.vm s.heap vm hh)
    (b : Addr) (bt : Addr) (kb : ClassId) (cs : List Int32) (G1 : Int32) (G3 : Value) (h0 : Heap) (X0 : Stand p l e ({ frames := 4, cells := 8, slots := 160, locals := 59 } : Room) (s.setVm vm) m args below meth c T0 locs 0 0) (e0 : T0.heap = hh) (N0 : Fr n0 locs) (O : Old Z n0 hh) (E_b : Exa Z hh b "java/lang/String") (F_b_value : Fld Z hh b "java/lang/String" "value" "[B" (.ref bt)) (F_b_coder : Fld Z hh b "java/lang/String" "coder" "B" (.int 0)) (V_bt : Arv Z hh bt kb .byte (Int32.ofNat (cs).length) (((cs).map fun c => c.toInt8.toInt32).map Value.int) (.int 0))   (O2 : Sta Z Z.heap "java/lang/String" "COMPACT_STRINGS" "Z" (.int G1)) (P5 : ¬ (G1 = (0 : Int32))) (O4 : Sta Z Z.heap "jdk/internal/util/Preconditions" "SIOOBE_FORMATTER" "Ljava/util/function/BiFunction;" G3) (rG3 : G3.isRef = true) (lat : ∀ c ∈ cs, Own.Lat c) (l4 : cs.length ≤ 4) (hne : ¬ cs = []) (hok : ∀ c ∈ cs.take 0, okP c) :
    Own.Go p e below (Own.EndW Z EL s (Q_isn Z b bt kb cs G1 G3 h0 n0) 8 160) (T0.setTop (mkF m 9 #[.val (.ref b), .val (.int (0 : Int32)), .val (.int (Int32.ofNat cs.length)), .val (.int (0 : Int32)), .unset, .unset] [])) := by
  refine Own.g_iloadN X0 hx (hb hby d7_9) rfl 10 rfl ?_
  refine Own.g_iloadN X0 hx (hb hby d7_10) rfl 11 rfl ?_
  refine Own.g_icmp_ge X0 hx (hb hby d7_11) 93 14 (by decide) rfl ?_ ?_
  · intro hn
    replace hn : ¬ 0 < cs.length := fun q => hn ((lt_n l4 (j := (0 : Int32)) rfl).mpr q)
    refine Own.g_iconst X0 hx (1 : Int32) (hb hby d7_93) rfl 94 rfl ?_
    refine Own.w_ret X0 hx hZ hEL hS hk CR hret hlocks rfl (Or.inl ⟨rfl, by simp, _, rfl⟩) (hb hby d7_94) (by decide) (by decide) e0 ?_
    exact ⟨by rw [if_pos ⟨hne, take_all hn hok⟩], N0⟩
  · intro hn
    have hj : 0 < cs.length := (lt_n l4 (j := (0 : Int32)) rfl).mp hn
    have hch : ∀ d ∈ StrChars.Road.wordsChN, d.before a0 Z = true := fun d hd => hw d ((by decide +kernel : ∀ d ∈ StrChars.Road.wordsChN, d ∈ tables_1) d hd)
    refine Own.g_aloadN X0 hx (hb hby d7_14) rfl rfl 15 rfl ?_
    refine Own.g_iloadN X0 hx (hb hby d7_15) rfl 16 rfl ?_
    refine Own.g_virtual X0 hx hZ (y := (⟨"java/lang/String", "charAt", "(I)C"⟩ : MethodName)) (z := (⟨"java/lang/String", "charAt", "(I)C"⟩ : MethodName)) hown (mvT hZ (hw _ (List.mem_of_getElem? (i := 55) rfl))) (mvT hZ (hw _ (List.mem_of_getElem? (i := 56) rfl))) (notFace_of_selects (args := #[]) (mvT hZ (hw _ (List.mem_of_getElem? (i := 58) rfl)))) (mvT hZ (hw _ (List.mem_of_getElem? (i := 58) rfl))) (mvT hZ (hw _ (List.mem_of_getElem? (i := 57) rfl))) (by decide) (a := b) [.int (0 : Int32)] (Q := (Own.QVal hh (.int (cs.getD 0 0)))) (StrChars.Road.chN (W := 0) hZ hch (kI := 4) (hw _ (List.mem_of_getElem? (i := 2) rfl)) E_b F_b_value F_b_coder V_bt (StrChars.Road.codOf rfl (fun c hc => (lat c hc).2)) (Own.lat_up lat) (O2.ext O.2) P5 (O4.ext O.2) rG3 (l4k l4) (i := 0) hj (j := (0 : Int32)) rfl (by decide) (by decide)) E_b e0 (by rw [hml]; rfl) [] (lenOf pd_6 rfl) rfl (Nat.le_of_ble_eq_true rfl) (hb hby d7_16) (by decide) (by decide) 19 rfl ?_
    rintro _ T1 L1 X1 ⟨rfl, rfl, eH1⟩
    have N1 := Fr.app N0 (Fr.nil n0)
    show Own.Go p e below _ (T1.setTop (mkF m 19 #[.val (.ref b), .val (.int (0 : Int32)), .val (.int (Int32.ofNat cs.length)), .val (.int (0 : Int32)), .unset, .unset] [(.int (cs.getD 0 0))]))
    obtain ⟨x, hxd⟩ : ∃ x, x = cs.getD 0 0 := ⟨_, rfl⟩
    have hlx : Own.Lat x := by rw [hxd]; exact lat _ (getD_mem hj)
    rw [← hxd]
    refine Own.g_istore X1 hx #[.val (.ref b), .val (.int (0 : Int32)), .val (.int (Int32.ofNat cs.length)), .val (.int (0 : Int32)), .val (.int x), .unset] (hb hby d7_19) rfl 21 rfl ?_
    refine Own.g_iload X1 hx (hb hby d7_21) rfl 23 rfl ?_
    refine Own.g_bipush X1 hx (65 : Int32) (hb hby d7_23) rfl 25 rfl ?_
    refine Own.g_icmp_lt X1 hx (hb hby d7_25) 35 28 (by decide) rfl ?_ ?_
    · intro ag0
      refine Own.g_iload X1 hx (hb hby d7_35) rfl 37 rfl ?_
      refine Own.g_bipush X1 hx (97 : Int32) (hb hby d7_37) rfl 39 rfl ?_
      refine Own.g_icmp_lt X1 hx (hb hby d7_39) 49 42 (by decide) rfl ?_ ?_
      · intro ag1
        refine Own.g_iload X1 hx (hb hby d7_49) rfl 51 rfl ?_
        refine Own.g_bipush X1 hx (48 : Int32) (hb hby d7_51) rfl 53 rfl ?_
        refine Own.g_icmp_lt X1 hx (hb hby d7_53) 63 56 (by decide) rfl ?_ ?_
        · intro ag2
          refine Own.w_ldc X1 hx hZ hown (hw _ (List.mem_of_getElem? (i := 77) rfl)) (own_wS hw) eH1 hS hk hEL (by decide) CR.1 [.int 45, .int 95, .int 46, .int 33, .int 126, .int 42, .int 39, .int 40, .int 41] 9 ⟨by decide, by first | rfl | decide⟩ (by decide) rfl (hb hby d7_63) 36 (by decide) (by decide) (by decide) (by decide) 65 rfl ?_
          intro la T2 h2 k2 lb k_lb X2 e2 E2 hS hk hZ hown E_la F_la_coder F_la_value V_lb C2 hne2
          replace E_b := E_b.ext E2
          replace F_b_value := F_b_value.ext E2
          replace F_b_coder := F_b_coder.ext E2
          replace V_bt := V_bt.ext E2
          replace O := O.ext E2
          replace CR := CR.trans C2
          refine Own.g_iload X2 hx (hb hby d7_65) rfl 67 rfl ?_
          have V_lb2 : Arv Z _ lb k_lb .byte (Int32.ofNat SPL.length) ((SPL.map fun c => c.toInt8.toInt32).map Value.int) (.int 0) := V_lb
          refine Own.g_virtual X2 hx hZ (y := (⟨"java/lang/String", "indexOf", "(I)I"⟩ : MethodName)) (z := (⟨"java/lang/String", "indexOf", "(I)I"⟩ : MethodName)) hown (mvT hZ (hw _ (List.mem_of_getElem? (i := 78) rfl))) (mvT hZ (hw _ (List.mem_of_getElem? (i := 79) rfl))) (notFace_of_selects (args := #[]) (mvT hZ (hw _ (List.mem_of_getElem? (i := 81) rfl)))) (mvT hZ (hw _ (List.mem_of_getElem? (i := 81) rfl))) (mvT hZ (hw _ (List.mem_of_getElem? (i := 80) rfl))) (by decide) (a := la) [.int x] (Own.back (W := 0) (rm_ix1 l Z a0 hw [] la lb k_lb x G1 h2 n0 O hlx O2 P5 E_la F_la_value F_la_coder V_lb2) hZ (hw _ (List.mem_of_getElem? (i := 82) rfl)) (hw _ (List.mem_of_getElem? (i := 3) rfl)) (by decide) (by decide)) E_la e2 (by rw [hml]; rfl) [] (lenOf pd_7 rfl) rfl (Nat.le_of_ble_eq_true rfl) (hb hby d7_67) (by decide) (by decide) 70 rfl ?_
          rintro _ T3 L3 X3 ⟨r3, rfl, hr3, N3q, eH3⟩
          have N3 := Fr.app N1 N3q
          show Own.Go p e below _ (T3.setTop (mkF m 70 #[.val (.ref b), .val (.int (0 : Int32)), .val (.int (Int32.ofNat cs.length)), .val (.int (0 : Int32)), .val (.int x), .unset] [(.int r3)]))
          refine Own.g_if_lt X3 hx (hb hby d7_70) 77 73 (by decide) rfl ?_ ?_
          · intro hq
            refine Own.g_iconst X3 hx (0 : Int32) (hb hby d7_77) rfl 78 rfl ?_
            refine Own.g_istore X3 hx #[.val (.ref b), .val (.int (0 : Int32)), .val (.int (Int32.ofNat cs.length)), .val (.int (0 : Int32)), .val (.int x), .val (.int (0 : Int32))] (hb hby d7_78) rfl 80 rfl ?_
            refine Own.g_iload X3 hx (hb hby d7_80) rfl 82 rfl ?_
            refine Own.g_if_ne_f X3 hx (hb hby d7_82) rfl 85 rfl ?_
            refine Own.g_iconst X3 hx (0 : Int32) (hb hby d7_85) rfl 86 rfl ?_
            refine Own.w_ret X3 hx hZ hEL hS hk CR hret hlocks rfl (Or.inl ⟨rfl, by simp, _, rfl⟩) (hb hby d7_86) (by decide) (by decide) eH3 ?_
            have nsp : ¬ spP x := hr3.mp hq
            exact ⟨by rw [if_neg (fun z => absurd (show okP x by rw [hxd]; exact z.2 _ (getD_mem hj)) (by simp [okP, nsp, ag0, ag1, ag2]))], N3⟩
          · intro hq
            refine Own.g_iconst X3 hx (1 : Int32) (hb hby d7_73) rfl 74 rfl ?_
            refine Own.g_goto X3 hx (hb hby d7_74) 78 (by decide) ?_
            refine Own.g_istore X3 hx #[.val (.ref b), .val (.int (0 : Int32)), .val (.int (Int32.ofNat cs.length)), .val (.int (0 : Int32)), .val (.int x), .val (.int (1 : Int32))] (hb hby d7_78) rfl 80 rfl ?_
            refine Own.g_iload X3 hx (hb hby d7_80) rfl 82 rfl ?_
            refine Own.g_if_ne_t X3 hx (hb hby d7_82) (by decide) 87 (by decide) ?_
            refine Own.g_iinc X3 hx #[.val (.ref b), .val (.int (0 : Int32)), .val (.int (Int32.ofNat cs.length)), .val (.int (1 : Int32)), .val (.int x), .val (.int (1 : Int32))] (hb hby d7_87) rfl rfl 90 rfl ?_
            refine Own.g_goto X3 hx (hb hby d7_90) 9 (by decide) ?_
            exact st_isn1 hx hZ hw hby hml hown hret hlocks hEL hS hk CR b bt kb cs G1 G3 h0 x (X3.more (by decide) (by decide)) eH3 N3 O E_b F_b_value F_b_coder V_bt   O2 P5 O4 rG3 lat l4 hne (take_snoc hj hok (by rw [← hxd]; exact Or.inr (Or.inr (Or.inr (Classical.byContradiction (fun q => hq (hr3.mpr q)))))))
        · intro ag2
          refine Own.g_iload X1 hx (hb hby d7_56) rfl 58 rfl ?_
          refine Own.g_bipush X1 hx (57 : Int32) (hb hby d7_58) rfl 60 rfl ?_
          refine Own.g_icmp_le X1 hx (hb hby d7_60) 73 63 (by decide) rfl ?_ ?_
          · intro bg2
            refine Own.g_iconst X1 hx (1 : Int32) (hb hby d7_73) rfl 74 rfl ?_
            refine Own.g_goto X1 hx (hb hby d7_74) 78 (by decide) ?_
            refine Own.g_istore X1 hx #[.val (.ref b), .val (.int (0 : Int32)), .val (.int (Int32.ofNat cs.length)), .val (.int (0 : Int32)), .val (.int x), .val (.int (1 : Int32))] (hb hby d7_78) rfl 80 rfl ?_
            refine Own.g_iload X1 hx (hb hby d7_80) rfl 82 rfl ?_
            refine Own.g_if_ne_t X1 hx (hb hby d7_82) (by decide) 87 (by decide) ?_
            refine Own.g_iinc X1 hx #[.val (.ref b), .val (.int (0 : Int32)), .val (.int (Int32.ofNat cs.length)), .val (.int (1 : Int32)), .val (.int x), .val (.int (1 : Int32))] (hb hby d7_87) rfl rfl 90 rfl ?_
            refine Own.g_goto X1 hx (hb hby d7_90) 9 (by decide) ?_
            exact st_isn1 hx hZ hw hby hml hown hret hlocks hEL hS hk CR b bt kb cs G1 G3 h0 x (X1.more (by decide) (by decide)) eH1 N1 O E_b F_b_value F_b_coder V_bt   O2 P5 O4 rG3 lat l4 hne (take_snoc hj hok (by rw [← hxd]; exact Or.inr (Or.inr (Or.inl ⟨ag2, bg2⟩))))
          · intro bg2
            refine Own.w_ldc X1 hx hZ hown (hw _ (List.mem_of_getElem? (i := 77) rfl)) (own_wS hw) eH1 hS hk hEL (by decide) CR.1 [.int 45, .int 95, .int 46, .int 33, .int 126, .int 42, .int 39, .int 40, .int 41] 9 ⟨by decide, by first | rfl | decide⟩ (by decide) rfl (hb hby d7_63) 36 (by decide) (by decide) (by decide) (by decide) 65 rfl ?_
            intro la T4 h4 k4 lb k_lb X4 e4 E4 hS hk hZ hown E_la F_la_coder F_la_value V_lb C4 hne4
            replace E_b := E_b.ext E4
            replace F_b_value := F_b_value.ext E4
            replace F_b_coder := F_b_coder.ext E4
            replace V_bt := V_bt.ext E4
            replace O := O.ext E4
            replace CR := CR.trans C4
            refine Own.g_iload X4 hx (hb hby d7_65) rfl 67 rfl ?_
            have V_lb2 : Arv Z _ lb k_lb .byte (Int32.ofNat SPL.length) ((SPL.map fun c => c.toInt8.toInt32).map Value.int) (.int 0) := V_lb
            refine Own.g_virtual X4 hx hZ (y := (⟨"java/lang/String", "indexOf", "(I)I"⟩ : MethodName)) (z := (⟨"java/lang/String", "indexOf", "(I)I"⟩ : MethodName)) hown (mvT hZ (hw _ (List.mem_of_getElem? (i := 78) rfl))) (mvT hZ (hw _ (List.mem_of_getElem? (i := 79) rfl))) (notFace_of_selects (args := #[]) (mvT hZ (hw _ (List.mem_of_getElem? (i := 81) rfl)))) (mvT hZ (hw _ (List.mem_of_getElem? (i := 81) rfl))) (mvT hZ (hw _ (List.mem_of_getElem? (i := 80) rfl))) (by decide) (a := la) [.int x] (Own.back (W := 0) (rm_ix1 l Z a0 hw [] la lb k_lb x G1 h4 n0 O hlx O2 P5 E_la F_la_value F_la_coder V_lb2) hZ (hw _ (List.mem_of_getElem? (i := 82) rfl)) (hw _ (List.mem_of_getElem? (i := 3) rfl)) (by decide) (by decide)) E_la e4 (by rw [hml]; rfl) [] (lenOf pd_7 rfl) rfl (Nat.le_of_ble_eq_true rfl) (hb hby d7_67) (by decide) (by decide) 70 rfl ?_
            rintro _ T5 L5 X5 ⟨r5, rfl, hr5, N5q, eH5⟩
            have N5 := Fr.app N1 N5q
            show Own.Go p e below _ (T5.setTop (mkF m 70 #[.val (.ref b), .val (.int (0 : Int32)), .val (.int (Int32.ofNat cs.length)), .val (.int (0 : Int32)), .val (.int x), .unset] [(.int r5)]))
            refine Own.g_if_lt X5 hx (hb hby d7_70) 77 73 (by decide) rfl ?_ ?_
            · intro hq
              refine Own.g_iconst X5 hx (0 : Int32) (hb hby d7_77) rfl 78 rfl ?_
              refine Own.g_istore X5 hx #[.val (.ref b), .val (.int (0 : Int32)), .val (.int (Int32.ofNat cs.length)), .val (.int (0 : Int32)), .val (.int x), .val (.int (0 : Int32))] (hb hby d7_78) rfl 80 rfl ?_
              refine Own.g_iload X5 hx (hb hby d7_80) rfl 82 rfl ?_
              refine Own.g_if_ne_f X5 hx (hb hby d7_82) rfl 85 rfl ?_
              refine Own.g_iconst X5 hx (0 : Int32) (hb hby d7_85) rfl 86 rfl ?_
              refine Own.w_ret X5 hx hZ hEL hS hk CR hret hlocks rfl (Or.inl ⟨rfl, by simp, _, rfl⟩) (hb hby d7_86) (by decide) (by decide) eH5 ?_
              have nsp : ¬ spP x := hr5.mp hq
              exact ⟨by rw [if_neg (fun z => absurd (show okP x by rw [hxd]; exact z.2 _ (getD_mem hj)) (by simp [okP, nsp, ag0, ag1, ag2, bg2]))], N5⟩
            · intro hq
              refine Own.g_iconst X5 hx (1 : Int32) (hb hby d7_73) rfl 74 rfl ?_
              refine Own.g_goto X5 hx (hb hby d7_74) 78 (by decide) ?_
              refine Own.g_istore X5 hx #[.val (.ref b), .val (.int (0 : Int32)), .val (.int (Int32.ofNat cs.length)), .val (.int (0 : Int32)), .val (.int x), .val (.int (1 : Int32))] (hb hby d7_78) rfl 80 rfl ?_
              refine Own.g_iload X5 hx (hb hby d7_80) rfl 82 rfl ?_
              refine Own.g_if_ne_t X5 hx (hb hby d7_82) (by decide) 87 (by decide) ?_
              refine Own.g_iinc X5 hx #[.val (.ref b), .val (.int (0 : Int32)), .val (.int (Int32.ofNat cs.length)), .val (.int (1 : Int32)), .val (.int x), .val (.int (1 : Int32))] (hb hby d7_87) rfl rfl 90 rfl ?_
              refine Own.g_goto X5 hx (hb hby d7_90) 9 (by decide) ?_
              exact st_isn1 hx hZ hw hby hml hown hret hlocks hEL hS hk CR b bt kb cs G1 G3 h0 x (X5.more (by decide) (by decide)) eH5 N5 O E_b F_b_value F_b_coder V_bt   O2 P5 O4 rG3 lat l4 hne (take_snoc hj hok (by rw [← hxd]; exact Or.inr (Or.inr (Or.inr (Classical.byContradiction (fun q => hq (hr5.mpr q)))))))
      · intro ag1
        refine Own.g_iload X1 hx (hb hby d7_42) rfl 44 rfl ?_
        refine Own.g_bipush X1 hx (122 : Int32) (hb hby d7_44) rfl 46 rfl ?_
        refine Own.g_icmp_le X1 hx (hb hby d7_46) 73 49 (by decide) rfl ?_ ?_
        · intro bg1
          refine Own.g_iconst X1 hx (1 : Int32) (hb hby d7_73) rfl 74 rfl ?_
          refine Own.g_goto X1 hx (hb hby d7_74) 78 (by decide) ?_
          refine Own.g_istore X1 hx #[.val (.ref b), .val (.int (0 : Int32)), .val (.int (Int32.ofNat cs.length)), .val (.int (0 : Int32)), .val (.int x), .val (.int (1 : Int32))] (hb hby d7_78) rfl 80 rfl ?_
          refine Own.g_iload X1 hx (hb hby d7_80) rfl 82 rfl ?_
          refine Own.g_if_ne_t X1 hx (hb hby d7_82) (by decide) 87 (by decide) ?_
          refine Own.g_iinc X1 hx #[.val (.ref b), .val (.int (0 : Int32)), .val (.int (Int32.ofNat cs.length)), .val (.int (1 : Int32)), .val (.int x), .val (.int (1 : Int32))] (hb hby d7_87) rfl rfl 90 rfl ?_
          refine Own.g_goto X1 hx (hb hby d7_90) 9 (by decide) ?_
          exact st_isn1 hx hZ hw hby hml hown hret hlocks hEL hS hk CR b bt kb cs G1 G3 h0 x (X1.more (by decide) (by decide)) eH1 N1 O E_b F_b_value F_b_coder V_bt   O2 P5 O4 rG3 lat l4 hne (take_snoc hj hok (by rw [← hxd]; exact Or.inr (Or.inl ⟨ag1, bg1⟩)))
        · intro bg1
          refine Own.g_iload X1 hx (hb hby d7_49) rfl 51 rfl ?_
          refine Own.g_bipush X1 hx (48 : Int32) (hb hby d7_51) rfl 53 rfl ?_
          refine Own.g_icmp_lt X1 hx (hb hby d7_53) 63 56 (by decide) rfl ?_ ?_
          · intro ag2
            refine Own.w_ldc X1 hx hZ hown (hw _ (List.mem_of_getElem? (i := 77) rfl)) (own_wS hw) eH1 hS hk hEL (by decide) CR.1 [.int 45, .int 95, .int 46, .int 33, .int 126, .int 42, .int 39, .int 40, .int 41] 9 ⟨by decide, by first | rfl | decide⟩ (by decide) rfl (hb hby d7_63) 36 (by decide) (by decide) (by decide) (by decide) 65 rfl ?_
            intro la T6 h6 k6 lb k_lb X6 e6 E6 hS hk hZ hown E_la F_la_coder F_la_value V_lb C6 hne6
            replace E_b := E_b.ext E6
            replace F_b_value := F_b_value.ext E6
            replace F_b_coder := F_b_coder.ext E6
            replace V_bt := V_bt.ext E6
            replace O := O.ext E6
            replace CR := CR.trans C6
            refine Own.g_iload X6 hx (hb hby d7_65) rfl 67 rfl ?_
            have V_lb2 : Arv Z _ lb k_lb .byte (Int32.ofNat SPL.length) ((SPL.map fun c => c.toInt8.toInt32).map Value.int) (.int 0) := V_lb
            refine Own.g_virtual X6 hx hZ (y := (⟨"java/lang/String", "indexOf", "(I)I"⟩ : MethodName)) (z := (⟨"java/lang/String", "indexOf", "(I)I"⟩ : MethodName)) hown (mvT hZ (hw _ (List.mem_of_getElem? (i := 78) rfl))) (mvT hZ (hw _ (List.mem_of_getElem? (i := 79) rfl))) (notFace_of_selects (args := #[]) (mvT hZ (hw _ (List.mem_of_getElem? (i := 81) rfl)))) (mvT hZ (hw _ (List.mem_of_getElem? (i := 81) rfl))) (mvT hZ (hw _ (List.mem_of_getElem? (i := 80) rfl))) (by decide) (a := la) [.int x] (Own.back (W := 0) (rm_ix1 l Z a0 hw [] la lb k_lb x G1 h6 n0 O hlx O2 P5 E_la F_la_value F_la_coder V_lb2) hZ (hw _ (List.mem_of_getElem? (i := 82) rfl)) (hw _ (List.mem_of_getElem? (i := 3) rfl)) (by decide) (by decide)) E_la e6 (by rw [hml]; rfl) [] (lenOf pd_7 rfl) rfl (Nat.le_of_ble_eq_true rfl) (hb hby d7_67) (by decide) (by decide) 70 rfl ?_
            rintro _ T7 L7 X7 ⟨r7, rfl, hr7, N7q, eH7⟩
            have N7 := Fr.app N1 N7q
            show Own.Go p e below _ (T7.setTop (mkF m 70 #[.val (.ref b), .val (.int (0 : Int32)), .val (.int (Int32.ofNat cs.length)), .val (.int (0 : Int32)), .val (.int x), .unset] [(.int r7)]))
            refine Own.g_if_lt X7 hx (hb hby d7_70) 77 73 (by decide) rfl ?_ ?_
            · intro hq
              refine Own.g_iconst X7 hx (0 : Int32) (hb hby d7_77) rfl 78 rfl ?_
              refine Own.g_istore X7 hx #[.val (.ref b), .val (.int (0 : Int32)), .val (.int (Int32.ofNat cs.length)), .val (.int (0 : Int32)), .val (.int x), .val (.int (0 : Int32))] (hb hby d7_78) rfl 80 rfl ?_
              refine Own.g_iload X7 hx (hb hby d7_80) rfl 82 rfl ?_
              refine Own.g_if_ne_f X7 hx (hb hby d7_82) rfl 85 rfl ?_
              refine Own.g_iconst X7 hx (0 : Int32) (hb hby d7_85) rfl 86 rfl ?_
              refine Own.w_ret X7 hx hZ hEL hS hk CR hret hlocks rfl (Or.inl ⟨rfl, by simp, _, rfl⟩) (hb hby d7_86) (by decide) (by decide) eH7 ?_
              have nsp : ¬ spP x := hr7.mp hq
              exact ⟨by rw [if_neg (fun z => absurd (show okP x by rw [hxd]; exact z.2 _ (getD_mem hj)) (by simp [okP, nsp, ag0, ag1, bg1, ag2]))], N7⟩
            · intro hq
              refine Own.g_iconst X7 hx (1 : Int32) (hb hby d7_73) rfl 74 rfl ?_
              refine Own.g_goto X7 hx (hb hby d7_74) 78 (by decide) ?_
              refine Own.g_istore X7 hx #[.val (.ref b), .val (.int (0 : Int32)), .val (.int (Int32.ofNat cs.length)), .val (.int (0 : Int32)), .val (.int x), .val (.int (1 : Int32))] (hb hby d7_78) rfl 80 rfl ?_
              refine Own.g_iload X7 hx (hb hby d7_80) rfl 82 rfl ?_
              refine Own.g_if_ne_t X7 hx (hb hby d7_82) (by decide) 87 (by decide) ?_
              refine Own.g_iinc X7 hx #[.val (.ref b), .val (.int (0 : Int32)), .val (.int (Int32.ofNat cs.length)), .val (.int (1 : Int32)), .val (.int x), .val (.int (1 : Int32))] (hb hby d7_87) rfl rfl 90 rfl ?_
              refine Own.g_goto X7 hx (hb hby d7_90) 9 (by decide) ?_
              exact st_isn1 hx hZ hw hby hml hown hret hlocks hEL hS hk CR b bt kb cs G1 G3 h0 x (X7.more (by decide) (by decide)) eH7 N7 O E_b F_b_value F_b_coder V_bt   O2 P5 O4 rG3 lat l4 hne (take_snoc hj hok (by rw [← hxd]; exact Or.inr (Or.inr (Or.inr (Classical.byContradiction (fun q => hq (hr7.mpr q)))))))
          · intro ag2
            refine Own.g_iload X1 hx (hb hby d7_56) rfl 58 rfl ?_
            refine Own.g_bipush X1 hx (57 : Int32) (hb hby d7_58) rfl 60 rfl ?_
            refine Own.g_icmp_le X1 hx (hb hby d7_60) 73 63 (by decide) rfl ?_ ?_
            · intro bg2
              refine Own.g_iconst X1 hx (1 : Int32) (hb hby d7_73) rfl 74 rfl ?_
              refine Own.g_goto X1 hx (hb hby d7_74) 78 (by decide) ?_
              refine Own.g_istore X1 hx #[.val (.ref b), .val (.int (0 : Int32)), .val (.int (Int32.ofNat cs.length)), .val (.int (0 : Int32)), .val (.int x), .val (.int (1 : Int32))] (hb hby d7_78) rfl 80 rfl ?_
              refine Own.g_iload X1 hx (hb hby d7_80) rfl 82 rfl ?_
              refine Own.g_if_ne_t X1 hx (hb hby d7_82) (by decide) 87 (by decide) ?_
              refine Own.g_iinc X1 hx #[.val (.ref b), .val (.int (0 : Int32)), .val (.int (Int32.ofNat cs.length)), .val (.int (1 : Int32)), .val (.int x), .val (.int (1 : Int32))] (hb hby d7_87) rfl rfl 90 rfl ?_
              refine Own.g_goto X1 hx (hb hby d7_90) 9 (by decide) ?_
              exact st_isn1 hx hZ hw hby hml hown hret hlocks hEL hS hk CR b bt kb cs G1 G3 h0 x (X1.more (by decide) (by decide)) eH1 N1 O E_b F_b_value F_b_coder V_bt   O2 P5 O4 rG3 lat l4 hne (take_snoc hj hok (by rw [← hxd]; exact Or.inr (Or.inr (Or.inl ⟨ag2, bg2⟩))))
            · intro bg2
              refine Own.w_ldc X1 hx hZ hown (hw _ (List.mem_of_getElem? (i := 77) rfl)) (own_wS hw) eH1 hS hk hEL (by decide) CR.1 [.int 45, .int 95, .int 46, .int 33, .int 126, .int 42, .int 39, .int 40, .int 41] 9 ⟨by decide, by first | rfl | decide⟩ (by decide) rfl (hb hby d7_63) 36 (by decide) (by decide) (by decide) (by decide) 65 rfl ?_
              intro la T8 h8 k8 lb k_lb X8 e8 E8 hS hk hZ hown E_la F_la_coder F_la_value V_lb C8 hne8
              replace E_b := E_b.ext E8
              replace F_b_value := F_b_value.ext E8
              replace F_b_coder := F_b_coder.ext E8
              replace V_bt := V_bt.ext E8
              replace O := O.ext E8
              replace CR := CR.trans C8
              refine Own.g_iload X8 hx (hb hby d7_65) rfl 67 rfl ?_
              have V_lb2 : Arv Z _ lb k_lb .byte (Int32.ofNat SPL.length) ((SPL.map fun c => c.toInt8.toInt32).map Value.int) (.int 0) := V_lb
              refine Own.g_virtual X8 hx hZ (y := (⟨"java/lang/String", "indexOf", "(I)I"⟩ : MethodName)) (z := (⟨"java/lang/String", "indexOf", "(I)I"⟩ : MethodName)) hown (mvT hZ (hw _ (List.mem_of_getElem? (i := 78) rfl))) (mvT hZ (hw _ (List.mem_of_getElem? (i := 79) rfl))) (notFace_of_selects (args := #[]) (mvT hZ (hw _ (List.mem_of_getElem? (i := 81) rfl)))) (mvT hZ (hw _ (List.mem_of_getElem? (i := 81) rfl))) (mvT hZ (hw _ (List.mem_of_getElem? (i := 80) rfl))) (by decide) (a := la) [.int x] (Own.back (W := 0) (rm_ix1 l Z a0 hw [] la lb k_lb x G1 h8 n0 O hlx O2 P5 E_la F_la_value F_la_coder V_lb2) hZ (hw _ (List.mem_of_getElem? (i := 82) rfl)) (hw _ (List.mem_of_getElem? (i := 3) rfl)) (by decide) (by decide)) E_la e8 (by rw [hml]; rfl) [] (lenOf pd_7 rfl) rfl (Nat.le_of_ble_eq_true rfl) (hb hby d7_67) (by decide) (by decide) 70 rfl ?_
              rintro _ T9 L9 X9 ⟨r9, rfl, hr9, N9q, eH9⟩
              have N9 := Fr.app N1 N9q
              show Own.Go p e below _ (T9.setTop (mkF m 70 #[.val (.ref b), .val (.int (0 : Int32)), .val (.int (Int32.ofNat cs.length)), .val (.int (0 : Int32)), .val (.int x), .unset] [(.int r9)]))
              refine Own.g_if_lt X9 hx (hb hby d7_70) 77 73 (by decide) rfl ?_ ?_
              · intro hq
                refine Own.g_iconst X9 hx (0 : Int32) (hb hby d7_77) rfl 78 rfl ?_
                refine Own.g_istore X9 hx #[.val (.ref b), .val (.int (0 : Int32)), .val (.int (Int32.ofNat cs.length)), .val (.int (0 : Int32)), .val (.int x), .val (.int (0 : Int32))] (hb hby d7_78) rfl 80 rfl ?_
                refine Own.g_iload X9 hx (hb hby d7_80) rfl 82 rfl ?_
                refine Own.g_if_ne_f X9 hx (hb hby d7_82) rfl 85 rfl ?_
                refine Own.g_iconst X9 hx (0 : Int32) (hb hby d7_85) rfl 86 rfl ?_
                refine Own.w_ret X9 hx hZ hEL hS hk CR hret hlocks rfl (Or.inl ⟨rfl, by simp, _, rfl⟩) (hb hby d7_86) (by decide) (by decide) eH9 ?_
                have nsp : ¬ spP x := hr9.mp hq
                exact ⟨by rw [if_neg (fun z => absurd (show okP x by rw [hxd]; exact z.2 _ (getD_mem hj)) (by simp [okP, nsp, ag0, ag1, bg1, ag2, bg2]))], N9⟩
              · intro hq
                refine Own.g_iconst X9 hx (1 : Int32) (hb hby d7_73) rfl 74 rfl ?_
                refine Own.g_goto X9 hx (hb hby d7_74) 78 (by decide) ?_
                refine Own.g_istore X9 hx #[.val (.ref b), .val (.int (0 : Int32)), .val (.int (Int32.ofNat cs.length)), .val (.int (0 : Int32)), .val (.int x), .val (.int (1 : Int32))] (hb hby d7_78) rfl 80 rfl ?_
                refine Own.g_iload X9 hx (hb hby d7_80) rfl 82 rfl ?_
                refine Own.g_if_ne_t X9 hx (hb hby d7_82) (by decide) 87 (by decide) ?_
                refine Own.g_iinc X9 hx #[.val (.ref b), .val (.int (0 : Int32)), .val (.int (Int32.ofNat cs.length)), .val (.int (1 : Int32)), .val (.int x), .val (.int (1 : Int32))] (hb hby d7_87) rfl rfl 90 rfl ?_
                refine Own.g_goto X9 hx (hb hby d7_90) 9 (by decide) ?_
                exact st_isn1 hx hZ hw hby hml hown hret hlocks hEL hS hk CR b bt kb cs G1 G3 h0 x (X9.more (by decide) (by decide)) eH9 N9 O E_b F_b_value F_b_coder V_bt   O2 P5 O4 rG3 lat l4 hne (take_snoc hj hok (by rw [← hxd]; exact Or.inr (Or.inr (Or.inr (Classical.byContradiction (fun q => hq (hr9.mpr q)))))))
    · intro ag0
      refine Own.g_iload X1 hx (hb hby d7_28) rfl 30 rfl ?_
      refine Own.g_bipush X1 hx (90 : Int32) (hb hby d7_30) rfl 32 rfl ?_
      refine Own.g_icmp_le X1 hx (hb hby d7_32) 73 35 (by decide) rfl ?_ ?_
      · intro bg0
        refine Own.g_iconst X1 hx (1 : Int32) (hb hby d7_73) rfl 74 rfl ?_
        refine Own.g_goto X1 hx (hb hby d7_74) 78 (by decide) ?_
        refine Own.g_istore X1 hx #[.val (.ref b), .val (.int (0 : Int32)), .val (.int (Int32.ofNat cs.length)), .val (.int (0 : Int32)), .val (.int x), .val (.int (1 : Int32))] (hb hby d7_78) rfl 80 rfl ?_
        refine Own.g_iload X1 hx (hb hby d7_80) rfl 82 rfl ?_
        refine Own.g_if_ne_t X1 hx (hb hby d7_82) (by decide) 87 (by decide) ?_
        refine Own.g_iinc X1 hx #[.val (.ref b), .val (.int (0 : Int32)), .val (.int (Int32.ofNat cs.length)), .val (.int (1 : Int32)), .val (.int x), .val (.int (1 : Int32))] (hb hby d7_87) rfl rfl 90 rfl ?_
        refine Own.g_goto X1 hx (hb hby d7_90) 9 (by decide) ?_
        exact st_isn1 hx hZ hw hby hml hown hret hlocks hEL hS hk CR b bt kb cs G1 G3 h0 x (X1.more (by decide) (by decide)) eH1 N1 O E_b F_b_value F_b_coder V_bt   O2 P5 O4 rG3 lat l4 hne (take_snoc hj hok (by rw [← hxd]; exact Or.inl ⟨ag0, bg0⟩))
      · intro bg0
        refine Own.g_iload X1 hx (hb hby d7_35) rfl 37 rfl ?_
        refine Own.g_bipush X1 hx (97 : Int32) (hb hby d7_37) rfl 39 rfl ?_
        refine Own.g_icmp_lt X1 hx (hb hby d7_39) 49 42 (by decide) rfl ?_ ?_
        · intro ag1
          refine Own.g_iload X1 hx (hb hby d7_49) rfl 51 rfl ?_
          refine Own.g_bipush X1 hx (48 : Int32) (hb hby d7_51) rfl 53 rfl ?_
          refine Own.g_icmp_lt X1 hx (hb hby d7_53) 63 56 (by decide) rfl ?_ ?_
          · intro ag2
            refine Own.w_ldc X1 hx hZ hown (hw _ (List.mem_of_getElem? (i := 77) rfl)) (own_wS hw) eH1 hS hk hEL (by decide) CR.1 [.int 45, .int 95, .int 46, .int 33, .int 126, .int 42, .int 39, .int 40, .int 41] 9 ⟨by decide, by first | rfl | decide⟩ (by decide) rfl (hb hby d7_63) 36 (by decide) (by decide) (by decide) (by decide) 65 rfl ?_
            intro la T10 h10 k10 lb k_lb X10 e10 E10 hS hk hZ hown E_la F_la_coder F_la_value V_lb C10 hne10
            replace E_b := E_b.ext E10
            replace F_b_value := F_b_value.ext E10
            replace F_b_coder := F_b_coder.ext E10
            replace V_bt := V_bt.ext E10
            replace O := O.ext E10
            replace CR := CR.trans C10
            refine Own.g_iload X10 hx (hb hby d7_65) rfl 67 rfl ?_
            have V_lb2 : Arv Z _ lb k_lb .byte (Int32.ofNat SPL.length) ((SPL.map fun c => c.toInt8.toInt32).map Value.int) (.int 0) := V_lb
            refine Own.g_virtual X10 hx hZ (y := (⟨"java/lang/String", "indexOf", "(I)I"⟩ : MethodName)) (z := (⟨"java/lang/String", "indexOf", "(I)I"⟩ : MethodName)) hown (mvT hZ (hw _ (List.mem_of_getElem? (i := 78) rfl))) (mvT hZ (hw _ (List.mem_of_getElem? (i := 79) rfl))) (notFace_of_selects (args := #[]) (mvT hZ (hw _ (List.mem_of_getElem? (i := 81) rfl)))) (mvT hZ (hw _ (List.mem_of_getElem? (i := 81) rfl))) (mvT hZ (hw _ (List.mem_of_getElem? (i := 80) rfl))) (by decide) (a := la) [.int x] (Own.back (W := 0) (rm_ix1 l Z a0 hw [] la lb k_lb x G1 h10 n0 O hlx O2 P5 E_la F_la_value F_la_coder V_lb2) hZ (hw _ (List.mem_of_getElem? (i := 82) rfl)) (hw _ (List.mem_of_getElem? (i := 3) rfl)) (by decide) (by decide)) E_la e10 (by rw [hml]; rfl) [] (lenOf pd_7 rfl) rfl (Nat.le_of_ble_eq_true rfl) (hb hby d7_67) (by decide) (by decide) 70 rfl ?_
            rintro _ T11 L11 X11 ⟨r11, rfl, hr11, N11q, eH11⟩
            have N11 := Fr.app N1 N11q
            show Own.Go p e below _ (T11.setTop (mkF m 70 #[.val (.ref b), .val (.int (0 : Int32)), .val (.int (Int32.ofNat cs.length)), .val (.int (0 : Int32)), .val (.int x), .unset] [(.int r11)]))
            refine Own.g_if_lt X11 hx (hb hby d7_70) 77 73 (by decide) rfl ?_ ?_
            · intro hq
              refine Own.g_iconst X11 hx (0 : Int32) (hb hby d7_77) rfl 78 rfl ?_
              refine Own.g_istore X11 hx #[.val (.ref b), .val (.int (0 : Int32)), .val (.int (Int32.ofNat cs.length)), .val (.int (0 : Int32)), .val (.int x), .val (.int (0 : Int32))] (hb hby d7_78) rfl 80 rfl ?_
              refine Own.g_iload X11 hx (hb hby d7_80) rfl 82 rfl ?_
              refine Own.g_if_ne_f X11 hx (hb hby d7_82) rfl 85 rfl ?_
              refine Own.g_iconst X11 hx (0 : Int32) (hb hby d7_85) rfl 86 rfl ?_
              refine Own.w_ret X11 hx hZ hEL hS hk CR hret hlocks rfl (Or.inl ⟨rfl, by simp, _, rfl⟩) (hb hby d7_86) (by decide) (by decide) eH11 ?_
              have nsp : ¬ spP x := hr11.mp hq
              exact ⟨by rw [if_neg (fun z => absurd (show okP x by rw [hxd]; exact z.2 _ (getD_mem hj)) (by simp [okP, nsp, ag0, bg0, ag1, ag2]))], N11⟩
            · intro hq
              refine Own.g_iconst X11 hx (1 : Int32) (hb hby d7_73) rfl 74 rfl ?_
              refine Own.g_goto X11 hx (hb hby d7_74) 78 (by decide) ?_
              refine Own.g_istore X11 hx #[.val (.ref b), .val (.int (0 : Int32)), .val (.int (Int32.ofNat cs.length)), .val (.int (0 : Int32)), .val (.int x), .val (.int (1 : Int32))] (hb hby d7_78) rfl 80 rfl ?_
              refine Own.g_iload X11 hx (hb hby d7_80) rfl 82 rfl ?_
              refine Own.g_if_ne_t X11 hx (hb hby d7_82) (by decide) 87 (by decide) ?_
              refine Own.g_iinc X11 hx #[.val (.ref b), .val (.int (0 : Int32)), .val (.int (Int32.ofNat cs.length)), .val (.int (1 : Int32)), .val (.int x), .val (.int (1 : Int32))] (hb hby d7_87) rfl rfl 90 rfl ?_
              refine Own.g_goto X11 hx (hb hby d7_90) 9 (by decide) ?_
              exact st_isn1 hx hZ hw hby hml hown hret hlocks hEL hS hk CR b bt kb cs G1 G3 h0 x (X11.more (by decide) (by decide)) eH11 N11 O E_b F_b_value F_b_coder V_bt   O2 P5 O4 rG3 lat l4 hne (take_snoc hj hok (by rw [← hxd]; exact Or.inr (Or.inr (Or.inr (Classical.byContradiction (fun q => hq (hr11.mpr q)))))))
          · intro ag2
            refine Own.g_iload X1 hx (hb hby d7_56) rfl 58 rfl ?_
            refine Own.g_bipush X1 hx (57 : Int32) (hb hby d7_58) rfl 60 rfl ?_
            refine Own.g_icmp_le X1 hx (hb hby d7_60) 73 63 (by decide) rfl ?_ ?_
            · intro bg2
              refine Own.g_iconst X1 hx (1 : Int32) (hb hby d7_73) rfl 74 rfl ?_
              refine Own.g_goto X1 hx (hb hby d7_74) 78 (by decide) ?_
              refine Own.g_istore X1 hx #[.val (.ref b), .val (.int (0 : Int32)), .val (.int (Int32.ofNat cs.length)), .val (.int (0 : Int32)), .val (.int x), .val (.int (1 : Int32))] (hb hby d7_78) rfl 80 rfl ?_
              refine Own.g_iload X1 hx (hb hby d7_80) rfl 82 rfl ?_
              refine Own.g_if_ne_t X1 hx (hb hby d7_82) (by decide) 87 (by decide) ?_
              refine Own.g_iinc X1 hx #[.val (.ref b), .val (.int (0 : Int32)), .val (.int (Int32.ofNat cs.length)), .val (.int (1 : Int32)), .val (.int x), .val (.int (1 : Int32))] (hb hby d7_87) rfl rfl 90 rfl ?_
              refine Own.g_goto X1 hx (hb hby d7_90) 9 (by decide) ?_
              exact st_isn1 hx hZ hw hby hml hown hret hlocks hEL hS hk CR b bt kb cs G1 G3 h0 x (X1.more (by decide) (by decide)) eH1 N1 O E_b F_b_value F_b_coder V_bt   O2 P5 O4 rG3 lat l4 hne (take_snoc hj hok (by rw [← hxd]; exact Or.inr (Or.inr (Or.inl ⟨ag2, bg2⟩))))
            · intro bg2
              refine Own.w_ldc X1 hx hZ hown (hw _ (List.mem_of_getElem? (i := 77) rfl)) (own_wS hw) eH1 hS hk hEL (by decide) CR.1 [.int 45, .int 95, .int 46, .int 33, .int 126, .int 42, .int 39, .int 40, .int 41] 9 ⟨by decide, by first | rfl | decide⟩ (by decide) rfl (hb hby d7_63) 36 (by decide) (by decide) (by decide) (by decide) 65 rfl ?_
              intro la T12 h12 k12 lb k_lb X12 e12 E12 hS hk hZ hown E_la F_la_coder F_la_value V_lb C12 hne12
              replace E_b := E_b.ext E12
              replace F_b_value := F_b_value.ext E12
              replace F_b_coder := F_b_coder.ext E12
              replace V_bt := V_bt.ext E12
              replace O := O.ext E12
              replace CR := CR.trans C12
              refine Own.g_iload X12 hx (hb hby d7_65) rfl 67 rfl ?_
              have V_lb2 : Arv Z _ lb k_lb .byte (Int32.ofNat SPL.length) ((SPL.map fun c => c.toInt8.toInt32).map Value.int) (.int 0) := V_lb
              refine Own.g_virtual X12 hx hZ (y := (⟨"java/lang/String", "indexOf", "(I)I"⟩ : MethodName)) (z := (⟨"java/lang/String", "indexOf", "(I)I"⟩ : MethodName)) hown (mvT hZ (hw _ (List.mem_of_getElem? (i := 78) rfl))) (mvT hZ (hw _ (List.mem_of_getElem? (i := 79) rfl))) (notFace_of_selects (args := #[]) (mvT hZ (hw _ (List.mem_of_getElem? (i := 81) rfl)))) (mvT hZ (hw _ (List.mem_of_getElem? (i := 81) rfl))) (mvT hZ (hw _ (List.mem_of_getElem? (i := 80) rfl))) (by decide) (a := la) [.int x] (Own.back (W := 0) (rm_ix1 l Z a0 hw [] la lb k_lb x G1 h12 n0 O hlx O2 P5 E_la F_la_value F_la_coder V_lb2) hZ (hw _ (List.mem_of_getElem? (i := 82) rfl)) (hw _ (List.mem_of_getElem? (i := 3) rfl)) (by decide) (by decide)) E_la e12 (by rw [hml]; rfl) [] (lenOf pd_7 rfl) rfl (Nat.le_of_ble_eq_true rfl) (hb hby d7_67) (by decide) (by decide) 70 rfl ?_
              rintro _ T13 L13 X13 ⟨r13, rfl, hr13, N13q, eH13⟩
              have N13 := Fr.app N1 N13q
              show Own.Go p e below _ (T13.setTop (mkF m 70 #[.val (.ref b), .val (.int (0 : Int32)), .val (.int (Int32.ofNat cs.length)), .val (.int (0 : Int32)), .val (.int x), .unset] [(.int r13)]))
              refine Own.g_if_lt X13 hx (hb hby d7_70) 77 73 (by decide) rfl ?_ ?_
              · intro hq
                refine Own.g_iconst X13 hx (0 : Int32) (hb hby d7_77) rfl 78 rfl ?_
                refine Own.g_istore X13 hx #[.val (.ref b), .val (.int (0 : Int32)), .val (.int (Int32.ofNat cs.length)), .val (.int (0 : Int32)), .val (.int x), .val (.int (0 : Int32))] (hb hby d7_78) rfl 80 rfl ?_
                refine Own.g_iload X13 hx (hb hby d7_80) rfl 82 rfl ?_
                refine Own.g_if_ne_f X13 hx (hb hby d7_82) rfl 85 rfl ?_
                refine Own.g_iconst X13 hx (0 : Int32) (hb hby d7_85) rfl 86 rfl ?_
                refine Own.w_ret X13 hx hZ hEL hS hk CR hret hlocks rfl (Or.inl ⟨rfl, by simp, _, rfl⟩) (hb hby d7_86) (by decide) (by decide) eH13 ?_
                have nsp : ¬ spP x := hr13.mp hq
                exact ⟨by rw [if_neg (fun z => absurd (show okP x by rw [hxd]; exact z.2 _ (getD_mem hj)) (by simp [okP, nsp, ag0, bg0, ag1, ag2, bg2]))], N13⟩
              · intro hq
                refine Own.g_iconst X13 hx (1 : Int32) (hb hby d7_73) rfl 74 rfl ?_
                refine Own.g_goto X13 hx (hb hby d7_74) 78 (by decide) ?_
                refine Own.g_istore X13 hx #[.val (.ref b), .val (.int (0 : Int32)), .val (.int (Int32.ofNat cs.length)), .val (.int (0 : Int32)), .val (.int x), .val (.int (1 : Int32))] (hb hby d7_78) rfl 80 rfl ?_
                refine Own.g_iload X13 hx (hb hby d7_80) rfl 82 rfl ?_
                refine Own.g_if_ne_t X13 hx (hb hby d7_82) (by decide) 87 (by decide) ?_
                refine Own.g_iinc X13 hx #[.val (.ref b), .val (.int (0 : Int32)), .val (.int (Int32.ofNat cs.length)), .val (.int (1 : Int32)), .val (.int x), .val (.int (1 : Int32))] (hb hby d7_87) rfl rfl 90 rfl ?_
                refine Own.g_goto X13 hx (hb hby d7_90) 9 (by decide) ?_
                exact st_isn1 hx hZ hw hby hml hown hret hlocks hEL hS hk CR b bt kb cs G1 G3 h0 x (X13.more (by decide) (by decide)) eH13 N13 O E_b F_b_value F_b_coder V_bt   O2 P5 O4 rG3 lat l4 hne (take_snoc hj hok (by rw [← hxd]; exact Or.inr (Or.inr (Or.inr (Classical.byContradiction (fun q => hq (hr13.mpr q)))))))
        · intro ag1
          refine Own.g_iload X1 hx (hb hby d7_42) rfl 44 rfl ?_
          refine Own.g_bipush X1 hx (122 : Int32) (hb hby d7_44) rfl 46 rfl ?_
          refine Own.g_icmp_le X1 hx (hb hby d7_46) 73 49 (by decide) rfl ?_ ?_
          · intro bg1
            refine Own.g_iconst X1 hx (1 : Int32) (hb hby d7_73) rfl 74 rfl ?_
            refine Own.g_goto X1 hx (hb hby d7_74) 78 (by decide) ?_
            refine Own.g_istore X1 hx #[.val (.ref b), .val (.int (0 : Int32)), .val (.int (Int32.ofNat cs.length)), .val (.int (0 : Int32)), .val (.int x), .val (.int (1 : Int32))] (hb hby d7_78) rfl 80 rfl ?_
            refine Own.g_iload X1 hx (hb hby d7_80) rfl 82 rfl ?_
            refine Own.g_if_ne_t X1 hx (hb hby d7_82) (by decide) 87 (by decide) ?_
            refine Own.g_iinc X1 hx #[.val (.ref b), .val (.int (0 : Int32)), .val (.int (Int32.ofNat cs.length)), .val (.int (1 : Int32)), .val (.int x), .val (.int (1 : Int32))] (hb hby d7_87) rfl rfl 90 rfl ?_
            refine Own.g_goto X1 hx (hb hby d7_90) 9 (by decide) ?_
            exact st_isn1 hx hZ hw hby hml hown hret hlocks hEL hS hk CR b bt kb cs G1 G3 h0 x (X1.more (by decide) (by decide)) eH1 N1 O E_b F_b_value F_b_coder V_bt   O2 P5 O4 rG3 lat l4 hne (take_snoc hj hok (by rw [← hxd]; exact Or.inr (Or.inl ⟨ag1, bg1⟩)))
          · intro bg1
            refine Own.g_iload X1 hx (hb hby d7_49) rfl 51 rfl ?_
            refine Own.g_bipush X1 hx (48 : Int32) (hb hby d7_51) rfl 53 rfl ?_
            refine Own.g_icmp_lt X1 hx (hb hby d7_53) 63 56 (by decide) rfl ?_ ?_
            · intro ag2
              refine Own.w_ldc X1 hx hZ hown (hw _ (List.mem_of_getElem? (i := 77) rfl)) (own_wS hw) eH1 hS hk hEL (by decide) CR.1 [.int 45, .int 95, .int 46, .int 33, .int 126, .int 42, .int 39, .int 40, .int 41] 9 ⟨by decide, by first | rfl | decide⟩ (by decide) rfl (hb hby d7_63) 36 (by decide) (by decide) (by decide) (by decide) 65 rfl ?_
              intro la T14 h14 k14 lb k_lb X14 e14 E14 hS hk hZ hown E_la F_la_coder F_la_value V_lb C14 hne14
              replace E_b := E_b.ext E14
              replace F_b_value := F_b_value.ext E14
              replace F_b_coder := F_b_coder.ext E14
              replace V_bt := V_bt.ext E14
              replace O := O.ext E14
              replace CR := CR.trans C14
              refine Own.g_iload X14 hx (hb hby d7_65) rfl 67 rfl ?_
              have V_lb2 : Arv Z _ lb k_lb .byte (Int32.ofNat SPL.length) ((SPL.map fun c => c.toInt8.toInt32).map Value.int) (.int 0) := V_lb
              refine Own.g_virtual X14 hx hZ (y := (⟨"java/lang/String", "indexOf", "(I)I"⟩ : MethodName)) (z := (⟨"java/lang/String", "indexOf", "(I)I"⟩ : MethodName)) hown (mvT hZ (hw _ (List.mem_of_getElem? (i := 78) rfl))) (mvT hZ (hw _ (List.mem_of_getElem? (i := 79) rfl))) (notFace_of_selects (args := #[]) (mvT hZ (hw _ (List.mem_of_getElem? (i := 81) rfl)))) (mvT hZ (hw _ (List.mem_of_getElem? (i := 81) rfl))) (mvT hZ (hw _ (List.mem_of_getElem? (i := 80) rfl))) (by decide) (a := la) [.int x] (Own.back (W := 0) (rm_ix1 l Z a0 hw [] la lb k_lb x G1 h14 n0 O hlx O2 P5 E_la F_la_value F_la_coder V_lb2) hZ (hw _ (List.mem_of_getElem? (i := 82) rfl)) (hw _ (List.mem_of_getElem? (i := 3) rfl)) (by decide) (by decide)) E_la e14 (by rw [hml]; rfl) [] (lenOf pd_7 rfl) rfl (Nat.le_of_ble_eq_true rfl) (hb hby d7_67) (by decide) (by decide) 70 rfl ?_
              rintro _ T15 L15 X15 ⟨r15, rfl, hr15, N15q, eH15⟩
              have N15 := Fr.app N1 N15q
              show Own.Go p e below _ (T15.setTop (mkF m 70 #[.val (.ref b), .val (.int (0 : Int32)), .val (.int (Int32.ofNat cs.length)), .val (.int (0 : Int32)), .val (.int x), .unset] [(.int r15)]))
              refine Own.g_if_lt X15 hx (hb hby d7_70) 77 73 (by decide) rfl ?_ ?_
              · intro hq
                refine Own.g_iconst X15 hx (0 : Int32) (hb hby d7_77) rfl 78 rfl ?_
                refine Own.g_istore X15 hx #[.val (.ref b), .val (.int (0 : Int32)), .val (.int (Int32.ofNat cs.length)), .val (.int (0 : Int32)), .val (.int x), .val (.int (0 : Int32))] (hb hby d7_78) rfl 80 rfl ?_
                refine Own.g_iload X15 hx (hb hby d7_80) rfl 82 rfl ?_
                refine Own.g_if_ne_f X15 hx (hb hby d7_82) rfl 85 rfl ?_
                refine Own.g_iconst X15 hx (0 : Int32) (hb hby d7_85) rfl 86 rfl ?_
                refine Own.w_ret X15 hx hZ hEL hS hk CR hret hlocks rfl (Or.inl ⟨rfl, by simp, _, rfl⟩) (hb hby d7_86) (by decide) (by decide) eH15 ?_
                have nsp : ¬ spP x := hr15.mp hq
                exact ⟨by rw [if_neg (fun z => absurd (show okP x by rw [hxd]; exact z.2 _ (getD_mem hj)) (by simp [okP, nsp, ag0, bg0, ag1, bg1, ag2]))], N15⟩
              · intro hq
                refine Own.g_iconst X15 hx (1 : Int32) (hb hby d7_73) rfl 74 rfl ?_
                refine Own.g_goto X15 hx (hb hby d7_74) 78 (by decide) ?_
                refine Own.g_istore X15 hx #[.val (.ref b), .val (.int (0 : Int32)), .val (.int (Int32.ofNat cs.length)), .val (.int (0 : Int32)), .val (.int x), .val (.int (1 : Int32))] (hb hby d7_78) rfl 80 rfl ?_
                refine Own.g_iload X15 hx (hb hby d7_80) rfl 82 rfl ?_
                refine Own.g_if_ne_t X15 hx (hb hby d7_82) (by decide) 87 (by decide) ?_
                refine Own.g_iinc X15 hx #[.val (.ref b), .val (.int (0 : Int32)), .val (.int (Int32.ofNat cs.length)), .val (.int (1 : Int32)), .val (.int x), .val (.int (1 : Int32))] (hb hby d7_87) rfl rfl 90 rfl ?_
                refine Own.g_goto X15 hx (hb hby d7_90) 9 (by decide) ?_
                exact st_isn1 hx hZ hw hby hml hown hret hlocks hEL hS hk CR b bt kb cs G1 G3 h0 x (X15.more (by decide) (by decide)) eH15 N15 O E_b F_b_value F_b_coder V_bt   O2 P5 O4 rG3 lat l4 hne (take_snoc hj hok (by rw [← hxd]; exact Or.inr (Or.inr (Or.inr (Classical.byContradiction (fun q => hq (hr15.mpr q)))))))
            · intro ag2
              refine Own.g_iload X1 hx (hb hby d7_56) rfl 58 rfl ?_
              refine Own.g_bipush X1 hx (57 : Int32) (hb hby d7_58) rfl 60 rfl ?_
              refine Own.g_icmp_le X1 hx (hb hby d7_60) 73 63 (by decide) rfl ?_ ?_
              · intro bg2
                refine Own.g_iconst X1 hx (1 : Int32) (hb hby d7_73) rfl 74 rfl ?_
                refine Own.g_goto X1 hx (hb hby d7_74) 78 (by decide) ?_
                refine Own.g_istore X1 hx #[.val (.ref b), .val (.int (0 : Int32)), .val (.int (Int32.ofNat cs.length)), .val (.int (0 : Int32)), .val (.int x), .val (.int (1 : Int32))] (hb hby d7_78) rfl 80 rfl ?_
                refine Own.g_iload X1 hx (hb hby d7_80) rfl 82 rfl ?_
                refine Own.g_if_ne_t X1 hx (hb hby d7_82) (by decide) 87 (by decide) ?_
                refine Own.g_iinc X1 hx #[.val (.ref b), .val (.int (0 : Int32)), .val (.int (Int32.ofNat cs.length)), .val (.int (1 : Int32)), .val (.int x), .val (.int (1 : Int32))] (hb hby d7_87) rfl rfl 90 rfl ?_
                refine Own.g_goto X1 hx (hb hby d7_90) 9 (by decide) ?_
                exact st_isn1 hx hZ hw hby hml hown hret hlocks hEL hS hk CR b bt kb cs G1 G3 h0 x (X1.more (by decide) (by decide)) eH1 N1 O E_b F_b_value F_b_coder V_bt   O2 P5 O4 rG3 lat l4 hne (take_snoc hj hok (by rw [← hxd]; exact Or.inr (Or.inr (Or.inl ⟨ag2, bg2⟩))))
              · intro bg2
                refine Own.w_ldc X1 hx hZ hown (hw _ (List.mem_of_getElem? (i := 77) rfl)) (own_wS hw) eH1 hS hk hEL (by decide) CR.1 [.int 45, .int 95, .int 46, .int 33, .int 126, .int 42, .int 39, .int 40, .int 41] 9 ⟨by decide, by first | rfl | decide⟩ (by decide) rfl (hb hby d7_63) 36 (by decide) (by decide) (by decide) (by decide) 65 rfl ?_
                intro la T16 h16 k16 lb k_lb X16 e16 E16 hS hk hZ hown E_la F_la_coder F_la_value V_lb C16 hne16
                replace E_b := E_b.ext E16
                replace F_b_value := F_b_value.ext E16
                replace F_b_coder := F_b_coder.ext E16
                replace V_bt := V_bt.ext E16
                replace O := O.ext E16
                replace CR := CR.trans C16
                refine Own.g_iload X16 hx (hb hby d7_65) rfl 67 rfl ?_
                have V_lb2 : Arv Z _ lb k_lb .byte (Int32.ofNat SPL.length) ((SPL.map fun c => c.toInt8.toInt32).map Value.int) (.int 0) := V_lb
                refine Own.g_virtual X16 hx hZ (y := (⟨"java/lang/String", "indexOf", "(I)I"⟩ : MethodName)) (z := (⟨"java/lang/String", "indexOf", "(I)I"⟩ : MethodName)) hown (mvT hZ (hw _ (List.mem_of_getElem? (i := 78) rfl))) (mvT hZ (hw _ (List.mem_of_getElem? (i := 79) rfl))) (notFace_of_selects (args := #[]) (mvT hZ (hw _ (List.mem_of_getElem? (i := 81) rfl)))) (mvT hZ (hw _ (List.mem_of_getElem? (i := 81) rfl))) (mvT hZ (hw _ (List.mem_of_getElem? (i := 80) rfl))) (by decide) (a := la) [.int x] (Own.back (W := 0) (rm_ix1 l Z a0 hw [] la lb k_lb x G1 h16 n0 O hlx O2 P5 E_la F_la_value F_la_coder V_lb2) hZ (hw _ (List.mem_of_getElem? (i := 82) rfl)) (hw _ (List.mem_of_getElem? (i := 3) rfl)) (by decide) (by decide)) E_la e16 (by rw [hml]; rfl) [] (lenOf pd_7 rfl) rfl (Nat.le_of_ble_eq_true rfl) (hb hby d7_67) (by decide) (by decide) 70 rfl ?_
                rintro _ T17 L17 X17 ⟨r17, rfl, hr17, N17q, eH17⟩
                have N17 := Fr.app N1 N17q
                show Own.Go p e below _ (T17.setTop (mkF m 70 #[.val (.ref b), .val (.int (0 : Int32)), .val (.int (Int32.ofNat cs.length)), .val (.int (0 : Int32)), .val (.int x), .unset] [(.int r17)]))
                refine Own.g_if_lt X17 hx (hb hby d7_70) 77 73 (by decide) rfl ?_ ?_
                · intro hq
                  refine Own.g_iconst X17 hx (0 : Int32) (hb hby d7_77) rfl 78 rfl ?_
                  refine Own.g_istore X17 hx #[.val (.ref b), .val (.int (0 : Int32)), .val (.int (Int32.ofNat cs.length)), .val (.int (0 : Int32)), .val (.int x), .val (.int (0 : Int32))] (hb hby d7_78) rfl 80 rfl ?_
                  refine Own.g_iload X17 hx (hb hby d7_80) rfl 82 rfl ?_
                  refine Own.g_if_ne_f X17 hx (hb hby d7_82) rfl 85 rfl ?_
                  refine Own.g_iconst X17 hx (0 : Int32) (hb hby d7_85) rfl 86 rfl ?_
                  refine Own.w_ret X17 hx hZ hEL hS hk CR hret hlocks rfl (Or.inl ⟨rfl, by simp, _, rfl⟩) (hb hby d7_86) (by decide) (by decide) eH17 ?_
                  have nsp : ¬ spP x := hr17.mp hq
                  exact ⟨by rw [if_neg (fun z => absurd (show okP x by rw [hxd]; exact z.2 _ (getD_mem hj)) (by simp [okP, nsp, ag0, bg0, ag1, bg1, ag2, bg2]))], N17⟩
                · intro hq
                  refine Own.g_iconst X17 hx (1 : Int32) (hb hby d7_73) rfl 74 rfl ?_
                  refine Own.g_goto X17 hx (hb hby d7_74) 78 (by decide) ?_
                  refine Own.g_istore X17 hx #[.val (.ref b), .val (.int (0 : Int32)), .val (.int (Int32.ofNat cs.length)), .val (.int (0 : Int32)), .val (.int x), .val (.int (1 : Int32))] (hb hby d7_78) rfl 80 rfl ?_
                  refine Own.g_iload X17 hx (hb hby d7_80) rfl 82 rfl ?_
                  refine Own.g_if_ne_t X17 hx (hb hby d7_82) (by decide) 87 (by decide) ?_
                  refine Own.g_iinc X17 hx #[.val (.ref b), .val (.int (0 : Int32)), .val (.int (Int32.ofNat cs.length)), .val (.int (1 : Int32)), .val (.int x), .val (.int (1 : Int32))] (hb hby d7_87) rfl rfl 90 rfl ?_
                  refine Own.g_goto X17 hx (hb hby d7_90) 9 (by decide) ?_
                  exact st_isn1 hx hZ hw hby hml hown hret hlocks hEL hS hk CR b bt kb cs G1 G3 h0 x (X17.more (by decide) (by decide)) eH17 N17 O E_b F_b_value F_b_coder V_bt   O2 P5 O4 rG3 lat l4 hne (take_snoc hj hok (by rw [← hxd]; exact Or.inr (Or.inr (Or.inr (Classical.byContradiction (fun q => hq (hr17.mpr q)))))))
theorem ef_isn (m : MethodId) (x0 : Addr) (x1 : Int32) (x2 : Int32) : entryFrame m #[.ref x0, .int x1, .int x2] 6 = mkF m 0 #[.val (.ref x0), .val (.int x1), .val (.int x2), .unset, .unset, .unset] [] := by first | (simp [entryFrame, mkF, argsToLocals, Value.category]; done) | rfl
set_option maxRecDepth 65536 in
set_option maxHeartbeats 40000000 in
theorem rm_isn (l : Launch) (Z : State) (a0 : Array Value) (hw : ∀ d ∈ tables_1, d.before a0 Z = true) (ws : List Jvm.Cond) (b : Addr) (bt : Addr) (kb : ClassId) (cs : List Int32) (G1 : Int32) (G3 : Value) (h0 : Heap) (n0 : Nat) (O : Old Z n0 h0) (O2 : Sta Z Z.heap "java/lang/String" "COMPACT_STRINGS" "Z" (.int G1)) (P5 : ¬ (G1 = (0 : Int32))) (O4 : Sta Z Z.heap "jdk/internal/util/Preconditions" "SIOOBE_FORMATTER" "Ljava/util/function/BiFunction;" G3) (rG3 : G3.isRef = true) (lat : ∀ c ∈ cs, Own.Lat c) (l4 : cs.length ≤ 4) (E_b : Exa Z h0 b "java/lang/String") (F_b_value : Fld Z h0 b "java/lang/String" "value" "[B" (.ref bt)) (F_b_coder : Fld Z h0 b "java/lang/String" "coder" "B" (.int 0)) (V_bt : Arv Z h0 bt kb .byte (Int32.ofNat (cs).length) (((cs).map fun c => c.toInt8.toInt32).map Value.int) (.int 0)) :
    MetFree l (⟨"com/example/bowerbird/bowerbird/model/Names", "isName", "(Ljava/lang/String;II)Z"⟩ : MethodName) (head1 (Jvm.Cond.code (⟨"com/example/bowerbird/bowerbird/model/Names", "isName", "(Ljava/lang/String;II)Z"⟩ : MethodName) prog_11_method_4_code 6 (some .boolean) :: ws) ({ frames := 4, cells := 8, slots := 160, locals := 59 } : Room)) (fun aa U => aa = #[.ref b, .int (0 : Int32), .int (Int32.ofNat cs.length)] ∧ Z.Warmed39 U.vm ∧ U.heap = h0 ∧ CHv Z EL U.vm h0 ∧ ∀ yy ∈ ([] : List Addr), Safe Z EL U.vm h0 yy) (fun _ _ _ _ _ => True) (fun _ U o U' => Own.EndW Z EL U (Q_isn Z b bt kb cs G1 G3 h0 n0) 8 160 o U') := by
  refine MetFree.of_bodySF (plainFor_of_name pn_3) hisR ?_
  intro p e s m args below meth c s₁ Bd hml0 hP hK
  obtain ⟨rfl, hZ, hh, hH, hSF⟩ := hP
  replace hZ : Z.Warmed39 (s.setVm s.vm).vm := hZ
  have hEL := own_EL hw
  have hx := Bd.exec
  have hby := Bd.bytes
  have hml : c.maxLocals = 6 := hml0
  have hown : (s.setVm s.vm).vm.findClass "com/example/bowerbird/bowerbird/model/Names" = some m.cls := findClass_of_methodNamed Bd.named
  have hnm := (name_of_methodNamed Bd.named Bd.method).1
  have hret := Bd.returns
  have hlocks : meth.locks = false := Bd.notSynchronized
  have X0 : Stand p l e ({ frames := 4, cells := 8, slots := 160, locals := 59 } : Room) (s.setVm s.vm) m #[.ref b, .int (0 : Int32), .int (Int32.ofNat cs.length)] below meth c s₁ [] 0 0 := Stand.of_body Bd
  have e0 : s₁.heap = h0 := by rw [← hh, Bd.state]; rfl
  have N0 := Fr.nil n0
  have CR : CHr Z EL s.vm s.heap s.vm h0 := by rw [hh]; exact CHr.refl hH
  have hS : s.Since s.vm h0.size := (State.WarmedH.refl s).since _
  have hk : h0.size ≤ h0.size := Nat.le_refl _
  show Own.Go p e below (Own.EndW Z EL s (Q_isn Z b bt kb cs G1 G3 h0 n0) 8 160) (s₁.setTop (entryFrame m #[.ref b, .int (0 : Int32), .int (Int32.ofNat cs.length)] 6))
  refine Own.Go.eq (ef_isn m b (0 : Int32) (Int32.ofNat cs.length)) ?_
  refine Own.g_iloadN X0 hx (hb hby d7_0) rfl 1 rfl ?_
  refine Own.g_iloadN X0 hx (hb hby d7_1) rfl 2 rfl ?_
  refine Own.g_icmp_ne X0 hx (hb hby d7_2) 7 5 (by decide) rfl ?_ ?_
  · intro h0n
    refine Own.g_iloadN X0 hx (hb hby d7_7) rfl 8 rfl ?_
    refine Own.g_istoreN X0 hx #[.val (.ref b), .val (.int (0 : Int32)), .val (.int (Int32.ofNat cs.length)), .val (.int (0 : Int32)), .unset, .unset] (hb hby d7_8) rfl 9 rfl ?_
    exact st_isn0 hx hZ hw hby hml hown hret hlocks hEL hS hk CR b bt kb cs G1 G3 h0 X0 e0 N0 O E_b F_b_value F_b_coder V_bt   O2 P5 O4 rG3 lat l4 (cons_n h0n) (fun _ q => nomatch q)
  · intro h0n
    refine Own.g_iconst X0 hx (0 : Int32) (hb hby d7_5) rfl 6 rfl ?_
    refine Own.w_ret X0 hx hZ hEL hS hk CR hret hlocks rfl (Or.inl ⟨rfl, by simp, _, rfl⟩) (hb hby d7_6) (by decide) (by decide) e0 ?_
    exact ⟨by rw [if_neg (fun z => z.1 (nil_n l4 h0n))], N0⟩
theorem ef_imp (m : MethodId) (x0 : Addr) : entryFrame m #[.ref x0] 1 = mkF m 0 #[.val (.ref x0)] [] := by first | (simp [entryFrame, mkF, argsToLocals, Value.category]; done) | rfl
def Q_imp (Z : State) (b : Addr) (bt : Addr) (kb : ClassId) (cs : List Int32) (G1 : Int32) (G3 : Value) (h0 : Heap) (n0 : Nat) (v : Option Value) (h : Heap) (L : List Loc) : Prop := v = some (.int (if ¬ cs = [] ∧ ∀ c ∈ cs, okP c then 1 else 0)) ∧ Fr n0 L
set_option maxRecDepth 65536 in
set_option maxHeartbeats 40000000 in
theorem rm_imp (l : Launch) (Z : State) (a0 : Array Value) (hw : ∀ d ∈ tables_1, d.before a0 Z = true) (ws : List Jvm.Cond) (b : Addr) (bt : Addr) (kb : ClassId) (cs : List Int32) (G1 : Int32) (G3 : Value) (h0 : Heap) (n0 : Nat) (O : Old Z n0 h0) (O2 : Sta Z Z.heap "java/lang/String" "COMPACT_STRINGS" "Z" (.int G1)) (P5 : ¬ (G1 = (0 : Int32))) (O4 : Sta Z Z.heap "jdk/internal/util/Preconditions" "SIOOBE_FORMATTER" "Ljava/util/function/BiFunction;" G3) (rG3 : G3.isRef = true) (lat : ∀ c ∈ cs, Own.Lat c) (l4 : cs.length ≤ 4) (E_b : Exa Z h0 b "java/lang/String") (F_b_value : Fld Z h0 b "java/lang/String" "value" "[B" (.ref bt)) (F_b_coder : Fld Z h0 b "java/lang/String" "coder" "B" (.int 0)) (V_bt : Arv Z h0 bt kb .byte (Int32.ofNat (cs).length) (((cs).map fun c => c.toInt8.toInt32).map Value.int) (.int 0)) :
    MetFree l (⟨"com/example/bowerbird/bowerbird/model/Names", "isMetadataPrefix", "(Ljava/lang/String;)Z"⟩ : MethodName) (head1 (Jvm.Cond.code (⟨"com/example/bowerbird/bowerbird/model/Names", "isMetadataPrefix", "(Ljava/lang/String;)Z"⟩ : MethodName) prog_11_method_2_code 1 (some .boolean) :: ws) ({ frames := 5, cells := 8, slots := 160, locals := 76 } : Room)) (fun aa U => aa = #[.ref b] ∧ Z.Warmed39 U.vm ∧ U.heap = h0 ∧ CHv Z EL U.vm h0 ∧ ∀ yy ∈ ([] : List Addr), Safe Z EL U.vm h0 yy) (fun _ _ _ _ _ => True) (fun _ U o U' => Own.EndW Z EL U (Q_imp Z b bt kb cs G1 G3 h0 n0) 8 160 o U') := by
  refine MetFree.of_bodySF (plainFor_of_name pn_3) hisR ?_
  intro p e s m args below meth c s₁ Bd hml0 hP hK
  obtain ⟨rfl, hZ, hh, hH, hSF⟩ := hP
  replace hZ : Z.Warmed39 (s.setVm s.vm).vm := hZ
  have hEL := own_EL hw
  have hx := Bd.exec
  have hby := Bd.bytes
  have hml : c.maxLocals = 1 := hml0
  have hown : (s.setVm s.vm).vm.findClass "com/example/bowerbird/bowerbird/model/Names" = some m.cls := findClass_of_methodNamed Bd.named
  have hnm := (name_of_methodNamed Bd.named Bd.method).1
  have hret := Bd.returns
  have hlocks : meth.locks = false := Bd.notSynchronized
  have X0 : Stand p l e ({ frames := 5, cells := 8, slots := 160, locals := 76 } : Room) (s.setVm s.vm) m #[.ref b] below meth c s₁ [] 0 0 := Stand.of_body Bd
  have e0 : s₁.heap = h0 := by rw [← hh, Bd.state]; rfl
  have N0 := Fr.nil n0
  have CR : CHr Z EL s.vm s.heap s.vm h0 := by rw [hh]; exact CHr.refl hH
  have hS : s.Since s.vm h0.size := (State.WarmedH.refl s).since _
  have hk : h0.size ≤ h0.size := Nat.le_refl _
  show Own.Go p e below (Own.EndW Z EL s (Q_imp Z b bt kb cs G1 G3 h0 n0) 8 160) (s₁.setTop (entryFrame m #[.ref b] 1))
  refine Own.Go.eq (ef_imp m b) ?_
  have hln : ∀ d ∈ StrChars.Road.wordsLen, d.before a0 Z = true := fun d hd => hw d ((by decide +kernel : ∀ d ∈ StrChars.Road.wordsLen, d ∈ tables_1) d hd)
  refine Own.g_aloadN X0 hx (hb hby d4_0) rfl rfl 1 rfl ?_
  refine Own.g_virtual X0 hx hZ (y := (⟨"java/lang/String", "length", "()I"⟩ : MethodName)) (z := (⟨"java/lang/String", "length", "()I"⟩ : MethodName)) hown (mvT hZ (hw _ (List.mem_of_getElem? (i := 27) rfl))) (mvT hZ (hw _ (List.mem_of_getElem? (i := 28) rfl))) (notFace_of_selects (args := #[]) (mvT hZ (hw _ (List.mem_of_getElem? (i := 30) rfl)))) (mvT hZ (hw _ (List.mem_of_getElem? (i := 30) rfl))) (mvT hZ (hw _ (List.mem_of_getElem? (i := 29) rfl))) (by decide) (a := b) [] (Q := (Own.QVal h0 (.int (Int32.ofNat cs.length)))) (StrChars.Road.lenW (W := 0) hZ hln (kI := 4) (hw _ (List.mem_of_getElem? (i := 2) rfl)) E_b F_b_value F_b_coder V_bt (StrChars.Road.codOf rfl (fun c hc => (lat c hc).2)) (Own.lat_up lat) (O2.ext O.2) P5 (l4k l4) (by decide) (by decide)) E_b e0 (by rw [hml]; rfl) [] (lenOf pd_5 rfl) rfl (Nat.le_of_ble_eq_true rfl) (hb hby d4_1) (by decide) (by decide) 4 rfl ?_
  rintro _ T1 L1 X1 ⟨rfl, rfl, eH1⟩
  have N1 := Fr.app N0 (Fr.nil n0)
  show Own.Go p e below _ (T1.setTop (mkF m 4 #[.val (.ref b)] [(.int (Int32.ofNat cs.length))]))
  refine Own.g_sipush X1 hx (256 : Int32) (hb hby d4_4) rfl 7 rfl ?_
  refine Own.g_icmp_gt_f X1 hx (hb hby d4_7) (fun q => by rw [Int32.lt_iff_toInt_lt, n4 l4] at q; have e : (256 : Int32).toInt = 256 := rfl; omega) 10 rfl ?_
  refine Own.g_aloadN X1 hx (hb hby d4_10) rfl rfl 11 rfl ?_
  refine Own.g_iconst X1 hx (0 : Int32) (hb hby d4_11) rfl 12 rfl ?_
  refine Own.g_aloadN X1 hx (hb hby d4_12) rfl rfl 13 rfl ?_
  refine Own.g_virtual X1 hx hZ (y := (⟨"java/lang/String", "length", "()I"⟩ : MethodName)) (z := (⟨"java/lang/String", "length", "()I"⟩ : MethodName)) hown (mvT hZ (hw _ (List.mem_of_getElem? (i := 27) rfl))) (mvT hZ (hw _ (List.mem_of_getElem? (i := 28) rfl))) (notFace_of_selects (args := #[]) (mvT hZ (hw _ (List.mem_of_getElem? (i := 30) rfl)))) (mvT hZ (hw _ (List.mem_of_getElem? (i := 30) rfl))) (mvT hZ (hw _ (List.mem_of_getElem? (i := 29) rfl))) (by decide) (a := b) [] (Q := (Own.QVal h0 (.int (Int32.ofNat cs.length)))) (StrChars.Road.lenW (W := 2) hZ hln (kI := 4) (hw _ (List.mem_of_getElem? (i := 2) rfl)) E_b F_b_value F_b_coder V_bt (StrChars.Road.codOf rfl (fun c hc => (lat c hc).2)) (Own.lat_up lat) (O2.ext O.2) P5 (l4k l4) (by decide) (by decide)) E_b eH1 (by rw [hml]; rfl) [(.int (0 : Int32)), (.ref b)] (lenOf pd_5 rfl) rfl (Nat.le_of_ble_eq_true rfl) (hb hby d4_13) (by decide) (by decide) 16 rfl ?_
  rintro _ T2 L2 X2 ⟨rfl, rfl, eH2⟩
  have N2 := Fr.app N1 (Fr.nil n0)
  show Own.Go p e below _ (T2.setTop (mkF m 16 #[.val (.ref b)] [(.int (Int32.ofNat cs.length)), (.int (0 : Int32)), (.ref b)]))
  refine Own.w_callS X2 hx hZ (y := (⟨"com/example/bowerbird/bowerbird/model/Names", "isName", "(Ljava/lang/String;II)Z"⟩ : MethodName)) hown (mvT hZ (hw _ (List.mem_of_getElem? (i := 38) rfl))) (mvT hZ (hw _ (List.mem_of_getElem? (i := 39) rfl))) (mvT hZ (hw _ (List.mem_of_getElem? (i := 25) rfl))) (mvT hZ (hw _ (List.mem_of_getElem? (i := 40) rfl))) (by decide) [.ref b, .int (0 : Int32), .int (Int32.ofNat cs.length)] (Own.backW (W := 0) (SF := []) (rm_isn l Z a0 hw [] b bt kb cs G1 G3 h0 n0 O O2 P5 O4 rG3 lat l4 E_b F_b_value F_b_coder V_bt) hZ (hw _ (List.mem_of_getElem? (i := 40) rfl)) (hw _ (List.mem_of_getElem? (i := 25) rfl)) (by decide) (by decide) hEL CR.1 all0) eH2 hS hk (by rw [hml]; rfl) [] (lenOf pd_8 rfl) rfl (Nat.le_of_ble_eq_true rfl) (hb hby d4_16) (by decide) (by decide) 19 rfl ?_
  rintro _ T3 L3 X3 hS hZ hown C3 ⟨rfl, N3q⟩
  replace CR := CR.trans C3
  have hk : T3.heap.size ≤ T3.heap.size := Nat.le_refl _
  have N3 := Fr.app N2 N3q
  show Own.Go p e below _ (T3.setTop (mkF m 19 #[.val (.ref b)] [(.int (if ¬ cs = [] ∧ ∀ c ∈ cs, okP c then (1 : Int32) else 0))]))
  refine Own.g_if_eq X3 hx (hb hby d4_19) 26 22 (by decide) rfl ?_ ?_
  · intro hq
    refine Own.g_iconst X3 hx (0 : Int32) (hb hby d4_26) rfl 27 rfl ?_
    refine Own.w_ret X3 hx hZ hEL hS hk CR hret hlocks rfl (Or.inl ⟨rfl, by simp, _, rfl⟩) (hb hby d4_27) (by decide) (by decide) (rfl : T3.heap = T3.heap) ?_
    exact ⟨by rw [if_neg (Own.if1_eq hq)], N3⟩
  · intro hq
    refine Own.g_iconst X3 hx (1 : Int32) (hb hby d4_22) rfl 23 rfl ?_
    refine Own.g_goto X3 hx (hb hby d4_23) 27 (by decide) ?_
    refine Own.w_ret X3 hx hZ hEL hS hk CR hret hlocks rfl (Or.inl ⟨rfl, by simp, _, rfl⟩) (hb hby d4_27) (by decide) (by decide) (rfl : T3.heap = T3.heap) ?_
    exact ⟨by rw [if_pos (Own.if1_ne hq)], N3⟩
set_option maxRecDepth 65536 in
set_option maxHeartbeats 40000000 in
theorem st_186_0 {p : Program} {l : Launch} {e : Env} {s : State} {m : MethodId} {args : Array Value} {below : List Frame} {meth : Method} {c : Code} {T0 : State} {locs : List Loc} {Z : State} {a0 : Array Value} {hh : Heap} {n0 : Nat} {Q : Option Value → Heap → List Loc → Prop} (hQ : ∀ h L, Fr n0 L → Q (some (.int 1)) h L) {vm : Vm} {k0 : Nat} (hx : p.tables.exec = Jvm.exec) (hZ : Z.Warmed39 (s.setVm vm).vm) (hw : ∀ d ∈ tables_1, d.before a0 Z = true) (hby : c.code = code) (hml : c.maxLocals = 12) (hown : (s.setVm vm).vm.findClass "com/example/bowerbird/bowerbird/model/NamesIsMetadataPrefixPinLaw" = some m.cls) (hret : meth.sig.returnType = (some .boolean)) (hlocks : meth.locks = false) (hEL : EW Z a0 EL) (hS : s.Since vm k0) (hk : k0 ≤ hh.size) (CR : CHr Z EL s.vm s.heap vm hh)
    (p1 p2 p3 p4 p5 x0 x1 x2 x3 G1 : Int32) (G3 : Value) (b bt : Addr) (kb : ClassId) (X0 : Stand p l e room_1 (s.setVm vm) m args below meth c T0 locs 6 12) (e0 : T0.heap = hh) (N0 : Fr n0 locs) (O : Old Z n0 hh) (E_b : Exa Z hh b "java/lang/String") (F_b_value : Fld Z hh b "java/lang/String" "value" "[B" (.ref bt)) (F_b_coder : Fld Z hh b "java/lang/String" "coder" "B" (.int 0)) (V_bt : Arv Z hh bt kb .byte (Int32.ofNat (([] : List Int32)).length) (((([] : List Int32)).map fun c => c.toInt8.toInt32).map Value.int) (.int 0))   (O2 : Sta Z Z.heap "java/lang/String" "COMPACT_STRINGS" "Z" (.int G1)) (P5 : ¬ (G1 = (0 : Int32))) (O4 : Sta Z Z.heap "jdk/internal/util/Preconditions" "SIOOBE_FORMATTER" "Ljava/util/function/BiFunction;" G3) (rG3 : G3.isRef = true) (hlx0 : Own.Lat x0) (hlx1 : Own.Lat x1) (hlx2 : Own.Lat x2) (hlx3 : Own.Lat x3) :
    Own.Go p e below (Own.EndW Z EL s Q 24 2176) (T0.setTop (mkF m 186 #[.val (.int p1), .val (.int p2), .val (.int p3), .val (.int p4), .val (.int p5), .val (.int (0 : Int32)), .val (.int x0), .val (.int x1), .val (.int x2), .val (.int x3), .val (.ref b), .unset] [])) := by
  have t249 : ∀ (Tt : State) (lt : List Loc) (Xt : Stand p l e room_1 (s.setVm vm) m args below meth c Tt lt 6 12) (et : Tt.heap = hh) (Nt : Fr n0 lt) (ex : Int32) (hex : ex = (if ¬ ([] : List Int32) = [] ∧ ∀ c ∈ ([] : List Int32), okP c then (1 : Int32) else 0)), Own.Go p e below (Own.EndW Z EL s Q 24 2176) (Tt.setTop (mkF m 249 #[.val (.int p1), .val (.int p2), .val (.int p3), .val (.int p4), .val (.int p5), .val (.int (0 : Int32)), .val (.int x0), .val (.int x1), .val (.int x2), .val (.int x3), .val (.ref b), .val (.int ex)] [])) := by
    intro Tt lt Xt et Nt ex hex
    refine Own.g_aload Xt hx (hb hby at_249) rfl rfl 251 rfl ?_
    refine Own.w_callS Xt hx hZ (y := (⟨"com/example/bowerbird/bowerbird/model/Names", "isMetadataPrefix", "(Ljava/lang/String;)Z"⟩ : MethodName)) hown (mvT hZ (hw _ (List.mem_of_getElem? (i := 23) rfl))) (mvT hZ (hw _ (List.mem_of_getElem? (i := 24) rfl))) (mvT hZ (hw _ (List.mem_of_getElem? (i := 25) rfl))) (mvT hZ (hw _ (List.mem_of_getElem? (i := 26) rfl))) (by decide) [.ref b] (Own.backW (W := 0) (SF := []) (rm_imp l Z a0 hw [] b bt kb ([] : List Int32) G1 G3 hh n0 O O2 P5 O4 rG3 (fun _ q => nomatch q) (Nat.le_of_ble_eq_true rfl) E_b F_b_value F_b_coder V_bt) hZ (hw _ (List.mem_of_getElem? (i := 26) rfl)) (hw _ (List.mem_of_getElem? (i := 25) rfl)) (by decide) (by decide) hEL CR.1 all0) et hS hk (by rw [hml]; rfl) [] (lenOf pd_9 rfl) rfl (Nat.le_of_ble_eq_true rfl) (hb hby at_251) (by decide) (by decide) 254 rfl ?_
    rintro _ T1 L1 X1 hS hZ hown C1 ⟨rfl, N1q⟩
    replace CR := CR.trans C1
    have hk : T1.heap.size ≤ T1.heap.size := Nat.le_refl _
    have N1 := Fr.app Nt N1q
    show Own.Go p e below _ (T1.setTop (mkF m 254 #[.val (.int p1), .val (.int p2), .val (.int p3), .val (.int p4), .val (.int p5), .val (.int (0 : Int32)), .val (.int x0), .val (.int x1), .val (.int x2), .val (.int x3), .val (.ref b), .val (.int ex)] [(.int (if ¬ ([] : List Int32) = [] ∧ ∀ c ∈ ([] : List Int32), okP c then (1 : Int32) else 0))]))
    refine Own.g_iload X1 hx (hb hby at_254) rfl 256 rfl ?_
    refine Own.g_icmp_ne_f X1 hx (hb hby at_256) hex.symm 259 rfl ?_
    refine Own.g_iconst X1 hx (1 : Int32) (hb hby at_259) rfl 260 rfl ?_
    refine Own.g_goto X1 hx (hb hby at_260) 264 (by decide) ?_
    refine Own.w_ret X1 hx hZ hEL hS hk CR hret hlocks rfl (Or.inl ⟨rfl, by simp, _, rfl⟩) (hb hby at_264) (by decide) (by decide) (rfl : T1.heap = T1.heap) ?_
    exact hQ _ _ N1
  refine Own.g_iload X0 hx (hb hby at_186) rfl 188 rfl ?_
  refine Own.g_iconst X0 hx (1 : Int32) (hb hby at_188) rfl 189 rfl ?_
  refine Own.g_icmp_lt_t X0 hx (hb hby at_189) (by decide) 246 (by decide) ?_
  refine Own.g_iconst X0 hx (0 : Int32) (hb hby at_246) rfl 247 rfl ?_
  refine Own.g_istore X0 hx #[.val (.int p1), .val (.int p2), .val (.int p3), .val (.int p4), .val (.int p5), .val (.int (0 : Int32)), .val (.int x0), .val (.int x1), .val (.int x2), .val (.int x3), .val (.ref b), .val (.int (0 : Int32))] (hb hby at_247) rfl 249 rfl ?_
  exact t249 _ _ X0 e0 N0 _ (by rw [if_neg (fun z => z.1 rfl)])
set_option maxRecDepth 65536 in
set_option maxHeartbeats 40000000 in
theorem st_186_1 {p : Program} {l : Launch} {e : Env} {s : State} {m : MethodId} {args : Array Value} {below : List Frame} {meth : Method} {c : Code} {T0 : State} {locs : List Loc} {Z : State} {a0 : Array Value} {hh : Heap} {n0 : Nat} {Q : Option Value → Heap → List Loc → Prop} (hQ : ∀ h L, Fr n0 L → Q (some (.int 1)) h L) {vm : Vm} {k0 : Nat} (hx : p.tables.exec = Jvm.exec) (hZ : Z.Warmed39 (s.setVm vm).vm) (hw : ∀ d ∈ tables_1, d.before a0 Z = true) (hby : c.code = code) (hml : c.maxLocals = 12) (hown : (s.setVm vm).vm.findClass "com/example/bowerbird/bowerbird/model/NamesIsMetadataPrefixPinLaw" = some m.cls) (hret : meth.sig.returnType = (some .boolean)) (hlocks : meth.locks = false) (hEL : EW Z a0 EL) (hS : s.Since vm k0) (hk : k0 ≤ hh.size) (CR : CHr Z EL s.vm s.heap vm hh)
    (p1 p2 p3 p4 p5 x0 x1 x2 x3 G1 : Int32) (G3 : Value) (b bt : Addr) (kb : ClassId) (X0 : Stand p l e room_1 (s.setVm vm) m args below meth c T0 locs 6 12) (e0 : T0.heap = hh) (N0 : Fr n0 locs) (O : Old Z n0 hh) (E_b : Exa Z hh b "java/lang/String") (F_b_value : Fld Z hh b "java/lang/String" "value" "[B" (.ref bt)) (F_b_coder : Fld Z hh b "java/lang/String" "coder" "B" (.int 0)) (V_bt : Arv Z hh bt kb .byte (Int32.ofNat (([x0] : List Int32)).length) (((([x0] : List Int32)).map fun c => c.toInt8.toInt32).map Value.int) (.int 0))   (O2 : Sta Z Z.heap "java/lang/String" "COMPACT_STRINGS" "Z" (.int G1)) (P5 : ¬ (G1 = (0 : Int32))) (O4 : Sta Z Z.heap "jdk/internal/util/Preconditions" "SIOOBE_FORMATTER" "Ljava/util/function/BiFunction;" G3) (rG3 : G3.isRef = true) (hlx0 : Own.Lat x0) (hlx1 : Own.Lat x1) (hlx2 : Own.Lat x2) (hlx3 : Own.Lat x3) :
    Own.Go p e below (Own.EndW Z EL s Q 24 2176) (T0.setTop (mkF m 186 #[.val (.int p1), .val (.int p2), .val (.int p3), .val (.int p4), .val (.int p5), .val (.int (1 : Int32)), .val (.int x0), .val (.int x1), .val (.int x2), .val (.int x3), .val (.ref b), .unset] [])) := by
  have t249 : ∀ (Tt : State) (lt : List Loc) (Xt : Stand p l e room_1 (s.setVm vm) m args below meth c Tt lt 6 12) (et : Tt.heap = hh) (Nt : Fr n0 lt) (ex : Int32) (hex : ex = (if ¬ ([x0] : List Int32) = [] ∧ ∀ c ∈ ([x0] : List Int32), okP c then (1 : Int32) else 0)), Own.Go p e below (Own.EndW Z EL s Q 24 2176) (Tt.setTop (mkF m 249 #[.val (.int p1), .val (.int p2), .val (.int p3), .val (.int p4), .val (.int p5), .val (.int (1 : Int32)), .val (.int x0), .val (.int x1), .val (.int x2), .val (.int x3), .val (.ref b), .val (.int ex)] [])) := by
    intro Tt lt Xt et Nt ex hex
    refine Own.g_aload Xt hx (hb hby at_249) rfl rfl 251 rfl ?_
    refine Own.w_callS Xt hx hZ (y := (⟨"com/example/bowerbird/bowerbird/model/Names", "isMetadataPrefix", "(Ljava/lang/String;)Z"⟩ : MethodName)) hown (mvT hZ (hw _ (List.mem_of_getElem? (i := 23) rfl))) (mvT hZ (hw _ (List.mem_of_getElem? (i := 24) rfl))) (mvT hZ (hw _ (List.mem_of_getElem? (i := 25) rfl))) (mvT hZ (hw _ (List.mem_of_getElem? (i := 26) rfl))) (by decide) [.ref b] (Own.backW (W := 0) (SF := []) (rm_imp l Z a0 hw [] b bt kb ([x0] : List Int32) G1 G3 hh n0 O O2 P5 O4 rG3 (Own.mem1 hlx0) (Nat.le_of_ble_eq_true rfl) E_b F_b_value F_b_coder V_bt) hZ (hw _ (List.mem_of_getElem? (i := 26) rfl)) (hw _ (List.mem_of_getElem? (i := 25) rfl)) (by decide) (by decide) hEL CR.1 all0) et hS hk (by rw [hml]; rfl) [] (lenOf pd_9 rfl) rfl (Nat.le_of_ble_eq_true rfl) (hb hby at_251) (by decide) (by decide) 254 rfl ?_
    rintro _ T1 L1 X1 hS hZ hown C1 ⟨rfl, N1q⟩
    replace CR := CR.trans C1
    have hk : T1.heap.size ≤ T1.heap.size := Nat.le_refl _
    have N1 := Fr.app Nt N1q
    show Own.Go p e below _ (T1.setTop (mkF m 254 #[.val (.int p1), .val (.int p2), .val (.int p3), .val (.int p4), .val (.int p5), .val (.int (1 : Int32)), .val (.int x0), .val (.int x1), .val (.int x2), .val (.int x3), .val (.ref b), .val (.int ex)] [(.int (if ¬ ([x0] : List Int32) = [] ∧ ∀ c ∈ ([x0] : List Int32), okP c then (1 : Int32) else 0))]))
    refine Own.g_iload X1 hx (hb hby at_254) rfl 256 rfl ?_
    refine Own.g_icmp_ne_f X1 hx (hb hby at_256) hex.symm 259 rfl ?_
    refine Own.g_iconst X1 hx (1 : Int32) (hb hby at_259) rfl 260 rfl ?_
    refine Own.g_goto X1 hx (hb hby at_260) 264 (by decide) ?_
    refine Own.w_ret X1 hx hZ hEL hS hk CR hret hlocks rfl (Or.inl ⟨rfl, by simp, _, rfl⟩) (hb hby at_264) (by decide) (by decide) (rfl : T1.heap = T1.heap) ?_
    exact hQ _ _ N1
  refine Own.g_iload X0 hx (hb hby at_186) rfl 188 rfl ?_
  refine Own.g_iconst X0 hx (1 : Int32) (hb hby at_188) rfl 189 rfl ?_
  refine Own.g_icmp_lt_f X0 hx (hb hby at_189) (by decide) 192 rfl ?_
  refine Own.g_iload X0 hx (hb hby at_192) rfl 194 rfl ?_
  refine Own.g_callS X0 hx (y := (⟨"com/example/bowerbird/bowerbird/model/NamesIsMetadataPrefixPinLaw", "ok", "(I)Z"⟩ : MethodName)) hown (mvT hZ (hw _ (List.mem_of_getElem? (i := 51) rfl))) (mvT hZ (hw _ (List.mem_of_getElem? (i := 52) rfl))) (mvT hZ (hw _ (List.mem_of_getElem? (i := 53) rfl))) (mvT hZ (hw _ (List.mem_of_getElem? (i := 54) rfl))) (by decide) [.int x0] (Own.back (W := 0) (rm_ok l Z a0 hw [] x0 hh n0 O ) hZ (hw _ (List.mem_of_getElem? (i := 54) rfl)) (hw _ (List.mem_of_getElem? (i := 53) rfl)) (by decide) (by decide)) e0 (by rw [hml]; rfl) [] (lenOf pd_1 rfl) rfl (Nat.le_of_ble_eq_true rfl) (hb hby at_194) (by decide) (by decide) 197 rfl ?_
  rintro _ T2 L2 X2 ⟨rfl, N2q, eH2⟩
  have N2 := Fr.app N0 N2q
  show Own.Go p e below _ (T2.setTop (mkF m 197 #[.val (.int p1), .val (.int p2), .val (.int p3), .val (.int p4), .val (.int p5), .val (.int (1 : Int32)), .val (.int x0), .val (.int x1), .val (.int x2), .val (.int x3), .val (.ref b), .unset] [(.int (if okP x0 then (1 : Int32) else 0))]))
  refine Own.g_if_eq X2 hx (hb hby at_197) 246 200 (by decide) rfl ?_ ?_
  · intro k0
    refine Own.g_iconst X2 hx (0 : Int32) (hb hby at_246) rfl 247 rfl ?_
    refine Own.g_istore X2 hx #[.val (.int p1), .val (.int p2), .val (.int p3), .val (.int p4), .val (.int p5), .val (.int (1 : Int32)), .val (.int x0), .val (.int x1), .val (.int x2), .val (.int x3), .val (.ref b), .val (.int (0 : Int32))] (hb hby at_247) rfl 249 rfl ?_
    exact t249 _ _ X2 eH2 N2 _ (by rw [if_neg (fun z => Own.if1_eq k0 (z.2 x0 (by simp)))])
  · intro k0
    have ok0 := Own.if1_ne k0
    refine Own.g_iload X2 hx (hb hby at_200) rfl 202 rfl ?_
    refine Own.g_iconst X2 hx (2 : Int32) (hb hby at_202) rfl 203 rfl ?_
    refine Own.g_icmp_lt_t X2 hx (hb hby at_203) (by decide) 214 (by decide) ?_
    refine Own.g_iload X2 hx (hb hby at_214) rfl 216 rfl ?_
    refine Own.g_iconst X2 hx (3 : Int32) (hb hby at_216) rfl 217 rfl ?_
    refine Own.g_icmp_lt_t X2 hx (hb hby at_217) (by decide) 228 (by decide) ?_
    refine Own.g_iload X2 hx (hb hby at_228) rfl 230 rfl ?_
    refine Own.g_iconst X2 hx (4 : Int32) (hb hby at_230) rfl 231 rfl ?_
    refine Own.g_icmp_lt_t X2 hx (hb hby at_231) (by decide) 242 (by decide) ?_
    refine Own.g_iconst X2 hx (1 : Int32) (hb hby at_242) rfl 243 rfl ?_
    refine Own.g_goto X2 hx (hb hby at_243) 247 (by decide) ?_
    refine Own.g_istore X2 hx #[.val (.int p1), .val (.int p2), .val (.int p3), .val (.int p4), .val (.int p5), .val (.int (1 : Int32)), .val (.int x0), .val (.int x1), .val (.int x2), .val (.int x3), .val (.ref b), .val (.int (1 : Int32))] (hb hby at_247) rfl 249 rfl ?_
    exact t249 _ _ X2 eH2 N2 _ (by rw [if_pos ⟨by simp, Own.mem1 ok0⟩])
set_option maxRecDepth 65536 in
set_option maxHeartbeats 40000000 in
theorem st_186_2 {p : Program} {l : Launch} {e : Env} {s : State} {m : MethodId} {args : Array Value} {below : List Frame} {meth : Method} {c : Code} {T0 : State} {locs : List Loc} {Z : State} {a0 : Array Value} {hh : Heap} {n0 : Nat} {Q : Option Value → Heap → List Loc → Prop} (hQ : ∀ h L, Fr n0 L → Q (some (.int 1)) h L) {vm : Vm} {k0 : Nat} (hx : p.tables.exec = Jvm.exec) (hZ : Z.Warmed39 (s.setVm vm).vm) (hw : ∀ d ∈ tables_1, d.before a0 Z = true) (hby : c.code = code) (hml : c.maxLocals = 12) (hown : (s.setVm vm).vm.findClass "com/example/bowerbird/bowerbird/model/NamesIsMetadataPrefixPinLaw" = some m.cls) (hret : meth.sig.returnType = (some .boolean)) (hlocks : meth.locks = false) (hEL : EW Z a0 EL) (hS : s.Since vm k0) (hk : k0 ≤ hh.size) (CR : CHr Z EL s.vm s.heap vm hh)
    (p1 p2 p3 p4 p5 x0 x1 x2 x3 G1 : Int32) (G3 : Value) (b bt : Addr) (kb : ClassId) (X0 : Stand p l e room_1 (s.setVm vm) m args below meth c T0 locs 6 12) (e0 : T0.heap = hh) (N0 : Fr n0 locs) (O : Old Z n0 hh) (E_b : Exa Z hh b "java/lang/String") (F_b_value : Fld Z hh b "java/lang/String" "value" "[B" (.ref bt)) (F_b_coder : Fld Z hh b "java/lang/String" "coder" "B" (.int 0)) (V_bt : Arv Z hh bt kb .byte (Int32.ofNat (([x0, x1] : List Int32)).length) (((([x0, x1] : List Int32)).map fun c => c.toInt8.toInt32).map Value.int) (.int 0))   (O2 : Sta Z Z.heap "java/lang/String" "COMPACT_STRINGS" "Z" (.int G1)) (P5 : ¬ (G1 = (0 : Int32))) (O4 : Sta Z Z.heap "jdk/internal/util/Preconditions" "SIOOBE_FORMATTER" "Ljava/util/function/BiFunction;" G3) (rG3 : G3.isRef = true) (hlx0 : Own.Lat x0) (hlx1 : Own.Lat x1) (hlx2 : Own.Lat x2) (hlx3 : Own.Lat x3) :
    Own.Go p e below (Own.EndW Z EL s Q 24 2176) (T0.setTop (mkF m 186 #[.val (.int p1), .val (.int p2), .val (.int p3), .val (.int p4), .val (.int p5), .val (.int (2 : Int32)), .val (.int x0), .val (.int x1), .val (.int x2), .val (.int x3), .val (.ref b), .unset] [])) := by
  have t249 : ∀ (Tt : State) (lt : List Loc) (Xt : Stand p l e room_1 (s.setVm vm) m args below meth c Tt lt 6 12) (et : Tt.heap = hh) (Nt : Fr n0 lt) (ex : Int32) (hex : ex = (if ¬ ([x0, x1] : List Int32) = [] ∧ ∀ c ∈ ([x0, x1] : List Int32), okP c then (1 : Int32) else 0)), Own.Go p e below (Own.EndW Z EL s Q 24 2176) (Tt.setTop (mkF m 249 #[.val (.int p1), .val (.int p2), .val (.int p3), .val (.int p4), .val (.int p5), .val (.int (2 : Int32)), .val (.int x0), .val (.int x1), .val (.int x2), .val (.int x3), .val (.ref b), .val (.int ex)] [])) := by
    intro Tt lt Xt et Nt ex hex
    refine Own.g_aload Xt hx (hb hby at_249) rfl rfl 251 rfl ?_
    refine Own.w_callS Xt hx hZ (y := (⟨"com/example/bowerbird/bowerbird/model/Names", "isMetadataPrefix", "(Ljava/lang/String;)Z"⟩ : MethodName)) hown (mvT hZ (hw _ (List.mem_of_getElem? (i := 23) rfl))) (mvT hZ (hw _ (List.mem_of_getElem? (i := 24) rfl))) (mvT hZ (hw _ (List.mem_of_getElem? (i := 25) rfl))) (mvT hZ (hw _ (List.mem_of_getElem? (i := 26) rfl))) (by decide) [.ref b] (Own.backW (W := 0) (SF := []) (rm_imp l Z a0 hw [] b bt kb ([x0, x1] : List Int32) G1 G3 hh n0 O O2 P5 O4 rG3 (Own.mem2 hlx0 hlx1) (Nat.le_of_ble_eq_true rfl) E_b F_b_value F_b_coder V_bt) hZ (hw _ (List.mem_of_getElem? (i := 26) rfl)) (hw _ (List.mem_of_getElem? (i := 25) rfl)) (by decide) (by decide) hEL CR.1 all0) et hS hk (by rw [hml]; rfl) [] (lenOf pd_9 rfl) rfl (Nat.le_of_ble_eq_true rfl) (hb hby at_251) (by decide) (by decide) 254 rfl ?_
    rintro _ T1 L1 X1 hS hZ hown C1 ⟨rfl, N1q⟩
    replace CR := CR.trans C1
    have hk : T1.heap.size ≤ T1.heap.size := Nat.le_refl _
    have N1 := Fr.app Nt N1q
    show Own.Go p e below _ (T1.setTop (mkF m 254 #[.val (.int p1), .val (.int p2), .val (.int p3), .val (.int p4), .val (.int p5), .val (.int (2 : Int32)), .val (.int x0), .val (.int x1), .val (.int x2), .val (.int x3), .val (.ref b), .val (.int ex)] [(.int (if ¬ ([x0, x1] : List Int32) = [] ∧ ∀ c ∈ ([x0, x1] : List Int32), okP c then (1 : Int32) else 0))]))
    refine Own.g_iload X1 hx (hb hby at_254) rfl 256 rfl ?_
    refine Own.g_icmp_ne_f X1 hx (hb hby at_256) hex.symm 259 rfl ?_
    refine Own.g_iconst X1 hx (1 : Int32) (hb hby at_259) rfl 260 rfl ?_
    refine Own.g_goto X1 hx (hb hby at_260) 264 (by decide) ?_
    refine Own.w_ret X1 hx hZ hEL hS hk CR hret hlocks rfl (Or.inl ⟨rfl, by simp, _, rfl⟩) (hb hby at_264) (by decide) (by decide) (rfl : T1.heap = T1.heap) ?_
    exact hQ _ _ N1
  refine Own.g_iload X0 hx (hb hby at_186) rfl 188 rfl ?_
  refine Own.g_iconst X0 hx (1 : Int32) (hb hby at_188) rfl 189 rfl ?_
  refine Own.g_icmp_lt_f X0 hx (hb hby at_189) (by decide) 192 rfl ?_
  refine Own.g_iload X0 hx (hb hby at_192) rfl 194 rfl ?_
  refine Own.g_callS X0 hx (y := (⟨"com/example/bowerbird/bowerbird/model/NamesIsMetadataPrefixPinLaw", "ok", "(I)Z"⟩ : MethodName)) hown (mvT hZ (hw _ (List.mem_of_getElem? (i := 51) rfl))) (mvT hZ (hw _ (List.mem_of_getElem? (i := 52) rfl))) (mvT hZ (hw _ (List.mem_of_getElem? (i := 53) rfl))) (mvT hZ (hw _ (List.mem_of_getElem? (i := 54) rfl))) (by decide) [.int x0] (Own.back (W := 0) (rm_ok l Z a0 hw [] x0 hh n0 O ) hZ (hw _ (List.mem_of_getElem? (i := 54) rfl)) (hw _ (List.mem_of_getElem? (i := 53) rfl)) (by decide) (by decide)) e0 (by rw [hml]; rfl) [] (lenOf pd_1 rfl) rfl (Nat.le_of_ble_eq_true rfl) (hb hby at_194) (by decide) (by decide) 197 rfl ?_
  rintro _ T2 L2 X2 ⟨rfl, N2q, eH2⟩
  have N2 := Fr.app N0 N2q
  show Own.Go p e below _ (T2.setTop (mkF m 197 #[.val (.int p1), .val (.int p2), .val (.int p3), .val (.int p4), .val (.int p5), .val (.int (2 : Int32)), .val (.int x0), .val (.int x1), .val (.int x2), .val (.int x3), .val (.ref b), .unset] [(.int (if okP x0 then (1 : Int32) else 0))]))
  refine Own.g_if_eq X2 hx (hb hby at_197) 246 200 (by decide) rfl ?_ ?_
  · intro k0
    refine Own.g_iconst X2 hx (0 : Int32) (hb hby at_246) rfl 247 rfl ?_
    refine Own.g_istore X2 hx #[.val (.int p1), .val (.int p2), .val (.int p3), .val (.int p4), .val (.int p5), .val (.int (2 : Int32)), .val (.int x0), .val (.int x1), .val (.int x2), .val (.int x3), .val (.ref b), .val (.int (0 : Int32))] (hb hby at_247) rfl 249 rfl ?_
    exact t249 _ _ X2 eH2 N2 _ (by rw [if_neg (fun z => Own.if1_eq k0 (z.2 x0 (by simp)))])
  · intro k0
    have ok0 := Own.if1_ne k0
    refine Own.g_iload X2 hx (hb hby at_200) rfl 202 rfl ?_
    refine Own.g_iconst X2 hx (2 : Int32) (hb hby at_202) rfl 203 rfl ?_
    refine Own.g_icmp_lt_f X2 hx (hb hby at_203) (by decide) 206 rfl ?_
    refine Own.g_iload X2 hx (hb hby at_206) rfl 208 rfl ?_
    refine Own.g_callS X2 hx (y := (⟨"com/example/bowerbird/bowerbird/model/NamesIsMetadataPrefixPinLaw", "ok", "(I)Z"⟩ : MethodName)) hown (mvT hZ (hw _ (List.mem_of_getElem? (i := 51) rfl))) (mvT hZ (hw _ (List.mem_of_getElem? (i := 52) rfl))) (mvT hZ (hw _ (List.mem_of_getElem? (i := 53) rfl))) (mvT hZ (hw _ (List.mem_of_getElem? (i := 54) rfl))) (by decide) [.int x1] (Own.back (W := 0) (rm_ok l Z a0 hw [] x1 hh n0 O ) hZ (hw _ (List.mem_of_getElem? (i := 54) rfl)) (hw _ (List.mem_of_getElem? (i := 53) rfl)) (by decide) (by decide)) eH2 (by rw [hml]; rfl) [] (lenOf pd_1 rfl) rfl (Nat.le_of_ble_eq_true rfl) (hb hby at_208) (by decide) (by decide) 211 rfl ?_
    rintro _ T3 L3 X3 ⟨rfl, N3q, eH3⟩
    have N3 := Fr.app N2 N3q
    show Own.Go p e below _ (T3.setTop (mkF m 211 #[.val (.int p1), .val (.int p2), .val (.int p3), .val (.int p4), .val (.int p5), .val (.int (2 : Int32)), .val (.int x0), .val (.int x1), .val (.int x2), .val (.int x3), .val (.ref b), .unset] [(.int (if okP x1 then (1 : Int32) else 0))]))
    refine Own.g_if_eq X3 hx (hb hby at_211) 246 214 (by decide) rfl ?_ ?_
    · intro k1
      refine Own.g_iconst X3 hx (0 : Int32) (hb hby at_246) rfl 247 rfl ?_
      refine Own.g_istore X3 hx #[.val (.int p1), .val (.int p2), .val (.int p3), .val (.int p4), .val (.int p5), .val (.int (2 : Int32)), .val (.int x0), .val (.int x1), .val (.int x2), .val (.int x3), .val (.ref b), .val (.int (0 : Int32))] (hb hby at_247) rfl 249 rfl ?_
      exact t249 _ _ X3 eH3 N3 _ (by rw [if_neg (fun z => Own.if1_eq k1 (z.2 x1 (by simp)))])
    · intro k1
      have ok1 := Own.if1_ne k1
      refine Own.g_iload X3 hx (hb hby at_214) rfl 216 rfl ?_
      refine Own.g_iconst X3 hx (3 : Int32) (hb hby at_216) rfl 217 rfl ?_
      refine Own.g_icmp_lt_t X3 hx (hb hby at_217) (by decide) 228 (by decide) ?_
      refine Own.g_iload X3 hx (hb hby at_228) rfl 230 rfl ?_
      refine Own.g_iconst X3 hx (4 : Int32) (hb hby at_230) rfl 231 rfl ?_
      refine Own.g_icmp_lt_t X3 hx (hb hby at_231) (by decide) 242 (by decide) ?_
      refine Own.g_iconst X3 hx (1 : Int32) (hb hby at_242) rfl 243 rfl ?_
      refine Own.g_goto X3 hx (hb hby at_243) 247 (by decide) ?_
      refine Own.g_istore X3 hx #[.val (.int p1), .val (.int p2), .val (.int p3), .val (.int p4), .val (.int p5), .val (.int (2 : Int32)), .val (.int x0), .val (.int x1), .val (.int x2), .val (.int x3), .val (.ref b), .val (.int (1 : Int32))] (hb hby at_247) rfl 249 rfl ?_
      exact t249 _ _ X3 eH3 N3 _ (by rw [if_pos ⟨by simp, Own.mem2 ok0 ok1⟩])
set_option maxRecDepth 65536 in
set_option maxHeartbeats 40000000 in
theorem st_186_3 {p : Program} {l : Launch} {e : Env} {s : State} {m : MethodId} {args : Array Value} {below : List Frame} {meth : Method} {c : Code} {T0 : State} {locs : List Loc} {Z : State} {a0 : Array Value} {hh : Heap} {n0 : Nat} {Q : Option Value → Heap → List Loc → Prop} (hQ : ∀ h L, Fr n0 L → Q (some (.int 1)) h L) {vm : Vm} {k0 : Nat} (hx : p.tables.exec = Jvm.exec) (hZ : Z.Warmed39 (s.setVm vm).vm) (hw : ∀ d ∈ tables_1, d.before a0 Z = true) (hby : c.code = code) (hml : c.maxLocals = 12) (hown : (s.setVm vm).vm.findClass "com/example/bowerbird/bowerbird/model/NamesIsMetadataPrefixPinLaw" = some m.cls) (hret : meth.sig.returnType = (some .boolean)) (hlocks : meth.locks = false) (hEL : EW Z a0 EL) (hS : s.Since vm k0) (hk : k0 ≤ hh.size) (CR : CHr Z EL s.vm s.heap vm hh)
    (p1 p2 p3 p4 p5 x0 x1 x2 x3 G1 : Int32) (G3 : Value) (b bt : Addr) (kb : ClassId) (X0 : Stand p l e room_1 (s.setVm vm) m args below meth c T0 locs 6 12) (e0 : T0.heap = hh) (N0 : Fr n0 locs) (O : Old Z n0 hh) (E_b : Exa Z hh b "java/lang/String") (F_b_value : Fld Z hh b "java/lang/String" "value" "[B" (.ref bt)) (F_b_coder : Fld Z hh b "java/lang/String" "coder" "B" (.int 0)) (V_bt : Arv Z hh bt kb .byte (Int32.ofNat (([x0, x1, x2] : List Int32)).length) (((([x0, x1, x2] : List Int32)).map fun c => c.toInt8.toInt32).map Value.int) (.int 0))   (O2 : Sta Z Z.heap "java/lang/String" "COMPACT_STRINGS" "Z" (.int G1)) (P5 : ¬ (G1 = (0 : Int32))) (O4 : Sta Z Z.heap "jdk/internal/util/Preconditions" "SIOOBE_FORMATTER" "Ljava/util/function/BiFunction;" G3) (rG3 : G3.isRef = true) (hlx0 : Own.Lat x0) (hlx1 : Own.Lat x1) (hlx2 : Own.Lat x2) (hlx3 : Own.Lat x3) :
    Own.Go p e below (Own.EndW Z EL s Q 24 2176) (T0.setTop (mkF m 186 #[.val (.int p1), .val (.int p2), .val (.int p3), .val (.int p4), .val (.int p5), .val (.int (3 : Int32)), .val (.int x0), .val (.int x1), .val (.int x2), .val (.int x3), .val (.ref b), .unset] [])) := by
  have t249 : ∀ (Tt : State) (lt : List Loc) (Xt : Stand p l e room_1 (s.setVm vm) m args below meth c Tt lt 6 12) (et : Tt.heap = hh) (Nt : Fr n0 lt) (ex : Int32) (hex : ex = (if ¬ ([x0, x1, x2] : List Int32) = [] ∧ ∀ c ∈ ([x0, x1, x2] : List Int32), okP c then (1 : Int32) else 0)), Own.Go p e below (Own.EndW Z EL s Q 24 2176) (Tt.setTop (mkF m 249 #[.val (.int p1), .val (.int p2), .val (.int p3), .val (.int p4), .val (.int p5), .val (.int (3 : Int32)), .val (.int x0), .val (.int x1), .val (.int x2), .val (.int x3), .val (.ref b), .val (.int ex)] [])) := by
    intro Tt lt Xt et Nt ex hex
    refine Own.g_aload Xt hx (hb hby at_249) rfl rfl 251 rfl ?_
    refine Own.w_callS Xt hx hZ (y := (⟨"com/example/bowerbird/bowerbird/model/Names", "isMetadataPrefix", "(Ljava/lang/String;)Z"⟩ : MethodName)) hown (mvT hZ (hw _ (List.mem_of_getElem? (i := 23) rfl))) (mvT hZ (hw _ (List.mem_of_getElem? (i := 24) rfl))) (mvT hZ (hw _ (List.mem_of_getElem? (i := 25) rfl))) (mvT hZ (hw _ (List.mem_of_getElem? (i := 26) rfl))) (by decide) [.ref b] (Own.backW (W := 0) (SF := []) (rm_imp l Z a0 hw [] b bt kb ([x0, x1, x2] : List Int32) G1 G3 hh n0 O O2 P5 O4 rG3 (Own.mem3 hlx0 hlx1 hlx2) (Nat.le_of_ble_eq_true rfl) E_b F_b_value F_b_coder V_bt) hZ (hw _ (List.mem_of_getElem? (i := 26) rfl)) (hw _ (List.mem_of_getElem? (i := 25) rfl)) (by decide) (by decide) hEL CR.1 all0) et hS hk (by rw [hml]; rfl) [] (lenOf pd_9 rfl) rfl (Nat.le_of_ble_eq_true rfl) (hb hby at_251) (by decide) (by decide) 254 rfl ?_
    rintro _ T1 L1 X1 hS hZ hown C1 ⟨rfl, N1q⟩
    replace CR := CR.trans C1
    have hk : T1.heap.size ≤ T1.heap.size := Nat.le_refl _
    have N1 := Fr.app Nt N1q
    show Own.Go p e below _ (T1.setTop (mkF m 254 #[.val (.int p1), .val (.int p2), .val (.int p3), .val (.int p4), .val (.int p5), .val (.int (3 : Int32)), .val (.int x0), .val (.int x1), .val (.int x2), .val (.int x3), .val (.ref b), .val (.int ex)] [(.int (if ¬ ([x0, x1, x2] : List Int32) = [] ∧ ∀ c ∈ ([x0, x1, x2] : List Int32), okP c then (1 : Int32) else 0))]))
    refine Own.g_iload X1 hx (hb hby at_254) rfl 256 rfl ?_
    refine Own.g_icmp_ne_f X1 hx (hb hby at_256) hex.symm 259 rfl ?_
    refine Own.g_iconst X1 hx (1 : Int32) (hb hby at_259) rfl 260 rfl ?_
    refine Own.g_goto X1 hx (hb hby at_260) 264 (by decide) ?_
    refine Own.w_ret X1 hx hZ hEL hS hk CR hret hlocks rfl (Or.inl ⟨rfl, by simp, _, rfl⟩) (hb hby at_264) (by decide) (by decide) (rfl : T1.heap = T1.heap) ?_
    exact hQ _ _ N1
  refine Own.g_iload X0 hx (hb hby at_186) rfl 188 rfl ?_
  refine Own.g_iconst X0 hx (1 : Int32) (hb hby at_188) rfl 189 rfl ?_
  refine Own.g_icmp_lt_f X0 hx (hb hby at_189) (by decide) 192 rfl ?_
  refine Own.g_iload X0 hx (hb hby at_192) rfl 194 rfl ?_
  refine Own.g_callS X0 hx (y := (⟨"com/example/bowerbird/bowerbird/model/NamesIsMetadataPrefixPinLaw", "ok", "(I)Z"⟩ : MethodName)) hown (mvT hZ (hw _ (List.mem_of_getElem? (i := 51) rfl))) (mvT hZ (hw _ (List.mem_of_getElem? (i := 52) rfl))) (mvT hZ (hw _ (List.mem_of_getElem? (i := 53) rfl))) (mvT hZ (hw _ (List.mem_of_getElem? (i := 54) rfl))) (by decide) [.int x0] (Own.back (W := 0) (rm_ok l Z a0 hw [] x0 hh n0 O ) hZ (hw _ (List.mem_of_getElem? (i := 54) rfl)) (hw _ (List.mem_of_getElem? (i := 53) rfl)) (by decide) (by decide)) e0 (by rw [hml]; rfl) [] (lenOf pd_1 rfl) rfl (Nat.le_of_ble_eq_true rfl) (hb hby at_194) (by decide) (by decide) 197 rfl ?_
  rintro _ T2 L2 X2 ⟨rfl, N2q, eH2⟩
  have N2 := Fr.app N0 N2q
  show Own.Go p e below _ (T2.setTop (mkF m 197 #[.val (.int p1), .val (.int p2), .val (.int p3), .val (.int p4), .val (.int p5), .val (.int (3 : Int32)), .val (.int x0), .val (.int x1), .val (.int x2), .val (.int x3), .val (.ref b), .unset] [(.int (if okP x0 then (1 : Int32) else 0))]))
  refine Own.g_if_eq X2 hx (hb hby at_197) 246 200 (by decide) rfl ?_ ?_
  · intro k0
    refine Own.g_iconst X2 hx (0 : Int32) (hb hby at_246) rfl 247 rfl ?_
    refine Own.g_istore X2 hx #[.val (.int p1), .val (.int p2), .val (.int p3), .val (.int p4), .val (.int p5), .val (.int (3 : Int32)), .val (.int x0), .val (.int x1), .val (.int x2), .val (.int x3), .val (.ref b), .val (.int (0 : Int32))] (hb hby at_247) rfl 249 rfl ?_
    exact t249 _ _ X2 eH2 N2 _ (by rw [if_neg (fun z => Own.if1_eq k0 (z.2 x0 (by simp)))])
  · intro k0
    have ok0 := Own.if1_ne k0
    refine Own.g_iload X2 hx (hb hby at_200) rfl 202 rfl ?_
    refine Own.g_iconst X2 hx (2 : Int32) (hb hby at_202) rfl 203 rfl ?_
    refine Own.g_icmp_lt_f X2 hx (hb hby at_203) (by decide) 206 rfl ?_
    refine Own.g_iload X2 hx (hb hby at_206) rfl 208 rfl ?_
    refine Own.g_callS X2 hx (y := (⟨"com/example/bowerbird/bowerbird/model/NamesIsMetadataPrefixPinLaw", "ok", "(I)Z"⟩ : MethodName)) hown (mvT hZ (hw _ (List.mem_of_getElem? (i := 51) rfl))) (mvT hZ (hw _ (List.mem_of_getElem? (i := 52) rfl))) (mvT hZ (hw _ (List.mem_of_getElem? (i := 53) rfl))) (mvT hZ (hw _ (List.mem_of_getElem? (i := 54) rfl))) (by decide) [.int x1] (Own.back (W := 0) (rm_ok l Z a0 hw [] x1 hh n0 O ) hZ (hw _ (List.mem_of_getElem? (i := 54) rfl)) (hw _ (List.mem_of_getElem? (i := 53) rfl)) (by decide) (by decide)) eH2 (by rw [hml]; rfl) [] (lenOf pd_1 rfl) rfl (Nat.le_of_ble_eq_true rfl) (hb hby at_208) (by decide) (by decide) 211 rfl ?_
    rintro _ T3 L3 X3 ⟨rfl, N3q, eH3⟩
    have N3 := Fr.app N2 N3q
    show Own.Go p e below _ (T3.setTop (mkF m 211 #[.val (.int p1), .val (.int p2), .val (.int p3), .val (.int p4), .val (.int p5), .val (.int (3 : Int32)), .val (.int x0), .val (.int x1), .val (.int x2), .val (.int x3), .val (.ref b), .unset] [(.int (if okP x1 then (1 : Int32) else 0))]))
    refine Own.g_if_eq X3 hx (hb hby at_211) 246 214 (by decide) rfl ?_ ?_
    · intro k1
      refine Own.g_iconst X3 hx (0 : Int32) (hb hby at_246) rfl 247 rfl ?_
      refine Own.g_istore X3 hx #[.val (.int p1), .val (.int p2), .val (.int p3), .val (.int p4), .val (.int p5), .val (.int (3 : Int32)), .val (.int x0), .val (.int x1), .val (.int x2), .val (.int x3), .val (.ref b), .val (.int (0 : Int32))] (hb hby at_247) rfl 249 rfl ?_
      exact t249 _ _ X3 eH3 N3 _ (by rw [if_neg (fun z => Own.if1_eq k1 (z.2 x1 (by simp)))])
    · intro k1
      have ok1 := Own.if1_ne k1
      refine Own.g_iload X3 hx (hb hby at_214) rfl 216 rfl ?_
      refine Own.g_iconst X3 hx (3 : Int32) (hb hby at_216) rfl 217 rfl ?_
      refine Own.g_icmp_lt_f X3 hx (hb hby at_217) (by decide) 220 rfl ?_
      refine Own.g_iload X3 hx (hb hby at_220) rfl 222 rfl ?_
      refine Own.g_callS X3 hx (y := (⟨"com/example/bowerbird/bowerbird/model/NamesIsMetadataPrefixPinLaw", "ok", "(I)Z"⟩ : MethodName)) hown (mvT hZ (hw _ (List.mem_of_getElem? (i := 51) rfl))) (mvT hZ (hw _ (List.mem_of_getElem? (i := 52) rfl))) (mvT hZ (hw _ (List.mem_of_getElem? (i := 53) rfl))) (mvT hZ (hw _ (List.mem_of_getElem? (i := 54) rfl))) (by decide) [.int x2] (Own.back (W := 0) (rm_ok l Z a0 hw [] x2 hh n0 O ) hZ (hw _ (List.mem_of_getElem? (i := 54) rfl)) (hw _ (List.mem_of_getElem? (i := 53) rfl)) (by decide) (by decide)) eH3 (by rw [hml]; rfl) [] (lenOf pd_1 rfl) rfl (Nat.le_of_ble_eq_true rfl) (hb hby at_222) (by decide) (by decide) 225 rfl ?_
      rintro _ T4 L4 X4 ⟨rfl, N4q, eH4⟩
      have N4 := Fr.app N3 N4q
      show Own.Go p e below _ (T4.setTop (mkF m 225 #[.val (.int p1), .val (.int p2), .val (.int p3), .val (.int p4), .val (.int p5), .val (.int (3 : Int32)), .val (.int x0), .val (.int x1), .val (.int x2), .val (.int x3), .val (.ref b), .unset] [(.int (if okP x2 then (1 : Int32) else 0))]))
      refine Own.g_if_eq X4 hx (hb hby at_225) 246 228 (by decide) rfl ?_ ?_
      · intro k2
        refine Own.g_iconst X4 hx (0 : Int32) (hb hby at_246) rfl 247 rfl ?_
        refine Own.g_istore X4 hx #[.val (.int p1), .val (.int p2), .val (.int p3), .val (.int p4), .val (.int p5), .val (.int (3 : Int32)), .val (.int x0), .val (.int x1), .val (.int x2), .val (.int x3), .val (.ref b), .val (.int (0 : Int32))] (hb hby at_247) rfl 249 rfl ?_
        exact t249 _ _ X4 eH4 N4 _ (by rw [if_neg (fun z => Own.if1_eq k2 (z.2 x2 (by simp)))])
      · intro k2
        have ok2 := Own.if1_ne k2
        refine Own.g_iload X4 hx (hb hby at_228) rfl 230 rfl ?_
        refine Own.g_iconst X4 hx (4 : Int32) (hb hby at_230) rfl 231 rfl ?_
        refine Own.g_icmp_lt_t X4 hx (hb hby at_231) (by decide) 242 (by decide) ?_
        refine Own.g_iconst X4 hx (1 : Int32) (hb hby at_242) rfl 243 rfl ?_
        refine Own.g_goto X4 hx (hb hby at_243) 247 (by decide) ?_
        refine Own.g_istore X4 hx #[.val (.int p1), .val (.int p2), .val (.int p3), .val (.int p4), .val (.int p5), .val (.int (3 : Int32)), .val (.int x0), .val (.int x1), .val (.int x2), .val (.int x3), .val (.ref b), .val (.int (1 : Int32))] (hb hby at_247) rfl 249 rfl ?_
        exact t249 _ _ X4 eH4 N4 _ (by rw [if_pos ⟨by simp, Own.mem3 ok0 ok1 ok2⟩])
set_option maxRecDepth 65536 in
set_option maxHeartbeats 40000000 in
theorem st_186_4 {p : Program} {l : Launch} {e : Env} {s : State} {m : MethodId} {args : Array Value} {below : List Frame} {meth : Method} {c : Code} {T0 : State} {locs : List Loc} {Z : State} {a0 : Array Value} {hh : Heap} {n0 : Nat} {Q : Option Value → Heap → List Loc → Prop} (hQ : ∀ h L, Fr n0 L → Q (some (.int 1)) h L) {vm : Vm} {k0 : Nat} (hx : p.tables.exec = Jvm.exec) (hZ : Z.Warmed39 (s.setVm vm).vm) (hw : ∀ d ∈ tables_1, d.before a0 Z = true) (hby : c.code = code) (hml : c.maxLocals = 12) (hown : (s.setVm vm).vm.findClass "com/example/bowerbird/bowerbird/model/NamesIsMetadataPrefixPinLaw" = some m.cls) (hret : meth.sig.returnType = (some .boolean)) (hlocks : meth.locks = false) (hEL : EW Z a0 EL) (hS : s.Since vm k0) (hk : k0 ≤ hh.size) (CR : CHr Z EL s.vm s.heap vm hh)
    (p1 p2 p3 p4 p5 x0 x1 x2 x3 G1 : Int32) (G3 : Value) (b bt : Addr) (kb : ClassId) (X0 : Stand p l e room_1 (s.setVm vm) m args below meth c T0 locs 6 12) (e0 : T0.heap = hh) (N0 : Fr n0 locs) (O : Old Z n0 hh) (E_b : Exa Z hh b "java/lang/String") (F_b_value : Fld Z hh b "java/lang/String" "value" "[B" (.ref bt)) (F_b_coder : Fld Z hh b "java/lang/String" "coder" "B" (.int 0)) (V_bt : Arv Z hh bt kb .byte (Int32.ofNat (([x0, x1, x2, x3] : List Int32)).length) (((([x0, x1, x2, x3] : List Int32)).map fun c => c.toInt8.toInt32).map Value.int) (.int 0))   (O2 : Sta Z Z.heap "java/lang/String" "COMPACT_STRINGS" "Z" (.int G1)) (P5 : ¬ (G1 = (0 : Int32))) (O4 : Sta Z Z.heap "jdk/internal/util/Preconditions" "SIOOBE_FORMATTER" "Ljava/util/function/BiFunction;" G3) (rG3 : G3.isRef = true) (hlx0 : Own.Lat x0) (hlx1 : Own.Lat x1) (hlx2 : Own.Lat x2) (hlx3 : Own.Lat x3) :
    Own.Go p e below (Own.EndW Z EL s Q 24 2176) (T0.setTop (mkF m 186 #[.val (.int p1), .val (.int p2), .val (.int p3), .val (.int p4), .val (.int p5), .val (.int (4 : Int32)), .val (.int x0), .val (.int x1), .val (.int x2), .val (.int x3), .val (.ref b), .unset] [])) := by
  have t249 : ∀ (Tt : State) (lt : List Loc) (Xt : Stand p l e room_1 (s.setVm vm) m args below meth c Tt lt 6 12) (et : Tt.heap = hh) (Nt : Fr n0 lt) (ex : Int32) (hex : ex = (if ¬ ([x0, x1, x2, x3] : List Int32) = [] ∧ ∀ c ∈ ([x0, x1, x2, x3] : List Int32), okP c then (1 : Int32) else 0)), Own.Go p e below (Own.EndW Z EL s Q 24 2176) (Tt.setTop (mkF m 249 #[.val (.int p1), .val (.int p2), .val (.int p3), .val (.int p4), .val (.int p5), .val (.int (4 : Int32)), .val (.int x0), .val (.int x1), .val (.int x2), .val (.int x3), .val (.ref b), .val (.int ex)] [])) := by
    intro Tt lt Xt et Nt ex hex
    refine Own.g_aload Xt hx (hb hby at_249) rfl rfl 251 rfl ?_
    refine Own.w_callS Xt hx hZ (y := (⟨"com/example/bowerbird/bowerbird/model/Names", "isMetadataPrefix", "(Ljava/lang/String;)Z"⟩ : MethodName)) hown (mvT hZ (hw _ (List.mem_of_getElem? (i := 23) rfl))) (mvT hZ (hw _ (List.mem_of_getElem? (i := 24) rfl))) (mvT hZ (hw _ (List.mem_of_getElem? (i := 25) rfl))) (mvT hZ (hw _ (List.mem_of_getElem? (i := 26) rfl))) (by decide) [.ref b] (Own.backW (W := 0) (SF := []) (rm_imp l Z a0 hw [] b bt kb ([x0, x1, x2, x3] : List Int32) G1 G3 hh n0 O O2 P5 O4 rG3 (Own.mem4 hlx0 hlx1 hlx2 hlx3) (Nat.le_of_ble_eq_true rfl) E_b F_b_value F_b_coder V_bt) hZ (hw _ (List.mem_of_getElem? (i := 26) rfl)) (hw _ (List.mem_of_getElem? (i := 25) rfl)) (by decide) (by decide) hEL CR.1 all0) et hS hk (by rw [hml]; rfl) [] (lenOf pd_9 rfl) rfl (Nat.le_of_ble_eq_true rfl) (hb hby at_251) (by decide) (by decide) 254 rfl ?_
    rintro _ T1 L1 X1 hS hZ hown C1 ⟨rfl, N1q⟩
    replace CR := CR.trans C1
    have hk : T1.heap.size ≤ T1.heap.size := Nat.le_refl _
    have N1 := Fr.app Nt N1q
    show Own.Go p e below _ (T1.setTop (mkF m 254 #[.val (.int p1), .val (.int p2), .val (.int p3), .val (.int p4), .val (.int p5), .val (.int (4 : Int32)), .val (.int x0), .val (.int x1), .val (.int x2), .val (.int x3), .val (.ref b), .val (.int ex)] [(.int (if ¬ ([x0, x1, x2, x3] : List Int32) = [] ∧ ∀ c ∈ ([x0, x1, x2, x3] : List Int32), okP c then (1 : Int32) else 0))]))
    refine Own.g_iload X1 hx (hb hby at_254) rfl 256 rfl ?_
    refine Own.g_icmp_ne_f X1 hx (hb hby at_256) hex.symm 259 rfl ?_
    refine Own.g_iconst X1 hx (1 : Int32) (hb hby at_259) rfl 260 rfl ?_
    refine Own.g_goto X1 hx (hb hby at_260) 264 (by decide) ?_
    refine Own.w_ret X1 hx hZ hEL hS hk CR hret hlocks rfl (Or.inl ⟨rfl, by simp, _, rfl⟩) (hb hby at_264) (by decide) (by decide) (rfl : T1.heap = T1.heap) ?_
    exact hQ _ _ N1
  refine Own.g_iload X0 hx (hb hby at_186) rfl 188 rfl ?_
  refine Own.g_iconst X0 hx (1 : Int32) (hb hby at_188) rfl 189 rfl ?_
  refine Own.g_icmp_lt_f X0 hx (hb hby at_189) (by decide) 192 rfl ?_
  refine Own.g_iload X0 hx (hb hby at_192) rfl 194 rfl ?_
  refine Own.g_callS X0 hx (y := (⟨"com/example/bowerbird/bowerbird/model/NamesIsMetadataPrefixPinLaw", "ok", "(I)Z"⟩ : MethodName)) hown (mvT hZ (hw _ (List.mem_of_getElem? (i := 51) rfl))) (mvT hZ (hw _ (List.mem_of_getElem? (i := 52) rfl))) (mvT hZ (hw _ (List.mem_of_getElem? (i := 53) rfl))) (mvT hZ (hw _ (List.mem_of_getElem? (i := 54) rfl))) (by decide) [.int x0] (Own.back (W := 0) (rm_ok l Z a0 hw [] x0 hh n0 O ) hZ (hw _ (List.mem_of_getElem? (i := 54) rfl)) (hw _ (List.mem_of_getElem? (i := 53) rfl)) (by decide) (by decide)) e0 (by rw [hml]; rfl) [] (lenOf pd_1 rfl) rfl (Nat.le_of_ble_eq_true rfl) (hb hby at_194) (by decide) (by decide) 197 rfl ?_
  rintro _ T2 L2 X2 ⟨rfl, N2q, eH2⟩
  have N2 := Fr.app N0 N2q
  show Own.Go p e below _ (T2.setTop (mkF m 197 #[.val (.int p1), .val (.int p2), .val (.int p3), .val (.int p4), .val (.int p5), .val (.int (4 : Int32)), .val (.int x0), .val (.int x1), .val (.int x2), .val (.int x3), .val (.ref b), .unset] [(.int (if okP x0 then (1 : Int32) else 0))]))
  refine Own.g_if_eq X2 hx (hb hby at_197) 246 200 (by decide) rfl ?_ ?_
  · intro k0
    refine Own.g_iconst X2 hx (0 : Int32) (hb hby at_246) rfl 247 rfl ?_
    refine Own.g_istore X2 hx #[.val (.int p1), .val (.int p2), .val (.int p3), .val (.int p4), .val (.int p5), .val (.int (4 : Int32)), .val (.int x0), .val (.int x1), .val (.int x2), .val (.int x3), .val (.ref b), .val (.int (0 : Int32))] (hb hby at_247) rfl 249 rfl ?_
    exact t249 _ _ X2 eH2 N2 _ (by rw [if_neg (fun z => Own.if1_eq k0 (z.2 x0 (by simp)))])
  · intro k0
    have ok0 := Own.if1_ne k0
    refine Own.g_iload X2 hx (hb hby at_200) rfl 202 rfl ?_
    refine Own.g_iconst X2 hx (2 : Int32) (hb hby at_202) rfl 203 rfl ?_
    refine Own.g_icmp_lt_f X2 hx (hb hby at_203) (by decide) 206 rfl ?_
    refine Own.g_iload X2 hx (hb hby at_206) rfl 208 rfl ?_
    refine Own.g_callS X2 hx (y := (⟨"com/example/bowerbird/bowerbird/model/NamesIsMetadataPrefixPinLaw", "ok", "(I)Z"⟩ : MethodName)) hown (mvT hZ (hw _ (List.mem_of_getElem? (i := 51) rfl))) (mvT hZ (hw _ (List.mem_of_getElem? (i := 52) rfl))) (mvT hZ (hw _ (List.mem_of_getElem? (i := 53) rfl))) (mvT hZ (hw _ (List.mem_of_getElem? (i := 54) rfl))) (by decide) [.int x1] (Own.back (W := 0) (rm_ok l Z a0 hw [] x1 hh n0 O ) hZ (hw _ (List.mem_of_getElem? (i := 54) rfl)) (hw _ (List.mem_of_getElem? (i := 53) rfl)) (by decide) (by decide)) eH2 (by rw [hml]; rfl) [] (lenOf pd_1 rfl) rfl (Nat.le_of_ble_eq_true rfl) (hb hby at_208) (by decide) (by decide) 211 rfl ?_
    rintro _ T3 L3 X3 ⟨rfl, N3q, eH3⟩
    have N3 := Fr.app N2 N3q
    show Own.Go p e below _ (T3.setTop (mkF m 211 #[.val (.int p1), .val (.int p2), .val (.int p3), .val (.int p4), .val (.int p5), .val (.int (4 : Int32)), .val (.int x0), .val (.int x1), .val (.int x2), .val (.int x3), .val (.ref b), .unset] [(.int (if okP x1 then (1 : Int32) else 0))]))
    refine Own.g_if_eq X3 hx (hb hby at_211) 246 214 (by decide) rfl ?_ ?_
    · intro k1
      refine Own.g_iconst X3 hx (0 : Int32) (hb hby at_246) rfl 247 rfl ?_
      refine Own.g_istore X3 hx #[.val (.int p1), .val (.int p2), .val (.int p3), .val (.int p4), .val (.int p5), .val (.int (4 : Int32)), .val (.int x0), .val (.int x1), .val (.int x2), .val (.int x3), .val (.ref b), .val (.int (0 : Int32))] (hb hby at_247) rfl 249 rfl ?_
      exact t249 _ _ X3 eH3 N3 _ (by rw [if_neg (fun z => Own.if1_eq k1 (z.2 x1 (by simp)))])
    · intro k1
      have ok1 := Own.if1_ne k1
      refine Own.g_iload X3 hx (hb hby at_214) rfl 216 rfl ?_
      refine Own.g_iconst X3 hx (3 : Int32) (hb hby at_216) rfl 217 rfl ?_
      refine Own.g_icmp_lt_f X3 hx (hb hby at_217) (by decide) 220 rfl ?_
      refine Own.g_iload X3 hx (hb hby at_220) rfl 222 rfl ?_
      refine Own.g_callS X3 hx (y := (⟨"com/example/bowerbird/bowerbird/model/NamesIsMetadataPrefixPinLaw", "ok", "(I)Z"⟩ : MethodName)) hown (mvT hZ (hw _ (List.mem_of_getElem? (i := 51) rfl))) (mvT hZ (hw _ (List.mem_of_getElem? (i := 52) rfl))) (mvT hZ (hw _ (List.mem_of_getElem? (i := 53) rfl))) (mvT hZ (hw _ (List.mem_of_getElem? (i := 54) rfl))) (by decide) [.int x2] (Own.back (W := 0) (rm_ok l Z a0 hw [] x2 hh n0 O ) hZ (hw _ (List.mem_of_getElem? (i := 54) rfl)) (hw _ (List.mem_of_getElem? (i := 53) rfl)) (by decide) (by decide)) eH3 (by rw [hml]; rfl) [] (lenOf pd_1 rfl) rfl (Nat.le_of_ble_eq_true rfl) (hb hby at_222) (by decide) (by decide) 225 rfl ?_
      rintro _ T4 L4 X4 ⟨rfl, N4q, eH4⟩
      have N4 := Fr.app N3 N4q
      show Own.Go p e below _ (T4.setTop (mkF m 225 #[.val (.int p1), .val (.int p2), .val (.int p3), .val (.int p4), .val (.int p5), .val (.int (4 : Int32)), .val (.int x0), .val (.int x1), .val (.int x2), .val (.int x3), .val (.ref b), .unset] [(.int (if okP x2 then (1 : Int32) else 0))]))
      refine Own.g_if_eq X4 hx (hb hby at_225) 246 228 (by decide) rfl ?_ ?_
      · intro k2
        refine Own.g_iconst X4 hx (0 : Int32) (hb hby at_246) rfl 247 rfl ?_
        refine Own.g_istore X4 hx #[.val (.int p1), .val (.int p2), .val (.int p3), .val (.int p4), .val (.int p5), .val (.int (4 : Int32)), .val (.int x0), .val (.int x1), .val (.int x2), .val (.int x3), .val (.ref b), .val (.int (0 : Int32))] (hb hby at_247) rfl 249 rfl ?_
        exact t249 _ _ X4 eH4 N4 _ (by rw [if_neg (fun z => Own.if1_eq k2 (z.2 x2 (by simp)))])
      · intro k2
        have ok2 := Own.if1_ne k2
        refine Own.g_iload X4 hx (hb hby at_228) rfl 230 rfl ?_
        refine Own.g_iconst X4 hx (4 : Int32) (hb hby at_230) rfl 231 rfl ?_
        refine Own.g_icmp_lt_f X4 hx (hb hby at_231) (by decide) 234 rfl ?_
        refine Own.g_iload X4 hx (hb hby at_234) rfl 236 rfl ?_
        refine Own.g_callS X4 hx (y := (⟨"com/example/bowerbird/bowerbird/model/NamesIsMetadataPrefixPinLaw", "ok", "(I)Z"⟩ : MethodName)) hown (mvT hZ (hw _ (List.mem_of_getElem? (i := 51) rfl))) (mvT hZ (hw _ (List.mem_of_getElem? (i := 52) rfl))) (mvT hZ (hw _ (List.mem_of_getElem? (i := 53) rfl))) (mvT hZ (hw _ (List.mem_of_getElem? (i := 54) rfl))) (by decide) [.int x3] (Own.back (W := 0) (rm_ok l Z a0 hw [] x3 hh n0 O ) hZ (hw _ (List.mem_of_getElem? (i := 54) rfl)) (hw _ (List.mem_of_getElem? (i := 53) rfl)) (by decide) (by decide)) eH4 (by rw [hml]; rfl) [] (lenOf pd_1 rfl) rfl (Nat.le_of_ble_eq_true rfl) (hb hby at_236) (by decide) (by decide) 239 rfl ?_
        rintro _ T5 L5 X5 ⟨rfl, N5q, eH5⟩
        have N5 := Fr.app N4 N5q
        show Own.Go p e below _ (T5.setTop (mkF m 239 #[.val (.int p1), .val (.int p2), .val (.int p3), .val (.int p4), .val (.int p5), .val (.int (4 : Int32)), .val (.int x0), .val (.int x1), .val (.int x2), .val (.int x3), .val (.ref b), .unset] [(.int (if okP x3 then (1 : Int32) else 0))]))
        refine Own.g_if_eq X5 hx (hb hby at_239) 246 242 (by decide) rfl ?_ ?_
        · intro k3
          refine Own.g_iconst X5 hx (0 : Int32) (hb hby at_246) rfl 247 rfl ?_
          refine Own.g_istore X5 hx #[.val (.int p1), .val (.int p2), .val (.int p3), .val (.int p4), .val (.int p5), .val (.int (4 : Int32)), .val (.int x0), .val (.int x1), .val (.int x2), .val (.int x3), .val (.ref b), .val (.int (0 : Int32))] (hb hby at_247) rfl 249 rfl ?_
          exact t249 _ _ X5 eH5 N5 _ (by rw [if_neg (fun z => Own.if1_eq k3 (z.2 x3 (by simp)))])
        · intro k3
          have ok3 := Own.if1_ne k3
          refine Own.g_iconst X5 hx (1 : Int32) (hb hby at_242) rfl 243 rfl ?_
          refine Own.g_goto X5 hx (hb hby at_243) 247 (by decide) ?_
          refine Own.g_istore X5 hx #[.val (.int p1), .val (.int p2), .val (.int p3), .val (.int p4), .val (.int p5), .val (.int (4 : Int32)), .val (.int x0), .val (.int x1), .val (.int x2), .val (.int x3), .val (.ref b), .val (.int (1 : Int32))] (hb hby at_247) rfl 249 rfl ?_
          exact t249 _ _ X5 eH5 N5 _ (by rw [if_pos ⟨by simp, Own.mem4 ok0 ok1 ok2 ok3⟩])
set_option maxRecDepth 65536 in
set_option maxHeartbeats 40000000 in
theorem st_41 {p : Program} {l : Launch} {e : Env} {s : State} {m : MethodId} {args : Array Value} {below : List Frame} {meth : Method} {c : Code} {T0 : State} {locs : List Loc} {Z : State} {a0 : Array Value} {hh : Heap} {n0 : Nat} {Q : Option Value → Heap → List Loc → Prop} (hQ : ∀ h L, Fr n0 L → Q (some (.int 1)) h L) {vm : Vm} {k0 : Nat} (hx : p.tables.exec = Jvm.exec) (hZ : Z.Warmed39 (s.setVm vm).vm) (hw : ∀ d ∈ tables_1, d.before a0 Z = true) (hby : c.code = code) (hml : c.maxLocals = 12) (hown : (s.setVm vm).vm.findClass "com/example/bowerbird/bowerbird/model/NamesIsMetadataPrefixPinLaw" = some m.cls) (hret : meth.sig.returnType = (some .boolean)) (hlocks : meth.locks = false) (hEL : EW Z a0 EL) (hS : s.Since vm k0) (hk : k0 ≤ hh.size) (CR : CHr Z EL s.vm s.heap vm hh)
    (p1 p2 p3 p4 p5 n x0 x1 x2 x3 G1 : Int32) (G3 : Value) (X0 : Stand p l e room_1 (s.setVm vm) m args below meth c T0 locs 0 0) (e0 : T0.heap = hh) (N0 : Fr n0 locs) (O : Old Z n0 hh)    (O2 : Sta Z Z.heap "java/lang/String" "COMPACT_STRINGS" "Z" (.int G1)) (P5 : ¬ (G1 = (0 : Int32))) (O4 : Sta Z Z.heap "jdk/internal/util/Preconditions" "SIOOBE_FORMATTER" "Ljava/util/function/BiFunction;" G3) (rG3 : G3.isRef = true) (hlx0 : Own.Lat x0) (hlx1 : Own.Lat x1) (hlx2 : Own.Lat x2) (hlx3 : Own.Lat x3) (K_n : n = 0 ∨ n = 1 ∨ n = 2 ∨ n = 3 ∨ n = 4) :
    Own.Go p e below (Own.EndW Z EL s Q 24 2176) (T0.setTop (mkF m 41 #[.val (.int p1), .val (.int p2), .val (.int p3), .val (.int p4), .val (.int p5), .val (.int n), .val (.int x0), .val (.int x1), .val (.int x2), .val (.int x3), .unset, .unset] [])) := by
  have hws : ∀ d ∈ StrChars.Road.words, d.before a0 Z = true := fun d hd => hw d ((by decide +kernel : ∀ d ∈ StrChars.Road.words, d ∈ tables_1) d hd)
  refine Own.g_iload X0 hx (hb hby at_41) rfl 43 rfl ?_
  refine Own.g_if_ne X0 hx (hb hby at_43) 61 46 (by decide) rfl ?_ ?_
  · intro q0
    refine Own.g_iload X0 hx (hb hby at_61) rfl 63 rfl ?_
    refine Own.g_iconst X0 hx (1 : Int32) (hb hby at_63) rfl 64 rfl ?_
    refine Own.g_icmp_ne X0 hx (hb hby at_64) 87 67 (by decide) rfl ?_ ?_
    · intro q1
      refine Own.g_iload X0 hx (hb hby at_87) rfl 89 rfl ?_
      refine Own.g_iconst X0 hx (2 : Int32) (hb hby at_89) rfl 90 rfl ?_
      refine Own.g_icmp_ne X0 hx (hb hby at_90) 118 93 (by decide) rfl ?_ ?_
      · intro q2
        refine Own.g_iload X0 hx (hb hby at_118) rfl 120 rfl ?_
        refine Own.g_iconst X0 hx (3 : Int32) (hb hby at_120) rfl 121 rfl ?_
        refine Own.g_icmp_ne X0 hx (hb hby at_121) 154 124 (by decide) rfl ?_ ?_
        · intro q3
          obtain rfl : n = 4 := K_n.elim (fun z => absurd z q0) fun z => z.elim (fun z => absurd z q1) fun z => z.elim (fun z => absurd z q2) fun z => z.elim (fun z => absurd z q3) id
          refine Own.g_new X0 hx hZ hown (hw _ (List.mem_of_getElem? (i := 1) rfl)) (hw _ (List.mem_of_getElem? (i := 2) rfl)) (hw _ (List.mem_of_getElem? (i := 3) rfl)) e0 (hb hby at_154) (by decide) (by decide) 157 rfl ?_
          intro T22 h22 b X22 e22 E22 g22 E_b D22
          have n0_b : n0 ≤ b := Nat.le_trans (Nat.le_of_eq O.1.symm) (Nat.le_trans O.2.1 (Nat.le_of_eq g22.symm))
          have S_b : Safe Z EL vm hh b := Safe.new (Nat.le_of_eq g22.symm)
          replace S_b := S_b.ext E22 CR.1
          replace O := O.ext E22
          replace hk := Nat.le_trans hk E22.1
          replace CR := CR.trans (CHr.ext E22 CR.1)
          have F_b_value : Fld Z h22 b "java/lang/String" "value" "[B" .null := D22 (Or.inr (hw _ (List.mem_of_getElem? (i := 17) rfl))) (ty := (.array .byte)) (by decide)
          have F_b_coder : Fld Z h22 b "java/lang/String" "coder" "B" (.int (0 : Int32)) := D22 (Or.inr (hw _ (List.mem_of_getElem? (i := 18) rfl))) (ty := .byte) (by decide)
          refine Own.g_dup X22 hx (hb hby at_157) rfl 158 rfl ?_
          refine Own.g_iconst X22 hx (4 : Int32) (hb hby at_158) rfl 159 rfl ?_
          refine Own.g_newP X22 hx hZ (hw _ (List.mem_of_getElem? (i := 4) rfl)) e22 (hb hby at_159) (by decide) 4 (by decide) (by decide) (by decide) (by decide) 161 rfl .char rfl [(.int (0 : Int32)), (.int (0 : Int32)), (.int (0 : Int32)), (.int (0 : Int32))] (by intro i; first | rfl | (rcases i with _ | _ | _ | _ | _ | _ | _ | _ | _ | _ | _ | _ | _ | _ | _ | _ | _ | _ | _ | _ | _ | _ | _ | _ | i <;> rfl)) ?_
          intro T23 h23 d k_d X23 e23 E23 g23 V_d
          have ne_b_d : b ≠ d := Nat.ne_of_lt (Nat.lt_of_lt_of_le (E_b.lt) (Nat.le_of_eq g23.symm))
          have n0_d : n0 ≤ d := Nat.le_trans (Nat.le_of_eq O.1.symm) (Nat.le_trans O.2.1 (Nat.le_of_eq g23.symm))
          have S_d : Safe Z EL vm h22 d := Safe.new (Nat.le_of_eq g23.symm)
          replace S_b := S_b.ext E23 CR.1
          replace E_b := E_b.ext E23
          replace F_b_value := F_b_value.ext E23
          replace F_b_coder := F_b_coder.ext E23
          replace S_d := S_d.ext E23 CR.1
          replace O := O.ext E23
          replace hk := Nat.le_trans hk E23.1
          replace CR := CR.trans (CHr.ext E23 CR.1)
          change Arv Z h23 d k_d .char (4 : Int32) [(.int (0 : Int32)), (.int (0 : Int32)), (.int (0 : Int32)), (.int (0 : Int32))] (.int (0 : Int32)) at V_d
          refine Own.g_dup X23 hx (hb hby at_161) rfl 162 rfl ?_
          refine Own.g_iconst X23 hx (0 : Int32) (hb hby at_162) rfl 163 rfl ?_
          refine Own.g_iload X23 hx (hb hby at_163) rfl 165 rfl ?_
          refine Own.g_stC X23 hx hZ e23 V_d x0 (Own.nar_lat hlx0) (by decide) 0 rfl (Nat.le_of_ble_eq_true rfl) [(.int x0), (.int (0 : Int32)), (.int (0 : Int32)), (.int (0 : Int32))] rfl (hb hby at_165) 166 rfl ?_
          clear V_d; intro T24 h24 X24 e24 W24 V_d
          have CR' := CR.trans (CHr.wr W24 S_d CR.1)
          replace S_b := Safe.wr W24 S_d CR.1 S_b
          replace S_d := Safe.wr W24 S_d CR.1 S_d
          replace CR := CR'
          replace hk := Nat.le_trans hk (Keep.of_wr W24).1
          replace E_b := E_b.wr W24
          replace F_b_value := F_b_value.other W24 (Or.inl ne_b_d)
          replace F_b_coder := F_b_coder.other W24 (Or.inl ne_b_d)
          replace O := O.wr W24 n0_d
          have N24 := Fr.snoc X24 N0 n0_d
          refine Own.g_dup X24 hx (hb hby at_166) rfl 167 rfl ?_
          refine Own.g_iconst X24 hx (1 : Int32) (hb hby at_167) rfl 168 rfl ?_
          refine Own.g_iload X24 hx (hb hby at_168) rfl 170 rfl ?_
          refine Own.g_stC X24 hx hZ e24 V_d x1 (Own.nar_lat hlx1) (by decide) 1 rfl (Nat.le_of_ble_eq_true rfl) [(.int x0), (.int x1), (.int (0 : Int32)), (.int (0 : Int32))] rfl (hb hby at_170) 171 rfl ?_
          clear V_d; intro T25 h25 X25 e25 W25 V_d
          have CR' := CR.trans (CHr.wr W25 S_d CR.1)
          replace S_b := Safe.wr W25 S_d CR.1 S_b
          replace S_d := Safe.wr W25 S_d CR.1 S_d
          replace CR := CR'
          replace hk := Nat.le_trans hk (Keep.of_wr W25).1
          replace E_b := E_b.wr W25
          replace F_b_value := F_b_value.other W25 (Or.inl ne_b_d)
          replace F_b_coder := F_b_coder.other W25 (Or.inl ne_b_d)
          replace O := O.wr W25 n0_d
          have N25 := Fr.snoc X25 N24 n0_d
          refine Own.g_dup X25 hx (hb hby at_171) rfl 172 rfl ?_
          refine Own.g_iconst X25 hx (2 : Int32) (hb hby at_172) rfl 173 rfl ?_
          refine Own.g_iload X25 hx (hb hby at_173) rfl 175 rfl ?_
          refine Own.g_stC X25 hx hZ e25 V_d x2 (Own.nar_lat hlx2) (by decide) 2 rfl (Nat.le_of_ble_eq_true rfl) [(.int x0), (.int x1), (.int x2), (.int (0 : Int32))] rfl (hb hby at_175) 176 rfl ?_
          clear V_d; intro T26 h26 X26 e26 W26 V_d
          have CR' := CR.trans (CHr.wr W26 S_d CR.1)
          replace S_b := Safe.wr W26 S_d CR.1 S_b
          replace S_d := Safe.wr W26 S_d CR.1 S_d
          replace CR := CR'
          replace hk := Nat.le_trans hk (Keep.of_wr W26).1
          replace E_b := E_b.wr W26
          replace F_b_value := F_b_value.other W26 (Or.inl ne_b_d)
          replace F_b_coder := F_b_coder.other W26 (Or.inl ne_b_d)
          replace O := O.wr W26 n0_d
          have N26 := Fr.snoc X26 N25 n0_d
          refine Own.g_dup X26 hx (hb hby at_176) rfl 177 rfl ?_
          refine Own.g_iconst X26 hx (3 : Int32) (hb hby at_177) rfl 178 rfl ?_
          refine Own.g_iload X26 hx (hb hby at_178) rfl 180 rfl ?_
          refine Own.g_stC X26 hx hZ e26 V_d x3 (Own.nar_lat hlx3) (by decide) 3 rfl (Nat.le_of_ble_eq_true rfl) [(.int x0), (.int x1), (.int x2), (.int x3)] rfl (hb hby at_180) 181 rfl ?_
          clear V_d; intro T27 h27 X27 e27 W27 V_d
          have CR' := CR.trans (CHr.wr W27 S_d CR.1)
          replace S_b := Safe.wr W27 S_d CR.1 S_b
          replace S_d := Safe.wr W27 S_d CR.1 S_d
          replace CR := CR'
          replace hk := Nat.le_trans hk (Keep.of_wr W27).1
          replace E_b := E_b.wr W27
          replace F_b_value := F_b_value.other W27 (Or.inl ne_b_d)
          replace F_b_coder := F_b_coder.other W27 (Or.inl ne_b_d)
          replace O := O.wr W27 n0_d
          have N27 := Fr.snoc X27 N26 n0_d
          refine Own.g_special X27 hx (y := (⟨"java/lang/String", "<init>", "([C)V"⟩ : MethodName)) rfl hown (mvT hZ (hw _ (List.mem_of_getElem? (i := 5) rfl))) (mvT hZ (hw _ (List.mem_of_getElem? (i := 6) rfl))) (mvT hZ (hw _ (List.mem_of_getElem? (i := 7) rfl))) (by decide) (a := b) [.ref d] (StrChars.Road.backV (W := 1) hZ hws (kI := 4) (hw _ (List.mem_of_getElem? (i := 2) rfl)) (cs := ([x0, x1, x2, x3] : List Int32)) (bs := ([x0, x1, x2, x3] : List Int32).map (fun c => c.toInt8.toInt32)) (n := 4) n0_b (Nat.le_trans (Nat.le_of_eq O.1.symm) O.2.1) E_b F_b_value F_b_coder V_d (O2.ext O.2) P5 rfl rfl (by decide) (by decide) (Own.mem4 hlx0 hlx1 hlx2 hlx3) rfl (by decide) (by decide)) e27 (by rw [hml]; rfl) [(.ref b)] (lenOf pd_10 rfl) rfl (Nat.le_of_ble_eq_true rfl) (hb hby at_181) (by decide) (by decide) 184 rfl ?_
          rintro _ T28 L28 X28 ⟨rfl, N28q, K28, -, Fc28, bt, k_bt, -, sz28, -, Fv28, Va28⟩
          have ne_b_bt : b ≠ bt := Nat.ne_of_lt (Nat.lt_of_lt_of_le (E_b.lt) sz28)
          have ne_d_bt : d ≠ bt := Nat.ne_of_lt (Nat.lt_of_lt_of_le (V_d.lt) sz28)
          have n0_bt : n0 ≤ bt := Nat.le_trans (Nat.le_of_eq O.1.symm) (Nat.le_trans O.2.1 sz28)
          have hs29 : ∀ yy ∈ ([b] : List Addr), Safe Z EL vm _ yy := (allS S_b all0)
          have CR' := CR.trans (CHr.keep K28 hs29 CR.1)
          replace S_b := Safe.keep K28 hs29 CR.1 S_b
          replace S_d := Safe.keep K28 hs29 CR.1 S_d
          replace CR := CR'
          replace hk := Nat.le_trans hk K28.1
          replace E_b := E_b.keep K28
          replace V_d := V_d.keep K28 (ninS (Ne.symm ne_b_d) nin0)
          replace O := O.keep K28 (allS n0_b all0)
          have N28 := Fr.app N27 N28q
          have F_b_value := Fv28
          have F_b_coder := Fc28
          have V_bt := Va28
          show Own.Go p e below _ (T28.setTop (mkF m 184 #[.val (.int p1), .val (.int p2), .val (.int p3), .val (.int p4), .val (.int p5), .val (.int (4 : Int32)), .val (.int x0), .val (.int x1), .val (.int x2), .val (.int x3), .unset, .unset] [(.ref b)]))
          refine Own.g_astore X28 hx #[.val (.int p1), .val (.int p2), .val (.int p3), .val (.int p4), .val (.int p5), .val (.int (4 : Int32)), .val (.int x0), .val (.int x1), .val (.int x2), .val (.int x3), .val (.ref b), .unset] (hb hby at_184) rfl rfl 186 rfl ?_
          exact st_186_4 hQ hx hZ hw hby hml hown hret hlocks hEL hS hk CR p1 p2 p3 p4 p5 x0 x1 x2 x3 G1 G3 b bt k_bt (X28.more (by decide) (by decide)) (rfl : T28.heap = T28.heap) N28 O E_b F_b_value F_b_coder V_bt   O2 P5 O4 rG3 hlx0 hlx1 hlx2 hlx3
        · intro q3
          subst q3
          refine Own.g_new X0 hx hZ hown (hw _ (List.mem_of_getElem? (i := 1) rfl)) (hw _ (List.mem_of_getElem? (i := 2) rfl)) (hw _ (List.mem_of_getElem? (i := 3) rfl)) e0 (hb hby at_124) (by decide) (by decide) 127 rfl ?_
          intro T15 h15 b X15 e15 E15 g15 E_b D15
          have n0_b : n0 ≤ b := Nat.le_trans (Nat.le_of_eq O.1.symm) (Nat.le_trans O.2.1 (Nat.le_of_eq g15.symm))
          have S_b : Safe Z EL vm hh b := Safe.new (Nat.le_of_eq g15.symm)
          replace S_b := S_b.ext E15 CR.1
          replace O := O.ext E15
          replace hk := Nat.le_trans hk E15.1
          replace CR := CR.trans (CHr.ext E15 CR.1)
          have F_b_value : Fld Z h15 b "java/lang/String" "value" "[B" .null := D15 (Or.inr (hw _ (List.mem_of_getElem? (i := 17) rfl))) (ty := (.array .byte)) (by decide)
          have F_b_coder : Fld Z h15 b "java/lang/String" "coder" "B" (.int (0 : Int32)) := D15 (Or.inr (hw _ (List.mem_of_getElem? (i := 18) rfl))) (ty := .byte) (by decide)
          refine Own.g_dup X15 hx (hb hby at_127) rfl 128 rfl ?_
          refine Own.g_iconst X15 hx (3 : Int32) (hb hby at_128) rfl 129 rfl ?_
          refine Own.g_newP X15 hx hZ (hw _ (List.mem_of_getElem? (i := 4) rfl)) e15 (hb hby at_129) (by decide) 3 (by decide) (by decide) (by decide) (by decide) 131 rfl .char rfl [(.int (0 : Int32)), (.int (0 : Int32)), (.int (0 : Int32))] (by intro i; first | rfl | (rcases i with _ | _ | _ | _ | _ | _ | _ | _ | _ | _ | _ | _ | _ | _ | _ | _ | _ | _ | _ | _ | _ | _ | _ | _ | i <;> rfl)) ?_
          intro T16 h16 d k_d X16 e16 E16 g16 V_d
          have ne_b_d : b ≠ d := Nat.ne_of_lt (Nat.lt_of_lt_of_le (E_b.lt) (Nat.le_of_eq g16.symm))
          have n0_d : n0 ≤ d := Nat.le_trans (Nat.le_of_eq O.1.symm) (Nat.le_trans O.2.1 (Nat.le_of_eq g16.symm))
          have S_d : Safe Z EL vm h15 d := Safe.new (Nat.le_of_eq g16.symm)
          replace S_b := S_b.ext E16 CR.1
          replace E_b := E_b.ext E16
          replace F_b_value := F_b_value.ext E16
          replace F_b_coder := F_b_coder.ext E16
          replace S_d := S_d.ext E16 CR.1
          replace O := O.ext E16
          replace hk := Nat.le_trans hk E16.1
          replace CR := CR.trans (CHr.ext E16 CR.1)
          change Arv Z h16 d k_d .char (3 : Int32) [(.int (0 : Int32)), (.int (0 : Int32)), (.int (0 : Int32))] (.int (0 : Int32)) at V_d
          refine Own.g_dup X16 hx (hb hby at_131) rfl 132 rfl ?_
          refine Own.g_iconst X16 hx (0 : Int32) (hb hby at_132) rfl 133 rfl ?_
          refine Own.g_iload X16 hx (hb hby at_133) rfl 135 rfl ?_
          refine Own.g_stC X16 hx hZ e16 V_d x0 (Own.nar_lat hlx0) (by decide) 0 rfl (Nat.le_of_ble_eq_true rfl) [(.int x0), (.int (0 : Int32)), (.int (0 : Int32))] rfl (hb hby at_135) 136 rfl ?_
          clear V_d; intro T17 h17 X17 e17 W17 V_d
          have CR' := CR.trans (CHr.wr W17 S_d CR.1)
          replace S_b := Safe.wr W17 S_d CR.1 S_b
          replace S_d := Safe.wr W17 S_d CR.1 S_d
          replace CR := CR'
          replace hk := Nat.le_trans hk (Keep.of_wr W17).1
          replace E_b := E_b.wr W17
          replace F_b_value := F_b_value.other W17 (Or.inl ne_b_d)
          replace F_b_coder := F_b_coder.other W17 (Or.inl ne_b_d)
          replace O := O.wr W17 n0_d
          have N17 := Fr.snoc X17 N0 n0_d
          refine Own.g_dup X17 hx (hb hby at_136) rfl 137 rfl ?_
          refine Own.g_iconst X17 hx (1 : Int32) (hb hby at_137) rfl 138 rfl ?_
          refine Own.g_iload X17 hx (hb hby at_138) rfl 140 rfl ?_
          refine Own.g_stC X17 hx hZ e17 V_d x1 (Own.nar_lat hlx1) (by decide) 1 rfl (Nat.le_of_ble_eq_true rfl) [(.int x0), (.int x1), (.int (0 : Int32))] rfl (hb hby at_140) 141 rfl ?_
          clear V_d; intro T18 h18 X18 e18 W18 V_d
          have CR' := CR.trans (CHr.wr W18 S_d CR.1)
          replace S_b := Safe.wr W18 S_d CR.1 S_b
          replace S_d := Safe.wr W18 S_d CR.1 S_d
          replace CR := CR'
          replace hk := Nat.le_trans hk (Keep.of_wr W18).1
          replace E_b := E_b.wr W18
          replace F_b_value := F_b_value.other W18 (Or.inl ne_b_d)
          replace F_b_coder := F_b_coder.other W18 (Or.inl ne_b_d)
          replace O := O.wr W18 n0_d
          have N18 := Fr.snoc X18 N17 n0_d
          refine Own.g_dup X18 hx (hb hby at_141) rfl 142 rfl ?_
          refine Own.g_iconst X18 hx (2 : Int32) (hb hby at_142) rfl 143 rfl ?_
          refine Own.g_iload X18 hx (hb hby at_143) rfl 145 rfl ?_
          refine Own.g_stC X18 hx hZ e18 V_d x2 (Own.nar_lat hlx2) (by decide) 2 rfl (Nat.le_of_ble_eq_true rfl) [(.int x0), (.int x1), (.int x2)] rfl (hb hby at_145) 146 rfl ?_
          clear V_d; intro T19 h19 X19 e19 W19 V_d
          have CR' := CR.trans (CHr.wr W19 S_d CR.1)
          replace S_b := Safe.wr W19 S_d CR.1 S_b
          replace S_d := Safe.wr W19 S_d CR.1 S_d
          replace CR := CR'
          replace hk := Nat.le_trans hk (Keep.of_wr W19).1
          replace E_b := E_b.wr W19
          replace F_b_value := F_b_value.other W19 (Or.inl ne_b_d)
          replace F_b_coder := F_b_coder.other W19 (Or.inl ne_b_d)
          replace O := O.wr W19 n0_d
          have N19 := Fr.snoc X19 N18 n0_d
          refine Own.g_special X19 hx (y := (⟨"java/lang/String", "<init>", "([C)V"⟩ : MethodName)) rfl hown (mvT hZ (hw _ (List.mem_of_getElem? (i := 5) rfl))) (mvT hZ (hw _ (List.mem_of_getElem? (i := 6) rfl))) (mvT hZ (hw _ (List.mem_of_getElem? (i := 7) rfl))) (by decide) (a := b) [.ref d] (StrChars.Road.backV (W := 1) hZ hws (kI := 4) (hw _ (List.mem_of_getElem? (i := 2) rfl)) (cs := ([x0, x1, x2] : List Int32)) (bs := ([x0, x1, x2] : List Int32).map (fun c => c.toInt8.toInt32)) (n := 3) n0_b (Nat.le_trans (Nat.le_of_eq O.1.symm) O.2.1) E_b F_b_value F_b_coder V_d (O2.ext O.2) P5 rfl rfl (by decide) (by decide) (Own.mem3 hlx0 hlx1 hlx2) rfl (by decide) (by decide)) e19 (by rw [hml]; rfl) [(.ref b)] (lenOf pd_10 rfl) rfl (Nat.le_of_ble_eq_true rfl) (hb hby at_146) (by decide) (by decide) 149 rfl ?_
          rintro _ T20 L20 X20 ⟨rfl, N20q, K20, -, Fc20, bt, k_bt, -, sz20, -, Fv20, Va20⟩
          have ne_b_bt : b ≠ bt := Nat.ne_of_lt (Nat.lt_of_lt_of_le (E_b.lt) sz20)
          have ne_d_bt : d ≠ bt := Nat.ne_of_lt (Nat.lt_of_lt_of_le (V_d.lt) sz20)
          have n0_bt : n0 ≤ bt := Nat.le_trans (Nat.le_of_eq O.1.symm) (Nat.le_trans O.2.1 sz20)
          have hs21 : ∀ yy ∈ ([b] : List Addr), Safe Z EL vm _ yy := (allS S_b all0)
          have CR' := CR.trans (CHr.keep K20 hs21 CR.1)
          replace S_b := Safe.keep K20 hs21 CR.1 S_b
          replace S_d := Safe.keep K20 hs21 CR.1 S_d
          replace CR := CR'
          replace hk := Nat.le_trans hk K20.1
          replace E_b := E_b.keep K20
          replace V_d := V_d.keep K20 (ninS (Ne.symm ne_b_d) nin0)
          replace O := O.keep K20 (allS n0_b all0)
          have N20 := Fr.app N19 N20q
          have F_b_value := Fv20
          have F_b_coder := Fc20
          have V_bt := Va20
          show Own.Go p e below _ (T20.setTop (mkF m 149 #[.val (.int p1), .val (.int p2), .val (.int p3), .val (.int p4), .val (.int p5), .val (.int (3 : Int32)), .val (.int x0), .val (.int x1), .val (.int x2), .val (.int x3), .unset, .unset] [(.ref b)]))
          refine Own.g_astore X20 hx #[.val (.int p1), .val (.int p2), .val (.int p3), .val (.int p4), .val (.int p5), .val (.int (3 : Int32)), .val (.int x0), .val (.int x1), .val (.int x2), .val (.int x3), .val (.ref b), .unset] (hb hby at_149) rfl rfl 151 rfl ?_
          refine Own.g_goto X20 hx (hb hby at_151) 186 (by decide) ?_
          exact st_186_3 hQ hx hZ hw hby hml hown hret hlocks hEL hS hk CR p1 p2 p3 p4 p5 x0 x1 x2 x3 G1 G3 b bt k_bt (X20.more (by decide) (by decide)) (rfl : T20.heap = T20.heap) N20 O E_b F_b_value F_b_coder V_bt   O2 P5 O4 rG3 hlx0 hlx1 hlx2 hlx3
      · intro q2
        subst q2
        refine Own.g_new X0 hx hZ hown (hw _ (List.mem_of_getElem? (i := 1) rfl)) (hw _ (List.mem_of_getElem? (i := 2) rfl)) (hw _ (List.mem_of_getElem? (i := 3) rfl)) e0 (hb hby at_93) (by decide) (by decide) 96 rfl ?_
        intro T9 h9 b X9 e9 E9 g9 E_b D9
        have n0_b : n0 ≤ b := Nat.le_trans (Nat.le_of_eq O.1.symm) (Nat.le_trans O.2.1 (Nat.le_of_eq g9.symm))
        have S_b : Safe Z EL vm hh b := Safe.new (Nat.le_of_eq g9.symm)
        replace S_b := S_b.ext E9 CR.1
        replace O := O.ext E9
        replace hk := Nat.le_trans hk E9.1
        replace CR := CR.trans (CHr.ext E9 CR.1)
        have F_b_value : Fld Z h9 b "java/lang/String" "value" "[B" .null := D9 (Or.inr (hw _ (List.mem_of_getElem? (i := 17) rfl))) (ty := (.array .byte)) (by decide)
        have F_b_coder : Fld Z h9 b "java/lang/String" "coder" "B" (.int (0 : Int32)) := D9 (Or.inr (hw _ (List.mem_of_getElem? (i := 18) rfl))) (ty := .byte) (by decide)
        refine Own.g_dup X9 hx (hb hby at_96) rfl 97 rfl ?_
        refine Own.g_iconst X9 hx (2 : Int32) (hb hby at_97) rfl 98 rfl ?_
        refine Own.g_newP X9 hx hZ (hw _ (List.mem_of_getElem? (i := 4) rfl)) e9 (hb hby at_98) (by decide) 2 (by decide) (by decide) (by decide) (by decide) 100 rfl .char rfl [(.int (0 : Int32)), (.int (0 : Int32))] (by intro i; first | rfl | (rcases i with _ | _ | _ | _ | _ | _ | _ | _ | _ | _ | _ | _ | _ | _ | _ | _ | _ | _ | _ | _ | _ | _ | _ | _ | i <;> rfl)) ?_
        intro T10 h10 d k_d X10 e10 E10 g10 V_d
        have ne_b_d : b ≠ d := Nat.ne_of_lt (Nat.lt_of_lt_of_le (E_b.lt) (Nat.le_of_eq g10.symm))
        have n0_d : n0 ≤ d := Nat.le_trans (Nat.le_of_eq O.1.symm) (Nat.le_trans O.2.1 (Nat.le_of_eq g10.symm))
        have S_d : Safe Z EL vm h9 d := Safe.new (Nat.le_of_eq g10.symm)
        replace S_b := S_b.ext E10 CR.1
        replace E_b := E_b.ext E10
        replace F_b_value := F_b_value.ext E10
        replace F_b_coder := F_b_coder.ext E10
        replace S_d := S_d.ext E10 CR.1
        replace O := O.ext E10
        replace hk := Nat.le_trans hk E10.1
        replace CR := CR.trans (CHr.ext E10 CR.1)
        change Arv Z h10 d k_d .char (2 : Int32) [(.int (0 : Int32)), (.int (0 : Int32))] (.int (0 : Int32)) at V_d
        refine Own.g_dup X10 hx (hb hby at_100) rfl 101 rfl ?_
        refine Own.g_iconst X10 hx (0 : Int32) (hb hby at_101) rfl 102 rfl ?_
        refine Own.g_iload X10 hx (hb hby at_102) rfl 104 rfl ?_
        refine Own.g_stC X10 hx hZ e10 V_d x0 (Own.nar_lat hlx0) (by decide) 0 rfl (Nat.le_of_ble_eq_true rfl) [(.int x0), (.int (0 : Int32))] rfl (hb hby at_104) 105 rfl ?_
        clear V_d; intro T11 h11 X11 e11 W11 V_d
        have CR' := CR.trans (CHr.wr W11 S_d CR.1)
        replace S_b := Safe.wr W11 S_d CR.1 S_b
        replace S_d := Safe.wr W11 S_d CR.1 S_d
        replace CR := CR'
        replace hk := Nat.le_trans hk (Keep.of_wr W11).1
        replace E_b := E_b.wr W11
        replace F_b_value := F_b_value.other W11 (Or.inl ne_b_d)
        replace F_b_coder := F_b_coder.other W11 (Or.inl ne_b_d)
        replace O := O.wr W11 n0_d
        have N11 := Fr.snoc X11 N0 n0_d
        refine Own.g_dup X11 hx (hb hby at_105) rfl 106 rfl ?_
        refine Own.g_iconst X11 hx (1 : Int32) (hb hby at_106) rfl 107 rfl ?_
        refine Own.g_iload X11 hx (hb hby at_107) rfl 109 rfl ?_
        refine Own.g_stC X11 hx hZ e11 V_d x1 (Own.nar_lat hlx1) (by decide) 1 rfl (Nat.le_of_ble_eq_true rfl) [(.int x0), (.int x1)] rfl (hb hby at_109) 110 rfl ?_
        clear V_d; intro T12 h12 X12 e12 W12 V_d
        have CR' := CR.trans (CHr.wr W12 S_d CR.1)
        replace S_b := Safe.wr W12 S_d CR.1 S_b
        replace S_d := Safe.wr W12 S_d CR.1 S_d
        replace CR := CR'
        replace hk := Nat.le_trans hk (Keep.of_wr W12).1
        replace E_b := E_b.wr W12
        replace F_b_value := F_b_value.other W12 (Or.inl ne_b_d)
        replace F_b_coder := F_b_coder.other W12 (Or.inl ne_b_d)
        replace O := O.wr W12 n0_d
        have N12 := Fr.snoc X12 N11 n0_d
        refine Own.g_special X12 hx (y := (⟨"java/lang/String", "<init>", "([C)V"⟩ : MethodName)) rfl hown (mvT hZ (hw _ (List.mem_of_getElem? (i := 5) rfl))) (mvT hZ (hw _ (List.mem_of_getElem? (i := 6) rfl))) (mvT hZ (hw _ (List.mem_of_getElem? (i := 7) rfl))) (by decide) (a := b) [.ref d] (StrChars.Road.backV (W := 1) hZ hws (kI := 4) (hw _ (List.mem_of_getElem? (i := 2) rfl)) (cs := ([x0, x1] : List Int32)) (bs := ([x0, x1] : List Int32).map (fun c => c.toInt8.toInt32)) (n := 2) n0_b (Nat.le_trans (Nat.le_of_eq O.1.symm) O.2.1) E_b F_b_value F_b_coder V_d (O2.ext O.2) P5 rfl rfl (by decide) (by decide) (Own.mem2 hlx0 hlx1) rfl (by decide) (by decide)) e12 (by rw [hml]; rfl) [(.ref b)] (lenOf pd_10 rfl) rfl (Nat.le_of_ble_eq_true rfl) (hb hby at_110) (by decide) (by decide) 113 rfl ?_
        rintro _ T13 L13 X13 ⟨rfl, N13q, K13, -, Fc13, bt, k_bt, -, sz13, -, Fv13, Va13⟩
        have ne_b_bt : b ≠ bt := Nat.ne_of_lt (Nat.lt_of_lt_of_le (E_b.lt) sz13)
        have ne_d_bt : d ≠ bt := Nat.ne_of_lt (Nat.lt_of_lt_of_le (V_d.lt) sz13)
        have n0_bt : n0 ≤ bt := Nat.le_trans (Nat.le_of_eq O.1.symm) (Nat.le_trans O.2.1 sz13)
        have hs14 : ∀ yy ∈ ([b] : List Addr), Safe Z EL vm _ yy := (allS S_b all0)
        have CR' := CR.trans (CHr.keep K13 hs14 CR.1)
        replace S_b := Safe.keep K13 hs14 CR.1 S_b
        replace S_d := Safe.keep K13 hs14 CR.1 S_d
        replace CR := CR'
        replace hk := Nat.le_trans hk K13.1
        replace E_b := E_b.keep K13
        replace V_d := V_d.keep K13 (ninS (Ne.symm ne_b_d) nin0)
        replace O := O.keep K13 (allS n0_b all0)
        have N13 := Fr.app N12 N13q
        have F_b_value := Fv13
        have F_b_coder := Fc13
        have V_bt := Va13
        show Own.Go p e below _ (T13.setTop (mkF m 113 #[.val (.int p1), .val (.int p2), .val (.int p3), .val (.int p4), .val (.int p5), .val (.int (2 : Int32)), .val (.int x0), .val (.int x1), .val (.int x2), .val (.int x3), .unset, .unset] [(.ref b)]))
        refine Own.g_astore X13 hx #[.val (.int p1), .val (.int p2), .val (.int p3), .val (.int p4), .val (.int p5), .val (.int (2 : Int32)), .val (.int x0), .val (.int x1), .val (.int x2), .val (.int x3), .val (.ref b), .unset] (hb hby at_113) rfl rfl 115 rfl ?_
        refine Own.g_goto X13 hx (hb hby at_115) 186 (by decide) ?_
        exact st_186_2 hQ hx hZ hw hby hml hown hret hlocks hEL hS hk CR p1 p2 p3 p4 p5 x0 x1 x2 x3 G1 G3 b bt k_bt (X13.more (by decide) (by decide)) (rfl : T13.heap = T13.heap) N13 O E_b F_b_value F_b_coder V_bt   O2 P5 O4 rG3 hlx0 hlx1 hlx2 hlx3
    · intro q1
      subst q1
      refine Own.g_new X0 hx hZ hown (hw _ (List.mem_of_getElem? (i := 1) rfl)) (hw _ (List.mem_of_getElem? (i := 2) rfl)) (hw _ (List.mem_of_getElem? (i := 3) rfl)) e0 (hb hby at_67) (by decide) (by decide) 70 rfl ?_
      intro T4 h4 b X4 e4 E4 g4 E_b D4
      have n0_b : n0 ≤ b := Nat.le_trans (Nat.le_of_eq O.1.symm) (Nat.le_trans O.2.1 (Nat.le_of_eq g4.symm))
      have S_b : Safe Z EL vm hh b := Safe.new (Nat.le_of_eq g4.symm)
      replace S_b := S_b.ext E4 CR.1
      replace O := O.ext E4
      replace hk := Nat.le_trans hk E4.1
      replace CR := CR.trans (CHr.ext E4 CR.1)
      have F_b_value : Fld Z h4 b "java/lang/String" "value" "[B" .null := D4 (Or.inr (hw _ (List.mem_of_getElem? (i := 17) rfl))) (ty := (.array .byte)) (by decide)
      have F_b_coder : Fld Z h4 b "java/lang/String" "coder" "B" (.int (0 : Int32)) := D4 (Or.inr (hw _ (List.mem_of_getElem? (i := 18) rfl))) (ty := .byte) (by decide)
      refine Own.g_dup X4 hx (hb hby at_70) rfl 71 rfl ?_
      refine Own.g_iconst X4 hx (1 : Int32) (hb hby at_71) rfl 72 rfl ?_
      refine Own.g_newP X4 hx hZ (hw _ (List.mem_of_getElem? (i := 4) rfl)) e4 (hb hby at_72) (by decide) 1 (by decide) (by decide) (by decide) (by decide) 74 rfl .char rfl [(.int (0 : Int32))] (by intro i; first | rfl | (rcases i with _ | _ | _ | _ | _ | _ | _ | _ | _ | _ | _ | _ | _ | _ | _ | _ | _ | _ | _ | _ | _ | _ | _ | _ | i <;> rfl)) ?_
      intro T5 h5 d k_d X5 e5 E5 g5 V_d
      have ne_b_d : b ≠ d := Nat.ne_of_lt (Nat.lt_of_lt_of_le (E_b.lt) (Nat.le_of_eq g5.symm))
      have n0_d : n0 ≤ d := Nat.le_trans (Nat.le_of_eq O.1.symm) (Nat.le_trans O.2.1 (Nat.le_of_eq g5.symm))
      have S_d : Safe Z EL vm h4 d := Safe.new (Nat.le_of_eq g5.symm)
      replace S_b := S_b.ext E5 CR.1
      replace E_b := E_b.ext E5
      replace F_b_value := F_b_value.ext E5
      replace F_b_coder := F_b_coder.ext E5
      replace S_d := S_d.ext E5 CR.1
      replace O := O.ext E5
      replace hk := Nat.le_trans hk E5.1
      replace CR := CR.trans (CHr.ext E5 CR.1)
      change Arv Z h5 d k_d .char (1 : Int32) [(.int (0 : Int32))] (.int (0 : Int32)) at V_d
      refine Own.g_dup X5 hx (hb hby at_74) rfl 75 rfl ?_
      refine Own.g_iconst X5 hx (0 : Int32) (hb hby at_75) rfl 76 rfl ?_
      refine Own.g_iload X5 hx (hb hby at_76) rfl 78 rfl ?_
      refine Own.g_stC X5 hx hZ e5 V_d x0 (Own.nar_lat hlx0) (by decide) 0 rfl (Nat.le_of_ble_eq_true rfl) [(.int x0)] rfl (hb hby at_78) 79 rfl ?_
      clear V_d; intro T6 h6 X6 e6 W6 V_d
      have CR' := CR.trans (CHr.wr W6 S_d CR.1)
      replace S_b := Safe.wr W6 S_d CR.1 S_b
      replace S_d := Safe.wr W6 S_d CR.1 S_d
      replace CR := CR'
      replace hk := Nat.le_trans hk (Keep.of_wr W6).1
      replace E_b := E_b.wr W6
      replace F_b_value := F_b_value.other W6 (Or.inl ne_b_d)
      replace F_b_coder := F_b_coder.other W6 (Or.inl ne_b_d)
      replace O := O.wr W6 n0_d
      have N6 := Fr.snoc X6 N0 n0_d
      refine Own.g_special X6 hx (y := (⟨"java/lang/String", "<init>", "([C)V"⟩ : MethodName)) rfl hown (mvT hZ (hw _ (List.mem_of_getElem? (i := 5) rfl))) (mvT hZ (hw _ (List.mem_of_getElem? (i := 6) rfl))) (mvT hZ (hw _ (List.mem_of_getElem? (i := 7) rfl))) (by decide) (a := b) [.ref d] (StrChars.Road.backV (W := 1) hZ hws (kI := 4) (hw _ (List.mem_of_getElem? (i := 2) rfl)) (cs := ([x0] : List Int32)) (bs := ([x0] : List Int32).map (fun c => c.toInt8.toInt32)) (n := 1) n0_b (Nat.le_trans (Nat.le_of_eq O.1.symm) O.2.1) E_b F_b_value F_b_coder V_d (O2.ext O.2) P5 rfl rfl (by decide) (by decide) (Own.mem1 hlx0) rfl (by decide) (by decide)) e6 (by rw [hml]; rfl) [(.ref b)] (lenOf pd_10 rfl) rfl (Nat.le_of_ble_eq_true rfl) (hb hby at_79) (by decide) (by decide) 82 rfl ?_
      rintro _ T7 L7 X7 ⟨rfl, N7q, K7, -, Fc7, bt, k_bt, -, sz7, -, Fv7, Va7⟩
      have ne_b_bt : b ≠ bt := Nat.ne_of_lt (Nat.lt_of_lt_of_le (E_b.lt) sz7)
      have ne_d_bt : d ≠ bt := Nat.ne_of_lt (Nat.lt_of_lt_of_le (V_d.lt) sz7)
      have n0_bt : n0 ≤ bt := Nat.le_trans (Nat.le_of_eq O.1.symm) (Nat.le_trans O.2.1 sz7)
      have hs8 : ∀ yy ∈ ([b] : List Addr), Safe Z EL vm _ yy := (allS S_b all0)
      have CR' := CR.trans (CHr.keep K7 hs8 CR.1)
      replace S_b := Safe.keep K7 hs8 CR.1 S_b
      replace S_d := Safe.keep K7 hs8 CR.1 S_d
      replace CR := CR'
      replace hk := Nat.le_trans hk K7.1
      replace E_b := E_b.keep K7
      replace V_d := V_d.keep K7 (ninS (Ne.symm ne_b_d) nin0)
      replace O := O.keep K7 (allS n0_b all0)
      have N7 := Fr.app N6 N7q
      have F_b_value := Fv7
      have F_b_coder := Fc7
      have V_bt := Va7
      show Own.Go p e below _ (T7.setTop (mkF m 82 #[.val (.int p1), .val (.int p2), .val (.int p3), .val (.int p4), .val (.int p5), .val (.int (1 : Int32)), .val (.int x0), .val (.int x1), .val (.int x2), .val (.int x3), .unset, .unset] [(.ref b)]))
      refine Own.g_astore X7 hx #[.val (.int p1), .val (.int p2), .val (.int p3), .val (.int p4), .val (.int p5), .val (.int (1 : Int32)), .val (.int x0), .val (.int x1), .val (.int x2), .val (.int x3), .val (.ref b), .unset] (hb hby at_82) rfl rfl 84 rfl ?_
      refine Own.g_goto X7 hx (hb hby at_84) 186 (by decide) ?_
      exact st_186_1 hQ hx hZ hw hby hml hown hret hlocks hEL hS hk CR p1 p2 p3 p4 p5 x0 x1 x2 x3 G1 G3 b bt k_bt (X7.more (by decide) (by decide)) (rfl : T7.heap = T7.heap) N7 O E_b F_b_value F_b_coder V_bt   O2 P5 O4 rG3 hlx0 hlx1 hlx2 hlx3
  · intro q0
    subst q0
    refine Own.g_new X0 hx hZ hown (hw _ (List.mem_of_getElem? (i := 1) rfl)) (hw _ (List.mem_of_getElem? (i := 2) rfl)) (hw _ (List.mem_of_getElem? (i := 3) rfl)) e0 (hb hby at_46) (by decide) (by decide) 49 rfl ?_
    intro T1 h1 b X1 e1 E1 g1 E_b D1
    have n0_b : n0 ≤ b := Nat.le_trans (Nat.le_of_eq O.1.symm) (Nat.le_trans O.2.1 (Nat.le_of_eq g1.symm))
    have S_b : Safe Z EL vm hh b := Safe.new (Nat.le_of_eq g1.symm)
    replace S_b := S_b.ext E1 CR.1
    replace O := O.ext E1
    replace hk := Nat.le_trans hk E1.1
    replace CR := CR.trans (CHr.ext E1 CR.1)
    have F_b_value : Fld Z h1 b "java/lang/String" "value" "[B" .null := D1 (Or.inr (hw _ (List.mem_of_getElem? (i := 17) rfl))) (ty := (.array .byte)) (by decide)
    have F_b_coder : Fld Z h1 b "java/lang/String" "coder" "B" (.int (0 : Int32)) := D1 (Or.inr (hw _ (List.mem_of_getElem? (i := 18) rfl))) (ty := .byte) (by decide)
    refine Own.g_dup X1 hx (hb hby at_49) rfl 50 rfl ?_
    refine Own.g_iconst X1 hx (0 : Int32) (hb hby at_50) rfl 51 rfl ?_
    refine Own.g_newP X1 hx hZ (hw _ (List.mem_of_getElem? (i := 4) rfl)) e1 (hb hby at_51) (by decide) 0 (by decide) (by decide) (by decide) (by decide) 53 rfl .char rfl [] (fun i => by simp) ?_
    intro T2 h2 d k_d X2 e2 E2 g2 V_d
    have ne_b_d : b ≠ d := Nat.ne_of_lt (Nat.lt_of_lt_of_le (E_b.lt) (Nat.le_of_eq g2.symm))
    have n0_d : n0 ≤ d := Nat.le_trans (Nat.le_of_eq O.1.symm) (Nat.le_trans O.2.1 (Nat.le_of_eq g2.symm))
    have S_d : Safe Z EL vm h1 d := Safe.new (Nat.le_of_eq g2.symm)
    replace S_b := S_b.ext E2 CR.1
    replace E_b := E_b.ext E2
    replace F_b_value := F_b_value.ext E2
    replace F_b_coder := F_b_coder.ext E2
    replace S_d := S_d.ext E2 CR.1
    replace O := O.ext E2
    replace hk := Nat.le_trans hk E2.1
    replace CR := CR.trans (CHr.ext E2 CR.1)
    change Arv Z h2 d k_d .char (0 : Int32) [] (.int (0 : Int32)) at V_d
    refine Own.w_special X2 hx hZ (y := (⟨"java/lang/String", "<init>", "([C)V"⟩ : MethodName)) rfl hown (mvT hZ (hw _ (List.mem_of_getElem? (i := 5) rfl))) (mvT hZ (hw _ (List.mem_of_getElem? (i := 6) rfl))) (mvT hZ (hw _ (List.mem_of_getElem? (i := 7) rfl))) (by decide) (a := b) [.ref d] (Own.backW (W := 1) (SF := [b]) (rm_e3 l Z a0 hw [] b d k_d .null (.int 0) h2 n0 O n0_b V_d E_b F_b_value F_b_coder) hZ (hw _ (List.mem_of_getElem? (i := 7) rfl)) (hw _ (List.mem_of_getElem? (i := 3) rfl)) (by decide) (by decide) hEL CR.1 (allS ⟨E_b.lt, S_b⟩ all0)) e2 hS hk (by rw [hml]; rfl) [(.ref b)] (lenOf pd_10 rfl) rfl (Nat.le_of_ble_eq_true rfl) (hb hby at_53) (by decide) (by decide) 56 rfl ?_
    rintro _ T3 L3 X3 hS hZ hown C3 ⟨rfl, N3q, K3, GE, GC, bt, k_bt, nt_b, GV, GA⟩
    replace S_b := C3.safe E_b.lt S_b
    replace S_d := C3.safe V_d.lt S_d
    replace CR := CR.trans C3
    have hk : T3.heap.size ≤ T3.heap.size := Nat.le_refl _
    have N3 := Fr.app N0 N3q
    replace V_d := V_d.keep K3 (ninS (Ne.symm ne_b_d) nin0)
    replace O := O.keep K3 (allS n0_b all0)
    have E_b := GE
    have F_b_coder := GC
    have F_b_value := GV
    have V_bt := GA
    have ne_b_bt : b ≠ bt := Ne.symm nt_b
    show Own.Go p e below _ (T3.setTop (mkF m 56 #[.val (.int p1), .val (.int p2), .val (.int p3), .val (.int p4), .val (.int p5), .val (.int (0 : Int32)), .val (.int x0), .val (.int x1), .val (.int x2), .val (.int x3), .unset, .unset] [(.ref b)]))
    refine Own.g_astore X3 hx #[.val (.int p1), .val (.int p2), .val (.int p3), .val (.int p4), .val (.int p5), .val (.int (0 : Int32)), .val (.int x0), .val (.int x1), .val (.int x2), .val (.int x3), .val (.ref b), .unset] (hb hby at_56) rfl rfl 58 rfl ?_
    refine Own.g_goto X3 hx (hb hby at_58) 186 (by decide) ?_
    exact st_186_0 hQ hx hZ hw hby hml hown hret hlocks hEL hS hk CR p1 p2 p3 p4 p5 x0 x1 x2 x3 G1 G3 b bt k_bt (X3.more (by decide) (by decide)) (rfl : T3.heap = T3.heap) N3 O E_b F_b_value F_b_coder V_bt   O2 P5 O4 rG3 hlx0 hlx1 hlx2 hlx3
theorem ef_law (m : MethodId) (x0 : Int32) (x1 : Int32) (x2 : Int32) (x3 : Int32) (x4 : Int32) : entryFrame m #[.int x0, .int x1, .int x2, .int x3, .int x4] maxLocals = mkF m 0 #[.val (.int x0), .val (.int x1), .val (.int x2), .val (.int x3), .val (.int x4), .unset, .unset, .unset, .unset, .unset, .unset, .unset] [] := by first | (simp [entryFrame, mkF, argsToLocals, Value.category, maxLocals]; done) | rfl
def Q_law (Z : State) (p1 : Int32) (p2 : Int32) (p3 : Int32) (p4 : Int32) (p5 : Int32) (G1 : Int32) (G3 : Value) (h0 : Heap) (n0 : Nat) (v : Option Value) (h : Heap) (L : List Loc) : Prop := v = some (.int 1) ∧ Fr n0 L
set_option maxRecDepth 65536 in
set_option maxHeartbeats 40000000 in
theorem rm_law (l : Launch) (Z : State) (a0 : Array Value) (hw : ∀ d ∈ tables_1, d.before a0 Z = true) (ws : List Jvm.Cond) (p1 : Int32) (p2 : Int32) (p3 : Int32) (p4 : Int32) (p5 : Int32) (G1 : Int32) (G3 : Value) (h0 : Heap) (n0 : Nat) (O : Old Z n0 h0) (O2 : Sta Z Z.heap "java/lang/String" "COMPACT_STRINGS" "Z" (.int G1)) (P5 : ¬ (G1 = (0 : Int32))) (O4 : Sta Z Z.heap "jdk/internal/util/Preconditions" "SIOOBE_FORMATTER" "Ljava/util/function/BiFunction;" G3) (rG3 : G3.isRef = true) :
    MetFree l x (head1 (Jvm.Cond.code x code maxLocals ret :: ws) room_1) (fun aa U => aa = #[.int p1, .int p2, .int p3, .int p4, .int p5] ∧ Z.Warmed39 U.vm ∧ U.heap = h0 ∧ CHv Z EL U.vm h0 ∧ ∀ yy ∈ ([] : List Addr), Safe Z EL U.vm h0 yy) (fun _ _ _ _ _ => True) (fun _ U o U' => Own.EndW Z EL U (Q_law Z p1 p2 p3 p4 p5 G1 G3 h0 n0) 24 2176 o U') := by
  refine MetFree.of_bodySF (plainFor_of_name pn_1) hisR ?_
  intro p e s m args below meth c s₁ Bd hml0 hP hK
  obtain ⟨rfl, hZ, hh, hH, hSF⟩ := hP
  replace hZ : Z.Warmed39 (s.setVm s.vm).vm := hZ
  have hEL := own_EL hw
  have hx := Bd.exec
  have hby := Bd.bytes
  have hml : c.maxLocals = 12 := hml0
  have hown : (s.setVm s.vm).vm.findClass "com/example/bowerbird/bowerbird/model/NamesIsMetadataPrefixPinLaw" = some m.cls := findClass_of_methodNamed Bd.named
  have hnm := (name_of_methodNamed Bd.named Bd.method).1
  have hret := Bd.returns
  have hlocks : meth.locks = false := Bd.notSynchronized
  have X0 : Stand p l e room_1 (s.setVm s.vm) m #[.int p1, .int p2, .int p3, .int p4, .int p5] below meth c s₁ [] 0 0 := Stand.of_body Bd
  have e0 : s₁.heap = h0 := by rw [← hh, Bd.state]; rfl
  have N0 := Fr.nil n0
  have CR : CHr Z EL s.vm s.heap s.vm h0 := by rw [hh]; exact CHr.refl hH
  have hS : s.Since s.vm h0.size := (State.WarmedH.refl s).since _
  have hk : h0.size ≤ h0.size := Nat.le_refl _
  show Own.Go p e below (Own.EndW Z EL s (Q_law Z p1 p2 p3 p4 p5 G1 G3 h0 n0) 24 2176) (s₁.setTop (entryFrame m #[.int p1, .int p2, .int p3, .int p4, .int p5] maxLocals))
  refine Own.Go.eq (ef_law m p1 p2 p3 p4 p5) ?_
  have hQ : ∀ h L, Fr n0 L → Q_law Z p1 p2 p3 p4 p5 G1 G3 h0 n0 (some (.int 1)) h L := fun _ _ N => ⟨rfl, N⟩
  refine Own.g_iloadN X0 hx (hb hby at_0) rfl 1 rfl ?_
  refine Own.g_ldcI X0 hx hown (mvT hZ (hw _ (List.mem_of_getElem? (i := 0) rfl))) (hb hby at_1) 3 rfl ?_
  refine Own.g_iand X0 hx (hb hby at_3) 4 rfl ?_
  refine Own.g_iconst X0 hx (5 : Int32) (hb hby at_4) rfl 5 rfl ?_
  refine Own.g_irem X0 hx (hb hby at_5) (by decide) 6 rfl ?_
  refine Own.g_istore X0 hx #[.val (.int p1), .val (.int p2), .val (.int p3), .val (.int p4), .val (.int p5), .val (.int ((p1 &&& (2147483647 : Int32)) % (5 : Int32))), .unset, .unset, .unset, .unset, .unset, .unset] (hb hby at_6) rfl 8 rfl ?_
  obtain ⟨n, hn⟩ : ∃ z : Int32, z = ((p1 &&& (2147483647 : Int32)) % (5 : Int32)) := ⟨_, rfl⟩
  rw [← hn]
  have K_n : n = 0 ∨ n = 1 ∨ n = 2 ∨ n = 3 ∨ n = 4 := by rw [hn]; exact Own.mod5 _
  refine Own.g_iloadN X0 hx (hb hby at_8) rfl 9 rfl ?_
  refine Own.g_sipush X0 hx (255 : Int32) (hb hby at_9) rfl 12 rfl ?_
  refine Own.g_iand X0 hx (hb hby at_12) 13 rfl ?_
  refine Own.g_i2c X0 hx (hb hby at_13) 14 rfl ?_
  refine Own.g_istore X0 hx #[.val (.int p1), .val (.int p2), .val (.int p3), .val (.int p4), .val (.int p5), .val (.int n), .val (.int ((p2 &&& (255 : Int32)).toUInt32.toUInt16.toUInt32.toInt32)), .unset, .unset, .unset, .unset, .unset] (hb hby at_14) rfl 16 rfl ?_
  obtain ⟨x0, hx0⟩ : ∃ z : Int32, z = ((p2 &&& (255 : Int32)).toUInt32.toUInt16.toUInt32.toInt32) := ⟨_, rfl⟩
  rw [← hx0]
  have L_x0 : Own.Lat x0 := by rw [hx0]; exact Own.lat255c _
  refine Own.g_iloadN X0 hx (hb hby at_16) rfl 17 rfl ?_
  refine Own.g_sipush X0 hx (255 : Int32) (hb hby at_17) rfl 20 rfl ?_
  refine Own.g_iand X0 hx (hb hby at_20) 21 rfl ?_
  refine Own.g_i2c X0 hx (hb hby at_21) 22 rfl ?_
  refine Own.g_istore X0 hx #[.val (.int p1), .val (.int p2), .val (.int p3), .val (.int p4), .val (.int p5), .val (.int n), .val (.int x0), .val (.int ((p3 &&& (255 : Int32)).toUInt32.toUInt16.toUInt32.toInt32)), .unset, .unset, .unset, .unset] (hb hby at_22) rfl 24 rfl ?_
  obtain ⟨x1, hx1⟩ : ∃ z : Int32, z = ((p3 &&& (255 : Int32)).toUInt32.toUInt16.toUInt32.toInt32) := ⟨_, rfl⟩
  rw [← hx1]
  have L_x1 : Own.Lat x1 := by rw [hx1]; exact Own.lat255c _
  refine Own.g_iloadN X0 hx (hb hby at_24) rfl 25 rfl ?_
  refine Own.g_sipush X0 hx (255 : Int32) (hb hby at_25) rfl 28 rfl ?_
  refine Own.g_iand X0 hx (hb hby at_28) 29 rfl ?_
  refine Own.g_i2c X0 hx (hb hby at_29) 30 rfl ?_
  refine Own.g_istore X0 hx #[.val (.int p1), .val (.int p2), .val (.int p3), .val (.int p4), .val (.int p5), .val (.int n), .val (.int x0), .val (.int x1), .val (.int ((p4 &&& (255 : Int32)).toUInt32.toUInt16.toUInt32.toInt32)), .unset, .unset, .unset] (hb hby at_30) rfl 32 rfl ?_
  obtain ⟨x2, hx2⟩ : ∃ z : Int32, z = ((p4 &&& (255 : Int32)).toUInt32.toUInt16.toUInt32.toInt32) := ⟨_, rfl⟩
  rw [← hx2]
  have L_x2 : Own.Lat x2 := by rw [hx2]; exact Own.lat255c _
  refine Own.g_iload X0 hx (hb hby at_32) rfl 34 rfl ?_
  refine Own.g_sipush X0 hx (255 : Int32) (hb hby at_34) rfl 37 rfl ?_
  refine Own.g_iand X0 hx (hb hby at_37) 38 rfl ?_
  refine Own.g_i2c X0 hx (hb hby at_38) 39 rfl ?_
  refine Own.g_istore X0 hx #[.val (.int p1), .val (.int p2), .val (.int p3), .val (.int p4), .val (.int p5), .val (.int n), .val (.int x0), .val (.int x1), .val (.int x2), .val (.int ((p5 &&& (255 : Int32)).toUInt32.toUInt16.toUInt32.toInt32)), .unset, .unset] (hb hby at_39) rfl 41 rfl ?_
  obtain ⟨x3, hx3⟩ : ∃ z : Int32, z = ((p5 &&& (255 : Int32)).toUInt32.toUInt16.toUInt32.toInt32) := ⟨_, rfl⟩
  rw [← hx3]
  have L_x3 : Own.Lat x3 := by rw [hx3]; exact Own.lat255c _
  exact st_41 hQ hx hZ hw hby hml hown hret hlocks hEL hS hk CR p1 p2 p3 p4 p5 n x0 x1 x2 x3 G1 G3 X0 e0 N0 O    O2 P5 O4 rG3 L_x0 L_x1 L_x2 L_x3 K_n
set_option maxRecDepth 65536 in
set_option maxHeartbeats 40000000 in
theorem comes_1 {Post : Tables → Env → Array Value → State → Outcome → State → Prop} (hpost : ∀ tb e args s v u, (limb_1_1.after args s (.returned v) u = true ∧ limb_1_2.after args s (.returned v) u = true ∧ True) → ReturnedEndW s (.returned v) u (Jvm.fieldLocs frame_1_writes args s ++ Jvm.arrayLocs frame_1_arrays args s ++ Jvm.staticLocs frame_1_statics s) 24 2176 → Post tb e args s (.returned v) u) :
    ArmFor flags0 classFile x code maxLocals ret World_1 tables_1 room_1 Calls_1 rest_1 Pre_1 Post := by
  intro l hfl _ _ p e ha hc hk s m args below hf hA hF happ hP
  obtain ⟨hcalls, hrest, hpre⟩ := hP
  obtain ⟨-, -, -, hnamed, -, -, -, hat⟩ := (Spec.applies_iff hf).mp happ
  obtain ⟨hg, hn⟩ := and_e (Cond.before_iff.mp (show (Jvm.Cond.and given_1 narrow_1).before args s = true from hpre))
  obtain ⟨g0, q0⟩ := and_e hg
  obtain ⟨g1, q1⟩ := and_e q0
  obtain ⟨g2, q2⟩ := and_e q1
  obtain ⟨g3, q3⟩ := and_e q2
  obtain ⟨g4, q4⟩ := and_e q3
  obtain ⟨w0, w1, w2, w3, w4, rfl⟩ : ∃ w0 w1 w2 w3 w4 : Value, args = #[w0, w1, w2, w3, w4] := by
    have hs : args.size = 5 := by simpa [Cond.value, given_1] using g0
    obtain ⟨L⟩ := args
    match L, hs with
    | [w0, w1, w2, w3, w4], _ => exact ⟨w0, w1, w2, w3, w4, rfl⟩
  have hw := fun d (hd : d ∈ tables_1) => atoms_spec (ws := Jvm.Cond.code x code maxLocals ret :: tables_1) hat d (List.mem_cons_of_mem _ hd)
  have hfit : Fit s := fun {y c} hc i hi => by
    obtain ⟨ha, rfl⟩ := Array.getElem?_eq_some_iff.mp hc
    have q := List.all_eq_true.mp ((Array.all_eq_true_iff_forall_mem.mp hF) _ (Array.getElem_mem ha)) i (List.mem_range.mpr hi)
    simpa [Array.getElem?_eq_getElem hi] using q
  obtain ⟨hsets, hown0⟩ := atoms_of _ (rest_1_c_eq ▸ (show rest_1_c.before _ s = true from hrest))
  obtain ⟨i0, ei0⟩ := is_v g1
  obtain rfl : w0 = (.int i0) := Option.some.inj ei0
  obtain ⟨i1, ei1⟩ := is_v g2
  obtain rfl : w1 = (.int i1) := Option.some.inj ei1
  obtain ⟨i2, ei2⟩ := is_v g3
  obtain rfl : w2 = (.int i2) := Option.some.inj ei2
  obtain ⟨i3, ei3⟩ := is_v g4
  obtain rfl : w3 = (.int i3) := Option.some.inj ei3
  obtain ⟨i4, ei4⟩ := is_v q4
  obtain rfl : w4 = (.int i4) := Option.some.inj ei4
  have nz := not_v (Cond.before_iff.mp (hsets _ (List.mem_of_getElem? (i := 2) rfl)))
  obtain ⟨G1, eG1⟩ := is_v (Cond.before_iff.mp (hsets _ (List.mem_of_getElem? (i := 1) rfl)))
  have O2 : Sta s s.heap "java/lang/String" "COMPACT_STRINGS" "Z" (.int G1) := Sta.start eG1 (Or.inl (hsets _ (List.mem_of_getElem? (i := 0) rfl)))
  have P5 : ¬ (G1 = (0 : Int32)) := gotF (Cond.eq_ints eG1 (Term.int_eval (0))) nz
  obtain ⟨G3, eG3, rG3⟩ := isR_v (Cond.before_iff.mp (hsets _ (List.mem_of_getElem? (i := 8) rfl)))
  have O4 : Sta s s.heap "jdk/internal/util/Preconditions" "SIOOBE_FORMATTER" "Ljava/util/function/BiFunction;" G3 := Sta.start eG3 (Or.inl (hsets _ (List.mem_of_getElem? (i := 7) rfl)))
  have hCH : CHv s EL s.vm s.heap := CHv.start (own_EL hw) (fun p hp => hcalls.1 p hp) (hsets _ (List.mem_of_getElem? (i := 2) rfl)) (hw _ (List.mem_of_getElem? (i := 16) rfl)) (hw _ (List.mem_of_getElem? (i := 2) rfl))
  obtain ⟨n, o, h1, h2, h3, v, L, rfl, ⟨rfl, N⟩, -, hq⟩ := rm_law l s _ hw tables_1 i0 i1 i2 i3 i4 G1 G3 s.heap s.heap.size (Old.start s) O2 P5 O4 rG3 p e ha hc hk s m _ below hf ((Spec.applies_iff_loose hf).mp happ).1 ⟨rfl, State.Warmed39.refl s, rfl, hCH, all0⟩ trivial
  refine ⟨n, _, h1, h2, h3, hpost _ _ _ _ _ _ ⟨Cond.after_iff.mpr rfl, Cond.after_iff.mpr (eq_i res_at (Term.int_eval (1)) rfl), trivial⟩ ⟨hq.1, hq.2.1, hq.2.2.1, (hq.2.2.2.sift fun y hy => Or.inr (N y hy)).mono (by decide) (by decide)⟩⟩
theorem main_1_1 : Claimed_1_1 := comes_1 fun _ _ _ _ _ _ h hF => ⟨h.1, hF⟩
theorem main_1_2 : Claimed_1_2 := comes_1 fun _ _ _ _ _ _ h hF => ⟨h.2.1, hF⟩
end Jvm.Pilot.@@N@@
namespace Jvm.Pilot.@@N@@
open Jvm Jvm.ClassFile Sem Op Lib Jvm.Free Jvm.Stand Jvm.Pilot.@@N@@.Jvm.D
/-! MADE BY PROGRAM (witnessworld.py) out of the Statement's table words and the real class files: 21 classes; the members and pool entries that the words name. The judged class is class 1, her method 2. -/
namespace start1
open Jvm.ClassFile
def u (s : String) : CpInfo := .utf8 (stringToUtf16 s)
/-- a pool by its gaps: so many unusable entries, then the entry; so many at the end -/
def gap : Nat → List CpInfo → List CpInfo
  | 0, r => r
  | n + 1, r => .unusable :: gap n r
def poolList (es : List (Nat × CpInfo)) (last : Nat) : List CpInfo := es.foldr (fun e r => gap e.1 (e.2 :: r)) (gap last [])
def pool (es : List (Nat × CpInfo)) (last : Nat) : Array CpInfo := ⟨poolList es last⟩
def fileOf (pool : Array CpInfo) (this : Nat) (attrs : Array Attribute := #[]) (ms : Array MethodInfo := #[]) (fl : Nat := 33) (sup : Nat := 0) (ifs : Array Nat := #[]) (fds : Array FieldInfo := #[]) : ClassFile where
  minorVersion := 0
  majorVersion := 65
  constantPool := pool
  accessFlags := fl
  thisClass := this
  superClass := sup
  interfaces := ifs
  fields := fds
  methods := ms
  attributes := attrs
def plain (name : String) (sup : Option ClassId) : Class where
  name := name
  kind := .ordinary
  loader := none
  accessFlags := 33
  super := sup
  interfaces := #[]
  cf := none
  fields := #[]
  methods := #[]
  instanceTypes := #[]
  staticTypes := #[]
  resolved := #[]
  callSites := []
  init := .initialized
  statics := none
  mirror := none

def pool0 : Array CpInfo := pool [(5, u "<init>"), (0, u "()V"), (1, .class_ 10), (1, u "java/lang/Object")] 113

def k0c0 : Code := { maxStack := 0, maxLocals := 1, code := object_method_1_code, exceptionTable := #[], attributes := #[] }
def k0m0 : Method := { name := "<init>", desc := "()V", sig := { parameters := [], returnType := none }, accessFlags := 1, code := some k0c0 }
/-- java/lang/Object -/
def k0 : Class := { plain "java/lang/Object" none with
  accessFlags := 33
  interfaces := #[]
  cf := some (fileOf pool0 8 #[] #[{ accessFlags := 1, nameIndex := 5, descriptorIndex := 6, attributes := #[] }] 33 0 #[] #[])
  fields := #[]
  methods := #[k0m0]
  instanceTypes := #[]
  staticTypes := #[]
  resolved := Array.replicate 124 none
  statics := none }

def pool1 : Array CpInfo := pool [(2, .class_ 4), (1, u "java/lang/Object"), (0, u "<init>"), (0, u "()V"), (0, .integer 2147483647), (0, .class_ 9), (0, u "java/lang/String"), (0, .methodref 8 11), (0, .nameAndType 5 12), (0, u "([C)V"), (0, .methodref 14 15), (0, .class_ 16), (0, .nameAndType 17 18), (0, u "com/example/bowerbird/bowerbird/model/NamesIsMetadataPrefixPinLaw"), (0, u "ok"), (0, u "(I)Z"), (0, .methodref 20 21), (0, .class_ 22), (0, .nameAndType 23 24), (0, u "com/example/bowerbird/bowerbird/model/Names"), (0, u "isMetadataPrefix"), (0, u "(Ljava/lang/String;)Z"), (3, u "law"), (0, u "(IIIII)Z")] 2

def k1m0 : Method := { name := "<init>", desc := "()V", sig := { parameters := [], returnType := none }, accessFlags := 2, code := none }
def k1c1 : Code := { maxStack := 2, maxLocals := 1, code := method_2_code, exceptionTable := #[], attributes := #[] }
def k1m1 : Method := { name := "ok", desc := "(I)Z", sig := { parameters := [.int], returnType := some .boolean }, accessFlags := 10, code := some k1c1 }
def k1c2 : Code := { maxStack := 6, maxLocals := 12, code := code, exceptionTable := #[], attributes := #[] }
def k1m2 : Method := { name := "law", desc := "(IIIII)Z", sig := { parameters := [.int, .int, .int, .int, .int], returnType := some .boolean }, accessFlags := 9, code := some k1c2 }
/-- com/example/bowerbird/bowerbird/model/NamesIsMetadataPrefixPinLaw -/
def k1 : Class := { plain "com/example/bowerbird/bowerbird/model/NamesIsMetadataPrefixPinLaw" (some 0) with
  accessFlags := 49
  interfaces := #[]
  cf := some (fileOf pool1 14 #[] #[{ accessFlags := 2, nameIndex := 5, descriptorIndex := 6, attributes := #[] }, { accessFlags := 10, nameIndex := 17, descriptorIndex := 18, attributes := #[] }, { accessFlags := 9, nameIndex := 28, descriptorIndex := 29, attributes := #[] }] 49 2 #[] #[])
  fields := #[]
  methods := #[k1m0, k1m1, k1m2]
  instanceTypes := #[]
  staticTypes := #[]
  resolved := Array.replicate 32 none
  statics := none }

def pool2 : Array CpInfo := pool [(1, .class_ 2), (0, u "java/io/Serializable"), (0, .class_ 4), (0, u "java/lang/Object")] 2

/-- java/io/Serializable -/
def k2 : Class := { plain "java/io/Serializable" (some 0) with
  accessFlags := 1537
  interfaces := #[]
  cf := some (fileOf pool2 1 #[] #[] 1537 3 #[] #[])
  fields := #[]
  methods := #[]
  instanceTypes := #[]
  staticTypes := #[]
  resolved := Array.replicate 7 none
  statics := none }

def pool3 : Array CpInfo := pool [(1, .class_ 2), (0, u "java/lang/Comparable"), (0, .class_ 4), (0, u "java/lang/Object")] 7

/-- java/lang/Comparable -/
def k3 : Class := { plain "java/lang/Comparable" (some 0) with
  accessFlags := 1537
  interfaces := #[]
  cf := some (fileOf pool3 1 #[] #[] 1537 3 #[] #[])
  fields := #[]
  methods := #[]
  instanceTypes := #[]
  staticTypes := #[]
  resolved := Array.replicate 12 none
  statics := none }

def pool4 : Array CpInfo := pool [(2, .class_ 4), (1, u "java/lang/CharSequence"), (42, .class_ 48), (0, u "java/lang/CharSequence$1CodePointIterator"), (10, .class_ 60), (0, u "java/lang/CharSequence$1CharIterator"), (5, .class_ 67), (0, u "java/lang/Object")] 63

/-- java/lang/CharSequence -/
def k4 : Class := { plain "java/lang/CharSequence" (some 0) with
  accessFlags := 1537
  interfaces := #[]
  cf := some (fileOf pool4 2 #[.nestMembers #[47, 59]] #[] 1537 66 #[] #[])
  fields := #[]
  methods := #[]
  instanceTypes := #[]
  staticTypes := #[]
  resolved := Array.replicate 131 none
  statics := none }

def pool5 : Array CpInfo := pool [(1, .class_ 2), (0, u "java/lang/constant/Constable"), (0, .class_ 4), (0, u "java/lang/Object")] 6

/-- java/lang/constant/Constable -/
def k5 : Class := { plain "java/lang/constant/Constable" (some 0) with
  accessFlags := 1537
  interfaces := #[]
  cf := some (fileOf pool5 1 #[] #[] 1537 3 #[] #[])
  fields := #[]
  methods := #[]
  instanceTypes := #[]
  staticTypes := #[]
  resolved := Array.replicate 11 none
  statics := none }

def pool6 : Array CpInfo := pool [(1, .class_ 2), (0, u "java/lang/constant/ConstantDesc"), (0, .class_ 4), (0, u "java/lang/Object")] 32

/-- java/lang/constant/ConstantDesc -/
def k6 : Class := { plain "java/lang/constant/ConstantDesc" (some 0) with
  accessFlags := 1537
  interfaces := #[]
  cf := some (fileOf pool6 1 #[] #[] 1537 3 #[] #[])
  fields := #[]
  methods := #[]
  instanceTypes := #[]
  staticTypes := #[]
  resolved := Array.replicate 37 none
  statics := none }

def pool7 : Array CpInfo := pool [(1, .methodref 2 3), (0, .class_ 4), (0, .nameAndType 5 6), (0, u "java/lang/Object"), (0, u "<init>"), (0, u "()V"), (0, .string 8), (0, u ""), (0, .fieldref 10 11), (0, .class_ 12), (0, .nameAndType 13 14), (0, u "java/lang/String"), (0, u "value"), (0, u "[B"), (0, .fieldref 10 16), (0, .nameAndType 17 18), (0, u "coder"), (0, u "B"), (2, u "hash"), (0, u "I"), (2, u "hashIsZero"), (0, u "Z"), (0, .methodref 10 28), (0, .nameAndType 5 29), (0, u "([CIILjava/lang/Void;)V"), (8, .fieldref 10 39), (0, .nameAndType 40 26), (0, u "COMPACT_STRINGS"), (1, .class_ 44), (1, u "java/lang/StringUTF16"), (0, u "compress"), (1, .methodref 42 48), (0, .nameAndType 49 50), (0, u "coderFromArrayLen"), (0, u "([BI)B"), (56, .class_ 109), (1, u "java/lang/StringLatin1"), (32, u "()Z"), (34, .methodref 42 178), (0, .nameAndType 45 179), (0, u "([CII)[B"), (154, u "()I"), (0, .methodref 10 336), (0, .nameAndType 17 337), (0, u "()B"), (25, u "([BI)C"), (27, u "(II)V"), (35, u "(I)C"), (64, .methodref 10 493), (0, .nameAndType 494 142), (0, u "isLatin1"), (0, .methodref 107 496), (0, .nameAndType 497 363), (0, u "charAt"), (3, u "checkIndex"), (3, .methodref 10 506), (0, .nameAndType 507 334), (0, u "length"), (67, .class_ 576), (0, u "java/lang/CharSequence"), (22, u "CASE_INSENSITIVE_ORDER"), (0, u "Ljava/util/Comparator;"), (32, .methodref 10 634), (0, .nameAndType 635 636), (0, u "indexOf"), (0, u "(II)I"), (0, .methodref 107 638), (0, .nameAndType 635 639), (0, u "([BIII)I"), (125, u "(I)I"), (244, u "([C)V"), (42, .fieldref 1054 1055), (0, .class_ 1056), (0, .nameAndType 1057 1058), (0, u "jdk/internal/util/Preconditions"), (0, u "SIOOBE_FORMATTER"), (0, u "Ljava/util/function/BiFunction;"), (0, .methodref 1054 1060), (0, .nameAndType 501 1061), (0, u "(IILjava/util/function/BiFunction;)I"), (39, u "serialPersistentFields"), (0, u "[Ljava/io/ObjectStreamField;"), (0, .class_ 1104), (0, u "java/lang/String$CaseInsensitiveComparator"), (1, .class_ 1107), (0, u "java/io/Serializable"), (0, .class_ 1109), (0, u "java/lang/Comparable"), (0, .class_ 1111), (0, u "java/lang/constant/Constable"), (0, .class_ 1113), (0, u "java/lang/constant/ConstantDesc"), (2, u "serialVersionUID"), (0, u "J"), (3, u "REPL"), (0, u "C"), (2, u "LATIN1"), (1, u "UTF16")] 323

def k7m0 : Method := { name := "<init>", desc := "()V", sig := { parameters := [], returnType := none }, accessFlags := 1, code := none }
def k7c1 : Code := { maxStack := 5, maxLocals := 2, code := jdk_42_method_3_code, exceptionTable := #[], attributes := #[] }
def k7m1 : Method := { name := "<init>", desc := "([C)V", sig := { parameters := [(.array .char)], returnType := none }, accessFlags := 1, code := some k7c1 }
def k7c2 : Code := { maxStack := 2, maxLocals := 1, code := jdk_42_method_54_code, exceptionTable := #[], attributes := #[] }
def k7m2 : Method := { name := "length", desc := "()I", sig := { parameters := [], returnType := some .int }, accessFlags := 1, code := some k7c2 }
def k7c3 : Code := { maxStack := 2, maxLocals := 2, code := jdk_42_method_56_code, exceptionTable := #[], attributes := #[] }
def k7m3 : Method := { name := "charAt", desc := "(I)C", sig := { parameters := [.int], returnType := some .char }, accessFlags := 1, code := some k7c3 }
def k7c4 : Code := { maxStack := 3, maxLocals := 2, code := jdk_42_method_79_code, exceptionTable := #[], attributes := #[] }
def k7m4 : Method := { name := "indexOf", desc := "(I)I", sig := { parameters := [.int], returnType := some .int }, accessFlags := 1, code := some k7c4 }
def k7c5 : Code := { maxStack := 4, maxLocals := 3, code := jdk_42_method_80_code, exceptionTable := #[], attributes := #[] }
def k7m5 : Method := { name := "indexOf", desc := "(II)I", sig := { parameters := [.int, .int], returnType := some .int }, accessFlags := 1, code := some k7c5 }
def k7c6 : Code := { maxStack := 4, maxLocals := 6, code := jdk_42_method_149_code, exceptionTable := #[], attributes := #[] }
def k7m6 : Method := { name := "<init>", desc := "([CIILjava/lang/Void;)V", sig := { parameters := [(.array .char), .int, .int, (.object "java/lang/Void")], returnType := none }, accessFlags := 2, code := some k7c6 }
def k7c7 : Code := { maxStack := 1, maxLocals := 1, code := jdk_42_method_152_code, exceptionTable := #[], attributes := #[] }
def k7m7 : Method := { name := "coder", desc := "()B", sig := { parameters := [], returnType := some .byte }, accessFlags := 0, code := some k7c7 }
def k7c8 : Code := { maxStack := 1, maxLocals := 1, code := jdk_42_method_154_code, exceptionTable := #[], attributes := #[] }
def k7m8 : Method := { name := "isLatin1", desc := "()Z", sig := { parameters := [], returnType := some .boolean }, accessFlags := 0, code := some k7c8 }
def k7c9 : Code := { maxStack := 3, maxLocals := 2, code := jdk_42_method_155_code, exceptionTable := #[], attributes := #[] }
def k7m9 : Method := { name := "checkIndex", desc := "(II)V", sig := { parameters := [.int, .int], returnType := none }, accessFlags := 8, code := some k7c9 }
/-- java/lang/String -/
def k7 : Class := { plain "java/lang/String" (some 0) with
  accessFlags := 49
  interfaces := #[2, 3, 4, 5, 6]
  cf := some (fileOf pool7 10 #[.nestMembers #[1103]] #[{ accessFlags := 1, nameIndex := 5, descriptorIndex := 6, attributes := #[] }, { accessFlags := 1, nameIndex := 5, descriptorIndex := 1010, attributes := #[] }, { accessFlags := 1, nameIndex := 507, descriptorIndex := 334, attributes := #[] }, { accessFlags := 1, nameIndex := 497, descriptorIndex := 427, attributes := #[] }, { accessFlags := 1, nameIndex := 635, descriptorIndex := 765, attributes := #[] }, { accessFlags := 1, nameIndex := 635, descriptorIndex := 636, attributes := #[] }, { accessFlags := 2, nameIndex := 5, descriptorIndex := 29, attributes := #[] }, { accessFlags := 0, nameIndex := 17, descriptorIndex := 337, attributes := #[] }, { accessFlags := 0, nameIndex := 494, descriptorIndex := 142, attributes := #[] }, { accessFlags := 8, nameIndex := 501, descriptorIndex := 391, attributes := #[] }] 49 2 #[1106, 1108, 575, 1110, 1112] #[{ accessFlags := 18, nameIndex := 13, descriptorIndex := 14, attributes := #[] }, { accessFlags := 18, nameIndex := 17, descriptorIndex := 18, attributes := #[] }, { accessFlags := 2, nameIndex := 21, descriptorIndex := 22, attributes := #[] }, { accessFlags := 2, nameIndex := 25, descriptorIndex := 26, attributes := #[] }, { accessFlags := 26, nameIndex := 1116, descriptorIndex := 1117, attributes := #[] }, { accessFlags := 24, nameIndex := 40, descriptorIndex := 26, attributes := #[] }, { accessFlags := 26, nameIndex := 1101, descriptorIndex := 1102, attributes := #[] }, { accessFlags := 26, nameIndex := 1121, descriptorIndex := 1122, attributes := #[] }, { accessFlags := 25, nameIndex := 599, descriptorIndex := 600, attributes := #[] }, { accessFlags := 24, nameIndex := 1125, descriptorIndex := 18, attributes := #[] }, { accessFlags := 24, nameIndex := 1127, descriptorIndex := 18, attributes := #[] }])
  fields := #[{ name := "value", type := (.array .byte), accessFlags := 18, slot := 0, constantValue := 0 }, { name := "coder", type := .byte, accessFlags := 18, slot := 1, constantValue := 0 }, { name := "hash", type := .int, accessFlags := 2, slot := 2, constantValue := 0 }, { name := "hashIsZero", type := .boolean, accessFlags := 2, slot := 3, constantValue := 0 }, { name := "serialVersionUID", type := .long, accessFlags := 26, slot := 0, constantValue := 0 }, { name := "COMPACT_STRINGS", type := .boolean, accessFlags := 24, slot := 1, constantValue := 0 }, { name := "serialPersistentFields", type := (.array (.object "java/io/ObjectStreamField")), accessFlags := 26, slot := 2, constantValue := 0 }, { name := "REPL", type := .char, accessFlags := 26, slot := 3, constantValue := 0 }, { name := "CASE_INSENSITIVE_ORDER", type := (.object "java/util/Comparator"), accessFlags := 25, slot := 4, constantValue := 0 }, { name := "LATIN1", type := .byte, accessFlags := 24, slot := 5, constantValue := 0 }, { name := "UTF16", type := .byte, accessFlags := 24, slot := 6, constantValue := 0 }]
  methods := #[k7m0, k7m1, k7m2, k7m3, k7m4, k7m5, k7m6, k7m7, k7m8, k7m9]
  instanceTypes := #[(.array .byte), .byte, .int, .boolean]
  staticTypes := #[.long, .boolean, (.array (.object "java/io/ObjectStreamField")), .char, (.object "java/util/Comparator"), .byte, .byte]
  resolved := Array.replicate 1451 none
  statics := some 0 }

def pool8 : Array CpInfo := pool [(2, .class_ 4), (1, u "java/lang/Object"), (0, u "<init>"), (0, u "()V"), (0, .methodref 8 9), (0, .class_ 10), (0, .nameAndType 11 12), (0, u "java/lang/String"), (0, u "length"), (0, u "()I"), (0, .class_ 14), (0, u "com/example/bowerbird/bowerbird/model/Names"), (0, .methodref 13 16), (0, .nameAndType 17 18), (0, u "isName"), (0, u "(Ljava/lang/String;II)Z"), (2, u "indexOf"), (1, .methodref 8 24), (0, .nameAndType 25 26), (0, u "charAt"), (0, u "(I)C"), (0, .string 28), (0, u "-_.!~*'()"), (0, .methodref 8 30), (0, .nameAndType 21 31), (0, u "(I)I"), (0, u "MAX_LENGTH"), (0, u "I"), (4, u "isMetadataPrefix"), (0, u "(Ljava/lang/String;)Z")] 4

def k8m0 : Method := { name := "<init>", desc := "()V", sig := { parameters := [], returnType := none }, accessFlags := 2, code := none }
def k8c1 : Code := { maxStack := 3, maxLocals := 1, code := prog_11_method_2_code, exceptionTable := #[], attributes := #[] }
def k8m1 : Method := { name := "isMetadataPrefix", desc := "(Ljava/lang/String;)Z", sig := { parameters := [(.object "java/lang/String")], returnType := some .boolean }, accessFlags := 9, code := some k8c1 }
def k8c2 : Code := { maxStack := 2, maxLocals := 6, code := prog_11_method_4_code, exceptionTable := #[], attributes := #[] }
def k8m2 : Method := { name := "isName", desc := "(Ljava/lang/String;II)Z", sig := { parameters := [(.object "java/lang/String"), .int, .int], returnType := some .boolean }, accessFlags := 10, code := some k8c2 }
/-- com/example/bowerbird/bowerbird/model/Names -/
def k8 : Class := { plain "com/example/bowerbird/bowerbird/model/Names" (some 0) with
  accessFlags := 33
  interfaces := #[]
  cf := some (fileOf pool8 13 #[] #[{ accessFlags := 2, nameIndex := 5, descriptorIndex := 6, attributes := #[] }, { accessFlags := 9, nameIndex := 38, descriptorIndex := 39, attributes := #[] }, { accessFlags := 10, nameIndex := 17, descriptorIndex := 18, attributes := #[] }] 33 2 #[] #[{ accessFlags := 25, nameIndex := 32, descriptorIndex := 33, attributes := #[] }])
  fields := #[{ name := "MAX_LENGTH", type := .int, accessFlags := 25, slot := 0, constantValue := 0 }]
  methods := #[k8m0, k8m1, k8m2]
  instanceTypes := #[]
  staticTypes := #[.int]
  resolved := Array.replicate 44 none
  statics := none }

def pool9 : Array CpInfo := pool [(6, .class_ 8), (1, u "java/lang/Object"), (0, u "<init>"), (0, u "()V"), (1, .class_ 14), (1, u "java/lang/StringUTF16"), (31, u "$assertionsDisabled"), (0, u "Z"), (13, u "HI_BYTE_SHIFT"), (0, u "I"), (2, u "LO_BYTE_SHIFT"), (49, .methodref 12 116), (0, .nameAndType 117 118), (0, u "compress"), (0, u "([CI[BII)I"), (3, u "([CII)[B"), (138, u "coderFromArrayLen"), (0, u "([BI)B"), (106, .class_ 371), (1, u "java/lang/StringUTF16$LinesSpliterator"), (58, u "MAX_LENGTH"), (196, .class_ 628), (0, u "java/lang/StringUTF16$CodePointsSpliterator"), (0, .class_ 630), (0, u "java/lang/StringUTF16$CharsSpliterator")] 4

def k9m0 : Method := { name := "<init>", desc := "()V", sig := { parameters := [], returnType := none }, accessFlags := 0, code := none }
def k9c1 : Code := { maxStack := 2, maxLocals := 2, code := jdk_52_method_15_code, exceptionTable := #[], attributes := #[] }
def k9m1 : Method := { name := "coderFromArrayLen", desc := "([BI)B", sig := { parameters := [(.array .byte), .int], returnType := some .byte }, accessFlags := 8, code := some k9c1 }
def k9c2 : Code := { maxStack := 5, maxLocals := 6, code := jdk_52_method_16_code, exceptionTable := #[], attributes := #[] }
def k9m2 : Method := { name := "compress", desc := "([CII)[B", sig := { parameters := [(.array .char), .int, .int], returnType := some (.array .byte) }, accessFlags := 9, code := some k9c2 }
def k9c3 : Code := { maxStack := 3, maxLocals := 7, code := jdk_52_method_21_code, exceptionTable := #[], attributes := #[] }
def k9m3 : Method := { name := "compress", desc := "([CI[BII)I", sig := { parameters := [(.array .char), .int, (.array .byte), .int, .int], returnType := some .int }, accessFlags := 9, code := some k9c3 }
/-- java/lang/StringUTF16 -/
def k9 : Class := { plain "java/lang/StringUTF16" (some 0) with
  accessFlags := 48
  interfaces := #[]
  cf := some (fileOf pool9 12 #[.nestMembers #[627, 629, 369]] #[{ accessFlags := 0, nameIndex := 9, descriptorIndex := 10, attributes := #[] }, { accessFlags := 8, nameIndex := 261, descriptorIndex := 262, attributes := #[] }, { accessFlags := 9, nameIndex := 117, descriptorIndex := 122, attributes := #[] }, { accessFlags := 9, nameIndex := 117, descriptorIndex := 118, attributes := #[] }] 48 6 #[] #[{ accessFlags := 26, nameIndex := 61, descriptorIndex := 62, attributes := #[] }, { accessFlags := 26, nameIndex := 65, descriptorIndex := 62, attributes := #[] }, { accessFlags := 24, nameIndex := 430, descriptorIndex := 62, attributes := #[] }, { accessFlags := 4120, nameIndex := 46, descriptorIndex := 47, attributes := #[] }])
  fields := #[{ name := "HI_BYTE_SHIFT", type := .int, accessFlags := 26, slot := 0, constantValue := 0 }, { name := "LO_BYTE_SHIFT", type := .int, accessFlags := 26, slot := 1, constantValue := 0 }, { name := "MAX_LENGTH", type := .int, accessFlags := 24, slot := 2, constantValue := 0 }, { name := "$assertionsDisabled", type := .boolean, accessFlags := 4120, slot := 3, constantValue := 0 }]
  methods := #[k9m0, k9m1, k9m2, k9m3]
  instanceTypes := #[]
  staticTypes := #[.int, .int, .int, .boolean]
  resolved := Array.replicate 635 none
  statics := none }

def pool10 : Array CpInfo := pool [(1, .class_ 2), (0, u "java/lang/String"), (1, .class_ 6), (1, u "java/lang/Object"), (0, u "<init>"), (0, u "()V"), (0, .methodref 1 10), (0, .nameAndType 11 12), (0, u "checkIndex"), (0, u "(II)V"), (1, .class_ 16), (1, u "java/lang/StringLatin1"), (21, .methodref 39 40), (0, .class_ 41), (0, .nameAndType 42 43), (0, u "java/lang/Math"), (0, u "min"), (0, u "(II)I"), (9, u "([BI)C"), (34, .methodref 14 89), (0, .nameAndType 90 91), (0, u "canEncode"), (0, u "(I)Z"), (0, .methodref 39 93), (0, .nameAndType 94 43), (0, u "max"), (0, .methodref 14 96), (0, .nameAndType 97 98), (0, u "indexOfChar"), (0, u "([BIII)I"), (2, u "indexOf"), (19, u "$assertionsDisabled"), (0, u "Z"), (98, .class_ 223), (1, u "java/lang/StringLatin1$LinesSpliterator"), (28, u "charAt"), (137, .class_ 391), (0, u "java/lang/StringLatin1$CharsSpliterator")] 3

def k10m0 : Method := { name := "<init>", desc := "()V", sig := { parameters := [], returnType := none }, accessFlags := 0, code := none }
def k10c1 : Code := { maxStack := 2, maxLocals := 2, code := jdk_43_method_2_code, exceptionTable := #[], attributes := #[] }
def k10m1 : Method := { name := "charAt", desc := "([BI)C", sig := { parameters := [(.array .byte), .int], returnType := some .char }, accessFlags := 9, code := some k10c1 }
def k10c2 : Code := { maxStack := 2, maxLocals := 1, code := jdk_43_method_4_code, exceptionTable := #[], attributes := #[] }
def k10m2 : Method := { name := "canEncode", desc := "(I)Z", sig := { parameters := [.int], returnType := some .boolean }, accessFlags := 9, code := some k10c2 }
def k10c3 : Code := { maxStack := 4, maxLocals := 4, code := jdk_43_method_22_code, exceptionTable := #[], attributes := #[] }
def k10m3 : Method := { name := "indexOf", desc := "([BIII)I", sig := { parameters := [(.array .byte), .int, .int, .int], returnType := some .int }, accessFlags := 9, code := some k10c3 }
def k10c4 : Code := { maxStack := 2, maxLocals := 6, code := jdk_43_method_23_code, exceptionTable := #[], attributes := #[] }
def k10m4 : Method := { name := "indexOfChar", desc := "([BIII)I", sig := { parameters := [(.array .byte), .int, .int, .int], returnType := some .int }, accessFlags := 10, code := some k10c4 }
/-- java/lang/StringLatin1 -/
def k10 : Class := { plain "java/lang/StringLatin1" (some 0) with
  accessFlags := 48
  interfaces := #[]
  cf := some (fileOf pool10 14 #[.nestMembers #[390, 221]] #[{ accessFlags := 0, nameIndex := 7, descriptorIndex := 8, attributes := #[] }, { accessFlags := 9, nameIndex := 252, descriptorIndex := 53, attributes := #[] }, { accessFlags := 9, nameIndex := 90, descriptorIndex := 91, attributes := #[] }, { accessFlags := 9, nameIndex := 101, descriptorIndex := 98, attributes := #[] }, { accessFlags := 10, nameIndex := 97, descriptorIndex := 98, attributes := #[] }] 48 4 #[] #[{ accessFlags := 4120, nameIndex := 121, descriptorIndex := 122, attributes := #[] }])
  fields := #[{ name := "$assertionsDisabled", type := .boolean, accessFlags := 4120, slot := 0, constantValue := 0 }]
  methods := #[k10m0, k10m1, k10m2, k10m3, k10m4]
  instanceTypes := #[]
  staticTypes := #[.boolean]
  resolved := Array.replicate 395 none
  statics := none }

def pool11 : Array CpInfo := pool [(2, .class_ 4), (1, u "java/lang/Object"), (0, u "<init>"), (0, u "()V"), (17, .class_ 26), (1, u "jdk/internal/util/Preconditions"), (6, u "checkIndex"), (21, .class_ 56), (0, u "jdk/internal/util/Preconditions$4"), (57, .class_ 115), (0, u "jdk/internal/util/Preconditions$1"), (7, u "SIOOBE_FORMATTER"), (0, u "Ljava/util/function/BiFunction;"), (0, .class_ 126), (0, u "jdk/internal/util/Preconditions$2"), (3, u "AIOOBE_FORMATTER"), (0, .class_ 132), (0, u "jdk/internal/util/Preconditions$3"), (3, u "IOOBE_FORMATTER"), (41, u "(IILjava/util/function/BiFunction;)I")] 15

def k11m0 : Method := { name := "<init>", desc := "()V", sig := { parameters := [], returnType := none }, accessFlags := 1, code := none }
def k11c1 : Code := { maxStack := 3, maxLocals := 3, code := jdk_41_method_11_code, exceptionTable := #[], attributes := #[] }
def k11m1 : Method := { name := "checkIndex", desc := "(IILjava/util/function/BiFunction;)I", sig := { parameters := [.int, .int, (.object "java/util/function/BiFunction")], returnType := some .int }, accessFlags := 9, code := some k11c1 }
/-- jdk/internal/util/Preconditions -/
def k11 : Class := { plain "jdk/internal/util/Preconditions" (some 0) with
  accessFlags := 33
  interfaces := #[]
  cf := some (fileOf pool11 24 #[.nestMembers #[55, 131, 125, 114]] #[{ accessFlags := 1, nameIndex := 5, descriptorIndex := 6, attributes := #[] }, { accessFlags := 9, nameIndex := 33, descriptorIndex := 178, attributes := #[] }] 33 2 #[] #[{ accessFlags := 25, nameIndex := 123, descriptorIndex := 124, attributes := #[] }, { accessFlags := 25, nameIndex := 130, descriptorIndex := 124, attributes := #[] }, { accessFlags := 25, nameIndex := 136, descriptorIndex := 124, attributes := #[] }])
  fields := #[{ name := "SIOOBE_FORMATTER", type := (.object "java/util/function/BiFunction"), accessFlags := 25, slot := 0, constantValue := 0 }, { name := "AIOOBE_FORMATTER", type := (.object "java/util/function/BiFunction"), accessFlags := 25, slot := 1, constantValue := 0 }, { name := "IOOBE_FORMATTER", type := (.object "java/util/function/BiFunction"), accessFlags := 25, slot := 2, constantValue := 0 }]
  methods := #[k11m0, k11m1]
  instanceTypes := #[]
  staticTypes := #[(.object "java/util/function/BiFunction"), (.object "java/util/function/BiFunction"), (.object "java/util/function/BiFunction")]
  resolved := Array.replicate 194 none
  statics := some 1 }

def pool12 : Array CpInfo := pool [(1, .class_ 2), (0, u "java/lang/Math"), (1, .class_ 6), (1, u "java/lang/Object"), (0, u "<init>"), (0, u "()V"), (89, .class_ 100), (1, u "java/lang/Math$RandomNumberGeneratorHolder"), (71, u "negativeZeroFloatBits"), (0, u "J"), (2, u "negativeZeroDoubleBits"), (21, u "max"), (2, u "min"), (43, u "$assertionsDisabled"), (0, u "Z"), (88, u "(II)I"), (2, u "twoToTheDoubleScaleDown"), (0, u "D"), (4, u "twoToTheDoubleScaleUp"), (9, u "E"), (3, u "PI"), (2, u "TAU"), (2, u "DEGREES_TO_RADIANS"), (0, u "RADIANS_TO_DEGREES")] 94

def k12m0 : Method := { name := "<init>", desc := "()V", sig := { parameters := [], returnType := none }, accessFlags := 2, code := none }
def k12c1 : Code := { maxStack := 2, maxLocals := 2, code := jdk_29_method_65_code, exceptionTable := #[], attributes := #[] }
def k12m1 : Method := { name := "max", desc := "(II)I", sig := { parameters := [.int, .int], returnType := some .int }, accessFlags := 9, code := some k12c1 }
def k12c2 : Code := { maxStack := 2, maxLocals := 2, code := jdk_29_method_69_code, exceptionTable := #[], attributes := #[] }
def k12m2 : Method := { name := "min", desc := "(II)I", sig := { parameters := [.int, .int], returnType := some .int }, accessFlags := 9, code := some k12c2 }
/-- java/lang/Math -/
def k12 : Class := { plain "java/lang/Math" (some 0) with
  accessFlags := 49
  interfaces := #[]
  cf := some (fileOf pool12 1 #[.nestMembers #[98]] #[{ accessFlags := 2, nameIndex := 7, descriptorIndex := 8, attributes := #[] }, { accessFlags := 9, nameIndex := 198, descriptorIndex := 335, attributes := #[] }, { accessFlags := 9, nameIndex := 201, descriptorIndex := 335, attributes := #[] }] 49 4 #[] #[{ accessFlags := 25, nameIndex := 354, descriptorIndex := 339, attributes := #[] }, { accessFlags := 25, nameIndex := 358, descriptorIndex := 339, attributes := #[] }, { accessFlags := 25, nameIndex := 361, descriptorIndex := 339, attributes := #[] }, { accessFlags := 26, nameIndex := 364, descriptorIndex := 339, attributes := #[] }, { accessFlags := 26, nameIndex := 365, descriptorIndex := 339, attributes := #[] }, { accessFlags := 26, nameIndex := 172, descriptorIndex := 173, attributes := #[] }, { accessFlags := 26, nameIndex := 176, descriptorIndex := 173, attributes := #[] }, { accessFlags := 8, nameIndex := 344, descriptorIndex := 339, attributes := #[] }, { accessFlags := 8, nameIndex := 338, descriptorIndex := 339, attributes := #[] }, { accessFlags := 4120, nameIndex := 245, descriptorIndex := 246, attributes := #[] }])
  fields := #[{ name := "E", type := .double, accessFlags := 25, slot := 0, constantValue := 0 }, { name := "PI", type := .double, accessFlags := 25, slot := 1, constantValue := 0 }, { name := "TAU", type := .double, accessFlags := 25, slot := 2, constantValue := 0 }, { name := "DEGREES_TO_RADIANS", type := .double, accessFlags := 26, slot := 3, constantValue := 0 }, { name := "RADIANS_TO_DEGREES", type := .double, accessFlags := 26, slot := 4, constantValue := 0 }, { name := "negativeZeroFloatBits", type := .long, accessFlags := 26, slot := 5, constantValue := 0 }, { name := "negativeZeroDoubleBits", type := .long, accessFlags := 26, slot := 6, constantValue := 0 }, { name := "twoToTheDoubleScaleUp", type := .double, accessFlags := 8, slot := 7, constantValue := 0 }, { name := "twoToTheDoubleScaleDown", type := .double, accessFlags := 8, slot := 8, constantValue := 0 }, { name := "$assertionsDisabled", type := .boolean, accessFlags := 4120, slot := 9, constantValue := 0 }]
  methods := #[k12m0, k12m1, k12m2]
  instanceTypes := #[]
  staticTypes := #[.double, .double, .double, .double, .double, .long, .long, .double, .double, .boolean]
  resolved := Array.replicate 460 none
  statics := none }

def pool13 : Array CpInfo := pool [(9, u "<init>"), (6, .class_ 18), (1, u "java/lang/Object"), (0, u "()V"), (1, .class_ 23), (1, u "jdk/internal/util/ArraysSupport"), (0, u "LOG2_ARRAY_LONG_INDEX_SCALE"), (0, u "I"), (2, u "U"), (0, u "Ljdk/internal/misc/Unsafe;"), (8, u "BIG_ENDIAN"), (0, u "Z"), (8, u "LOG2_BYTE_BIT_SIZE"), (4, u "LOG2_ARRAY_INT_INDEX_SCALE"), (54, u "JLA"), (0, u "Ljdk/internal/access/JavaLangAccess;"), (11, u "LOG2_ARRAY_BOOLEAN_INDEX_SCALE"), (9, u "LOG2_ARRAY_BYTE_INDEX_SCALE"), (5, u "LOG2_ARRAY_CHAR_INDEX_SCALE"), (5, u "LOG2_ARRAY_SHORT_INDEX_SCALE"), (18, u "LOG2_ARRAY_FLOAT_INDEX_SCALE"), (24, u "LOG2_ARRAY_DOUBLE_INDEX_SCALE"), (89, u "T_BOOLEAN"), (2, u "T_CHAR"), (1, u "T_FLOAT"), (1, u "T_DOUBLE"), (1, u "T_BYTE"), (1, u "T_SHORT"), (1, u "T_INT"), (1, u "T_LONG"), (1, u "SOFT_MAX_ARRAY_LENGTH")] 83

def k13m0 : Method := { name := "<init>", desc := "()V", sig := { parameters := [], returnType := none }, accessFlags := 2, code := none }
/-- jdk/internal/util/ArraysSupport -/
def k13 : Class := { plain "jdk/internal/util/ArraysSupport" (some 0) with
  accessFlags := 33
  interfaces := #[]
  cf := some (fileOf pool13 21 #[] #[{ accessFlags := 2, nameIndex := 9, descriptorIndex := 19, attributes := #[] }] 33 16 #[] #[{ accessFlags := 24, nameIndex := 28, descriptorIndex := 29, attributes := #[] }, { accessFlags := 26, nameIndex := 38, descriptorIndex := 39, attributes := #[] }, { accessFlags := 25, nameIndex := 121, descriptorIndex := 25, attributes := #[] }, { accessFlags := 25, nameIndex := 131, descriptorIndex := 25, attributes := #[] }, { accessFlags := 25, nameIndex := 137, descriptorIndex := 25, attributes := #[] }, { accessFlags := 25, nameIndex := 143, descriptorIndex := 25, attributes := #[] }, { accessFlags := 25, nameIndex := 53, descriptorIndex := 25, attributes := #[] }, { accessFlags := 25, nameIndex := 24, descriptorIndex := 25, attributes := #[] }, { accessFlags := 25, nameIndex := 162, descriptorIndex := 25, attributes := #[] }, { accessFlags := 25, nameIndex := 187, descriptorIndex := 25, attributes := #[] }, { accessFlags := 26, nameIndex := 48, descriptorIndex := 25, attributes := #[] }, { accessFlags := 25, nameIndex := 277, descriptorIndex := 25, attributes := #[] }, { accessFlags := 25, nameIndex := 280, descriptorIndex := 25, attributes := #[] }, { accessFlags := 25, nameIndex := 282, descriptorIndex := 25, attributes := #[] }, { accessFlags := 25, nameIndex := 284, descriptorIndex := 25, attributes := #[] }, { accessFlags := 25, nameIndex := 286, descriptorIndex := 25, attributes := #[] }, { accessFlags := 25, nameIndex := 288, descriptorIndex := 25, attributes := #[] }, { accessFlags := 25, nameIndex := 290, descriptorIndex := 25, attributes := #[] }, { accessFlags := 25, nameIndex := 292, descriptorIndex := 25, attributes := #[] }, { accessFlags := 26, nameIndex := 108, descriptorIndex := 109, attributes := #[] }, { accessFlags := 25, nameIndex := 294, descriptorIndex := 25, attributes := #[] }])
  fields := #[{ name := "U", type := (.object "jdk/internal/misc/Unsafe"), accessFlags := 24, slot := 0, constantValue := 0 }, { name := "BIG_ENDIAN", type := .boolean, accessFlags := 26, slot := 1, constantValue := 0 }, { name := "LOG2_ARRAY_BOOLEAN_INDEX_SCALE", type := .int, accessFlags := 25, slot := 2, constantValue := 0 }, { name := "LOG2_ARRAY_BYTE_INDEX_SCALE", type := .int, accessFlags := 25, slot := 3, constantValue := 0 }, { name := "LOG2_ARRAY_CHAR_INDEX_SCALE", type := .int, accessFlags := 25, slot := 4, constantValue := 0 }, { name := "LOG2_ARRAY_SHORT_INDEX_SCALE", type := .int, accessFlags := 25, slot := 5, constantValue := 0 }, { name := "LOG2_ARRAY_INT_INDEX_SCALE", type := .int, accessFlags := 25, slot := 6, constantValue := 0 }, { name := "LOG2_ARRAY_LONG_INDEX_SCALE", type := .int, accessFlags := 25, slot := 7, constantValue := 0 }, { name := "LOG2_ARRAY_FLOAT_INDEX_SCALE", type := .int, accessFlags := 25, slot := 8, constantValue := 0 }, { name := "LOG2_ARRAY_DOUBLE_INDEX_SCALE", type := .int, accessFlags := 25, slot := 9, constantValue := 0 }, { name := "LOG2_BYTE_BIT_SIZE", type := .int, accessFlags := 26, slot := 10, constantValue := 0 }, { name := "T_BOOLEAN", type := .int, accessFlags := 25, slot := 11, constantValue := 0 }, { name := "T_CHAR", type := .int, accessFlags := 25, slot := 12, constantValue := 0 }, { name := "T_FLOAT", type := .int, accessFlags := 25, slot := 13, constantValue := 0 }, { name := "T_DOUBLE", type := .int, accessFlags := 25, slot := 14, constantValue := 0 }, { name := "T_BYTE", type := .int, accessFlags := 25, slot := 15, constantValue := 0 }, { name := "T_SHORT", type := .int, accessFlags := 25, slot := 16, constantValue := 0 }, { name := "T_INT", type := .int, accessFlags := 25, slot := 17, constantValue := 0 }, { name := "T_LONG", type := .int, accessFlags := 25, slot := 18, constantValue := 0 }, { name := "JLA", type := (.object "jdk/internal/access/JavaLangAccess"), accessFlags := 26, slot := 19, constantValue := 0 }, { name := "SOFT_MAX_ARRAY_LENGTH", type := .int, accessFlags := 25, slot := 20, constantValue := 0 }]
  methods := #[k13m0]
  instanceTypes := #[]
  staticTypes := #[(.object "jdk/internal/misc/Unsafe"), .boolean, .int, .int, .int, .int, .int, .int, .int, .int, .int, .int, .int, .int, .int, .int, .int, .int, .int, (.object "jdk/internal/access/JavaLangAccess"), .int]
  resolved := Array.replicate 378 none
  statics := none }

def pool14 : Array CpInfo := pool [(1, u "java/lang/Cloneable"), (0, .class_ 1), (0, u "java/lang/Object"), (0, .class_ 3)] 3

/-- java/lang/Cloneable -/
def k14 : Class := { plain "java/lang/Cloneable" (some 0) with
  accessFlags := 1537
  interfaces := #[]
  cf := some (fileOf pool14 2 #[] #[] 1537 4 #[] #[])
  fields := #[]
  methods := #[]
  instanceTypes := #[]
  staticTypes := #[]
  resolved := Array.replicate 8 none
  statics := none }

/-- the primitive byte -/
def k15 : Class := { plain "byte" none with kind := .primitive 'B', accessFlags := 0x411 }
/-- [B -/
def k16 : Class := { plain "[B" (some 0) with kind := .array 15 .byte, interfaces := #[14, 2], accessFlags := 1041 }

/-- the primitive char -/
def k17 : Class := { plain "char" none with kind := .primitive 'C', accessFlags := 0x411 }
/-- [C -/
def k18 : Class := { plain "[C" (some 0) with kind := .array 17 .char, interfaces := #[14, 2], accessFlags := 1041 }

/-- the primitive int -/
def k19 : Class := { plain "int" none with kind := .primitive 'I', accessFlags := 0x411 }
/-- [I -/
def k20 : Class := { plain "[I" (some 0) with kind := .array 19 .int, interfaces := #[14, 2], accessFlags := 1041 }

def heap : Heap := #[{ cls := 7, slots := #[.long 0, .int 1, .null, .int 0, .null, .int 0, .int 0], vm := .statics 7 },
  { cls := 11, slots := #[.null, .null, .null], vm := .statics 11 }]
def classes : Array Class := #[k0, k1, k2, k3, k4, k5, k6, k7, k8, k9, k10, k11, k12, k13, k14, k15, k16, k17, k18, k19, k20]
def interned : List (Array UInt16 × Addr) := []
def slotsUsed : Nat := 10
def theMethod : MethodId := ⟨1, 2⟩
def args0 : Array Value := #[.int 3, .int 65, .int 66, .int 67, .int 68]
def aboutOver (below : List Frame) : State where
  vm := { classes := classes, interned := interned.toArray }
  heap := heap
  slotsUsed := slotsUsed
  threads := #[{ frames := .invoking theMethod args0 :: below }]
def below0 : List Frame := [.native { method := ⟨0, 0⟩, args := #[] }]
def about1 : State := aboutOver below0
def p0 : Program := .bare "" "" ""
def e0 : Env := launch0.env 0 0 0
theorem w_frames : about1.frames = Frame.invoking theMethod args0 :: below0 := rfl
set_option maxRecDepth 65536 in
theorem w_args : argsFit about1.vm theMethod args0 = true := by decide +kernel
set_option maxRecDepth 65536 in
theorem w_heap : heapFits about1 = true := by decide +kernel
set_option maxRecDepth 65536 in
theorem w_runnable : about1.curStatus? = some .runnable := by decide +kernel
set_option maxRecDepth 65536 in
theorem w_alone : about1.alone = true := by decide +kernel
set_option maxRecDepth 65536 in
theorem w_named : about1.methodNamed? x = some theMethod := by decide +kernel
set_option maxRecDepth 65536 in
theorem w_hears : about1.hears theMethod below0 = true := by decide +kernel
set_option maxRecDepth 65536 in
theorem w_ripe : about1.ripe theMethod args0 below0 = true := by decide +kernel
theorem w_running : about1.status = .running := rfl
set_option maxRecDepth 65536 in
theorem w_room : about1.hasRoom e0.platform room_1 = true :=
  launch0.hasRoom_least _ room_1 (by decide +kernel) (by decide +kernel) (by decide +kernel) (by decide +kernel) (by decide +kernel) (by decide +kernel)
theorem allAtoms_all (ts : List Jvm.Cond) (a : Array Jvm.Value) (st : Jvm.State) : (allAtoms ts).before a st = ts.all (fun c => c.before a st) := by
  induction ts with
  | nil => rfl
  | cons c t ih =>
    show (Jvm.Cond.and c (allAtoms t)).before a st = _
    rw [Jvm.Cond.before_and, ih, List.all_cons]
def words1 : List Jvm.Cond := Jvm.Cond.code x code maxLocals ret :: tables_1
/-- a 'code' word, met by the world's own term for the bytes: nothing is compared byte by byte -/
theorem code_word {y : MethodName} {bytes : ByteArray} {mx : Nat} {rt : Option FieldType} {a : Array Value} {s : State} {m : MethodId} {meth : Method} {c : Code} (h1 : s.methodNamed? y = some m) (h2 : s.vm.method? m = some meth) (h3 : meth.code = some c) (h4 : c.code = bytes)
    (h5 : (c.maxLocals == mx && c.exceptionTable.isEmpty && decide (c.maxStack ≤ mostOperands) && decide (meth.sig.returnType = rt) && !meth.locks && decide (parseMethodDescriptor y.desc = some meth.sig)) = true) : (Jvm.Cond.code y bytes mx rt).before a s = true := by
  simp only [Bool.and_eq_true, beq_iff_eq, Bool.not_eq_true', decide_eq_true_eq] at h5
  obtain ⟨⟨⟨⟨⟨g1, g2⟩, g3⟩, g4⟩, g5⟩, g6⟩ := h5
  simp [Cond.before, Cond.holds, Cond.value, h1, h2, h3, h4, g1, g2, g3, g4, g5, g6]
def isCode : Jvm.Cond → Bool
  | .code _ _ _ _ => true
  | _ => false
theorem all_split {L : List Jvm.Cond} {P : Jvm.Cond → Bool} (h1 : L.all (fun c => isCode c || P c) = true) (h2 : ∀ c ∈ L.filter isCode, P c = true) : L.all P = true := by
  refine List.all_eq_true.mpr fun c hc => ?_
  have h := List.all_eq_true.mp h1 c hc
  rcases Bool.eq_false_or_eq_true (isCode c) with hi | hi
  · exact h2 c (List.mem_filter.mpr ⟨hc, hi⟩)
  · simpa [hi] using h
set_option maxRecDepth 65536 in
theorem w_c0 : (Jvm.Cond.code x code maxLocals ret).before args0 about1 = true := code_word (m := ⟨1, 2⟩) (meth := k1m2) (c := k1c2) (by decide +kernel) rfl rfl rfl (by decide +kernel)
set_option maxRecDepth 65536 in
theorem w_c1 : (Jvm.Cond.code ({ cls := "java/lang/String", name := "<init>", desc := "([C)V" } : Jvm.MethodName) jdk_42_method_3_code (2 : Nat) (Option.none : Option Jvm.ClassFile.FieldType)).before args0 about1 = true := code_word (m := ⟨7, 1⟩) (meth := k7m1) (c := k7c1) (by decide +kernel) rfl rfl rfl (by decide +kernel)
set_option maxRecDepth 65536 in
theorem w_c2 : (Jvm.Cond.code ({ cls := "java/lang/String", name := "<init>", desc := "([CIILjava/lang/Void;)V" } : Jvm.MethodName) jdk_42_method_149_code (6 : Nat) (Option.none : Option Jvm.ClassFile.FieldType)).before args0 about1 = true := code_word (m := ⟨7, 6⟩) (meth := k7m6) (c := k7c6) (by decide +kernel) rfl rfl rfl (by decide +kernel)
set_option maxRecDepth 65536 in
theorem w_c3 : (Jvm.Cond.code ({ cls := "java/lang/Object", name := "<init>", desc := "()V" } : Jvm.MethodName) object_method_1_code (1 : Nat) (Option.none : Option Jvm.ClassFile.FieldType)).before args0 about1 = true := code_word (m := ⟨0, 0⟩) (meth := k0m0) (c := k0c0) (by decide +kernel) rfl rfl rfl (by decide +kernel)
set_option maxRecDepth 65536 in
theorem w_c4 : (Jvm.Cond.code ({ cls := "com/example/bowerbird/bowerbird/model/Names", name := "isMetadataPrefix", desc := "(Ljava/lang/String;)Z" } : Jvm.MethodName) prog_11_method_2_code (1 : Nat) (Option.some Jvm.ClassFile.FieldType.boolean)).before args0 about1 = true := code_word (m := ⟨8, 1⟩) (meth := k8m1) (c := k8c1) (by decide +kernel) rfl rfl rfl (by decide +kernel)
set_option maxRecDepth 65536 in
theorem w_c5 : (Jvm.Cond.code ({ cls := "java/lang/String", name := "length", desc := "()I" } : Jvm.MethodName) jdk_42_method_54_code (1 : Nat) (Option.some Jvm.ClassFile.FieldType.int)).before args0 about1 = true := code_word (m := ⟨7, 2⟩) (meth := k7m2) (c := k7c2) (by decide +kernel) rfl rfl rfl (by decide +kernel)
set_option maxRecDepth 65536 in
theorem w_c6 : (Jvm.Cond.code ({ cls := "java/lang/String", name := "coder", desc := "()B" } : Jvm.MethodName) jdk_42_method_152_code (1 : Nat) (Option.some Jvm.ClassFile.FieldType.byte)).before args0 about1 = true := code_word (m := ⟨7, 7⟩) (meth := k7m7) (c := k7c7) (by decide +kernel) rfl rfl rfl (by decide +kernel)
set_option maxRecDepth 65536 in
theorem w_c7 : (Jvm.Cond.code ({ cls := "com/example/bowerbird/bowerbird/model/Names", name := "isName", desc := "(Ljava/lang/String;II)Z" } : Jvm.MethodName) prog_11_method_4_code (6 : Nat) (Option.some Jvm.ClassFile.FieldType.boolean)).before args0 about1 = true := code_word (m := ⟨8, 2⟩) (meth := k8m2) (c := k8c2) (by decide +kernel) rfl rfl rfl (by decide +kernel)
set_option maxRecDepth 65536 in
theorem w_c8 : (Jvm.Cond.code ({ cls := "java/lang/StringUTF16", name := "compress", desc := "([CII)[B" } : Jvm.MethodName) jdk_52_method_16_code (6 : Nat) (Option.some (Jvm.ClassFile.FieldType.array Jvm.ClassFile.FieldType.byte))).before args0 about1 = true := code_word (m := ⟨9, 2⟩) (meth := k9m2) (c := k9c2) (by decide +kernel) rfl rfl rfl (by decide +kernel)
set_option maxRecDepth 65536 in
theorem w_c9 : (Jvm.Cond.code ({ cls := "java/lang/StringUTF16", name := "compress", desc := "([CI[BII)I" } : Jvm.MethodName) jdk_52_method_21_code (7 : Nat) (Option.some Jvm.ClassFile.FieldType.int)).before args0 about1 = true := code_word (m := ⟨9, 3⟩) (meth := k9m3) (c := k9c3) (by decide +kernel) rfl rfl rfl (by decide +kernel)
set_option maxRecDepth 65536 in
theorem w_c10 : (Jvm.Cond.code ({ cls := "java/lang/StringUTF16", name := "coderFromArrayLen", desc := "([BI)B" } : Jvm.MethodName) jdk_52_method_15_code (2 : Nat) (Option.some Jvm.ClassFile.FieldType.byte)).before args0 about1 = true := code_word (m := ⟨9, 1⟩) (meth := k9m1) (c := k9c1) (by decide +kernel) rfl rfl rfl (by decide +kernel)
set_option maxRecDepth 65536 in
theorem w_c11 : (Jvm.Cond.code ({ cls := "com/example/bowerbird/bowerbird/model/NamesIsMetadataPrefixPinLaw", name := "ok", desc := "(I)Z" } : Jvm.MethodName) method_2_code (1 : Nat) (Option.some Jvm.ClassFile.FieldType.boolean)).before args0 about1 = true := code_word (m := ⟨1, 1⟩) (meth := k1m1) (c := k1c1) (by decide +kernel) rfl rfl rfl (by decide +kernel)
set_option maxRecDepth 65536 in
theorem w_c12 : (Jvm.Cond.code ({ cls := "java/lang/String", name := "charAt", desc := "(I)C" } : Jvm.MethodName) jdk_42_method_56_code (2 : Nat) (Option.some Jvm.ClassFile.FieldType.char)).before args0 about1 = true := code_word (m := ⟨7, 3⟩) (meth := k7m3) (c := k7c3) (by decide +kernel) rfl rfl rfl (by decide +kernel)
set_option maxRecDepth 65536 in
theorem w_c13 : (Jvm.Cond.code ({ cls := "java/lang/String", name := "isLatin1", desc := "()Z" } : Jvm.MethodName) jdk_42_method_154_code (1 : Nat) (Option.some Jvm.ClassFile.FieldType.boolean)).before args0 about1 = true := code_word (m := ⟨7, 8⟩) (meth := k7m8) (c := k7c8) (by decide +kernel) rfl rfl rfl (by decide +kernel)
set_option maxRecDepth 65536 in
theorem w_c14 : (Jvm.Cond.code ({ cls := "java/lang/StringLatin1", name := "charAt", desc := "([BI)C" } : Jvm.MethodName) jdk_43_method_2_code (2 : Nat) (Option.some Jvm.ClassFile.FieldType.char)).before args0 about1 = true := code_word (m := ⟨10, 1⟩) (meth := k10m1) (c := k10c1) (by decide +kernel) rfl rfl rfl (by decide +kernel)
set_option maxRecDepth 65536 in
theorem w_c15 : (Jvm.Cond.code ({ cls := "java/lang/String", name := "checkIndex", desc := "(II)V" } : Jvm.MethodName) jdk_42_method_155_code (2 : Nat) (Option.none : Option Jvm.ClassFile.FieldType)).before args0 about1 = true := code_word (m := ⟨7, 9⟩) (meth := k7m9) (c := k7c9) (by decide +kernel) rfl rfl rfl (by decide +kernel)
set_option maxRecDepth 65536 in
theorem w_c16 : (Jvm.Cond.code ({ cls := "jdk/internal/util/Preconditions", name := "checkIndex", desc := "(IILjava/util/function/BiFunction;)I" } : Jvm.MethodName) jdk_41_method_11_code (3 : Nat) (Option.some Jvm.ClassFile.FieldType.int)).before args0 about1 = true := code_word (m := ⟨11, 1⟩) (meth := k11m1) (c := k11c1) (by decide +kernel) rfl rfl rfl (by decide +kernel)
set_option maxRecDepth 65536 in
theorem w_c17 : (Jvm.Cond.code ({ cls := "java/lang/String", name := "indexOf", desc := "(I)I" } : Jvm.MethodName) jdk_42_method_79_code (2 : Nat) (Option.some Jvm.ClassFile.FieldType.int)).before args0 about1 = true := code_word (m := ⟨7, 4⟩) (meth := k7m4) (c := k7c4) (by decide +kernel) rfl rfl rfl (by decide +kernel)
set_option maxRecDepth 65536 in
theorem w_c18 : (Jvm.Cond.code ({ cls := "java/lang/String", name := "indexOf", desc := "(II)I" } : Jvm.MethodName) jdk_42_method_80_code (3 : Nat) (Option.some Jvm.ClassFile.FieldType.int)).before args0 about1 = true := code_word (m := ⟨7, 5⟩) (meth := k7m5) (c := k7c5) (by decide +kernel) rfl rfl rfl (by decide +kernel)
set_option maxRecDepth 65536 in
theorem w_c19 : (Jvm.Cond.code ({ cls := "java/lang/StringLatin1", name := "indexOf", desc := "([BIII)I" } : Jvm.MethodName) jdk_43_method_22_code (4 : Nat) (Option.some Jvm.ClassFile.FieldType.int)).before args0 about1 = true := code_word (m := ⟨10, 3⟩) (meth := k10m3) (c := k10c3) (by decide +kernel) rfl rfl rfl (by decide +kernel)
set_option maxRecDepth 65536 in
theorem w_c20 : (Jvm.Cond.code ({ cls := "java/lang/StringLatin1", name := "canEncode", desc := "(I)Z" } : Jvm.MethodName) jdk_43_method_4_code (1 : Nat) (Option.some Jvm.ClassFile.FieldType.boolean)).before args0 about1 = true := code_word (m := ⟨10, 2⟩) (meth := k10m2) (c := k10c2) (by decide +kernel) rfl rfl rfl (by decide +kernel)
set_option maxRecDepth 65536 in
theorem w_c21 : (Jvm.Cond.code ({ cls := "java/lang/Math", name := "max", desc := "(II)I" } : Jvm.MethodName) jdk_29_method_65_code (2 : Nat) (Option.some Jvm.ClassFile.FieldType.int)).before args0 about1 = true := code_word (m := ⟨12, 1⟩) (meth := k12m1) (c := k12c1) (by decide +kernel) rfl rfl rfl (by decide +kernel)
set_option maxRecDepth 65536 in
theorem w_c22 : (Jvm.Cond.code ({ cls := "java/lang/Math", name := "min", desc := "(II)I" } : Jvm.MethodName) jdk_29_method_69_code (2 : Nat) (Option.some Jvm.ClassFile.FieldType.int)).before args0 about1 = true := code_word (m := ⟨12, 2⟩) (meth := k12m2) (c := k12c2) (by decide +kernel) rfl rfl rfl (by decide +kernel)
set_option maxRecDepth 65536 in
theorem w_c23 : (Jvm.Cond.code ({ cls := "java/lang/StringLatin1", name := "indexOfChar", desc := "([BIII)I" } : Jvm.MethodName) jdk_43_method_23_code (6 : Nat) (Option.some Jvm.ClassFile.FieldType.int)).before args0 about1 = true := code_word (m := ⟨10, 4⟩) (meth := k10m4) (c := k10c4) (by decide +kernel) rfl rfl rfl (by decide +kernel)
def codes1 : List Jvm.Cond := [Jvm.Cond.code x code maxLocals ret, Jvm.Cond.code ({ cls := "java/lang/String", name := "<init>", desc := "([C)V" } : Jvm.MethodName) jdk_42_method_3_code (2 : Nat) (Option.none : Option Jvm.ClassFile.FieldType), Jvm.Cond.code ({ cls := "java/lang/String", name := "<init>", desc := "([CIILjava/lang/Void;)V" } : Jvm.MethodName) jdk_42_method_149_code (6 : Nat) (Option.none : Option Jvm.ClassFile.FieldType), Jvm.Cond.code ({ cls := "java/lang/Object", name := "<init>", desc := "()V" } : Jvm.MethodName) object_method_1_code (1 : Nat) (Option.none : Option Jvm.ClassFile.FieldType), Jvm.Cond.code ({ cls := "com/example/bowerbird/bowerbird/model/Names", name := "isMetadataPrefix", desc := "(Ljava/lang/String;)Z" } : Jvm.MethodName) prog_11_method_2_code (1 : Nat) (Option.some Jvm.ClassFile.FieldType.boolean), Jvm.Cond.code ({ cls := "java/lang/String", name := "length", desc := "()I" } : Jvm.MethodName) jdk_42_method_54_code (1 : Nat) (Option.some Jvm.ClassFile.FieldType.int), Jvm.Cond.code ({ cls := "java/lang/String", name := "coder", desc := "()B" } : Jvm.MethodName) jdk_42_method_152_code (1 : Nat) (Option.some Jvm.ClassFile.FieldType.byte), Jvm.Cond.code ({ cls := "com/example/bowerbird/bowerbird/model/Names", name := "isName", desc := "(Ljava/lang/String;II)Z" } : Jvm.MethodName) prog_11_method_4_code (6 : Nat) (Option.some Jvm.ClassFile.FieldType.boolean), Jvm.Cond.code ({ cls := "java/lang/StringUTF16", name := "compress", desc := "([CII)[B" } : Jvm.MethodName) jdk_52_method_16_code (6 : Nat) (Option.some (Jvm.ClassFile.FieldType.array Jvm.ClassFile.FieldType.byte)), Jvm.Cond.code ({ cls := "java/lang/StringUTF16", name := "compress", desc := "([CI[BII)I" } : Jvm.MethodName) jdk_52_method_21_code (7 : Nat) (Option.some Jvm.ClassFile.FieldType.int), Jvm.Cond.code ({ cls := "java/lang/StringUTF16", name := "coderFromArrayLen", desc := "([BI)B" } : Jvm.MethodName) jdk_52_method_15_code (2 : Nat) (Option.some Jvm.ClassFile.FieldType.byte), Jvm.Cond.code ({ cls := "com/example/bowerbird/bowerbird/model/NamesIsMetadataPrefixPinLaw", name := "ok", desc := "(I)Z" } : Jvm.MethodName) method_2_code (1 : Nat) (Option.some Jvm.ClassFile.FieldType.boolean), Jvm.Cond.code ({ cls := "java/lang/String", name := "charAt", desc := "(I)C" } : Jvm.MethodName) jdk_42_method_56_code (2 : Nat) (Option.some Jvm.ClassFile.FieldType.char), Jvm.Cond.code ({ cls := "java/lang/String", name := "isLatin1", desc := "()Z" } : Jvm.MethodName) jdk_42_method_154_code (1 : Nat) (Option.some Jvm.ClassFile.FieldType.boolean), Jvm.Cond.code ({ cls := "java/lang/StringLatin1", name := "charAt", desc := "([BI)C" } : Jvm.MethodName) jdk_43_method_2_code (2 : Nat) (Option.some Jvm.ClassFile.FieldType.char), Jvm.Cond.code ({ cls := "java/lang/String", name := "checkIndex", desc := "(II)V" } : Jvm.MethodName) jdk_42_method_155_code (2 : Nat) (Option.none : Option Jvm.ClassFile.FieldType), Jvm.Cond.code ({ cls := "jdk/internal/util/Preconditions", name := "checkIndex", desc := "(IILjava/util/function/BiFunction;)I" } : Jvm.MethodName) jdk_41_method_11_code (3 : Nat) (Option.some Jvm.ClassFile.FieldType.int), Jvm.Cond.code ({ cls := "java/lang/String", name := "indexOf", desc := "(I)I" } : Jvm.MethodName) jdk_42_method_79_code (2 : Nat) (Option.some Jvm.ClassFile.FieldType.int), Jvm.Cond.code ({ cls := "java/lang/String", name := "indexOf", desc := "(II)I" } : Jvm.MethodName) jdk_42_method_80_code (3 : Nat) (Option.some Jvm.ClassFile.FieldType.int), Jvm.Cond.code ({ cls := "java/lang/StringLatin1", name := "indexOf", desc := "([BIII)I" } : Jvm.MethodName) jdk_43_method_22_code (4 : Nat) (Option.some Jvm.ClassFile.FieldType.int), Jvm.Cond.code ({ cls := "java/lang/StringLatin1", name := "canEncode", desc := "(I)Z" } : Jvm.MethodName) jdk_43_method_4_code (1 : Nat) (Option.some Jvm.ClassFile.FieldType.boolean), Jvm.Cond.code ({ cls := "java/lang/Math", name := "max", desc := "(II)I" } : Jvm.MethodName) jdk_29_method_65_code (2 : Nat) (Option.some Jvm.ClassFile.FieldType.int), Jvm.Cond.code ({ cls := "java/lang/Math", name := "min", desc := "(II)I" } : Jvm.MethodName) jdk_29_method_69_code (2 : Nat) (Option.some Jvm.ClassFile.FieldType.int), Jvm.Cond.code ({ cls := "java/lang/StringLatin1", name := "indexOfChar", desc := "([BIII)I" } : Jvm.MethodName) jdk_43_method_23_code (6 : Nat) (Option.some Jvm.ClassFile.FieldType.int)]
set_option maxRecDepth 65536 in
theorem codes_eq : words1.filter isCode = codes1 := rfl
theorem w_codes : ∀ c ∈ words1.filter isCode, c.before args0 about1 = true := by
  rw [codes_eq]
  intro c hc
  simp only [codes1, List.mem_cons, List.not_mem_nil, or_false] at hc
  rcases hc with rfl | rfl | rfl | rfl | rfl | rfl | rfl | rfl | rfl | rfl | rfl | rfl | rfl | rfl | rfl | rfl | rfl | rfl | rfl | rfl | rfl | rfl | rfl | rfl
  · exact w_c0
  · exact w_c1
  · exact w_c2
  · exact w_c3
  · exact w_c4
  · exact w_c5
  · exact w_c6
  · exact w_c7
  · exact w_c8
  · exact w_c9
  · exact w_c10
  · exact w_c11
  · exact w_c12
  · exact w_c13
  · exact w_c14
  · exact w_c15
  · exact w_c16
  · exact w_c17
  · exact w_c18
  · exact w_c19
  · exact w_c20
  · exact w_c21
  · exact w_c22
  · exact w_c23
set_option maxRecDepth 65536 in
theorem w_t1 : (words1.take 24).all (fun c => isCode c || c.before args0 about1) = true := by decide +kernel
set_option maxRecDepth 65536 in
theorem w_t2 : ((words1.drop 24).take 24).all (fun c => isCode c || c.before args0 about1) = true := by decide +kernel
set_option maxRecDepth 65536 in
theorem w_t3 : (((words1.drop 24).drop 24).take 24).all (fun c => isCode c || c.before args0 about1) = true := by decide +kernel
set_option maxRecDepth 65536 in
theorem w_t4 : ((((words1.drop 24).drop 24).drop 24).take 24).all (fun c => isCode c || c.before args0 about1) = true := by decide +kernel
set_option maxRecDepth 65536 in
theorem w_t5 : ((((words1.drop 24).drop 24).drop 24).drop 24).all (fun c => isCode c || c.before args0 about1) = true := by decide +kernel
theorem w_tables : (allAtoms (Jvm.Cond.code x code maxLocals ret :: tables_1)).before args0 about1 = true := by
  rw [allAtoms_all]
  show words1.all (fun c => c.before args0 about1) = true
  refine all_split ?_ w_codes
  rw [← List.take_append_drop 24 words1, List.all_append, w_t1, ← List.take_append_drop 24 (words1.drop 24), List.all_append, w_t2, ← List.take_append_drop 24 ((words1.drop 24).drop 24), List.all_append, w_t3, ← List.take_append_drop 24 (((words1.drop 24).drop 24).drop 24), List.all_append, w_t4, w_t5]
  rfl
set_option maxRecDepth 65536 in
theorem w_rest : rest_1_c.before args0 about1 = true := by decide +kernel
set_option maxRecDepth 65536 in
theorem w_case : (Jvm.Cond.and given_1 narrow_1).before args0 about1 = true := by decide +kernel
set_option maxRecDepth 65536 in
theorem w_consts : constsHeld consts_1 about1 := Jvm.Lit.constsHeldB_iff.mp (by decide +kernel)
theorem w_applies : (headSpec (Jvm.Cond.code x code maxLocals ret :: tables_1) room_1).applies x e0.platform about1 = true :=
  (Spec.applies_iff w_frames).mpr ⟨w_running, w_runnable, w_alone, w_named, w_hears, w_ripe, w_room, w_tables⟩
theorem atStart : AtStart classFile x code maxLocals ret World_1 tables_1 room_1 Calls_1 rest_1 Pre_1 launch0 p0 e0 about1 theMethod args0 below0 :=
  ⟨lists_1, trivial, launch0.admits_env _ _ _, launch0.least_env, fairChoices_fair.cas, fairChoices_fair.clock, w_frames, w_args, w_heap, w_applies, ⟨w_consts, trivial⟩, w_rest, w_case⟩
end start1
theorem witness_1 : WitnessClaimed_1 := ⟨start1.p0, start1.e0, start1.about1, start1.theMethod, start1.args0, start1.below0, start1.atStart⟩
end Jvm.Pilot.@@N@@
