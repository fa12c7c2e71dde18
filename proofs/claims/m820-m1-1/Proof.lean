import JvmDerived
import JvmDerived.Pilot.@@N@@Statement
import JvmDerived.Pilot.@@N@@Code
set_option linter.unusedVariables false
set_option linter.unusedSimpArgs false
namespace Jvm.Pilot.@@N@@
open Jvm Jvm.ClassFile Sem Op Lib Jvm.Free Jvm.Stand Jvm.LawKit Jvm.RoadKit Bundle Jvm.Pilot.@@N@@.Jvm.D

section Layer
variable {p : Program} {l : Launch} {e : Env} {R : Room} {s : State} {m : MethodId} {args : Array Value} {below : List Frame} {meth : Method} {c : Code} {T : State} {locs : List Loc} {cells slots : Nat}
/-- the walk from σ comes to an end at which K holds -/
def Go (p : Program) (e : Env) (below : List Frame) (K : State → Outcome → Prop) (σ : State) : Prop := ∃ s₂ o, Steps p.tables e below σ s₂ ∧ K s₂ o
theorem Go.st {K : State → Outcome → Prop} {σ σ' : State} (h : ∀ t, Steps p.tables e below σ' t → Steps p.tables e below σ t) (k : Go p e below K σ') : Go p e below K σ := by
  obtain ⟨a, b, c, d⟩ := k
  exact ⟨a, b, h _ c, d⟩
theorem Go.tr {K : State → Outcome → Prop} {σ σ' : State} (h : Steps p.tables e below σ σ') (k : Go p e below K σ') : Go p e below K σ := Go.st (fun _ q => h.trans q) k
/-- what a contract asks of the end -/
def KQ (s : State) (below : List Frame) (Q : Option Value → Heap → List Loc → Prop) (C S : Nat) (s₂ : State) (o : Outcome) : Prop :=
  s₂.status = .running ∧ Ended s₂ below o ∧ ∃ v L, o = .returned v ∧ Q v s₂.heap L ∧ FrameEnd s o s₂ L C S
theorem Go.body {K : State → Outcome → Prop} {σ : State} {g g' : JFrame} (hg : g = g') (k : Go p e below K (T.setTop g')) : Go p e below K (T.setTop g) := hg ▸ k
/-- return of nothing -/
theorem Go.retV {Q : Option Value → Heap → List Loc → Prop} {C S : Nat} (X : Stand p l e R s m args below meth c T locs cells slots) (hx : p.tables.exec = Jvm.exec) (hlk : meth.locks = false) (hret : meth.sig.returnType = none) {pc : Nat} {Ls : Array Slot} (hd : decode c.code pc = .ok (.return_, 1)) (hC : cells ≤ C) (hS : slots ≤ S) (q : Q none T.heap locs) :
    Go p e below (KQ s below Q C S) (T.setTop (mkF m pc Ls [])) := by
  obtain ⟨fs, hr, hrun, hended, hW, hsame⟩ := X.leave (v := none) (fun _ => rfl)
  exact ⟨_, _, X.returnOut hx hret hd hr, hrun, hended, _, _, rfl, q, ⟨_, rfl⟩, hW, hsame.mono hC hS⟩
/-- return of an int -/
theorem Go.retI {Q : Option Value → Heap → List Loc → Prop} {C S : Nat} (X : Stand p l e R s m args below meth c T locs cells slots) (hx : p.tables.exec = Jvm.exec) (hlk : meth.locks = false) (hret : meth.sig.returnType = some .int) {pc : Nat} {Ls : Array Slot} {z : Int32} {rest : List Value} (hd : decode c.code pc = .ok (.ireturn, 1)) (hC : cells ≤ C) (hS : slots ≤ S) (q : Q (some (.int z)) T.heap locs) :
    Go p e below (KQ s below Q C S) (T.setTop (mkF m pc Ls (.int z :: rest))) := by
  obtain ⟨fs, hr, hrun, hended, hW, hsame⟩ := X.leave (v := some (.int z)) (fun h => by rw [hret] at h; cases h)
  exact ⟨_, _, retOut X hx hret rfl (Or.inl ⟨rfl, Or.inl rfl, _, rfl⟩) hd hr, hrun, hended, _, _, rfl, q, ⟨_, rfl⟩, hW, hsame.mono hC hS⟩
/-- return of a boolean, byte, char or short -/
theorem Go.retN {Q : Option Value → Heap → List Loc → Prop} {C S : Nat} (X : Stand p l e R s m args below meth c T locs cells slots) (hx : p.tables.exec = Jvm.exec) (hlk : meth.locks = false) {t : FieldType} (hret : meth.sig.returnType = some t) (ht : t = .boolean ∨ t = .byte ∨ t = .char ∨ t = .short) {pc : Nat} {Ls : Array Slot} {z : Int32} {rest : List Value} (hd : decode c.code pc = .ok (.ireturn, 1)) (hC : cells ≤ C) (hS : slots ≤ S) (q : Q (some (.int (nar t z))) T.heap locs) :
    Go p e below (KQ s below Q C S) (T.setTop (mkF m pc Ls (.int z :: rest))) := by
  obtain ⟨fs, hr, hrun, hended, hW, hsame⟩ := X.leave (v := some (.int (nar t z))) (fun h => by rw [hret] at h; cases h)
  exact ⟨_, _, RoadKit.retN X hx hret ht hd hr, hrun, hended, _, _, rfl, q, ⟨_, rfl⟩, hW, hsame.mono hC hS⟩
/-- return of a reference -/
theorem Go.retA {Q : Option Value → Heap → List Loc → Prop} {C S : Nat} (X : Stand p l e R s m args below meth c T locs cells slots) (hx : p.tables.exec = Jvm.exec) (hlk : meth.locks = false) {t : FieldType} (hret : meth.sig.returnType = some t) (ht : t.isReference = true) {pc : Nat} {Ls : Array Slot} {w : Value} (hw : w.isRef = true) {rest : List Value} (hd : decode c.code pc = .ok (.areturn, 1)) (hC : cells ≤ C) (hS : slots ≤ S) (q : Q (some w) T.heap locs) :
    Go p e below (KQ s below Q C S) (T.setTop (mkF m pc Ls (w :: rest))) := by
  obtain ⟨fs, hr, hrun, hended, hW, hsame⟩ := X.leave (v := some w) (fun h => by rw [hret] at h; cases h)
  exact ⟨_, _, retOut X hx hret (by cases t <;> cases w <;> simp_all [narrow, Value.isRef, FieldType.isReference]) (Or.inr (Or.inr (Or.inr (Or.inr ⟨rfl, ht, hw⟩)))) hd hr, hrun, hended, _, _, rfl, q, ⟨_, rfl⟩, hW, hsame.mono hC hS⟩
/-- return of a long -/
theorem Go.retJ {Q : Option Value → Heap → List Loc → Prop} {C S : Nat} (X : Stand p l e R s m args below meth c T locs cells slots) (hx : p.tables.exec = Jvm.exec) (hlk : meth.locks = false) (hret : meth.sig.returnType = some .long) {pc : Nat} {Ls : Array Slot} {z : Int64} {rest : List Value} (hd : decode c.code pc = .ok (.lreturn, 1)) (hC : cells ≤ C) (hS : slots ≤ S) (q : Q (some (.long z)) T.heap locs) :
    Go p e below (KQ s below Q C S) (T.setTop (mkF m pc Ls (.long z :: rest))) := by
  obtain ⟨fs, hr, hrun, hended, hW, hsame⟩ := X.leave (v := some (.long z)) (fun h => by rw [hret] at h; cases h)
  exact ⟨_, _, retOut X hx hret rfl (Or.inr (Or.inl ⟨rfl, rfl, _, rfl⟩)) hd hr, hrun, hended, _, _, rfl, q, ⟨_, rfl⟩, hW, hsame.mono hC hS⟩
/-- return of a double -/
theorem Go.retD {Q : Option Value → Heap → List Loc → Prop} {C S : Nat} (X : Stand p l e R s m args below meth c T locs cells slots) (hx : p.tables.exec = Jvm.exec) (hlk : meth.locks = false) (hret : meth.sig.returnType = some .double) {pc : Nat} {Ls : Array Slot} {z : UInt64} {rest : List Value} (hd : decode c.code pc = .ok (.dreturn, 1)) (hC : cells ≤ C) (hS : slots ≤ S) (q : Q (some (.double z)) T.heap locs) :
    Go p e below (KQ s below Q C S) (T.setTop (mkF m pc Ls (.double z :: rest))) := by
  obtain ⟨fs, hr, hrun, hended, hW, hsame⟩ := X.leave (v := some (.double z)) (fun h => by rw [hret] at h; cases h)
  exact ⟨_, _, retOut X hx hret rfl (Or.inr (Or.inr (Or.inl ⟨rfl, rfl, _, rfl⟩))) hd hr, hrun, hended, _, _, rfl, q, ⟨_, rfl⟩, hW, hsame.mono hC hS⟩
theorem g_iloadN {K : State → Outcome → Prop} (X : Stand p l e R s m args below meth c T locs cells slots) (hx : p.tables.exec = Jvm.exec) {pc : Nat} {L : Array Slot} {S : List Value} {k : Fin 4} {v : Int32} (hd : decode c.code pc = .ok (.iload_n k, 1)) (pc' : Nat) (hp : pc + 1 = pc') (hl : L[k.val]? = some (.val (.int v))) (r : Go p e below K (T.setTop (mkF m pc' L (.int v :: S)))) : Go p e below K (T.setTop (mkF m pc L S)) := by
  subst hp
  exact Go.st (fun _ => XS.iloadN X.here hx rfl hd hl) r
theorem g_iload {K : State → Outcome → Prop} (X : Stand p l e R s m args below meth c T locs cells slots) (hx : p.tables.exec = Jvm.exec) {pc : Nat} {L : Array Slot} {S : List Value} {k : Nat} {v : Int32} (hd : decode c.code pc = .ok (.iload k, 2)) (pc' : Nat) (hp : pc + 2 = pc') (hl : L[k]? = some (.val (.int v))) (r : Go p e below K (T.setTop (mkF m pc' L (.int v :: S)))) : Go p e below K (T.setTop (mkF m pc L S)) := by
  subst hp
  exact Go.st (fun _ => XS.iload X.here hx rfl hd hl) r
theorem g_lload {K : State → Outcome → Prop} (X : Stand p l e R s m args below meth c T locs cells slots) (hx : p.tables.exec = Jvm.exec) {pc : Nat} {L : Array Slot} {S : List Value} {k : Nat} {v : Int64} (hd : decode c.code pc = .ok (.lload k, 2)) (pc' : Nat) (hp : pc + 2 = pc') (hl : L[k]? = some (.val (.long v))) (r : Go p e below K (T.setTop (mkF m pc' L (.long v :: S)))) : Go p e below K (T.setTop (mkF m pc L S)) := by
  subst hp
  exact Go.st (fun _ => XT.lload X.here hx rfl hd hl) r
theorem g_aloadN {K : State → Outcome → Prop} (X : Stand p l e R s m args below meth c T locs cells slots) (hx : p.tables.exec = Jvm.exec) {pc : Nat} {L : Array Slot} {S : List Value} {k : Fin 4} {v : Value} (hd : decode c.code pc = .ok (.aload_n k, 1)) (pc' : Nat) (hp : pc + 1 = pc') (hl : L[k.val]? = some (.val v)) (hv : v.isRef = true) (r : Go p e below K (T.setTop (mkF m pc' L (v :: S)))) : Go p e below K (T.setTop (mkF m pc L S)) := by
  subst hp
  exact Go.st (fun _ => XS.aloadN X.here hx rfl hd hl hv) r
theorem g_aload {K : State → Outcome → Prop} (X : Stand p l e R s m args below meth c T locs cells slots) (hx : p.tables.exec = Jvm.exec) {pc : Nat} {L : Array Slot} {S : List Value} {k : Nat} {v : Value} (hd : decode c.code pc = .ok (.aload k, 2)) (pc' : Nat) (hp : pc + 2 = pc') (hl : L[k]? = some (.val v)) (hv : v.isRef = true) (r : Go p e below K (T.setTop (mkF m pc' L (v :: S)))) : Go p e below K (T.setTop (mkF m pc L S)) := by
  subst hp
  exact Go.st (fun _ => XS.aload X.here hx rfl hd hl hv) r
theorem g_istore {K : State → Outcome → Prop} (X : Stand p l e R s m args below meth c T locs cells slots) (hx : p.tables.exec = Jvm.exec) {pc : Nat} {L : Array Slot} {S : List Value} {k : Nat} {v : Int32} (hd : decode c.code pc = .ok (.istore k, 2)) (pc' : Nat) (hp : pc + 2 = pc') (L' : Array Slot) (hl : storeLocals L k (.int v) = some L') (r : Go p e below K (T.setTop (mkF m pc' L' S))) : Go p e below K (T.setTop (mkF m pc L (.int v :: S))) := by
  subst hp
  exact Go.st (fun _ => XS.istore X.here hx rfl hd rfl hl) r
theorem g_lstore {K : State → Outcome → Prop} (X : Stand p l e R s m args below meth c T locs cells slots) (hx : p.tables.exec = Jvm.exec) {pc : Nat} {L : Array Slot} {S : List Value} {k : Nat} {v : Int64} (hd : decode c.code pc = .ok (.lstore k, 2)) (pc' : Nat) (hp : pc + 2 = pc') (L' : Array Slot) (hl : storeLocals L k (.long v) = some L') (r : Go p e below K (T.setTop (mkF m pc' L' S))) : Go p e below K (T.setTop (mkF m pc L (.long v :: S))) := by
  subst hp
  exact Go.st (fun _ => XT.lstore X.here hx rfl hd rfl hl) r
theorem g_astore {K : State → Outcome → Prop} (X : Stand p l e R s m args below meth c T locs cells slots) (hx : p.tables.exec = Jvm.exec) {pc : Nat} {L : Array Slot} {S : List Value} {k : Nat} {v : Value} (hd : decode c.code pc = .ok (.astore k, 2)) (pc' : Nat) (hp : pc + 2 = pc') (hv : v.isRef = true) (L' : Array Slot) (hl : storeLocals L k v = some L') (r : Go p e below K (T.setTop (mkF m pc' L' S))) : Go p e below K (T.setTop (mkF m pc L (v :: S))) := by
  subst hp
  exact Go.st (fun _ => XS.astore X.here hx rfl hd rfl hv hl) r
theorem g_iconst {K : State → Outcome → Prop} (X : Stand p l e R s m args below meth c T locs cells slots) (hx : p.tables.exec = Jvm.exec) {pc : Nat} {L : Array Slot} {S : List Value} {i : Int} (hd : decode c.code pc = .ok (.iconst i, 1)) (pc' : Nat) (hp : pc + 1 = pc') (z : Int32) (hz : Int32.ofInt i = z) (r : Go p e below K (T.setTop (mkF m pc' L (.int z :: S)))) : Go p e below K (T.setTop (mkF m pc L S)) := by
  subst hp; subst hz
  exact Go.st (fun _ => XS.iconst X.here hx rfl hd) r
theorem g_bipush {K : State → Outcome → Prop} (X : Stand p l e R s m args below meth c T locs cells slots) (hx : p.tables.exec = Jvm.exec) {pc : Nat} {L : Array Slot} {S : List Value} {i : Int} (hd : decode c.code pc = .ok (.bipush i, 2)) (pc' : Nat) (hp : pc + 2 = pc') (z : Int32) (hz : (Int8.ofInt i).toInt32 = z) (r : Go p e below K (T.setTop (mkF m pc' L (.int z :: S)))) : Go p e below K (T.setTop (mkF m pc L S)) := by
  subst hp; subst hz
  exact Go.st (fun _ => XS.bipush X.here hx rfl hd) r
theorem g_ishr {K : State → Outcome → Prop} (X : Stand p l e R s m args below meth c T locs cells slots) (hx : p.tables.exec = Jvm.exec) {pc : Nat} {L : Array Slot} {S : List Value} {x y : Int32} (hd : decode c.code pc = .ok (.ishr, 1)) (pc' : Nat) (hp : pc + 1 = pc') (z : Int32) (hz : x >>> (y &&& 31) = z) (r : Go p e below K (T.setTop (mkF m pc' L (.int z :: S)))) : Go p e below K (T.setTop (mkF m pc L (.int y :: .int x :: S))) := by
  subst hp; subst hz
  exact Go.st (fun _ => XT.ishr X.here hx rfl hd rfl) r
theorem g_ladd {K : State → Outcome → Prop} (X : Stand p l e R s m args below meth c T locs cells slots) (hx : p.tables.exec = Jvm.exec) {pc : Nat} {L : Array Slot} {S : List Value} {x y : Int64} (hd : decode c.code pc = .ok (.ladd, 1)) (pc' : Nat) (hp : pc + 1 = pc') (z : Int64) (hz : x + y = z) (r : Go p e below K (T.setTop (mkF m pc' L (.long z :: S)))) : Go p e below K (T.setTop (mkF m pc L (.long y :: .long x :: S))) := by
  subst hp; subst hz
  exact Go.st (fun _ => XT.ladd X.here hx rfl hd rfl) r
theorem g_lsub {K : State → Outcome → Prop} (X : Stand p l e R s m args below meth c T locs cells slots) (hx : p.tables.exec = Jvm.exec) {pc : Nat} {L : Array Slot} {S : List Value} {x y : Int64} (hd : decode c.code pc = .ok (.lsub, 1)) (pc' : Nat) (hp : pc + 1 = pc') (z : Int64) (hz : x - y = z) (r : Go p e below K (T.setTop (mkF m pc' L (.long z :: S)))) : Go p e below K (T.setTop (mkF m pc L (.long y :: .long x :: S))) := by
  subst hp; subst hz
  exact Go.st (fun _ => XT.lsub X.here hx rfl hd rfl) r
theorem g_lmul {K : State → Outcome → Prop} (X : Stand p l e R s m args below meth c T locs cells slots) (hx : p.tables.exec = Jvm.exec) {pc : Nat} {L : Array Slot} {S : List Value} {x y : Int64} (hd : decode c.code pc = .ok (.lmul, 1)) (pc' : Nat) (hp : pc + 1 = pc') (z : Int64) (hz : x * y = z) (r : Go p e below K (T.setTop (mkF m pc' L (.long z :: S)))) : Go p e below K (T.setTop (mkF m pc L (.long y :: .long x :: S))) := by
  subst hp; subst hz
  exact Go.st (fun _ => XT.lmul X.here hx rfl hd rfl) r
theorem g_i2l {K : State → Outcome → Prop} (X : Stand p l e R s m args below meth c T locs cells slots) (hx : p.tables.exec = Jvm.exec) {pc : Nat} {L : Array Slot} {S : List Value} {x : Int32} (hd : decode c.code pc = .ok (.i2l, 1)) (pc' : Nat) (hp : pc + 1 = pc') (z : Int64) (hz : x.toInt64 = z) (r : Go p e below K (T.setTop (mkF m pc' L (.long z :: S)))) : Go p e below K (T.setTop (mkF m pc L (.int x :: S))) := by
  subst hp; subst hz
  exact Go.st (fun _ => XT.i2l X.here hx rfl hd rfl) r
theorem g_dup {K : State → Outcome → Prop} (X : Stand p l e R s m args below meth c T locs cells slots) (hx : p.tables.exec = Jvm.exec) {pc : Nat} {L : Array Slot} {S : List Value} {x : Value} (hd : decode c.code pc = .ok (.dup, 1)) (pc' : Nat) (hp : pc + 1 = pc') (hc : x.category = 1) (r : Go p e below K (T.setTop (mkF m pc' L (x :: x :: S)))) : Go p e below K (T.setTop (mkF m pc L (x :: S))) := by
  subst hp
  exact Go.st (fun _ => XS.dup X.here hx rfl hd rfl hc) r
theorem g_dloadN {K : State → Outcome → Prop} (X : Stand p l e R s m args below meth c T locs cells slots) (hx : p.tables.exec = Jvm.exec) {pc : Nat} {L : Array Slot} {S : List Value} {k : Fin 4} {v : UInt64} (hd : decode c.code pc = .ok (.dload_n k, 1)) (pc' : Nat) (hp : pc + 1 = pc') (hl : L[k.val]? = some (.val (.double v))) (r : Go p e below K (T.setTop (mkF m pc' L (.double v :: S)))) : Go p e below K (T.setTop (mkF m pc L S)) := by
  subst hp
  exact Go.st (fun _ => XS.dloadN X.here hx rfl hd hl) r
theorem g_dload {K : State → Outcome → Prop} (X : Stand p l e R s m args below meth c T locs cells slots) (hx : p.tables.exec = Jvm.exec) {pc : Nat} {L : Array Slot} {S : List Value} {k : Nat} {v : UInt64} (hd : decode c.code pc = .ok (.dload k, 2)) (pc' : Nat) (hp : pc + 2 = pc') (hl : L[k]? = some (.val (.double v))) (r : Go p e below K (T.setTop (mkF m pc' L (.double v :: S)))) : Go p e below K (T.setTop (mkF m pc L S)) := by
  subst hp
  exact Go.st (fun _ => XS.dload X.here hx rfl hd hl) r
theorem g_dstoreN {K : State → Outcome → Prop} (X : Stand p l e R s m args below meth c T locs cells slots) (hx : p.tables.exec = Jvm.exec) {pc : Nat} {L : Array Slot} {S : List Value} {k : Fin 4} {v : UInt64} (hd : decode c.code pc = .ok (.dstore_n k, 1)) (pc' : Nat) (hp : pc + 1 = pc') (L' : Array Slot) (hl : storeLocals L k.val (.double v) = some L') (r : Go p e below K (T.setTop (mkF m pc' L' S))) : Go p e below K (T.setTop (mkF m pc L (.double v :: S))) := by
  subst hp
  exact Go.st (fun _ => XS.dstoreN X.here hx rfl hd rfl hl) r
theorem g_dstore {K : State → Outcome → Prop} (X : Stand p l e R s m args below meth c T locs cells slots) (hx : p.tables.exec = Jvm.exec) {pc : Nat} {L : Array Slot} {S : List Value} {k : Nat} {v : UInt64} (hd : decode c.code pc = .ok (.dstore k, 2)) (pc' : Nat) (hp : pc + 2 = pc') (L' : Array Slot) (hl : storeLocals L k (.double v) = some L') (r : Go p e below K (T.setTop (mkF m pc' L' S))) : Go p e below K (T.setTop (mkF m pc L (.double v :: S))) := by
  subst hp
  exact Go.st (fun _ => XS.dstore X.here hx rfl hd rfl hl) r
theorem g_i2d {K : State → Outcome → Prop} (X : Stand p l e R s m args below meth c T locs cells slots) (hx : p.tables.exec = Jvm.exec) {pc : Nat} {L : Array Slot} {S : List Value} {x : Int32} (hd : decode c.code pc = .ok (.i2d, 1)) (pc' : Nat) (hp : pc + 1 = pc') (z : UInt64) (hz : FP.i2d x = z) (r : Go p e below K (T.setTop (mkF m pc' L (.double z :: S)))) : Go p e below K (T.setTop (mkF m pc L (.int x :: S))) := by
  subst hp
  exact Go.st (fun _ => XS.i2dS X.here hx rfl hd rfl hz) r
theorem g_l2d {K : State → Outcome → Prop} (X : Stand p l e R s m args below meth c T locs cells slots) (hx : p.tables.exec = Jvm.exec) {pc : Nat} {L : Array Slot} {S : List Value} {x : Int64} (hd : decode c.code pc = .ok (.l2d, 1)) (pc' : Nat) (hp : pc + 1 = pc') (z : UInt64) (hz : FP.l2d x = z) (r : Go p e below K (T.setTop (mkF m pc' L (.double z :: S)))) : Go p e below K (T.setTop (mkF m pc L (.long x :: S))) := by
  subst hp
  exact Go.st (fun _ => XS.l2dS X.here hx rfl hd rfl hz) r
theorem g_dcmp {K : State → Outcome → Prop} (X : Stand p l e R s m args below meth c T locs cells slots) (hx : p.tables.exec = Jvm.exec) {pc : Nat} {L : Array Slot} {S : List Value} {o : CmpOp} {x y : UInt64} (hd : decode c.code pc = .ok (.dcmp o, 1)) (pc' : Nat) (hp : pc + 1 = pc') (z : Int32) (hz : cmpValue (FP.dcmp x y) o = z) (r : Go p e below K (T.setTop (mkF m pc' L (.int z :: S)))) : Go p e below K (T.setTop (mkF m pc L (.double y :: .double x :: S))) := by
  subst hp
  exact Go.st (fun _ => XS.dcmpS X.here hx rfl hd rfl hz) r
theorem g_dadd {K : State → Outcome → Prop} (X : Stand p l e R s m args below meth c T locs cells slots) (hx : p.tables.exec = Jvm.exec) {pc : Nat} {L : Array Slot} {S : List Value} {x y : UInt64} (hd : decode c.code pc = .ok (.dadd, 1)) (pc' : Nat) (hp : pc + 1 = pc') (z : UInt64) (hn : Jvm.Free.Fl.NoNaN64 z) (hz : FP.dadd x y = z) (r : Go p e below K (T.setTop (mkF m pc' L (.double z :: S)))) : Go p e below K (T.setTop (mkF m pc L (.double y :: .double x :: S))) := by
  subst hp
  exact Go.st (fun _ => XS.daddS X.here hx rfl hd rfl (hz.symm ▸ hn) hz) r
theorem g_dsub {K : State → Outcome → Prop} (X : Stand p l e R s m args below meth c T locs cells slots) (hx : p.tables.exec = Jvm.exec) {pc : Nat} {L : Array Slot} {S : List Value} {x y : UInt64} (hd : decode c.code pc = .ok (.dsub, 1)) (pc' : Nat) (hp : pc + 1 = pc') (z : UInt64) (hn : Jvm.Free.Fl.NoNaN64 z) (hz : FP.dsub x y = z) (r : Go p e below K (T.setTop (mkF m pc' L (.double z :: S)))) : Go p e below K (T.setTop (mkF m pc L (.double y :: .double x :: S))) := by
  subst hp
  exact Go.st (fun _ => XS.dsubS X.here hx rfl hd rfl (hz.symm ▸ hn) hz) r
theorem g_dmul {K : State → Outcome → Prop} (X : Stand p l e R s m args below meth c T locs cells slots) (hx : p.tables.exec = Jvm.exec) {pc : Nat} {L : Array Slot} {S : List Value} {x y : UInt64} (hd : decode c.code pc = .ok (.dmul, 1)) (pc' : Nat) (hp : pc + 1 = pc') (z : UInt64) (hn : Jvm.Free.Fl.NoNaN64 z) (hz : FP.dmul x y = z) (r : Go p e below K (T.setTop (mkF m pc' L (.double z :: S)))) : Go p e below K (T.setTop (mkF m pc L (.double y :: .double x :: S))) := by
  subst hp
  exact Go.st (fun _ => XS.dmulS X.here hx rfl hd rfl (hz.symm ▸ hn) hz) r
theorem g_goto {K : State → Outcome → Prop} (X : Stand p l e R s m args below meth c T locs cells slots) (hx : p.tables.exec = Jvm.exec) {pc : Nat} {L : Array Slot} {S : List Value} {o : Int} (hd : decode c.code pc = .ok (.goto o, 3)) (pc' : Nat) (h0 : 0 ≤ (pc : Int) + o) (hp : ((pc : Int) + o).toNat = pc') (r : Go p e below K (T.setTop (mkF m pc' L S))) : Go p e below K (T.setTop (mkF m pc L S)) :=
  Go.st (fun _ => XS.goto X.here hx rfl (pc0 := pc) rfl hd h0 hp) r
theorem g_if {K : State → Outcome → Prop} (X : Stand p l e R s m args below meth c T locs cells slots) (hx : p.tables.exec = Jvm.exec) {pc : Nat} {L : Array Slot} {S : List Value} {cd : ClassFile.Cond} {o : Int} {x : Int32} (hd : decode c.code pc = .ok (.ifCond cd o, 3)) (pc1 pc2 : Nat) (h0 : 0 ≤ (pc : Int) + o) (h1 : ((pc : Int) + o).toNat = pc1) (h2 : pc + 3 = pc2) (yes : if_icmp.holds cd x 0 = true → Go p e below K (T.setTop (mkF m pc1 L S))) (no : if_icmp.holds cd x 0 = false → Go p e below K (T.setTop (mkF m pc2 L S))) : Go p e below K (T.setTop (mkF m pc L (.int x :: S))) := by
  subst h2
  cases hc : if_icmp.holds cd x 0 with
  | true => exact Go.st (fun _ => XS.ifYes X.here hx rfl (pc0 := pc) rfl hd rfl ((if0 cd x).trans hc) h0 h1) (yes hc)
  | false => exact Go.st (fun _ => XS.ifNo X.here hx rfl hd rfl ((if0 cd x).trans hc)) (no hc)
theorem g_if_ne {K : State → Outcome → Prop} (X : Stand p l e R s m args below meth c T locs cells slots) (hx : p.tables.exec = Jvm.exec) {pc : Nat} {L : Array Slot} {S : List Value} {o : Int} {x : Int32} (hd : decode c.code pc = .ok (.ifCond .ne o, 3)) (pc1 pc2 : Nat) (h0 : 0 ≤ (pc : Int) + o) (h1 : ((pc : Int) + o).toNat = pc1) (h2 : pc + 3 = pc2) (yes : ¬ x = (0 : Int32) → Go p e below K (T.setTop (mkF m pc1 L S))) (no : x = (0 : Int32) → Go p e below K (T.setTop (mkF m pc2 L S))) : Go p e below K (T.setTop (mkF m pc L (.int x :: S))) := by
  refine g_if X hx hd pc1 pc2 h0 h1 h2 (fun hc => ?_) (fun hc => ?_)
  · by_cases q : x = (0 : Int32)
    · rw [(teq q).2] at hc; cases hc
    · exact yes q
  · by_cases q : x = (0 : Int32)
    · exact no q
    · rw [(feq q).2] at hc; cases hc
end Layer
def own_B (x : Int64) : Prop := -1048576 ≤ x.toInt ∧ x.toInt ≤ 1048576
theorem own_sub {a b : Int64} (ha : own_B a) (hb : own_B b) : (a - b).toInt = a.toInt - b.toInt := sub64 ⟨by have := ha.1; omega, by have := ha.2; omega⟩ ⟨by have := hb.1; omega, by have := hb.2; omega⟩
theorem own_b53 {a : Int64} (ha : own_B a) : B53 a := ⟨by have := ha.1; omega, by have := ha.2; omega⟩
theorem own_dsub {a b : Int64} (ha : own_B a) (hb : own_B b) : FP.dsub (FP.l2d a) (FP.l2d b) = FP.l2d (a - b) := dsub_w (own_b53 ha) (own_b53 hb)
theorem own_sq (d : Int) (h1 : -2097152 ≤ d) (h2 : d ≤ 2097152) : 0 ≤ d * d ∧ d * d ≤ 4398046511104 := by
  have h5 : d * d = ((d.natAbs * d.natAbs : Nat) : Int) := by rw [Int.natAbs_mul_self]
  constructor
  · rw [h5]; exact Int.natCast_nonneg _
  · have h3 : d.natAbs ≤ 2097152 := by omega
    have h4 : d.natAbs * d.natAbs ≤ 2097152 * 2097152 := Nat.mul_le_mul h3 h3
    omega
theorem own_sqI {d : Int64} (h1 : -2097152 ≤ d.toInt) (h2 : d.toInt ≤ 2097152) : (d * d).toInt = d.toInt * d.toInt := by
  have h3 := own_sq d.toInt h1 h2
  have h4 := c_lmul d d
  have h5 := rng64 (d * d)
  omega
theorem own_dd {a b : Int64} (ha : own_B a) (hb : own_B b) : -2097152 ≤ (a - b).toInt ∧ (a - b).toInt ≤ 2097152 := by
  rw [own_sub ha hb]
  have := ha.1; have := ha.2; have := hb.1; have := hb.2
  omega
theorem own_dmul {d : Int64} (h : -2097152 ≤ d.toInt ∧ d.toInt ≤ 2097152) : FP.dmul (FP.l2d d) (FP.l2d d) = FP.l2d (d * d) := by
  refine dmul_k (A := 2097152) (B := 2097152) h.1 h.2 h.1 h.2 (by decide) (by decide) (by decide) (fun q => ?_) (fun q => ?_)
  · have := q.2; rw [q.1] at this; exact absurd this (by decide)
  · have := q.2; rw [q.1] at this; exact absurd this (by decide)
def own_S (n : Int) (x : Int64) : Prop := 0 ≤ x.toInt ∧ x.toInt ≤ n
theorem own_S1 {d : Int64} (h : -2097152 ≤ d.toInt ∧ d.toInt ≤ 2097152) : own_S 4398046511104 (d * d) := by
  unfold own_S
  rw [own_sqI h.1 h.2]
  exact own_sq _ h.1 h.2
theorem own_S2 {x y : Int64} {n k : Int} (hx : own_S n x) (hy : own_S k y) (hn : n + k ≤ 100000000000000) : own_S (n + k) (x + y) := by
  unfold own_S at *
  have h1 := c_ladd x y
  have h2 := rng64 (x + y)
  omega
theorem own_dadd {x y : Int64} {n k : Int} (hx : own_S n x) (hy : own_S k y) (hn : n ≤ 100000000000000) (hk : k ≤ 100000000000000) : FP.dadd (FP.l2d x) (FP.l2d y) = FP.l2d (x + y) := by
  unfold own_S at *
  exact dadd_w ⟨by omega, by omega⟩ ⟨by omega, by omega⟩
theorem own_nn (a : Int64) : Jvm.Free.Fl.NoNaN64 (FP.l2d a) := nn_w rfl
def own_ch (x1 y1 z1 x2 y2 z2 : Int64) : Int64 := (x1 - x2) * (x1 - x2) + (y1 - y2) * (y1 - y2) + (z1 - z2) * (z1 - z2)
theorem own_sh (x : Int32) : own_B (x >>> ((11 : Int32) &&& 31)).toInt64 := by
  unfold own_B
  have h := c_ishr x (11 : Int32) 11 (by decide)
  have h2 := rng32 x
  rw [c_i2l, h]
  omega
theorem own_swap (a b : Int64) : (a - b) * (a - b) = (b - a) * (b - a) := by
  rw [← @Int64.neg_sub b a, Int64.neg_mul, Int64.mul_neg, Int64.neg_neg]
theorem own_ch_swap (x1 y1 z1 x2 y2 z2 : Int64) : own_ch x2 y2 z2 x1 y1 z1 = own_ch x1 y1 z1 x2 y2 z2 := by
  unfold own_ch
  rw [own_swap x2 x1, own_swap y2 y1, own_swap z2 z1]

theorem own_pn_java_lang_Record : plainName "java/lang/Record" = true := by first | (simp [plainName, overriddenIn]; done) | decide +kernel
theorem ef_2 (m : MethodId) (x0 : Addr) : entryFrame m #[(.ref x0)] 1 = mkF m 0 #[.val (.ref x0)] [] := by first | (simp [entryFrame, mkF, argsToLocals, Value.category]; done) | rfl
theorem d2_0 : decode jdk_30_method_1_code 0 = .ok (.aload_n 0, 1) := by decide +kernel
theorem d2_1 : decode jdk_30_method_1_code 1 = .ok (.invokespecial 1, 3) := by decide +kernel
theorem d2_4 : decode jdk_30_method_1_code 4 = .ok (.return_, 1) := by decide +kernel
def Q2 (Z : State) (a1 : Addr) (h0 : Heap) (n0 : Nat) (v : Option Value) (h : Heap) (L : List Loc) : Prop := v = none ∧ Fr n0 L ∧ h = h0
set_option maxRecDepth 65536 in
set_option maxHeartbeats 40000000 in
theorem rm2 (l : Launch) (Z : State) (a0 : Array Value) (hw : ∀ d ∈ tables_1, d.before a0 Z = true) (ws : List Jvm.Cond) (a1 : Addr) (h0 : Heap) (n0 : Nat) (Z0 : n0 ≤ h0.size)  :
    MetFree l (⟨"java/lang/Record", "<init>", "()V"⟩ : MethodName) (head1 (Jvm.Cond.code (⟨"java/lang/Record", "<init>", "()V"⟩ : MethodName) jdk_30_method_1_code 1 none :: ws) ({ frames := 1, cells := 0, slots := 0, locals := 12 } : Room)) (fun a U => a = #[(.ref a1)] ∧ Z.Warmed39 U.vm ∧ U.heap = h0) (fun _ _ _ _ _ => True) (fun _ U o U' => ∃ v L, o = .returned v ∧ Q2 Z a1 h0 n0 v U'.heap L ∧ FrameEnd U o U' L ({ frames := 1, cells := 0, slots := 0, locals := 12 } : Room).cells ({ frames := 1, cells := 0, slots := 0, locals := 12 } : Room).slots) := by
  refine MetFree.of_bodySF (plainFor_of_name own_pn_java_lang_Record) hisR ?_
  intro p e s m args below meth c s₁ Bd hml0 hP hK
  obtain ⟨rfl, hZ, hh⟩ := hP
  have hx := Bd.exec
  have hby := Bd.bytes
  have hlk := Bd.notSynchronized
  have hml : c.maxLocals = 1 := hml0
  have hown : s.vm.findClass "java/lang/Record" = some m.cls := findClass_of_methodNamed Bd.named
  have hnm := (name_of_methodNamed Bd.named Bd.method).1
  have X0 : Stand p l e ({ frames := 1, cells := 0, slots := 0, locals := 12 } : Room) s m #[(.ref a1)] below meth c s₁ [] 0 0 := Stand.of_body Bd
  have e0 : s₁.heap = h0 := by rw [← hh, Bd.state]; rfl
  have N0 := Fr.nil n0
  show Go p e below (KQ s below (Q2 Z a1 h0 n0) ({ frames := 1, cells := 0, slots := 0, locals := 12 } : Room).cells ({ frames := 1, cells := 0, slots := 0, locals := 12 } : Room).slots) _
  refine Go.body (T := s₁) (σ := s₁) (g' := (mkF m 0 #[.val (.ref a1)] [])) (ef_2 m a1) ?_
  refine g_aloadN X0 hx (hb hby d2_0) 1 rfl (v := (.ref a1)) rfl rfl ?_
  obtain ⟨T1, X1, e1, st1⟩ := initO X0 hx hZ hown (hw _ (List.mem_of_getElem? (i := 11) rfl)) (hw _ (List.mem_of_getElem? (i := 12) rfl)) (hw _ (List.mem_of_getElem? (i := 13) rfl)) e0 (g := (mkF m 1 #[.val (.ref a1)] [(.ref a1)])) rfl (by rw [hml]; rfl) rfl (hb hby d2_1) (by decide) (W := 0) (by show 2 * 0 + _ ≤ _; exact Nat.le_of_eq rfl) (by decide)
  refine Go.st st1 ?_
  show Go p e below _ (T1.setTop (mkF m 4 #[.val (.ref a1)] []))
  refine Go.retV X1 hx hlk Bd.returns (hb hby d2_4) (by decide) (by decide) ?_
  show Q2 Z a1 h0 n0 _ T1.heap _
  rw [e1]
  exact ⟨rfl, N0, rfl⟩
theorem own_pn_com_example_peerpool_peerpool_core_UnitVector : plainName "com/example/peerpool/peerpool/core/UnitVector" = true := by first | (simp [plainName, overriddenIn]; done) | decide +kernel
theorem ef_1 (m : MethodId) (x0 : Addr) (x1 : UInt64) (x2 : UInt64) (x3 : UInt64) : entryFrame m #[(.ref x0), (.double x1), (.double x2), (.double x3)] 7 = mkF m 0 #[.val (.ref x0), .val (.double x1), .second, .val (.double x2), .second, .val (.double x3), .second] [] := by first | (simp [entryFrame, mkF, argsToLocals, Value.category]; done) | rfl
theorem d1_0 : decode prog_31_method_1_code 0 = .ok (.aload_n 0, 1) := by decide +kernel
theorem own_pd0 : parseMethodDescriptor "()V" = some ⟨[], none⟩ := by decide +kernel
theorem d1_1 : decode prog_31_method_1_code 1 = .ok (.invokespecial 1, 3) := by decide +kernel
theorem d1_4 : decode prog_31_method_1_code 4 = .ok (.aload_n 0, 1) := by decide +kernel
theorem d1_5 : decode prog_31_method_1_code 5 = .ok (.dload_n 1, 1) := by decide +kernel
theorem d1_6 : decode prog_31_method_1_code 6 = .ok (.putfield 7, 3) := by decide +kernel
theorem d1_9 : decode prog_31_method_1_code 9 = .ok (.aload_n 0, 1) := by decide +kernel
theorem d1_10 : decode prog_31_method_1_code 10 = .ok (.dload_n 3, 1) := by decide +kernel
theorem d1_11 : decode prog_31_method_1_code 11 = .ok (.putfield 13, 3) := by decide +kernel
theorem d1_14 : decode prog_31_method_1_code 14 = .ok (.aload_n 0, 1) := by decide +kernel
theorem d1_15 : decode prog_31_method_1_code 15 = .ok (.dload 5, 2) := by decide +kernel
theorem d1_17 : decode prog_31_method_1_code 17 = .ok (.putfield 16, 3) := by decide +kernel
theorem d1_20 : decode prog_31_method_1_code 20 = .ok (.return_, 1) := by decide +kernel
def Q1 (Z : State) (a1 : Addr) (d1 : UInt64) (d2 : UInt64) (d3 : UInt64) (u0 : Value) (u1 : Value) (u2 : Value) (h0 : Heap) (n0 : Nat) (v : Option Value) (h : Heap) (L : List Loc) : Prop := v = none ∧ Fr n0 L ∧ Keep h0 h [a1] ∧ (Exa Z h a1 "com/example/peerpool/peerpool/core/UnitVector") ∧ (Fld Z h a1 "com/example/peerpool/peerpool/core/UnitVector" "x" "D" (.double d1)) ∧ (Fld Z h a1 "com/example/peerpool/peerpool/core/UnitVector" "y" "D" (.double d2)) ∧ (Fld Z h a1 "com/example/peerpool/peerpool/core/UnitVector" "z" "D" (.double d3))
set_option maxRecDepth 65536 in
set_option maxHeartbeats 40000000 in
theorem rm1 (l : Launch) (Z : State) (a0 : Array Value) (hw : ∀ d ∈ tables_1, d.before a0 Z = true) (ws : List Jvm.Cond) (a1 : Addr) (d1 : UInt64) (d2 : UInt64) (d3 : UInt64) (u0 : Value) (u1 : Value) (u2 : Value) (h0 : Heap) (n0 : Nat) (Z0 : n0 ≤ h0.size) (E_a1 : Exa Z h0 a1 "com/example/peerpool/peerpool/core/UnitVector") (g_a1 : n0 ≤ a1) (F_x_a1 : Fld Z h0 a1 "com/example/peerpool/peerpool/core/UnitVector" "x" "D" u0) (F_y_a1 : Fld Z h0 a1 "com/example/peerpool/peerpool/core/UnitVector" "y" "D" u1) (F_z_a1 : Fld Z h0 a1 "com/example/peerpool/peerpool/core/UnitVector" "z" "D" u2) :
    MetFree l (⟨"com/example/peerpool/peerpool/core/UnitVector", "<init>", "(DDD)V"⟩ : MethodName) (head1 (Jvm.Cond.code (⟨"com/example/peerpool/peerpool/core/UnitVector", "<init>", "(DDD)V"⟩ : MethodName) prog_31_method_1_code 7 none :: ws) ({ frames := 2, cells := 0, slots := 0, locals := 24 } : Room)) (fun a U => a = #[(.ref a1), (.double d1), (.double d2), (.double d3)] ∧ Z.Warmed39 U.vm ∧ U.heap = h0) (fun _ _ _ _ _ => True) (fun _ U o U' => ∃ v L, o = .returned v ∧ Q1 Z a1 d1 d2 d3 u0 u1 u2 h0 n0 v U'.heap L ∧ FrameEnd U o U' L ({ frames := 2, cells := 0, slots := 0, locals := 24 } : Room).cells ({ frames := 2, cells := 0, slots := 0, locals := 24 } : Room).slots) := by
  refine MetFree.of_bodySF (plainFor_of_name own_pn_com_example_peerpool_peerpool_core_UnitVector) hisR ?_
  intro p e s m args below meth c s₁ Bd hml0 hP hK
  obtain ⟨rfl, hZ, hh⟩ := hP
  have hx := Bd.exec
  have hby := Bd.bytes
  have hlk := Bd.notSynchronized
  have hml : c.maxLocals = 7 := hml0
  have hown : s.vm.findClass "com/example/peerpool/peerpool/core/UnitVector" = some m.cls := findClass_of_methodNamed Bd.named
  have hnm := (name_of_methodNamed Bd.named Bd.method).1
  have X0 : Stand p l e ({ frames := 2, cells := 0, slots := 0, locals := 24 } : Room) s m #[(.ref a1), (.double d1), (.double d2), (.double d3)] below meth c s₁ [] 0 0 := Stand.of_body Bd
  have e0 : s₁.heap = h0 := by rw [← hh, Bd.state]; rfl
  have N0 := Fr.nil n0
  have K0 : Keep h0 h0 [a1] := Keep.refl _ _
  show Go p e below (KQ s below (Q1 Z a1 d1 d2 d3 u0 u1 u2 h0 n0) ({ frames := 2, cells := 0, slots := 0, locals := 24 } : Room).cells ({ frames := 2, cells := 0, slots := 0, locals := 24 } : Room).slots) _
  refine Go.body (T := s₁) (σ := s₁) (g' := (mkF m 0 #[.val (.ref a1), .val (.double d1), .second, .val (.double d2), .second, .val (.double d3), .second] [])) (ef_1 m a1 d1 d2 d3) ?_
  refine g_aloadN X0 hx (hb hby d1_0) 1 rfl (v := (.ref a1)) rfl rfl ?_
  obtain ⟨_, _, ⟨T2, L2, k2, n2⟩, -, X2, ⟨Lc2, hQ2, l2, y2, z2⟩, st2⟩ := X0.specialBack hx (y := (⟨"java/lang/Record", "<init>", "()V"⟩ : MethodName)) rfl hown (mvT hZ (hw _ (List.mem_of_getElem? (i := 6) rfl))) (mvT hZ (hw _ (List.mem_of_getElem? (i := 7) rfl))) (mvT hZ (hw _ (List.mem_of_getElem? (i := 10) rfl))) (by decide) (backOf (W := 0) (rm2 l Z a0 hw [] a1 h0 n0 Z0 ) hZ (hw _ (List.mem_of_getElem? (i := 10) rfl)) (hw _ (List.mem_of_getElem? (i := 9) rfl)) (by decide) (by decide)) (g := (mkF m 1 #[.val (.ref a1), .val (.double d1), .second, .val (.double d2), .second, .val (.double d3), .second] [(.ref a1)])) rfl (by rw [hml]; rfl) (Steps.refl _) (a := a1) (argsL := []) (rest := []) (lenOf own_pd0 rfl) rfl (by show 2 * 0 + _ ≤ _; exact Nat.le_of_eq rfl) (hb hby d1_1) (fun _ _ => ⟨rfl, e0, (by decide : 0 + 0 ≤ _), (by decide : 0 + 0 ≤ _)⟩)
  dsimp only [Pt.U, Pt.locs, Pt.cells, Pt.slots] at X2 l2 y2 z2 st2 hQ2
  subst l2 y2 z2
  obtain ⟨rfl, Nq2, e2⟩ := hQ2
  refine Go.tr st2 ?_
  have N2 := Fr.app N0 Nq2
  show Go p e below _ (T2.setTop (mkF m 4 #[.val (.ref a1), .val (.double d1), .second, .val (.double d2), .second, .val (.double d3), .second] []))
  refine g_aloadN X2 hx (hb hby d1_4) 5 rfl (v := (.ref a1)) rfl rfl ?_
  refine g_dloadN X2 hx (hb hby d1_5) 6 rfl (v := d1) rfl ?_
  obtain ⟨T3, h3, X3, e3, W3, st3⟩ := putF X2 hx hZ hown (host := "") (Or.inl (hw _ (List.mem_of_getElem? (i := 14) rfl))) Via.refl e2 F_x_a1 E_a1 (Or.inr ⟨(hw _ (List.mem_of_getElem? (i := 15) rfl)), rfl, hnm⟩) (hw _ (List.mem_of_getElem? (i := 1) rfl)) (ty := .double) (by decide) rfl rfl (g := (mkF m 6 #[.val (.ref a1), .val (.double d1), .second, .val (.double d2), .second, .val (.double d3), .second] [(.double d1), (.ref a1)])) rfl rfl (hb hby d1_6)
  refine Go.st st3 ?_
  have E_a1_4 : Exa Z h3 a1 "com/example/peerpool/peerpool/core/UnitVector" := Exa.wr W3 E_a1
  have F_y_a1_4 : Fld Z h3 a1 "com/example/peerpool/peerpool/core/UnitVector" "y" "D" u1 := Fld.other W3 F_y_a1 (Or.inr (slot_ne (Or.inr (hw _ (List.mem_of_getElem? (i := 17) rfl))) (Or.inr (hw _ (List.mem_of_getElem? (i := 15) rfl))) (by decide) (t := .double) (t' := .double) (by decide) (by decide)))
  have F_z_a1_4 : Fld Z h3 a1 "com/example/peerpool/peerpool/core/UnitVector" "z" "D" u2 := Fld.other W3 F_z_a1 (Or.inr (slot_ne (Or.inr (hw _ (List.mem_of_getElem? (i := 19) rfl))) (Or.inr (hw _ (List.mem_of_getElem? (i := 15) rfl))) (by decide) (t := .double) (t' := .double) (by decide) (by decide)))
  have F_x_a1_3w : Fld Z h3 a1 "com/example/peerpool/peerpool/core/UnitVector" "x" "D" (.double d1) := Fld.same W3 F_x_a1
  have K3 : Keep h0 h3 [a1] := Keep.wr K0 W3 (Or.inl (List.mem_of_getElem? (i := 0) rfl))
  have N3 := Fr.snoc X3 N2 g_a1
  have Zs3 : n0 ≤ h3.size := by rw [W3.size]; exact Z0
  show Go p e below _ (T3.setTop (mkF m 9 #[.val (.ref a1), .val (.double d1), .second, .val (.double d2), .second, .val (.double d3), .second] []))
  refine g_aloadN X3 hx (hb hby d1_9) 10 rfl (v := (.ref a1)) rfl rfl ?_
  refine g_dloadN X3 hx (hb hby d1_10) 11 rfl (v := d2) rfl ?_
  obtain ⟨T5, h5, X5, e5, W5, st5⟩ := putF X3 hx hZ hown (host := "") (Or.inl (hw _ (List.mem_of_getElem? (i := 16) rfl))) Via.refl e3 F_y_a1_4 E_a1_4 (Or.inr ⟨(hw _ (List.mem_of_getElem? (i := 17) rfl)), rfl, hnm⟩) (hw _ (List.mem_of_getElem? (i := 1) rfl)) (ty := .double) (by decide) rfl rfl (g := (mkF m 11 #[.val (.ref a1), .val (.double d1), .second, .val (.double d2), .second, .val (.double d3), .second] [(.double d2), (.ref a1)])) rfl rfl (hb hby d1_11)
  refine Go.st st5 ?_
  have E_a1_6 : Exa Z h5 a1 "com/example/peerpool/peerpool/core/UnitVector" := Exa.wr W5 E_a1_4
  have F_z_a1_6 : Fld Z h5 a1 "com/example/peerpool/peerpool/core/UnitVector" "z" "D" u2 := Fld.other W5 F_z_a1_4 (Or.inr (slot_ne (Or.inr (hw _ (List.mem_of_getElem? (i := 19) rfl))) (Or.inr (hw _ (List.mem_of_getElem? (i := 17) rfl))) (by decide) (t := .double) (t' := .double) (by decide) (by decide)))
  have F_x_a1_6 : Fld Z h5 a1 "com/example/peerpool/peerpool/core/UnitVector" "x" "D" (.double d1) := Fld.other W5 F_x_a1_3w (Or.inr (slot_ne (Or.inr (hw _ (List.mem_of_getElem? (i := 15) rfl))) (Or.inr (hw _ (List.mem_of_getElem? (i := 17) rfl))) (by decide) (t := .double) (t' := .double) (by decide) (by decide)))
  have F_y_a1_5w : Fld Z h5 a1 "com/example/peerpool/peerpool/core/UnitVector" "y" "D" (.double d2) := Fld.same W5 F_y_a1_4
  have K5 : Keep h0 h5 [a1] := Keep.wr K3 W5 (Or.inl (List.mem_of_getElem? (i := 0) rfl))
  have N5 := Fr.snoc X5 N3 g_a1
  have Zs5 : n0 ≤ h5.size := by rw [W5.size]; exact Zs3
  show Go p e below _ (T5.setTop (mkF m 14 #[.val (.ref a1), .val (.double d1), .second, .val (.double d2), .second, .val (.double d3), .second] []))
  refine g_aloadN X5 hx (hb hby d1_14) 15 rfl (v := (.ref a1)) rfl rfl ?_
  refine g_dload X5 hx (hb hby d1_15) 17 rfl (v := d3) rfl ?_
  obtain ⟨T7, h7, X7, e7, W7, st7⟩ := putF X5 hx hZ hown (host := "") (Or.inl (hw _ (List.mem_of_getElem? (i := 18) rfl))) Via.refl e5 F_z_a1_6 E_a1_6 (Or.inr ⟨(hw _ (List.mem_of_getElem? (i := 19) rfl)), rfl, hnm⟩) (hw _ (List.mem_of_getElem? (i := 1) rfl)) (ty := .double) (by decide) rfl rfl (g := (mkF m 17 #[.val (.ref a1), .val (.double d1), .second, .val (.double d2), .second, .val (.double d3), .second] [(.double d3), (.ref a1)])) rfl rfl (hb hby d1_17)
  refine Go.st st7 ?_
  have E_a1_8 : Exa Z h7 a1 "com/example/peerpool/peerpool/core/UnitVector" := Exa.wr W7 E_a1_6
  have F_x_a1_8 : Fld Z h7 a1 "com/example/peerpool/peerpool/core/UnitVector" "x" "D" (.double d1) := Fld.other W7 F_x_a1_6 (Or.inr (slot_ne (Or.inr (hw _ (List.mem_of_getElem? (i := 15) rfl))) (Or.inr (hw _ (List.mem_of_getElem? (i := 19) rfl))) (by decide) (t := .double) (t' := .double) (by decide) (by decide)))
  have F_y_a1_8 : Fld Z h7 a1 "com/example/peerpool/peerpool/core/UnitVector" "y" "D" (.double d2) := Fld.other W7 F_y_a1_5w (Or.inr (slot_ne (Or.inr (hw _ (List.mem_of_getElem? (i := 17) rfl))) (Or.inr (hw _ (List.mem_of_getElem? (i := 19) rfl))) (by decide) (t := .double) (t' := .double) (by decide) (by decide)))
  have F_z_a1_7w : Fld Z h7 a1 "com/example/peerpool/peerpool/core/UnitVector" "z" "D" (.double d3) := Fld.same W7 F_z_a1_6
  have K7 : Keep h0 h7 [a1] := Keep.wr K5 W7 (Or.inl (List.mem_of_getElem? (i := 0) rfl))
  have N7 := Fr.snoc X7 N5 g_a1
  have Zs7 : n0 ≤ h7.size := by rw [W7.size]; exact Zs5
  show Go p e below _ (T7.setTop (mkF m 20 #[.val (.ref a1), .val (.double d1), .second, .val (.double d2), .second, .val (.double d3), .second] []))
  refine Go.retV X7 hx hlk Bd.returns (hb hby d1_20) (by decide) (by decide) ?_
  show Q1 Z a1 d1 d2 d3 u0 u1 u2 h0 n0 _ T7.heap _
  rw [e7]
  exact ⟨rfl, N7, K7, E_a1_8, F_x_a1_8, F_y_a1_8, F_z_a1_7w⟩
theorem ef_4 (m : MethodId) (x0 : Addr) (x1 : Addr) : entryFrame m #[(.ref x0), (.ref x1)] 8 = mkF m 0 #[.val (.ref x0), .val (.ref x1), .unset, .unset, .unset, .unset, .unset, .unset] [] := by first | (simp [entryFrame, mkF, argsToLocals, Value.category]; done) | rfl
theorem d4_0 : decode prog_31_method_5_code 0 = .ok (.aload_n 0, 1) := by decide +kernel
theorem d4_1 : decode prog_31_method_5_code 1 = .ok (.getfield 7, 3) := by decide +kernel
theorem d4_4 : decode prog_31_method_5_code 4 = .ok (.aload_n 1, 1) := by decide +kernel
theorem d4_5 : decode prog_31_method_5_code 5 = .ok (.getfield 7, 3) := by decide +kernel
theorem d4_8 : decode prog_31_method_5_code 8 = .ok (.dsub, 1) := by decide +kernel
theorem d4_9 : decode prog_31_method_5_code 9 = .ok (.dstore_n 2, 1) := by decide +kernel
theorem d4_10 : decode prog_31_method_5_code 10 = .ok (.aload_n 0, 1) := by decide +kernel
theorem d4_11 : decode prog_31_method_5_code 11 = .ok (.getfield 13, 3) := by decide +kernel
theorem d4_14 : decode prog_31_method_5_code 14 = .ok (.aload_n 1, 1) := by decide +kernel
theorem d4_15 : decode prog_31_method_5_code 15 = .ok (.getfield 13, 3) := by decide +kernel
theorem d4_18 : decode prog_31_method_5_code 18 = .ok (.dsub, 1) := by decide +kernel
theorem d4_19 : decode prog_31_method_5_code 19 = .ok (.dstore 4, 2) := by decide +kernel
theorem d4_21 : decode prog_31_method_5_code 21 = .ok (.aload_n 0, 1) := by decide +kernel
theorem d4_22 : decode prog_31_method_5_code 22 = .ok (.getfield 16, 3) := by decide +kernel
theorem d4_25 : decode prog_31_method_5_code 25 = .ok (.aload_n 1, 1) := by decide +kernel
theorem d4_26 : decode prog_31_method_5_code 26 = .ok (.getfield 16, 3) := by decide +kernel
theorem d4_29 : decode prog_31_method_5_code 29 = .ok (.dsub, 1) := by decide +kernel
theorem d4_30 : decode prog_31_method_5_code 30 = .ok (.dstore 6, 2) := by decide +kernel
theorem d4_32 : decode prog_31_method_5_code 32 = .ok (.dload_n 2, 1) := by decide +kernel
theorem d4_33 : decode prog_31_method_5_code 33 = .ok (.dload_n 2, 1) := by decide +kernel
theorem d4_34 : decode prog_31_method_5_code 34 = .ok (.dmul, 1) := by decide +kernel
theorem d4_35 : decode prog_31_method_5_code 35 = .ok (.dload 4, 2) := by decide +kernel
theorem d4_37 : decode prog_31_method_5_code 37 = .ok (.dload 4, 2) := by decide +kernel
theorem d4_39 : decode prog_31_method_5_code 39 = .ok (.dmul, 1) := by decide +kernel
theorem d4_40 : decode prog_31_method_5_code 40 = .ok (.dadd, 1) := by decide +kernel
theorem d4_41 : decode prog_31_method_5_code 41 = .ok (.dload 6, 2) := by decide +kernel
theorem d4_43 : decode prog_31_method_5_code 43 = .ok (.dload 6, 2) := by decide +kernel
theorem d4_45 : decode prog_31_method_5_code 45 = .ok (.dmul, 1) := by decide +kernel
theorem d4_46 : decode prog_31_method_5_code 46 = .ok (.dadd, 1) := by decide +kernel
theorem d4_47 : decode prog_31_method_5_code 47 = .ok (.dreturn, 1) := by decide +kernel
def Q4 (Z : State) (a1 : Addr) (a2 : Addr) (x1 : Int64) (y1 : Int64) (z1 : Int64) (x2 : Int64) (y2 : Int64) (z2 : Int64) (h0 : Heap) (n0 : Nat) (v : Option Value) (h : Heap) (L : List Loc) : Prop := v = some (.double (FP.l2d (own_ch x1 y1 z1 x2 y2 z2))) ∧ Fr n0 L ∧ h = h0
set_option maxRecDepth 65536 in
set_option maxHeartbeats 40000000 in
theorem rm4 (l : Launch) (Z : State) (a0 : Array Value) (hw : ∀ d ∈ tables_1, d.before a0 Z = true) (ws : List Jvm.Cond) (a1 : Addr) (a2 : Addr) (x1 : Int64) (y1 : Int64) (z1 : Int64) (x2 : Int64) (y2 : Int64) (z2 : Int64) (h0 : Heap) (n0 : Nat) (Z0 : n0 ≤ h0.size) (F_x_a1 : Fld Z h0 a1 "com/example/peerpool/peerpool/core/UnitVector" "x" "D" (.double (FP.l2d x1))) (F_y_a1 : Fld Z h0 a1 "com/example/peerpool/peerpool/core/UnitVector" "y" "D" (.double (FP.l2d y1))) (F_z_a1 : Fld Z h0 a1 "com/example/peerpool/peerpool/core/UnitVector" "z" "D" (.double (FP.l2d z1))) (F_x_a2 : Fld Z h0 a2 "com/example/peerpool/peerpool/core/UnitVector" "x" "D" (.double (FP.l2d x2))) (F_y_a2 : Fld Z h0 a2 "com/example/peerpool/peerpool/core/UnitVector" "y" "D" (.double (FP.l2d y2))) (F_z_a2 : Fld Z h0 a2 "com/example/peerpool/peerpool/core/UnitVector" "z" "D" (.double (FP.l2d z2))) (h_x1 : own_B x1) (h_y1 : own_B y1) (h_z1 : own_B z1) (h_x2 : own_B x2) (h_y2 : own_B y2) (h_z2 : own_B z2) :
    MetFree l (⟨"com/example/peerpool/peerpool/core/UnitVector", "chordSquared", "(Lcom/example/peerpool/peerpool/core/UnitVector;)D"⟩ : MethodName) (head1 (Jvm.Cond.code (⟨"com/example/peerpool/peerpool/core/UnitVector", "chordSquared", "(Lcom/example/peerpool/peerpool/core/UnitVector;)D"⟩ : MethodName) prog_31_method_5_code 8 (some .double) :: ws) ({ frames := 0, cells := 0, slots := 0, locals := 0 } : Room)) (fun a U => a = #[(.ref a1), (.ref a2)] ∧ Z.Warmed39 U.vm ∧ U.heap = h0) (fun _ _ _ _ _ => True) (fun _ U o U' => ∃ v L, o = .returned v ∧ Q4 Z a1 a2 x1 y1 z1 x2 y2 z2 h0 n0 v U'.heap L ∧ FrameEnd U o U' L ({ frames := 0, cells := 0, slots := 0, locals := 0 } : Room).cells ({ frames := 0, cells := 0, slots := 0, locals := 0 } : Room).slots) := by
  refine MetFree.of_bodySF (plainFor_of_name own_pn_com_example_peerpool_peerpool_core_UnitVector) hisR ?_
  intro p e s m args below meth c s₁ Bd hml0 hP hK
  obtain ⟨rfl, hZ, hh⟩ := hP
  have hx := Bd.exec
  have hby := Bd.bytes
  have hlk := Bd.notSynchronized
  have hml : c.maxLocals = 8 := hml0
  have hown : s.vm.findClass "com/example/peerpool/peerpool/core/UnitVector" = some m.cls := findClass_of_methodNamed Bd.named
  have hnm := (name_of_methodNamed Bd.named Bd.method).1
  have X0 : Stand p l e ({ frames := 0, cells := 0, slots := 0, locals := 0 } : Room) s m #[(.ref a1), (.ref a2)] below meth c s₁ [] 0 0 := Stand.of_body Bd
  have e0 : s₁.heap = h0 := by rw [← hh, Bd.state]; rfl
  have N0 := Fr.nil n0
  show Go p e below (KQ s below (Q4 Z a1 a2 x1 y1 z1 x2 y2 z2 h0 n0) ({ frames := 0, cells := 0, slots := 0, locals := 0 } : Room).cells ({ frames := 0, cells := 0, slots := 0, locals := 0 } : Room).slots) _
  refine Go.body (T := s₁) (σ := s₁) (g' := (mkF m 0 #[.val (.ref a1), .val (.ref a2), .unset, .unset, .unset, .unset, .unset, .unset] [])) (ef_4 m a1 a2) ?_
  refine g_aloadN X0 hx (hb hby d4_0) 1 rfl (v := (.ref a1)) rfl rfl ?_
  obtain ⟨T9, X9, e9, st9⟩ := getF X0 hx hZ hown (host := "") (Or.inl (hw _ (List.mem_of_getElem? (i := 14) rfl))) Via.refl e0 F_x_a1 (g := (mkF m 1 #[.val (.ref a1), .val (.ref a2), .unset, .unset, .unset, .unset, .unset, .unset] [(.ref a1)])) rfl rfl (hb hby d4_1)
  refine Go.st st9 ?_
  show Go p e below _ (T9.setTop (mkF m 4 #[.val (.ref a1), .val (.ref a2), .unset, .unset, .unset, .unset, .unset, .unset] [(.double (FP.l2d x1))]))
  refine g_aloadN X9 hx (hb hby d4_4) 5 rfl (v := (.ref a2)) rfl rfl ?_
  obtain ⟨T10, X10, e10, st10⟩ := getF X9 hx hZ hown (host := "") (Or.inl (hw _ (List.mem_of_getElem? (i := 14) rfl))) Via.refl e9 F_x_a2 (g := (mkF m 5 #[.val (.ref a1), .val (.ref a2), .unset, .unset, .unset, .unset, .unset, .unset] [(.ref a2), (.double (FP.l2d x1))])) rfl rfl (hb hby d4_5)
  refine Go.st st10 ?_
  show Go p e below _ (T10.setTop (mkF m 8 #[.val (.ref a1), .val (.ref a2), .unset, .unset, .unset, .unset, .unset, .unset] [(.double (FP.l2d x2)), (.double (FP.l2d x1))]))
  refine g_dsub X10 hx (hb hby d4_8) 9 rfl (FP.l2d (x1 - x2)) (own_nn _) (own_dsub h_x1 h_x2) ?_
  refine g_dstoreN X10 hx (hb hby d4_9) 10 rfl #[.val (.ref a1), .val (.ref a2), .val (.double (FP.l2d (x1 - x2))), .second, .unset, .unset, .unset, .unset] rfl ?_
  refine g_aloadN X10 hx (hb hby d4_10) 11 rfl (v := (.ref a1)) rfl rfl ?_
  obtain ⟨T11, X11, e11, st11⟩ := getF X10 hx hZ hown (host := "") (Or.inl (hw _ (List.mem_of_getElem? (i := 16) rfl))) Via.refl e10 F_y_a1 (g := (mkF m 11 #[.val (.ref a1), .val (.ref a2), .val (.double (FP.l2d (x1 - x2))), .second, .unset, .unset, .unset, .unset] [(.ref a1)])) rfl rfl (hb hby d4_11)
  refine Go.st st11 ?_
  show Go p e below _ (T11.setTop (mkF m 14 #[.val (.ref a1), .val (.ref a2), .val (.double (FP.l2d (x1 - x2))), .second, .unset, .unset, .unset, .unset] [(.double (FP.l2d y1))]))
  refine g_aloadN X11 hx (hb hby d4_14) 15 rfl (v := (.ref a2)) rfl rfl ?_
  obtain ⟨T12, X12, e12, st12⟩ := getF X11 hx hZ hown (host := "") (Or.inl (hw _ (List.mem_of_getElem? (i := 16) rfl))) Via.refl e11 F_y_a2 (g := (mkF m 15 #[.val (.ref a1), .val (.ref a2), .val (.double (FP.l2d (x1 - x2))), .second, .unset, .unset, .unset, .unset] [(.ref a2), (.double (FP.l2d y1))])) rfl rfl (hb hby d4_15)
  refine Go.st st12 ?_
  show Go p e below _ (T12.setTop (mkF m 18 #[.val (.ref a1), .val (.ref a2), .val (.double (FP.l2d (x1 - x2))), .second, .unset, .unset, .unset, .unset] [(.double (FP.l2d y2)), (.double (FP.l2d y1))]))
  refine g_dsub X12 hx (hb hby d4_18) 19 rfl (FP.l2d (y1 - y2)) (own_nn _) (own_dsub h_y1 h_y2) ?_
  refine g_dstore X12 hx (hb hby d4_19) 21 rfl #[.val (.ref a1), .val (.ref a2), .val (.double (FP.l2d (x1 - x2))), .second, .val (.double (FP.l2d (y1 - y2))), .second, .unset, .unset] rfl ?_
  refine g_aloadN X12 hx (hb hby d4_21) 22 rfl (v := (.ref a1)) rfl rfl ?_
  obtain ⟨T13, X13, e13, st13⟩ := getF X12 hx hZ hown (host := "") (Or.inl (hw _ (List.mem_of_getElem? (i := 18) rfl))) Via.refl e12 F_z_a1 (g := (mkF m 22 #[.val (.ref a1), .val (.ref a2), .val (.double (FP.l2d (x1 - x2))), .second, .val (.double (FP.l2d (y1 - y2))), .second, .unset, .unset] [(.ref a1)])) rfl rfl (hb hby d4_22)
  refine Go.st st13 ?_
  show Go p e below _ (T13.setTop (mkF m 25 #[.val (.ref a1), .val (.ref a2), .val (.double (FP.l2d (x1 - x2))), .second, .val (.double (FP.l2d (y1 - y2))), .second, .unset, .unset] [(.double (FP.l2d z1))]))
  refine g_aloadN X13 hx (hb hby d4_25) 26 rfl (v := (.ref a2)) rfl rfl ?_
  obtain ⟨T14, X14, e14, st14⟩ := getF X13 hx hZ hown (host := "") (Or.inl (hw _ (List.mem_of_getElem? (i := 18) rfl))) Via.refl e13 F_z_a2 (g := (mkF m 26 #[.val (.ref a1), .val (.ref a2), .val (.double (FP.l2d (x1 - x2))), .second, .val (.double (FP.l2d (y1 - y2))), .second, .unset, .unset] [(.ref a2), (.double (FP.l2d z1))])) rfl rfl (hb hby d4_26)
  refine Go.st st14 ?_
  show Go p e below _ (T14.setTop (mkF m 29 #[.val (.ref a1), .val (.ref a2), .val (.double (FP.l2d (x1 - x2))), .second, .val (.double (FP.l2d (y1 - y2))), .second, .unset, .unset] [(.double (FP.l2d z2)), (.double (FP.l2d z1))]))
  refine g_dsub X14 hx (hb hby d4_29) 30 rfl (FP.l2d (z1 - z2)) (own_nn _) (own_dsub h_z1 h_z2) ?_
  refine g_dstore X14 hx (hb hby d4_30) 32 rfl #[.val (.ref a1), .val (.ref a2), .val (.double (FP.l2d (x1 - x2))), .second, .val (.double (FP.l2d (y1 - y2))), .second, .val (.double (FP.l2d (z1 - z2))), .second] rfl ?_
  refine g_dloadN X14 hx (hb hby d4_32) 33 rfl (v := (FP.l2d (x1 - x2))) rfl ?_
  refine g_dloadN X14 hx (hb hby d4_33) 34 rfl (v := (FP.l2d (x1 - x2))) rfl ?_
  refine g_dmul X14 hx (hb hby d4_34) 35 rfl (FP.l2d ((x1 - x2) * (x1 - x2))) (own_nn _) (own_dmul (own_dd h_x1 h_x2)) ?_
  refine g_dload X14 hx (hb hby d4_35) 37 rfl (v := (FP.l2d (y1 - y2))) rfl ?_
  refine g_dload X14 hx (hb hby d4_37) 39 rfl (v := (FP.l2d (y1 - y2))) rfl ?_
  refine g_dmul X14 hx (hb hby d4_39) 40 rfl (FP.l2d ((y1 - y2) * (y1 - y2))) (own_nn _) (own_dmul (own_dd h_y1 h_y2)) ?_
  refine g_dadd X14 hx (hb hby d4_40) 41 rfl (FP.l2d ((x1 - x2) * (x1 - x2) + (y1 - y2) * (y1 - y2))) (own_nn _) (own_dadd (own_S1 (own_dd h_x1 h_x2)) (own_S1 (own_dd h_y1 h_y2)) (by decide) (by decide)) ?_
  refine g_dload X14 hx (hb hby d4_41) 43 rfl (v := (FP.l2d (z1 - z2))) rfl ?_
  refine g_dload X14 hx (hb hby d4_43) 45 rfl (v := (FP.l2d (z1 - z2))) rfl ?_
  refine g_dmul X14 hx (hb hby d4_45) 46 rfl (FP.l2d ((z1 - z2) * (z1 - z2))) (own_nn _) (own_dmul (own_dd h_z1 h_z2)) ?_
  refine g_dadd X14 hx (hb hby d4_46) 47 rfl (FP.l2d ((x1 - x2) * (x1 - x2) + (y1 - y2) * (y1 - y2) + (z1 - z2) * (z1 - z2))) (own_nn _) (own_dadd (own_S2 (own_S1 (own_dd h_x1 h_x2)) (own_S1 (own_dd h_y1 h_y2)) (by decide)) (own_S1 (own_dd h_z1 h_z2)) (by decide) (by decide)) ?_
  refine Go.retD X14 hx hlk Bd.returns (hb hby d4_47) (by decide) (by decide) ?_
  show Q4 Z a1 a2 x1 y1 z1 x2 y2 z2 h0 n0 _ T14.heap _
  rw [e14]
  exact ⟨rfl, N0, rfl⟩
theorem own_pn_com_example_peerpool_peerpool_core_UnitVectorChordSquaredPinLaw : plainName "com/example/peerpool/peerpool/core/UnitVectorChordSquaredPinLaw" = true := by first | (simp [plainName, overriddenIn]; done) | decide +kernel
theorem ef_0 (m : MethodId) (x0 : Int32) (x1 : Int32) (x2 : Int32) (x3 : Int32) (x4 : Int32) (x5 : Int32) : entryFrame m #[(.int x0), (.int x1), (.int x2), (.int x3), (.int x4), (.int x5)] maxLocals = mkF m 0 #[.val (.int x0), .val (.int x1), .val (.int x2), .val (.int x3), .val (.int x4), .val (.int x5), .unset, .unset, .unset, .unset, .unset, .unset, .unset, .unset, .unset, .unset, .unset, .unset, .unset, .unset, .unset, .unset, .unset, .unset, .unset, .unset] [] := by first | (simp [entryFrame, mkF, argsToLocals, Value.category, maxLocals]; done) | rfl
theorem own_pd1 : parseMethodDescriptor "(DDD)V" = some ⟨[.double, .double, .double], none⟩ := by decide +kernel
theorem own_pd2 : parseMethodDescriptor "(Lcom/example/peerpool/peerpool/core/UnitVector;)D" = some ⟨[(.object "com/example/peerpool/peerpool/core/UnitVector")], some .double⟩ := by decide +kernel
def Q0 (Z : State) (p1 : Int32) (p2 : Int32) (p3 : Int32) (p4 : Int32) (p5 : Int32) (p6 : Int32) (h0 : Heap) (n0 : Nat) (v : Option Value) (h : Heap) (L : List Loc) : Prop := v = some (.int (1 : Int32)) ∧ Fr n0 L
set_option maxRecDepth 65536 in
set_option maxHeartbeats 40000000 in
theorem rm0 (l : Launch) (Z : State) (a0 : Array Value) (hw : ∀ d ∈ tables_1, d.before a0 Z = true) (ws : List Jvm.Cond) (p1 : Int32) (p2 : Int32) (p3 : Int32) (p4 : Int32) (p5 : Int32) (p6 : Int32) (h0 : Heap) (n0 : Nat) (Z0 : n0 ≤ h0.size) (hn0 : h0.size = n0) :
    MetFree l x (head1 (Jvm.Cond.code x code maxLocals ret :: ws) room_1) (fun a U => a = #[(.int p1), (.int p2), (.int p3), (.int p4), (.int p5), (.int p6)] ∧ Z.Warmed39 U.vm ∧ U.heap = h0) (fun _ _ _ _ _ => True) (fun _ U o U' => ∃ v L, o = .returned v ∧ Q0 Z p1 p2 p3 p4 p5 p6 h0 n0 v U'.heap L ∧ FrameEnd U o U' L 16 128) := by
  refine MetFree.of_bodySF (plainFor_of_name own_pn_com_example_peerpool_peerpool_core_UnitVectorChordSquaredPinLaw) hisR ?_
  intro p e s m args below meth c s₁ Bd hml0 hP hK
  obtain ⟨rfl, hZ, hh⟩ := hP
  have hx := Bd.exec
  have hby := Bd.bytes
  have hlk := Bd.notSynchronized
  have hml : c.maxLocals = 26 := hml0
  have hown : s.vm.findClass "com/example/peerpool/peerpool/core/UnitVectorChordSquaredPinLaw" = some m.cls := findClass_of_methodNamed Bd.named
  have hnm := (name_of_methodNamed Bd.named Bd.method).1
  have X0 : Stand p l e room_1 s m #[(.int p1), (.int p2), (.int p3), (.int p4), (.int p5), (.int p6)] below meth c s₁ [] 0 0 := Stand.of_body Bd
  have e0 : s₁.heap = h0 := by rw [← hh, Bd.state]; rfl
  have N0 := Fr.nil n0
  have K0 : Keep h0 h0 [] := Keep.refl _ _
  show Go p e below (KQ s below (Q0 Z p1 p2 p3 p4 p5 p6 h0 n0) 16 128) _
  refine Go.body (T := s₁) (σ := s₁) (g' := (mkF m 0 #[.val (.int p1), .val (.int p2), .val (.int p3), .val (.int p4), .val (.int p5), .val (.int p6), .unset, .unset, .unset, .unset, .unset, .unset, .unset, .unset, .unset, .unset, .unset, .unset, .unset, .unset, .unset, .unset, .unset, .unset, .unset, .unset] [])) (ef_0 m p1 p2 p3 p4 p5 p6) ?_
  refine g_iloadN X0 hx (hb hby at_0) 1 rfl (v := p1) rfl ?_
  refine g_bipush X0 hx (hb hby at_1) 3 rfl (11 : Int32) rfl ?_
  refine g_ishr X0 hx (hb hby at_3) 4 rfl (p1 >>> ((11 : Int32) &&& 31)) rfl ?_
  refine g_istore X0 hx (hb hby at_4) 6 rfl #[.val (.int p1), .val (.int p2), .val (.int p3), .val (.int p4), .val (.int p5), .val (.int p6), .val (.int (p1 >>> ((11 : Int32) &&& 31))), .unset, .unset, .unset, .unset, .unset, .unset, .unset, .unset, .unset, .unset, .unset, .unset, .unset, .unset, .unset, .unset, .unset, .unset, .unset] rfl ?_
  refine g_iloadN X0 hx (hb hby at_6) 7 rfl (v := p2) rfl ?_
  refine g_bipush X0 hx (hb hby at_7) 9 rfl (11 : Int32) rfl ?_
  refine g_ishr X0 hx (hb hby at_9) 10 rfl (p2 >>> ((11 : Int32) &&& 31)) rfl ?_
  refine g_istore X0 hx (hb hby at_10) 12 rfl #[.val (.int p1), .val (.int p2), .val (.int p3), .val (.int p4), .val (.int p5), .val (.int p6), .val (.int (p1 >>> ((11 : Int32) &&& 31))), .val (.int (p2 >>> ((11 : Int32) &&& 31))), .unset, .unset, .unset, .unset, .unset, .unset, .unset, .unset, .unset, .unset, .unset, .unset, .unset, .unset, .unset, .unset, .unset, .unset] rfl ?_
  refine g_iloadN X0 hx (hb hby at_12) 13 rfl (v := p3) rfl ?_
  refine g_bipush X0 hx (hb hby at_13) 15 rfl (11 : Int32) rfl ?_
  refine g_ishr X0 hx (hb hby at_15) 16 rfl (p3 >>> ((11 : Int32) &&& 31)) rfl ?_
  refine g_istore X0 hx (hb hby at_16) 18 rfl #[.val (.int p1), .val (.int p2), .val (.int p3), .val (.int p4), .val (.int p5), .val (.int p6), .val (.int (p1 >>> ((11 : Int32) &&& 31))), .val (.int (p2 >>> ((11 : Int32) &&& 31))), .val (.int (p3 >>> ((11 : Int32) &&& 31))), .unset, .unset, .unset, .unset, .unset, .unset, .unset, .unset, .unset, .unset, .unset, .unset, .unset, .unset, .unset, .unset, .unset] rfl ?_
  refine g_iloadN X0 hx (hb hby at_18) 19 rfl (v := p4) rfl ?_
  refine g_bipush X0 hx (hb hby at_19) 21 rfl (11 : Int32) rfl ?_
  refine g_ishr X0 hx (hb hby at_21) 22 rfl (p4 >>> ((11 : Int32) &&& 31)) rfl ?_
  refine g_istore X0 hx (hb hby at_22) 24 rfl #[.val (.int p1), .val (.int p2), .val (.int p3), .val (.int p4), .val (.int p5), .val (.int p6), .val (.int (p1 >>> ((11 : Int32) &&& 31))), .val (.int (p2 >>> ((11 : Int32) &&& 31))), .val (.int (p3 >>> ((11 : Int32) &&& 31))), .val (.int (p4 >>> ((11 : Int32) &&& 31))), .unset, .unset, .unset, .unset, .unset, .unset, .unset, .unset, .unset, .unset, .unset, .unset, .unset, .unset, .unset, .unset] rfl ?_
  refine g_iload X0 hx (hb hby at_24) 26 rfl (v := p5) rfl ?_
  refine g_bipush X0 hx (hb hby at_26) 28 rfl (11 : Int32) rfl ?_
  refine g_ishr X0 hx (hb hby at_28) 29 rfl (p5 >>> ((11 : Int32) &&& 31)) rfl ?_
  refine g_istore X0 hx (hb hby at_29) 31 rfl #[.val (.int p1), .val (.int p2), .val (.int p3), .val (.int p4), .val (.int p5), .val (.int p6), .val (.int (p1 >>> ((11 : Int32) &&& 31))), .val (.int (p2 >>> ((11 : Int32) &&& 31))), .val (.int (p3 >>> ((11 : Int32) &&& 31))), .val (.int (p4 >>> ((11 : Int32) &&& 31))), .val (.int (p5 >>> ((11 : Int32) &&& 31))), .unset, .unset, .unset, .unset, .unset, .unset, .unset, .unset, .unset, .unset, .unset, .unset, .unset, .unset, .unset] rfl ?_
  refine g_iload X0 hx (hb hby at_31) 33 rfl (v := p6) rfl ?_
  refine g_bipush X0 hx (hb hby at_33) 35 rfl (11 : Int32) rfl ?_
  refine g_ishr X0 hx (hb hby at_35) 36 rfl (p6 >>> ((11 : Int32) &&& 31)) rfl ?_
  refine g_istore X0 hx (hb hby at_36) 38 rfl #[.val (.int p1), .val (.int p2), .val (.int p3), .val (.int p4), .val (.int p5), .val (.int p6), .val (.int (p1 >>> ((11 : Int32) &&& 31))), .val (.int (p2 >>> ((11 : Int32) &&& 31))), .val (.int (p3 >>> ((11 : Int32) &&& 31))), .val (.int (p4 >>> ((11 : Int32) &&& 31))), .val (.int (p5 >>> ((11 : Int32) &&& 31))), .val (.int (p6 >>> ((11 : Int32) &&& 31))), .unset, .unset, .unset, .unset, .unset, .unset, .unset, .unset, .unset, .unset, .unset, .unset, .unset, .unset] rfl ?_
  refine g_iload X0 hx (hb hby at_38) 40 rfl (v := (p1 >>> ((11 : Int32) &&& 31))) rfl ?_
  refine g_i2l X0 hx (hb hby at_40) 41 rfl (p1 >>> ((11 : Int32) &&& 31)).toInt64 rfl ?_
  refine g_iload X0 hx (hb hby at_41) 43 rfl (v := (p4 >>> ((11 : Int32) &&& 31))) rfl ?_
  refine g_i2l X0 hx (hb hby at_43) 44 rfl (p4 >>> ((11 : Int32) &&& 31)).toInt64 rfl ?_
  refine g_lsub X0 hx (hb hby at_44) 45 rfl (((p1 >>> ((11 : Int32) &&& 31)).toInt64) - ((p4 >>> ((11 : Int32) &&& 31)).toInt64)) rfl ?_
  refine g_lstore X0 hx (hb hby at_45) 47 rfl #[.val (.int p1), .val (.int p2), .val (.int p3), .val (.int p4), .val (.int p5), .val (.int p6), .val (.int (p1 >>> ((11 : Int32) &&& 31))), .val (.int (p2 >>> ((11 : Int32) &&& 31))), .val (.int (p3 >>> ((11 : Int32) &&& 31))), .val (.int (p4 >>> ((11 : Int32) &&& 31))), .val (.int (p5 >>> ((11 : Int32) &&& 31))), .val (.int (p6 >>> ((11 : Int32) &&& 31))), .val (.long (((p1 >>> ((11 : Int32) &&& 31)).toInt64) - ((p4 >>> ((11 : Int32) &&& 31)).toInt64))), .second, .unset, .unset, .unset, .unset, .unset, .unset, .unset, .unset, .unset, .unset, .unset, .unset] rfl ?_
  refine g_iload X0 hx (hb hby at_47) 49 rfl (v := (p2 >>> ((11 : Int32) &&& 31))) rfl ?_
  refine g_i2l X0 hx (hb hby at_49) 50 rfl (p2 >>> ((11 : Int32) &&& 31)).toInt64 rfl ?_
  refine g_iload X0 hx (hb hby at_50) 52 rfl (v := (p5 >>> ((11 : Int32) &&& 31))) rfl ?_
  refine g_i2l X0 hx (hb hby at_52) 53 rfl (p5 >>> ((11 : Int32) &&& 31)).toInt64 rfl ?_
  refine g_lsub X0 hx (hb hby at_53) 54 rfl (((p2 >>> ((11 : Int32) &&& 31)).toInt64) - ((p5 >>> ((11 : Int32) &&& 31)).toInt64)) rfl ?_
  refine g_lstore X0 hx (hb hby at_54) 56 rfl #[.val (.int p1), .val (.int p2), .val (.int p3), .val (.int p4), .val (.int p5), .val (.int p6), .val (.int (p1 >>> ((11 : Int32) &&& 31))), .val (.int (p2 >>> ((11 : Int32) &&& 31))), .val (.int (p3 >>> ((11 : Int32) &&& 31))), .val (.int (p4 >>> ((11 : Int32) &&& 31))), .val (.int (p5 >>> ((11 : Int32) &&& 31))), .val (.int (p6 >>> ((11 : Int32) &&& 31))), .val (.long (((p1 >>> ((11 : Int32) &&& 31)).toInt64) - ((p4 >>> ((11 : Int32) &&& 31)).toInt64))), .second, .val (.long (((p2 >>> ((11 : Int32) &&& 31)).toInt64) - ((p5 >>> ((11 : Int32) &&& 31)).toInt64))), .second, .unset, .unset, .unset, .unset, .unset, .unset, .unset, .unset, .unset, .unset] rfl ?_
  refine g_iload X0 hx (hb hby at_56) 58 rfl (v := (p3 >>> ((11 : Int32) &&& 31))) rfl ?_
  refine g_i2l X0 hx (hb hby at_58) 59 rfl (p3 >>> ((11 : Int32) &&& 31)).toInt64 rfl ?_
  refine g_iload X0 hx (hb hby at_59) 61 rfl (v := (p6 >>> ((11 : Int32) &&& 31))) rfl ?_
  refine g_i2l X0 hx (hb hby at_61) 62 rfl (p6 >>> ((11 : Int32) &&& 31)).toInt64 rfl ?_
  refine g_lsub X0 hx (hb hby at_62) 63 rfl (((p3 >>> ((11 : Int32) &&& 31)).toInt64) - ((p6 >>> ((11 : Int32) &&& 31)).toInt64)) rfl ?_
  refine g_lstore X0 hx (hb hby at_63) 65 rfl #[.val (.int p1), .val (.int p2), .val (.int p3), .val (.int p4), .val (.int p5), .val (.int p6), .val (.int (p1 >>> ((11 : Int32) &&& 31))), .val (.int (p2 >>> ((11 : Int32) &&& 31))), .val (.int (p3 >>> ((11 : Int32) &&& 31))), .val (.int (p4 >>> ((11 : Int32) &&& 31))), .val (.int (p5 >>> ((11 : Int32) &&& 31))), .val (.int (p6 >>> ((11 : Int32) &&& 31))), .val (.long (((p1 >>> ((11 : Int32) &&& 31)).toInt64) - ((p4 >>> ((11 : Int32) &&& 31)).toInt64))), .second, .val (.long (((p2 >>> ((11 : Int32) &&& 31)).toInt64) - ((p5 >>> ((11 : Int32) &&& 31)).toInt64))), .second, .val (.long (((p3 >>> ((11 : Int32) &&& 31)).toInt64) - ((p6 >>> ((11 : Int32) &&& 31)).toInt64))), .second, .unset, .unset, .unset, .unset, .unset, .unset, .unset, .unset] rfl ?_
  refine g_lload X0 hx (hb hby at_65) 67 rfl (v := (((p1 >>> ((11 : Int32) &&& 31)).toInt64) - ((p4 >>> ((11 : Int32) &&& 31)).toInt64))) rfl ?_
  refine g_lload X0 hx (hb hby at_67) 69 rfl (v := (((p1 >>> ((11 : Int32) &&& 31)).toInt64) - ((p4 >>> ((11 : Int32) &&& 31)).toInt64))) rfl ?_
  refine g_lmul X0 hx (hb hby at_69) 70 rfl ((((p1 >>> ((11 : Int32) &&& 31)).toInt64) - ((p4 >>> ((11 : Int32) &&& 31)).toInt64)) * (((p1 >>> ((11 : Int32) &&& 31)).toInt64) - ((p4 >>> ((11 : Int32) &&& 31)).toInt64))) rfl ?_
  refine g_lload X0 hx (hb hby at_70) 72 rfl (v := (((p2 >>> ((11 : Int32) &&& 31)).toInt64) - ((p5 >>> ((11 : Int32) &&& 31)).toInt64))) rfl ?_
  refine g_lload X0 hx (hb hby at_72) 74 rfl (v := (((p2 >>> ((11 : Int32) &&& 31)).toInt64) - ((p5 >>> ((11 : Int32) &&& 31)).toInt64))) rfl ?_
  refine g_lmul X0 hx (hb hby at_74) 75 rfl ((((p2 >>> ((11 : Int32) &&& 31)).toInt64) - ((p5 >>> ((11 : Int32) &&& 31)).toInt64)) * (((p2 >>> ((11 : Int32) &&& 31)).toInt64) - ((p5 >>> ((11 : Int32) &&& 31)).toInt64))) rfl ?_
  refine g_ladd X0 hx (hb hby at_75) 76 rfl (((((p1 >>> ((11 : Int32) &&& 31)).toInt64) - ((p4 >>> ((11 : Int32) &&& 31)).toInt64)) * (((p1 >>> ((11 : Int32) &&& 31)).toInt64) - ((p4 >>> ((11 : Int32) &&& 31)).toInt64))) + ((((p2 >>> ((11 : Int32) &&& 31)).toInt64) - ((p5 >>> ((11 : Int32) &&& 31)).toInt64)) * (((p2 >>> ((11 : Int32) &&& 31)).toInt64) - ((p5 >>> ((11 : Int32) &&& 31)).toInt64)))) rfl ?_
  refine g_lload X0 hx (hb hby at_76) 78 rfl (v := (((p3 >>> ((11 : Int32) &&& 31)).toInt64) - ((p6 >>> ((11 : Int32) &&& 31)).toInt64))) rfl ?_
  refine g_lload X0 hx (hb hby at_78) 80 rfl (v := (((p3 >>> ((11 : Int32) &&& 31)).toInt64) - ((p6 >>> ((11 : Int32) &&& 31)).toInt64))) rfl ?_
  refine g_lmul X0 hx (hb hby at_80) 81 rfl ((((p3 >>> ((11 : Int32) &&& 31)).toInt64) - ((p6 >>> ((11 : Int32) &&& 31)).toInt64)) * (((p3 >>> ((11 : Int32) &&& 31)).toInt64) - ((p6 >>> ((11 : Int32) &&& 31)).toInt64))) rfl ?_
  refine g_ladd X0 hx (hb hby at_81) 82 rfl ((((((p1 >>> ((11 : Int32) &&& 31)).toInt64) - ((p4 >>> ((11 : Int32) &&& 31)).toInt64)) * (((p1 >>> ((11 : Int32) &&& 31)).toInt64) - ((p4 >>> ((11 : Int32) &&& 31)).toInt64))) + ((((p2 >>> ((11 : Int32) &&& 31)).toInt64) - ((p5 >>> ((11 : Int32) &&& 31)).toInt64)) * (((p2 >>> ((11 : Int32) &&& 31)).toInt64) - ((p5 >>> ((11 : Int32) &&& 31)).toInt64)))) + ((((p3 >>> ((11 : Int32) &&& 31)).toInt64) - ((p6 >>> ((11 : Int32) &&& 31)).toInt64)) * (((p3 >>> ((11 : Int32) &&& 31)).toInt64) - ((p6 >>> ((11 : Int32) &&& 31)).toInt64)))) rfl ?_
  refine g_lstore X0 hx (hb hby at_82) 84 rfl #[.val (.int p1), .val (.int p2), .val (.int p3), .val (.int p4), .val (.int p5), .val (.int p6), .val (.int (p1 >>> ((11 : Int32) &&& 31))), .val (.int (p2 >>> ((11 : Int32) &&& 31))), .val (.int (p3 >>> ((11 : Int32) &&& 31))), .val (.int (p4 >>> ((11 : Int32) &&& 31))), .val (.int (p5 >>> ((11 : Int32) &&& 31))), .val (.int (p6 >>> ((11 : Int32) &&& 31))), .val (.long (((p1 >>> ((11 : Int32) &&& 31)).toInt64) - ((p4 >>> ((11 : Int32) &&& 31)).toInt64))), .second, .val (.long (((p2 >>> ((11 : Int32) &&& 31)).toInt64) - ((p5 >>> ((11 : Int32) &&& 31)).toInt64))), .second, .val (.long (((p3 >>> ((11 : Int32) &&& 31)).toInt64) - ((p6 >>> ((11 : Int32) &&& 31)).toInt64))), .second, .val (.long ((((((p1 >>> ((11 : Int32) &&& 31)).toInt64) - ((p4 >>> ((11 : Int32) &&& 31)).toInt64)) * (((p1 >>> ((11 : Int32) &&& 31)).toInt64) - ((p4 >>> ((11 : Int32) &&& 31)).toInt64))) + ((((p2 >>> ((11 : Int32) &&& 31)).toInt64) - ((p5 >>> ((11 : Int32) &&& 31)).toInt64)) * (((p2 >>> ((11 : Int32) &&& 31)).toInt64) - ((p5 >>> ((11 : Int32) &&& 31)).toInt64)))) + ((((p3 >>> ((11 : Int32) &&& 31)).toInt64) - ((p6 >>> ((11 : Int32) &&& 31)).toInt64)) * (((p3 >>> ((11 : Int32) &&& 31)).toInt64) - ((p6 >>> ((11 : Int32) &&& 31)).toInt64))))), .second, .unset, .unset, .unset, .unset, .unset, .unset] rfl ?_
  obtain ⟨T15, h15, X15, e15, E15, A15, D15, -, st15⟩ := newO X0 hx hZ hown (hw _ (List.mem_of_getElem? (i := 0) rfl)) (hw _ (List.mem_of_getElem? (i := 1) rfl)) (hw _ (List.mem_of_getElem? (i := 2) rfl)) e0 (g := (mkF m 84 #[.val (.int p1), .val (.int p2), .val (.int p3), .val (.int p4), .val (.int p5), .val (.int p6), .val (.int (p1 >>> ((11 : Int32) &&& 31))), .val (.int (p2 >>> ((11 : Int32) &&& 31))), .val (.int (p3 >>> ((11 : Int32) &&& 31))), .val (.int (p4 >>> ((11 : Int32) &&& 31))), .val (.int (p5 >>> ((11 : Int32) &&& 31))), .val (.int (p6 >>> ((11 : Int32) &&& 31))), .val (.long (((p1 >>> ((11 : Int32) &&& 31)).toInt64) - ((p4 >>> ((11 : Int32) &&& 31)).toInt64))), .second, .val (.long (((p2 >>> ((11 : Int32) &&& 31)).toInt64) - ((p5 >>> ((11 : Int32) &&& 31)).toInt64))), .second, .val (.long (((p3 >>> ((11 : Int32) &&& 31)).toInt64) - ((p6 >>> ((11 : Int32) &&& 31)).toInt64))), .second, .val (.long ((((((p1 >>> ((11 : Int32) &&& 31)).toInt64) - ((p4 >>> ((11 : Int32) &&& 31)).toInt64)) * (((p1 >>> ((11 : Int32) &&& 31)).toInt64) - ((p4 >>> ((11 : Int32) &&& 31)).toInt64))) + ((((p2 >>> ((11 : Int32) &&& 31)).toInt64) - ((p5 >>> ((11 : Int32) &&& 31)).toInt64)) * (((p2 >>> ((11 : Int32) &&& 31)).toInt64) - ((p5 >>> ((11 : Int32) &&& 31)).toInt64)))) + ((((p3 >>> ((11 : Int32) &&& 31)).toInt64) - ((p6 >>> ((11 : Int32) &&& 31)).toInt64)) * (((p3 >>> ((11 : Int32) &&& 31)).toInt64) - ((p6 >>> ((11 : Int32) &&& 31)).toInt64))))), .second, .unset, .unset, .unset, .unset, .unset, .unset] [])) rfl (hb hby at_84) (by decide) (by decide)
  refine Go.st st15 ?_
  obtain ⟨o15, q15⟩ : ∃ z, z = h0.size := ⟨_, rfl⟩
  rw [← q15] at A15 D15 ⊢
  have g_o15 : n0 ≤ o15 := Nat.le_trans Z0 (Nat.le_of_eq q15.symm)
  have mh_o15 : h0.size ≤ o15 := Nat.le_trans K0.1 (Nat.le_of_eq q15.symm)
  have F_x_15 : Fld Z h15 o15 "com/example/peerpool/peerpool/core/UnitVector" "x" "D" (.double 0) := D15 (Or.inr (hw _ (List.mem_of_getElem? (i := 15) rfl))) (ty := .double) (by decide)
  have F_y_15 : Fld Z h15 o15 "com/example/peerpool/peerpool/core/UnitVector" "y" "D" (.double 0) := D15 (Or.inr (hw _ (List.mem_of_getElem? (i := 17) rfl))) (ty := .double) (by decide)
  have F_z_15 : Fld Z h15 o15 "com/example/peerpool/peerpool/core/UnitVector" "z" "D" (.double 0) := D15 (Or.inr (hw _ (List.mem_of_getElem? (i := 19) rfl))) (ty := .double) (by decide)
  have K15 : Keep h0 h15 [] := Keep.ext K0 E15
  have Zs15 : n0 ≤ h15.size := Nat.le_trans Z0 E15.1
  show Go p e below _ (T15.setTop (mkF m 87 #[.val (.int p1), .val (.int p2), .val (.int p3), .val (.int p4), .val (.int p5), .val (.int p6), .val (.int (p1 >>> ((11 : Int32) &&& 31))), .val (.int (p2 >>> ((11 : Int32) &&& 31))), .val (.int (p3 >>> ((11 : Int32) &&& 31))), .val (.int (p4 >>> ((11 : Int32) &&& 31))), .val (.int (p5 >>> ((11 : Int32) &&& 31))), .val (.int (p6 >>> ((11 : Int32) &&& 31))), .val (.long (((p1 >>> ((11 : Int32) &&& 31)).toInt64) - ((p4 >>> ((11 : Int32) &&& 31)).toInt64))), .second, .val (.long (((p2 >>> ((11 : Int32) &&& 31)).toInt64) - ((p5 >>> ((11 : Int32) &&& 31)).toInt64))), .second, .val (.long (((p3 >>> ((11 : Int32) &&& 31)).toInt64) - ((p6 >>> ((11 : Int32) &&& 31)).toInt64))), .second, .val (.long ((((((p1 >>> ((11 : Int32) &&& 31)).toInt64) - ((p4 >>> ((11 : Int32) &&& 31)).toInt64)) * (((p1 >>> ((11 : Int32) &&& 31)).toInt64) - ((p4 >>> ((11 : Int32) &&& 31)).toInt64))) + ((((p2 >>> ((11 : Int32) &&& 31)).toInt64) - ((p5 >>> ((11 : Int32) &&& 31)).toInt64)) * (((p2 >>> ((11 : Int32) &&& 31)).toInt64) - ((p5 >>> ((11 : Int32) &&& 31)).toInt64)))) + ((((p3 >>> ((11 : Int32) &&& 31)).toInt64) - ((p6 >>> ((11 : Int32) &&& 31)).toInt64)) * (((p3 >>> ((11 : Int32) &&& 31)).toInt64) - ((p6 >>> ((11 : Int32) &&& 31)).toInt64))))), .second, .unset, .unset, .unset, .unset, .unset, .unset] [(.ref o15)]))
  refine g_dup X15 hx (hb hby at_87) 88 rfl rfl ?_
  refine g_iload X15 hx (hb hby at_88) 90 rfl (v := (p1 >>> ((11 : Int32) &&& 31))) rfl ?_
  refine g_i2d X15 hx (hb hby at_90) 91 rfl (FP.l2d (p1 >>> ((11 : Int32) &&& 31)).toInt64) (i2d_w _) ?_
  refine g_iload X15 hx (hb hby at_91) 93 rfl (v := (p2 >>> ((11 : Int32) &&& 31))) rfl ?_
  refine g_i2d X15 hx (hb hby at_93) 94 rfl (FP.l2d (p2 >>> ((11 : Int32) &&& 31)).toInt64) (i2d_w _) ?_
  refine g_iload X15 hx (hb hby at_94) 96 rfl (v := (p3 >>> ((11 : Int32) &&& 31))) rfl ?_
  refine g_i2d X15 hx (hb hby at_96) 97 rfl (FP.l2d (p3 >>> ((11 : Int32) &&& 31)).toInt64) (i2d_w _) ?_
  obtain ⟨_, _, ⟨T17, L17, k17, n17⟩, -, X17, ⟨Lc17, hQ17, l17, y17, z17⟩, st17⟩ := X15.specialBack hx (y := (⟨"com/example/peerpool/peerpool/core/UnitVector", "<init>", "(DDD)V"⟩ : MethodName)) rfl hown (mvT hZ (hw _ (List.mem_of_getElem? (i := 3) rfl))) (mvT hZ (hw _ (List.mem_of_getElem? (i := 4) rfl))) (mvT hZ (hw _ (List.mem_of_getElem? (i := 5) rfl))) (by decide) (backOf (W := 1) (rm1 l Z a0 hw [] o15 (FP.l2d (p1 >>> ((11 : Int32) &&& 31)).toInt64) (FP.l2d (p2 >>> ((11 : Int32) &&& 31)).toInt64) (FP.l2d (p3 >>> ((11 : Int32) &&& 31)).toInt64) (.double 0) (.double 0) (.double 0) h15 n0 Zs15 A15 g_o15 F_x_15 F_y_15 F_z_15) hZ (hw _ (List.mem_of_getElem? (i := 5) rfl)) (hw _ (List.mem_of_getElem? (i := 2) rfl)) (by decide) (by decide)) (g := (mkF m 97 #[.val (.int p1), .val (.int p2), .val (.int p3), .val (.int p4), .val (.int p5), .val (.int p6), .val (.int (p1 >>> ((11 : Int32) &&& 31))), .val (.int (p2 >>> ((11 : Int32) &&& 31))), .val (.int (p3 >>> ((11 : Int32) &&& 31))), .val (.int (p4 >>> ((11 : Int32) &&& 31))), .val (.int (p5 >>> ((11 : Int32) &&& 31))), .val (.int (p6 >>> ((11 : Int32) &&& 31))), .val (.long (((p1 >>> ((11 : Int32) &&& 31)).toInt64) - ((p4 >>> ((11 : Int32) &&& 31)).toInt64))), .second, .val (.long (((p2 >>> ((11 : Int32) &&& 31)).toInt64) - ((p5 >>> ((11 : Int32) &&& 31)).toInt64))), .second, .val (.long (((p3 >>> ((11 : Int32) &&& 31)).toInt64) - ((p6 >>> ((11 : Int32) &&& 31)).toInt64))), .second, .val (.long ((((((p1 >>> ((11 : Int32) &&& 31)).toInt64) - ((p4 >>> ((11 : Int32) &&& 31)).toInt64)) * (((p1 >>> ((11 : Int32) &&& 31)).toInt64) - ((p4 >>> ((11 : Int32) &&& 31)).toInt64))) + ((((p2 >>> ((11 : Int32) &&& 31)).toInt64) - ((p5 >>> ((11 : Int32) &&& 31)).toInt64)) * (((p2 >>> ((11 : Int32) &&& 31)).toInt64) - ((p5 >>> ((11 : Int32) &&& 31)).toInt64)))) + ((((p3 >>> ((11 : Int32) &&& 31)).toInt64) - ((p6 >>> ((11 : Int32) &&& 31)).toInt64)) * (((p3 >>> ((11 : Int32) &&& 31)).toInt64) - ((p6 >>> ((11 : Int32) &&& 31)).toInt64))))), .second, .unset, .unset, .unset, .unset, .unset, .unset] [(.double (FP.l2d (p3 >>> ((11 : Int32) &&& 31)).toInt64)), (.double (FP.l2d (p2 >>> ((11 : Int32) &&& 31)).toInt64)), (.double (FP.l2d (p1 >>> ((11 : Int32) &&& 31)).toInt64)), (.ref o15), (.ref o15)])) rfl (by rw [hml]; rfl) (Steps.refl _) (a := o15) (argsL := [(.double (FP.l2d (p1 >>> ((11 : Int32) &&& 31)).toInt64)), (.double (FP.l2d (p2 >>> ((11 : Int32) &&& 31)).toInt64)), (.double (FP.l2d (p3 >>> ((11 : Int32) &&& 31)).toInt64))]) (rest := [(.ref o15)]) (lenOf own_pd1 rfl) rfl (by show 2 * 0 + _ ≤ _; exact Nat.le_of_eq rfl) (hb hby at_97) (fun _ _ => ⟨rfl, e15, (by decide : 1 + 0 ≤ _), (by decide : 3 + 0 ≤ _)⟩)
  dsimp only [Pt.U, Pt.locs, Pt.cells, Pt.slots] at X17 l17 y17 z17 st17 hQ17
  subst l17 y17 z17
  obtain ⟨rfl, Nq17, Kq17, f17_0, f17_1, f17_2, f17_3⟩ := hQ17
  refine Go.tr st17 ?_
  have N17 := Fr.app N0 Nq17
  have E_o15_18 : Exa Z T17.heap o15 "com/example/peerpool/peerpool/core/UnitVector" := Exa.keep A15 Kq17
  have K17 : Keep h0 T17.heap [] := Keep.trans K15 Kq17 (allS (Or.inr mh_o15) all0)
  have Zs17 : n0 ≤ T17.heap.size := Nat.le_trans Zs15 Kq17.1
  show Go p e below _ (T17.setTop (mkF m 100 #[.val (.int p1), .val (.int p2), .val (.int p3), .val (.int p4), .val (.int p5), .val (.int p6), .val (.int (p1 >>> ((11 : Int32) &&& 31))), .val (.int (p2 >>> ((11 : Int32) &&& 31))), .val (.int (p3 >>> ((11 : Int32) &&& 31))), .val (.int (p4 >>> ((11 : Int32) &&& 31))), .val (.int (p5 >>> ((11 : Int32) &&& 31))), .val (.int (p6 >>> ((11 : Int32) &&& 31))), .val (.long (((p1 >>> ((11 : Int32) &&& 31)).toInt64) - ((p4 >>> ((11 : Int32) &&& 31)).toInt64))), .second, .val (.long (((p2 >>> ((11 : Int32) &&& 31)).toInt64) - ((p5 >>> ((11 : Int32) &&& 31)).toInt64))), .second, .val (.long (((p3 >>> ((11 : Int32) &&& 31)).toInt64) - ((p6 >>> ((11 : Int32) &&& 31)).toInt64))), .second, .val (.long ((((((p1 >>> ((11 : Int32) &&& 31)).toInt64) - ((p4 >>> ((11 : Int32) &&& 31)).toInt64)) * (((p1 >>> ((11 : Int32) &&& 31)).toInt64) - ((p4 >>> ((11 : Int32) &&& 31)).toInt64))) + ((((p2 >>> ((11 : Int32) &&& 31)).toInt64) - ((p5 >>> ((11 : Int32) &&& 31)).toInt64)) * (((p2 >>> ((11 : Int32) &&& 31)).toInt64) - ((p5 >>> ((11 : Int32) &&& 31)).toInt64)))) + ((((p3 >>> ((11 : Int32) &&& 31)).toInt64) - ((p6 >>> ((11 : Int32) &&& 31)).toInt64)) * (((p3 >>> ((11 : Int32) &&& 31)).toInt64) - ((p6 >>> ((11 : Int32) &&& 31)).toInt64))))), .second, .unset, .unset, .unset, .unset, .unset, .unset] [(.ref o15)]))
  refine g_astore X17 hx (hb hby at_100) 102 rfl rfl #[.val (.int p1), .val (.int p2), .val (.int p3), .val (.int p4), .val (.int p5), .val (.int p6), .val (.int (p1 >>> ((11 : Int32) &&& 31))), .val (.int (p2 >>> ((11 : Int32) &&& 31))), .val (.int (p3 >>> ((11 : Int32) &&& 31))), .val (.int (p4 >>> ((11 : Int32) &&& 31))), .val (.int (p5 >>> ((11 : Int32) &&& 31))), .val (.int (p6 >>> ((11 : Int32) &&& 31))), .val (.long (((p1 >>> ((11 : Int32) &&& 31)).toInt64) - ((p4 >>> ((11 : Int32) &&& 31)).toInt64))), .second, .val (.long (((p2 >>> ((11 : Int32) &&& 31)).toInt64) - ((p5 >>> ((11 : Int32) &&& 31)).toInt64))), .second, .val (.long (((p3 >>> ((11 : Int32) &&& 31)).toInt64) - ((p6 >>> ((11 : Int32) &&& 31)).toInt64))), .second, .val (.long ((((((p1 >>> ((11 : Int32) &&& 31)).toInt64) - ((p4 >>> ((11 : Int32) &&& 31)).toInt64)) * (((p1 >>> ((11 : Int32) &&& 31)).toInt64) - ((p4 >>> ((11 : Int32) &&& 31)).toInt64))) + ((((p2 >>> ((11 : Int32) &&& 31)).toInt64) - ((p5 >>> ((11 : Int32) &&& 31)).toInt64)) * (((p2 >>> ((11 : Int32) &&& 31)).toInt64) - ((p5 >>> ((11 : Int32) &&& 31)).toInt64)))) + ((((p3 >>> ((11 : Int32) &&& 31)).toInt64) - ((p6 >>> ((11 : Int32) &&& 31)).toInt64)) * (((p3 >>> ((11 : Int32) &&& 31)).toInt64) - ((p6 >>> ((11 : Int32) &&& 31)).toInt64))))), .second, .val (.ref o15), .unset, .unset, .unset, .unset, .unset] rfl ?_
  obtain ⟨T19, h19, X19, e19, E19, A19, D19, -, st19⟩ := newO X17 hx hZ hown (hw _ (List.mem_of_getElem? (i := 0) rfl)) (hw _ (List.mem_of_getElem? (i := 1) rfl)) (hw _ (List.mem_of_getElem? (i := 2) rfl)) rfl (g := (mkF m 102 #[.val (.int p1), .val (.int p2), .val (.int p3), .val (.int p4), .val (.int p5), .val (.int p6), .val (.int (p1 >>> ((11 : Int32) &&& 31))), .val (.int (p2 >>> ((11 : Int32) &&& 31))), .val (.int (p3 >>> ((11 : Int32) &&& 31))), .val (.int (p4 >>> ((11 : Int32) &&& 31))), .val (.int (p5 >>> ((11 : Int32) &&& 31))), .val (.int (p6 >>> ((11 : Int32) &&& 31))), .val (.long (((p1 >>> ((11 : Int32) &&& 31)).toInt64) - ((p4 >>> ((11 : Int32) &&& 31)).toInt64))), .second, .val (.long (((p2 >>> ((11 : Int32) &&& 31)).toInt64) - ((p5 >>> ((11 : Int32) &&& 31)).toInt64))), .second, .val (.long (((p3 >>> ((11 : Int32) &&& 31)).toInt64) - ((p6 >>> ((11 : Int32) &&& 31)).toInt64))), .second, .val (.long ((((((p1 >>> ((11 : Int32) &&& 31)).toInt64) - ((p4 >>> ((11 : Int32) &&& 31)).toInt64)) * (((p1 >>> ((11 : Int32) &&& 31)).toInt64) - ((p4 >>> ((11 : Int32) &&& 31)).toInt64))) + ((((p2 >>> ((11 : Int32) &&& 31)).toInt64) - ((p5 >>> ((11 : Int32) &&& 31)).toInt64)) * (((p2 >>> ((11 : Int32) &&& 31)).toInt64) - ((p5 >>> ((11 : Int32) &&& 31)).toInt64)))) + ((((p3 >>> ((11 : Int32) &&& 31)).toInt64) - ((p6 >>> ((11 : Int32) &&& 31)).toInt64)) * (((p3 >>> ((11 : Int32) &&& 31)).toInt64) - ((p6 >>> ((11 : Int32) &&& 31)).toInt64))))), .second, .val (.ref o15), .unset, .unset, .unset, .unset, .unset] [])) rfl (hb hby at_102) (by decide) (by decide)
  refine Go.st st19 ?_
  obtain ⟨o19, q19⟩ : ∃ z, z = T17.heap.size := ⟨_, rfl⟩
  rw [← q19] at A19 D19 ⊢
  have ne_o15_o19 : o15 ≠ o19 := Nat.ne_of_lt (Nat.lt_of_lt_of_eq f17_0.lt q19.symm)
  have g_o19 : n0 ≤ o19 := Nat.le_trans Zs17 (Nat.le_of_eq q19.symm)
  have mh_o19 : h0.size ≤ o19 := Nat.le_trans K17.1 (Nat.le_of_eq q19.symm)
  have E_o15_20 : Exa Z h19 o15 "com/example/peerpool/peerpool/core/UnitVector" := Exa.ext E19 f17_0
  have F_x_o15_20 : Fld Z h19 o15 "com/example/peerpool/peerpool/core/UnitVector" "x" "D" (.double (FP.l2d (p1 >>> ((11 : Int32) &&& 31)).toInt64)) := Fld.ext E19 f17_1
  have F_y_o15_20 : Fld Z h19 o15 "com/example/peerpool/peerpool/core/UnitVector" "y" "D" (.double (FP.l2d (p2 >>> ((11 : Int32) &&& 31)).toInt64)) := Fld.ext E19 f17_2
  have F_z_o15_20 : Fld Z h19 o15 "com/example/peerpool/peerpool/core/UnitVector" "z" "D" (.double (FP.l2d (p3 >>> ((11 : Int32) &&& 31)).toInt64)) := Fld.ext E19 f17_3
  have F_x_19 : Fld Z h19 o19 "com/example/peerpool/peerpool/core/UnitVector" "x" "D" (.double 0) := D19 (Or.inr (hw _ (List.mem_of_getElem? (i := 15) rfl))) (ty := .double) (by decide)
  have F_y_19 : Fld Z h19 o19 "com/example/peerpool/peerpool/core/UnitVector" "y" "D" (.double 0) := D19 (Or.inr (hw _ (List.mem_of_getElem? (i := 17) rfl))) (ty := .double) (by decide)
  have F_z_19 : Fld Z h19 o19 "com/example/peerpool/peerpool/core/UnitVector" "z" "D" (.double 0) := D19 (Or.inr (hw _ (List.mem_of_getElem? (i := 19) rfl))) (ty := .double) (by decide)
  have K19 : Keep h0 h19 [] := Keep.ext K17 E19
  have Zs19 : n0 ≤ h19.size := Nat.le_trans Zs17 E19.1
  show Go p e below _ (T19.setTop (mkF m 105 #[.val (.int p1), .val (.int p2), .val (.int p3), .val (.int p4), .val (.int p5), .val (.int p6), .val (.int (p1 >>> ((11 : Int32) &&& 31))), .val (.int (p2 >>> ((11 : Int32) &&& 31))), .val (.int (p3 >>> ((11 : Int32) &&& 31))), .val (.int (p4 >>> ((11 : Int32) &&& 31))), .val (.int (p5 >>> ((11 : Int32) &&& 31))), .val (.int (p6 >>> ((11 : Int32) &&& 31))), .val (.long (((p1 >>> ((11 : Int32) &&& 31)).toInt64) - ((p4 >>> ((11 : Int32) &&& 31)).toInt64))), .second, .val (.long (((p2 >>> ((11 : Int32) &&& 31)).toInt64) - ((p5 >>> ((11 : Int32) &&& 31)).toInt64))), .second, .val (.long (((p3 >>> ((11 : Int32) &&& 31)).toInt64) - ((p6 >>> ((11 : Int32) &&& 31)).toInt64))), .second, .val (.long ((((((p1 >>> ((11 : Int32) &&& 31)).toInt64) - ((p4 >>> ((11 : Int32) &&& 31)).toInt64)) * (((p1 >>> ((11 : Int32) &&& 31)).toInt64) - ((p4 >>> ((11 : Int32) &&& 31)).toInt64))) + ((((p2 >>> ((11 : Int32) &&& 31)).toInt64) - ((p5 >>> ((11 : Int32) &&& 31)).toInt64)) * (((p2 >>> ((11 : Int32) &&& 31)).toInt64) - ((p5 >>> ((11 : Int32) &&& 31)).toInt64)))) + ((((p3 >>> ((11 : Int32) &&& 31)).toInt64) - ((p6 >>> ((11 : Int32) &&& 31)).toInt64)) * (((p3 >>> ((11 : Int32) &&& 31)).toInt64) - ((p6 >>> ((11 : Int32) &&& 31)).toInt64))))), .second, .val (.ref o15), .unset, .unset, .unset, .unset, .unset] [(.ref o19)]))
  refine g_dup X19 hx (hb hby at_105) 106 rfl rfl ?_
  refine g_iload X19 hx (hb hby at_106) 108 rfl (v := (p4 >>> ((11 : Int32) &&& 31))) rfl ?_
  refine g_i2d X19 hx (hb hby at_108) 109 rfl (FP.l2d (p4 >>> ((11 : Int32) &&& 31)).toInt64) (i2d_w _) ?_
  refine g_iload X19 hx (hb hby at_109) 111 rfl (v := (p5 >>> ((11 : Int32) &&& 31))) rfl ?_
  refine g_i2d X19 hx (hb hby at_111) 112 rfl (FP.l2d (p5 >>> ((11 : Int32) &&& 31)).toInt64) (i2d_w _) ?_
  refine g_iload X19 hx (hb hby at_112) 114 rfl (v := (p6 >>> ((11 : Int32) &&& 31))) rfl ?_
  refine g_i2d X19 hx (hb hby at_114) 115 rfl (FP.l2d (p6 >>> ((11 : Int32) &&& 31)).toInt64) (i2d_w _) ?_
  obtain ⟨_, _, ⟨T21, L21, k21, n21⟩, -, X21, ⟨Lc21, hQ21, l21, y21, z21⟩, st21⟩ := X19.specialBack hx (y := (⟨"com/example/peerpool/peerpool/core/UnitVector", "<init>", "(DDD)V"⟩ : MethodName)) rfl hown (mvT hZ (hw _ (List.mem_of_getElem? (i := 3) rfl))) (mvT hZ (hw _ (List.mem_of_getElem? (i := 4) rfl))) (mvT hZ (hw _ (List.mem_of_getElem? (i := 5) rfl))) (by decide) (backOf (W := 1) (rm1 l Z a0 hw [] o19 (FP.l2d (p4 >>> ((11 : Int32) &&& 31)).toInt64) (FP.l2d (p5 >>> ((11 : Int32) &&& 31)).toInt64) (FP.l2d (p6 >>> ((11 : Int32) &&& 31)).toInt64) (.double 0) (.double 0) (.double 0) h19 n0 Zs19 A19 g_o19 F_x_19 F_y_19 F_z_19) hZ (hw _ (List.mem_of_getElem? (i := 5) rfl)) (hw _ (List.mem_of_getElem? (i := 2) rfl)) (by decide) (by decide)) (g := (mkF m 115 #[.val (.int p1), .val (.int p2), .val (.int p3), .val (.int p4), .val (.int p5), .val (.int p6), .val (.int (p1 >>> ((11 : Int32) &&& 31))), .val (.int (p2 >>> ((11 : Int32) &&& 31))), .val (.int (p3 >>> ((11 : Int32) &&& 31))), .val (.int (p4 >>> ((11 : Int32) &&& 31))), .val (.int (p5 >>> ((11 : Int32) &&& 31))), .val (.int (p6 >>> ((11 : Int32) &&& 31))), .val (.long (((p1 >>> ((11 : Int32) &&& 31)).toInt64) - ((p4 >>> ((11 : Int32) &&& 31)).toInt64))), .second, .val (.long (((p2 >>> ((11 : Int32) &&& 31)).toInt64) - ((p5 >>> ((11 : Int32) &&& 31)).toInt64))), .second, .val (.long (((p3 >>> ((11 : Int32) &&& 31)).toInt64) - ((p6 >>> ((11 : Int32) &&& 31)).toInt64))), .second, .val (.long ((((((p1 >>> ((11 : Int32) &&& 31)).toInt64) - ((p4 >>> ((11 : Int32) &&& 31)).toInt64)) * (((p1 >>> ((11 : Int32) &&& 31)).toInt64) - ((p4 >>> ((11 : Int32) &&& 31)).toInt64))) + ((((p2 >>> ((11 : Int32) &&& 31)).toInt64) - ((p5 >>> ((11 : Int32) &&& 31)).toInt64)) * (((p2 >>> ((11 : Int32) &&& 31)).toInt64) - ((p5 >>> ((11 : Int32) &&& 31)).toInt64)))) + ((((p3 >>> ((11 : Int32) &&& 31)).toInt64) - ((p6 >>> ((11 : Int32) &&& 31)).toInt64)) * (((p3 >>> ((11 : Int32) &&& 31)).toInt64) - ((p6 >>> ((11 : Int32) &&& 31)).toInt64))))), .second, .val (.ref o15), .unset, .unset, .unset, .unset, .unset] [(.double (FP.l2d (p6 >>> ((11 : Int32) &&& 31)).toInt64)), (.double (FP.l2d (p5 >>> ((11 : Int32) &&& 31)).toInt64)), (.double (FP.l2d (p4 >>> ((11 : Int32) &&& 31)).toInt64)), (.ref o19), (.ref o19)])) rfl (by rw [hml]; rfl) (Steps.refl _) (a := o19) (argsL := [(.double (FP.l2d (p4 >>> ((11 : Int32) &&& 31)).toInt64)), (.double (FP.l2d (p5 >>> ((11 : Int32) &&& 31)).toInt64)), (.double (FP.l2d (p6 >>> ((11 : Int32) &&& 31)).toInt64))]) (rest := [(.ref o19)]) (lenOf own_pd1 rfl) rfl (by show 2 * 0 + _ ≤ _; exact Nat.le_of_eq rfl) (hb hby at_115) (fun _ _ => ⟨rfl, e19, (by decide : 2 + 0 ≤ _), (by decide : 6 + 0 ≤ _)⟩)
  dsimp only [Pt.U, Pt.locs, Pt.cells, Pt.slots] at X21 l21 y21 z21 st21 hQ21
  subst l21 y21 z21
  obtain ⟨rfl, Nq21, Kq21, f21_0, f21_1, f21_2, f21_3⟩ := hQ21
  refine Go.tr st21 ?_
  have N21 := Fr.app N17 Nq21
  have E_o15_22 : Exa Z T21.heap o15 "com/example/peerpool/peerpool/core/UnitVector" := Exa.keep E_o15_20 Kq21
  have F_x_o15_22 : Fld Z T21.heap o15 "com/example/peerpool/peerpool/core/UnitVector" "x" "D" (.double (FP.l2d (p1 >>> ((11 : Int32) &&& 31)).toInt64)) := Fld.keep F_x_o15_20 Kq21 (ninS ne_o15_o19 nin0)
  have F_y_o15_22 : Fld Z T21.heap o15 "com/example/peerpool/peerpool/core/UnitVector" "y" "D" (.double (FP.l2d (p2 >>> ((11 : Int32) &&& 31)).toInt64)) := Fld.keep F_y_o15_20 Kq21 (ninS ne_o15_o19 nin0)
  have F_z_o15_22 : Fld Z T21.heap o15 "com/example/peerpool/peerpool/core/UnitVector" "z" "D" (.double (FP.l2d (p3 >>> ((11 : Int32) &&& 31)).toInt64)) := Fld.keep F_z_o15_20 Kq21 (ninS ne_o15_o19 nin0)
  have E_o19_22 : Exa Z T21.heap o19 "com/example/peerpool/peerpool/core/UnitVector" := Exa.keep A19 Kq21
  have K21 : Keep h0 T21.heap [] := Keep.trans K19 Kq21 (allS (Or.inr mh_o19) all0)
  have Zs21 : n0 ≤ T21.heap.size := Nat.le_trans Zs19 Kq21.1
  show Go p e below _ (T21.setTop (mkF m 118 #[.val (.int p1), .val (.int p2), .val (.int p3), .val (.int p4), .val (.int p5), .val (.int p6), .val (.int (p1 >>> ((11 : Int32) &&& 31))), .val (.int (p2 >>> ((11 : Int32) &&& 31))), .val (.int (p3 >>> ((11 : Int32) &&& 31))), .val (.int (p4 >>> ((11 : Int32) &&& 31))), .val (.int (p5 >>> ((11 : Int32) &&& 31))), .val (.int (p6 >>> ((11 : Int32) &&& 31))), .val (.long (((p1 >>> ((11 : Int32) &&& 31)).toInt64) - ((p4 >>> ((11 : Int32) &&& 31)).toInt64))), .second, .val (.long (((p2 >>> ((11 : Int32) &&& 31)).toInt64) - ((p5 >>> ((11 : Int32) &&& 31)).toInt64))), .second, .val (.long (((p3 >>> ((11 : Int32) &&& 31)).toInt64) - ((p6 >>> ((11 : Int32) &&& 31)).toInt64))), .second, .val (.long ((((((p1 >>> ((11 : Int32) &&& 31)).toInt64) - ((p4 >>> ((11 : Int32) &&& 31)).toInt64)) * (((p1 >>> ((11 : Int32) &&& 31)).toInt64) - ((p4 >>> ((11 : Int32) &&& 31)).toInt64))) + ((((p2 >>> ((11 : Int32) &&& 31)).toInt64) - ((p5 >>> ((11 : Int32) &&& 31)).toInt64)) * (((p2 >>> ((11 : Int32) &&& 31)).toInt64) - ((p5 >>> ((11 : Int32) &&& 31)).toInt64)))) + ((((p3 >>> ((11 : Int32) &&& 31)).toInt64) - ((p6 >>> ((11 : Int32) &&& 31)).toInt64)) * (((p3 >>> ((11 : Int32) &&& 31)).toInt64) - ((p6 >>> ((11 : Int32) &&& 31)).toInt64))))), .second, .val (.ref o15), .unset, .unset, .unset, .unset, .unset] [(.ref o19)]))
  refine g_astore X21 hx (hb hby at_118) 120 rfl rfl #[.val (.int p1), .val (.int p2), .val (.int p3), .val (.int p4), .val (.int p5), .val (.int p6), .val (.int (p1 >>> ((11 : Int32) &&& 31))), .val (.int (p2 >>> ((11 : Int32) &&& 31))), .val (.int (p3 >>> ((11 : Int32) &&& 31))), .val (.int (p4 >>> ((11 : Int32) &&& 31))), .val (.int (p5 >>> ((11 : Int32) &&& 31))), .val (.int (p6 >>> ((11 : Int32) &&& 31))), .val (.long (((p1 >>> ((11 : Int32) &&& 31)).toInt64) - ((p4 >>> ((11 : Int32) &&& 31)).toInt64))), .second, .val (.long (((p2 >>> ((11 : Int32) &&& 31)).toInt64) - ((p5 >>> ((11 : Int32) &&& 31)).toInt64))), .second, .val (.long (((p3 >>> ((11 : Int32) &&& 31)).toInt64) - ((p6 >>> ((11 : Int32) &&& 31)).toInt64))), .second, .val (.long ((((((p1 >>> ((11 : Int32) &&& 31)).toInt64) - ((p4 >>> ((11 : Int32) &&& 31)).toInt64)) * (((p1 >>> ((11 : Int32) &&& 31)).toInt64) - ((p4 >>> ((11 : Int32) &&& 31)).toInt64))) + ((((p2 >>> ((11 : Int32) &&& 31)).toInt64) - ((p5 >>> ((11 : Int32) &&& 31)).toInt64)) * (((p2 >>> ((11 : Int32) &&& 31)).toInt64) - ((p5 >>> ((11 : Int32) &&& 31)).toInt64)))) + ((((p3 >>> ((11 : Int32) &&& 31)).toInt64) - ((p6 >>> ((11 : Int32) &&& 31)).toInt64)) * (((p3 >>> ((11 : Int32) &&& 31)).toInt64) - ((p6 >>> ((11 : Int32) &&& 31)).toInt64))))), .second, .val (.ref o15), .val (.ref o19), .unset, .unset, .unset, .unset] rfl ?_
  refine g_aload X21 hx (hb hby at_120) 122 rfl (v := (.ref o15)) rfl rfl ?_
  refine g_aload X21 hx (hb hby at_122) 124 rfl (v := (.ref o19)) rfl rfl ?_
  obtain ⟨cq23, kq23, q23a, q23b, q23c⟩ := isOf hZ rfl E_o15_22
  obtain ⟨_, _, ⟨T23, L23, k23, n23⟩, -, X23, ⟨Lc23, hQ23, l23, y23, z23⟩, st23⟩ := X21.virtualBack hx (y := (⟨"com/example/peerpool/peerpool/core/UnitVector", "chordSquared", "(Lcom/example/peerpool/peerpool/core/UnitVector;)D"⟩ : MethodName)) (z := (⟨"com/example/peerpool/peerpool/core/UnitVector", "chordSquared", "(Lcom/example/peerpool/peerpool/core/UnitVector;)D"⟩ : MethodName)) hown (mvT hZ (hw _ (List.mem_of_getElem? (i := 20) rfl))) (mvT hZ (hw _ (List.mem_of_getElem? (i := 21) rfl))) (notFace_of_selects (args := #[]) (mvT hZ (hw _ (List.mem_of_getElem? (i := 23) rfl)))) (mvT hZ (hw _ (List.mem_of_getElem? (i := 23) rfl))) (mvT hZ (hw _ (List.mem_of_getElem? (i := 22) rfl))) (by decide) (backOf (W := 0) (rm4 l Z a0 hw [] o15 o19 ((p1 >>> ((11 : Int32) &&& 31)).toInt64) ((p2 >>> ((11 : Int32) &&& 31)).toInt64) ((p3 >>> ((11 : Int32) &&& 31)).toInt64) ((p4 >>> ((11 : Int32) &&& 31)).toInt64) ((p5 >>> ((11 : Int32) &&& 31)).toInt64) ((p6 >>> ((11 : Int32) &&& 31)).toInt64) T21.heap n0 Zs21 F_x_o15_22 F_y_o15_22 F_z_o15_22 f21_1 f21_2 f21_3 (own_sh _) (own_sh _) (own_sh _) (own_sh _) (own_sh _) (own_sh _)) hZ (hw _ (List.mem_of_getElem? (i := 24) rfl)) (hw _ (List.mem_of_getElem? (i := 2) rfl)) (by decide) (by decide)) q23a q23c (g := (mkF m 124 #[.val (.int p1), .val (.int p2), .val (.int p3), .val (.int p4), .val (.int p5), .val (.int p6), .val (.int (p1 >>> ((11 : Int32) &&& 31))), .val (.int (p2 >>> ((11 : Int32) &&& 31))), .val (.int (p3 >>> ((11 : Int32) &&& 31))), .val (.int (p4 >>> ((11 : Int32) &&& 31))), .val (.int (p5 >>> ((11 : Int32) &&& 31))), .val (.int (p6 >>> ((11 : Int32) &&& 31))), .val (.long (((p1 >>> ((11 : Int32) &&& 31)).toInt64) - ((p4 >>> ((11 : Int32) &&& 31)).toInt64))), .second, .val (.long (((p2 >>> ((11 : Int32) &&& 31)).toInt64) - ((p5 >>> ((11 : Int32) &&& 31)).toInt64))), .second, .val (.long (((p3 >>> ((11 : Int32) &&& 31)).toInt64) - ((p6 >>> ((11 : Int32) &&& 31)).toInt64))), .second, .val (.long ((((((p1 >>> ((11 : Int32) &&& 31)).toInt64) - ((p4 >>> ((11 : Int32) &&& 31)).toInt64)) * (((p1 >>> ((11 : Int32) &&& 31)).toInt64) - ((p4 >>> ((11 : Int32) &&& 31)).toInt64))) + ((((p2 >>> ((11 : Int32) &&& 31)).toInt64) - ((p5 >>> ((11 : Int32) &&& 31)).toInt64)) * (((p2 >>> ((11 : Int32) &&& 31)).toInt64) - ((p5 >>> ((11 : Int32) &&& 31)).toInt64)))) + ((((p3 >>> ((11 : Int32) &&& 31)).toInt64) - ((p6 >>> ((11 : Int32) &&& 31)).toInt64)) * (((p3 >>> ((11 : Int32) &&& 31)).toInt64) - ((p6 >>> ((11 : Int32) &&& 31)).toInt64))))), .second, .val (.ref o15), .val (.ref o19), .unset, .unset, .unset, .unset] [(.ref o19), (.ref o15)])) rfl (by rw [hml]; rfl) (Steps.refl _) (argsL := [(.ref o19)]) (rest := []) (lenOf own_pd2 rfl) rfl (by show 2 * 0 + _ ≤ _; exact Nat.le_of_eq rfl) (hb hby at_124) (fun _ _ => ⟨rfl, rfl, (by decide : 2 + 0 ≤ _), (by decide : 6 + 0 ≤ _)⟩)
  dsimp only [Pt.U, Pt.locs, Pt.cells, Pt.slots] at X23 l23 y23 z23 st23 hQ23
  subst l23 y23 z23
  obtain ⟨rfl, Nq23, e23⟩ := hQ23
  refine Go.tr st23 ?_
  have N23 := Fr.app N21 Nq23
  show Go p e below _ (T23.setTop (mkF m 127 #[.val (.int p1), .val (.int p2), .val (.int p3), .val (.int p4), .val (.int p5), .val (.int p6), .val (.int (p1 >>> ((11 : Int32) &&& 31))), .val (.int (p2 >>> ((11 : Int32) &&& 31))), .val (.int (p3 >>> ((11 : Int32) &&& 31))), .val (.int (p4 >>> ((11 : Int32) &&& 31))), .val (.int (p5 >>> ((11 : Int32) &&& 31))), .val (.int (p6 >>> ((11 : Int32) &&& 31))), .val (.long (((p1 >>> ((11 : Int32) &&& 31)).toInt64) - ((p4 >>> ((11 : Int32) &&& 31)).toInt64))), .second, .val (.long (((p2 >>> ((11 : Int32) &&& 31)).toInt64) - ((p5 >>> ((11 : Int32) &&& 31)).toInt64))), .second, .val (.long (((p3 >>> ((11 : Int32) &&& 31)).toInt64) - ((p6 >>> ((11 : Int32) &&& 31)).toInt64))), .second, .val (.long ((((((p1 >>> ((11 : Int32) &&& 31)).toInt64) - ((p4 >>> ((11 : Int32) &&& 31)).toInt64)) * (((p1 >>> ((11 : Int32) &&& 31)).toInt64) - ((p4 >>> ((11 : Int32) &&& 31)).toInt64))) + ((((p2 >>> ((11 : Int32) &&& 31)).toInt64) - ((p5 >>> ((11 : Int32) &&& 31)).toInt64)) * (((p2 >>> ((11 : Int32) &&& 31)).toInt64) - ((p5 >>> ((11 : Int32) &&& 31)).toInt64)))) + ((((p3 >>> ((11 : Int32) &&& 31)).toInt64) - ((p6 >>> ((11 : Int32) &&& 31)).toInt64)) * (((p3 >>> ((11 : Int32) &&& 31)).toInt64) - ((p6 >>> ((11 : Int32) &&& 31)).toInt64))))), .second, .val (.ref o15), .val (.ref o19), .unset, .unset, .unset, .unset] [(.double (FP.l2d (own_ch ((p1 >>> ((11 : Int32) &&& 31)).toInt64) ((p2 >>> ((11 : Int32) &&& 31)).toInt64) ((p3 >>> ((11 : Int32) &&& 31)).toInt64) ((p4 >>> ((11 : Int32) &&& 31)).toInt64) ((p5 >>> ((11 : Int32) &&& 31)).toInt64) ((p6 >>> ((11 : Int32) &&& 31)).toInt64))))]))
  refine g_dstore X23 hx (hb hby at_127) 129 rfl #[.val (.int p1), .val (.int p2), .val (.int p3), .val (.int p4), .val (.int p5), .val (.int p6), .val (.int (p1 >>> ((11 : Int32) &&& 31))), .val (.int (p2 >>> ((11 : Int32) &&& 31))), .val (.int (p3 >>> ((11 : Int32) &&& 31))), .val (.int (p4 >>> ((11 : Int32) &&& 31))), .val (.int (p5 >>> ((11 : Int32) &&& 31))), .val (.int (p6 >>> ((11 : Int32) &&& 31))), .val (.long (((p1 >>> ((11 : Int32) &&& 31)).toInt64) - ((p4 >>> ((11 : Int32) &&& 31)).toInt64))), .second, .val (.long (((p2 >>> ((11 : Int32) &&& 31)).toInt64) - ((p5 >>> ((11 : Int32) &&& 31)).toInt64))), .second, .val (.long (((p3 >>> ((11 : Int32) &&& 31)).toInt64) - ((p6 >>> ((11 : Int32) &&& 31)).toInt64))), .second, .val (.long ((((((p1 >>> ((11 : Int32) &&& 31)).toInt64) - ((p4 >>> ((11 : Int32) &&& 31)).toInt64)) * (((p1 >>> ((11 : Int32) &&& 31)).toInt64) - ((p4 >>> ((11 : Int32) &&& 31)).toInt64))) + ((((p2 >>> ((11 : Int32) &&& 31)).toInt64) - ((p5 >>> ((11 : Int32) &&& 31)).toInt64)) * (((p2 >>> ((11 : Int32) &&& 31)).toInt64) - ((p5 >>> ((11 : Int32) &&& 31)).toInt64)))) + ((((p3 >>> ((11 : Int32) &&& 31)).toInt64) - ((p6 >>> ((11 : Int32) &&& 31)).toInt64)) * (((p3 >>> ((11 : Int32) &&& 31)).toInt64) - ((p6 >>> ((11 : Int32) &&& 31)).toInt64))))), .second, .val (.ref o15), .val (.ref o19), .val (.double (FP.l2d (own_ch ((p1 >>> ((11 : Int32) &&& 31)).toInt64) ((p2 >>> ((11 : Int32) &&& 31)).toInt64) ((p3 >>> ((11 : Int32) &&& 31)).toInt64) ((p4 >>> ((11 : Int32) &&& 31)).toInt64) ((p5 >>> ((11 : Int32) &&& 31)).toInt64) ((p6 >>> ((11 : Int32) &&& 31)).toInt64)))), .second, .unset, .unset] rfl ?_
  refine g_aload X23 hx (hb hby at_129) 131 rfl (v := (.ref o19)) rfl rfl ?_
  refine g_aload X23 hx (hb hby at_131) 133 rfl (v := (.ref o15)) rfl rfl ?_
  obtain ⟨cq24, kq24, q24a, q24b, q24c⟩ := isOf hZ e23 f21_0
  obtain ⟨_, _, ⟨T24, L24, k24, n24⟩, -, X24, ⟨Lc24, hQ24, l24, y24, z24⟩, st24⟩ := X23.virtualBack hx (y := (⟨"com/example/peerpool/peerpool/core/UnitVector", "chordSquared", "(Lcom/example/peerpool/peerpool/core/UnitVector;)D"⟩ : MethodName)) (z := (⟨"com/example/peerpool/peerpool/core/UnitVector", "chordSquared", "(Lcom/example/peerpool/peerpool/core/UnitVector;)D"⟩ : MethodName)) hown (mvT hZ (hw _ (List.mem_of_getElem? (i := 20) rfl))) (mvT hZ (hw _ (List.mem_of_getElem? (i := 21) rfl))) (notFace_of_selects (args := #[]) (mvT hZ (hw _ (List.mem_of_getElem? (i := 23) rfl)))) (mvT hZ (hw _ (List.mem_of_getElem? (i := 23) rfl))) (mvT hZ (hw _ (List.mem_of_getElem? (i := 22) rfl))) (by decide) (backOf (W := 0) (rm4 l Z a0 hw [] o19 o15 ((p4 >>> ((11 : Int32) &&& 31)).toInt64) ((p5 >>> ((11 : Int32) &&& 31)).toInt64) ((p6 >>> ((11 : Int32) &&& 31)).toInt64) ((p1 >>> ((11 : Int32) &&& 31)).toInt64) ((p2 >>> ((11 : Int32) &&& 31)).toInt64) ((p3 >>> ((11 : Int32) &&& 31)).toInt64) T21.heap n0 Zs21 f21_1 f21_2 f21_3 F_x_o15_22 F_y_o15_22 F_z_o15_22 (own_sh _) (own_sh _) (own_sh _) (own_sh _) (own_sh _) (own_sh _)) hZ (hw _ (List.mem_of_getElem? (i := 24) rfl)) (hw _ (List.mem_of_getElem? (i := 2) rfl)) (by decide) (by decide)) q24a q24c (g := (mkF m 133 #[.val (.int p1), .val (.int p2), .val (.int p3), .val (.int p4), .val (.int p5), .val (.int p6), .val (.int (p1 >>> ((11 : Int32) &&& 31))), .val (.int (p2 >>> ((11 : Int32) &&& 31))), .val (.int (p3 >>> ((11 : Int32) &&& 31))), .val (.int (p4 >>> ((11 : Int32) &&& 31))), .val (.int (p5 >>> ((11 : Int32) &&& 31))), .val (.int (p6 >>> ((11 : Int32) &&& 31))), .val (.long (((p1 >>> ((11 : Int32) &&& 31)).toInt64) - ((p4 >>> ((11 : Int32) &&& 31)).toInt64))), .second, .val (.long (((p2 >>> ((11 : Int32) &&& 31)).toInt64) - ((p5 >>> ((11 : Int32) &&& 31)).toInt64))), .second, .val (.long (((p3 >>> ((11 : Int32) &&& 31)).toInt64) - ((p6 >>> ((11 : Int32) &&& 31)).toInt64))), .second, .val (.long ((((((p1 >>> ((11 : Int32) &&& 31)).toInt64) - ((p4 >>> ((11 : Int32) &&& 31)).toInt64)) * (((p1 >>> ((11 : Int32) &&& 31)).toInt64) - ((p4 >>> ((11 : Int32) &&& 31)).toInt64))) + ((((p2 >>> ((11 : Int32) &&& 31)).toInt64) - ((p5 >>> ((11 : Int32) &&& 31)).toInt64)) * (((p2 >>> ((11 : Int32) &&& 31)).toInt64) - ((p5 >>> ((11 : Int32) &&& 31)).toInt64)))) + ((((p3 >>> ((11 : Int32) &&& 31)).toInt64) - ((p6 >>> ((11 : Int32) &&& 31)).toInt64)) * (((p3 >>> ((11 : Int32) &&& 31)).toInt64) - ((p6 >>> ((11 : Int32) &&& 31)).toInt64))))), .second, .val (.ref o15), .val (.ref o19), .val (.double (FP.l2d (own_ch ((p1 >>> ((11 : Int32) &&& 31)).toInt64) ((p2 >>> ((11 : Int32) &&& 31)).toInt64) ((p3 >>> ((11 : Int32) &&& 31)).toInt64) ((p4 >>> ((11 : Int32) &&& 31)).toInt64) ((p5 >>> ((11 : Int32) &&& 31)).toInt64) ((p6 >>> ((11 : Int32) &&& 31)).toInt64)))), .second, .unset, .unset] [(.ref o15), (.ref o19)])) rfl (by rw [hml]; rfl) (Steps.refl _) (argsL := [(.ref o15)]) (rest := []) (lenOf own_pd2 rfl) rfl (by show 2 * 0 + _ ≤ _; exact Nat.le_of_eq rfl) (hb hby at_133) (fun _ _ => ⟨rfl, e23, (by decide : 2 + 0 ≤ _), (by decide : 6 + 0 ≤ _)⟩)
  dsimp only [Pt.U, Pt.locs, Pt.cells, Pt.slots] at X24 l24 y24 z24 st24 hQ24
  subst l24 y24 z24
  obtain ⟨rfl, Nq24, e24⟩ := hQ24
  refine Go.tr st24 ?_
  have N24 := Fr.app N23 Nq24
  show Go p e below _ (T24.setTop (mkF m 136 #[.val (.int p1), .val (.int p2), .val (.int p3), .val (.int p4), .val (.int p5), .val (.int p6), .val (.int (p1 >>> ((11 : Int32) &&& 31))), .val (.int (p2 >>> ((11 : Int32) &&& 31))), .val (.int (p3 >>> ((11 : Int32) &&& 31))), .val (.int (p4 >>> ((11 : Int32) &&& 31))), .val (.int (p5 >>> ((11 : Int32) &&& 31))), .val (.int (p6 >>> ((11 : Int32) &&& 31))), .val (.long (((p1 >>> ((11 : Int32) &&& 31)).toInt64) - ((p4 >>> ((11 : Int32) &&& 31)).toInt64))), .second, .val (.long (((p2 >>> ((11 : Int32) &&& 31)).toInt64) - ((p5 >>> ((11 : Int32) &&& 31)).toInt64))), .second, .val (.long (((p3 >>> ((11 : Int32) &&& 31)).toInt64) - ((p6 >>> ((11 : Int32) &&& 31)).toInt64))), .second, .val (.long ((((((p1 >>> ((11 : Int32) &&& 31)).toInt64) - ((p4 >>> ((11 : Int32) &&& 31)).toInt64)) * (((p1 >>> ((11 : Int32) &&& 31)).toInt64) - ((p4 >>> ((11 : Int32) &&& 31)).toInt64))) + ((((p2 >>> ((11 : Int32) &&& 31)).toInt64) - ((p5 >>> ((11 : Int32) &&& 31)).toInt64)) * (((p2 >>> ((11 : Int32) &&& 31)).toInt64) - ((p5 >>> ((11 : Int32) &&& 31)).toInt64)))) + ((((p3 >>> ((11 : Int32) &&& 31)).toInt64) - ((p6 >>> ((11 : Int32) &&& 31)).toInt64)) * (((p3 >>> ((11 : Int32) &&& 31)).toInt64) - ((p6 >>> ((11 : Int32) &&& 31)).toInt64))))), .second, .val (.ref o15), .val (.ref o19), .val (.double (FP.l2d (own_ch ((p1 >>> ((11 : Int32) &&& 31)).toInt64) ((p2 >>> ((11 : Int32) &&& 31)).toInt64) ((p3 >>> ((11 : Int32) &&& 31)).toInt64) ((p4 >>> ((11 : Int32) &&& 31)).toInt64) ((p5 >>> ((11 : Int32) &&& 31)).toInt64) ((p6 >>> ((11 : Int32) &&& 31)).toInt64)))), .second, .unset, .unset] [(.double (FP.l2d (own_ch ((p4 >>> ((11 : Int32) &&& 31)).toInt64) ((p5 >>> ((11 : Int32) &&& 31)).toInt64) ((p6 >>> ((11 : Int32) &&& 31)).toInt64) ((p1 >>> ((11 : Int32) &&& 31)).toInt64) ((p2 >>> ((11 : Int32) &&& 31)).toInt64) ((p3 >>> ((11 : Int32) &&& 31)).toInt64))))]))
  refine g_dstore X24 hx (hb hby at_136) 138 rfl #[.val (.int p1), .val (.int p2), .val (.int p3), .val (.int p4), .val (.int p5), .val (.int p6), .val (.int (p1 >>> ((11 : Int32) &&& 31))), .val (.int (p2 >>> ((11 : Int32) &&& 31))), .val (.int (p3 >>> ((11 : Int32) &&& 31))), .val (.int (p4 >>> ((11 : Int32) &&& 31))), .val (.int (p5 >>> ((11 : Int32) &&& 31))), .val (.int (p6 >>> ((11 : Int32) &&& 31))), .val (.long (((p1 >>> ((11 : Int32) &&& 31)).toInt64) - ((p4 >>> ((11 : Int32) &&& 31)).toInt64))), .second, .val (.long (((p2 >>> ((11 : Int32) &&& 31)).toInt64) - ((p5 >>> ((11 : Int32) &&& 31)).toInt64))), .second, .val (.long (((p3 >>> ((11 : Int32) &&& 31)).toInt64) - ((p6 >>> ((11 : Int32) &&& 31)).toInt64))), .second, .val (.long ((((((p1 >>> ((11 : Int32) &&& 31)).toInt64) - ((p4 >>> ((11 : Int32) &&& 31)).toInt64)) * (((p1 >>> ((11 : Int32) &&& 31)).toInt64) - ((p4 >>> ((11 : Int32) &&& 31)).toInt64))) + ((((p2 >>> ((11 : Int32) &&& 31)).toInt64) - ((p5 >>> ((11 : Int32) &&& 31)).toInt64)) * (((p2 >>> ((11 : Int32) &&& 31)).toInt64) - ((p5 >>> ((11 : Int32) &&& 31)).toInt64)))) + ((((p3 >>> ((11 : Int32) &&& 31)).toInt64) - ((p6 >>> ((11 : Int32) &&& 31)).toInt64)) * (((p3 >>> ((11 : Int32) &&& 31)).toInt64) - ((p6 >>> ((11 : Int32) &&& 31)).toInt64))))), .second, .val (.ref o15), .val (.ref o19), .val (.double (FP.l2d (own_ch ((p1 >>> ((11 : Int32) &&& 31)).toInt64) ((p2 >>> ((11 : Int32) &&& 31)).toInt64) ((p3 >>> ((11 : Int32) &&& 31)).toInt64) ((p4 >>> ((11 : Int32) &&& 31)).toInt64) ((p5 >>> ((11 : Int32) &&& 31)).toInt64) ((p6 >>> ((11 : Int32) &&& 31)).toInt64)))), .second, .val (.double (FP.l2d (own_ch ((p4 >>> ((11 : Int32) &&& 31)).toInt64) ((p5 >>> ((11 : Int32) &&& 31)).toInt64) ((p6 >>> ((11 : Int32) &&& 31)).toInt64) ((p1 >>> ((11 : Int32) &&& 31)).toInt64) ((p2 >>> ((11 : Int32) &&& 31)).toInt64) ((p3 >>> ((11 : Int32) &&& 31)).toInt64)))), .second] rfl ?_
  refine g_dload X24 hx (hb hby at_138) 140 rfl (v := (FP.l2d (own_ch ((p1 >>> ((11 : Int32) &&& 31)).toInt64) ((p2 >>> ((11 : Int32) &&& 31)).toInt64) ((p3 >>> ((11 : Int32) &&& 31)).toInt64) ((p4 >>> ((11 : Int32) &&& 31)).toInt64) ((p5 >>> ((11 : Int32) &&& 31)).toInt64) ((p6 >>> ((11 : Int32) &&& 31)).toInt64)))) rfl ?_
  refine g_lload X24 hx (hb hby at_140) 142 rfl (v := ((((((p1 >>> ((11 : Int32) &&& 31)).toInt64) - ((p4 >>> ((11 : Int32) &&& 31)).toInt64)) * (((p1 >>> ((11 : Int32) &&& 31)).toInt64) - ((p4 >>> ((11 : Int32) &&& 31)).toInt64))) + ((((p2 >>> ((11 : Int32) &&& 31)).toInt64) - ((p5 >>> ((11 : Int32) &&& 31)).toInt64)) * (((p2 >>> ((11 : Int32) &&& 31)).toInt64) - ((p5 >>> ((11 : Int32) &&& 31)).toInt64)))) + ((((p3 >>> ((11 : Int32) &&& 31)).toInt64) - ((p6 >>> ((11 : Int32) &&& 31)).toInt64)) * (((p3 >>> ((11 : Int32) &&& 31)).toInt64) - ((p6 >>> ((11 : Int32) &&& 31)).toInt64))))) rfl ?_
  refine g_l2d X24 hx (hb hby at_142) 143 rfl (FP.l2d ((((((p1 >>> ((11 : Int32) &&& 31)).toInt64) - ((p4 >>> ((11 : Int32) &&& 31)).toInt64)) * (((p1 >>> ((11 : Int32) &&& 31)).toInt64) - ((p4 >>> ((11 : Int32) &&& 31)).toInt64))) + ((((p2 >>> ((11 : Int32) &&& 31)).toInt64) - ((p5 >>> ((11 : Int32) &&& 31)).toInt64)) * (((p2 >>> ((11 : Int32) &&& 31)).toInt64) - ((p5 >>> ((11 : Int32) &&& 31)).toInt64)))) + ((((p3 >>> ((11 : Int32) &&& 31)).toInt64) - ((p6 >>> ((11 : Int32) &&& 31)).toInt64)) * (((p3 >>> ((11 : Int32) &&& 31)).toInt64) - ((p6 >>> ((11 : Int32) &&& 31)).toInt64))))) rfl ?_
  refine g_dcmp X24 hx (hb hby at_143) 144 rfl (0 : Int32) (dcmpV_eq rfl (own_nn _) _) ?_
  refine g_if_ne X24 hx (hb hby at_144) 160 147 (by decide) (by decide) rfl (fun hc144 => False.elim (hc144 rfl)) (fun hc144 => ?_)
  refine g_dload X24 hx (hb hby at_147) 149 rfl (v := (FP.l2d (own_ch ((p4 >>> ((11 : Int32) &&& 31)).toInt64) ((p5 >>> ((11 : Int32) &&& 31)).toInt64) ((p6 >>> ((11 : Int32) &&& 31)).toInt64) ((p1 >>> ((11 : Int32) &&& 31)).toInt64) ((p2 >>> ((11 : Int32) &&& 31)).toInt64) ((p3 >>> ((11 : Int32) &&& 31)).toInt64)))) rfl ?_
  refine g_lload X24 hx (hb hby at_149) 151 rfl (v := ((((((p1 >>> ((11 : Int32) &&& 31)).toInt64) - ((p4 >>> ((11 : Int32) &&& 31)).toInt64)) * (((p1 >>> ((11 : Int32) &&& 31)).toInt64) - ((p4 >>> ((11 : Int32) &&& 31)).toInt64))) + ((((p2 >>> ((11 : Int32) &&& 31)).toInt64) - ((p5 >>> ((11 : Int32) &&& 31)).toInt64)) * (((p2 >>> ((11 : Int32) &&& 31)).toInt64) - ((p5 >>> ((11 : Int32) &&& 31)).toInt64)))) + ((((p3 >>> ((11 : Int32) &&& 31)).toInt64) - ((p6 >>> ((11 : Int32) &&& 31)).toInt64)) * (((p3 >>> ((11 : Int32) &&& 31)).toInt64) - ((p6 >>> ((11 : Int32) &&& 31)).toInt64))))) rfl ?_
  refine g_l2d X24 hx (hb hby at_151) 152 rfl (FP.l2d ((((((p1 >>> ((11 : Int32) &&& 31)).toInt64) - ((p4 >>> ((11 : Int32) &&& 31)).toInt64)) * (((p1 >>> ((11 : Int32) &&& 31)).toInt64) - ((p4 >>> ((11 : Int32) &&& 31)).toInt64))) + ((((p2 >>> ((11 : Int32) &&& 31)).toInt64) - ((p5 >>> ((11 : Int32) &&& 31)).toInt64)) * (((p2 >>> ((11 : Int32) &&& 31)).toInt64) - ((p5 >>> ((11 : Int32) &&& 31)).toInt64)))) + ((((p3 >>> ((11 : Int32) &&& 31)).toInt64) - ((p6 >>> ((11 : Int32) &&& 31)).toInt64)) * (((p3 >>> ((11 : Int32) &&& 31)).toInt64) - ((p6 >>> ((11 : Int32) &&& 31)).toInt64))))) rfl ?_
  refine g_dcmp X24 hx (hb hby at_152) 153 rfl (0 : Int32) (dcmpV_eq (congrArg FP.l2d (own_ch_swap _ _ _ _ _ _)) (own_nn _) _) ?_
  refine g_if_ne X24 hx (hb hby at_153) 160 156 (by decide) (by decide) rfl (fun hc153 => False.elim (hc153 rfl)) (fun hc153 => ?_)
  refine g_iconst X24 hx (hb hby at_156) 157 rfl (1 : Int32) rfl ?_
  refine g_goto X24 hx (hb hby at_157) 161 (by decide) (by decide) ?_
  refine Go.retN X24 hx hlk (t := .boolean) Bd.returns (by simp) (hb hby at_161) (by decide) (by decide) ?_
  exact ⟨rfl, N24⟩
set_option maxRecDepth 65536 in
set_option maxHeartbeats 40000000 in
theorem comes_1 {Post : Tables → Env → Array Value → State → Outcome → State → Prop} (hpost : ∀ tb e args s v u, (limb_1_1.after args s (.returned v) u = true ∧ limb_1_2.after args s (.returned v) u = true ∧ True) → FrameEnd s (.returned v) u (Jvm.fieldLocs frame_1_writes args s ++ Jvm.arrayLocs frame_1_arrays args s ++ Jvm.staticLocs frame_1_statics s) 16 128 → Post tb e args s (.returned v) u) :
    ArmFor flags0 classFile x code maxLocals ret World_1 tables_1 room_1 Calls_1 rest_1 Pre_1 Post := by
  intro l hfl _ _ p e ha hc hk s m args below hf hA hF happ hP
  obtain ⟨hcalls, hrest, hpre⟩ := hP
  obtain ⟨-, -, -, hnamed, -, -, -, hat⟩ := (Spec.applies_iff hf).mp happ
  obtain ⟨hg, hn⟩ := and_e (Cond.before_iff.mp (show (Jvm.Cond.and given_1 narrow_1).before args s = true from hpre))
  obtain ⟨c0, r0⟩ := and_e hg
  obtain ⟨c1, r1⟩ := and_e r0
  obtain ⟨c2, r2⟩ := and_e r1
  obtain ⟨c3, r3⟩ := and_e r2
  obtain ⟨c4, r4⟩ := and_e r3
  obtain ⟨c5, r5⟩ := and_e r4
  obtain ⟨w0, w1, w2, w3, w4, w5, rfl⟩ : ∃ w0 w1 w2 w3 w4 w5 : Value, args = #[w0, w1, w2, w3, w4, w5] := by
    have hs : args.size = 6 := by simpa [Cond.value, given_1] using c0
    obtain ⟨L⟩ := args
    match L, hs with
    | [w0, w1, w2, w3, w4, w5], _ => exact ⟨w0, w1, w2, w3, w4, w5, rfl⟩
  have hw := fun d (hd : d ∈ tables_1) => atoms_spec (ws := Jvm.Cond.code x code maxLocals ret :: tables_1) hat d (List.mem_cons_of_mem _ hd)
  have hfit : Fit s := fun {y c} hc i hi => by
    obtain ⟨ha, rfl⟩ := Array.getElem?_eq_some_iff.mp hc
    have q := List.all_eq_true.mp ((Array.all_eq_true_iff_forall_mem.mp hF) _ (Array.getElem_mem ha)) i (List.mem_range.mpr hi)
    simpa [Array.getElem?_eq_getElem hi] using q
  obtain ⟨i0, ei0⟩ := is_v c1
  obtain rfl : w0 = (.int i0) := Option.some.inj ei0
  obtain ⟨i1, ei1⟩ := is_v c2
  obtain rfl : w1 = (.int i1) := Option.some.inj ei1
  obtain ⟨i2, ei2⟩ := is_v c3
  obtain rfl : w2 = (.int i2) := Option.some.inj ei2
  obtain ⟨i3, ei3⟩ := is_v c4
  obtain rfl : w3 = (.int i3) := Option.some.inj ei3
  obtain ⟨i4, ei4⟩ := is_v c5
  obtain rfl : w4 = (.int i4) := Option.some.inj ei4
  obtain ⟨i5, ei5⟩ := is_v r5
  obtain rfl : w5 = (.int i5) := Option.some.inj ei5
  obtain ⟨n, o, h1, h2, h3, _, L, rfl, ⟨rfl, N⟩, hq⟩ := rm0 l s _ hw tables_1 i0 i1 i2 i3 i4 i5 s.heap s.heap.size (Nat.le_refl _)  rfl p e ha hc hk s m _ below hf ((Spec.applies_iff_loose hf).mp happ).1 ⟨rfl, State.Warmed39.refl s, rfl⟩ trivial
  refine ⟨n, _, h1, h2, h3, hpost _ _ _ _ _ _ ⟨Cond.after_iff.mpr rfl, Cond.after_iff.mpr (eq_i res_at (Term.int_eval (1)) rfl), trivial⟩ ⟨hq.1, hq.2.1, (hq.2.2.sift fun y hy => Or.inr (N y hy)).mono (by decide) (by decide)⟩⟩
theorem main_1_1 : Claimed_1_1 := comes_1 fun _ _ _ _ _ _ h hF => ⟨h.1, hF⟩
theorem main_1_2 : Claimed_1_2 := comes_1 fun _ _ _ _ _ _ h hF => ⟨h.2.1, hF⟩
end Jvm.Pilot.@@N@@
namespace Jvm.Pilot.@@N@@
open Jvm Jvm.ClassFile Sem Op Lib Jvm.Free Jvm.Stand Jvm.Pilot.@@N@@.Jvm.D
/-! MADE BY PROGRAM (witnessworld.py) out of the Statement's table words and the real class files: 10 classes; the members and pool entries that the words name. The judged class is class 1, her method 1. -/
namespace start1
open Jvm.ClassFile
def u (s : String) : CpInfo := .utf8 (stringToUtf16 s)
/-- a pool by its gaps: so many unusable entries, then the entry; so many at the end -/
def gap : Nat → List CpInfo → List CpInfo
  | 0, r => r
  | n + 1, r => .unusable :: gap n r
def poolList (es : List (Nat × CpInfo)) (last : Nat) : List CpInfo := es.foldr (fun e r => gap e.1 (e.2 :: r)) (gap last [])
def pool (es : List (Nat × CpInfo)) (last : Nat) : Array CpInfo := ⟨poolList es last⟩
def fileOf (pool : Array CpInfo) (this : Nat) (attrs : Array Attribute := #[]) (ms : Array MethodInfo := #[]) (fl : Nat := 33) (sup : Nat := 0) (ifs : Array Nat := #[]) (fds : Array FieldInfo := #[]) : ClassFile where
  minorVersion := 0
  majorVersion := 65
  constantPool := pool
  accessFlags := fl
  thisClass := this
  superClass := sup
  interfaces := ifs
  fields := fds
  methods := ms
  attributes := attrs
def plain (name : String) (sup : Option ClassId) : Class where
  name := name
  kind := .ordinary
  loader := none
  accessFlags := 33
  super := sup
  interfaces := #[]
  cf := none
  fields := #[]
  methods := #[]
  instanceTypes := #[]
  staticTypes := #[]
  resolved := #[]
  callSites := []
  init := .initialized
  statics := none
  mirror := none

def pool0 : Array CpInfo := pool [(5, u "<init>"), (0, u "()V"), (1, .class_ 10), (1, u "java/lang/Object")] 113

def k0c0 : Code := { maxStack := 0, maxLocals := 1, code := object_method_1_code, exceptionTable := #[], attributes := #[] }
def k0m0 : Method := { name := "<init>", desc := "()V", sig := { parameters := [], returnType := none }, accessFlags := 1, code := some k0c0 }
/-- java/lang/Object -/
def k0 : Class := { plain "java/lang/Object" none with
  accessFlags := 33
  interfaces := #[]
  cf := some (fileOf pool0 8 #[] #[{ accessFlags := 1, nameIndex := 5, descriptorIndex := 6, attributes := #[] }] 33 0 #[] #[])
  fields := #[]
  methods := #[k0m0]
  instanceTypes := #[]
  staticTypes := #[]
  resolved := Array.replicate 124 none
  statics := none }

def pool1 : Array CpInfo := pool [(2, .class_ 4), (1, u "java/lang/Object"), (0, u "<init>"), (0, u "()V"), (0, .class_ 8), (0, u "com/example/peerpool/peerpool/core/UnitVector"), (0, .methodref 7 10), (0, .nameAndType 5 11), (0, u "(DDD)V"), (0, .methodref 7 13), (0, .nameAndType 14 15), (0, u "chordSquared"), (0, u "(Lcom/example/peerpool/peerpool/core/UnitVector;)D"), (0, .class_ 17), (0, u "com/example/peerpool/peerpool/core/UnitVectorChordSquaredPinLaw"), (2, u "law"), (0, u "(IIIIII)Z")] 3

def k1m0 : Method := { name := "<init>", desc := "()V", sig := { parameters := [], returnType := none }, accessFlags := 2, code := none }
def k1c1 : Code := { maxStack := 8, maxLocals := 26, code := code, exceptionTable := #[], attributes := #[] }
def k1m1 : Method := { name := "law", desc := "(IIIIII)Z", sig := { parameters := [.int, .int, .int, .int, .int, .int], returnType := some .boolean }, accessFlags := 9, code := some k1c1 }
/-- com/example/peerpool/peerpool/core/UnitVectorChordSquaredPinLaw -/
def k1 : Class := { plain "com/example/peerpool/peerpool/core/UnitVectorChordSquaredPinLaw" (some 0) with
  accessFlags := 49
  interfaces := #[]
  cf := some (fileOf pool1 16 #[] #[{ accessFlags := 2, nameIndex := 5, descriptorIndex := 6, attributes := #[] }, { accessFlags := 9, nameIndex := 20, descriptorIndex := 21, attributes := #[] }] 49 2 #[] #[])
  fields := #[]
  methods := #[k1m0, k1m1]
  instanceTypes := #[]
  staticTypes := #[]
  resolved := Array.replicate 25 none
  statics := none }

def pool2 : Array CpInfo := pool [(1, .methodref 2 3), (0, .class_ 4), (0, .nameAndType 5 6), (0, u "java/lang/Object"), (0, u "<init>"), (0, u "()V"), (0, .class_ 8), (0, u "java/lang/Record")] 13

def k2c0 : Code := { maxStack := 1, maxLocals := 1, code := jdk_30_method_1_code, exceptionTable := #[], attributes := #[] }
def k2m0 : Method := { name := "<init>", desc := "()V", sig := { parameters := [], returnType := none }, accessFlags := 4, code := some k2c0 }
/-- java/lang/Record -/
def k2 : Class := { plain "java/lang/Record" (some 0) with
  accessFlags := 1057
  interfaces := #[]
  cf := some (fileOf pool2 7 #[] #[{ accessFlags := 4, nameIndex := 5, descriptorIndex := 6, attributes := #[] }] 1057 2 #[] #[])
  fields := #[]
  methods := #[k2m0]
  instanceTypes := #[]
  staticTypes := #[]
  resolved := Array.replicate 22 none
  statics := none }

def pool3 : Array CpInfo := pool [(1, .methodref 2 3), (0, .class_ 4), (0, .nameAndType 5 6), (0, u "java/lang/Record"), (0, u "<init>"), (0, u "()V"), (0, .fieldref 8 9), (0, .class_ 10), (0, .nameAndType 11 12), (0, u "com/example/peerpool/peerpool/core/UnitVector"), (0, u "x"), (0, u "D"), (0, .fieldref 8 14), (0, .nameAndType 15 12), (0, u "y"), (0, .fieldref 8 17), (0, .nameAndType 18 12), (0, u "z"), (23, u "(DDD)V"), (27, u "ROUNDING"), (8, u "chordSquared"), (0, u "(Lcom/example/peerpool/peerpool/core/UnitVector;)D")] 25

def k3c0 : Code := { maxStack := 3, maxLocals := 7, code := prog_31_method_1_code, exceptionTable := #[], attributes := #[] }
def k3m0 : Method := { name := "<init>", desc := "(DDD)V", sig := { parameters := [.double, .double, .double], returnType := none }, accessFlags := 1, code := some k3c0 }
def k3c1 : Code := { maxStack := 6, maxLocals := 8, code := prog_31_method_5_code, exceptionTable := #[], attributes := #[] }
def k3m1 : Method := { name := "chordSquared", desc := "(Lcom/example/peerpool/peerpool/core/UnitVector;)D", sig := { parameters := [(.object "com/example/peerpool/peerpool/core/UnitVector")], returnType := some .double }, accessFlags := 1, code := some k3c1 }
/-- com/example/peerpool/peerpool/core/UnitVector -/
def k3 : Class := { plain "com/example/peerpool/peerpool/core/UnitVector" (some 2) with
  accessFlags := 49
  interfaces := #[]
  cf := some (fileOf pool3 8 #[] #[{ accessFlags := 1, nameIndex := 5, descriptorIndex := 42, attributes := #[] }, { accessFlags := 1, nameIndex := 79, descriptorIndex := 80, attributes := #[] }] 49 2 #[] #[{ accessFlags := 18, nameIndex := 11, descriptorIndex := 12, attributes := #[] }, { accessFlags := 18, nameIndex := 15, descriptorIndex := 12, attributes := #[] }, { accessFlags := 18, nameIndex := 18, descriptorIndex := 12, attributes := #[] }, { accessFlags := 26, nameIndex := 70, descriptorIndex := 12, attributes := #[] }])
  fields := #[{ name := "x", type := .double, accessFlags := 18, slot := 0, constantValue := 0 }, { name := "y", type := .double, accessFlags := 18, slot := 1, constantValue := 0 }, { name := "z", type := .double, accessFlags := 18, slot := 2, constantValue := 0 }, { name := "ROUNDING", type := .double, accessFlags := 26, slot := 0, constantValue := 0 }]
  methods := #[k3m0, k3m1]
  instanceTypes := #[.double, .double, .double]
  staticTypes := #[.double]
  resolved := Array.replicate 106 none
  statics := none }

def pool4 : Array CpInfo := pool [(1, u "java/lang/Cloneable"), (0, .class_ 1), (0, u "java/lang/Object"), (0, .class_ 3)] 3

/-- java/lang/Cloneable -/
def k4 : Class := { plain "java/lang/Cloneable" (some 0) with
  accessFlags := 1537
  interfaces := #[]
  cf := some (fileOf pool4 2 #[] #[] 1537 4 #[] #[])
  fields := #[]
  methods := #[]
  instanceTypes := #[]
  staticTypes := #[]
  resolved := Array.replicate 8 none
  statics := none }

def pool5 : Array CpInfo := pool [(1, u "java/io/Serializable"), (0, .class_ 1), (0, u "java/lang/Object"), (0, .class_ 3)] 3

/-- java/io/Serializable -/
def k5 : Class := { plain "java/io/Serializable" (some 0) with
  accessFlags := 1537
  interfaces := #[]
  cf := some (fileOf pool5 2 #[] #[] 1537 4 #[] #[])
  fields := #[]
  methods := #[]
  instanceTypes := #[]
  staticTypes := #[]
  resolved := Array.replicate 8 none
  statics := none }

/-- the primitive byte -/
def k6 : Class := { plain "byte" none with kind := .primitive 'B', accessFlags := 0x411 }
/-- [B -/
def k7 : Class := { plain "[B" (some 0) with kind := .array 6 .byte, interfaces := #[4, 5], accessFlags := 1041 }

/-- the primitive int -/
def k8 : Class := { plain "int" none with kind := .primitive 'I', accessFlags := 0x411 }
/-- [I -/
def k9 : Class := { plain "[I" (some 0) with kind := .array 8 .int, interfaces := #[4, 5], accessFlags := 1041 }

def heap : Heap := #[]
def classes : Array Class := #[k0, k1, k2, k3, k4, k5, k6, k7, k8, k9]
def interned : List (Array UInt16 × Addr) := []
def slotsUsed : Nat := 0
def theMethod : MethodId := ⟨1, 1⟩
def args0 : Array Value := #[.int 1, .int 2, .int 3, .int 4, .int 5, .int 6]
def aboutOver (below : List Frame) : State where
  vm := { classes := classes, interned := interned.toArray }
  heap := heap
  slotsUsed := slotsUsed
  threads := #[{ frames := .invoking theMethod args0 :: below }]
def below0 : List Frame := [.native { method := ⟨0, 0⟩, args := #[] }]
def about1 : State := aboutOver below0
def p0 : Program := .bare "" "" ""
def e0 : Env := launch0.env 0 0 0
theorem w_frames : about1.frames = Frame.invoking theMethod args0 :: below0 := rfl
set_option maxRecDepth 65536 in
theorem w_args : argsFit about1.vm theMethod args0 = true := by decide +kernel
set_option maxRecDepth 65536 in
theorem w_heap : heapFits about1 = true := by decide +kernel
set_option maxRecDepth 65536 in
theorem w_runnable : about1.curStatus? = some .runnable := by decide +kernel
set_option maxRecDepth 65536 in
theorem w_alone : about1.alone = true := by decide +kernel
set_option maxRecDepth 65536 in
theorem w_named : about1.methodNamed? x = some theMethod := by decide +kernel
set_option maxRecDepth 65536 in
theorem w_hears : about1.hears theMethod below0 = true := by decide +kernel
set_option maxRecDepth 65536 in
theorem w_ripe : about1.ripe theMethod args0 below0 = true := by decide +kernel
theorem w_running : about1.status = .running := rfl
set_option maxRecDepth 65536 in
theorem w_room : about1.hasRoom e0.platform room_1 = true :=
  launch0.hasRoom_least _ room_1 (by decide +kernel) (by decide +kernel) (by decide +kernel) (by decide +kernel) (by decide +kernel) (by decide +kernel)
theorem allAtoms_all (ts : List Jvm.Cond) (a : Array Jvm.Value) (st : Jvm.State) : (allAtoms ts).before a st = ts.all (fun c => c.before a st) := by
  induction ts with
  | nil => rfl
  | cons c t ih =>
    show (Jvm.Cond.and c (allAtoms t)).before a st = _
    rw [Jvm.Cond.before_and, ih, List.all_cons]
def words1 : List Jvm.Cond := Jvm.Cond.code x code maxLocals ret :: tables_1
/-- a 'code' word, met by the world's own term for the bytes: nothing is compared byte by byte -/
theorem code_word {y : MethodName} {bytes : ByteArray} {mx : Nat} {rt : Option FieldType} {a : Array Value} {s : State} {m : MethodId} {meth : Method} {c : Code} (h1 : s.methodNamed? y = some m) (h2 : s.vm.method? m = some meth) (h3 : meth.code = some c) (h4 : c.code = bytes)
    (h5 : (c.maxLocals == mx && c.exceptionTable.isEmpty && decide (c.maxStack ≤ mostOperands) && decide (meth.sig.returnType = rt) && !meth.locks && decide (parseMethodDescriptor y.desc = some meth.sig)) = true) : (Jvm.Cond.code y bytes mx rt).before a s = true := by
  simp only [Bool.and_eq_true, beq_iff_eq, Bool.not_eq_true', decide_eq_true_eq] at h5
  obtain ⟨⟨⟨⟨⟨g1, g2⟩, g3⟩, g4⟩, g5⟩, g6⟩ := h5
  simp [Cond.before, Cond.holds, Cond.value, h1, h2, h3, h4, g1, g2, g3, g4, g5, g6]
def isCode : Jvm.Cond → Bool
  | .code _ _ _ _ => true
  | _ => false
theorem all_split {L : List Jvm.Cond} {P : Jvm.Cond → Bool} (h1 : L.all (fun c => isCode c || P c) = true) (h2 : ∀ c ∈ L.filter isCode, P c = true) : L.all P = true := by
  refine List.all_eq_true.mpr fun c hc => ?_
  have h := List.all_eq_true.mp h1 c hc
  rcases Bool.eq_false_or_eq_true (isCode c) with hi | hi
  · exact h2 c (List.mem_filter.mpr ⟨hc, hi⟩)
  · simpa [hi] using h
set_option maxRecDepth 65536 in
theorem w_c0 : (Jvm.Cond.code x code maxLocals ret).before args0 about1 = true := code_word (m := ⟨1, 1⟩) (meth := k1m1) (c := k1c1) (by decide +kernel) rfl rfl rfl (by decide +kernel)
set_option maxRecDepth 65536 in
theorem w_c1 : (Jvm.Cond.code ({ cls := "com/example/peerpool/peerpool/core/UnitVector", name := "<init>", desc := "(DDD)V" } : Jvm.MethodName) prog_31_method_1_code (7 : Nat) (Option.none : Option Jvm.ClassFile.FieldType)).before args0 about1 = true := code_word (m := ⟨3, 0⟩) (meth := k3m0) (c := k3c0) (by decide +kernel) rfl rfl rfl (by decide +kernel)
set_option maxRecDepth 65536 in
theorem w_c2 : (Jvm.Cond.code ({ cls := "java/lang/Record", name := "<init>", desc := "()V" } : Jvm.MethodName) jdk_30_method_1_code (1 : Nat) (Option.none : Option Jvm.ClassFile.FieldType)).before args0 about1 = true := code_word (m := ⟨2, 0⟩) (meth := k2m0) (c := k2c0) (by decide +kernel) rfl rfl rfl (by decide +kernel)
set_option maxRecDepth 65536 in
theorem w_c3 : (Jvm.Cond.code ({ cls := "java/lang/Object", name := "<init>", desc := "()V" } : Jvm.MethodName) object_method_1_code (1 : Nat) (Option.none : Option Jvm.ClassFile.FieldType)).before args0 about1 = true := code_word (m := ⟨0, 0⟩) (meth := k0m0) (c := k0c0) (by decide +kernel) rfl rfl rfl (by decide +kernel)
set_option maxRecDepth 65536 in
theorem w_c4 : (Jvm.Cond.code ({ cls := "com/example/peerpool/peerpool/core/UnitVector", name := "chordSquared", desc := "(Lcom/example/peerpool/peerpool/core/UnitVector;)D" } : Jvm.MethodName) prog_31_method_5_code (8 : Nat) (Option.some Jvm.ClassFile.FieldType.double)).before args0 about1 = true := code_word (m := ⟨3, 1⟩) (meth := k3m1) (c := k3c1) (by decide +kernel) rfl rfl rfl (by decide +kernel)
def codes1 : List Jvm.Cond := [Jvm.Cond.code x code maxLocals ret, Jvm.Cond.code ({ cls := "com/example/peerpool/peerpool/core/UnitVector", name := "<init>", desc := "(DDD)V" } : Jvm.MethodName) prog_31_method_1_code (7 : Nat) (Option.none : Option Jvm.ClassFile.FieldType), Jvm.Cond.code ({ cls := "java/lang/Record", name := "<init>", desc := "()V" } : Jvm.MethodName) jdk_30_method_1_code (1 : Nat) (Option.none : Option Jvm.ClassFile.FieldType), Jvm.Cond.code ({ cls := "java/lang/Object", name := "<init>", desc := "()V" } : Jvm.MethodName) object_method_1_code (1 : Nat) (Option.none : Option Jvm.ClassFile.FieldType), Jvm.Cond.code ({ cls := "com/example/peerpool/peerpool/core/UnitVector", name := "chordSquared", desc := "(Lcom/example/peerpool/peerpool/core/UnitVector;)D" } : Jvm.MethodName) prog_31_method_5_code (8 : Nat) (Option.some Jvm.ClassFile.FieldType.double)]
set_option maxRecDepth 65536 in
theorem codes_eq : words1.filter isCode = codes1 := rfl
theorem w_codes : ∀ c ∈ words1.filter isCode, c.before args0 about1 = true := by
  rw [codes_eq]
  intro c hc
  simp only [codes1, List.mem_cons, List.not_mem_nil, or_false] at hc
  rcases hc with rfl | rfl | rfl | rfl | rfl
  · exact w_c0
  · exact w_c1
  · exact w_c2
  · exact w_c3
  · exact w_c4
set_option maxRecDepth 65536 in
theorem w_t1 : (words1.take 24).all (fun c => isCode c || c.before args0 about1) = true := by decide +kernel
set_option maxRecDepth 65536 in
theorem w_t2 : (words1.drop 24).all (fun c => isCode c || c.before args0 about1) = true := by decide +kernel
theorem w_tables : (allAtoms (Jvm.Cond.code x code maxLocals ret :: tables_1)).before args0 about1 = true := by
  rw [allAtoms_all]
  show words1.all (fun c => c.before args0 about1) = true
  refine all_split ?_ w_codes
  rw [← List.take_append_drop 24 words1, List.all_append, w_t1, w_t2]
  rfl
set_option maxRecDepth 65536 in
theorem w_case : (Jvm.Cond.and given_1 narrow_1).before args0 about1 = true := by decide +kernel
theorem w_applies : (headSpec (Jvm.Cond.code x code maxLocals ret :: tables_1) room_1).applies x e0.platform about1 = true :=
  (Spec.applies_iff w_frames).mpr ⟨w_running, w_runnable, w_alone, w_named, w_hears, w_ripe, w_room, w_tables⟩
theorem atStart : AtStart classFile x code maxLocals ret World_1 tables_1 room_1 Calls_1 rest_1 Pre_1 launch0 p0 e0 about1 theMethod args0 below0 :=
  ⟨lists_1, trivial, launch0.admits_env _ _ _, launch0.least_env, fairChoices_fair.cas, fairChoices_fair.clock, w_frames, w_args, w_heap, w_applies, trivial, trivial, w_case⟩
end start1
theorem witness_1 : WitnessClaimed_1 := ⟨start1.p0, start1.e0, start1.about1, start1.theMethod, start1.args0, start1.below0, start1.atStart⟩
end Jvm.Pilot.@@N@@
