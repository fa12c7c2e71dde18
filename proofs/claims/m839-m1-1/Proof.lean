import JvmDerived
import JvmDerived.Pilot.@@N@@Statement
import JvmDerived.Pilot.@@N@@Code
set_option linter.unusedVariables false
set_option linter.unusedSimpArgs false
namespace Jvm.Pilot.@@N@@
open Jvm Jvm.ClassFile Sem Op Lib Jvm.Free Jvm.Stand Jvm.LawKit Jvm.RoadKit Bundle Jvm.Pilot.@@N@@.Jvm.D

section Layer
variable {p : Program} {l : Launch} {e : Env} {R : Room} {s : State} {m : MethodId} {args : Array Value} {below : List Frame} {meth : Method} {c : Code} {T : State} {locs : List Loc} {cells slots : Nat}
/-- the walk from σ comes to an end at which K holds -/
def Go (p : Program) (e : Env) (below : List Frame) (K : State → Outcome → Prop) (σ : State) : Prop := ∃ s₂ o, Steps p.tables e below σ s₂ ∧ K s₂ o
theorem Go.st {K : State → Outcome → Prop} {σ σ' : State} (h : ∀ t, Steps p.tables e below σ' t → Steps p.tables e below σ t) (k : Go p e below K σ') : Go p e below K σ := by
  obtain ⟨a, b, c, d⟩ := k
  exact ⟨a, b, h _ c, d⟩
theorem Go.tr {K : State → Outcome → Prop} {σ σ' : State} (h : Steps p.tables e below σ σ') (k : Go p e below K σ') : Go p e below K σ := Go.st (fun _ q => h.trans q) k
/-- what a contract asks of the end -/
def KQ (s : State) (below : List Frame) (Q : Option Value → Heap → List Loc → Prop) (C S : Nat) (s₂ : State) (o : Outcome) : Prop :=
  s₂.status = .running ∧ Ended s₂ below o ∧ ∃ v L, o = .returned v ∧ Q v s₂.heap L ∧ FrameEnd s o s₂ L C S
theorem Go.body {K : State → Outcome → Prop} {σ : State} {g g' : JFrame} (hg : g = g') (k : Go p e below K (T.setTop g')) : Go p e below K (T.setTop g) := hg ▸ k
/-- return of nothing -/
theorem Go.retV {Q : Option Value → Heap → List Loc → Prop} {C S : Nat} (X : Stand p l e R s m args below meth c T locs cells slots) (hx : p.tables.exec = Jvm.exec) (hlk : meth.locks = false) (hret : meth.sig.returnType = none) {pc : Nat} {Ls : Array Slot} (hd : decode c.code pc = .ok (.return_, 1)) (hC : cells ≤ C) (hS : slots ≤ S) (q : Q none T.heap locs) :
    Go p e below (KQ s below Q C S) (T.setTop (mkF m pc Ls [])) := by
  obtain ⟨fs, hr, hrun, hended, hW, hsame⟩ := X.leave (v := none) (fun _ => rfl)
  exact ⟨_, _, X.returnOut hx hret hd hr, hrun, hended, _, _, rfl, q, ⟨_, rfl⟩, hW, hsame.mono hC hS⟩
/-- return of an int -/
theorem Go.retI {Q : Option Value → Heap → List Loc → Prop} {C S : Nat} (X : Stand p l e R s m args below meth c T locs cells slots) (hx : p.tables.exec = Jvm.exec) (hlk : meth.locks = false) (hret : meth.sig.returnType = some .int) {pc : Nat} {Ls : Array Slot} {z : Int32} {rest : List Value} (hd : decode c.code pc = .ok (.ireturn, 1)) (hC : cells ≤ C) (hS : slots ≤ S) (q : Q (some (.int z)) T.heap locs) :
    Go p e below (KQ s below Q C S) (T.setTop (mkF m pc Ls (.int z :: rest))) := by
  obtain ⟨fs, hr, hrun, hended, hW, hsame⟩ := X.leave (v := some (.int z)) (fun h => by rw [hret] at h; cases h)
  exact ⟨_, _, retOut X hx hret rfl (Or.inl ⟨rfl, Or.inl rfl, _, rfl⟩) hd hr, hrun, hended, _, _, rfl, q, ⟨_, rfl⟩, hW, hsame.mono hC hS⟩
/-- return of a boolean, byte, char or short -/
theorem Go.retN {Q : Option Value → Heap → List Loc → Prop} {C S : Nat} (X : Stand p l e R s m args below meth c T locs cells slots) (hx : p.tables.exec = Jvm.exec) (hlk : meth.locks = false) {t : FieldType} (hret : meth.sig.returnType = some t) (ht : t = .boolean ∨ t = .byte ∨ t = .char ∨ t = .short) {pc : Nat} {Ls : Array Slot} {z : Int32} {rest : List Value} (hd : decode c.code pc = .ok (.ireturn, 1)) (hC : cells ≤ C) (hS : slots ≤ S) (q : Q (some (.int (nar t z))) T.heap locs) :
    Go p e below (KQ s below Q C S) (T.setTop (mkF m pc Ls (.int z :: rest))) := by
  obtain ⟨fs, hr, hrun, hended, hW, hsame⟩ := X.leave (v := some (.int (nar t z))) (fun h => by rw [hret] at h; cases h)
  exact ⟨_, _, RoadKit.retN X hx hret ht hd hr, hrun, hended, _, _, rfl, q, ⟨_, rfl⟩, hW, hsame.mono hC hS⟩
/-- return of a reference -/
theorem Go.retA {Q : Option Value → Heap → List Loc → Prop} {C S : Nat} (X : Stand p l e R s m args below meth c T locs cells slots) (hx : p.tables.exec = Jvm.exec) (hlk : meth.locks = false) {t : FieldType} (hret : meth.sig.returnType = some t) (ht : t.isReference = true) {pc : Nat} {Ls : Array Slot} {w : Value} (hw : w.isRef = true) {rest : List Value} (hd : decode c.code pc = .ok (.areturn, 1)) (hC : cells ≤ C) (hS : slots ≤ S) (q : Q (some w) T.heap locs) :
    Go p e below (KQ s below Q C S) (T.setTop (mkF m pc Ls (w :: rest))) := by
  obtain ⟨fs, hr, hrun, hended, hW, hsame⟩ := X.leave (v := some w) (fun h => by rw [hret] at h; cases h)
  exact ⟨_, _, retOut X hx hret (by cases t <;> cases w <;> simp_all [narrow, Value.isRef, FieldType.isReference]) (Or.inr (Or.inr (Or.inr (Or.inr ⟨rfl, ht, hw⟩)))) hd hr, hrun, hended, _, _, rfl, q, ⟨_, rfl⟩, hW, hsame.mono hC hS⟩
/-- return of a long -/
theorem Go.retJ {Q : Option Value → Heap → List Loc → Prop} {C S : Nat} (X : Stand p l e R s m args below meth c T locs cells slots) (hx : p.tables.exec = Jvm.exec) (hlk : meth.locks = false) (hret : meth.sig.returnType = some .long) {pc : Nat} {Ls : Array Slot} {z : Int64} {rest : List Value} (hd : decode c.code pc = .ok (.lreturn, 1)) (hC : cells ≤ C) (hS : slots ≤ S) (q : Q (some (.long z)) T.heap locs) :
    Go p e below (KQ s below Q C S) (T.setTop (mkF m pc Ls (.long z :: rest))) := by
  obtain ⟨fs, hr, hrun, hended, hW, hsame⟩ := X.leave (v := some (.long z)) (fun h => by rw [hret] at h; cases h)
  exact ⟨_, _, retOut X hx hret rfl (Or.inr (Or.inl ⟨rfl, rfl, _, rfl⟩)) hd hr, hrun, hended, _, _, rfl, q, ⟨_, rfl⟩, hW, hsame.mono hC hS⟩
/-- return of a double -/
theorem Go.retD {Q : Option Value → Heap → List Loc → Prop} {C S : Nat} (X : Stand p l e R s m args below meth c T locs cells slots) (hx : p.tables.exec = Jvm.exec) (hlk : meth.locks = false) (hret : meth.sig.returnType = some .double) {pc : Nat} {Ls : Array Slot} {z : UInt64} {rest : List Value} (hd : decode c.code pc = .ok (.dreturn, 1)) (hC : cells ≤ C) (hS : slots ≤ S) (q : Q (some (.double z)) T.heap locs) :
    Go p e below (KQ s below Q C S) (T.setTop (mkF m pc Ls (.double z :: rest))) := by
  obtain ⟨fs, hr, hrun, hended, hW, hsame⟩ := X.leave (v := some (.double z)) (fun h => by rw [hret] at h; cases h)
  exact ⟨_, _, retOut X hx hret rfl (Or.inr (Or.inr (Or.inl ⟨rfl, rfl, _, rfl⟩))) hd hr, hrun, hended, _, _, rfl, q, ⟨_, rfl⟩, hW, hsame.mono hC hS⟩
theorem g_iloadN {K : State → Outcome → Prop} (X : Stand p l e R s m args below meth c T locs cells slots) (hx : p.tables.exec = Jvm.exec) {pc : Nat} {L : Array Slot} {S : List Value} {k : Fin 4} {v : Int32} (hd : decode c.code pc = .ok (.iload_n k, 1)) (pc' : Nat) (hp : pc + 1 = pc') (hl : L[k.val]? = some (.val (.int v))) (r : Go p e below K (T.setTop (mkF m pc' L (.int v :: S)))) : Go p e below K (T.setTop (mkF m pc L S)) := by
  subst hp
  exact Go.st (fun _ => XS.iloadN X.here hx rfl hd hl) r
theorem g_iload {K : State → Outcome → Prop} (X : Stand p l e R s m args below meth c T locs cells slots) (hx : p.tables.exec = Jvm.exec) {pc : Nat} {L : Array Slot} {S : List Value} {k : Nat} {v : Int32} (hd : decode c.code pc = .ok (.iload k, 2)) (pc' : Nat) (hp : pc + 2 = pc') (hl : L[k]? = some (.val (.int v))) (r : Go p e below K (T.setTop (mkF m pc' L (.int v :: S)))) : Go p e below K (T.setTop (mkF m pc L S)) := by
  subst hp
  exact Go.st (fun _ => XS.iload X.here hx rfl hd hl) r
theorem g_aloadN {K : State → Outcome → Prop} (X : Stand p l e R s m args below meth c T locs cells slots) (hx : p.tables.exec = Jvm.exec) {pc : Nat} {L : Array Slot} {S : List Value} {k : Fin 4} {v : Value} (hd : decode c.code pc = .ok (.aload_n k, 1)) (pc' : Nat) (hp : pc + 1 = pc') (hl : L[k.val]? = some (.val v)) (hv : v.isRef = true) (r : Go p e below K (T.setTop (mkF m pc' L (v :: S)))) : Go p e below K (T.setTop (mkF m pc L S)) := by
  subst hp
  exact Go.st (fun _ => XS.aloadN X.here hx rfl hd hl hv) r
theorem g_aload {K : State → Outcome → Prop} (X : Stand p l e R s m args below meth c T locs cells slots) (hx : p.tables.exec = Jvm.exec) {pc : Nat} {L : Array Slot} {S : List Value} {k : Nat} {v : Value} (hd : decode c.code pc = .ok (.aload k, 2)) (pc' : Nat) (hp : pc + 2 = pc') (hl : L[k]? = some (.val v)) (hv : v.isRef = true) (r : Go p e below K (T.setTop (mkF m pc' L (v :: S)))) : Go p e below K (T.setTop (mkF m pc L S)) := by
  subst hp
  exact Go.st (fun _ => XS.aload X.here hx rfl hd hl hv) r
theorem g_istoreN {K : State → Outcome → Prop} (X : Stand p l e R s m args below meth c T locs cells slots) (hx : p.tables.exec = Jvm.exec) {pc : Nat} {L : Array Slot} {S : List Value} {k : Fin 4} {v : Int32} (hd : decode c.code pc = .ok (.istore_n k, 1)) (pc' : Nat) (hp : pc + 1 = pc') (L' : Array Slot) (hl : storeLocals L k.val (.int v) = some L') (r : Go p e below K (T.setTop (mkF m pc' L' S))) : Go p e below K (T.setTop (mkF m pc L (.int v :: S))) := by
  subst hp
  exact Go.st (fun _ => XS.istoreN X.here hx rfl hd rfl hl) r
theorem g_istore {K : State → Outcome → Prop} (X : Stand p l e R s m args below meth c T locs cells slots) (hx : p.tables.exec = Jvm.exec) {pc : Nat} {L : Array Slot} {S : List Value} {k : Nat} {v : Int32} (hd : decode c.code pc = .ok (.istore k, 2)) (pc' : Nat) (hp : pc + 2 = pc') (L' : Array Slot) (hl : storeLocals L k (.int v) = some L') (r : Go p e below K (T.setTop (mkF m pc' L' S))) : Go p e below K (T.setTop (mkF m pc L (.int v :: S))) := by
  subst hp
  exact Go.st (fun _ => XS.istore X.here hx rfl hd rfl hl) r
theorem g_astoreN {K : State → Outcome → Prop} (X : Stand p l e R s m args below meth c T locs cells slots) (hx : p.tables.exec = Jvm.exec) {pc : Nat} {L : Array Slot} {S : List Value} {k : Fin 4} {v : Value} (hd : decode c.code pc = .ok (.astore_n k, 1)) (pc' : Nat) (hp : pc + 1 = pc') (hv : v.isRef = true) (L' : Array Slot) (hl : storeLocals L k.val v = some L') (r : Go p e below K (T.setTop (mkF m pc' L' S))) : Go p e below K (T.setTop (mkF m pc L (v :: S))) := by
  subst hp
  exact Go.st (fun _ => XS.astoreN X.here hx rfl hd rfl hv hl) r
theorem g_astore {K : State → Outcome → Prop} (X : Stand p l e R s m args below meth c T locs cells slots) (hx : p.tables.exec = Jvm.exec) {pc : Nat} {L : Array Slot} {S : List Value} {k : Nat} {v : Value} (hd : decode c.code pc = .ok (.astore k, 2)) (pc' : Nat) (hp : pc + 2 = pc') (hv : v.isRef = true) (L' : Array Slot) (hl : storeLocals L k v = some L') (r : Go p e below K (T.setTop (mkF m pc' L' S))) : Go p e below K (T.setTop (mkF m pc L (v :: S))) := by
  subst hp
  exact Go.st (fun _ => XS.astore X.here hx rfl hd rfl hv hl) r
theorem g_iconst {K : State → Outcome → Prop} (X : Stand p l e R s m args below meth c T locs cells slots) (hx : p.tables.exec = Jvm.exec) {pc : Nat} {L : Array Slot} {S : List Value} {i : Int} (hd : decode c.code pc = .ok (.iconst i, 1)) (pc' : Nat) (hp : pc + 1 = pc') (z : Int32) (hz : Int32.ofInt i = z) (r : Go p e below K (T.setTop (mkF m pc' L (.int z :: S)))) : Go p e below K (T.setTop (mkF m pc L S)) := by
  subst hp; subst hz
  exact Go.st (fun _ => XS.iconst X.here hx rfl hd) r
theorem g_bipush {K : State → Outcome → Prop} (X : Stand p l e R s m args below meth c T locs cells slots) (hx : p.tables.exec = Jvm.exec) {pc : Nat} {L : Array Slot} {S : List Value} {i : Int} (hd : decode c.code pc = .ok (.bipush i, 2)) (pc' : Nat) (hp : pc + 2 = pc') (z : Int32) (hz : (Int8.ofInt i).toInt32 = z) (r : Go p e below K (T.setTop (mkF m pc' L (.int z :: S)))) : Go p e below K (T.setTop (mkF m pc L S)) := by
  subst hp; subst hz
  exact Go.st (fun _ => XS.bipush X.here hx rfl hd) r
theorem g_sipush {K : State → Outcome → Prop} (X : Stand p l e R s m args below meth c T locs cells slots) (hx : p.tables.exec = Jvm.exec) {pc : Nat} {L : Array Slot} {S : List Value} {i : Int} (hd : decode c.code pc = .ok (.sipush i, 3)) (pc' : Nat) (hp : pc + 3 = pc') (z : Int32) (hz : (Int16.ofInt i).toInt32 = z) (r : Go p e below K (T.setTop (mkF m pc' L (.int z :: S)))) : Go p e below K (T.setTop (mkF m pc L S)) := by
  subst hp; subst hz
  exact Go.st (fun _ => XS.sipush X.here hx rfl hd) r
theorem g_lconst {K : State → Outcome → Prop} (X : Stand p l e R s m args below meth c T locs cells slots) (hx : p.tables.exec = Jvm.exec) {pc : Nat} {L : Array Slot} {S : List Value} {k : Fin 2} (hd : decode c.code pc = .ok (.lconst k, 1)) (pc' : Nat) (hp : pc + 1 = pc') (z : Int64) (hz : Int64.ofNat k.val = z) (r : Go p e below K (T.setTop (mkF m pc' L (.long z :: S)))) : Go p e below K (T.setTop (mkF m pc L S)) := by
  subst hp; subst hz
  exact Go.st (fun _ => XT.lconst X.here hx rfl hd) r
theorem g_iadd {K : State → Outcome → Prop} (X : Stand p l e R s m args below meth c T locs cells slots) (hx : p.tables.exec = Jvm.exec) {pc : Nat} {L : Array Slot} {S : List Value} {x y : Int32} (hd : decode c.code pc = .ok (.iadd, 1)) (pc' : Nat) (hp : pc + 1 = pc') (z : Int32) (hz : x + y = z) (r : Go p e below K (T.setTop (mkF m pc' L (.int z :: S)))) : Go p e below K (T.setTop (mkF m pc L (.int y :: .int x :: S))) := by
  subst hp; subst hz
  exact Go.st (fun _ => XS.iadd X.here hx rfl hd rfl) r
theorem g_imul {K : State → Outcome → Prop} (X : Stand p l e R s m args below meth c T locs cells slots) (hx : p.tables.exec = Jvm.exec) {pc : Nat} {L : Array Slot} {S : List Value} {x y : Int32} (hd : decode c.code pc = .ok (.imul, 1)) (pc' : Nat) (hp : pc + 1 = pc') (z : Int32) (hz : x * y = z) (r : Go p e below K (T.setTop (mkF m pc' L (.int z :: S)))) : Go p e below K (T.setTop (mkF m pc L (.int y :: .int x :: S))) := by
  subst hp; subst hz
  exact Go.st (fun _ => XS.imul X.here hx rfl hd rfl) r
theorem g_iand {K : State → Outcome → Prop} (X : Stand p l e R s m args below meth c T locs cells slots) (hx : p.tables.exec = Jvm.exec) {pc : Nat} {L : Array Slot} {S : List Value} {x y : Int32} (hd : decode c.code pc = .ok (.iand, 1)) (pc' : Nat) (hp : pc + 1 = pc') (z : Int32) (hz : x &&& y = z) (r : Go p e below K (T.setTop (mkF m pc' L (.int z :: S)))) : Go p e below K (T.setTop (mkF m pc L (.int y :: .int x :: S))) := by
  subst hp; subst hz
  exact Go.st (fun _ => XS.iand X.here hx rfl hd rfl) r
theorem g_ixor {K : State → Outcome → Prop} (X : Stand p l e R s m args below meth c T locs cells slots) (hx : p.tables.exec = Jvm.exec) {pc : Nat} {L : Array Slot} {S : List Value} {x y : Int32} (hd : decode c.code pc = .ok (.ixor, 1)) (pc' : Nat) (hp : pc + 1 = pc') (z : Int32) (hz : x ^^^ y = z) (r : Go p e below K (T.setTop (mkF m pc' L (.int z :: S)))) : Go p e below K (T.setTop (mkF m pc L (.int y :: .int x :: S))) := by
  subst hp; subst hz
  exact Go.st (fun _ => XT.ixor X.here hx rfl hd rfl) r
theorem g_ishl {K : State → Outcome → Prop} (X : Stand p l e R s m args below meth c T locs cells slots) (hx : p.tables.exec = Jvm.exec) {pc : Nat} {L : Array Slot} {S : List Value} {x y : Int32} (hd : decode c.code pc = .ok (.ishl, 1)) (pc' : Nat) (hp : pc + 1 = pc') (z : Int32) (hz : x <<< (y &&& 31) = z) (r : Go p e below K (T.setTop (mkF m pc' L (.int z :: S)))) : Go p e below K (T.setTop (mkF m pc L (.int y :: .int x :: S))) := by
  subst hp; subst hz
  exact Go.st (fun _ => XT.ishl X.here hx rfl hd rfl) r
theorem g_iushr {K : State → Outcome → Prop} (X : Stand p l e R s m args below meth c T locs cells slots) (hx : p.tables.exec = Jvm.exec) {pc : Nat} {L : Array Slot} {S : List Value} {x y : Int32} (hd : decode c.code pc = .ok (.iushr, 1)) (pc' : Nat) (hp : pc + 1 = pc') (z : Int32) (hz : XT.ushr x y = z) (r : Go p e below K (T.setTop (mkF m pc' L (.int z :: S)))) : Go p e below K (T.setTop (mkF m pc L (.int y :: .int x :: S))) := by
  subst hp; subst hz
  exact Go.st (fun _ => XT.iushr X.here hx rfl hd rfl) r
theorem g_land {K : State → Outcome → Prop} (X : Stand p l e R s m args below meth c T locs cells slots) (hx : p.tables.exec = Jvm.exec) {pc : Nat} {L : Array Slot} {S : List Value} {x y : Int64} (hd : decode c.code pc = .ok (.land, 1)) (pc' : Nat) (hp : pc + 1 = pc') (z : Int64) (hz : x &&& y = z) (r : Go p e below K (T.setTop (mkF m pc' L (.long z :: S)))) : Go p e below K (T.setTop (mkF m pc L (.long y :: .long x :: S))) := by
  subst hp; subst hz
  exact Go.st (fun _ => XT.land X.here hx rfl hd rfl) r
theorem g_lor {K : State → Outcome → Prop} (X : Stand p l e R s m args below meth c T locs cells slots) (hx : p.tables.exec = Jvm.exec) {pc : Nat} {L : Array Slot} {S : List Value} {x y : Int64} (hd : decode c.code pc = .ok (.lor, 1)) (pc' : Nat) (hp : pc + 1 = pc') (z : Int64) (hz : x ||| y = z) (r : Go p e below K (T.setTop (mkF m pc' L (.long z :: S)))) : Go p e below K (T.setTop (mkF m pc L (.long y :: .long x :: S))) := by
  subst hp; subst hz
  exact Go.st (fun _ => XT.lor X.here hx rfl hd rfl) r
theorem g_lshl {K : State → Outcome → Prop} (X : Stand p l e R s m args below meth c T locs cells slots) (hx : p.tables.exec = Jvm.exec) {pc : Nat} {L : Array Slot} {S : List Value} {x : Int64} {y : Int32} (hd : decode c.code pc = .ok (.lshl, 1)) (pc' : Nat) (hp : pc + 1 = pc') (z : Int64) (hz : x <<< (y.toInt64 &&& 63) = z) (r : Go p e below K (T.setTop (mkF m pc' L (.long z :: S)))) : Go p e below K (T.setTop (mkF m pc L (.int y :: .long x :: S))) := by
  subst hp; subst hz
  exact Go.st (fun _ => XT.lshl X.here hx rfl hd rfl) r
theorem g_lcmp {K : State → Outcome → Prop} (X : Stand p l e R s m args below meth c T locs cells slots) (hx : p.tables.exec = Jvm.exec) {pc : Nat} {L : Array Slot} {S : List Value} {x y : Int64} (hd : decode c.code pc = .ok (.lcmp, 1)) (pc' : Nat) (hp : pc + 1 = pc') (z : Int32) (hz : XT.cmpL x y = z) (r : Go p e below K (T.setTop (mkF m pc' L (.int z :: S)))) : Go p e below K (T.setTop (mkF m pc L (.long y :: .long x :: S))) := by
  subst hp; subst hz
  exact Go.st (fun _ => XT.lcmp X.here hx rfl hd rfl) r
theorem g_dup {K : State → Outcome → Prop} (X : Stand p l e R s m args below meth c T locs cells slots) (hx : p.tables.exec = Jvm.exec) {pc : Nat} {L : Array Slot} {S : List Value} {x : Value} (hd : decode c.code pc = .ok (.dup, 1)) (pc' : Nat) (hp : pc + 1 = pc') (hc : x.category = 1) (r : Go p e below K (T.setTop (mkF m pc' L (x :: x :: S)))) : Go p e below K (T.setTop (mkF m pc L (x :: S))) := by
  subst hp
  exact Go.st (fun _ => XS.dup X.here hx rfl hd rfl hc) r
theorem g_pop {K : State → Outcome → Prop} (X : Stand p l e R s m args below meth c T locs cells slots) (hx : p.tables.exec = Jvm.exec) {pc : Nat} {L : Array Slot} {S : List Value} {x : Value} (hd : decode c.code pc = .ok (.pop, 1)) (pc' : Nat) (hp : pc + 1 = pc') (hc : x.category = 1) (r : Go p e below K (T.setTop (mkF m pc' L S))) : Go p e below K (T.setTop (mkF m pc L (x :: S))) := by
  subst hp
  exact Go.st (fun _ => XT.pop X.here hx rfl hd rfl hc) r
theorem g_dup2 {K : State → Outcome → Prop} (X : Stand p l e R s m args below meth c T locs cells slots) (hx : p.tables.exec = Jvm.exec) {pc : Nat} {L : Array Slot} {S : List Value} {x y : Value} (hd : decode c.code pc = .ok (.dup2, 1)) (pc' : Nat) (hp : pc + 1 = pc') (hc : x.category = 1) (hc' : y.category = 1) (r : Go p e below K (T.setTop (mkF m pc' L (x :: y :: x :: y :: S)))) : Go p e below K (T.setTop (mkF m pc L (x :: y :: S))) := by
  subst hp
  exact Go.st (fun _ => XT.dup2 X.here hx rfl hd rfl hc hc') r
theorem g_goto {K : State → Outcome → Prop} (X : Stand p l e R s m args below meth c T locs cells slots) (hx : p.tables.exec = Jvm.exec) {pc : Nat} {L : Array Slot} {S : List Value} {o : Int} (hd : decode c.code pc = .ok (.goto o, 3)) (pc' : Nat) (h0 : 0 ≤ (pc : Int) + o) (hp : ((pc : Int) + o).toNat = pc') (r : Go p e below K (T.setTop (mkF m pc' L S))) : Go p e below K (T.setTop (mkF m pc L S)) :=
  Go.st (fun _ => XS.goto X.here hx rfl (pc0 := pc) rfl hd h0 hp) r
theorem g_icmp {K : State → Outcome → Prop} (X : Stand p l e R s m args below meth c T locs cells slots) (hx : p.tables.exec = Jvm.exec) {pc : Nat} {L : Array Slot} {S : List Value} {cd : ClassFile.Cond} {o : Int} {x y : Int32} (hd : decode c.code pc = .ok (.if_icmp cd o, 3)) (pc1 pc2 : Nat) (h0 : 0 ≤ (pc : Int) + o) (h1 : ((pc : Int) + o).toNat = pc1) (h2 : pc + 3 = pc2) (yes : if_icmp.holds cd x y = true → Go p e below K (T.setTop (mkF m pc1 L S))) (no : if_icmp.holds cd x y = false → Go p e below K (T.setTop (mkF m pc2 L S))) : Go p e below K (T.setTop (mkF m pc L (.int y :: .int x :: S))) := by
  subst h2
  cases hc : if_icmp.holds cd x y with
  | true => exact Go.st (fun _ => XS.icmpYes X.here hx rfl (pc0 := pc) rfl hd rfl hc h0 h1) (yes hc)
  | false => exact Go.st (fun _ => XS.icmpNo X.here hx rfl hd rfl hc) (no hc)
theorem g_if {K : State → Outcome → Prop} (X : Stand p l e R s m args below meth c T locs cells slots) (hx : p.tables.exec = Jvm.exec) {pc : Nat} {L : Array Slot} {S : List Value} {cd : ClassFile.Cond} {o : Int} {x : Int32} (hd : decode c.code pc = .ok (.ifCond cd o, 3)) (pc1 pc2 : Nat) (h0 : 0 ≤ (pc : Int) + o) (h1 : ((pc : Int) + o).toNat = pc1) (h2 : pc + 3 = pc2) (yes : if_icmp.holds cd x 0 = true → Go p e below K (T.setTop (mkF m pc1 L S))) (no : if_icmp.holds cd x 0 = false → Go p e below K (T.setTop (mkF m pc2 L S))) : Go p e below K (T.setTop (mkF m pc L (.int x :: S))) := by
  subst h2
  cases hc : if_icmp.holds cd x 0 with
  | true => exact Go.st (fun _ => XS.ifYes X.here hx rfl (pc0 := pc) rfl hd rfl ((if0 cd x).trans hc) h0 h1) (yes hc)
  | false => exact Go.st (fun _ => XS.ifNo X.here hx rfl hd rfl ((if0 cd x).trans hc)) (no hc)
theorem g_icmp_eq {K : State → Outcome → Prop} (X : Stand p l e R s m args below meth c T locs cells slots) (hx : p.tables.exec = Jvm.exec) {pc : Nat} {L : Array Slot} {S : List Value} {o : Int} {x y : Int32} (hd : decode c.code pc = .ok (.if_icmp .eq o, 3)) (pc1 pc2 : Nat) (h0 : 0 ≤ (pc : Int) + o) (h1 : ((pc : Int) + o).toNat = pc1) (h2 : pc + 3 = pc2) (yes : x = y → Go p e below K (T.setTop (mkF m pc1 L S))) (no : ¬ x = y → Go p e below K (T.setTop (mkF m pc2 L S))) : Go p e below K (T.setTop (mkF m pc L (.int y :: .int x :: S))) := by
  refine g_icmp X hx hd pc1 pc2 h0 h1 h2 (fun hc => ?_) (fun hc => ?_)
  · by_cases q : x = y
    · exact yes q
    · rw [(feq q).1] at hc; cases hc
  · by_cases q : x = y
    · rw [(teq q).1] at hc; cases hc
    · exact no q
theorem g_if_eq {K : State → Outcome → Prop} (X : Stand p l e R s m args below meth c T locs cells slots) (hx : p.tables.exec = Jvm.exec) {pc : Nat} {L : Array Slot} {S : List Value} {o : Int} {x : Int32} (hd : decode c.code pc = .ok (.ifCond .eq o, 3)) (pc1 pc2 : Nat) (h0 : 0 ≤ (pc : Int) + o) (h1 : ((pc : Int) + o).toNat = pc1) (h2 : pc + 3 = pc2) (yes : x = (0 : Int32) → Go p e below K (T.setTop (mkF m pc1 L S))) (no : ¬ x = (0 : Int32) → Go p e below K (T.setTop (mkF m pc2 L S))) : Go p e below K (T.setTop (mkF m pc L (.int x :: S))) := by
  refine g_if X hx hd pc1 pc2 h0 h1 h2 (fun hc => ?_) (fun hc => ?_)
  · by_cases q : x = (0 : Int32)
    · exact yes q
    · rw [(feq q).1] at hc; cases hc
  · by_cases q : x = (0 : Int32)
    · rw [(teq q).1] at hc; cases hc
    · exact no q
theorem g_icmp_ne {K : State → Outcome → Prop} (X : Stand p l e R s m args below meth c T locs cells slots) (hx : p.tables.exec = Jvm.exec) {pc : Nat} {L : Array Slot} {S : List Value} {o : Int} {x y : Int32} (hd : decode c.code pc = .ok (.if_icmp .ne o, 3)) (pc1 pc2 : Nat) (h0 : 0 ≤ (pc : Int) + o) (h1 : ((pc : Int) + o).toNat = pc1) (h2 : pc + 3 = pc2) (yes : ¬ x = y → Go p e below K (T.setTop (mkF m pc1 L S))) (no : x = y → Go p e below K (T.setTop (mkF m pc2 L S))) : Go p e below K (T.setTop (mkF m pc L (.int y :: .int x :: S))) := by
  refine g_icmp X hx hd pc1 pc2 h0 h1 h2 (fun hc => ?_) (fun hc => ?_)
  · by_cases q : x = y
    · rw [(teq q).2] at hc; cases hc
    · exact yes q
  · by_cases q : x = y
    · exact no q
    · rw [(feq q).2] at hc; cases hc
theorem g_if_ne {K : State → Outcome → Prop} (X : Stand p l e R s m args below meth c T locs cells slots) (hx : p.tables.exec = Jvm.exec) {pc : Nat} {L : Array Slot} {S : List Value} {o : Int} {x : Int32} (hd : decode c.code pc = .ok (.ifCond .ne o, 3)) (pc1 pc2 : Nat) (h0 : 0 ≤ (pc : Int) + o) (h1 : ((pc : Int) + o).toNat = pc1) (h2 : pc + 3 = pc2) (yes : ¬ x = (0 : Int32) → Go p e below K (T.setTop (mkF m pc1 L S))) (no : x = (0 : Int32) → Go p e below K (T.setTop (mkF m pc2 L S))) : Go p e below K (T.setTop (mkF m pc L (.int x :: S))) := by
  refine g_if X hx hd pc1 pc2 h0 h1 h2 (fun hc => ?_) (fun hc => ?_)
  · by_cases q : x = (0 : Int32)
    · rw [(teq q).2] at hc; cases hc
    · exact yes q
  · by_cases q : x = (0 : Int32)
    · exact no q
    · rw [(feq q).2] at hc; cases hc
theorem g_icmp_lt {K : State → Outcome → Prop} (X : Stand p l e R s m args below meth c T locs cells slots) (hx : p.tables.exec = Jvm.exec) {pc : Nat} {L : Array Slot} {S : List Value} {o : Int} {x y : Int32} (hd : decode c.code pc = .ok (.if_icmp .lt o, 3)) (pc1 pc2 : Nat) (h0 : 0 ≤ (pc : Int) + o) (h1 : ((pc : Int) + o).toNat = pc1) (h2 : pc + 3 = pc2) (yes : x < y → Go p e below K (T.setTop (mkF m pc1 L S))) (no : ¬ x < y → Go p e below K (T.setTop (mkF m pc2 L S))) : Go p e below K (T.setTop (mkF m pc L (.int y :: .int x :: S))) := by
  refine g_icmp X hx hd pc1 pc2 h0 h1 h2 (fun hc => ?_) (fun hc => ?_)
  · by_cases q : x < y
    · exact yes q
    · rw [(flt q).1] at hc; cases hc
  · by_cases q : x < y
    · rw [(tlt q).1] at hc; cases hc
    · exact no q
theorem g_icmp_ge {K : State → Outcome → Prop} (X : Stand p l e R s m args below meth c T locs cells slots) (hx : p.tables.exec = Jvm.exec) {pc : Nat} {L : Array Slot} {S : List Value} {o : Int} {x y : Int32} (hd : decode c.code pc = .ok (.if_icmp .ge o, 3)) (pc1 pc2 : Nat) (h0 : 0 ≤ (pc : Int) + o) (h1 : ((pc : Int) + o).toNat = pc1) (h2 : pc + 3 = pc2) (yes : ¬ x < y → Go p e below K (T.setTop (mkF m pc1 L S))) (no : x < y → Go p e below K (T.setTop (mkF m pc2 L S))) : Go p e below K (T.setTop (mkF m pc L (.int y :: .int x :: S))) := by
  refine g_icmp X hx hd pc1 pc2 h0 h1 h2 (fun hc => ?_) (fun hc => ?_)
  · by_cases q : x < y
    · rw [(tlt q).2.1] at hc; cases hc
    · exact yes q
  · by_cases q : x < y
    · exact no q
    · rw [(flt q).2.1] at hc; cases hc
theorem g_if_ge {K : State → Outcome → Prop} (X : Stand p l e R s m args below meth c T locs cells slots) (hx : p.tables.exec = Jvm.exec) {pc : Nat} {L : Array Slot} {S : List Value} {o : Int} {x : Int32} (hd : decode c.code pc = .ok (.ifCond .ge o, 3)) (pc1 pc2 : Nat) (h0 : 0 ≤ (pc : Int) + o) (h1 : ((pc : Int) + o).toNat = pc1) (h2 : pc + 3 = pc2) (yes : ¬ x < (0 : Int32) → Go p e below K (T.setTop (mkF m pc1 L S))) (no : x < (0 : Int32) → Go p e below K (T.setTop (mkF m pc2 L S))) : Go p e below K (T.setTop (mkF m pc L (.int x :: S))) := by
  refine g_if X hx hd pc1 pc2 h0 h1 h2 (fun hc => ?_) (fun hc => ?_)
  · by_cases q : x < (0 : Int32)
    · rw [(tlt q).2.1] at hc; cases hc
    · exact yes q
  · by_cases q : x < (0 : Int32)
    · exact no q
    · rw [(flt q).2.1] at hc; cases hc
theorem g_icmp_gt {K : State → Outcome → Prop} (X : Stand p l e R s m args below meth c T locs cells slots) (hx : p.tables.exec = Jvm.exec) {pc : Nat} {L : Array Slot} {S : List Value} {o : Int} {x y : Int32} (hd : decode c.code pc = .ok (.if_icmp .gt o, 3)) (pc1 pc2 : Nat) (h0 : 0 ≤ (pc : Int) + o) (h1 : ((pc : Int) + o).toNat = pc1) (h2 : pc + 3 = pc2) (yes : y < x → Go p e below K (T.setTop (mkF m pc1 L S))) (no : ¬ y < x → Go p e below K (T.setTop (mkF m pc2 L S))) : Go p e below K (T.setTop (mkF m pc L (.int y :: .int x :: S))) := by
  refine g_icmp X hx hd pc1 pc2 h0 h1 h2 (fun hc => ?_) (fun hc => ?_)
  · by_cases q : y < x
    · exact yes q
    · rw [(flt q).2.2.1] at hc; cases hc
  · by_cases q : y < x
    · rw [(tlt q).2.2.1] at hc; cases hc
    · exact no q
theorem g_alen {K : State → Outcome → Prop} {Z : State} {h : Heap} {a : Addr} {k : ClassId} {ty : FieldType} {z : Int32} {vs : List Value} {dv : Value} (X : Stand p l e R s m args below meth c T locs cells slots) (hx : p.tables.exec = Jvm.exec) {pc : Nat} {L : Array Slot} {S : List Value} (hd : decode c.code pc = .ok (.arraylength, 1)) (pc' : Nat) (hp : pc + 1 = pc') (hZ : Z.Warmed39 s.vm) (eT : T.heap = h) (F : Arv Z h a k ty z vs dv) (r : Go p e below K (T.setTop (mkF m pc' L (.int z :: S)))) : Go p e below K (T.setTop (mkF m pc L (.ref a :: S))) := by
  subst hp
  obtain ⟨cl, A, r1, r2, r3, Hh, Gg⟩ := F
  refine Go.st (X.arraylength hx (by rw [eT]; exact A.1) (State.isArrayOf_alike hZ.alike A.2.1) (g := mkF m pc L (.ref a :: S)) rfl rfl hd) ?_
  rw [len_of r2 r3]
  exact r
theorem g_laload {K : State → Outcome → Prop} {Z : State} {h : Heap} {a : Addr} {k : ClassId} {z : Int32} {vs : List Value} {dv : Value} (X : Stand p l e R s m args below meth c T locs cells slots) (hx : p.tables.exec = Jvm.exec) {pc : Nat} {L : Array Slot} {S : List Value} {j : Int32} (hd : decode c.code pc = .ok (.laload, 1)) (pc' : Nat) (hp : pc + 1 = pc') (hZ : Z.Warmed39 s.vm) (eT : T.heap = h) (F : Arv Z h a k .long z vs dv) (q : ¬ j < 0 ∧ j < z) (v : Value) (u : vs.getD j.toNatClampNeg dv = v) (r : Go p e below K (T.setTop (mkF m pc' L (v :: S)))) : Go p e below K (T.setTop (mkF m pc L (.int j :: .ref a :: S))) := by
  subst hp
  obtain ⟨cl, A, r1, r2, r3, Hh, Gg⟩ := F
  exact Go.st (X.laload hx (by rw [eT]; exact A.1) (State.isArrayOf_alike hZ.alike A.2.1) A.2.2 (inb_of r2 q) (Hh.at (inb_of r2 q) u) (g := mkF m pc L (.int j :: .ref a :: S)) rfl rfl hd) r
theorem g_lastore {Z : State} {h : Heap} {a : Addr} {k : ClassId} {z : Int32} {vs : List Value} {dv : Value} (X : Stand p l e R s m args below meth c T locs cells slots) (hx : p.tables.exec = Jvm.exec) {pc : Nat} {L : Array Slot} {S : List Value} {j : Int32} {x : Int64} (hd : decode c.code pc = .ok (.lastore, 1)) (hZ : Z.Warmed39 s.vm) (eT : T.heap = h) (F : Arv Z h a k .long z vs dv) (q : ¬ j < 0 ∧ j < z) {i : Nat} (hj : j.toNatClampNeg = i) (hi : i < vs.length) :
    ∃ T' h', Stand p l e R s m args below meth c T' (locs ++ [⟨a, j.toNatClampNeg⟩]) cells slots ∧ T'.heap = h' ∧ Wr h h' a j.toNatClampNeg (.long x) ∧ Arv Z h' a k .long z (vs.set i (.long x)) dv ∧ ∀ target, Steps p.tables e below (T'.setTop (mkF m (pc + 1) L S)) target → Steps p.tables e below (T.setTop (mkF m pc L (.long x :: .int j :: .ref a :: S))) target := by
  obtain ⟨cl, A, r1, r2, r3, Hh, Gg⟩ := F
  obtain ⟨T', h', X', e', W', st⟩ := stJ X hx hZ eT A (inb_of r2 q) (g := mkF m pc L (.long x :: .int j :: .ref a :: S)) rfl rfl hd
  exact ⟨T', h', X', e', W', Arv.set A r1 r2 r3 Hh Gg rfl W' i hj hi, st⟩
end Layer
def own_bit (x : Int32) : Int64 := (1 : Int64) <<< (x.toInt64 &&& 63)
def own_ixn (x : Int32) : Nat := (XT.ushr x (6 : Int32)).toNatClampNeg
def own_w : List Int32 → Nat → Int64
  | [], _ => 0
  | x :: S, i => if own_ixn x = i then own_w S i ||| own_bit x else own_w S i
def own_ws (S : List Int32) (N : Nat) : List Value := (List.range N).map fun i => .long (own_w S i)
theorem own_ushr6 (x : Int32) : (XT.ushr x (6 : Int32)).toInt = (x.toInt % 4294967296) / 64 := c_iushr x 6 6 (by decide) (by decide)
theorem own_ix0 (x : Int32) : ¬ XT.ushr x (6 : Int32) < 0 := by
  have h := own_ushr6 x
  rw [Int32.lt_iff_toInt_lt, h]
  have e0 : (0 : Int32).toInt = 0 := by decide
  omega
theorem own_ofNat {n : Nat} (h : n < 2147483648) : (Int32.ofNat n).toInt = n := Int32.toInt_ofNat_small h
theorem own_clamp (x : Int32) (h : 0 ≤ x.toInt) : (x.toNatClampNeg : Int) = x.toInt := by
  show ((x.toInt).toNat : Int) = x.toInt
  omega
theorem own_cl {n : Nat} (h : n < 2147483648) : (Int32.ofNat n).toNatClampNeg = n := by
  have h1 := own_ofNat h
  have h2 := own_clamp (Int32.ofNat n) (by omega)
  omega
theorem own_ix (x : Int32) (hp : ¬ x < 0 ∧ x < 4096) : ∃ i : Nat, i < 64 ∧ XT.ushr x (6 : Int32) = Int32.ofNat i := by
  have h := own_ushr6 x
  rw [Int32.lt_iff_toInt_lt, Int32.lt_iff_toInt_lt] at hp
  have e0 : (0 : Int32).toInt = 0 := by decide
  have e1 : (4096 : Int32).toInt = 4096 := by decide
  rw [e0, e1] at hp
  refine ⟨(x.toInt / 64).toNat, by omega, ?_⟩
  rw [← Int32.toInt_inj, h, own_ofNat (by omega)]
  omega
theorem own_in {j N : Nat} (hN : N < 2147483648) (h : j < N) : ¬ Int32.ofNat j < 0 ∧ Int32.ofNat j < Int32.ofNat N := by
  rw [Int32.lt_iff_toInt_lt, Int32.lt_iff_toInt_lt, own_ofNat hN, own_ofNat (by omega)]
  have e0 : (0 : Int32).toInt = 0 := by decide
  omega
theorem own_lt {j N : Nat} (hj : j < 2147483648) (hN : N < 2147483648) (h : Int32.ofNat j < Int32.ofNat N) : j < N := by
  rw [Int32.lt_iff_toInt_lt, own_ofNat hN, own_ofNat hj] at h
  omega
theorem own_ws_get (S : List Int32) {N j : Nat} (h : j < N) : (own_ws S N).getD j (.long 0) = .long (own_w S j) := by
  simp [own_ws, List.getD, h]
theorem own_ws_out (S : List Int32) {N j : Nat} (h : ¬ j < N) : (own_ws S N).getD j (.long 0) = .long 0 := by
  simp [own_ws, List.getD, h]
theorem own_ws_len (S : List Int32) (N : Nat) : (own_ws S N).length = N := by simp [own_ws]
theorem own_ws_set (S : List Int32) (N : Nat) (x : Int32) : (own_ws S N).set (own_ixn x) (.long (own_w S (own_ixn x) ||| own_bit x)) = own_ws (x :: S) N := by
  refine List.ext_getElem (by simp [own_ws]) fun j h1 h2 => ?_
  rw [List.getElem_set]
  simp only [own_ws, List.getElem_map, List.getElem_range, own_w]
  split
  · next q => subst q; simp
  · rfl
theorem own_w_zero (S : List Int32) (N j : Nat) (hS : ∀ x ∈ S, own_ixn x < N) (h : ¬ j < N) : own_w S j = 0 := by
  induction S with
  | nil => rfl
  | cons x S ih =>
    have h1 := hS x (List.mem_cons_self ..)
    rw [own_w, if_neg (by omega)]
    exact ih fun y hy => hS y (List.mem_cons_of_mem _ hy)
def own_cp (vs : List Value) (n M : Nat) : List Value := (List.range n).map (fun i => vs.getD (0 + i) (.long 0)) ++ List.replicate (M - n) (.long 0)
theorem own_cp_ws (S : List Int32) {N M : Nat} (hS : ∀ x ∈ S, own_ixn x < N) (h : N < M) (i : Nat) : (own_ws S M).getD i (.long 0) = (own_cp (own_ws S N) N M).getD i (.long 0) := by
  by_cases h1 : i < N
  · rw [own_ws_get S (by omega)]
    simp only [own_cp]
    rw [List.getD_eq_getElem?_getD, List.getElem?_append_left (by simp [h1])]
    simp [h1, own_ws]
  · have h2 : (own_cp (own_ws S N) N M).getD i (.long 0) = .long 0 := by
      simp only [own_cp]
      rw [List.getD_eq_getElem?_getD, List.getElem?_append_right (by simp; omega)]
      simp only [List.length_map, List.length_range, List.getElem?_replicate]
      split <;> rfl
    rw [h2]
    by_cases h3 : i < M
    · rw [own_ws_get S h3, own_w_zero S N i hS h1]
    · rw [own_ws_out S h3]
theorem own_grow {i N : Nat} {r : Int32} (hi : i < 64) (hN : 1 ≤ N ∧ N ≤ 126) (hge : ¬ Int32.ofNat i < Int32.ofNat N) (hr : r = if (Int32.ofNat i + (1 : Int32)) < (Int32.ofNat N * (2 : Int32)) then (Int32.ofNat N * (2 : Int32)) else (Int32.ofNat i + (1 : Int32))) :
    ∃ M : Nat, r = Int32.ofNat M ∧ N < M ∧ M ≤ 126 ∧ i < M := by
  have hle : N ≤ i := by
    rcases Nat.lt_or_ge i N with q | q
    · exact absurd (own_in (by omega) q).2 hge
    · exact q
  have e1 : Int32.ofNat i + (1 : Int32) = Int32.ofNat (i + 1) := (Int32.ofNat_add i 1).symm
  have e2 : Int32.ofNat N * (2 : Int32) = Int32.ofNat (N * 2) := (Int32.ofNat_mul N 2).symm
  rw [e1, e2] at hr
  by_cases q : i + 1 < N * 2
  · rw [if_pos (own_in (by omega) q).2] at hr
    exact ⟨N * 2, hr, by omega, by omega, by omega⟩
  · rw [if_neg (fun z => q (own_lt (by omega) (by omega) z))] at hr
    exact ⟨i + 1, hr, by omega, by omega, by omega⟩
theorem own_take (M n : Nat) (d : Value) (us : List Value) : (List.replicate M d).take 0 ++ us ++ (List.replicate M d).drop (0 + n) = us ++ List.replicate (M - n) d := by simp
theorem own_ixn_eq {p ix : Int32} (e : XT.ushr p (6 : Int32) = ix) (h : ¬ ix < 0) : (own_ixn p : Int) = ix.toInt := by
  rw [own_ixn, e]
  rw [Int32.lt_iff_toInt_lt] at h
  have e0 : (0 : Int32).toInt = 0 := by decide
  exact own_clamp ix (by omega)
theorem own_cyes {p ix : Int32} {N : Nat} (hN : N ≤ 126) (h : ¬ ix < 0) (e : XT.ushr p (6 : Int32) = ix) (hl : ix < Int32.ofNat N) : own_ixn p < N := by
  have h1 := own_ixn_eq e h
  rw [Int32.lt_iff_toInt_lt, own_ofNat (by omega)] at hl
  omega
theorem own_cno {p ix : Int32} {N : Nat} (hN : N ≤ 126) (h : ¬ ix < 0) (e : XT.ushr p (6 : Int32) = ix) (hl : ¬ ix < Int32.ofNat N) : ¬ own_ixn p < N := by
  have h1 := own_ixn_eq e h
  rw [Int32.lt_iff_toInt_lt, own_ofNat (by omega)] at hl
  omega
theorem own_cget (S : List Int32) {p ix : Int32} {N : Nat} (hN : N ≤ 126) (h : ¬ ix < 0) (e : XT.ushr p (6 : Int32) = ix) (hl : ix < Int32.ofNat N) : (own_ws S N).getD ix.toNatClampNeg (.long 0) = .long (own_w S (own_ixn p)) := by
  have h1 : ix.toNatClampNeg = own_ixn p := by rw [own_ixn, e]
  rw [h1]
  exact own_ws_get S (own_cyes hN h e hl)
theorem own_cmp1 {x : Int64} (h : x = 0) : XT.cmpL x (0 : Int64) = 0 := by subst h; decide
theorem own_cmp0 {x : Int64} (h : XT.cmpL x (0 : Int64) = 0) : x = 0 := by
  unfold XT.cmpL at h
  split at h
  · exact absurd h (by decide)
  · split at h
    · assumption
    · exact absurd h (by decide)
theorem own_all {p : Int32} {i N : Nat} {S : List Int32} (e : own_ixn p = i) (h : i < N) (hS : ∀ x ∈ S, own_ixn x < N) : ∀ x ∈ p :: S, own_ixn x < N := fun x hx => by
  rcases List.mem_cons.mp hx with rfl | q
  · rw [e]; exact h
  · exact hS x q
theorem own_rng (x : Int32) : ¬ (x &&& (4095 : Int32)) < 0 ∧ (x &&& (4095 : Int32)) < 4096 := by
  have h := c_and x (4095 : Int32) (by decide)
  rw [Int32.lt_iff_toInt_lt, Int32.lt_iff_toInt_lt]
  have e0 : (0 : Int32).toInt = 0 := by decide
  have e1 : (4095 : Int32).toInt = 4095 := by decide
  have e2 : (4096 : Int32).toInt = 4096 := by decide
  omega
theorem own_12 {n : Int32} (h : n < 1) : n < 2 := Int32.lt_trans h (by decide)
theorem own_13 {n : Int32} (h : n < 1) : n < 3 := Int32.lt_trans h (by decide)
theorem own_23 {n : Int32} (h : n < 2) : n < 3 := Int32.lt_trans h (by decide)
theorem own_bvor (a b c : BitVec 64) : ((a ||| b) &&& c = 0#64) ↔ (a &&& c = 0#64 ∧ b &&& c = 0#64) := by
  constructor
  · intro h
    refine ⟨BitVec.eq_of_getLsbD_eq fun i hi => ?_, BitVec.eq_of_getLsbD_eq fun i hi => ?_⟩
    · have := congrArg (fun z => BitVec.getLsbD z i) h
      simp only [BitVec.getLsbD_and, BitVec.getLsbD_or, BitVec.getLsbD_zero] at this ⊢
      revert this; cases a.getLsbD i <;> cases b.getLsbD i <;> cases c.getLsbD i <;> simp
    · have := congrArg (fun z => BitVec.getLsbD z i) h
      simp only [BitVec.getLsbD_and, BitVec.getLsbD_or, BitVec.getLsbD_zero] at this ⊢
      revert this; cases a.getLsbD i <;> cases b.getLsbD i <;> cases c.getLsbD i <;> simp
  · intro h
    refine BitVec.eq_of_getLsbD_eq fun i hi => ?_
    have h1 := congrArg (fun z => BitVec.getLsbD z i) h.1
    have h2 := congrArg (fun z => BitVec.getLsbD z i) h.2
    simp only [BitVec.getLsbD_and, BitVec.getLsbD_or, BitVec.getLsbD_zero] at h1 h2 ⊢
    revert h1 h2; cases a.getLsbD i <;> cases b.getLsbD i <;> cases c.getLsbD i <;> simp
theorem own_or0 (a b c : Int64) : ((a ||| b) &&& c = 0) ↔ (a &&& c = 0 ∧ b &&& c = 0) := by
  have h := own_bvor a.toBitVec b.toBitVec c.toBitVec
  have e : ∀ z : Int64, z = 0 ↔ z.toBitVec = 0#64 := fun z => ⟨fun q => by rw [q]; rfl, fun q => Int64.toBitVec_inj.mp (q.trans rfl)⟩
  rw [e, e, e]
  simpa using h
theorem own_bn (x : Int32) : ∃ n : Nat, n < 64 ∧ (n : Int) = x.toInt % 64 ∧ own_bit x = (1 : Int64) <<< Int64.ofNat n := by
  have h := c_mask x (63 : Int32) 6 (by decide) (by decide)
  refine ⟨(x.toInt % 64).toNat, by omega, by omega, ?_⟩
  unfold own_bit
  have e : x.toInt64 &&& 63 = (x &&& (63 : Int32)).toInt64 := by rw [Int32.toInt64_and]; rfl
  have e2 : x.toInt64 &&& 63 = Int64.ofNat (x.toInt % 64).toNat := by
    rw [e, ← Int64.toInt_inj, c_i2l, h, Int64.toInt_ofNat_of_lt (by omega)]
    omega
  rw [e2]
theorem own_tab : ∀ n k : Fin 64, ((1 : Int64) <<< Int64.ofNat n.1 &&& (1 : Int64) <<< Int64.ofNat k.1 = 0) ↔ n ≠ k := by decide +kernel
theorem own_bq {x q : Int32} (h1 : own_ixn x = own_ixn q) (h2 : ¬ (own_bit x &&& own_bit q) = 0) : x = q := by
  obtain ⟨n, a1, a2, a3⟩ := own_bn x
  obtain ⟨k, b1, b2, b3⟩ := own_bn q
  rw [a3, b3] at h2
  have e : (⟨n, a1⟩ : Fin 64) = ⟨k, b1⟩ := Decidable.byContradiction fun z => h2 ((own_tab ⟨n, a1⟩ ⟨k, b1⟩).mpr z)
  have e' : n = k := congrArg Fin.val e
  have c1 := own_clamp (XT.ushr x (6 : Int32)) (by rw [own_ushr6]; omega)
  have c2 := own_clamp (XT.ushr q (6 : Int32)) (by rw [own_ushr6]; omega)
  rw [own_ushr6] at c1 c2
  unfold own_ixn at h1
  have r1 := rng32 x
  have r2 := rng32 q
  rw [← Int32.toInt_inj]
  omega
theorem own_bqq (q : Int32) : ¬ (own_bit q &&& own_bit q) = 0 := by
  obtain ⟨k, b1, b2, b3⟩ := own_bn q
  rw [b3]
  exact fun z => (own_tab ⟨k, b1⟩ ⟨k, b1⟩).mp z rfl
theorem own_wmem (S : List Int32) (q : Int32) : (¬ (own_w S (own_ixn q) &&& own_bit q) = 0) ↔ q ∈ S := by
  induction S with
  | nil => simp [own_w]
  | cons x S ih =>
    rw [own_w, List.mem_cons]
    by_cases h : own_ixn x = own_ixn q
    · rw [if_pos h, own_or0]
      constructor
      · intro z
        by_cases h1 : (own_w S (own_ixn q) &&& own_bit q) = 0
        · exact Or.inl (own_bq h (fun y => z ⟨h1, y⟩)).symm
        · exact Or.inr (ih.mp h1)
      · rintro (rfl | z) y
        · exact own_bqq _ y.2
        · exact ih.mpr z y.1
    · rw [if_neg h]
      constructor
      · exact fun z => Or.inr (ih.mp z)
      · rintro (rfl | z)
        · exact absurd rfl h
        · exact ih.mpr z
theorem own_mem (S : List Int32) (N : Nat) (q : Int32) (hS : ∀ x ∈ S, own_ixn x < N) : (own_ixn q < N ∧ ¬ (own_w S (own_ixn q) &&& own_bit q) = 0) ↔ q ∈ S := by
  rw [own_wmem]
  exact ⟨fun h => h.2, fun h => ⟨hS q h, h⟩⟩
theorem own_res1 {S : List Int32} {N : Nat} {q r : Int32} (h : r = 1 ↔ (own_ixn q < N ∧ ¬ (own_w S (own_ixn q) &&& own_bit q) = 0)) (hS : ∀ x ∈ S, own_ixn x < N) (hm : q ∈ S) : r = 1 := h.mpr ((own_mem S N q hS).mpr hm)
theorem own_res0 {S : List Int32} {N : Nat} {q r : Int32} (h0 : r = 0 ∨ r = 1) (h : r = 1 ↔ (own_ixn q < N ∧ ¬ (own_w S (own_ixn q) &&& own_bit q) = 0)) (hS : ∀ x ∈ S, own_ixn x < N) (hm : ¬ q ∈ S) : r = 0 := h0.elim id fun z => absurd ((own_mem S N q hS).mp (h.mp z)) hm

theorem ef_5 (m : MethodId) (x0 : Int32) (x1 : Int32) : entryFrame m #[(.int x0), (.int x1)] 2 = mkF m 0 #[.val (.int x0), .val (.int x1)] [] := by first | (simp [entryFrame, mkF, argsToLocals, Value.category]; done) | rfl
theorem d5_0 : decode jdk_29_method_65_code 0 = .ok (.iload_n 0, 1) := by decide +kernel
theorem d5_1 : decode jdk_29_method_65_code 1 = .ok (.iload_n 1, 1) := by decide +kernel
theorem d5_2 : decode jdk_29_method_65_code 2 = .ok (.if_icmp .lt 7, 3) := by decide +kernel
theorem d5_9 : decode jdk_29_method_65_code 9 = .ok (.iload_n 1, 1) := by decide +kernel
theorem d5_10 : decode jdk_29_method_65_code 10 = .ok (.ireturn, 1) := by decide +kernel
theorem d5_5 : decode jdk_29_method_65_code 5 = .ok (.iload_n 0, 1) := by decide +kernel
theorem d5_6 : decode jdk_29_method_65_code 6 = .ok (.goto 4, 3) := by decide +kernel
def Q5 (Z : State) (p1 : Int32) (p2 : Int32) (h0 : Heap) (n0 : Nat) (v : Option Value) (h : Heap) (L : List Loc) : Prop := ∃ r : Int32, v = some (.int r) ∧ Fr n0 L ∧ h = h0 ∧ (r = if p1 < p2 then p2 else p1)
set_option maxRecDepth 65536 in
set_option maxHeartbeats 40000000 in
theorem rm5 (l : Launch) (Z : State) (a0 : Array Value) (hw : ∀ d ∈ tables_1, d.before a0 Z = true) (ws : List Jvm.Cond) (p1 : Int32) (p2 : Int32) (h0 : Heap) (n0 : Nat) (Z0 : n0 ≤ h0.size)  :
    MetFree l (⟨"java/lang/Math", "max", "(II)I"⟩ : MethodName) (head1 (Jvm.Cond.code (⟨"java/lang/Math", "max", "(II)I"⟩ : MethodName) jdk_29_method_65_code 2 (some .int) :: ws) ({ frames := 0, cells := 0, slots := 0, locals := 0 } : Room)) (fun a U => a = #[(.int p1), (.int p2)] ∧ Z.Warmed39 U.vm ∧ U.heap = h0) (fun _ _ _ _ _ => True) (fun _ U o U' => ∃ v L, o = .returned v ∧ Q5 Z p1 p2 h0 n0 v U'.heap L ∧ FrameEnd U o U' L ({ frames := 0, cells := 0, slots := 0, locals := 0 } : Room).cells ({ frames := 0, cells := 0, slots := 0, locals := 0 } : Room).slots) := by
  refine MetFree.of_bodySF (Jvm.Free.JP.mathPlain rfl (by decide +kernel)) hisR ?_
  intro p e s m args below meth c s₁ Bd hml0 hP hK
  obtain ⟨rfl, hZ, hh⟩ := hP
  have hx := Bd.exec
  have hby := Bd.bytes
  have hlk := Bd.notSynchronized
  have hml : c.maxLocals = 2 := hml0
  have hown : s.vm.findClass "java/lang/Math" = some m.cls := findClass_of_methodNamed Bd.named
  have hnm := (name_of_methodNamed Bd.named Bd.method).1
  have X0 : Stand p l e ({ frames := 0, cells := 0, slots := 0, locals := 0 } : Room) s m #[(.int p1), (.int p2)] below meth c s₁ [] 0 0 := Stand.of_body Bd
  have e0 : s₁.heap = h0 := by rw [← hh, Bd.state]; rfl
  have N0 := Fr.nil n0
  show Go p e below (KQ s below (Q5 Z p1 p2 h0 n0) ({ frames := 0, cells := 0, slots := 0, locals := 0 } : Room).cells ({ frames := 0, cells := 0, slots := 0, locals := 0 } : Room).slots) _
  refine Go.body (T := s₁) (σ := s₁) (g' := (mkF m 0 #[.val (.int p1), .val (.int p2)] [])) (ef_5 m p1 p2) ?_
  refine g_iloadN X0 hx (hb hby d5_0) 1 rfl (v := p1) rfl ?_
  refine g_iloadN X0 hx (hb hby d5_1) 2 rfl (v := p2) rfl ?_
  refine g_icmp_lt X0 hx (hb hby d5_2) 9 5 (by decide) (by decide) rfl (fun hc2 => ?_) (fun hc2 => ?_)
  · refine g_iloadN X0 hx (hb hby d5_9) 10 rfl (v := p2) rfl ?_
    refine Go.retI X0 hx hlk Bd.returns (hb hby d5_10) (by decide) (by decide) ?_
    show Q5 Z p1 p2 h0 n0 _ s₁.heap _
    rw [e0]
    exact ⟨p2, rfl, N0, rfl, (by simp [hc2])⟩
  · refine g_iloadN X0 hx (hb hby d5_5) 6 rfl (v := p1) rfl ?_
    refine g_goto X0 hx (hb hby d5_6) 10 (by decide) (by decide) ?_
    refine Go.retI X0 hx hlk Bd.returns (hb hby d5_10) (by decide) (by decide) ?_
    show Q5 Z p1 p2 h0 n0 _ s₁.heap _
    rw [e0]
    exact ⟨p1, rfl, N0, rfl, (by simp [hc2])⟩
theorem ef_7 (m : MethodId) (x0 : Int32) (x1 : Int32) : entryFrame m #[(.int x0), (.int x1)] 2 = mkF m 0 #[.val (.int x0), .val (.int x1)] [] := by first | (simp [entryFrame, mkF, argsToLocals, Value.category]; done) | rfl
theorem d7_0 : decode jdk_29_method_69_code 0 = .ok (.iload_n 0, 1) := by decide +kernel
theorem d7_1 : decode jdk_29_method_69_code 1 = .ok (.iload_n 1, 1) := by decide +kernel
theorem d7_2 : decode jdk_29_method_69_code 2 = .ok (.if_icmp .gt 7, 3) := by decide +kernel
theorem d7_9 : decode jdk_29_method_69_code 9 = .ok (.iload_n 1, 1) := by decide +kernel
theorem d7_10 : decode jdk_29_method_69_code 10 = .ok (.ireturn, 1) := by decide +kernel
theorem d7_5 : decode jdk_29_method_69_code 5 = .ok (.iload_n 0, 1) := by decide +kernel
theorem d7_6 : decode jdk_29_method_69_code 6 = .ok (.goto 4, 3) := by decide +kernel
def Q7 (Z : State) (p1 : Int32) (p2 : Int32) (h0 : Heap) (n0 : Nat) (v : Option Value) (h : Heap) (L : List Loc) : Prop := ∃ r : Int32, v = some (.int r) ∧ Fr n0 L ∧ h = h0 ∧ (r = if p2 < p1 then p2 else p1)
set_option maxRecDepth 65536 in
set_option maxHeartbeats 40000000 in
theorem rm7 (l : Launch) (Z : State) (a0 : Array Value) (hw : ∀ d ∈ tables_1, d.before a0 Z = true) (ws : List Jvm.Cond) (p1 : Int32) (p2 : Int32) (h0 : Heap) (n0 : Nat) (Z0 : n0 ≤ h0.size)  :
    MetFree l (⟨"java/lang/Math", "min", "(II)I"⟩ : MethodName) (head1 (Jvm.Cond.code (⟨"java/lang/Math", "min", "(II)I"⟩ : MethodName) jdk_29_method_69_code 2 (some .int) :: ws) ({ frames := 0, cells := 0, slots := 0, locals := 0 } : Room)) (fun a U => a = #[(.int p1), (.int p2)] ∧ Z.Warmed39 U.vm ∧ U.heap = h0) (fun _ _ _ _ _ => True) (fun _ U o U' => ∃ v L, o = .returned v ∧ Q7 Z p1 p2 h0 n0 v U'.heap L ∧ FrameEnd U o U' L ({ frames := 0, cells := 0, slots := 0, locals := 0 } : Room).cells ({ frames := 0, cells := 0, slots := 0, locals := 0 } : Room).slots) := by
  refine MetFree.of_bodySF (Jvm.Free.JP.mathPlain rfl (by decide +kernel)) hisR ?_
  intro p e s m args below meth c s₁ Bd hml0 hP hK
  obtain ⟨rfl, hZ, hh⟩ := hP
  have hx := Bd.exec
  have hby := Bd.bytes
  have hlk := Bd.notSynchronized
  have hml : c.maxLocals = 2 := hml0
  have hown : s.vm.findClass "java/lang/Math" = some m.cls := findClass_of_methodNamed Bd.named
  have hnm := (name_of_methodNamed Bd.named Bd.method).1
  have X0 : Stand p l e ({ frames := 0, cells := 0, slots := 0, locals := 0 } : Room) s m #[(.int p1), (.int p2)] below meth c s₁ [] 0 0 := Stand.of_body Bd
  have e0 : s₁.heap = h0 := by rw [← hh, Bd.state]; rfl
  have N0 := Fr.nil n0
  show Go p e below (KQ s below (Q7 Z p1 p2 h0 n0) ({ frames := 0, cells := 0, slots := 0, locals := 0 } : Room).cells ({ frames := 0, cells := 0, slots := 0, locals := 0 } : Room).slots) _
  refine Go.body (T := s₁) (σ := s₁) (g' := (mkF m 0 #[.val (.int p1), .val (.int p2)] [])) (ef_7 m p1 p2) ?_
  refine g_iloadN X0 hx (hb hby d7_0) 1 rfl (v := p1) rfl ?_
  refine g_iloadN X0 hx (hb hby d7_1) 2 rfl (v := p2) rfl ?_
  refine g_icmp_gt X0 hx (hb hby d7_2) 9 5 (by decide) (by decide) rfl (fun hc2 => ?_) (fun hc2 => ?_)
  · refine g_iloadN X0 hx (hb hby d7_9) 10 rfl (v := p2) rfl ?_
    refine Go.retI X0 hx hlk Bd.returns (hb hby d7_10) (by decide) (by decide) ?_
    show Q7 Z p1 p2 h0 n0 _ s₁.heap _
    rw [e0]
    exact ⟨p2, rfl, N0, rfl, (by simp [hc2])⟩
  · refine g_iloadN X0 hx (hb hby d7_5) 6 rfl (v := p1) rfl ?_
    refine g_goto X0 hx (hb hby d7_6) 10 (by decide) (by decide) ?_
    refine Go.retI X0 hx hlk Bd.returns (hb hby d7_10) (by decide) (by decide) ?_
    show Q7 Z p1 p2 h0 n0 _ s₁.heap _
    rw [e0]
    exact ⟨p1, rfl, N0, rfl, (by simp [hc2])⟩
theorem own_pn_java_util_Arrays : plainName "java/util/Arrays" = true := by first | (simp [plainName, overriddenIn]; done) | decide +kernel
theorem ef_6 (m : MethodId) (x0 : Addr) (x1 : Int32) : entryFrame m #[(.ref x0), (.int x1)] 3 = mkF m 0 #[.val (.ref x0), .val (.int x1), .unset] [] := by first | (simp [entryFrame, mkF, argsToLocals, Value.category]; done) | rfl
theorem d6_0 : decode jdk_65_method_124_code 0 = .ok (.iload_n 1, 1) := by decide +kernel
theorem d6_1 : decode jdk_65_method_124_code 1 = .ok (.aload_n 0, 1) := by decide +kernel
theorem d6_2 : decode jdk_65_method_124_code 2 = .ok (.arraylength, 1) := by decide +kernel
theorem d6_3 : decode jdk_65_method_124_code 3 = .ok (.if_icmp .ne 11, 3) := by decide +kernel
theorem d6_14 : decode jdk_65_method_124_code 14 = .ok (.iload_n 1, 1) := by decide +kernel
theorem d6_15 : decode jdk_65_method_124_code 15 = .ok (.newarray .long, 2) := by decide +kernel
theorem d6_17 : decode jdk_65_method_124_code 17 = .ok (.astore_n 2, 1) := by decide +kernel
theorem d6_18 : decode jdk_65_method_124_code 18 = .ok (.aload_n 0, 1) := by decide +kernel
theorem d6_19 : decode jdk_65_method_124_code 19 = .ok (.iconst 0, 1) := by decide +kernel
theorem d6_20 : decode jdk_65_method_124_code 20 = .ok (.aload_n 2, 1) := by decide +kernel
theorem d6_21 : decode jdk_65_method_124_code 21 = .ok (.iconst 0, 1) := by decide +kernel
theorem d6_22 : decode jdk_65_method_124_code 22 = .ok (.aload_n 0, 1) := by decide +kernel
theorem d6_23 : decode jdk_65_method_124_code 23 = .ok (.arraylength, 1) := by decide +kernel
theorem d6_24 : decode jdk_65_method_124_code 24 = .ok (.iload_n 1, 1) := by decide +kernel
theorem own_pd0 : parseMethodDescriptor "(II)I" = some ⟨[.int, .int], some .int⟩ := by decide +kernel
theorem d6_25 : decode jdk_65_method_124_code 25 = .ok (.invokestatic 304, 3) := by decide +kernel
theorem d6_28 : decode jdk_65_method_124_code 28 = .ok (.invokestatic 150, 3) := by decide +kernel
theorem d6_31 : decode jdk_65_method_124_code 31 = .ok (.aload_n 2, 1) := by decide +kernel
theorem d6_32 : decode jdk_65_method_124_code 32 = .ok (.areturn, 1) := by decide +kernel
def Q6 (Z : State) (a1 : Addr) (k : ClassId) (vs : List Value) (N : Nat) (M : Nat) (h0 : Heap) (n0 : Nat) (v : Option Value) (h : Heap) (L : List Loc) : Prop := ∃ b : Addr, ∃ kb : ClassId, v = some (.ref b) ∧ Fr n0 L ∧ Keep h0 h [] ∧ h0.size ≤ b ∧ (Arv Z h b kb .long (Int32.ofNat M) (own_cp vs N M) (.long 0))
set_option maxRecDepth 65536 in
set_option maxHeartbeats 40000000 in
theorem rm6 (l : Launch) (Z : State) (a0 : Array Value) (hw : ∀ d ∈ tables_1, d.before a0 Z = true) (ws : List Jvm.Cond) (a1 : Addr) (k : ClassId) (vs : List Value) (N : Nat) (M : Nat) (h0 : Heap) (n0 : Nat) (Z0 : n0 ≤ h0.size) (A_a1 : Arv Z h0 a1 k .long (Int32.ofNat N) vs (.long 0)) (hN : N < M ∧ M ≤ 126) :
    MetFree l (⟨"java/util/Arrays", "copyOf", "([JI)[J"⟩ : MethodName) (head1 (Jvm.Cond.code (⟨"java/util/Arrays", "copyOf", "([JI)[J"⟩ : MethodName) jdk_65_method_124_code 3 (some (.array .long)) :: ws) ({ frames := 1, cells := 1, slots := 126, locals := 18 } : Room)) (fun a U => a = #[(.ref a1), (.int (Int32.ofNat M))] ∧ Z.Warmed39 U.vm ∧ U.heap = h0) (fun _ _ _ _ _ => True) (fun _ U o U' => ∃ v L, o = .returned v ∧ Q6 Z a1 k vs N M h0 n0 v U'.heap L ∧ FrameEnd U o U' L ({ frames := 1, cells := 1, slots := 126, locals := 18 } : Room).cells ({ frames := 1, cells := 1, slots := 126, locals := 18 } : Room).slots) := by
  refine MetFree.of_bodySF (plainFor_of_name own_pn_java_util_Arrays) hisR ?_
  intro p e s m args below meth c s₁ Bd hml0 hP hK
  obtain ⟨rfl, hZ, hh⟩ := hP
  have hx := Bd.exec
  have hby := Bd.bytes
  have hlk := Bd.notSynchronized
  have hml : c.maxLocals = 3 := hml0
  have hown : s.vm.findClass "java/util/Arrays" = some m.cls := findClass_of_methodNamed Bd.named
  have hnm := (name_of_methodNamed Bd.named Bd.method).1
  have X0 : Stand p l e ({ frames := 1, cells := 1, slots := 126, locals := 18 } : Room) s m #[(.ref a1), (.int (Int32.ofNat M))] below meth c s₁ [] 0 0 := Stand.of_body Bd
  have e0 : s₁.heap = h0 := by rw [← hh, Bd.state]; rfl
  have N0 := Fr.nil n0
  have K0 : Keep h0 h0 [] := Keep.refl _ _
  show Go p e below (KQ s below (Q6 Z a1 k vs N M h0 n0) ({ frames := 1, cells := 1, slots := 126, locals := 18 } : Room).cells ({ frames := 1, cells := 1, slots := 126, locals := 18 } : Room).slots) _
  refine Go.body (T := s₁) (σ := s₁) (g' := (mkF m 0 #[.val (.ref a1), .val (.int (Int32.ofNat M)), .unset] [])) (ef_6 m a1 (Int32.ofNat M)) ?_
  refine g_iloadN X0 hx (hb hby d6_0) 1 rfl (v := (Int32.ofNat M)) rfl ?_
  refine g_aloadN X0 hx (hb hby d6_1) 2 rfl (v := (.ref a1)) rfl rfl ?_
  refine g_alen X0 hx (hb hby d6_2) 3 rfl hZ e0 A_a1 ?_
  refine g_icmp_ne X0 hx (hb hby d6_3) 14 6 (by decide) (by decide) rfl (fun hc3 => ?_) (fun hc3 => False.elim (absurd (own_lt (by omega) (by omega) (hc3 ▸ (own_in (j := N) (N := M) (by omega) (by omega)).2)) (Nat.lt_irrefl _)))
  refine g_iloadN X0 hx (hb hby d6_14) 15 rfl (v := (Int32.ofNat M)) rfl ?_
  obtain ⟨T2, h2, cA2, X2, e2, E2, A2, st2⟩ := newP X0 hx hZ (aty := .long) (hw _ (List.mem_of_getElem? (i := 9) rfl)) e0 (g := (mkF m 15 #[.val (.ref a1), .val (.int (Int32.ofNat M)), .unset] [(.int (Int32.ofNat M))])) rfl (hb hby d6_15) rfl (own_in (N := M + 1) (by omega) (by omega)).1 (cap := 126) (by rw [own_cl (by omega)]; exact hN.2) (by decide) (by decide) (by decide)
  refine Go.st st2 ?_
  obtain ⟨ob, q2⟩ : ∃ z, z = h0.size := ⟨_, rfl⟩
  rw [← q2] at A2 ⊢
  have g_ob : n0 ≤ ob := Nat.le_trans Z0 (Nat.le_of_eq q2.symm)
  have mh_ob : h0.size ≤ ob := Nat.le_trans K0.1 (Nat.le_of_eq q2.symm)
  have K2 : Keep h0 h2 [] := Keep.ext K0 E2
  have Zs2 : n0 ≤ h2.size := Nat.le_trans Z0 E2.1
  have Av_ob : Arv Z h2 ob cA2 .long (Int32.ofNat M) (List.replicate M (.long 0)) (.long (0 : Int64)) := Arv.pad (Arv.new A2 (own_in (N := M + 1) (by omega) (by omega)).1) (pad_rep [] (.long (0 : Int64)) M)
  show Go p e below _ (T2.setTop (mkF m 17 #[.val (.ref a1), .val (.int (Int32.ofNat M)), .unset] [(.ref ob)]))
  refine g_astoreN X2 hx (hb hby d6_17) 18 rfl rfl #[.val (.ref a1), .val (.int (Int32.ofNat M)), .val (.ref ob)] rfl ?_
  refine g_aloadN X2 hx (hb hby d6_18) 19 rfl (v := (.ref a1)) rfl rfl ?_
  refine g_iconst X2 hx (hb hby d6_19) 20 rfl (0 : Int32) rfl ?_
  refine g_aloadN X2 hx (hb hby d6_20) 21 rfl (v := (.ref ob)) rfl rfl ?_
  refine g_iconst X2 hx (hb hby d6_21) 22 rfl (0 : Int32) rfl ?_
  refine g_aloadN X2 hx (hb hby d6_22) 23 rfl (v := (.ref a1)) rfl rfl ?_
  refine g_alen X2 hx (hb hby d6_23) 24 rfl hZ e2 (Arv.keep A_a1 K2 nin0) ?_
  refine g_iloadN X2 hx (hb hby d6_24) 25 rfl (v := (Int32.ofNat M)) rfl ?_
  obtain ⟨_, _, ⟨T5, L5, k5, n5⟩, -, X5, ⟨Lc5, hQ5, l5, y5, z5⟩, st5⟩ := Jvm.LawKit.callS X2 hx (y := (⟨"java/lang/Math", "min", "(II)I"⟩ : MethodName)) hown (mvT hZ (hw _ (List.mem_of_getElem? (i := 30) rfl))) (mvT hZ (hw _ (List.mem_of_getElem? (i := 31) rfl))) (mvT hZ (hw _ (List.mem_of_getElem? (i := 24) rfl))) (mvT hZ (hw _ (List.mem_of_getElem? (i := 32) rfl))) (by decide) (backOf (W := 4) (rm7 l Z a0 hw [] (Int32.ofNat N) (Int32.ofNat M) h2 n0 Zs2 ) hZ (hw _ (List.mem_of_getElem? (i := 32) rfl)) (hw _ (List.mem_of_getElem? (i := 24) rfl)) (by decide) (by decide)) (g := (mkF m 25 #[.val (.ref a1), .val (.int (Int32.ofNat M)), .val (.ref ob)] [(.int (Int32.ofNat M)), (.int (Int32.ofNat N)), (.int (0 : Int32)), (.ref ob), (.int (0 : Int32)), (.ref a1)])) rfl (by rw [hml]; rfl) (argsL := [(.int (Int32.ofNat N)), (.int (Int32.ofNat M))]) (rest := [(.int (0 : Int32)), (.ref ob), (.int (0 : Int32)), (.ref a1)]) (lenOf own_pd0 rfl) rfl (by show 2 * 0 + _ ≤ _; exact Nat.le_of_eq rfl) (hb hby d6_25) (fun _ _ => ⟨rfl, e2, (by decide : 1 + 0 ≤ _), (by decide : 126 + 0 ≤ _)⟩)
  dsimp only [Pt.U, Pt.locs, Pt.cells, Pt.slots] at X5 l5 y5 z5 st5 hQ5
  subst l5 y5 z5
  obtain ⟨r_5, rfl, Nq5, e5, p5_0⟩ := hQ5
  refine Go.st st5 ?_
  have N5 := Fr.app N0 Nq5
  show Go p e below _ (T5.setTop (mkF m 28 #[.val (.ref a1), .val (.int (Int32.ofNat M)), .val (.ref ob)] [(.int r_5), (.int (0 : Int32)), (.ref ob), (.int (0 : Int32)), (.ref a1)]))
  have er : r_5 = Int32.ofNat N := by rw [p5_0]; exact if_neg (fun z => absurd (own_lt (by omega) (by omega) z) (by omega))
  subst er
  have hnn : (Int32.ofNat N).toNatClampNeg = N := own_cl (by omega)
  have hmm : (Int32.ofNat M).toNatClampNeg = M := own_cl (by omega)
  have hz0 : (0 : Int32).toNatClampNeg = 0 := by decide
  have hn0 : ¬ Int32.ofNat N < 0 := (own_in (N := N + 1) (by omega) (by omega)).1
  have hle : (0 : Int32).toNatClampNeg + (Int32.ofNat N).toNatClampNeg ≤ (Int32.ofNat N).toNatClampNeg := by omega
  have hle' : (0 : Int32).toNatClampNeg + (Int32.ofNat N).toNatClampNeg ≤ (Int32.ofNat M).toNatClampNeg := by omega
  obtain ⟨T6, h6, L6, X6, e6, N6, Kq6, B6, st6⟩ := cpA X5 hx hZ hown (hw _ (List.mem_of_getElem? (i := 33) rfl)) (hw _ (List.mem_of_getElem? (i := 36) rfl)) (hw _ (List.mem_of_getElem? (i := 34) rfl)) (hw _ (List.mem_of_getElem? (i := 35) rfl)) e5 (Arv.keep A_a1 K2 nin0) Av_ob (Or.inl ⟨rfl, rfl⟩) (by decide) (by decide) hn0 hle hle' rfl (by rw [List.length_replicate]; omega) N5 g_ob (g := (mkF m 28 #[.val (.ref a1), .val (.int (Int32.ofNat M)), .val (.ref ob)] [(.int (Int32.ofNat N)), (.int (0 : Int32)), (.ref ob), (.int (0 : Int32)), (.ref a1)])) rfl (by rw [hml]; rfl) rfl (hb hby d6_28) (by decide) (W := 0) (by show 2 * 0 + _ ≤ _; exact Nat.le_of_eq rfl) (by decide)
  refine Go.st st6 ?_
  have Av_ob_6 : Arv Z h6 ob cA2 .long (Int32.ofNat M) (own_cp vs N M) (.long (0 : Int64)) := (by have q := B6; rw [hz0, own_take, hnn] at q; exact q)
  have K6 : Keep h0 h6 [] := Keep.trans K2 Kq6 (allS (Or.inr mh_ob) all0)
  have Zs6 : n0 ≤ h6.size := Nat.le_trans Zs2 Kq6.1
  show Go p e below _ (T6.setTop (mkF m 31 #[.val (.ref a1), .val (.int (Int32.ofNat M)), .val (.ref ob)] []))
  refine g_aloadN X6 hx (hb hby d6_31) 32 rfl (v := (.ref ob)) rfl rfl ?_
  refine Go.retA X6 hx hlk Bd.returns rfl rfl (hb hby d6_32) (by decide) (by decide) ?_
  show Q6 Z a1 k vs N M h0 n0 _ T6.heap _
  rw [e6]
  exact ⟨ob, cA2, rfl, N6, K6, mh_ob, Av_ob_6⟩
theorem own_pn_com_example_varigraph_varigraph_family_MemberSet_Builder : plainName "com/example/varigraph/varigraph/family/MemberSet$Builder" = true := by first | (simp [plainName, overriddenIn]; done) | decide +kernel
theorem ef_1 (m : MethodId) (x0 : Addr) : entryFrame m #[(.ref x0)] 1 = mkF m 0 #[.val (.ref x0)] [] := by first | (simp [entryFrame, mkF, argsToLocals, Value.category]; done) | rfl
theorem d1_0 : decode prog_50_method_1_code 0 = .ok (.aload_n 0, 1) := by decide +kernel
theorem d1_1 : decode prog_50_method_1_code 1 = .ok (.invokespecial 1, 3) := by decide +kernel
theorem d1_4 : decode prog_50_method_1_code 4 = .ok (.aload_n 0, 1) := by decide +kernel
theorem d1_5 : decode prog_50_method_1_code 5 = .ok (.iconst 1, 1) := by decide +kernel
theorem d1_6 : decode prog_50_method_1_code 6 = .ok (.newarray .long, 2) := by decide +kernel
theorem d1_8 : decode prog_50_method_1_code 8 = .ok (.putfield 7, 3) := by decide +kernel
theorem d1_11 : decode prog_50_method_1_code 11 = .ok (.return_, 1) := by decide +kernel
def Q1 (Z : State) (a1 : Addr) (u : Value) (h0 : Heap) (n0 : Nat) (v : Option Value) (h : Heap) (L : List Loc) : Prop := ∃ wq : Addr, ∃ kq : ClassId, v = none ∧ Fr n0 L ∧ Keep h0 h [a1] ∧ h0.size ≤ wq ∧ (Exa Z h a1 "com/example/varigraph/varigraph/family/MemberSet$Builder") ∧ (Fld Z h a1 "com/example/varigraph/varigraph/family/MemberSet$Builder" "words" "[J" (.ref wq)) ∧ (Arv Z h wq kq .long (Int32.ofNat 1) (own_ws [] 1) (.long 0))
set_option maxRecDepth 65536 in
set_option maxHeartbeats 40000000 in
theorem rm1 (l : Launch) (Z : State) (a0 : Array Value) (hw : ∀ d ∈ tables_1, d.before a0 Z = true) (ws : List Jvm.Cond) (a1 : Addr) (u : Value) (h0 : Heap) (n0 : Nat) (Z0 : n0 ≤ h0.size) (E_a1 : Exa Z h0 a1 "com/example/varigraph/varigraph/family/MemberSet$Builder") (g_a1 : n0 ≤ a1) (F_words_a1 : Fld Z h0 a1 "com/example/varigraph/varigraph/family/MemberSet$Builder" "words" "[J" u) :
    MetFree l (⟨"com/example/varigraph/varigraph/family/MemberSet$Builder", "<init>", "()V"⟩ : MethodName) (head1 (Jvm.Cond.code (⟨"com/example/varigraph/varigraph/family/MemberSet$Builder", "<init>", "()V"⟩ : MethodName) prog_50_method_1_code 1 none :: ws) ({ frames := 1, cells := 1, slots := 1, locals := 12 } : Room)) (fun a U => a = #[(.ref a1)] ∧ Z.Warmed39 U.vm ∧ U.heap = h0) (fun _ _ _ _ _ => True) (fun _ U o U' => ∃ v L, o = .returned v ∧ Q1 Z a1 u h0 n0 v U'.heap L ∧ FrameEnd U o U' L ({ frames := 1, cells := 1, slots := 1, locals := 12 } : Room).cells ({ frames := 1, cells := 1, slots := 1, locals := 12 } : Room).slots) := by
  refine MetFree.of_bodySF (plainFor_of_name own_pn_com_example_varigraph_varigraph_family_MemberSet_Builder) hisR ?_
  intro p e s m args below meth c s₁ Bd hml0 hP hK
  obtain ⟨rfl, hZ, hh⟩ := hP
  have hx := Bd.exec
  have hby := Bd.bytes
  have hlk := Bd.notSynchronized
  have hml : c.maxLocals = 1 := hml0
  have hown : s.vm.findClass "com/example/varigraph/varigraph/family/MemberSet$Builder" = some m.cls := findClass_of_methodNamed Bd.named
  have hnm := (name_of_methodNamed Bd.named Bd.method).1
  have X0 : Stand p l e ({ frames := 1, cells := 1, slots := 1, locals := 12 } : Room) s m #[(.ref a1)] below meth c s₁ [] 0 0 := Stand.of_body Bd
  have e0 : s₁.heap = h0 := by rw [← hh, Bd.state]; rfl
  have N0 := Fr.nil n0
  have K0 : Keep h0 h0 [a1] := Keep.refl _ _
  show Go p e below (KQ s below (Q1 Z a1 u h0 n0) ({ frames := 1, cells := 1, slots := 1, locals := 12 } : Room).cells ({ frames := 1, cells := 1, slots := 1, locals := 12 } : Room).slots) _
  refine Go.body (T := s₁) (σ := s₁) (g' := (mkF m 0 #[.val (.ref a1)] [])) (ef_1 m a1) ?_
  refine g_aloadN X0 hx (hb hby d1_0) 1 rfl (v := (.ref a1)) rfl rfl ?_
  obtain ⟨T8, X8, e8, st8⟩ := initO X0 hx hZ hown (hw _ (List.mem_of_getElem? (i := 6) rfl)) (hw _ (List.mem_of_getElem? (i := 7) rfl)) (hw _ (List.mem_of_getElem? (i := 8) rfl)) e0 (g := (mkF m 1 #[.val (.ref a1)] [(.ref a1)])) rfl (by rw [hml]; rfl) rfl (hb hby d1_1) (by decide) (W := 0) (by show 2 * 0 + _ ≤ _; exact Nat.le_of_eq rfl) (by decide)
  refine Go.st st8 ?_
  show Go p e below _ (T8.setTop (mkF m 4 #[.val (.ref a1)] []))
  refine g_aloadN X8 hx (hb hby d1_4) 5 rfl (v := (.ref a1)) rfl rfl ?_
  refine g_iconst X8 hx (hb hby d1_5) 6 rfl (1 : Int32) rfl ?_
  obtain ⟨T9, h9, cA9, X9, e9, E9, A9, st9⟩ := newP X8 hx hZ (aty := .long) (hw _ (List.mem_of_getElem? (i := 9) rfl)) e8 (g := (mkF m 6 #[.val (.ref a1)] [(.int (1 : Int32)), (.ref a1)])) rfl (hb hby d1_6) rfl (by decide) (cap := 1) (by decide) (by decide) (by decide) (by decide)
  refine Go.st st9 ?_
  obtain ⟨ow, q9⟩ : ∃ z, z = h0.size := ⟨_, rfl⟩
  rw [← q9] at A9 ⊢
  have ne_a1_ow : a1 ≠ ow := Nat.ne_of_lt (Nat.lt_of_lt_of_eq E_a1.lt q9.symm)
  have g_ow : n0 ≤ ow := Nat.le_trans Z0 (Nat.le_of_eq q9.symm)
  have mh_ow : h0.size ≤ ow := Nat.le_trans K0.1 (Nat.le_of_eq q9.symm)
  have E_a1_10 : Exa Z h9 a1 "com/example/varigraph/varigraph/family/MemberSet$Builder" := Exa.ext E9 E_a1
  have F_words_a1_10 : Fld Z h9 a1 "com/example/varigraph/varigraph/family/MemberSet$Builder" "words" "[J" u := Fld.ext E9 F_words_a1
  have K9 : Keep h0 h9 [a1] := Keep.ext K0 E9
  have Zs9 : n0 ≤ h9.size := Nat.le_trans Z0 E9.1
  have Av_ow : Arv Z h9 ow cA9 .long (1 : Int32) ([(.long (0 : Int64))]) (.long (0 : Int64)) := Arv.pad (Arv.new A9 (by decide)) (pad_rep [] (.long (0 : Int64)) 1)
  show Go p e below _ (T9.setTop (mkF m 8 #[.val (.ref a1)] [(.ref ow), (.ref a1)]))
  obtain ⟨T11, h11, X11, e11, W11, st11⟩ := putF X9 hx hZ hown (host := "") (Or.inl (hw _ (List.mem_of_getElem? (i := 10) rfl))) Via.refl e9 F_words_a1_10 E_a1_10 (Or.inl (hw _ (List.mem_of_getElem? (i := 11) rfl))) (hw _ (List.mem_of_getElem? (i := 1) rfl)) (ty := (.array .long)) (by decide) rfl rfl (g := (mkF m 8 #[.val (.ref a1)] [(.ref ow), (.ref a1)])) rfl rfl (hb hby d1_8)
  refine Go.st st11 ?_
  have E_a1_12 : Exa Z h11 a1 "com/example/varigraph/varigraph/family/MemberSet$Builder" := Exa.wr W11 E_a1_10
  have A_ow_12 : Arv Z h11 ow cA9 .long (1 : Int32) ([(.long (0 : Int64))]) (.long (0 : Int64)) := Arv.other Av_ow W11 (Ne.symm ne_a1_ow)
  have F_words_a1_11w : Fld Z h11 a1 "com/example/varigraph/varigraph/family/MemberSet$Builder" "words" "[J" (.ref ow) := Fld.same W11 F_words_a1_10
  have K11 : Keep h0 h11 [a1] := Keep.wr K9 W11 (Or.inl (List.mem_of_getElem? (i := 0) rfl))
  have N11 := Fr.snoc X11 N0 g_a1
  have Zs11 : n0 ≤ h11.size := by rw [W11.size]; exact Zs9
  show Go p e below _ (T11.setTop (mkF m 11 #[.val (.ref a1)] []))
  refine Go.retV X11 hx hlk Bd.returns (hb hby d1_11) (by decide) (by decide) ?_
  show Q1 Z a1 u h0 n0 _ T11.heap _
  rw [e11]
  exact ⟨ow, cA9, rfl, N11, K11, mh_ow, E_a1_12, F_words_a1_11w, A_ow_12⟩
theorem ef_3 (m : MethodId) (x0 : Addr) (x1 : Int32) : entryFrame m #[(.ref x0), (.int x1)] 3 = mkF m 0 #[.val (.ref x0), .val (.int x1), .unset] [] := by first | (simp [entryFrame, mkF, argsToLocals, Value.category]; done) | rfl
theorem d3_0 : decode prog_50_method_3_code 0 = .ok (.iload_n 1, 1) := by decide +kernel
theorem d3_1 : decode prog_50_method_3_code 1 = .ok (.bipush 6, 2) := by decide +kernel
theorem d3_3 : decode prog_50_method_3_code 3 = .ok (.iushr, 1) := by decide +kernel
theorem d3_4 : decode prog_50_method_3_code 4 = .ok (.istore_n 2, 1) := by decide +kernel
theorem d3_5 : decode prog_50_method_3_code 5 = .ok (.iload_n 2, 1) := by decide +kernel
theorem d3_6 : decode prog_50_method_3_code 6 = .ok (.aload_n 0, 1) := by decide +kernel
theorem d3_7 : decode prog_50_method_3_code 7 = .ok (.getfield 7, 3) := by decide +kernel
theorem d3_10 : decode prog_50_method_3_code 10 = .ok (.arraylength, 1) := by decide +kernel
theorem d3_11 : decode prog_50_method_3_code 11 = .ok (.if_icmp .ge 22, 3) := by decide +kernel
theorem d3_33 : decode prog_50_method_3_code 33 = .ok (.iconst 0, 1) := by decide +kernel
theorem d3_34 : decode prog_50_method_3_code 34 = .ok (.ireturn, 1) := by decide +kernel
theorem d3_14 : decode prog_50_method_3_code 14 = .ok (.aload_n 0, 1) := by decide +kernel
theorem d3_15 : decode prog_50_method_3_code 15 = .ok (.getfield 7, 3) := by decide +kernel
theorem d3_18 : decode prog_50_method_3_code 18 = .ok (.iload_n 2, 1) := by decide +kernel
theorem d3_19 : decode prog_50_method_3_code 19 = .ok (.laload, 1) := by decide +kernel
theorem d3_20 : decode prog_50_method_3_code 20 = .ok (.lconst 1, 1) := by decide +kernel
theorem d3_21 : decode prog_50_method_3_code 21 = .ok (.iload_n 1, 1) := by decide +kernel
theorem d3_22 : decode prog_50_method_3_code 22 = .ok (.lshl, 1) := by decide +kernel
theorem d3_23 : decode prog_50_method_3_code 23 = .ok (.land, 1) := by decide +kernel
theorem d3_24 : decode prog_50_method_3_code 24 = .ok (.lconst 0, 1) := by decide +kernel
theorem d3_25 : decode prog_50_method_3_code 25 = .ok (.lcmp, 1) := by decide +kernel
theorem d3_26 : decode prog_50_method_3_code 26 = .ok (.ifCond .eq 7, 3) := by decide +kernel
theorem d3_29 : decode prog_50_method_3_code 29 = .ok (.iconst 1, 1) := by decide +kernel
theorem d3_30 : decode prog_50_method_3_code 30 = .ok (.goto 4, 3) := by decide +kernel
def Q3 (Z : State) (a1 : Addr) (p1 : Int32) (wd : Addr) (k : ClassId) (N : Nat) (S : List Int32) (h0 : Heap) (n0 : Nat) (v : Option Value) (h : Heap) (L : List Loc) : Prop := ∃ r : Int32, v = some (.int r) ∧ Fr n0 L ∧ h = h0 ∧ (r = 0 ∨ r = 1) ∧ (r = 1 ↔ (own_ixn p1 < N ∧ ¬ (own_w S (own_ixn p1) &&& own_bit p1) = 0))
set_option maxRecDepth 65536 in
set_option maxHeartbeats 40000000 in
theorem rm3 (l : Launch) (Z : State) (a0 : Array Value) (hw : ∀ d ∈ tables_1, d.before a0 Z = true) (ws : List Jvm.Cond) (a1 : Addr) (p1 : Int32) (wd : Addr) (k : ClassId) (N : Nat) (S : List Int32) (h0 : Heap) (n0 : Nat) (Z0 : n0 ≤ h0.size) (F_words_a1 : Fld Z h0 a1 "com/example/varigraph/varigraph/family/MemberSet$Builder" "words" "[J" (.ref wd)) (A_wd : Arv Z h0 wd k .long (Int32.ofNat N) (own_ws S N) (.long 0)) (hN : N ≤ 126) :
    MetFree l (⟨"com/example/varigraph/varigraph/family/MemberSet$Builder", "contains", "(I)Z"⟩ : MethodName) (head1 (Jvm.Cond.code (⟨"com/example/varigraph/varigraph/family/MemberSet$Builder", "contains", "(I)Z"⟩ : MethodName) prog_50_method_3_code 3 (some .boolean) :: ws) ({ frames := 0, cells := 0, slots := 0, locals := 0 } : Room)) (fun a U => a = #[(.ref a1), (.int p1)] ∧ Z.Warmed39 U.vm ∧ U.heap = h0) (fun _ _ _ _ _ => True) (fun _ U o U' => ∃ v L, o = .returned v ∧ Q3 Z a1 p1 wd k N S h0 n0 v U'.heap L ∧ FrameEnd U o U' L ({ frames := 0, cells := 0, slots := 0, locals := 0 } : Room).cells ({ frames := 0, cells := 0, slots := 0, locals := 0 } : Room).slots) := by
  refine MetFree.of_bodySF (plainFor_of_name own_pn_com_example_varigraph_varigraph_family_MemberSet_Builder) hisR ?_
  intro p e s m args below meth c s₁ Bd hml0 hP hK
  obtain ⟨rfl, hZ, hh⟩ := hP
  have hx := Bd.exec
  have hby := Bd.bytes
  have hlk := Bd.notSynchronized
  have hml : c.maxLocals = 3 := hml0
  have hown : s.vm.findClass "com/example/varigraph/varigraph/family/MemberSet$Builder" = some m.cls := findClass_of_methodNamed Bd.named
  have hnm := (name_of_methodNamed Bd.named Bd.method).1
  have X0 : Stand p l e ({ frames := 0, cells := 0, slots := 0, locals := 0 } : Room) s m #[(.ref a1), (.int p1)] below meth c s₁ [] 0 0 := Stand.of_body Bd
  have e0 : s₁.heap = h0 := by rw [← hh, Bd.state]; rfl
  have N0 := Fr.nil n0
  show Go p e below (KQ s below (Q3 Z a1 p1 wd k N S h0 n0) ({ frames := 0, cells := 0, slots := 0, locals := 0 } : Room).cells ({ frames := 0, cells := 0, slots := 0, locals := 0 } : Room).slots) _
  refine Go.body (T := s₁) (σ := s₁) (g' := (mkF m 0 #[.val (.ref a1), .val (.int p1), .unset] [])) (ef_3 m a1 p1) ?_
  refine g_iloadN X0 hx (hb hby d3_0) 1 rfl (v := p1) rfl ?_
  refine g_bipush X0 hx (hb hby d3_1) 3 rfl (6 : Int32) rfl ?_
  obtain ⟨ix, e_ix⟩ : ∃ z, (XT.ushr p1 (6 : Int32)) = z := ⟨_, rfl⟩
  have hix : ¬ ix < 0 := e_ix ▸ own_ix0 p1
  refine g_iushr X0 hx (hb hby d3_3) 4 rfl ix e_ix ?_
  refine g_istoreN X0 hx (hb hby d3_4) 5 rfl #[.val (.ref a1), .val (.int p1), .val (.int ix)] rfl ?_
  refine g_iloadN X0 hx (hb hby d3_5) 6 rfl (v := ix) rfl ?_
  refine g_aloadN X0 hx (hb hby d3_6) 7 rfl (v := (.ref a1)) rfl rfl ?_
  obtain ⟨T13, X13, e13, st13⟩ := getF X0 hx hZ hown (host := "") (Or.inl (hw _ (List.mem_of_getElem? (i := 10) rfl))) Via.refl e0 F_words_a1 (g := (mkF m 7 #[.val (.ref a1), .val (.int p1), .val (.int ix)] [(.ref a1), (.int ix)])) rfl rfl (hb hby d3_7)
  refine Go.st st13 ?_
  show Go p e below _ (T13.setTop (mkF m 10 #[.val (.ref a1), .val (.int p1), .val (.int ix)] [(.ref wd), (.int ix)]))
  refine g_alen X13 hx (hb hby d3_10) 11 rfl hZ e13 A_wd ?_
  refine g_icmp_ge X13 hx (hb hby d3_11) 33 14 (by decide) (by decide) rfl (fun hc11 => ?_) (fun hc11 => ?_)
  · refine g_iconst X13 hx (hb hby d3_33) 34 rfl (0 : Int32) rfl ?_
    refine Go.retN X13 hx hlk (t := .boolean) Bd.returns (by simp) (hb hby d3_34) (by decide) (by decide) ?_
    show Q3 Z a1 p1 wd k N S h0 n0 _ T13.heap _
    rw [e13]
    exact ⟨(0 : Int32), rfl, N0, rfl, Or.inl rfl, ⟨fun q => absurd q (by decide), fun q => absurd q.1 (own_cno hN hix e_ix hc11)⟩⟩
  · refine g_aloadN X13 hx (hb hby d3_14) 15 rfl (v := (.ref a1)) rfl rfl ?_
    obtain ⟨T15, X15, e15, st15⟩ := getF X13 hx hZ hown (host := "") (Or.inl (hw _ (List.mem_of_getElem? (i := 10) rfl))) Via.refl e13 F_words_a1 (g := (mkF m 15 #[.val (.ref a1), .val (.int p1), .val (.int ix)] [(.ref a1)])) rfl rfl (hb hby d3_15)
    refine Go.st st15 ?_
    show Go p e below _ (T15.setTop (mkF m 18 #[.val (.ref a1), .val (.int p1), .val (.int ix)] [(.ref wd)]))
    refine g_iloadN X15 hx (hb hby d3_18) 19 rfl (v := ix) rfl ?_
    refine g_laload X15 hx (hb hby d3_19) 20 rfl hZ e15 A_wd (⟨hix, hc11⟩) (.long (own_w S (own_ixn p1))) (own_cget S hN hix e_ix hc11) ?_
    refine g_lconst X15 hx (hb hby d3_20) 21 rfl (1 : Int64) rfl ?_
    refine g_iloadN X15 hx (hb hby d3_21) 22 rfl (v := p1) rfl ?_
    refine g_lshl X15 hx (hb hby d3_22) 23 rfl ((1 : Int64) <<< (p1.toInt64 &&& 63)) rfl ?_
    refine g_land X15 hx (hb hby d3_23) 24 rfl ((own_w S (own_ixn p1)) &&& ((1 : Int64) <<< (p1.toInt64 &&& 63))) rfl ?_
    refine g_lconst X15 hx (hb hby d3_24) 25 rfl (0 : Int64) rfl ?_
    refine g_lcmp X15 hx (hb hby d3_25) 26 rfl (XT.cmpL ((own_w S (own_ixn p1)) &&& ((1 : Int64) <<< (p1.toInt64 &&& 63))) (0 : Int64)) rfl ?_
    refine g_if_eq X15 hx (hb hby d3_26) 33 29 (by decide) (by decide) rfl (fun hc26 => ?_) (fun hc26 => ?_)
    · refine g_iconst X15 hx (hb hby d3_33) 34 rfl (0 : Int32) rfl ?_
      refine Go.retN X15 hx hlk (t := .boolean) Bd.returns (by simp) (hb hby d3_34) (by decide) (by decide) ?_
      show Q3 Z a1 p1 wd k N S h0 n0 _ T15.heap _
      rw [e15]
      exact ⟨(0 : Int32), rfl, N0, rfl, Or.inl rfl, ⟨fun q => absurd q (by decide), fun q => absurd (own_cmp0 hc26) q.2⟩⟩
    · refine g_iconst X15 hx (hb hby d3_29) 30 rfl (1 : Int32) rfl ?_
      refine g_goto X15 hx (hb hby d3_30) 34 (by decide) (by decide) ?_
      refine Go.retN X15 hx hlk (t := .boolean) Bd.returns (by simp) (hb hby d3_34) (by decide) (by decide) ?_
      show Q3 Z a1 p1 wd k N S h0 n0 _ T15.heap _
      rw [e15]
      exact ⟨(1 : Int32), rfl, N0, rfl, Or.inr rfl, ⟨fun _ => ⟨own_cyes hN hix e_ix hc11, fun q => hc26 (own_cmp1 q)⟩, fun _ => rfl⟩⟩
theorem ef_4 (m : MethodId) (x0 : Addr) (x1 : Int32) : entryFrame m #[(.ref x0), (.int x1)] 3 = mkF m 0 #[.val (.ref x0), .val (.int x1), .unset] [] := by first | (simp [entryFrame, mkF, argsToLocals, Value.category]; done) | rfl
theorem d4_0 : decode prog_50_method_2_code 0 = .ok (.iload_n 1, 1) := by decide +kernel
theorem d4_1 : decode prog_50_method_2_code 1 = .ok (.ifCond .ge 17, 3) := by decide +kernel
theorem d4_18 : decode prog_50_method_2_code 18 = .ok (.iload_n 1, 1) := by decide +kernel
theorem d4_19 : decode prog_50_method_2_code 19 = .ok (.bipush 6, 2) := by decide +kernel
theorem d4_21 : decode prog_50_method_2_code 21 = .ok (.iushr, 1) := by decide +kernel
theorem d4_22 : decode prog_50_method_2_code 22 = .ok (.istore_n 2, 1) := by decide +kernel
theorem d4_23 : decode prog_50_method_2_code 23 = .ok (.iload_n 2, 1) := by decide +kernel
theorem d4_24 : decode prog_50_method_2_code 24 = .ok (.aload_n 0, 1) := by decide +kernel
theorem d4_25 : decode prog_50_method_2_code 25 = .ok (.getfield 7, 3) := by decide +kernel
theorem d4_28 : decode prog_50_method_2_code 28 = .ok (.arraylength, 1) := by decide +kernel
theorem d4_29 : decode prog_50_method_2_code 29 = .ok (.if_icmp .lt 27, 3) := by decide +kernel
theorem d4_56 : decode prog_50_method_2_code 56 = .ok (.aload_n 0, 1) := by decide +kernel
theorem d4_57 : decode prog_50_method_2_code 57 = .ok (.getfield 7, 3) := by decide +kernel
theorem d4_60 : decode prog_50_method_2_code 60 = .ok (.iload_n 2, 1) := by decide +kernel
theorem d4_61 : decode prog_50_method_2_code 61 = .ok (.dup2, 1) := by decide +kernel
theorem d4_62 : decode prog_50_method_2_code 62 = .ok (.laload, 1) := by decide +kernel
theorem d4_63 : decode prog_50_method_2_code 63 = .ok (.lconst 1, 1) := by decide +kernel
theorem d4_64 : decode prog_50_method_2_code 64 = .ok (.iload_n 1, 1) := by decide +kernel
theorem d4_65 : decode prog_50_method_2_code 65 = .ok (.lshl, 1) := by decide +kernel
theorem d4_66 : decode prog_50_method_2_code 66 = .ok (.lor, 1) := by decide +kernel
theorem d4_67 : decode prog_50_method_2_code 67 = .ok (.lastore, 1) := by decide +kernel
theorem d4_68 : decode prog_50_method_2_code 68 = .ok (.aload_n 0, 1) := by decide +kernel
theorem d4_69 : decode prog_50_method_2_code 69 = .ok (.areturn, 1) := by decide +kernel
theorem d4_32 : decode prog_50_method_2_code 32 = .ok (.aload_n 0, 1) := by decide +kernel
theorem d4_33 : decode prog_50_method_2_code 33 = .ok (.aload_n 0, 1) := by decide +kernel
theorem d4_34 : decode prog_50_method_2_code 34 = .ok (.getfield 7, 3) := by decide +kernel
theorem d4_37 : decode prog_50_method_2_code 37 = .ok (.iload_n 2, 1) := by decide +kernel
theorem d4_38 : decode prog_50_method_2_code 38 = .ok (.iconst 1, 1) := by decide +kernel
theorem d4_39 : decode prog_50_method_2_code 39 = .ok (.iadd, 1) := by decide +kernel
theorem d4_40 : decode prog_50_method_2_code 40 = .ok (.aload_n 0, 1) := by decide +kernel
theorem d4_41 : decode prog_50_method_2_code 41 = .ok (.getfield 7, 3) := by decide +kernel
theorem d4_44 : decode prog_50_method_2_code 44 = .ok (.arraylength, 1) := by decide +kernel
theorem d4_45 : decode prog_50_method_2_code 45 = .ok (.iconst 2, 1) := by decide +kernel
theorem d4_46 : decode prog_50_method_2_code 46 = .ok (.imul, 1) := by decide +kernel
theorem d4_47 : decode prog_50_method_2_code 47 = .ok (.invokestatic 22, 3) := by decide +kernel
theorem own_pd1 : parseMethodDescriptor "([JI)[J" = some ⟨[(.array .long), .int], some (.array .long)⟩ := by decide +kernel
theorem d4_50 : decode prog_50_method_2_code 50 = .ok (.invokestatic 28, 3) := by decide +kernel
theorem d4_53 : decode prog_50_method_2_code 53 = .ok (.putfield 7, 3) := by decide +kernel
def Q4 (Z : State) (a1 : Addr) (p1 : Int32) (wd : Addr) (k : ClassId) (N : Nat) (S : List Int32) (h0 : Heap) (n0 : Nat) (v : Option Value) (h : Heap) (L : List Loc) : Prop := ∃ wq : Addr, ∃ kq : ClassId, ∃ Nq : Nat, v = some (.ref a1) ∧ Fr n0 L ∧ Keep h0 h [a1, wd] ∧ (Exa Z h a1 "com/example/varigraph/varigraph/family/MemberSet$Builder") ∧ (Fld Z h a1 "com/example/varigraph/varigraph/family/MemberSet$Builder" "words" "[J" (.ref wq)) ∧ (Arv Z h wq kq .long (Int32.ofNat Nq) (own_ws (p1 :: S) Nq) (.long 0)) ∧ (n0 ≤ wq) ∧ (a1 ≠ wq) ∧ (1 ≤ Nq ∧ Nq ≤ 126) ∧ (∀ x ∈ p1 :: S, own_ixn x < Nq)
set_option maxRecDepth 65536 in
set_option maxHeartbeats 40000000 in
theorem rm4 (l : Launch) (Z : State) (a0 : Array Value) (hw : ∀ d ∈ tables_1, d.before a0 Z = true) (ws : List Jvm.Cond) (a1 : Addr) (p1 : Int32) (wd : Addr) (k : ClassId) (N : Nat) (S : List Int32) (h0 : Heap) (n0 : Nat) (Z0 : n0 ≤ h0.size) (E_a1 : Exa Z h0 a1 "com/example/varigraph/varigraph/family/MemberSet$Builder") (F_words_a1 : Fld Z h0 a1 "com/example/varigraph/varigraph/family/MemberSet$Builder" "words" "[J" (.ref wd)) (A_wd : Arv Z h0 wd k .long (Int32.ofNat N) (own_ws S N) (.long 0)) (g_a1 : n0 ≤ a1) (g_wd : n0 ≤ wd) (ne_a1_wd : a1 ≠ wd) (hN : 1 ≤ N ∧ N ≤ 126) (hp : ¬ p1 < 0 ∧ p1 < 4096) (hS : ∀ x ∈ S, own_ixn x < N) :
    MetFree l (⟨"com/example/varigraph/varigraph/family/MemberSet$Builder", "add", "(I)Lcom/example/varigraph/varigraph/family/MemberSet$Builder;"⟩ : MethodName) (head1 (Jvm.Cond.code (⟨"com/example/varigraph/varigraph/family/MemberSet$Builder", "add", "(I)Lcom/example/varigraph/varigraph/family/MemberSet$Builder;"⟩ : MethodName) prog_50_method_2_code 3 (some (.object "com/example/varigraph/varigraph/family/MemberSet$Builder")) :: ws) ({ frames := 2, cells := 1, slots := 126, locals := 33 } : Room)) (fun a U => a = #[(.ref a1), (.int p1)] ∧ Z.Warmed39 U.vm ∧ U.heap = h0) (fun _ _ _ _ _ => True) (fun _ U o U' => ∃ v L, o = .returned v ∧ Q4 Z a1 p1 wd k N S h0 n0 v U'.heap L ∧ FrameEnd U o U' L ({ frames := 2, cells := 1, slots := 126, locals := 33 } : Room).cells ({ frames := 2, cells := 1, slots := 126, locals := 33 } : Room).slots) := by
  refine MetFree.of_bodySF (plainFor_of_name own_pn_com_example_varigraph_varigraph_family_MemberSet_Builder) hisR ?_
  intro p e s m args below meth c s₁ Bd hml0 hP hK
  obtain ⟨rfl, hZ, hh⟩ := hP
  have hx := Bd.exec
  have hby := Bd.bytes
  have hlk := Bd.notSynchronized
  have hml : c.maxLocals = 3 := hml0
  have hown : s.vm.findClass "com/example/varigraph/varigraph/family/MemberSet$Builder" = some m.cls := findClass_of_methodNamed Bd.named
  have hnm := (name_of_methodNamed Bd.named Bd.method).1
  have X0 : Stand p l e ({ frames := 2, cells := 1, slots := 126, locals := 33 } : Room) s m #[(.ref a1), (.int p1)] below meth c s₁ [] 0 0 := Stand.of_body Bd
  have e0 : s₁.heap = h0 := by rw [← hh, Bd.state]; rfl
  have N0 := Fr.nil n0
  have K0 : Keep h0 h0 [a1, wd] := Keep.refl _ _
  show Go p e below (KQ s below (Q4 Z a1 p1 wd k N S h0 n0) ({ frames := 2, cells := 1, slots := 126, locals := 33 } : Room).cells ({ frames := 2, cells := 1, slots := 126, locals := 33 } : Room).slots) _
  refine Go.body (T := s₁) (σ := s₁) (g' := (mkF m 0 #[.val (.ref a1), .val (.int p1), .unset] [])) (ef_4 m a1 p1) ?_
  refine g_iloadN X0 hx (hb hby d4_0) 1 rfl (v := p1) rfl ?_
  refine g_if_ge X0 hx (hb hby d4_1) 18 4 (by decide) (by decide) rfl (fun hc1 => ?_) (fun hc1 => False.elim (hp.1 hc1))
  refine g_iloadN X0 hx (hb hby d4_18) 19 rfl (v := p1) rfl ?_
  refine g_bipush X0 hx (hb hby d4_19) 21 rfl (6 : Int32) rfl ?_
  obtain ⟨i, hi, e_i⟩ := own_ix p1 hp
  have hin : own_ixn p1 = i := by rw [own_ixn, e_i]; exact own_cl (by omega)
  refine g_iushr X0 hx (hb hby d4_21) 22 rfl (Int32.ofNat i) e_i ?_
  refine g_istoreN X0 hx (hb hby d4_22) 23 rfl #[.val (.ref a1), .val (.int p1), .val (.int (Int32.ofNat i))] rfl ?_
  refine g_iloadN X0 hx (hb hby d4_23) 24 rfl (v := (Int32.ofNat i)) rfl ?_
  refine g_aloadN X0 hx (hb hby d4_24) 25 rfl (v := (.ref a1)) rfl rfl ?_
  obtain ⟨T17, X17, e17, st17⟩ := getF X0 hx hZ hown (host := "") (Or.inl (hw _ (List.mem_of_getElem? (i := 10) rfl))) Via.refl e0 F_words_a1 (g := (mkF m 25 #[.val (.ref a1), .val (.int p1), .val (.int (Int32.ofNat i))] [(.ref a1), (.int (Int32.ofNat i))])) rfl rfl (hb hby d4_25)
  refine Go.st st17 ?_
  show Go p e below _ (T17.setTop (mkF m 28 #[.val (.ref a1), .val (.int p1), .val (.int (Int32.ofNat i))] [(.ref wd), (.int (Int32.ofNat i))]))
  refine g_alen X17 hx (hb hby d4_28) 29 rfl hZ e17 A_wd ?_
  refine g_icmp_lt X17 hx (hb hby d4_29) 56 32 (by decide) (by decide) rfl (fun hc29 => ?_) (fun hc29 => ?_)
  · have hlt : i < N := own_lt (by omega) (by omega) hc29
    refine g_aloadN X17 hx (hb hby d4_56) 57 rfl (v := (.ref a1)) rfl rfl ?_
    obtain ⟨T19, X19, e19, st19⟩ := getF X17 hx hZ hown (host := "") (Or.inl (hw _ (List.mem_of_getElem? (i := 10) rfl))) Via.refl e17 F_words_a1 (g := (mkF m 57 #[.val (.ref a1), .val (.int p1), .val (.int (Int32.ofNat i))] [(.ref a1)])) rfl rfl (hb hby d4_57)
    refine Go.st st19 ?_
    show Go p e below _ (T19.setTop (mkF m 60 #[.val (.ref a1), .val (.int p1), .val (.int (Int32.ofNat i))] [(.ref wd)]))
    refine g_iloadN X19 hx (hb hby d4_60) 61 rfl (v := (Int32.ofNat i)) rfl ?_
    refine g_dup2 X19 hx (hb hby d4_61) 62 rfl rfl rfl ?_
    refine g_laload X19 hx (hb hby d4_62) 63 rfl hZ e19 A_wd (own_in (by omega) hlt) (.long (own_w S i)) (by rw [own_cl (by omega)]; exact own_ws_get S hlt) ?_
    refine g_lconst X19 hx (hb hby d4_63) 64 rfl (1 : Int64) rfl ?_
    refine g_iloadN X19 hx (hb hby d4_64) 65 rfl (v := p1) rfl ?_
    refine g_lshl X19 hx (hb hby d4_65) 66 rfl ((1 : Int64) <<< (p1.toInt64 &&& 63)) rfl ?_
    refine g_lor X19 hx (hb hby d4_66) 67 rfl ((own_w S i) ||| ((1 : Int64) <<< (p1.toInt64 &&& 63))) rfl ?_
    obtain ⟨T21, h21, X21, e21, W21, B21, st21⟩ := g_lastore X19 hx (hb hby d4_67) hZ e19 A_wd (own_in (by omega) hlt) (i := i) (own_cl (by omega)) (by rw [own_ws_len]; exact hlt)  (L := #[.val (.ref a1), .val (.int p1), .val (.int (Int32.ofNat i))]) (S := [])
    refine Go.st st21 ?_
    have E_a1_22 : Exa Z h21 a1 "com/example/varigraph/varigraph/family/MemberSet$Builder" := Exa.wr W21 E_a1
    have F_words_a1_22 : Fld Z h21 a1 "com/example/varigraph/varigraph/family/MemberSet$Builder" "words" "[J" (.ref wd) := Fld.other W21 F_words_a1 (Or.inl ne_a1_wd)
    have Av_wd_21 : Arv Z h21 wd k .long (Int32.ofNat N) (own_ws (p1 :: S) N) (.long 0) := (by have q := own_ws_set S N p1; rw [hin] at q; rw [← q]; exact B21)
    have K21 : Keep h0 h21 [a1, wd] := Keep.wr K0 W21 (Or.inl (List.mem_of_getElem? (i := 1) rfl))
    have N21 := Fr.snoc X21 N0 g_wd
    have Zs21 : n0 ≤ h21.size := by rw [W21.size]; exact Z0
    show Go p e below _ (T21.setTop (mkF m 68 #[.val (.ref a1), .val (.int p1), .val (.int (Int32.ofNat i))] []))
    refine g_aloadN X21 hx (hb hby d4_68) 69 rfl (v := (.ref a1)) rfl rfl ?_
    refine Go.retA X21 hx hlk Bd.returns rfl rfl (hb hby d4_69) (by decide) (by decide) ?_
    show Q4 Z a1 p1 wd k N S h0 n0 _ T21.heap _
    rw [e21]
    exact ⟨wd, k, N, rfl, N21, K21, E_a1_22, F_words_a1_22, Av_wd_21, g_wd, ne_a1_wd, hN, (own_all hin hlt (fun x hx => Nat.lt_of_lt_of_le (hS x hx) (Nat.le_refl _)))⟩
  · refine g_aloadN X17 hx (hb hby d4_32) 33 rfl (v := (.ref a1)) rfl rfl ?_
    refine g_aloadN X17 hx (hb hby d4_33) 34 rfl (v := (.ref a1)) rfl rfl ?_
    obtain ⟨T23, X23, e23, st23⟩ := getF X17 hx hZ hown (host := "") (Or.inl (hw _ (List.mem_of_getElem? (i := 10) rfl))) Via.refl e17 F_words_a1 (g := (mkF m 34 #[.val (.ref a1), .val (.int p1), .val (.int (Int32.ofNat i))] [(.ref a1), (.ref a1)])) rfl rfl (hb hby d4_34)
    refine Go.st st23 ?_
    show Go p e below _ (T23.setTop (mkF m 37 #[.val (.ref a1), .val (.int p1), .val (.int (Int32.ofNat i))] [(.ref wd), (.ref a1)]))
    refine g_iloadN X23 hx (hb hby d4_37) 38 rfl (v := (Int32.ofNat i)) rfl ?_
    refine g_iconst X23 hx (hb hby d4_38) 39 rfl (1 : Int32) rfl ?_
    refine g_iadd X23 hx (hb hby d4_39) 40 rfl ((Int32.ofNat i) + (1 : Int32)) rfl ?_
    refine g_aloadN X23 hx (hb hby d4_40) 41 rfl (v := (.ref a1)) rfl rfl ?_
    obtain ⟨T24, X24, e24, st24⟩ := getF X23 hx hZ hown (host := "") (Or.inl (hw _ (List.mem_of_getElem? (i := 10) rfl))) Via.refl e23 F_words_a1 (g := (mkF m 41 #[.val (.ref a1), .val (.int p1), .val (.int (Int32.ofNat i))] [(.ref a1), (.int ((Int32.ofNat i) + (1 : Int32))), (.ref wd), (.ref a1)])) rfl rfl (hb hby d4_41)
    refine Go.st st24 ?_
    show Go p e below _ (T24.setTop (mkF m 44 #[.val (.ref a1), .val (.int p1), .val (.int (Int32.ofNat i))] [(.ref wd), (.int ((Int32.ofNat i) + (1 : Int32))), (.ref wd), (.ref a1)]))
    refine g_alen X24 hx (hb hby d4_44) 45 rfl hZ e24 A_wd ?_
    refine g_iconst X24 hx (hb hby d4_45) 46 rfl (2 : Int32) rfl ?_
    refine g_imul X24 hx (hb hby d4_46) 47 rfl ((Int32.ofNat N) * (2 : Int32)) rfl ?_
    obtain ⟨_, _, ⟨T26, L26, k26, n26⟩, -, X26, ⟨Lc26, hQ26, l26, y26, z26⟩, st26⟩ := Jvm.LawKit.callS X24 hx (y := (⟨"java/lang/Math", "max", "(II)I"⟩ : MethodName)) hown (mvT hZ (hw _ (List.mem_of_getElem? (i := 22) rfl))) (mvT hZ (hw _ (List.mem_of_getElem? (i := 23) rfl))) (mvT hZ (hw _ (List.mem_of_getElem? (i := 24) rfl))) (mvT hZ (hw _ (List.mem_of_getElem? (i := 25) rfl))) (by decide) (backOf (W := 2) (rm5 l Z a0 hw [] ((Int32.ofNat i) + (1 : Int32)) ((Int32.ofNat N) * (2 : Int32)) h0 n0 Z0 ) hZ (hw _ (List.mem_of_getElem? (i := 25) rfl)) (hw _ (List.mem_of_getElem? (i := 24) rfl)) (by decide) (by decide)) (g := (mkF m 47 #[.val (.ref a1), .val (.int p1), .val (.int (Int32.ofNat i))] [(.int ((Int32.ofNat N) * (2 : Int32))), (.int ((Int32.ofNat i) + (1 : Int32))), (.ref wd), (.ref a1)])) rfl (by rw [hml]; rfl) (argsL := [(.int ((Int32.ofNat i) + (1 : Int32))), (.int ((Int32.ofNat N) * (2 : Int32)))]) (rest := [(.ref wd), (.ref a1)]) (lenOf own_pd0 rfl) rfl (by show 2 * 0 + _ ≤ _; exact Nat.le_of_eq rfl) (hb hby d4_47) (fun _ _ => ⟨rfl, e24, (by decide : 0 + 0 ≤ _), (by decide : 0 + 0 ≤ _)⟩)
    dsimp only [Pt.U, Pt.locs, Pt.cells, Pt.slots] at X26 l26 y26 z26 st26 hQ26
    subst l26 y26 z26
    obtain ⟨r_26, rfl, Nq26, e26, p26_0⟩ := hQ26
    refine Go.st st26 ?_
    have N26 := Fr.app N0 Nq26
    show Go p e below _ (T26.setTop (mkF m 50 #[.val (.ref a1), .val (.int p1), .val (.int (Int32.ofNat i))] [(.int r_26), (.ref wd), (.ref a1)]))
    obtain ⟨M, hM, hM1, hM2, hM3⟩ := own_grow hi ⟨hN.1, hN.2⟩ hc29 p26_0
    subst hM
    obtain ⟨_, _, ⟨T27, L27, k27, n27⟩, -, X27, ⟨Lc27, hQ27, l27, y27, z27⟩, st27⟩ := Jvm.LawKit.callS X26 hx (y := (⟨"java/util/Arrays", "copyOf", "([JI)[J"⟩ : MethodName)) hown (mvT hZ (hw _ (List.mem_of_getElem? (i := 26) rfl))) (mvT hZ (hw _ (List.mem_of_getElem? (i := 27) rfl))) (mvT hZ (hw _ (List.mem_of_getElem? (i := 28) rfl))) (mvT hZ (hw _ (List.mem_of_getElem? (i := 29) rfl))) (by decide) (backOf (W := 1) (rm6 l Z a0 hw [] wd k (own_ws S N) N M h0 n0 Z0 A_wd (⟨hM1, hM2⟩)) hZ (hw _ (List.mem_of_getElem? (i := 29) rfl)) (hw _ (List.mem_of_getElem? (i := 28) rfl)) (by decide) (by decide)) (g := (mkF m 50 #[.val (.ref a1), .val (.int p1), .val (.int (Int32.ofNat i))] [(.int (Int32.ofNat M)), (.ref wd), (.ref a1)])) rfl (by rw [hml]; rfl) (argsL := [(.ref wd), (.int (Int32.ofNat M))]) (rest := [(.ref a1)]) (lenOf own_pd1 rfl) rfl (by show 2 * 0 + _ ≤ _; exact Nat.le_of_eq rfl) (hb hby d4_50) (fun _ _ => ⟨rfl, e26, (by decide : 0 + 1 ≤ _), (by decide : 0 + 126 ≤ _)⟩)
    dsimp only [Pt.U, Pt.locs, Pt.cells, Pt.slots] at X27 l27 y27 z27 st27 hQ27
    subst l27 y27 z27
    obtain ⟨b_27, kb_27, rfl, Nq27, Kq27, f27_0, f27_1⟩ := hQ27
    refine Go.st st27 ?_
    have N27 := Fr.app N26 Nq27
    have E_a1_28 : Exa Z T27.heap a1 "com/example/varigraph/varigraph/family/MemberSet$Builder" := Exa.keep E_a1 Kq27
    have F_words_a1_28 : Fld Z T27.heap a1 "com/example/varigraph/varigraph/family/MemberSet$Builder" "words" "[J" (.ref wd) := Fld.keep F_words_a1 Kq27 nin0
    have A_wd_28 : Arv Z T27.heap wd k .long (Int32.ofNat N) (own_ws S N) (.long 0) := Arv.keep A_wd Kq27 nin0
    have ne_a1_b_27 : a1 ≠ b_27 := Nat.ne_of_lt (Nat.lt_of_lt_of_le E_a1.lt f27_0)
    have ne_wd_b_27 : wd ≠ b_27 := Nat.ne_of_lt (Nat.lt_of_lt_of_le A_wd.lt f27_0)
    have g_b_27 : n0 ≤ b_27 := Nat.le_trans Z0 f27_0
    have mh_b_27 : h0.size ≤ b_27 := Nat.le_trans K0.1 f27_0
    have K27 : Keep h0 T27.heap [a1, wd] := Keep.trans K0 Kq27 all0
    have Zs27 : n0 ≤ T27.heap.size := Nat.le_trans Z0 Kq27.1
    show Go p e below _ (T27.setTop (mkF m 53 #[.val (.ref a1), .val (.int p1), .val (.int (Int32.ofNat i))] [(.ref b_27), (.ref a1)]))
    have Avp : Arv Z T27.heap b_27 kb_27 .long (Int32.ofNat M) (own_ws S M) (.long 0) := Arv.pad f27_1 (own_cp_ws S hS hM1)
    obtain ⟨T29, h29, X29, e29, W29, st29⟩ := putF X27 hx hZ hown (host := "") (Or.inl (hw _ (List.mem_of_getElem? (i := 10) rfl))) Via.refl rfl F_words_a1_28 E_a1_28 (Or.inl (hw _ (List.mem_of_getElem? (i := 11) rfl))) (hw _ (List.mem_of_getElem? (i := 1) rfl)) (ty := (.array .long)) (by decide) rfl rfl (g := (mkF m 53 #[.val (.ref a1), .val (.int p1), .val (.int (Int32.ofNat i))] [(.ref b_27), (.ref a1)])) rfl rfl (hb hby d4_53)
    refine Go.st st29 ?_
    have E_a1_30 : Exa Z h29 a1 "com/example/varigraph/varigraph/family/MemberSet$Builder" := Exa.wr W29 E_a1_28
    have A_wd_30 : Arv Z h29 wd k .long (Int32.ofNat N) (own_ws S N) (.long 0) := Arv.other A_wd_28 W29 (Ne.symm ne_a1_wd)
    have A_b_27_30 : Arv Z h29 b_27 kb_27 .long (Int32.ofNat M) (own_ws S M) (.long 0) := Arv.other Avp W29 (Ne.symm ne_a1_b_27)
    have F_words_a1_29w : Fld Z h29 a1 "com/example/varigraph/varigraph/family/MemberSet$Builder" "words" "[J" (.ref b_27) := Fld.same W29 F_words_a1_28
    have K29 : Keep h0 h29 [a1, wd] := Keep.wr K27 W29 (Or.inl (List.mem_of_getElem? (i := 0) rfl))
    have N29 := Fr.snoc X29 N27 g_a1
    have Zs29 : n0 ≤ h29.size := by rw [W29.size]; exact Zs27
    show Go p e below _ (T29.setTop (mkF m 56 #[.val (.ref a1), .val (.int p1), .val (.int (Int32.ofNat i))] []))
    refine g_aloadN X29 hx (hb hby d4_56) 57 rfl (v := (.ref a1)) rfl rfl ?_
    obtain ⟨T31, X31, e31, st31⟩ := getF X29 hx hZ hown (host := "") (Or.inl (hw _ (List.mem_of_getElem? (i := 10) rfl))) Via.refl e29 F_words_a1_29w (g := (mkF m 57 #[.val (.ref a1), .val (.int p1), .val (.int (Int32.ofNat i))] [(.ref a1)])) rfl rfl (hb hby d4_57)
    refine Go.st st31 ?_
    show Go p e below _ (T31.setTop (mkF m 60 #[.val (.ref a1), .val (.int p1), .val (.int (Int32.ofNat i))] [(.ref b_27)]))
    refine g_iloadN X31 hx (hb hby d4_60) 61 rfl (v := (Int32.ofNat i)) rfl ?_
    refine g_dup2 X31 hx (hb hby d4_61) 62 rfl rfl rfl ?_
    refine g_laload X31 hx (hb hby d4_62) 63 rfl hZ e31 A_b_27_30 (own_in (by omega) hM3) (.long (own_w S i)) (by rw [own_cl (by omega)]; exact own_ws_get S hM3) ?_
    refine g_lconst X31 hx (hb hby d4_63) 64 rfl (1 : Int64) rfl ?_
    refine g_iloadN X31 hx (hb hby d4_64) 65 rfl (v := p1) rfl ?_
    refine g_lshl X31 hx (hb hby d4_65) 66 rfl ((1 : Int64) <<< (p1.toInt64 &&& 63)) rfl ?_
    refine g_lor X31 hx (hb hby d4_66) 67 rfl ((own_w S i) ||| ((1 : Int64) <<< (p1.toInt64 &&& 63))) rfl ?_
    obtain ⟨T33, h33, X33, e33, W33, B33, st33⟩ := g_lastore X31 hx (hb hby d4_67) hZ e31 A_b_27_30 (own_in (by omega) hM3) (i := i) (own_cl (by omega)) (by rw [own_ws_len]; exact hM3)  (L := #[.val (.ref a1), .val (.int p1), .val (.int (Int32.ofNat i))]) (S := [])
    refine Go.st st33 ?_
    have E_a1_34 : Exa Z h33 a1 "com/example/varigraph/varigraph/family/MemberSet$Builder" := Exa.wr W33 E_a1_30
    have A_wd_34 : Arv Z h33 wd k .long (Int32.ofNat N) (own_ws S N) (.long 0) := Arv.other A_wd_30 W33 ne_wd_b_27
    have F_words_a1_34 : Fld Z h33 a1 "com/example/varigraph/varigraph/family/MemberSet$Builder" "words" "[J" (.ref b_27) := Fld.other W33 F_words_a1_29w (Or.inl ne_a1_b_27)
    have Av_b_27_33 : Arv Z h33 b_27 kb_27 .long (Int32.ofNat M) (own_ws (p1 :: S) M) (.long 0) := (by have q := own_ws_set S M p1; rw [hin] at q; rw [← q]; exact B33)
    have K33 : Keep h0 h33 [a1, wd] := Keep.wr K29 W33 (Or.inr mh_b_27)
    have N33 := Fr.snoc X33 N29 g_b_27
    have Zs33 : n0 ≤ h33.size := by rw [W33.size]; exact Zs29
    show Go p e below _ (T33.setTop (mkF m 68 #[.val (.ref a1), .val (.int p1), .val (.int (Int32.ofNat i))] []))
    refine g_aloadN X33 hx (hb hby d4_68) 69 rfl (v := (.ref a1)) rfl rfl ?_
    refine Go.retA X33 hx hlk Bd.returns rfl rfl (hb hby d4_69) (by decide) (by decide) ?_
    show Q4 Z a1 p1 wd k N S h0 n0 _ T33.heap _
    rw [e33]
    exact ⟨b_27, kb_27, M, rfl, N33, K33, E_a1_34, F_words_a1_34, Av_b_27_33, g_b_27, ne_a1_b_27, ⟨by omega, hM2⟩, (own_all hin hM3 (fun x hx => Nat.lt_of_lt_of_le (hS x hx) (Nat.le_of_lt hM1)))⟩
theorem own_pn_com_example_varigraph_varigraph_family_BuilderContainsPinLaw : plainName "com/example/varigraph/varigraph/family/BuilderContainsPinLaw" = true := by first | (simp [plainName, overriddenIn]; done) | decide +kernel
theorem ef_0 (m : MethodId) (x0 : Int32) (x1 : Int32) (x2 : Int32) (x3 : Int32) (x4 : Int32) : entryFrame m #[(.int x0), (.int x1), (.int x2), (.int x3), (.int x4)] maxLocals = mkF m 0 #[.val (.int x0), .val (.int x1), .val (.int x2), .val (.int x3), .val (.int x4), .unset, .unset, .unset, .unset, .unset, .unset, .unset, .unset] [] := by first | (simp [entryFrame, mkF, argsToLocals, Value.category, maxLocals]; done) | rfl
theorem own_pd2 : parseMethodDescriptor "()V" = some ⟨[], none⟩ := by decide +kernel
theorem own_pd3 : parseMethodDescriptor "(I)Z" = some ⟨[.int], some .boolean⟩ := by decide +kernel
theorem own_pd4 : parseMethodDescriptor "(I)Lcom/example/varigraph/varigraph/family/MemberSet$Builder;" = some ⟨[.int], some (.object "com/example/varigraph/varigraph/family/MemberSet$Builder")⟩ := by decide +kernel
def Q0 (Z : State) (p1 : Int32) (p2 : Int32) (p3 : Int32) (p4 : Int32) (p5 : Int32) (h0 : Heap) (n0 : Nat) (v : Option Value) (h : Heap) (L : List Loc) : Prop := v = some (.int (1 : Int32)) ∧ Fr n0 L
set_option maxRecDepth 65536 in
set_option maxHeartbeats 40000000 in
theorem rm0 (l : Launch) (Z : State) (a0 : Array Value) (hw : ∀ d ∈ tables_1, d.before a0 Z = true) (ws : List Jvm.Cond) (p1 : Int32) (p2 : Int32) (p3 : Int32) (p4 : Int32) (p5 : Int32) (h0 : Heap) (n0 : Nat) (Z0 : n0 ≤ h0.size) (hn0 : h0.size = n0) :
    MetFree l x (head1 (Jvm.Cond.code x code maxLocals ret :: ws) room_1) (fun a U => a = #[(.int p1), (.int p2), (.int p3), (.int p4), (.int p5)] ∧ Z.Warmed39 U.vm ∧ U.heap = h0) (fun _ _ _ _ _ => True) (fun _ U o U' => ∃ v L, o = .returned v ∧ Q0 Z p1 p2 p3 p4 p5 h0 n0 v U'.heap L ∧ FrameEnd U o U' L 24 448) := by
  refine MetFree.of_bodySF (plainFor_of_name own_pn_com_example_varigraph_varigraph_family_BuilderContainsPinLaw) hisR ?_
  intro p e s m args below meth c s₁ Bd hml0 hP hK
  obtain ⟨rfl, hZ, hh⟩ := hP
  have hx := Bd.exec
  have hby := Bd.bytes
  have hlk := Bd.notSynchronized
  have hml : c.maxLocals = 13 := hml0
  have hown : s.vm.findClass "com/example/varigraph/varigraph/family/BuilderContainsPinLaw" = some m.cls := findClass_of_methodNamed Bd.named
  have hnm := (name_of_methodNamed Bd.named Bd.method).1
  have X0 : Stand p l e room_1 s m #[(.int p1), (.int p2), (.int p3), (.int p4), (.int p5)] below meth c s₁ [] 0 0 := Stand.of_body Bd
  have e0 : s₁.heap = h0 := by rw [← hh, Bd.state]; rfl
  have N0 := Fr.nil n0
  have K0 : Keep h0 h0 [] := Keep.refl _ _
  show Go p e below (KQ s below (Q0 Z p1 p2 p3 p4 p5 h0 n0) 24 448) _
  refine Go.body (T := s₁) (σ := s₁) (g' := (mkF m 0 #[.val (.int p1), .val (.int p2), .val (.int p3), .val (.int p4), .val (.int p5), .unset, .unset, .unset, .unset, .unset, .unset, .unset, .unset] [])) (ef_0 m p1 p2 p3 p4 p5) ?_
  refine g_iloadN X0 hx (hb hby at_0) 1 rfl (v := p1) rfl ?_
  refine g_sipush X0 hx (hb hby at_1) 4 rfl (4095 : Int32) rfl ?_
  obtain ⟨pa, e_pa⟩ : ∃ z, (p1 &&& (4095 : Int32)) = z := ⟨_, rfl⟩
  refine g_iand X0 hx (hb hby at_4) 5 rfl pa e_pa ?_
  refine g_istore X0 hx (hb hby at_5) 7 rfl #[.val (.int p1), .val (.int p2), .val (.int p3), .val (.int p4), .val (.int p5), .val (.int pa), .unset, .unset, .unset, .unset, .unset, .unset, .unset] rfl ?_
  refine g_iloadN X0 hx (hb hby at_7) 8 rfl (v := p2) rfl ?_
  refine g_sipush X0 hx (hb hby at_8) 11 rfl (4095 : Int32) rfl ?_
  obtain ⟨pb, e_pb⟩ : ∃ z, (p2 &&& (4095 : Int32)) = z := ⟨_, rfl⟩
  refine g_iand X0 hx (hb hby at_11) 12 rfl pb e_pb ?_
  refine g_istore X0 hx (hb hby at_12) 14 rfl #[.val (.int p1), .val (.int p2), .val (.int p3), .val (.int p4), .val (.int p5), .val (.int pa), .val (.int pb), .unset, .unset, .unset, .unset, .unset, .unset] rfl ?_
  refine g_iloadN X0 hx (hb hby at_14) 15 rfl (v := p3) rfl ?_
  refine g_sipush X0 hx (hb hby at_15) 18 rfl (4095 : Int32) rfl ?_
  obtain ⟨pd, e_pd⟩ : ∃ z, (p3 &&& (4095 : Int32)) = z := ⟨_, rfl⟩
  refine g_iand X0 hx (hb hby at_18) 19 rfl pd e_pd ?_
  refine g_istore X0 hx (hb hby at_19) 21 rfl #[.val (.int p1), .val (.int p2), .val (.int p3), .val (.int p4), .val (.int p5), .val (.int pa), .val (.int pb), .val (.int pd), .unset, .unset, .unset, .unset, .unset] rfl ?_
  refine g_iload X0 hx (hb hby at_21) 23 rfl (v := p5) rfl ?_
  refine g_iconst X0 hx (hb hby at_23) 24 rfl (2 : Int32) rfl ?_
  refine g_iushr X0 hx (hb hby at_24) 25 rfl (XT.ushr p5 (2 : Int32)) rfl ?_
  refine g_iconst X0 hx (hb hby at_25) 26 rfl (3 : Int32) rfl ?_
  obtain ⟨n, e_n⟩ : ∃ z, ((XT.ushr p5 (2 : Int32)) &&& (3 : Int32)) = z := ⟨_, rfl⟩
  refine g_iand X0 hx (hb hby at_26) 27 rfl n e_n ?_
  refine g_istore X0 hx (hb hby at_27) 29 rfl #[.val (.int p1), .val (.int p2), .val (.int p3), .val (.int p4), .val (.int p5), .val (.int pa), .val (.int pb), .val (.int pd), .val (.int n), .unset, .unset, .unset, .unset] rfl ?_
  refine g_iload X0 hx (hb hby at_29) 31 rfl (v := p5) rfl ?_
  refine g_iconst X0 hx (hb hby at_31) 32 rfl (3 : Int32) rfl ?_
  refine g_iand X0 hx (hb hby at_32) 33 rfl (p5 &&& (3 : Int32)) rfl ?_
  refine g_istore X0 hx (hb hby at_33) 35 rfl #[.val (.int p1), .val (.int p2), .val (.int p3), .val (.int p4), .val (.int p5), .val (.int pa), .val (.int pb), .val (.int pd), .val (.int n), .val (.int (p5 &&& (3 : Int32))), .unset, .unset, .unset] rfl ?_
  have ra : ¬ pa < 0 ∧ pa < 4096 := e_pa ▸ own_rng p1
  have rb : ¬ pb < 0 ∧ pb < 4096 := e_pb ▸ own_rng p2
  have rc : ¬ pd < 0 ∧ pd < 4096 := e_pd ▸ own_rng p3
  have tl : ∀ query : Int32, Go p e below (KQ s below (Q0 Z p1 p2 p3 p4 p5 h0 n0) 24 448) (s₁.setTop (mkF m 86 #[.val (.int p1), .val (.int p2), .val (.int p3), .val (.int p4), .val (.int p5), .val (.int pa), .val (.int pb), .val (.int pd), .val (.int n), .val (.int (p5 &&& (3 : Int32))), .val (.int query), .unset, .unset] [])) := by
    intro query
    obtain ⟨T35, h35, X35, e35, E35, A35, D35, -, st35⟩ := newO X0 hx hZ hown (hw _ (List.mem_of_getElem? (i := 0) rfl)) (hw _ (List.mem_of_getElem? (i := 1) rfl)) (hw _ (List.mem_of_getElem? (i := 2) rfl)) e0 (g := (mkF m 86 #[.val (.int p1), .val (.int p2), .val (.int p3), .val (.int p4), .val (.int p5), .val (.int pa), .val (.int pb), .val (.int pd), .val (.int n), .val (.int (p5 &&& (3 : Int32))), .val (.int query), .unset, .unset] [])) rfl (hb hby at_86) (by decide) (by decide)
    refine Go.st st35 ?_
    obtain ⟨ob, q35⟩ : ∃ z, z = h0.size := ⟨_, rfl⟩
    rw [← q35] at A35 D35 ⊢
    have g_ob : n0 ≤ ob := Nat.le_trans Z0 (Nat.le_of_eq q35.symm)
    have mh_ob : h0.size ≤ ob := Nat.le_trans K0.1 (Nat.le_of_eq q35.symm)
    have F_words_35 : Fld Z h35 ob "com/example/varigraph/varigraph/family/MemberSet$Builder" "words" "[J" .null := D35 (Or.inl (hw _ (List.mem_of_getElem? (i := 11) rfl))) (ty := (.array .long)) (by decide)
    have K35 : Keep h0 h35 [] := Keep.ext K0 E35
    have Zs35 : n0 ≤ h35.size := Nat.le_trans Z0 E35.1
    show Go p e below _ (T35.setTop (mkF m 89 #[.val (.int p1), .val (.int p2), .val (.int p3), .val (.int p4), .val (.int p5), .val (.int pa), .val (.int pb), .val (.int pd), .val (.int n), .val (.int (p5 &&& (3 : Int32))), .val (.int query), .unset, .unset] [(.ref ob)]))
    refine g_dup X35 hx (hb hby at_89) 90 rfl rfl ?_
    obtain ⟨_, _, ⟨T37, L37, k37, n37⟩, -, X37, ⟨Lc37, hQ37, l37, y37, z37⟩, st37⟩ := X35.specialBack hx (y := (⟨"com/example/varigraph/varigraph/family/MemberSet$Builder", "<init>", "()V"⟩ : MethodName)) rfl hown (mvT hZ (hw _ (List.mem_of_getElem? (i := 3) rfl))) (mvT hZ (hw _ (List.mem_of_getElem? (i := 4) rfl))) (mvT hZ (hw _ (List.mem_of_getElem? (i := 5) rfl))) (by decide) (backOf (W := 1) (rm1 l Z a0 hw [] ob .null h35 n0 Zs35 A35 g_ob F_words_35) hZ (hw _ (List.mem_of_getElem? (i := 5) rfl)) (hw _ (List.mem_of_getElem? (i := 2) rfl)) (by decide) (by decide)) (g := (mkF m 90 #[.val (.int p1), .val (.int p2), .val (.int p3), .val (.int p4), .val (.int p5), .val (.int pa), .val (.int pb), .val (.int pd), .val (.int n), .val (.int (p5 &&& (3 : Int32))), .val (.int query), .unset, .unset] [(.ref ob), (.ref ob)])) rfl (by rw [hml]; rfl) (Steps.refl _) (a := ob) (argsL := []) (rest := [(.ref ob)]) (lenOf own_pd2 rfl) rfl (by show 2 * 0 + _ ≤ _; exact Nat.le_of_eq rfl) (hb hby at_90) (fun _ _ => ⟨rfl, e35, (by decide : 1 + 1 ≤ _), (by decide : 1 + 1 ≤ _)⟩)
    dsimp only [Pt.U, Pt.locs, Pt.cells, Pt.slots] at X37 l37 y37 z37 st37 hQ37
    subst l37 y37 z37
    obtain ⟨wq_37, kq_37, rfl, Nq37, Kq37, f37_0, f37_1, f37_2, f37_3⟩ := hQ37
    refine Go.tr st37 ?_
    have N37 := Fr.app N0 Nq37
    have E_ob_38 : Exa Z T37.heap ob "com/example/varigraph/varigraph/family/MemberSet$Builder" := Exa.keep A35 Kq37
    have ne_ob_wq_37 : ob ≠ wq_37 := Nat.ne_of_lt (Nat.lt_of_lt_of_le A35.lt f37_0)
    have g_wq_37 : n0 ≤ wq_37 := Nat.le_trans Zs35 f37_0
    have mh_wq_37 : h0.size ≤ wq_37 := Nat.le_trans K35.1 f37_0
    have K37 : Keep h0 T37.heap [] := Keep.trans K35 Kq37 (allS (Or.inr mh_ob) all0)
    have Zs37 : n0 ≤ T37.heap.size := Nat.le_trans Zs35 Kq37.1
    show Go p e below _ (T37.setTop (mkF m 93 #[.val (.int p1), .val (.int p2), .val (.int p3), .val (.int p4), .val (.int p5), .val (.int pa), .val (.int pb), .val (.int pd), .val (.int n), .val (.int (p5 &&& (3 : Int32))), .val (.int query), .unset, .unset] [(.ref ob)]))
    refine g_astore X37 hx (hb hby at_93) 95 rfl rfl #[.val (.int p1), .val (.int p2), .val (.int p3), .val (.int p4), .val (.int p5), .val (.int pa), .val (.int pb), .val (.int pd), .val (.int n), .val (.int (p5 &&& (3 : Int32))), .val (.int query), .val (.ref ob), .unset] rfl ?_
    refine g_iload X37 hx (hb hby at_95) 97 rfl (v := n) rfl ?_
    refine g_iconst X37 hx (hb hby at_97) 98 rfl (1 : Int32) rfl ?_
    refine g_icmp_lt X37 hx (hb hby at_98) 109 101 (by decide) (by decide) rfl (fun hc98 => ?_) (fun hc98 => ?_)
    · refine g_iload X37 hx (hb hby at_109) 111 rfl (v := n) rfl ?_
      refine g_iconst X37 hx (hb hby at_111) 112 rfl (2 : Int32) rfl ?_
      refine g_icmp_lt X37 hx (hb hby at_112) 123 115 (by decide) (by decide) rfl (fun hc112 => ?_) (fun hc112 => False.elim (hc112 (own_12 hc98)))
      refine g_iload X37 hx (hb hby at_123) 125 rfl (v := n) rfl ?_
      refine g_iconst X37 hx (hb hby at_125) 126 rfl (3 : Int32) rfl ?_
      refine g_icmp_lt X37 hx (hb hby at_126) 137 129 (by decide) (by decide) rfl (fun hc126 => ?_) (fun hc126 => False.elim (hc126 (own_13 hc98)))
      refine g_iload X37 hx (hb hby at_137) 139 rfl (v := n) rfl ?_
      refine g_iconst X37 hx (hb hby at_139) 140 rfl (1 : Int32) rfl ?_
      refine g_icmp_lt X37 hx (hb hby at_140) 150 143 (by decide) (by decide) rfl (fun hc140 => ?_) (fun hc140 => False.elim (hc140 hc98))
      refine g_iload X37 hx (hb hby at_150) 152 rfl (v := n) rfl ?_
      refine g_iconst X37 hx (hb hby at_152) 153 rfl (2 : Int32) rfl ?_
      refine g_icmp_lt X37 hx (hb hby at_153) 163 156 (by decide) (by decide) rfl (fun hc153 => ?_) (fun hc153 => False.elim (hc153 hc112))
      refine g_iload X37 hx (hb hby at_163) 165 rfl (v := n) rfl ?_
      refine g_iconst X37 hx (hb hby at_165) 166 rfl (3 : Int32) rfl ?_
      refine g_icmp_lt X37 hx (hb hby at_166) 180 169 (by decide) (by decide) rfl (fun hc166 => ?_) (fun hc166 => False.elim (hc166 hc126))
      refine g_iconst X37 hx (hb hby at_180) 181 rfl (0 : Int32) rfl ?_
      refine g_istore X37 hx (hb hby at_181) 183 rfl #[.val (.int p1), .val (.int p2), .val (.int p3), .val (.int p4), .val (.int p5), .val (.int pa), .val (.int pb), .val (.int pd), .val (.int n), .val (.int (p5 &&& (3 : Int32))), .val (.int query), .val (.ref ob), .val (.int (0 : Int32))] rfl ?_
      refine g_aload X37 hx (hb hby at_183) 185 rfl (v := (.ref ob)) rfl rfl ?_
      refine g_iload X37 hx (hb hby at_185) 187 rfl (v := query) rfl ?_
      obtain ⟨cq39, kq39, q39a, q39b, q39c⟩ := isOf hZ rfl f37_1
      obtain ⟨_, _, ⟨T39, L39, k39, n39⟩, -, X39, ⟨Lc39, hQ39, l39, y39, z39⟩, st39⟩ := X37.virtualBack hx (y := (⟨"com/example/varigraph/varigraph/family/MemberSet$Builder", "contains", "(I)Z"⟩ : MethodName)) (z := (⟨"com/example/varigraph/varigraph/family/MemberSet$Builder", "contains", "(I)Z"⟩ : MethodName)) hown (mvT hZ (hw _ (List.mem_of_getElem? (i := 12) rfl))) (mvT hZ (hw _ (List.mem_of_getElem? (i := 13) rfl))) (notFace_of_selects (args := #[]) (mvT hZ (hw _ (List.mem_of_getElem? (i := 15) rfl)))) (mvT hZ (hw _ (List.mem_of_getElem? (i := 15) rfl))) (mvT hZ (hw _ (List.mem_of_getElem? (i := 14) rfl))) (by decide) (backOf (W := 0) (rm3 l Z a0 hw [] ob query wq_37 kq_37 1 [] T37.heap n0 Zs37 f37_2 f37_3 (by decide)) hZ (hw _ (List.mem_of_getElem? (i := 16) rfl)) (hw _ (List.mem_of_getElem? (i := 2) rfl)) (by decide) (by decide)) q39a q39c (g := (mkF m 187 #[.val (.int p1), .val (.int p2), .val (.int p3), .val (.int p4), .val (.int p5), .val (.int pa), .val (.int pb), .val (.int pd), .val (.int n), .val (.int (p5 &&& (3 : Int32))), .val (.int query), .val (.ref ob), .val (.int (0 : Int32))] [(.int query), (.ref ob)])) rfl (by rw [hml]; rfl) (Steps.refl _) (argsL := [(.int query)]) (rest := []) (lenOf own_pd3 rfl) rfl (by show 2 * 0 + _ ≤ _; exact Nat.le_of_eq rfl) (hb hby at_187) (fun _ _ => ⟨rfl, rfl, (by decide : 2 + 0 ≤ _), (by decide : 2 + 0 ≤ _)⟩)
      dsimp only [Pt.U, Pt.locs, Pt.cells, Pt.slots] at X39 l39 y39 z39 st39 hQ39
      subst l39 y39 z39
      obtain ⟨r_39, rfl, Nq39, e39, p39_0, p39_1⟩ := hQ39
      refine Go.tr st39 ?_
      have N39 := Fr.app N37 Nq39
      show Go p e below _ (T39.setTop (mkF m 190 #[.val (.int p1), .val (.int p2), .val (.int p3), .val (.int p4), .val (.int p5), .val (.int pa), .val (.int pb), .val (.int pd), .val (.int n), .val (.int (p5 &&& (3 : Int32))), .val (.int query), .val (.ref ob), .val (.int (0 : Int32))] [(.int r_39)]))
      refine g_iload X39 hx (hb hby at_190) 192 rfl (v := (0 : Int32)) rfl ?_
      refine g_icmp_ne X39 hx (hb hby at_192) 199 195 (by decide) (by decide) rfl (fun hc192 => False.elim (hc192 (own_res0 p39_0 p39_1 (fun _ q => nomatch q) (by simp [])))) (fun hc192 => ?_)
      refine g_iconst X39 hx (hb hby at_195) 196 rfl (1 : Int32) rfl ?_
      refine g_goto X39 hx (hb hby at_196) 200 (by decide) (by decide) ?_
      refine Go.retN X39 hx hlk (t := .boolean) Bd.returns (by simp) (hb hby at_200) (by decide) (by decide) ?_
      exact ⟨rfl, N39⟩
    · refine g_aload X37 hx (hb hby at_101) 103 rfl (v := (.ref ob)) rfl rfl ?_
      refine g_iload X37 hx (hb hby at_103) 105 rfl (v := pa) rfl ?_
      obtain ⟨cq40, kq40, q40a, q40b, q40c⟩ := isOf hZ rfl f37_1
      obtain ⟨_, _, ⟨T40, L40, k40, n40⟩, -, X40, ⟨Lc40, hQ40, l40, y40, z40⟩, st40⟩ := X37.virtualBack hx (y := (⟨"com/example/varigraph/varigraph/family/MemberSet$Builder", "add", "(I)Lcom/example/varigraph/varigraph/family/MemberSet$Builder;"⟩ : MethodName)) (z := (⟨"com/example/varigraph/varigraph/family/MemberSet$Builder", "add", "(I)Lcom/example/varigraph/varigraph/family/MemberSet$Builder;"⟩ : MethodName)) hown (mvT hZ (hw _ (List.mem_of_getElem? (i := 17) rfl))) (mvT hZ (hw _ (List.mem_of_getElem? (i := 18) rfl))) (notFace_of_selects (args := #[]) (mvT hZ (hw _ (List.mem_of_getElem? (i := 20) rfl)))) (mvT hZ (hw _ (List.mem_of_getElem? (i := 20) rfl))) (mvT hZ (hw _ (List.mem_of_getElem? (i := 19) rfl))) (by decide) (backOf (W := 0) (rm4 l Z a0 hw [] ob pa wq_37 kq_37 1 [] T37.heap n0 Zs37 f37_1 f37_2 f37_3 g_ob g_wq_37 ne_ob_wq_37 (by decide) ra (fun _ q => nomatch q)) hZ (hw _ (List.mem_of_getElem? (i := 21) rfl)) (hw _ (List.mem_of_getElem? (i := 2) rfl)) (by decide) (by decide)) q40a q40c (g := (mkF m 105 #[.val (.int p1), .val (.int p2), .val (.int p3), .val (.int p4), .val (.int p5), .val (.int pa), .val (.int pb), .val (.int pd), .val (.int n), .val (.int (p5 &&& (3 : Int32))), .val (.int query), .val (.ref ob), .unset] [(.int pa), (.ref ob)])) rfl (by rw [hml]; rfl) (Steps.refl _) (argsL := [(.int pa)]) (rest := []) (lenOf own_pd4 rfl) rfl (by show 2 * 0 + _ ≤ _; exact Nat.le_of_eq rfl) (hb hby at_105) (fun _ _ => ⟨rfl, rfl, (by decide : 2 + 1 ≤ _), (by decide : 2 + 126 ≤ _)⟩)
      dsimp only [Pt.U, Pt.locs, Pt.cells, Pt.slots] at X40 l40 y40 z40 st40 hQ40
      subst l40 y40 z40
      obtain ⟨wq_40, kq_40, Nq_40, rfl, Nq40, Kq40, f40_0, f40_1, f40_2, f40_3, f40_4, p40_0, p40_1⟩ := hQ40
      refine Go.tr st40 ?_
      have N40 := Fr.app N37 Nq40
      have E_ob_41 : Exa Z T40.heap ob "com/example/varigraph/varigraph/family/MemberSet$Builder" := Exa.keep f37_1 Kq40
      have K40 : Keep h0 T40.heap [] := Keep.trans K37 Kq40 (allS (Or.inr mh_ob) (allS (Or.inr mh_wq_37) all0))
      have Zs40 : n0 ≤ T40.heap.size := Nat.le_trans Zs37 Kq40.1
      show Go p e below _ (T40.setTop (mkF m 108 #[.val (.int p1), .val (.int p2), .val (.int p3), .val (.int p4), .val (.int p5), .val (.int pa), .val (.int pb), .val (.int pd), .val (.int n), .val (.int (p5 &&& (3 : Int32))), .val (.int query), .val (.ref ob), .unset] [(.ref ob)]))
      refine g_pop X40 hx (hb hby at_108) 109 rfl rfl ?_
      refine g_iload X40 hx (hb hby at_109) 111 rfl (v := n) rfl ?_
      refine g_iconst X40 hx (hb hby at_111) 112 rfl (2 : Int32) rfl ?_
      refine g_icmp_lt X40 hx (hb hby at_112) 123 115 (by decide) (by decide) rfl (fun hc112 => ?_) (fun hc112 => ?_)
      · refine g_iload X40 hx (hb hby at_123) 125 rfl (v := n) rfl ?_
        refine g_iconst X40 hx (hb hby at_125) 126 rfl (3 : Int32) rfl ?_
        refine g_icmp_lt X40 hx (hb hby at_126) 137 129 (by decide) (by decide) rfl (fun hc126 => ?_) (fun hc126 => False.elim (hc126 (own_23 hc112)))
        refine g_iload X40 hx (hb hby at_137) 139 rfl (v := n) rfl ?_
        refine g_iconst X40 hx (hb hby at_139) 140 rfl (1 : Int32) rfl ?_
        refine g_icmp_lt X40 hx (hb hby at_140) 150 143 (by decide) (by decide) rfl (fun hc140 => False.elim (hc98 hc140)) (fun hc140 => ?_)
        refine g_iload X40 hx (hb hby at_143) 145 rfl (v := query) rfl ?_
        refine g_iload X40 hx (hb hby at_145) 147 rfl (v := pa) rfl ?_
        refine g_icmp_eq X40 hx (hb hby at_147) 176 150 (by decide) (by decide) rfl (fun hc147 => ?_) (fun hc147 => ?_)
        · refine g_iconst X40 hx (hb hby at_176) 177 rfl (1 : Int32) rfl ?_
          refine g_goto X40 hx (hb hby at_177) 181 (by decide) (by decide) ?_
          refine g_istore X40 hx (hb hby at_181) 183 rfl #[.val (.int p1), .val (.int p2), .val (.int p3), .val (.int p4), .val (.int p5), .val (.int pa), .val (.int pb), .val (.int pd), .val (.int n), .val (.int (p5 &&& (3 : Int32))), .val (.int query), .val (.ref ob), .val (.int (1 : Int32))] rfl ?_
          refine g_aload X40 hx (hb hby at_183) 185 rfl (v := (.ref ob)) rfl rfl ?_
          refine g_iload X40 hx (hb hby at_185) 187 rfl (v := query) rfl ?_
          obtain ⟨cq42, kq42, q42a, q42b, q42c⟩ := isOf hZ rfl f40_0
          obtain ⟨_, _, ⟨T42, L42, k42, n42⟩, -, X42, ⟨Lc42, hQ42, l42, y42, z42⟩, st42⟩ := X40.virtualBack hx (y := (⟨"com/example/varigraph/varigraph/family/MemberSet$Builder", "contains", "(I)Z"⟩ : MethodName)) (z := (⟨"com/example/varigraph/varigraph/family/MemberSet$Builder", "contains", "(I)Z"⟩ : MethodName)) hown (mvT hZ (hw _ (List.mem_of_getElem? (i := 12) rfl))) (mvT hZ (hw _ (List.mem_of_getElem? (i := 13) rfl))) (notFace_of_selects (args := #[]) (mvT hZ (hw _ (List.mem_of_getElem? (i := 15) rfl)))) (mvT hZ (hw _ (List.mem_of_getElem? (i := 15) rfl))) (mvT hZ (hw _ (List.mem_of_getElem? (i := 14) rfl))) (by decide) (backOf (W := 0) (rm3 l Z a0 hw [] ob query wq_40 kq_40 Nq_40 (pa :: []) T40.heap n0 Zs40 f40_1 f40_2 p40_0.2) hZ (hw _ (List.mem_of_getElem? (i := 16) rfl)) (hw _ (List.mem_of_getElem? (i := 2) rfl)) (by decide) (by decide)) q42a q42c (g := (mkF m 187 #[.val (.int p1), .val (.int p2), .val (.int p3), .val (.int p4), .val (.int p5), .val (.int pa), .val (.int pb), .val (.int pd), .val (.int n), .val (.int (p5 &&& (3 : Int32))), .val (.int query), .val (.ref ob), .val (.int (1 : Int32))] [(.int query), (.ref ob)])) rfl (by rw [hml]; rfl) (Steps.refl _) (argsL := [(.int query)]) (rest := []) (lenOf own_pd3 rfl) rfl (by show 2 * 0 + _ ≤ _; exact Nat.le_of_eq rfl) (hb hby at_187) (fun _ _ => ⟨rfl, rfl, (by decide : 3 + 0 ≤ _), (by decide : 128 + 0 ≤ _)⟩)
          dsimp only [Pt.U, Pt.locs, Pt.cells, Pt.slots] at X42 l42 y42 z42 st42 hQ42
          subst l42 y42 z42
          obtain ⟨r_42, rfl, Nq42, e42, p42_0, p42_1⟩ := hQ42
          refine Go.tr st42 ?_
          have N42 := Fr.app N40 Nq42
          show Go p e below _ (T42.setTop (mkF m 190 #[.val (.int p1), .val (.int p2), .val (.int p3), .val (.int p4), .val (.int p5), .val (.int pa), .val (.int pb), .val (.int pd), .val (.int n), .val (.int (p5 &&& (3 : Int32))), .val (.int query), .val (.ref ob), .val (.int (1 : Int32))] [(.int r_42)]))
          refine g_iload X42 hx (hb hby at_190) 192 rfl (v := (1 : Int32)) rfl ?_
          refine g_icmp_ne X42 hx (hb hby at_192) 199 195 (by decide) (by decide) rfl (fun hc192 => False.elim (hc192 (own_res1 p42_1 p40_1 (by simp [hc147])))) (fun hc192 => ?_)
          refine g_iconst X42 hx (hb hby at_195) 196 rfl (1 : Int32) rfl ?_
          refine g_goto X42 hx (hb hby at_196) 200 (by decide) (by decide) ?_
          refine Go.retN X42 hx hlk (t := .boolean) Bd.returns (by simp) (hb hby at_200) (by decide) (by decide) ?_
          exact ⟨rfl, N42⟩
        · refine g_iload X40 hx (hb hby at_150) 152 rfl (v := n) rfl ?_
          refine g_iconst X40 hx (hb hby at_152) 153 rfl (2 : Int32) rfl ?_
          refine g_icmp_lt X40 hx (hb hby at_153) 163 156 (by decide) (by decide) rfl (fun hc153 => ?_) (fun hc153 => False.elim (hc153 hc112))
          refine g_iload X40 hx (hb hby at_163) 165 rfl (v := n) rfl ?_
          refine g_iconst X40 hx (hb hby at_165) 166 rfl (3 : Int32) rfl ?_
          refine g_icmp_lt X40 hx (hb hby at_166) 180 169 (by decide) (by decide) rfl (fun hc166 => ?_) (fun hc166 => False.elim (hc166 hc126))
          refine g_iconst X40 hx (hb hby at_180) 181 rfl (0 : Int32) rfl ?_
          refine g_istore X40 hx (hb hby at_181) 183 rfl #[.val (.int p1), .val (.int p2), .val (.int p3), .val (.int p4), .val (.int p5), .val (.int pa), .val (.int pb), .val (.int pd), .val (.int n), .val (.int (p5 &&& (3 : Int32))), .val (.int query), .val (.ref ob), .val (.int (0 : Int32))] rfl ?_
          refine g_aload X40 hx (hb hby at_183) 185 rfl (v := (.ref ob)) rfl rfl ?_
          refine g_iload X40 hx (hb hby at_185) 187 rfl (v := query) rfl ?_
          obtain ⟨cq43, kq43, q43a, q43b, q43c⟩ := isOf hZ rfl f40_0
          obtain ⟨_, _, ⟨T43, L43, k43, n43⟩, -, X43, ⟨Lc43, hQ43, l43, y43, z43⟩, st43⟩ := X40.virtualBack hx (y := (⟨"com/example/varigraph/varigraph/family/MemberSet$Builder", "contains", "(I)Z"⟩ : MethodName)) (z := (⟨"com/example/varigraph/varigraph/family/MemberSet$Builder", "contains", "(I)Z"⟩ : MethodName)) hown (mvT hZ (hw _ (List.mem_of_getElem? (i := 12) rfl))) (mvT hZ (hw _ (List.mem_of_getElem? (i := 13) rfl))) (notFace_of_selects (args := #[]) (mvT hZ (hw _ (List.mem_of_getElem? (i := 15) rfl)))) (mvT hZ (hw _ (List.mem_of_getElem? (i := 15) rfl))) (mvT hZ (hw _ (List.mem_of_getElem? (i := 14) rfl))) (by decide) (backOf (W := 0) (rm3 l Z a0 hw [] ob query wq_40 kq_40 Nq_40 (pa :: []) T40.heap n0 Zs40 f40_1 f40_2 p40_0.2) hZ (hw _ (List.mem_of_getElem? (i := 16) rfl)) (hw _ (List.mem_of_getElem? (i := 2) rfl)) (by decide) (by decide)) q43a q43c (g := (mkF m 187 #[.val (.int p1), .val (.int p2), .val (.int p3), .val (.int p4), .val (.int p5), .val (.int pa), .val (.int pb), .val (.int pd), .val (.int n), .val (.int (p5 &&& (3 : Int32))), .val (.int query), .val (.ref ob), .val (.int (0 : Int32))] [(.int query), (.ref ob)])) rfl (by rw [hml]; rfl) (Steps.refl _) (argsL := [(.int query)]) (rest := []) (lenOf own_pd3 rfl) rfl (by show 2 * 0 + _ ≤ _; exact Nat.le_of_eq rfl) (hb hby at_187) (fun _ _ => ⟨rfl, rfl, (by decide : 3 + 0 ≤ _), (by decide : 128 + 0 ≤ _)⟩)
          dsimp only [Pt.U, Pt.locs, Pt.cells, Pt.slots] at X43 l43 y43 z43 st43 hQ43
          subst l43 y43 z43
          obtain ⟨r_43, rfl, Nq43, e43, p43_0, p43_1⟩ := hQ43
          refine Go.tr st43 ?_
          have N43 := Fr.app N40 Nq43
          show Go p e below _ (T43.setTop (mkF m 190 #[.val (.int p1), .val (.int p2), .val (.int p3), .val (.int p4), .val (.int p5), .val (.int pa), .val (.int pb), .val (.int pd), .val (.int n), .val (.int (p5 &&& (3 : Int32))), .val (.int query), .val (.ref ob), .val (.int (0 : Int32))] [(.int r_43)]))
          refine g_iload X43 hx (hb hby at_190) 192 rfl (v := (0 : Int32)) rfl ?_
          refine g_icmp_ne X43 hx (hb hby at_192) 199 195 (by decide) (by decide) rfl (fun hc192 => False.elim (hc192 (own_res0 p43_0 p43_1 p40_1 (by simp [hc147])))) (fun hc192 => ?_)
          refine g_iconst X43 hx (hb hby at_195) 196 rfl (1 : Int32) rfl ?_
          refine g_goto X43 hx (hb hby at_196) 200 (by decide) (by decide) ?_
          refine Go.retN X43 hx hlk (t := .boolean) Bd.returns (by simp) (hb hby at_200) (by decide) (by decide) ?_
          exact ⟨rfl, N43⟩
      · refine g_aload X40 hx (hb hby at_115) 117 rfl (v := (.ref ob)) rfl rfl ?_
        refine g_iload X40 hx (hb hby at_117) 119 rfl (v := pb) rfl ?_
        obtain ⟨cq44, kq44, q44a, q44b, q44c⟩ := isOf hZ rfl f40_0
        obtain ⟨_, _, ⟨T44, L44, k44, n44⟩, -, X44, ⟨Lc44, hQ44, l44, y44, z44⟩, st44⟩ := X40.virtualBack hx (y := (⟨"com/example/varigraph/varigraph/family/MemberSet$Builder", "add", "(I)Lcom/example/varigraph/varigraph/family/MemberSet$Builder;"⟩ : MethodName)) (z := (⟨"com/example/varigraph/varigraph/family/MemberSet$Builder", "add", "(I)Lcom/example/varigraph/varigraph/family/MemberSet$Builder;"⟩ : MethodName)) hown (mvT hZ (hw _ (List.mem_of_getElem? (i := 17) rfl))) (mvT hZ (hw _ (List.mem_of_getElem? (i := 18) rfl))) (notFace_of_selects (args := #[]) (mvT hZ (hw _ (List.mem_of_getElem? (i := 20) rfl)))) (mvT hZ (hw _ (List.mem_of_getElem? (i := 20) rfl))) (mvT hZ (hw _ (List.mem_of_getElem? (i := 19) rfl))) (by decide) (backOf (W := 0) (rm4 l Z a0 hw [] ob pb wq_40 kq_40 Nq_40 (pa :: []) T40.heap n0 Zs40 f40_0 f40_1 f40_2 g_ob f40_3 f40_4 p40_0 rb p40_1) hZ (hw _ (List.mem_of_getElem? (i := 21) rfl)) (hw _ (List.mem_of_getElem? (i := 2) rfl)) (by decide) (by decide)) q44a q44c (g := (mkF m 119 #[.val (.int p1), .val (.int p2), .val (.int p3), .val (.int p4), .val (.int p5), .val (.int pa), .val (.int pb), .val (.int pd), .val (.int n), .val (.int (p5 &&& (3 : Int32))), .val (.int query), .val (.ref ob), .unset] [(.int pb), (.ref ob)])) rfl (by rw [hml]; rfl) (Steps.refl _) (argsL := [(.int pb)]) (rest := []) (lenOf own_pd4 rfl) rfl (by show 2 * 0 + _ ≤ _; exact Nat.le_of_eq rfl) (hb hby at_119) (fun _ _ => ⟨rfl, rfl, (by decide : 3 + 1 ≤ _), (by decide : 128 + 126 ≤ _)⟩)
        dsimp only [Pt.U, Pt.locs, Pt.cells, Pt.slots] at X44 l44 y44 z44 st44 hQ44
        subst l44 y44 z44
        obtain ⟨wq_44, kq_44, Nq_44, rfl, Nq44, Kq44, f44_0, f44_1, f44_2, f44_3, f44_4, p44_0, p44_1⟩ := hQ44
        refine Go.tr st44 ?_
        have N44 := Fr.app N40 Nq44
        have E_ob_45 : Exa Z T44.heap ob "com/example/varigraph/varigraph/family/MemberSet$Builder" := Exa.keep f40_0 Kq44
        have K44 : Keep h0 T44.heap [] := Keep.trans K40 Kq44 (allS (Or.inr mh_ob) (allS (Or.inr (Nat.le_trans (Nat.le_of_eq hn0) f40_3)) all0))
        have Zs44 : n0 ≤ T44.heap.size := Nat.le_trans Zs40 Kq44.1
        show Go p e below _ (T44.setTop (mkF m 122 #[.val (.int p1), .val (.int p2), .val (.int p3), .val (.int p4), .val (.int p5), .val (.int pa), .val (.int pb), .val (.int pd), .val (.int n), .val (.int (p5 &&& (3 : Int32))), .val (.int query), .val (.ref ob), .unset] [(.ref ob)]))
        refine g_pop X44 hx (hb hby at_122) 123 rfl rfl ?_
        refine g_iload X44 hx (hb hby at_123) 125 rfl (v := n) rfl ?_
        refine g_iconst X44 hx (hb hby at_125) 126 rfl (3 : Int32) rfl ?_
        refine g_icmp_lt X44 hx (hb hby at_126) 137 129 (by decide) (by decide) rfl (fun hc126 => ?_) (fun hc126 => ?_)
        · refine g_iload X44 hx (hb hby at_137) 139 rfl (v := n) rfl ?_
          refine g_iconst X44 hx (hb hby at_139) 140 rfl (1 : Int32) rfl ?_
          refine g_icmp_lt X44 hx (hb hby at_140) 150 143 (by decide) (by decide) rfl (fun hc140 => False.elim (hc98 hc140)) (fun hc140 => ?_)
          refine g_iload X44 hx (hb hby at_143) 145 rfl (v := query) rfl ?_
          refine g_iload X44 hx (hb hby at_145) 147 rfl (v := pa) rfl ?_
          refine g_icmp_eq X44 hx (hb hby at_147) 176 150 (by decide) (by decide) rfl (fun hc147 => ?_) (fun hc147 => ?_)
          · refine g_iconst X44 hx (hb hby at_176) 177 rfl (1 : Int32) rfl ?_
            refine g_goto X44 hx (hb hby at_177) 181 (by decide) (by decide) ?_
            refine g_istore X44 hx (hb hby at_181) 183 rfl #[.val (.int p1), .val (.int p2), .val (.int p3), .val (.int p4), .val (.int p5), .val (.int pa), .val (.int pb), .val (.int pd), .val (.int n), .val (.int (p5 &&& (3 : Int32))), .val (.int query), .val (.ref ob), .val (.int (1 : Int32))] rfl ?_
            refine g_aload X44 hx (hb hby at_183) 185 rfl (v := (.ref ob)) rfl rfl ?_
            refine g_iload X44 hx (hb hby at_185) 187 rfl (v := query) rfl ?_
            obtain ⟨cq46, kq46, q46a, q46b, q46c⟩ := isOf hZ rfl f44_0
            obtain ⟨_, _, ⟨T46, L46, k46, n46⟩, -, X46, ⟨Lc46, hQ46, l46, y46, z46⟩, st46⟩ := X44.virtualBack hx (y := (⟨"com/example/varigraph/varigraph/family/MemberSet$Builder", "contains", "(I)Z"⟩ : MethodName)) (z := (⟨"com/example/varigraph/varigraph/family/MemberSet$Builder", "contains", "(I)Z"⟩ : MethodName)) hown (mvT hZ (hw _ (List.mem_of_getElem? (i := 12) rfl))) (mvT hZ (hw _ (List.mem_of_getElem? (i := 13) rfl))) (notFace_of_selects (args := #[]) (mvT hZ (hw _ (List.mem_of_getElem? (i := 15) rfl)))) (mvT hZ (hw _ (List.mem_of_getElem? (i := 15) rfl))) (mvT hZ (hw _ (List.mem_of_getElem? (i := 14) rfl))) (by decide) (backOf (W := 0) (rm3 l Z a0 hw [] ob query wq_44 kq_44 Nq_44 (pb :: (pa :: [])) T44.heap n0 Zs44 f44_1 f44_2 p44_0.2) hZ (hw _ (List.mem_of_getElem? (i := 16) rfl)) (hw _ (List.mem_of_getElem? (i := 2) rfl)) (by decide) (by decide)) q46a q46c (g := (mkF m 187 #[.val (.int p1), .val (.int p2), .val (.int p3), .val (.int p4), .val (.int p5), .val (.int pa), .val (.int pb), .val (.int pd), .val (.int n), .val (.int (p5 &&& (3 : Int32))), .val (.int query), .val (.ref ob), .val (.int (1 : Int32))] [(.int query), (.ref ob)])) rfl (by rw [hml]; rfl) (Steps.refl _) (argsL := [(.int query)]) (rest := []) (lenOf own_pd3 rfl) rfl (by show 2 * 0 + _ ≤ _; exact Nat.le_of_eq rfl) (hb hby at_187) (fun _ _ => ⟨rfl, rfl, (by decide : 4 + 0 ≤ _), (by decide : 254 + 0 ≤ _)⟩)
            dsimp only [Pt.U, Pt.locs, Pt.cells, Pt.slots] at X46 l46 y46 z46 st46 hQ46
            subst l46 y46 z46
            obtain ⟨r_46, rfl, Nq46, e46, p46_0, p46_1⟩ := hQ46
            refine Go.tr st46 ?_
            have N46 := Fr.app N44 Nq46
            show Go p e below _ (T46.setTop (mkF m 190 #[.val (.int p1), .val (.int p2), .val (.int p3), .val (.int p4), .val (.int p5), .val (.int pa), .val (.int pb), .val (.int pd), .val (.int n), .val (.int (p5 &&& (3 : Int32))), .val (.int query), .val (.ref ob), .val (.int (1 : Int32))] [(.int r_46)]))
            refine g_iload X46 hx (hb hby at_190) 192 rfl (v := (1 : Int32)) rfl ?_
            refine g_icmp_ne X46 hx (hb hby at_192) 199 195 (by decide) (by decide) rfl (fun hc192 => False.elim (hc192 (own_res1 p46_1 p44_1 (by simp [hc147])))) (fun hc192 => ?_)
            refine g_iconst X46 hx (hb hby at_195) 196 rfl (1 : Int32) rfl ?_
            refine g_goto X46 hx (hb hby at_196) 200 (by decide) (by decide) ?_
            refine Go.retN X46 hx hlk (t := .boolean) Bd.returns (by simp) (hb hby at_200) (by decide) (by decide) ?_
            exact ⟨rfl, N46⟩
          · refine g_iload X44 hx (hb hby at_150) 152 rfl (v := n) rfl ?_
            refine g_iconst X44 hx (hb hby at_152) 153 rfl (2 : Int32) rfl ?_
            refine g_icmp_lt X44 hx (hb hby at_153) 163 156 (by decide) (by decide) rfl (fun hc153 => False.elim (hc112 hc153)) (fun hc153 => ?_)
            refine g_iload X44 hx (hb hby at_156) 158 rfl (v := query) rfl ?_
            refine g_iload X44 hx (hb hby at_158) 160 rfl (v := pb) rfl ?_
            refine g_icmp_eq X44 hx (hb hby at_160) 176 163 (by decide) (by decide) rfl (fun hc160 => ?_) (fun hc160 => ?_)
            · refine g_iconst X44 hx (hb hby at_176) 177 rfl (1 : Int32) rfl ?_
              refine g_goto X44 hx (hb hby at_177) 181 (by decide) (by decide) ?_
              refine g_istore X44 hx (hb hby at_181) 183 rfl #[.val (.int p1), .val (.int p2), .val (.int p3), .val (.int p4), .val (.int p5), .val (.int pa), .val (.int pb), .val (.int pd), .val (.int n), .val (.int (p5 &&& (3 : Int32))), .val (.int query), .val (.ref ob), .val (.int (1 : Int32))] rfl ?_
              refine g_aload X44 hx (hb hby at_183) 185 rfl (v := (.ref ob)) rfl rfl ?_
              refine g_iload X44 hx (hb hby at_185) 187 rfl (v := query) rfl ?_
              obtain ⟨cq47, kq47, q47a, q47b, q47c⟩ := isOf hZ rfl f44_0
              obtain ⟨_, _, ⟨T47, L47, k47, n47⟩, -, X47, ⟨Lc47, hQ47, l47, y47, z47⟩, st47⟩ := X44.virtualBack hx (y := (⟨"com/example/varigraph/varigraph/family/MemberSet$Builder", "contains", "(I)Z"⟩ : MethodName)) (z := (⟨"com/example/varigraph/varigraph/family/MemberSet$Builder", "contains", "(I)Z"⟩ : MethodName)) hown (mvT hZ (hw _ (List.mem_of_getElem? (i := 12) rfl))) (mvT hZ (hw _ (List.mem_of_getElem? (i := 13) rfl))) (notFace_of_selects (args := #[]) (mvT hZ (hw _ (List.mem_of_getElem? (i := 15) rfl)))) (mvT hZ (hw _ (List.mem_of_getElem? (i := 15) rfl))) (mvT hZ (hw _ (List.mem_of_getElem? (i := 14) rfl))) (by decide) (backOf (W := 0) (rm3 l Z a0 hw [] ob query wq_44 kq_44 Nq_44 (pb :: (pa :: [])) T44.heap n0 Zs44 f44_1 f44_2 p44_0.2) hZ (hw _ (List.mem_of_getElem? (i := 16) rfl)) (hw _ (List.mem_of_getElem? (i := 2) rfl)) (by decide) (by decide)) q47a q47c (g := (mkF m 187 #[.val (.int p1), .val (.int p2), .val (.int p3), .val (.int p4), .val (.int p5), .val (.int pa), .val (.int pb), .val (.int pd), .val (.int n), .val (.int (p5 &&& (3 : Int32))), .val (.int query), .val (.ref ob), .val (.int (1 : Int32))] [(.int query), (.ref ob)])) rfl (by rw [hml]; rfl) (Steps.refl _) (argsL := [(.int query)]) (rest := []) (lenOf own_pd3 rfl) rfl (by show 2 * 0 + _ ≤ _; exact Nat.le_of_eq rfl) (hb hby at_187) (fun _ _ => ⟨rfl, rfl, (by decide : 4 + 0 ≤ _), (by decide : 254 + 0 ≤ _)⟩)
              dsimp only [Pt.U, Pt.locs, Pt.cells, Pt.slots] at X47 l47 y47 z47 st47 hQ47
              subst l47 y47 z47
              obtain ⟨r_47, rfl, Nq47, e47, p47_0, p47_1⟩ := hQ47
              refine Go.tr st47 ?_
              have N47 := Fr.app N44 Nq47
              show Go p e below _ (T47.setTop (mkF m 190 #[.val (.int p1), .val (.int p2), .val (.int p3), .val (.int p4), .val (.int p5), .val (.int pa), .val (.int pb), .val (.int pd), .val (.int n), .val (.int (p5 &&& (3 : Int32))), .val (.int query), .val (.ref ob), .val (.int (1 : Int32))] [(.int r_47)]))
              refine g_iload X47 hx (hb hby at_190) 192 rfl (v := (1 : Int32)) rfl ?_
              refine g_icmp_ne X47 hx (hb hby at_192) 199 195 (by decide) (by decide) rfl (fun hc192 => False.elim (hc192 (own_res1 p47_1 p44_1 (by simp [hc147, hc160])))) (fun hc192 => ?_)
              refine g_iconst X47 hx (hb hby at_195) 196 rfl (1 : Int32) rfl ?_
              refine g_goto X47 hx (hb hby at_196) 200 (by decide) (by decide) ?_
              refine Go.retN X47 hx hlk (t := .boolean) Bd.returns (by simp) (hb hby at_200) (by decide) (by decide) ?_
              exact ⟨rfl, N47⟩
            · refine g_iload X44 hx (hb hby at_163) 165 rfl (v := n) rfl ?_
              refine g_iconst X44 hx (hb hby at_165) 166 rfl (3 : Int32) rfl ?_
              refine g_icmp_lt X44 hx (hb hby at_166) 180 169 (by decide) (by decide) rfl (fun hc166 => ?_) (fun hc166 => False.elim (hc166 hc126))
              refine g_iconst X44 hx (hb hby at_180) 181 rfl (0 : Int32) rfl ?_
              refine g_istore X44 hx (hb hby at_181) 183 rfl #[.val (.int p1), .val (.int p2), .val (.int p3), .val (.int p4), .val (.int p5), .val (.int pa), .val (.int pb), .val (.int pd), .val (.int n), .val (.int (p5 &&& (3 : Int32))), .val (.int query), .val (.ref ob), .val (.int (0 : Int32))] rfl ?_
              refine g_aload X44 hx (hb hby at_183) 185 rfl (v := (.ref ob)) rfl rfl ?_
              refine g_iload X44 hx (hb hby at_185) 187 rfl (v := query) rfl ?_
              obtain ⟨cq48, kq48, q48a, q48b, q48c⟩ := isOf hZ rfl f44_0
              obtain ⟨_, _, ⟨T48, L48, k48, n48⟩, -, X48, ⟨Lc48, hQ48, l48, y48, z48⟩, st48⟩ := X44.virtualBack hx (y := (⟨"com/example/varigraph/varigraph/family/MemberSet$Builder", "contains", "(I)Z"⟩ : MethodName)) (z := (⟨"com/example/varigraph/varigraph/family/MemberSet$Builder", "contains", "(I)Z"⟩ : MethodName)) hown (mvT hZ (hw _ (List.mem_of_getElem? (i := 12) rfl))) (mvT hZ (hw _ (List.mem_of_getElem? (i := 13) rfl))) (notFace_of_selects (args := #[]) (mvT hZ (hw _ (List.mem_of_getElem? (i := 15) rfl)))) (mvT hZ (hw _ (List.mem_of_getElem? (i := 15) rfl))) (mvT hZ (hw _ (List.mem_of_getElem? (i := 14) rfl))) (by decide) (backOf (W := 0) (rm3 l Z a0 hw [] ob query wq_44 kq_44 Nq_44 (pb :: (pa :: [])) T44.heap n0 Zs44 f44_1 f44_2 p44_0.2) hZ (hw _ (List.mem_of_getElem? (i := 16) rfl)) (hw _ (List.mem_of_getElem? (i := 2) rfl)) (by decide) (by decide)) q48a q48c (g := (mkF m 187 #[.val (.int p1), .val (.int p2), .val (.int p3), .val (.int p4), .val (.int p5), .val (.int pa), .val (.int pb), .val (.int pd), .val (.int n), .val (.int (p5 &&& (3 : Int32))), .val (.int query), .val (.ref ob), .val (.int (0 : Int32))] [(.int query), (.ref ob)])) rfl (by rw [hml]; rfl) (Steps.refl _) (argsL := [(.int query)]) (rest := []) (lenOf own_pd3 rfl) rfl (by show 2 * 0 + _ ≤ _; exact Nat.le_of_eq rfl) (hb hby at_187) (fun _ _ => ⟨rfl, rfl, (by decide : 4 + 0 ≤ _), (by decide : 254 + 0 ≤ _)⟩)
              dsimp only [Pt.U, Pt.locs, Pt.cells, Pt.slots] at X48 l48 y48 z48 st48 hQ48
              subst l48 y48 z48
              obtain ⟨r_48, rfl, Nq48, e48, p48_0, p48_1⟩ := hQ48
              refine Go.tr st48 ?_
              have N48 := Fr.app N44 Nq48
              show Go p e below _ (T48.setTop (mkF m 190 #[.val (.int p1), .val (.int p2), .val (.int p3), .val (.int p4), .val (.int p5), .val (.int pa), .val (.int pb), .val (.int pd), .val (.int n), .val (.int (p5 &&& (3 : Int32))), .val (.int query), .val (.ref ob), .val (.int (0 : Int32))] [(.int r_48)]))
              refine g_iload X48 hx (hb hby at_190) 192 rfl (v := (0 : Int32)) rfl ?_
              refine g_icmp_ne X48 hx (hb hby at_192) 199 195 (by decide) (by decide) rfl (fun hc192 => False.elim (hc192 (own_res0 p48_0 p48_1 p44_1 (by simp [hc147, hc160])))) (fun hc192 => ?_)
              refine g_iconst X48 hx (hb hby at_195) 196 rfl (1 : Int32) rfl ?_
              refine g_goto X48 hx (hb hby at_196) 200 (by decide) (by decide) ?_
              refine Go.retN X48 hx hlk (t := .boolean) Bd.returns (by simp) (hb hby at_200) (by decide) (by decide) ?_
              exact ⟨rfl, N48⟩
        · refine g_aload X44 hx (hb hby at_129) 131 rfl (v := (.ref ob)) rfl rfl ?_
          refine g_iload X44 hx (hb hby at_131) 133 rfl (v := pd) rfl ?_
          obtain ⟨cq49, kq49, q49a, q49b, q49c⟩ := isOf hZ rfl f44_0
          obtain ⟨_, _, ⟨T49, L49, k49, n49⟩, -, X49, ⟨Lc49, hQ49, l49, y49, z49⟩, st49⟩ := X44.virtualBack hx (y := (⟨"com/example/varigraph/varigraph/family/MemberSet$Builder", "add", "(I)Lcom/example/varigraph/varigraph/family/MemberSet$Builder;"⟩ : MethodName)) (z := (⟨"com/example/varigraph/varigraph/family/MemberSet$Builder", "add", "(I)Lcom/example/varigraph/varigraph/family/MemberSet$Builder;"⟩ : MethodName)) hown (mvT hZ (hw _ (List.mem_of_getElem? (i := 17) rfl))) (mvT hZ (hw _ (List.mem_of_getElem? (i := 18) rfl))) (notFace_of_selects (args := #[]) (mvT hZ (hw _ (List.mem_of_getElem? (i := 20) rfl)))) (mvT hZ (hw _ (List.mem_of_getElem? (i := 20) rfl))) (mvT hZ (hw _ (List.mem_of_getElem? (i := 19) rfl))) (by decide) (backOf (W := 0) (rm4 l Z a0 hw [] ob pd wq_44 kq_44 Nq_44 (pb :: (pa :: [])) T44.heap n0 Zs44 f44_0 f44_1 f44_2 g_ob f44_3 f44_4 p44_0 rc p44_1) hZ (hw _ (List.mem_of_getElem? (i := 21) rfl)) (hw _ (List.mem_of_getElem? (i := 2) rfl)) (by decide) (by decide)) q49a q49c (g := (mkF m 133 #[.val (.int p1), .val (.int p2), .val (.int p3), .val (.int p4), .val (.int p5), .val (.int pa), .val (.int pb), .val (.int pd), .val (.int n), .val (.int (p5 &&& (3 : Int32))), .val (.int query), .val (.ref ob), .unset] [(.int pd), (.ref ob)])) rfl (by rw [hml]; rfl) (Steps.refl _) (argsL := [(.int pd)]) (rest := []) (lenOf own_pd4 rfl) rfl (by show 2 * 0 + _ ≤ _; exact Nat.le_of_eq rfl) (hb hby at_133) (fun _ _ => ⟨rfl, rfl, (by decide : 4 + 1 ≤ _), (by decide : 254 + 126 ≤ _)⟩)
          dsimp only [Pt.U, Pt.locs, Pt.cells, Pt.slots] at X49 l49 y49 z49 st49 hQ49
          subst l49 y49 z49
          obtain ⟨wq_49, kq_49, Nq_49, rfl, Nq49, Kq49, f49_0, f49_1, f49_2, f49_3, f49_4, p49_0, p49_1⟩ := hQ49
          refine Go.tr st49 ?_
          have N49 := Fr.app N44 Nq49
          have E_ob_50 : Exa Z T49.heap ob "com/example/varigraph/varigraph/family/MemberSet$Builder" := Exa.keep f44_0 Kq49
          have K49 : Keep h0 T49.heap [] := Keep.trans K44 Kq49 (allS (Or.inr mh_ob) (allS (Or.inr (Nat.le_trans (Nat.le_of_eq hn0) f44_3)) all0))
          have Zs49 : n0 ≤ T49.heap.size := Nat.le_trans Zs44 Kq49.1
          show Go p e below _ (T49.setTop (mkF m 136 #[.val (.int p1), .val (.int p2), .val (.int p3), .val (.int p4), .val (.int p5), .val (.int pa), .val (.int pb), .val (.int pd), .val (.int n), .val (.int (p5 &&& (3 : Int32))), .val (.int query), .val (.ref ob), .unset] [(.ref ob)]))
          refine g_pop X49 hx (hb hby at_136) 137 rfl rfl ?_
          refine g_iload X49 hx (hb hby at_137) 139 rfl (v := n) rfl ?_
          refine g_iconst X49 hx (hb hby at_139) 140 rfl (1 : Int32) rfl ?_
          refine g_icmp_lt X49 hx (hb hby at_140) 150 143 (by decide) (by decide) rfl (fun hc140 => False.elim (hc98 hc140)) (fun hc140 => ?_)
          refine g_iload X49 hx (hb hby at_143) 145 rfl (v := query) rfl ?_
          refine g_iload X49 hx (hb hby at_145) 147 rfl (v := pa) rfl ?_
          refine g_icmp_eq X49 hx (hb hby at_147) 176 150 (by decide) (by decide) rfl (fun hc147 => ?_) (fun hc147 => ?_)
          · refine g_iconst X49 hx (hb hby at_176) 177 rfl (1 : Int32) rfl ?_
            refine g_goto X49 hx (hb hby at_177) 181 (by decide) (by decide) ?_
            refine g_istore X49 hx (hb hby at_181) 183 rfl #[.val (.int p1), .val (.int p2), .val (.int p3), .val (.int p4), .val (.int p5), .val (.int pa), .val (.int pb), .val (.int pd), .val (.int n), .val (.int (p5 &&& (3 : Int32))), .val (.int query), .val (.ref ob), .val (.int (1 : Int32))] rfl ?_
            refine g_aload X49 hx (hb hby at_183) 185 rfl (v := (.ref ob)) rfl rfl ?_
            refine g_iload X49 hx (hb hby at_185) 187 rfl (v := query) rfl ?_
            obtain ⟨cq51, kq51, q51a, q51b, q51c⟩ := isOf hZ rfl f49_0
            obtain ⟨_, _, ⟨T51, L51, k51, n51⟩, -, X51, ⟨Lc51, hQ51, l51, y51, z51⟩, st51⟩ := X49.virtualBack hx (y := (⟨"com/example/varigraph/varigraph/family/MemberSet$Builder", "contains", "(I)Z"⟩ : MethodName)) (z := (⟨"com/example/varigraph/varigraph/family/MemberSet$Builder", "contains", "(I)Z"⟩ : MethodName)) hown (mvT hZ (hw _ (List.mem_of_getElem? (i := 12) rfl))) (mvT hZ (hw _ (List.mem_of_getElem? (i := 13) rfl))) (notFace_of_selects (args := #[]) (mvT hZ (hw _ (List.mem_of_getElem? (i := 15) rfl)))) (mvT hZ (hw _ (List.mem_of_getElem? (i := 15) rfl))) (mvT hZ (hw _ (List.mem_of_getElem? (i := 14) rfl))) (by decide) (backOf (W := 0) (rm3 l Z a0 hw [] ob query wq_49 kq_49 Nq_49 (pd :: (pb :: (pa :: []))) T49.heap n0 Zs49 f49_1 f49_2 p49_0.2) hZ (hw _ (List.mem_of_getElem? (i := 16) rfl)) (hw _ (List.mem_of_getElem? (i := 2) rfl)) (by decide) (by decide)) q51a q51c (g := (mkF m 187 #[.val (.int p1), .val (.int p2), .val (.int p3), .val (.int p4), .val (.int p5), .val (.int pa), .val (.int pb), .val (.int pd), .val (.int n), .val (.int (p5 &&& (3 : Int32))), .val (.int query), .val (.ref ob), .val (.int (1 : Int32))] [(.int query), (.ref ob)])) rfl (by rw [hml]; rfl) (Steps.refl _) (argsL := [(.int query)]) (rest := []) (lenOf own_pd3 rfl) rfl (by show 2 * 0 + _ ≤ _; exact Nat.le_of_eq rfl) (hb hby at_187) (fun _ _ => ⟨rfl, rfl, (by decide : 5 + 0 ≤ _), (by decide : 380 + 0 ≤ _)⟩)
            dsimp only [Pt.U, Pt.locs, Pt.cells, Pt.slots] at X51 l51 y51 z51 st51 hQ51
            subst l51 y51 z51
            obtain ⟨r_51, rfl, Nq51, e51, p51_0, p51_1⟩ := hQ51
            refine Go.tr st51 ?_
            have N51 := Fr.app N49 Nq51
            show Go p e below _ (T51.setTop (mkF m 190 #[.val (.int p1), .val (.int p2), .val (.int p3), .val (.int p4), .val (.int p5), .val (.int pa), .val (.int pb), .val (.int pd), .val (.int n), .val (.int (p5 &&& (3 : Int32))), .val (.int query), .val (.ref ob), .val (.int (1 : Int32))] [(.int r_51)]))
            refine g_iload X51 hx (hb hby at_190) 192 rfl (v := (1 : Int32)) rfl ?_
            refine g_icmp_ne X51 hx (hb hby at_192) 199 195 (by decide) (by decide) rfl (fun hc192 => False.elim (hc192 (own_res1 p51_1 p49_1 (by simp [hc147])))) (fun hc192 => ?_)
            refine g_iconst X51 hx (hb hby at_195) 196 rfl (1 : Int32) rfl ?_
            refine g_goto X51 hx (hb hby at_196) 200 (by decide) (by decide) ?_
            refine Go.retN X51 hx hlk (t := .boolean) Bd.returns (by simp) (hb hby at_200) (by decide) (by decide) ?_
            exact ⟨rfl, N51⟩
          · refine g_iload X49 hx (hb hby at_150) 152 rfl (v := n) rfl ?_
            refine g_iconst X49 hx (hb hby at_152) 153 rfl (2 : Int32) rfl ?_
            refine g_icmp_lt X49 hx (hb hby at_153) 163 156 (by decide) (by decide) rfl (fun hc153 => False.elim (hc112 hc153)) (fun hc153 => ?_)
            refine g_iload X49 hx (hb hby at_156) 158 rfl (v := query) rfl ?_
            refine g_iload X49 hx (hb hby at_158) 160 rfl (v := pb) rfl ?_
            refine g_icmp_eq X49 hx (hb hby at_160) 176 163 (by decide) (by decide) rfl (fun hc160 => ?_) (fun hc160 => ?_)
            · refine g_iconst X49 hx (hb hby at_176) 177 rfl (1 : Int32) rfl ?_
              refine g_goto X49 hx (hb hby at_177) 181 (by decide) (by decide) ?_
              refine g_istore X49 hx (hb hby at_181) 183 rfl #[.val (.int p1), .val (.int p2), .val (.int p3), .val (.int p4), .val (.int p5), .val (.int pa), .val (.int pb), .val (.int pd), .val (.int n), .val (.int (p5 &&& (3 : Int32))), .val (.int query), .val (.ref ob), .val (.int (1 : Int32))] rfl ?_
              refine g_aload X49 hx (hb hby at_183) 185 rfl (v := (.ref ob)) rfl rfl ?_
              refine g_iload X49 hx (hb hby at_185) 187 rfl (v := query) rfl ?_
              obtain ⟨cq52, kq52, q52a, q52b, q52c⟩ := isOf hZ rfl f49_0
              obtain ⟨_, _, ⟨T52, L52, k52, n52⟩, -, X52, ⟨Lc52, hQ52, l52, y52, z52⟩, st52⟩ := X49.virtualBack hx (y := (⟨"com/example/varigraph/varigraph/family/MemberSet$Builder", "contains", "(I)Z"⟩ : MethodName)) (z := (⟨"com/example/varigraph/varigraph/family/MemberSet$Builder", "contains", "(I)Z"⟩ : MethodName)) hown (mvT hZ (hw _ (List.mem_of_getElem? (i := 12) rfl))) (mvT hZ (hw _ (List.mem_of_getElem? (i := 13) rfl))) (notFace_of_selects (args := #[]) (mvT hZ (hw _ (List.mem_of_getElem? (i := 15) rfl)))) (mvT hZ (hw _ (List.mem_of_getElem? (i := 15) rfl))) (mvT hZ (hw _ (List.mem_of_getElem? (i := 14) rfl))) (by decide) (backOf (W := 0) (rm3 l Z a0 hw [] ob query wq_49 kq_49 Nq_49 (pd :: (pb :: (pa :: []))) T49.heap n0 Zs49 f49_1 f49_2 p49_0.2) hZ (hw _ (List.mem_of_getElem? (i := 16) rfl)) (hw _ (List.mem_of_getElem? (i := 2) rfl)) (by decide) (by decide)) q52a q52c (g := (mkF m 187 #[.val (.int p1), .val (.int p2), .val (.int p3), .val (.int p4), .val (.int p5), .val (.int pa), .val (.int pb), .val (.int pd), .val (.int n), .val (.int (p5 &&& (3 : Int32))), .val (.int query), .val (.ref ob), .val (.int (1 : Int32))] [(.int query), (.ref ob)])) rfl (by rw [hml]; rfl) (Steps.refl _) (argsL := [(.int query)]) (rest := []) (lenOf own_pd3 rfl) rfl (by show 2 * 0 + _ ≤ _; exact Nat.le_of_eq rfl) (hb hby at_187) (fun _ _ => ⟨rfl, rfl, (by decide : 5 + 0 ≤ _), (by decide : 380 + 0 ≤ _)⟩)
              dsimp only [Pt.U, Pt.locs, Pt.cells, Pt.slots] at X52 l52 y52 z52 st52 hQ52
              subst l52 y52 z52
              obtain ⟨r_52, rfl, Nq52, e52, p52_0, p52_1⟩ := hQ52
              refine Go.tr st52 ?_
              have N52 := Fr.app N49 Nq52
              show Go p e below _ (T52.setTop (mkF m 190 #[.val (.int p1), .val (.int p2), .val (.int p3), .val (.int p4), .val (.int p5), .val (.int pa), .val (.int pb), .val (.int pd), .val (.int n), .val (.int (p5 &&& (3 : Int32))), .val (.int query), .val (.ref ob), .val (.int (1 : Int32))] [(.int r_52)]))
              refine g_iload X52 hx (hb hby at_190) 192 rfl (v := (1 : Int32)) rfl ?_
              refine g_icmp_ne X52 hx (hb hby at_192) 199 195 (by decide) (by decide) rfl (fun hc192 => False.elim (hc192 (own_res1 p52_1 p49_1 (by simp [hc147, hc160])))) (fun hc192 => ?_)
              refine g_iconst X52 hx (hb hby at_195) 196 rfl (1 : Int32) rfl ?_
              refine g_goto X52 hx (hb hby at_196) 200 (by decide) (by decide) ?_
              refine Go.retN X52 hx hlk (t := .boolean) Bd.returns (by simp) (hb hby at_200) (by decide) (by decide) ?_
              exact ⟨rfl, N52⟩
            · refine g_iload X49 hx (hb hby at_163) 165 rfl (v := n) rfl ?_
              refine g_iconst X49 hx (hb hby at_165) 166 rfl (3 : Int32) rfl ?_
              refine g_icmp_lt X49 hx (hb hby at_166) 180 169 (by decide) (by decide) rfl (fun hc166 => False.elim (hc126 hc166)) (fun hc166 => ?_)
              refine g_iload X49 hx (hb hby at_169) 171 rfl (v := query) rfl ?_
              refine g_iload X49 hx (hb hby at_171) 173 rfl (v := pd) rfl ?_
              refine g_icmp_ne X49 hx (hb hby at_173) 180 176 (by decide) (by decide) rfl (fun hc173 => ?_) (fun hc173 => ?_)
              · refine g_iconst X49 hx (hb hby at_180) 181 rfl (0 : Int32) rfl ?_
                refine g_istore X49 hx (hb hby at_181) 183 rfl #[.val (.int p1), .val (.int p2), .val (.int p3), .val (.int p4), .val (.int p5), .val (.int pa), .val (.int pb), .val (.int pd), .val (.int n), .val (.int (p5 &&& (3 : Int32))), .val (.int query), .val (.ref ob), .val (.int (0 : Int32))] rfl ?_
                refine g_aload X49 hx (hb hby at_183) 185 rfl (v := (.ref ob)) rfl rfl ?_
                refine g_iload X49 hx (hb hby at_185) 187 rfl (v := query) rfl ?_
                obtain ⟨cq53, kq53, q53a, q53b, q53c⟩ := isOf hZ rfl f49_0
                obtain ⟨_, _, ⟨T53, L53, k53, n53⟩, -, X53, ⟨Lc53, hQ53, l53, y53, z53⟩, st53⟩ := X49.virtualBack hx (y := (⟨"com/example/varigraph/varigraph/family/MemberSet$Builder", "contains", "(I)Z"⟩ : MethodName)) (z := (⟨"com/example/varigraph/varigraph/family/MemberSet$Builder", "contains", "(I)Z"⟩ : MethodName)) hown (mvT hZ (hw _ (List.mem_of_getElem? (i := 12) rfl))) (mvT hZ (hw _ (List.mem_of_getElem? (i := 13) rfl))) (notFace_of_selects (args := #[]) (mvT hZ (hw _ (List.mem_of_getElem? (i := 15) rfl)))) (mvT hZ (hw _ (List.mem_of_getElem? (i := 15) rfl))) (mvT hZ (hw _ (List.mem_of_getElem? (i := 14) rfl))) (by decide) (backOf (W := 0) (rm3 l Z a0 hw [] ob query wq_49 kq_49 Nq_49 (pd :: (pb :: (pa :: []))) T49.heap n0 Zs49 f49_1 f49_2 p49_0.2) hZ (hw _ (List.mem_of_getElem? (i := 16) rfl)) (hw _ (List.mem_of_getElem? (i := 2) rfl)) (by decide) (by decide)) q53a q53c (g := (mkF m 187 #[.val (.int p1), .val (.int p2), .val (.int p3), .val (.int p4), .val (.int p5), .val (.int pa), .val (.int pb), .val (.int pd), .val (.int n), .val (.int (p5 &&& (3 : Int32))), .val (.int query), .val (.ref ob), .val (.int (0 : Int32))] [(.int query), (.ref ob)])) rfl (by rw [hml]; rfl) (Steps.refl _) (argsL := [(.int query)]) (rest := []) (lenOf own_pd3 rfl) rfl (by show 2 * 0 + _ ≤ _; exact Nat.le_of_eq rfl) (hb hby at_187) (fun _ _ => ⟨rfl, rfl, (by decide : 5 + 0 ≤ _), (by decide : 380 + 0 ≤ _)⟩)
                dsimp only [Pt.U, Pt.locs, Pt.cells, Pt.slots] at X53 l53 y53 z53 st53 hQ53
                subst l53 y53 z53
                obtain ⟨r_53, rfl, Nq53, e53, p53_0, p53_1⟩ := hQ53
                refine Go.tr st53 ?_
                have N53 := Fr.app N49 Nq53
                show Go p e below _ (T53.setTop (mkF m 190 #[.val (.int p1), .val (.int p2), .val (.int p3), .val (.int p4), .val (.int p5), .val (.int pa), .val (.int pb), .val (.int pd), .val (.int n), .val (.int (p5 &&& (3 : Int32))), .val (.int query), .val (.ref ob), .val (.int (0 : Int32))] [(.int r_53)]))
                refine g_iload X53 hx (hb hby at_190) 192 rfl (v := (0 : Int32)) rfl ?_
                refine g_icmp_ne X53 hx (hb hby at_192) 199 195 (by decide) (by decide) rfl (fun hc192 => False.elim (hc192 (own_res0 p53_0 p53_1 p49_1 (by simp [hc147, hc160, hc173])))) (fun hc192 => ?_)
                refine g_iconst X53 hx (hb hby at_195) 196 rfl (1 : Int32) rfl ?_
                refine g_goto X53 hx (hb hby at_196) 200 (by decide) (by decide) ?_
                refine Go.retN X53 hx hlk (t := .boolean) Bd.returns (by simp) (hb hby at_200) (by decide) (by decide) ?_
                exact ⟨rfl, N53⟩
              · refine g_iconst X49 hx (hb hby at_176) 177 rfl (1 : Int32) rfl ?_
                refine g_goto X49 hx (hb hby at_177) 181 (by decide) (by decide) ?_
                refine g_istore X49 hx (hb hby at_181) 183 rfl #[.val (.int p1), .val (.int p2), .val (.int p3), .val (.int p4), .val (.int p5), .val (.int pa), .val (.int pb), .val (.int pd), .val (.int n), .val (.int (p5 &&& (3 : Int32))), .val (.int query), .val (.ref ob), .val (.int (1 : Int32))] rfl ?_
                refine g_aload X49 hx (hb hby at_183) 185 rfl (v := (.ref ob)) rfl rfl ?_
                refine g_iload X49 hx (hb hby at_185) 187 rfl (v := query) rfl ?_
                obtain ⟨cq54, kq54, q54a, q54b, q54c⟩ := isOf hZ rfl f49_0
                obtain ⟨_, _, ⟨T54, L54, k54, n54⟩, -, X54, ⟨Lc54, hQ54, l54, y54, z54⟩, st54⟩ := X49.virtualBack hx (y := (⟨"com/example/varigraph/varigraph/family/MemberSet$Builder", "contains", "(I)Z"⟩ : MethodName)) (z := (⟨"com/example/varigraph/varigraph/family/MemberSet$Builder", "contains", "(I)Z"⟩ : MethodName)) hown (mvT hZ (hw _ (List.mem_of_getElem? (i := 12) rfl))) (mvT hZ (hw _ (List.mem_of_getElem? (i := 13) rfl))) (notFace_of_selects (args := #[]) (mvT hZ (hw _ (List.mem_of_getElem? (i := 15) rfl)))) (mvT hZ (hw _ (List.mem_of_getElem? (i := 15) rfl))) (mvT hZ (hw _ (List.mem_of_getElem? (i := 14) rfl))) (by decide) (backOf (W := 0) (rm3 l Z a0 hw [] ob query wq_49 kq_49 Nq_49 (pd :: (pb :: (pa :: []))) T49.heap n0 Zs49 f49_1 f49_2 p49_0.2) hZ (hw _ (List.mem_of_getElem? (i := 16) rfl)) (hw _ (List.mem_of_getElem? (i := 2) rfl)) (by decide) (by decide)) q54a q54c (g := (mkF m 187 #[.val (.int p1), .val (.int p2), .val (.int p3), .val (.int p4), .val (.int p5), .val (.int pa), .val (.int pb), .val (.int pd), .val (.int n), .val (.int (p5 &&& (3 : Int32))), .val (.int query), .val (.ref ob), .val (.int (1 : Int32))] [(.int query), (.ref ob)])) rfl (by rw [hml]; rfl) (Steps.refl _) (argsL := [(.int query)]) (rest := []) (lenOf own_pd3 rfl) rfl (by show 2 * 0 + _ ≤ _; exact Nat.le_of_eq rfl) (hb hby at_187) (fun _ _ => ⟨rfl, rfl, (by decide : 5 + 0 ≤ _), (by decide : 380 + 0 ≤ _)⟩)
                dsimp only [Pt.U, Pt.locs, Pt.cells, Pt.slots] at X54 l54 y54 z54 st54 hQ54
                subst l54 y54 z54
                obtain ⟨r_54, rfl, Nq54, e54, p54_0, p54_1⟩ := hQ54
                refine Go.tr st54 ?_
                have N54 := Fr.app N49 Nq54
                show Go p e below _ (T54.setTop (mkF m 190 #[.val (.int p1), .val (.int p2), .val (.int p3), .val (.int p4), .val (.int p5), .val (.int pa), .val (.int pb), .val (.int pd), .val (.int n), .val (.int (p5 &&& (3 : Int32))), .val (.int query), .val (.ref ob), .val (.int (1 : Int32))] [(.int r_54)]))
                refine g_iload X54 hx (hb hby at_190) 192 rfl (v := (1 : Int32)) rfl ?_
                refine g_icmp_ne X54 hx (hb hby at_192) 199 195 (by decide) (by decide) rfl (fun hc192 => False.elim (hc192 (own_res1 p54_1 p49_1 (by simp [hc147, hc160, hc173])))) (fun hc192 => ?_)
                refine g_iconst X54 hx (hb hby at_195) 196 rfl (1 : Int32) rfl ?_
                refine g_goto X54 hx (hb hby at_196) 200 (by decide) (by decide) ?_
                refine Go.retN X54 hx hlk (t := .boolean) Bd.returns (by simp) (hb hby at_200) (by decide) (by decide) ?_
                exact ⟨rfl, N54⟩
  refine g_iload X0 hx (hb hby at_35) 37 rfl (v := (p5 &&& (3 : Int32))) rfl ?_
  refine g_if_ne X0 hx (hb hby at_37) 46 40 (by decide) (by decide) rfl (fun hc37 => ?_) (fun hc37 => ?_)
  · refine g_iload X0 hx (hb hby at_46) 48 rfl (v := (p5 &&& (3 : Int32))) rfl ?_
    refine g_iconst X0 hx (hb hby at_48) 49 rfl (1 : Int32) rfl ?_
    refine g_icmp_ne X0 hx (hb hby at_49) 62 52 (by decide) (by decide) rfl (fun hc49 => ?_) (fun hc49 => ?_)
    · refine g_iload X0 hx (hb hby at_62) 64 rfl (v := (p5 &&& (3 : Int32))) rfl ?_
      refine g_iconst X0 hx (hb hby at_64) 65 rfl (2 : Int32) rfl ?_
      refine g_icmp_ne X0 hx (hb hby at_65) 75 68 (by decide) (by decide) rfl (fun hc65 => ?_) (fun hc65 => ?_)
      · refine g_iload X0 hx (hb hby at_75) 77 rfl (v := pa) rfl ?_
        refine g_iconst X0 hx (hb hby at_77) 78 rfl (1 : Int32) rfl ?_
        refine g_iloadN X0 hx (hb hby at_78) 79 rfl (v := p4) rfl ?_
        refine g_bipush X0 hx (hb hby at_79) 81 rfl (15 : Int32) rfl ?_
        refine g_iand X0 hx (hb hby at_81) 82 rfl (p4 &&& (15 : Int32)) rfl ?_
        refine g_ishl X0 hx (hb hby at_82) 83 rfl ((1 : Int32) <<< ((p4 &&& (15 : Int32)) &&& 31)) rfl ?_
        refine g_ixor X0 hx (hb hby at_83) 84 rfl (pa ^^^ ((1 : Int32) <<< ((p4 &&& (15 : Int32)) &&& 31))) rfl ?_
        refine g_istore X0 hx (hb hby at_84) 86 rfl #[.val (.int p1), .val (.int p2), .val (.int p3), .val (.int p4), .val (.int p5), .val (.int pa), .val (.int pb), .val (.int pd), .val (.int n), .val (.int (p5 &&& (3 : Int32))), .val (.int (pa ^^^ ((1 : Int32) <<< ((p4 &&& (15 : Int32)) &&& 31)))), .unset, .unset] rfl ?_
        exact tl (pa ^^^ ((1 : Int32) <<< ((p4 &&& (15 : Int32)) &&& 31)))
      · refine g_iload X0 hx (hb hby at_68) 70 rfl (v := pa) rfl ?_
        refine g_istore X0 hx (hb hby at_70) 72 rfl #[.val (.int p1), .val (.int p2), .val (.int p3), .val (.int p4), .val (.int p5), .val (.int pa), .val (.int pb), .val (.int pd), .val (.int n), .val (.int (p5 &&& (3 : Int32))), .val (.int pa), .unset, .unset] rfl ?_
        refine g_goto X0 hx (hb hby at_72) 86 (by decide) (by decide) ?_
        exact tl pa
    · refine g_iloadN X0 hx (hb hby at_52) 53 rfl (v := p4) rfl ?_
      refine g_sipush X0 hx (hb hby at_53) 56 rfl (4095 : Int32) rfl ?_
      refine g_iand X0 hx (hb hby at_56) 57 rfl (p4 &&& (4095 : Int32)) rfl ?_
      refine g_istore X0 hx (hb hby at_57) 59 rfl #[.val (.int p1), .val (.int p2), .val (.int p3), .val (.int p4), .val (.int p5), .val (.int pa), .val (.int pb), .val (.int pd), .val (.int n), .val (.int (p5 &&& (3 : Int32))), .val (.int (p4 &&& (4095 : Int32))), .unset, .unset] rfl ?_
      refine g_goto X0 hx (hb hby at_59) 86 (by decide) (by decide) ?_
      exact tl (p4 &&& (4095 : Int32))
  · refine g_iloadN X0 hx (hb hby at_40) 41 rfl (v := p4) rfl ?_
    refine g_istore X0 hx (hb hby at_41) 43 rfl #[.val (.int p1), .val (.int p2), .val (.int p3), .val (.int p4), .val (.int p5), .val (.int pa), .val (.int pb), .val (.int pd), .val (.int n), .val (.int (p5 &&& (3 : Int32))), .val (.int p4), .unset, .unset] rfl ?_
    refine g_goto X0 hx (hb hby at_43) 86 (by decide) (by decide) ?_
    exact tl p4
set_option maxRecDepth 65536 in
set_option maxHeartbeats 40000000 in
theorem comes_1 {Post : Tables → Env → Array Value → State → Outcome → State → Prop} (hpost : ∀ tb e args s v u, (limb_1_1.after args s (.returned v) u = true ∧ limb_1_2.after args s (.returned v) u = true ∧ True) → FrameEnd s (.returned v) u (Jvm.fieldLocs frame_1_writes args s ++ Jvm.arrayLocs frame_1_arrays args s ++ Jvm.staticLocs frame_1_statics s) 24 448 → Post tb e args s (.returned v) u) :
    ArmFor flags0 classFile x code maxLocals ret World_1 tables_1 room_1 Calls_1 rest_1 Pre_1 Post := by
  intro l hfl _ _ p e ha hc hk s m args below hf hA hF happ hP
  obtain ⟨hcalls, hrest, hpre⟩ := hP
  obtain ⟨-, -, -, hnamed, -, -, -, hat⟩ := (Spec.applies_iff hf).mp happ
  obtain ⟨hg, hn⟩ := and_e (Cond.before_iff.mp (show (Jvm.Cond.and given_1 narrow_1).before args s = true from hpre))
  obtain ⟨c0, r0⟩ := and_e hg
  obtain ⟨c1, r1⟩ := and_e r0
  obtain ⟨c2, r2⟩ := and_e r1
  obtain ⟨c3, r3⟩ := and_e r2
  obtain ⟨c4, r4⟩ := and_e r3
  obtain ⟨w0, w1, w2, w3, w4, rfl⟩ : ∃ w0 w1 w2 w3 w4 : Value, args = #[w0, w1, w2, w3, w4] := by
    have hs : args.size = 5 := by simpa [Cond.value, given_1] using c0
    obtain ⟨L⟩ := args
    match L, hs with
    | [w0, w1, w2, w3, w4], _ => exact ⟨w0, w1, w2, w3, w4, rfl⟩
  have hw := fun d (hd : d ∈ tables_1) => atoms_spec (ws := Jvm.Cond.code x code maxLocals ret :: tables_1) hat d (List.mem_cons_of_mem _ hd)
  have hfit : Fit s := fun {y c} hc i hi => by
    obtain ⟨ha, rfl⟩ := Array.getElem?_eq_some_iff.mp hc
    have q := List.all_eq_true.mp ((Array.all_eq_true_iff_forall_mem.mp hF) _ (Array.getElem_mem ha)) i (List.mem_range.mpr hi)
    simpa [Array.getElem?_eq_getElem hi] using q
  obtain ⟨i0, ei0⟩ := is_v c1
  obtain rfl : w0 = (.int i0) := Option.some.inj ei0
  obtain ⟨i1, ei1⟩ := is_v c2
  obtain rfl : w1 = (.int i1) := Option.some.inj ei1
  obtain ⟨i2, ei2⟩ := is_v c3
  obtain rfl : w2 = (.int i2) := Option.some.inj ei2
  obtain ⟨i3, ei3⟩ := is_v c4
  obtain rfl : w3 = (.int i3) := Option.some.inj ei3
  obtain ⟨i4, ei4⟩ := is_v r4
  obtain rfl : w4 = (.int i4) := Option.some.inj ei4
  obtain ⟨n, o, h1, h2, h3, _, L, rfl, ⟨rfl, N⟩, hq⟩ := rm0 l s _ hw tables_1 i0 i1 i2 i3 i4 s.heap s.heap.size (Nat.le_refl _)  rfl p e ha hc hk s m _ below hf ((Spec.applies_iff_loose hf).mp happ).1 ⟨rfl, State.Warmed39.refl s, rfl⟩ trivial
  refine ⟨n, _, h1, h2, h3, hpost _ _ _ _ _ _ ⟨Cond.after_iff.mpr rfl, Cond.after_iff.mpr (eq_i res_at (Term.int_eval (1)) rfl), trivial⟩ ⟨hq.1, hq.2.1, (hq.2.2.sift fun y hy => Or.inr (N y hy)).mono (by decide) (by decide)⟩⟩
theorem main_1_1 : Claimed_1_1 := comes_1 fun _ _ _ _ _ _ h hF => ⟨h.1, hF⟩
theorem main_1_2 : Claimed_1_2 := comes_1 fun _ _ _ _ _ _ h hF => ⟨h.2.1, hF⟩
end Jvm.Pilot.@@N@@
namespace Jvm.Pilot.@@N@@
open Jvm Jvm.ClassFile Sem Op Lib Jvm.Free Jvm.Stand Jvm.Pilot.@@N@@.Jvm.D
/-! MADE BY PROGRAM (witnessworld.py) out of the Statement's table words and the real class files: 14 classes; the members and pool entries that the words name. The judged class is class 1, her method 1. -/
namespace start1
open Jvm.ClassFile
def u (s : String) : CpInfo := .utf8 (stringToUtf16 s)
/-- a pool by its gaps: so many unusable entries, then the entry; so many at the end -/
def gap : Nat → List CpInfo → List CpInfo
  | 0, r => r
  | n + 1, r => .unusable :: gap n r
def poolList (es : List (Nat × CpInfo)) (last : Nat) : List CpInfo := es.foldr (fun e r => gap e.1 (e.2 :: r)) (gap last [])
def pool (es : List (Nat × CpInfo)) (last : Nat) : Array CpInfo := ⟨poolList es last⟩
def fileOf (pool : Array CpInfo) (this : Nat) (attrs : Array Attribute := #[]) (ms : Array MethodInfo := #[]) (fl : Nat := 33) (sup : Nat := 0) (ifs : Array Nat := #[]) (fds : Array FieldInfo := #[]) : ClassFile where
  minorVersion := 0
  majorVersion := 65
  constantPool := pool
  accessFlags := fl
  thisClass := this
  superClass := sup
  interfaces := ifs
  fields := fds
  methods := ms
  attributes := attrs
def plain (name : String) (sup : Option ClassId) : Class where
  name := name
  kind := .ordinary
  loader := none
  accessFlags := 33
  super := sup
  interfaces := #[]
  cf := none
  fields := #[]
  methods := #[]
  instanceTypes := #[]
  staticTypes := #[]
  resolved := #[]
  callSites := []
  init := .initialized
  statics := none
  mirror := none

def pool0 : Array CpInfo := pool [(5, u "<init>"), (0, u "()V"), (1, .class_ 10), (1, u "java/lang/Object")] 113

def k0c0 : Code := { maxStack := 0, maxLocals := 1, code := object_method_1_code, exceptionTable := #[], attributes := #[] }
def k0m0 : Method := { name := "<init>", desc := "()V", sig := { parameters := [], returnType := none }, accessFlags := 1, code := some k0c0 }
/-- java/lang/Object -/
def k0 : Class := { plain "java/lang/Object" none with
  accessFlags := 33
  interfaces := #[]
  cf := some (fileOf pool0 8 #[] #[{ accessFlags := 1, nameIndex := 5, descriptorIndex := 6, attributes := #[] }] 33 0 #[] #[])
  fields := #[]
  methods := #[k0m0]
  instanceTypes := #[]
  staticTypes := #[]
  resolved := Array.replicate 124 none
  statics := none }

def pool1 : Array CpInfo := pool [(2, .class_ 4), (0, .nameAndType 5 6), (0, u "java/lang/Object"), (0, u "<init>"), (0, u "()V"), (0, .class_ 8), (0, u "com/example/varigraph/varigraph/family/MemberSet$Builder"), (0, .methodref 7 3), (0, .methodref 7 11), (0, .nameAndType 12 13), (0, u "add"), (0, u "(I)Lcom/example/varigraph/varigraph/family/MemberSet$Builder;"), (0, .methodref 7 15), (0, .nameAndType 16 17), (0, u "contains"), (0, u "(I)Z"), (0, .class_ 19), (0, u "com/example/varigraph/varigraph/family/BuilderContainsPinLaw"), (2, u "law"), (0, u "(IIIII)Z")] 7

def k1m0 : Method := { name := "<init>", desc := "()V", sig := { parameters := [], returnType := none }, accessFlags := 1, code := none }
def k1c1 : Code := { maxStack := 4, maxLocals := 13, code := code, exceptionTable := #[], attributes := #[] }
def k1m1 : Method := { name := "law", desc := "(IIIII)Z", sig := { parameters := [.int, .int, .int, .int, .int], returnType := some .boolean }, accessFlags := 9, code := some k1c1 }
/-- com/example/varigraph/varigraph/family/BuilderContainsPinLaw -/
def k1 : Class := { plain "com/example/varigraph/varigraph/family/BuilderContainsPinLaw" (some 0) with
  accessFlags := 49
  interfaces := #[]
  cf := some (fileOf pool1 18 #[] #[{ accessFlags := 1, nameIndex := 5, descriptorIndex := 6, attributes := #[] }, { accessFlags := 9, nameIndex := 22, descriptorIndex := 23, attributes := #[] }] 49 2 #[] #[])
  fields := #[]
  methods := #[k1m0, k1m1]
  instanceTypes := #[]
  staticTypes := #[]
  resolved := Array.replicate 31 none
  statics := none }

def pool2 : Array CpInfo := pool [(1, .methodref 2 3), (0, .class_ 4), (0, .nameAndType 5 6), (0, u "java/lang/Object"), (0, u "<init>"), (0, u "()V"), (0, .fieldref 8 9), (0, .class_ 10), (0, .nameAndType 11 12), (0, u "com/example/varigraph/varigraph/family/MemberSet$Builder"), (0, u "words"), (0, u "[J"), (9, .methodref 23 24), (0, .class_ 25), (0, .nameAndType 26 27), (0, u "java/lang/Math"), (0, u "max"), (0, u "(II)I"), (0, .methodref 29 30), (0, .class_ 31), (0, .nameAndType 32 33), (0, u "java/util/Arrays"), (0, u "copyOf"), (0, u "([JI)[J"), (6, .class_ 42), (1, u "com/example/varigraph/varigraph/family/MemberSet"), (4, u "add"), (0, u "(I)Lcom/example/varigraph/varigraph/family/MemberSet$Builder;"), (1, u "contains"), (0, u "(I)Z")] 21

def k2c0 : Code := { maxStack := 2, maxLocals := 1, code := prog_50_method_1_code, exceptionTable := #[], attributes := #[] }
def k2m0 : Method := { name := "<init>", desc := "()V", sig := { parameters := [], returnType := none }, accessFlags := 0, code := some k2c0 }
def k2c1 : Code := { maxStack := 7, maxLocals := 3, code := prog_50_method_2_code, exceptionTable := #[], attributes := #[] }
def k2m1 : Method := { name := "add", desc := "(I)Lcom/example/varigraph/varigraph/family/MemberSet$Builder;", sig := { parameters := [.int], returnType := some (.object "com/example/varigraph/varigraph/family/MemberSet$Builder") }, accessFlags := 0, code := some k2c1 }
def k2c2 : Code := { maxStack := 5, maxLocals := 3, code := prog_50_method_3_code, exceptionTable := #[], attributes := #[] }
def k2m2 : Method := { name := "contains", desc := "(I)Z", sig := { parameters := [.int], returnType := some .boolean }, accessFlags := 0, code := some k2c2 }
/-- com/example/varigraph/varigraph/family/MemberSet$Builder -/
def k2 : Class := { plain "com/example/varigraph/varigraph/family/MemberSet$Builder" (some 0) with
  accessFlags := 48
  interfaces := #[]
  cf := some (fileOf pool2 8 #[.nestHost 40] #[{ accessFlags := 0, nameIndex := 5, descriptorIndex := 6, attributes := #[] }, { accessFlags := 0, nameIndex := 47, descriptorIndex := 48, attributes := #[] }, { accessFlags := 0, nameIndex := 50, descriptorIndex := 51, attributes := #[] }] 48 2 #[] #[{ accessFlags := 2, nameIndex := 11, descriptorIndex := 12, attributes := #[] }])
  fields := #[{ name := "words", type := (.array .long), accessFlags := 2, slot := 0, constantValue := 0 }]
  methods := #[k2m0, k2m1, k2m2]
  instanceTypes := #[(.array .long)]
  staticTypes := #[]
  resolved := Array.replicate 73 none
  statics := none }

def pool3 : Array CpInfo := pool [(1, .class_ 2), (0, u "java/lang/Math"), (1, .class_ 6), (1, u "java/lang/Object"), (0, u "<init>"), (0, u "()V"), (89, .class_ 100), (1, u "java/lang/Math$RandomNumberGeneratorHolder"), (71, u "negativeZeroFloatBits"), (0, u "J"), (2, u "negativeZeroDoubleBits"), (21, u "max"), (2, u "min"), (43, u "$assertionsDisabled"), (0, u "Z"), (88, u "(II)I"), (2, u "twoToTheDoubleScaleDown"), (0, u "D"), (4, u "twoToTheDoubleScaleUp"), (9, u "E"), (3, u "PI"), (2, u "TAU"), (2, u "DEGREES_TO_RADIANS"), (0, u "RADIANS_TO_DEGREES")] 94

def k3m0 : Method := { name := "<init>", desc := "()V", sig := { parameters := [], returnType := none }, accessFlags := 2, code := none }
def k3c1 : Code := { maxStack := 2, maxLocals := 2, code := jdk_29_method_65_code, exceptionTable := #[], attributes := #[] }
def k3m1 : Method := { name := "max", desc := "(II)I", sig := { parameters := [.int, .int], returnType := some .int }, accessFlags := 9, code := some k3c1 }
def k3c2 : Code := { maxStack := 2, maxLocals := 2, code := jdk_29_method_69_code, exceptionTable := #[], attributes := #[] }
def k3m2 : Method := { name := "min", desc := "(II)I", sig := { parameters := [.int, .int], returnType := some .int }, accessFlags := 9, code := some k3c2 }
/-- java/lang/Math -/
def k3 : Class := { plain "java/lang/Math" (some 0) with
  accessFlags := 49
  interfaces := #[]
  cf := some (fileOf pool3 1 #[.nestMembers #[98]] #[{ accessFlags := 2, nameIndex := 7, descriptorIndex := 8, attributes := #[] }, { accessFlags := 9, nameIndex := 198, descriptorIndex := 335, attributes := #[] }, { accessFlags := 9, nameIndex := 201, descriptorIndex := 335, attributes := #[] }] 49 4 #[] #[{ accessFlags := 25, nameIndex := 354, descriptorIndex := 339, attributes := #[] }, { accessFlags := 25, nameIndex := 358, descriptorIndex := 339, attributes := #[] }, { accessFlags := 25, nameIndex := 361, descriptorIndex := 339, attributes := #[] }, { accessFlags := 26, nameIndex := 364, descriptorIndex := 339, attributes := #[] }, { accessFlags := 26, nameIndex := 365, descriptorIndex := 339, attributes := #[] }, { accessFlags := 26, nameIndex := 172, descriptorIndex := 173, attributes := #[] }, { accessFlags := 26, nameIndex := 176, descriptorIndex := 173, attributes := #[] }, { accessFlags := 8, nameIndex := 344, descriptorIndex := 339, attributes := #[] }, { accessFlags := 8, nameIndex := 338, descriptorIndex := 339, attributes := #[] }, { accessFlags := 4120, nameIndex := 245, descriptorIndex := 246, attributes := #[] }])
  fields := #[{ name := "E", type := .double, accessFlags := 25, slot := 0, constantValue := 0 }, { name := "PI", type := .double, accessFlags := 25, slot := 1, constantValue := 0 }, { name := "TAU", type := .double, accessFlags := 25, slot := 2, constantValue := 0 }, { name := "DEGREES_TO_RADIANS", type := .double, accessFlags := 26, slot := 3, constantValue := 0 }, { name := "RADIANS_TO_DEGREES", type := .double, accessFlags := 26, slot := 4, constantValue := 0 }, { name := "negativeZeroFloatBits", type := .long, accessFlags := 26, slot := 5, constantValue := 0 }, { name := "negativeZeroDoubleBits", type := .long, accessFlags := 26, slot := 6, constantValue := 0 }, { name := "twoToTheDoubleScaleUp", type := .double, accessFlags := 8, slot := 7, constantValue := 0 }, { name := "twoToTheDoubleScaleDown", type := .double, accessFlags := 8, slot := 8, constantValue := 0 }, { name := "$assertionsDisabled", type := .boolean, accessFlags := 4120, slot := 9, constantValue := 0 }]
  methods := #[k3m0, k3m1, k3m2]
  instanceTypes := #[]
  staticTypes := #[.double, .double, .double, .double, .double, .long, .long, .double, .double, .boolean]
  resolved := Array.replicate 460 none
  statics := none }

def pool4 : Array CpInfo := pool [(2, .class_ 4), (1, u "java/lang/Object"), (0, u "<init>"), (0, u "()V"), (7, .class_ 16), (1, u "java/util/Arrays"), (57, .class_ 76), (1, u "java/util/Arrays$NaturalOrder"), (36, .class_ 115), (1, u "java/util/Arrays$LegacyMergeSort"), (1, u "Z"), (32, .methodref 151 152), (0, .class_ 153), (0, .nameAndType 154 155), (0, u "java/lang/System"), (0, u "arraycopy"), (0, u "(Ljava/lang/Object;ILjava/lang/Object;II)V"), (146, u "copyOf"), (1, .methodref 305 306), (0, .class_ 307), (0, .nameAndType 308 309), (0, u "java/lang/Math"), (0, u "min"), (0, u "(II)I"), (65, .class_ 376), (0, u "java/util/Arrays$ArrayList"), (68, u "$assertionsDisabled"), (269, u "MIN_ARRAY_SORT_GRAN"), (0, u "I"), (2, u "INSERTIONSORT_THRESHOLD"), (152, u "([JI)[J"), (102, .class_ 976), (0, u "java/util/Arrays$ArrayItr")] 52

def k4m0 : Method := { name := "<init>", desc := "()V", sig := { parameters := [], returnType := none }, accessFlags := 2, code := none }
def k4c1 : Code := { maxStack := 6, maxLocals := 3, code := jdk_65_method_124_code, exceptionTable := #[], attributes := #[] }
def k4m1 : Method := { name := "copyOf", desc := "([JI)[J", sig := { parameters := [(.array .long), .int], returnType := some (.array .long) }, accessFlags := 9, code := some k4c1 }
/-- java/util/Arrays -/
def k4 : Class := { plain "java/util/Arrays" (some 0) with
  accessFlags := 49
  interfaces := #[]
  cf := some (fileOf pool4 14 #[.nestMembers #[975, 375, 113, 74]] #[{ accessFlags := 2, nameIndex := 5, descriptorIndex := 6, attributes := #[] }, { accessFlags := 9, nameIndex := 302, descriptorIndex := 872, attributes := #[] }] 49 2 #[] #[{ accessFlags := 26, nameIndex := 715, descriptorIndex := 716, attributes := #[] }, { accessFlags := 26, nameIndex := 719, descriptorIndex := 716, attributes := #[] }, { accessFlags := 4120, nameIndex := 445, descriptorIndex := 117, attributes := #[] }])
  fields := #[{ name := "MIN_ARRAY_SORT_GRAN", type := .int, accessFlags := 26, slot := 0, constantValue := 0 }, { name := "INSERTIONSORT_THRESHOLD", type := .int, accessFlags := 26, slot := 1, constantValue := 0 }, { name := "$assertionsDisabled", type := .boolean, accessFlags := 4120, slot := 2, constantValue := 0 }]
  methods := #[k4m0, k4m1]
  instanceTypes := #[]
  staticTypes := #[.int, .int, .boolean]
  resolved := Array.replicate 1029 none
  statics := none }

def pool5 : Array CpInfo := pool [(2, .class_ 4), (1, u "java/lang/Object"), (0, u "<init>"), (0, u "()V"), (1, .class_ 10), (1, u "java/lang/System"), (0, u "allowSecurityManager"), (0, u "I"), (16, u "cons"), (0, u "Ljava/io/Console;"), (77, .class_ 110), (1, u "java/lang/System$CallersHolder"), (43, u "initialErrStream"), (0, u "Ljava/io/PrintStream;"), (19, u "security"), (0, u "Ljava/lang/SecurityManager;"), (31, .class_ 209), (0, u "java/lang/System$1"), (7, u "props"), (0, u "Ljava/util/Properties;"), (2, u "lineSeparator"), (0, u "Ljava/lang/String;"), (96, .class_ 321), (1, u "java/lang/System$LoggerFinder"), (5, .class_ 328), (0, u "java/lang/System$Logger"), (67, u "err"), (2, u "out"), (91, u "notSupportedJnuEncoding"), (15, u "in"), (17, u "initialIn"), (0, u "Ljava/io/InputStream;"), (35, u "bootLayer"), (0, u "Ljava/lang/ModuleLayer;"), (99, .class_ 664), (0, u "java/lang/System$2"), (9, u "NEVER"), (2, u "MAYBE"), (49, u "arraycopy"), (0, u "(Ljava/lang/Object;ILjava/lang/Object;II)V"), (72, .class_ 802), (0, u "java/lang/System$Logger$Level")] 31

def k5m0 : Method := { name := "<init>", desc := "()V", sig := { parameters := [], returnType := none }, accessFlags := 2, code := none }
def k5m1 : Method := { name := "arraycopy", desc := "(Ljava/lang/Object;ILjava/lang/Object;II)V", sig := { parameters := [(.object "java/lang/Object"), .int, (.object "java/lang/Object"), .int, .int], returnType := none }, accessFlags := 265, code := none }
/-- java/lang/System -/
def k5 : Class := { plain "java/lang/System" (some 0) with
  accessFlags := 49
  interfaces := #[]
  cf := some (fileOf pool5 8 #[.nestMembers #[319, 327, 801, 108, 663, 208]] #[{ accessFlags := 2, nameIndex := 5, descriptorIndex := 6, attributes := #[] }, { accessFlags := 265, nameIndex := 727, descriptorIndex := 728, attributes := #[] }] 49 2 #[] #[{ accessFlags := 25, nameIndex := 507, descriptorIndex := 526, attributes := #[] }, { accessFlags := 25, nameIndex := 399, descriptorIndex := 155, attributes := #[] }, { accessFlags := 25, nameIndex := 396, descriptorIndex := 155, attributes := #[] }, { accessFlags := 10, nameIndex := 525, descriptorIndex := 526, attributes := #[] }, { accessFlags := 26, nameIndex := 674, descriptorIndex := 12, attributes := #[] }, { accessFlags := 26, nameIndex := 677, descriptorIndex := 12, attributes := #[] }, { accessFlags := 10, nameIndex := 11, descriptorIndex := 12, attributes := #[] }, { accessFlags := 74, nameIndex := 175, descriptorIndex := 176, attributes := #[] }, { accessFlags := 10, nameIndex := 491, descriptorIndex := 222, attributes := #[] }, { accessFlags := 74, nameIndex := 29, descriptorIndex := 30, attributes := #[] }, { accessFlags := 74, nameIndex := 154, descriptorIndex := 155, attributes := #[] }, { accessFlags := 10, nameIndex := 217, descriptorIndex := 218, attributes := #[] }, { accessFlags := 10, nameIndex := 221, descriptorIndex := 222, attributes := #[] }, { accessFlags := 8, nameIndex := 562, descriptorIndex := 563, attributes := #[] }])
  fields := #[{ name := "in", type := (.object "java/io/InputStream"), accessFlags := 25, slot := 0, constantValue := 0 }, { name := "out", type := (.object "java/io/PrintStream"), accessFlags := 25, slot := 1, constantValue := 0 }, { name := "err", type := (.object "java/io/PrintStream"), accessFlags := 25, slot := 2, constantValue := 0 }, { name := "initialIn", type := (.object "java/io/InputStream"), accessFlags := 10, slot := 3, constantValue := 0 }, { name := "NEVER", type := .int, accessFlags := 26, slot := 4, constantValue := 0 }, { name := "MAYBE", type := .int, accessFlags := 26, slot := 5, constantValue := 0 }, { name := "allowSecurityManager", type := .int, accessFlags := 10, slot := 6, constantValue := 0 }, { name := "security", type := (.object "java/lang/SecurityManager"), accessFlags := 74, slot := 7, constantValue := 0 }, { name := "notSupportedJnuEncoding", type := (.object "java/lang/String"), accessFlags := 10, slot := 8, constantValue := 0 }, { name := "cons", type := (.object "java/io/Console"), accessFlags := 74, slot := 9, constantValue := 0 }, { name := "initialErrStream", type := (.object "java/io/PrintStream"), accessFlags := 74, slot := 10, constantValue := 0 }, { name := "props", type := (.object "java/util/Properties"), accessFlags := 10, slot := 11, constantValue := 0 }, { name := "lineSeparator", type := (.object "java/lang/String"), accessFlags := 10, slot := 12, constantValue := 0 }, { name := "bootLayer", type := (.object "java/lang/ModuleLayer"), accessFlags := 8, slot := 13, constantValue := 0 }]
  methods := #[k5m0, k5m1]
  instanceTypes := #[]
  staticTypes := #[(.object "java/io/InputStream"), (.object "java/io/PrintStream"), (.object "java/io/PrintStream"), (.object "java/io/InputStream"), .int, .int, .int, (.object "java/lang/SecurityManager"), (.object "java/lang/String"), (.object "java/io/Console"), (.object "java/io/PrintStream"), (.object "java/util/Properties"), (.object "java/lang/String"), (.object "java/lang/ModuleLayer")]
  resolved := Array.replicate 834 none
  statics := none }

def pool6 : Array CpInfo := pool [(1, u "java/lang/Cloneable"), (0, .class_ 1), (0, u "java/lang/Object"), (0, .class_ 3)] 3

/-- java/lang/Cloneable -/
def k6 : Class := { plain "java/lang/Cloneable" (some 0) with
  accessFlags := 1537
  interfaces := #[]
  cf := some (fileOf pool6 2 #[] #[] 1537 4 #[] #[])
  fields := #[]
  methods := #[]
  instanceTypes := #[]
  staticTypes := #[]
  resolved := Array.replicate 8 none
  statics := none }

def pool7 : Array CpInfo := pool [(1, u "java/io/Serializable"), (0, .class_ 1), (0, u "java/lang/Object"), (0, .class_ 3)] 3

/-- java/io/Serializable -/
def k7 : Class := { plain "java/io/Serializable" (some 0) with
  accessFlags := 1537
  interfaces := #[]
  cf := some (fileOf pool7 2 #[] #[] 1537 4 #[] #[])
  fields := #[]
  methods := #[]
  instanceTypes := #[]
  staticTypes := #[]
  resolved := Array.replicate 8 none
  statics := none }

/-- the primitive byte -/
def k8 : Class := { plain "byte" none with kind := .primitive 'B', accessFlags := 0x411 }
/-- [B -/
def k9 : Class := { plain "[B" (some 0) with kind := .array 8 .byte, interfaces := #[6, 7], accessFlags := 1041 }

/-- the primitive int -/
def k10 : Class := { plain "int" none with kind := .primitive 'I', accessFlags := 0x411 }
/-- [I -/
def k11 : Class := { plain "[I" (some 0) with kind := .array 10 .int, interfaces := #[6, 7], accessFlags := 1041 }

/-- the primitive long -/
def k12 : Class := { plain "long" none with kind := .primitive 'J', accessFlags := 0x411 }
/-- [J -/
def k13 : Class := { plain "[J" (some 0) with kind := .array 12 .long, interfaces := #[6, 7], accessFlags := 1041 }

def heap : Heap := #[]
def classes : Array Class := #[k0, k1, k2, k3, k4, k5, k6, k7, k8, k9, k10, k11, k12, k13]
def interned : List (Array UInt16 × Addr) := []
def slotsUsed : Nat := 0
def theMethod : MethodId := ⟨1, 1⟩
def args0 : Array Value := #[.int 1, .int 2, .int 3, .int 4, .int 5]
def aboutOver (below : List Frame) : State where
  vm := { classes := classes, interned := interned.toArray }
  heap := heap
  slotsUsed := slotsUsed
  threads := #[{ frames := .invoking theMethod args0 :: below }]
def below0 : List Frame := [.native { method := ⟨0, 0⟩, args := #[] }]
def about1 : State := aboutOver below0
def p0 : Program := .bare "" "" ""
def e0 : Env := launch0.env 0 0 0
theorem w_frames : about1.frames = Frame.invoking theMethod args0 :: below0 := rfl
set_option maxRecDepth 65536 in
theorem w_args : argsFit about1.vm theMethod args0 = true := by decide +kernel
set_option maxRecDepth 65536 in
theorem w_heap : heapFits about1 = true := by decide +kernel
set_option maxRecDepth 65536 in
theorem w_runnable : about1.curStatus? = some .runnable := by decide +kernel
set_option maxRecDepth 65536 in
theorem w_alone : about1.alone = true := by decide +kernel
set_option maxRecDepth 65536 in
theorem w_named : about1.methodNamed? x = some theMethod := by decide +kernel
set_option maxRecDepth 65536 in
theorem w_hears : about1.hears theMethod below0 = true := by decide +kernel
set_option maxRecDepth 65536 in
theorem w_ripe : about1.ripe theMethod args0 below0 = true := by decide +kernel
theorem w_running : about1.status = .running := rfl
set_option maxRecDepth 65536 in
theorem w_room : about1.hasRoom e0.platform room_1 = true :=
  launch0.hasRoom_least _ room_1 (by decide +kernel) (by decide +kernel) (by decide +kernel) (by decide +kernel) (by decide +kernel) (by decide +kernel)
theorem allAtoms_all (ts : List Jvm.Cond) (a : Array Jvm.Value) (st : Jvm.State) : (allAtoms ts).before a st = ts.all (fun c => c.before a st) := by
  induction ts with
  | nil => rfl
  | cons c t ih =>
    show (Jvm.Cond.and c (allAtoms t)).before a st = _
    rw [Jvm.Cond.before_and, ih, List.all_cons]
def words1 : List Jvm.Cond := Jvm.Cond.code x code maxLocals ret :: tables_1
/-- a 'code' word, met by the world's own term for the bytes: nothing is compared byte by byte -/
theorem code_word {y : MethodName} {bytes : ByteArray} {mx : Nat} {rt : Option FieldType} {a : Array Value} {s : State} {m : MethodId} {meth : Method} {c : Code} (h1 : s.methodNamed? y = some m) (h2 : s.vm.method? m = some meth) (h3 : meth.code = some c) (h4 : c.code = bytes)
    (h5 : (c.maxLocals == mx && c.exceptionTable.isEmpty && decide (c.maxStack ≤ mostOperands) && decide (meth.sig.returnType = rt) && !meth.locks && decide (parseMethodDescriptor y.desc = some meth.sig)) = true) : (Jvm.Cond.code y bytes mx rt).before a s = true := by
  simp only [Bool.and_eq_true, beq_iff_eq, Bool.not_eq_true', decide_eq_true_eq] at h5
  obtain ⟨⟨⟨⟨⟨g1, g2⟩, g3⟩, g4⟩, g5⟩, g6⟩ := h5
  simp [Cond.before, Cond.holds, Cond.value, h1, h2, h3, h4, g1, g2, g3, g4, g5, g6]
def isCode : Jvm.Cond → Bool
  | .code _ _ _ _ => true
  | _ => false
theorem all_split {L : List Jvm.Cond} {P : Jvm.Cond → Bool} (h1 : L.all (fun c => isCode c || P c) = true) (h2 : ∀ c ∈ L.filter isCode, P c = true) : L.all P = true := by
  refine List.all_eq_true.mpr fun c hc => ?_
  have h := List.all_eq_true.mp h1 c hc
  rcases Bool.eq_false_or_eq_true (isCode c) with hi | hi
  · exact h2 c (List.mem_filter.mpr ⟨hc, hi⟩)
  · simpa [hi] using h
set_option maxRecDepth 65536 in
theorem w_c0 : (Jvm.Cond.code x code maxLocals ret).before args0 about1 = true := code_word (m := ⟨1, 1⟩) (meth := k1m1) (c := k1c1) (by decide +kernel) rfl rfl rfl (by decide +kernel)
set_option maxRecDepth 65536 in
theorem w_c1 : (Jvm.Cond.code ({ cls := "com/example/varigraph/varigraph/family/MemberSet$Builder", name := "<init>", desc := "()V" } : Jvm.MethodName) prog_50_method_1_code (1 : Nat) (Option.none : Option Jvm.ClassFile.FieldType)).before args0 about1 = true := code_word (m := ⟨2, 0⟩) (meth := k2m0) (c := k2c0) (by decide +kernel) rfl rfl rfl (by decide +kernel)
set_option maxRecDepth 65536 in
theorem w_c2 : (Jvm.Cond.code ({ cls := "java/lang/Object", name := "<init>", desc := "()V" } : Jvm.MethodName) object_method_1_code (1 : Nat) (Option.none : Option Jvm.ClassFile.FieldType)).before args0 about1 = true := code_word (m := ⟨0, 0⟩) (meth := k0m0) (c := k0c0) (by decide +kernel) rfl rfl rfl (by decide +kernel)
set_option maxRecDepth 65536 in
theorem w_c3 : (Jvm.Cond.code ({ cls := "com/example/varigraph/varigraph/family/MemberSet$Builder", name := "contains", desc := "(I)Z" } : Jvm.MethodName) prog_50_method_3_code (3 : Nat) (Option.some Jvm.ClassFile.FieldType.boolean)).before args0 about1 = true := code_word (m := ⟨2, 2⟩) (meth := k2m2) (c := k2c2) (by decide +kernel) rfl rfl rfl (by decide +kernel)
set_option maxRecDepth 65536 in
theorem w_c4 : (Jvm.Cond.code ({ cls := "com/example/varigraph/varigraph/family/MemberSet$Builder", name := "add", desc := "(I)Lcom/example/varigraph/varigraph/family/MemberSet$Builder;" } : Jvm.MethodName) prog_50_method_2_code (3 : Nat) (Option.some (Jvm.ClassFile.FieldType.object "com/example/varigraph/varigraph/family/MemberSet$Builder"))).before args0 about1 = true := code_word (m := ⟨2, 1⟩) (meth := k2m1) (c := k2c1) (by decide +kernel) rfl rfl rfl (by decide +kernel)
set_option maxRecDepth 65536 in
theorem w_c5 : (Jvm.Cond.code ({ cls := "java/lang/Math", name := "max", desc := "(II)I" } : Jvm.MethodName) jdk_29_method_65_code (2 : Nat) (Option.some Jvm.ClassFile.FieldType.int)).before args0 about1 = true := code_word (m := ⟨3, 1⟩) (meth := k3m1) (c := k3c1) (by decide +kernel) rfl rfl rfl (by decide +kernel)
set_option maxRecDepth 65536 in
theorem w_c6 : (Jvm.Cond.code ({ cls := "java/util/Arrays", name := "copyOf", desc := "([JI)[J" } : Jvm.MethodName) jdk_65_method_124_code (3 : Nat) (Option.some (Jvm.ClassFile.FieldType.array Jvm.ClassFile.FieldType.long))).before args0 about1 = true := code_word (m := ⟨4, 1⟩) (meth := k4m1) (c := k4c1) (by decide +kernel) rfl rfl rfl (by decide +kernel)
set_option maxRecDepth 65536 in
theorem w_c7 : (Jvm.Cond.code ({ cls := "java/lang/Math", name := "min", desc := "(II)I" } : Jvm.MethodName) jdk_29_method_69_code (2 : Nat) (Option.some Jvm.ClassFile.FieldType.int)).before args0 about1 = true := code_word (m := ⟨3, 2⟩) (meth := k3m2) (c := k3c2) (by decide +kernel) rfl rfl rfl (by decide +kernel)
def codes1 : List Jvm.Cond := [Jvm.Cond.code x code maxLocals ret, Jvm.Cond.code ({ cls := "com/example/varigraph/varigraph/family/MemberSet$Builder", name := "<init>", desc := "()V" } : Jvm.MethodName) prog_50_method_1_code (1 : Nat) (Option.none : Option Jvm.ClassFile.FieldType), Jvm.Cond.code ({ cls := "java/lang/Object", name := "<init>", desc := "()V" } : Jvm.MethodName) object_method_1_code (1 : Nat) (Option.none : Option Jvm.ClassFile.FieldType), Jvm.Cond.code ({ cls := "com/example/varigraph/varigraph/family/MemberSet$Builder", name := "contains", desc := "(I)Z" } : Jvm.MethodName) prog_50_method_3_code (3 : Nat) (Option.some Jvm.ClassFile.FieldType.boolean), Jvm.Cond.code ({ cls := "com/example/varigraph/varigraph/family/MemberSet$Builder", name := "add", desc := "(I)Lcom/example/varigraph/varigraph/family/MemberSet$Builder;" } : Jvm.MethodName) prog_50_method_2_code (3 : Nat) (Option.some (Jvm.ClassFile.FieldType.object "com/example/varigraph/varigraph/family/MemberSet$Builder")), Jvm.Cond.code ({ cls := "java/lang/Math", name := "max", desc := "(II)I" } : Jvm.MethodName) jdk_29_method_65_code (2 : Nat) (Option.some Jvm.ClassFile.FieldType.int), Jvm.Cond.code ({ cls := "java/util/Arrays", name := "copyOf", desc := "([JI)[J" } : Jvm.MethodName) jdk_65_method_124_code (3 : Nat) (Option.some (Jvm.ClassFile.FieldType.array Jvm.ClassFile.FieldType.long)), Jvm.Cond.code ({ cls := "java/lang/Math", name := "min", desc := "(II)I" } : Jvm.MethodName) jdk_29_method_69_code (2 : Nat) (Option.some Jvm.ClassFile.FieldType.int)]
set_option maxRecDepth 65536 in
theorem codes_eq : words1.filter isCode = codes1 := rfl
theorem w_codes : ∀ c ∈ words1.filter isCode, c.before args0 about1 = true := by
  rw [codes_eq]
  intro c hc
  simp only [codes1, List.mem_cons, List.not_mem_nil, or_false] at hc
  rcases hc with rfl | rfl | rfl | rfl | rfl | rfl | rfl | rfl
  · exact w_c0
  · exact w_c1
  · exact w_c2
  · exact w_c3
  · exact w_c4
  · exact w_c5
  · exact w_c6
  · exact w_c7
set_option maxRecDepth 65536 in
theorem w_t1 : (words1.take 24).all (fun c => isCode c || c.before args0 about1) = true := by decide +kernel
set_option maxRecDepth 65536 in
theorem w_t2 : (words1.drop 24).all (fun c => isCode c || c.before args0 about1) = true := by decide +kernel
theorem w_tables : (allAtoms (Jvm.Cond.code x code maxLocals ret :: tables_1)).before args0 about1 = true := by
  rw [allAtoms_all]
  show words1.all (fun c => c.before args0 about1) = true
  refine all_split ?_ w_codes
  rw [← List.take_append_drop 24 words1, List.all_append, w_t1, w_t2]
  rfl
set_option maxRecDepth 65536 in
theorem w_case : (Jvm.Cond.and given_1 narrow_1).before args0 about1 = true := by decide +kernel
theorem w_applies : (headSpec (Jvm.Cond.code x code maxLocals ret :: tables_1) room_1).applies x e0.platform about1 = true :=
  (Spec.applies_iff w_frames).mpr ⟨w_running, w_runnable, w_alone, w_named, w_hears, w_ripe, w_room, w_tables⟩
theorem atStart : AtStart classFile x code maxLocals ret World_1 tables_1 room_1 Calls_1 rest_1 Pre_1 launch0 p0 e0 about1 theMethod args0 below0 :=
  ⟨lists_1, trivial, launch0.admits_env _ _ _, launch0.least_env, fairChoices_fair.cas, fairChoices_fair.clock, w_frames, w_args, w_heap, w_applies, trivial, trivial, w_case⟩
end start1
theorem witness_1 : WitnessClaimed_1 := ⟨start1.p0, start1.e0, start1.about1, start1.theMethod, start1.args0, start1.below0, start1.atStart⟩
end Jvm.Pilot.@@N@@
