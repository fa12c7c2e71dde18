import JvmDerived
import JvmDerived.Pilot.@@N@@Statement
import JvmDerived.Pilot.@@N@@Code
set_option linter.unusedVariables false
set_option linter.unusedSimpArgs false
namespace Jvm.Pilot.@@N@@
open Jvm Jvm.ClassFile Sem Op Lib Jvm.Free Jvm.Stand Jvm.LawKit Jvm.RoadKit Bundle Jvm.Pilot.@@N@@.Jvm.D

section Layer
variable {p : Program} {l : Launch} {e : Env} {R : Room} {s : State} {m : MethodId} {args : Array Value} {below : List Frame} {meth : Method} {c : Code} {T : State} {locs : List Loc} {cells slots : Nat}
/-- the walk from σ comes to an end at which K holds -/
def Go (p : Program) (e : Env) (below : List Frame) (K : State → Outcome → Prop) (σ : State) : Prop := ∃ s₂ o, Steps p.tables e below σ s₂ ∧ K s₂ o
theorem Go.st {K : State → Outcome → Prop} {σ σ' : State} (h : ∀ t, Steps p.tables e below σ' t → Steps p.tables e below σ t) (k : Go p e below K σ') : Go p e below K σ := by
  obtain ⟨a, b, c, d⟩ := k
  exact ⟨a, b, h _ c, d⟩
theorem Go.tr {K : State → Outcome → Prop} {σ σ' : State} (h : Steps p.tables e below σ σ') (k : Go p e below K σ') : Go p e below K σ := Go.st (fun _ q => h.trans q) k
/-- what a contract asks of the end -/
def KQ (s : State) (below : List Frame) (Q : Option Value → Heap → List Loc → Prop) (C S : Nat) (s₂ : State) (o : Outcome) : Prop :=
  s₂.status = .running ∧ Ended s₂ below o ∧ ∃ v L, o = .returned v ∧ Q v s₂.heap L ∧ FrameEnd s o s₂ L C S
theorem Go.body {K : State → Outcome → Prop} {σ : State} {g g' : JFrame} (hg : g = g') (k : Go p e below K (T.setTop g')) : Go p e below K (T.setTop g) := hg ▸ k
/-- return of nothing -/
theorem Go.retV {Q : Option Value → Heap → List Loc → Prop} {C S : Nat} (X : Stand p l e R s m args below meth c T locs cells slots) (hx : p.tables.exec = Jvm.exec) (hlk : meth.locks = false) (hret : meth.sig.returnType = none) {pc : Nat} {Ls : Array Slot} (hd : decode c.code pc = .ok (.return_, 1)) (hC : cells ≤ C) (hS : slots ≤ S) (q : Q none T.heap locs) :
    Go p e below (KQ s below Q C S) (T.setTop (mkF m pc Ls [])) := by
  obtain ⟨fs, hr, hrun, hended, hW, hsame⟩ := X.leave (v := none) (fun _ => rfl)
  exact ⟨_, _, X.returnOut hx hret hd hr, hrun, hended, _, _, rfl, q, ⟨_, rfl⟩, hW, hsame.mono hC hS⟩
/-- return of an int -/
theorem Go.retI {Q : Option Value → Heap → List Loc → Prop} {C S : Nat} (X : Stand p l e R s m args below meth c T locs cells slots) (hx : p.tables.exec = Jvm.exec) (hlk : meth.locks = false) (hret : meth.sig.returnType = some .int) {pc : Nat} {Ls : Array Slot} {z : Int32} {rest : List Value} (hd : decode c.code pc = .ok (.ireturn, 1)) (hC : cells ≤ C) (hS : slots ≤ S) (q : Q (some (.int z)) T.heap locs) :
    Go p e below (KQ s below Q C S) (T.setTop (mkF m pc Ls (.int z :: rest))) := by
  obtain ⟨fs, hr, hrun, hended, hW, hsame⟩ := X.leave (v := some (.int z)) (fun h => by rw [hret] at h; cases h)
  exact ⟨_, _, retOut X hx hret rfl (Or.inl ⟨rfl, Or.inl rfl, _, rfl⟩) hd hr, hrun, hended, _, _, rfl, q, ⟨_, rfl⟩, hW, hsame.mono hC hS⟩
/-- return of a boolean, byte, char or short -/
theorem Go.retN {Q : Option Value → Heap → List Loc → Prop} {C S : Nat} (X : Stand p l e R s m args below meth c T locs cells slots) (hx : p.tables.exec = Jvm.exec) (hlk : meth.locks = false) {t : FieldType} (hret : meth.sig.returnType = some t) (ht : t = .boolean ∨ t = .byte ∨ t = .char ∨ t = .short) {pc : Nat} {Ls : Array Slot} {z : Int32} {rest : List Value} (hd : decode c.code pc = .ok (.ireturn, 1)) (hC : cells ≤ C) (hS : slots ≤ S) (q : Q (some (.int (nar t z))) T.heap locs) :
    Go p e below (KQ s below Q C S) (T.setTop (mkF m pc Ls (.int z :: rest))) := by
  obtain ⟨fs, hr, hrun, hended, hW, hsame⟩ := X.leave (v := some (.int (nar t z))) (fun h => by rw [hret] at h; cases h)
  exact ⟨_, _, RoadKit.retN X hx hret ht hd hr, hrun, hended, _, _, rfl, q, ⟨_, rfl⟩, hW, hsame.mono hC hS⟩
/-- return of a reference -/
theorem Go.retA {Q : Option Value → Heap → List Loc → Prop} {C S : Nat} (X : Stand p l e R s m args below meth c T locs cells slots) (hx : p.tables.exec = Jvm.exec) (hlk : meth.locks = false) {t : FieldType} (hret : meth.sig.returnType = some t) (ht : t.isReference = true) {pc : Nat} {Ls : Array Slot} {w : Value} (hw : w.isRef = true) {rest : List Value} (hd : decode c.code pc = .ok (.areturn, 1)) (hC : cells ≤ C) (hS : slots ≤ S) (q : Q (some w) T.heap locs) :
    Go p e below (KQ s below Q C S) (T.setTop (mkF m pc Ls (w :: rest))) := by
  obtain ⟨fs, hr, hrun, hended, hW, hsame⟩ := X.leave (v := some w) (fun h => by rw [hret] at h; cases h)
  exact ⟨_, _, retOut X hx hret (by cases t <;> cases w <;> simp_all [narrow, Value.isRef, FieldType.isReference]) (Or.inr (Or.inr (Or.inr (Or.inr ⟨rfl, ht, hw⟩)))) hd hr, hrun, hended, _, _, rfl, q, ⟨_, rfl⟩, hW, hsame.mono hC hS⟩
/-- return of a long -/
theorem Go.retJ {Q : Option Value → Heap → List Loc → Prop} {C S : Nat} (X : Stand p l e R s m args below meth c T locs cells slots) (hx : p.tables.exec = Jvm.exec) (hlk : meth.locks = false) (hret : meth.sig.returnType = some .long) {pc : Nat} {Ls : Array Slot} {z : Int64} {rest : List Value} (hd : decode c.code pc = .ok (.lreturn, 1)) (hC : cells ≤ C) (hS : slots ≤ S) (q : Q (some (.long z)) T.heap locs) :
    Go p e below (KQ s below Q C S) (T.setTop (mkF m pc Ls (.long z :: rest))) := by
  obtain ⟨fs, hr, hrun, hended, hW, hsame⟩ := X.leave (v := some (.long z)) (fun h => by rw [hret] at h; cases h)
  exact ⟨_, _, retOut X hx hret rfl (Or.inr (Or.inl ⟨rfl, rfl, _, rfl⟩)) hd hr, hrun, hended, _, _, rfl, q, ⟨_, rfl⟩, hW, hsame.mono hC hS⟩
/-- return of a double -/
theorem Go.retD {Q : Option Value → Heap → List Loc → Prop} {C S : Nat} (X : Stand p l e R s m args below meth c T locs cells slots) (hx : p.tables.exec = Jvm.exec) (hlk : meth.locks = false) (hret : meth.sig.returnType = some .double) {pc : Nat} {Ls : Array Slot} {z : UInt64} {rest : List Value} (hd : decode c.code pc = .ok (.dreturn, 1)) (hC : cells ≤ C) (hS : slots ≤ S) (q : Q (some (.double z)) T.heap locs) :
    Go p e below (KQ s below Q C S) (T.setTop (mkF m pc Ls (.double z :: rest))) := by
  obtain ⟨fs, hr, hrun, hended, hW, hsame⟩ := X.leave (v := some (.double z)) (fun h => by rw [hret] at h; cases h)
  exact ⟨_, _, retOut X hx hret rfl (Or.inr (Or.inr (Or.inl ⟨rfl, rfl, _, rfl⟩))) hd hr, hrun, hended, _, _, rfl, q, ⟨_, rfl⟩, hW, hsame.mono hC hS⟩
theorem g_iloadN {K : State → Outcome → Prop} (X : Stand p l e R s m args below meth c T locs cells slots) (hx : p.tables.exec = Jvm.exec) {pc : Nat} {L : Array Slot} {S : List Value} {k : Fin 4} {v : Int32} (hd : decode c.code pc = .ok (.iload_n k, 1)) (pc' : Nat) (hp : pc + 1 = pc') (hl : L[k.val]? = some (.val (.int v))) (r : Go p e below K (T.setTop (mkF m pc' L (.int v :: S)))) : Go p e below K (T.setTop (mkF m pc L S)) := by
  subst hp
  exact Go.st (fun _ => XS.iloadN X.here hx rfl hd hl) r
theorem g_iload {K : State → Outcome → Prop} (X : Stand p l e R s m args below meth c T locs cells slots) (hx : p.tables.exec = Jvm.exec) {pc : Nat} {L : Array Slot} {S : List Value} {k : Nat} {v : Int32} (hd : decode c.code pc = .ok (.iload k, 2)) (pc' : Nat) (hp : pc + 2 = pc') (hl : L[k]? = some (.val (.int v))) (r : Go p e below K (T.setTop (mkF m pc' L (.int v :: S)))) : Go p e below K (T.setTop (mkF m pc L S)) := by
  subst hp
  exact Go.st (fun _ => XS.iload X.here hx rfl hd hl) r
theorem g_lloadN {K : State → Outcome → Prop} (X : Stand p l e R s m args below meth c T locs cells slots) (hx : p.tables.exec = Jvm.exec) {pc : Nat} {L : Array Slot} {S : List Value} {k : Fin 4} {v : Int64} (hd : decode c.code pc = .ok (.lload_n k, 1)) (pc' : Nat) (hp : pc + 1 = pc') (hl : L[k.val]? = some (.val (.long v))) (r : Go p e below K (T.setTop (mkF m pc' L (.long v :: S)))) : Go p e below K (T.setTop (mkF m pc L S)) := by
  subst hp
  exact Go.st (fun _ => XT.lloadN X.here hx rfl hd hl) r
theorem g_lload {K : State → Outcome → Prop} (X : Stand p l e R s m args below meth c T locs cells slots) (hx : p.tables.exec = Jvm.exec) {pc : Nat} {L : Array Slot} {S : List Value} {k : Nat} {v : Int64} (hd : decode c.code pc = .ok (.lload k, 2)) (pc' : Nat) (hp : pc + 2 = pc') (hl : L[k]? = some (.val (.long v))) (r : Go p e below K (T.setTop (mkF m pc' L (.long v :: S)))) : Go p e below K (T.setTop (mkF m pc L S)) := by
  subst hp
  exact Go.st (fun _ => XT.lload X.here hx rfl hd hl) r
theorem g_aloadN {K : State → Outcome → Prop} (X : Stand p l e R s m args below meth c T locs cells slots) (hx : p.tables.exec = Jvm.exec) {pc : Nat} {L : Array Slot} {S : List Value} {k : Fin 4} {v : Value} (hd : decode c.code pc = .ok (.aload_n k, 1)) (pc' : Nat) (hp : pc + 1 = pc') (hl : L[k.val]? = some (.val v)) (hv : v.isRef = true) (r : Go p e below K (T.setTop (mkF m pc' L (v :: S)))) : Go p e below K (T.setTop (mkF m pc L S)) := by
  subst hp
  exact Go.st (fun _ => XS.aloadN X.here hx rfl hd hl hv) r
theorem g_aload {K : State → Outcome → Prop} (X : Stand p l e R s m args below meth c T locs cells slots) (hx : p.tables.exec = Jvm.exec) {pc : Nat} {L : Array Slot} {S : List Value} {k : Nat} {v : Value} (hd : decode c.code pc = .ok (.aload k, 2)) (pc' : Nat) (hp : pc + 2 = pc') (hl : L[k]? = some (.val v)) (hv : v.isRef = true) (r : Go p e below K (T.setTop (mkF m pc' L (v :: S)))) : Go p e below K (T.setTop (mkF m pc L S)) := by
  subst hp
  exact Go.st (fun _ => XS.aload X.here hx rfl hd hl hv) r
theorem g_istore {K : State → Outcome → Prop} (X : Stand p l e R s m args below meth c T locs cells slots) (hx : p.tables.exec = Jvm.exec) {pc : Nat} {L : Array Slot} {S : List Value} {k : Nat} {v : Int32} (hd : decode c.code pc = .ok (.istore k, 2)) (pc' : Nat) (hp : pc + 2 = pc') (L' : Array Slot) (hl : storeLocals L k (.int v) = some L') (r : Go p e below K (T.setTop (mkF m pc' L' S))) : Go p e below K (T.setTop (mkF m pc L (.int v :: S))) := by
  subst hp
  exact Go.st (fun _ => XS.istore X.here hx rfl hd rfl hl) r
theorem g_lstoreN {K : State → Outcome → Prop} (X : Stand p l e R s m args below meth c T locs cells slots) (hx : p.tables.exec = Jvm.exec) {pc : Nat} {L : Array Slot} {S : List Value} {k : Fin 4} {v : Int64} (hd : decode c.code pc = .ok (.lstore_n k, 1)) (pc' : Nat) (hp : pc + 1 = pc') (L' : Array Slot) (hl : storeLocals L k.val (.long v) = some L') (r : Go p e below K (T.setTop (mkF m pc' L' S))) : Go p e below K (T.setTop (mkF m pc L (.long v :: S))) := by
  subst hp
  exact Go.st (fun _ => XT.lstoreN X.here hx rfl hd rfl hl) r
theorem g_lstore {K : State → Outcome → Prop} (X : Stand p l e R s m args below meth c T locs cells slots) (hx : p.tables.exec = Jvm.exec) {pc : Nat} {L : Array Slot} {S : List Value} {k : Nat} {v : Int64} (hd : decode c.code pc = .ok (.lstore k, 2)) (pc' : Nat) (hp : pc + 2 = pc') (L' : Array Slot) (hl : storeLocals L k (.long v) = some L') (r : Go p e below K (T.setTop (mkF m pc' L' S))) : Go p e below K (T.setTop (mkF m pc L (.long v :: S))) := by
  subst hp
  exact Go.st (fun _ => XT.lstore X.here hx rfl hd rfl hl) r
theorem g_astore {K : State → Outcome → Prop} (X : Stand p l e R s m args below meth c T locs cells slots) (hx : p.tables.exec = Jvm.exec) {pc : Nat} {L : Array Slot} {S : List Value} {k : Nat} {v : Value} (hd : decode c.code pc = .ok (.astore k, 2)) (pc' : Nat) (hp : pc + 2 = pc') (hv : v.isRef = true) (L' : Array Slot) (hl : storeLocals L k v = some L') (r : Go p e below K (T.setTop (mkF m pc' L' S))) : Go p e below K (T.setTop (mkF m pc L (v :: S))) := by
  subst hp
  exact Go.st (fun _ => XS.astore X.here hx rfl hd rfl hv hl) r
theorem g_iconst {K : State → Outcome → Prop} (X : Stand p l e R s m args below meth c T locs cells slots) (hx : p.tables.exec = Jvm.exec) {pc : Nat} {L : Array Slot} {S : List Value} {i : Int} (hd : decode c.code pc = .ok (.iconst i, 1)) (pc' : Nat) (hp : pc + 1 = pc') (z : Int32) (hz : Int32.ofInt i = z) (r : Go p e below K (T.setTop (mkF m pc' L (.int z :: S)))) : Go p e below K (T.setTop (mkF m pc L S)) := by
  subst hp; subst hz
  exact Go.st (fun _ => XS.iconst X.here hx rfl hd) r
theorem g_bipush {K : State → Outcome → Prop} (X : Stand p l e R s m args below meth c T locs cells slots) (hx : p.tables.exec = Jvm.exec) {pc : Nat} {L : Array Slot} {S : List Value} {i : Int} (hd : decode c.code pc = .ok (.bipush i, 2)) (pc' : Nat) (hp : pc + 2 = pc') (z : Int32) (hz : (Int8.ofInt i).toInt32 = z) (r : Go p e below K (T.setTop (mkF m pc' L (.int z :: S)))) : Go p e below K (T.setTop (mkF m pc L S)) := by
  subst hp; subst hz
  exact Go.st (fun _ => XS.bipush X.here hx rfl hd) r
theorem g_iadd {K : State → Outcome → Prop} (X : Stand p l e R s m args below meth c T locs cells slots) (hx : p.tables.exec = Jvm.exec) {pc : Nat} {L : Array Slot} {S : List Value} {x y : Int32} (hd : decode c.code pc = .ok (.iadd, 1)) (pc' : Nat) (hp : pc + 1 = pc') (z : Int32) (hz : x + y = z) (r : Go p e below K (T.setTop (mkF m pc' L (.int z :: S)))) : Go p e below K (T.setTop (mkF m pc L (.int y :: .int x :: S))) := by
  subst hp; subst hz
  exact Go.st (fun _ => XS.iadd X.here hx rfl hd rfl) r
theorem g_isub {K : State → Outcome → Prop} (X : Stand p l e R s m args below meth c T locs cells slots) (hx : p.tables.exec = Jvm.exec) {pc : Nat} {L : Array Slot} {S : List Value} {x y : Int32} (hd : decode c.code pc = .ok (.isub, 1)) (pc' : Nat) (hp : pc + 1 = pc') (z : Int32) (hz : x - y = z) (r : Go p e below K (T.setTop (mkF m pc' L (.int z :: S)))) : Go p e below K (T.setTop (mkF m pc L (.int y :: .int x :: S))) := by
  subst hp; subst hz
  exact Go.st (fun _ => XS.isub X.here hx rfl hd rfl) r
theorem g_imul {K : State → Outcome → Prop} (X : Stand p l e R s m args below meth c T locs cells slots) (hx : p.tables.exec = Jvm.exec) {pc : Nat} {L : Array Slot} {S : List Value} {x y : Int32} (hd : decode c.code pc = .ok (.imul, 1)) (pc' : Nat) (hp : pc + 1 = pc') (z : Int32) (hz : x * y = z) (r : Go p e below K (T.setTop (mkF m pc' L (.int z :: S)))) : Go p e below K (T.setTop (mkF m pc L (.int y :: .int x :: S))) := by
  subst hp; subst hz
  exact Go.st (fun _ => XS.imul X.here hx rfl hd rfl) r
theorem g_iand {K : State → Outcome → Prop} (X : Stand p l e R s m args below meth c T locs cells slots) (hx : p.tables.exec = Jvm.exec) {pc : Nat} {L : Array Slot} {S : List Value} {x y : Int32} (hd : decode c.code pc = .ok (.iand, 1)) (pc' : Nat) (hp : pc + 1 = pc') (z : Int32) (hz : x &&& y = z) (r : Go p e below K (T.setTop (mkF m pc' L (.int z :: S)))) : Go p e below K (T.setTop (mkF m pc L (.int y :: .int x :: S))) := by
  subst hp; subst hz
  exact Go.st (fun _ => XS.iand X.here hx rfl hd rfl) r
theorem g_ishr {K : State → Outcome → Prop} (X : Stand p l e R s m args below meth c T locs cells slots) (hx : p.tables.exec = Jvm.exec) {pc : Nat} {L : Array Slot} {S : List Value} {x y : Int32} (hd : decode c.code pc = .ok (.ishr, 1)) (pc' : Nat) (hp : pc + 1 = pc') (z : Int32) (hz : x >>> (y &&& 31) = z) (r : Go p e below K (T.setTop (mkF m pc' L (.int z :: S)))) : Go p e below K (T.setTop (mkF m pc L (.int y :: .int x :: S))) := by
  subst hp; subst hz
  exact Go.st (fun _ => XT.ishr X.here hx rfl hd rfl) r
theorem g_irem {K : State → Outcome → Prop} (X : Stand p l e R s m args below meth c T locs cells slots) (hx : p.tables.exec = Jvm.exec) {pc : Nat} {L : Array Slot} {S : List Value} {x y : Int32} (hd : decode c.code pc = .ok (.irem, 1)) (pc' : Nat) (hp : pc + 1 = pc') (hy : y ≠ 0) (z : Int32) (hz : x % y = z) (r : Go p e below K (T.setTop (mkF m pc' L (.int z :: S)))) : Go p e below K (T.setTop (mkF m pc L (.int y :: .int x :: S))) := by
  subst hp; subst hz
  exact Go.st (fun _ => iremM X hx rfl hd rfl hy) r
theorem g_lshl {K : State → Outcome → Prop} (X : Stand p l e R s m args below meth c T locs cells slots) (hx : p.tables.exec = Jvm.exec) {pc : Nat} {L : Array Slot} {S : List Value} {x : Int64} {y : Int32} (hd : decode c.code pc = .ok (.lshl, 1)) (pc' : Nat) (hp : pc + 1 = pc') (z : Int64) (hz : x <<< (y.toInt64 &&& 63) = z) (r : Go p e below K (T.setTop (mkF m pc' L (.long z :: S)))) : Go p e below K (T.setTop (mkF m pc L (.int y :: .long x :: S))) := by
  subst hp; subst hz
  exact Go.st (fun _ => XT.lshl X.here hx rfl hd rfl) r
theorem g_lushr {K : State → Outcome → Prop} (X : Stand p l e R s m args below meth c T locs cells slots) (hx : p.tables.exec = Jvm.exec) {pc : Nat} {L : Array Slot} {S : List Value} {x : Int64} {y : Int32} (hd : decode c.code pc = .ok (.lushr, 1)) (pc' : Nat) (hp : pc + 1 = pc') (z : Int64) (hz : XT.ushrL x y = z) (r : Go p e below K (T.setTop (mkF m pc' L (.long z :: S)))) : Go p e below K (T.setTop (mkF m pc L (.int y :: .long x :: S))) := by
  subst hp; subst hz
  exact Go.st (fun _ => XT.lushr X.here hx rfl hd rfl) r
theorem g_l2i {K : State → Outcome → Prop} (X : Stand p l e R s m args below meth c T locs cells slots) (hx : p.tables.exec = Jvm.exec) {pc : Nat} {L : Array Slot} {S : List Value} {x : Int64} (hd : decode c.code pc = .ok (.l2i, 1)) (pc' : Nat) (hp : pc + 1 = pc') (z : Int32) (hz : x.toInt32 = z) (r : Go p e below K (T.setTop (mkF m pc' L (.int z :: S)))) : Go p e below K (T.setTop (mkF m pc L (.long x :: S))) := by
  subst hp; subst hz
  exact Go.st (fun _ => XT.l2i X.here hx rfl hd rfl) r
theorem g_dup {K : State → Outcome → Prop} (X : Stand p l e R s m args below meth c T locs cells slots) (hx : p.tables.exec = Jvm.exec) {pc : Nat} {L : Array Slot} {S : List Value} {x : Value} (hd : decode c.code pc = .ok (.dup, 1)) (pc' : Nat) (hp : pc + 1 = pc') (hc : x.category = 1) (r : Go p e below K (T.setTop (mkF m pc' L (x :: x :: S)))) : Go p e below K (T.setTop (mkF m pc L (x :: S))) := by
  subst hp
  exact Go.st (fun _ => XS.dup X.here hx rfl hd rfl hc) r
theorem g_goto {K : State → Outcome → Prop} (X : Stand p l e R s m args below meth c T locs cells slots) (hx : p.tables.exec = Jvm.exec) {pc : Nat} {L : Array Slot} {S : List Value} {o : Int} (hd : decode c.code pc = .ok (.goto o, 3)) (pc' : Nat) (h0 : 0 ≤ (pc : Int) + o) (hp : ((pc : Int) + o).toNat = pc') (r : Go p e below K (T.setTop (mkF m pc' L S))) : Go p e below K (T.setTop (mkF m pc L S)) :=
  Go.st (fun _ => XS.goto X.here hx rfl (pc0 := pc) rfl hd h0 hp) r
theorem g_icmp {K : State → Outcome → Prop} (X : Stand p l e R s m args below meth c T locs cells slots) (hx : p.tables.exec = Jvm.exec) {pc : Nat} {L : Array Slot} {S : List Value} {cd : ClassFile.Cond} {o : Int} {x y : Int32} (hd : decode c.code pc = .ok (.if_icmp cd o, 3)) (pc1 pc2 : Nat) (h0 : 0 ≤ (pc : Int) + o) (h1 : ((pc : Int) + o).toNat = pc1) (h2 : pc + 3 = pc2) (yes : if_icmp.holds cd x y = true → Go p e below K (T.setTop (mkF m pc1 L S))) (no : if_icmp.holds cd x y = false → Go p e below K (T.setTop (mkF m pc2 L S))) : Go p e below K (T.setTop (mkF m pc L (.int y :: .int x :: S))) := by
  subst h2
  cases hc : if_icmp.holds cd x y with
  | true => exact Go.st (fun _ => XS.icmpYes X.here hx rfl (pc0 := pc) rfl hd rfl hc h0 h1) (yes hc)
  | false => exact Go.st (fun _ => XS.icmpNo X.here hx rfl hd rfl hc) (no hc)
theorem g_if {K : State → Outcome → Prop} (X : Stand p l e R s m args below meth c T locs cells slots) (hx : p.tables.exec = Jvm.exec) {pc : Nat} {L : Array Slot} {S : List Value} {cd : ClassFile.Cond} {o : Int} {x : Int32} (hd : decode c.code pc = .ok (.ifCond cd o, 3)) (pc1 pc2 : Nat) (h0 : 0 ≤ (pc : Int) + o) (h1 : ((pc : Int) + o).toNat = pc1) (h2 : pc + 3 = pc2) (yes : if_icmp.holds cd x 0 = true → Go p e below K (T.setTop (mkF m pc1 L S))) (no : if_icmp.holds cd x 0 = false → Go p e below K (T.setTop (mkF m pc2 L S))) : Go p e below K (T.setTop (mkF m pc L (.int x :: S))) := by
  subst h2
  cases hc : if_icmp.holds cd x 0 with
  | true => exact Go.st (fun _ => XS.ifYes X.here hx rfl (pc0 := pc) rfl hd rfl ((if0 cd x).trans hc) h0 h1) (yes hc)
  | false => exact Go.st (fun _ => XS.ifNo X.here hx rfl hd rfl ((if0 cd x).trans hc)) (no hc)
theorem g_icmp_ne {K : State → Outcome → Prop} (X : Stand p l e R s m args below meth c T locs cells slots) (hx : p.tables.exec = Jvm.exec) {pc : Nat} {L : Array Slot} {S : List Value} {o : Int} {x y : Int32} (hd : decode c.code pc = .ok (.if_icmp .ne o, 3)) (pc1 pc2 : Nat) (h0 : 0 ≤ (pc : Int) + o) (h1 : ((pc : Int) + o).toNat = pc1) (h2 : pc + 3 = pc2) (yes : ¬ x = y → Go p e below K (T.setTop (mkF m pc1 L S))) (no : x = y → Go p e below K (T.setTop (mkF m pc2 L S))) : Go p e below K (T.setTop (mkF m pc L (.int y :: .int x :: S))) := by
  refine g_icmp X hx hd pc1 pc2 h0 h1 h2 (fun hc => ?_) (fun hc => ?_)
  · by_cases q : x = y
    · rw [(teq q).2] at hc; cases hc
    · exact yes q
  · by_cases q : x = y
    · exact no q
    · rw [(feq q).2] at hc; cases hc
theorem g_if_ne {K : State → Outcome → Prop} (X : Stand p l e R s m args below meth c T locs cells slots) (hx : p.tables.exec = Jvm.exec) {pc : Nat} {L : Array Slot} {S : List Value} {o : Int} {x : Int32} (hd : decode c.code pc = .ok (.ifCond .ne o, 3)) (pc1 pc2 : Nat) (h0 : 0 ≤ (pc : Int) + o) (h1 : ((pc : Int) + o).toNat = pc1) (h2 : pc + 3 = pc2) (yes : ¬ x = (0 : Int32) → Go p e below K (T.setTop (mkF m pc1 L S))) (no : x = (0 : Int32) → Go p e below K (T.setTop (mkF m pc2 L S))) : Go p e below K (T.setTop (mkF m pc L (.int x :: S))) := by
  refine g_if X hx hd pc1 pc2 h0 h1 h2 (fun hc => ?_) (fun hc => ?_)
  · by_cases q : x = (0 : Int32)
    · rw [(teq q).2] at hc; cases hc
    · exact yes q
  · by_cases q : x = (0 : Int32)
    · exact no q
    · rw [(feq q).2] at hc; cases hc
theorem g_if_lt {K : State → Outcome → Prop} (X : Stand p l e R s m args below meth c T locs cells slots) (hx : p.tables.exec = Jvm.exec) {pc : Nat} {L : Array Slot} {S : List Value} {o : Int} {x : Int32} (hd : decode c.code pc = .ok (.ifCond .lt o, 3)) (pc1 pc2 : Nat) (h0 : 0 ≤ (pc : Int) + o) (h1 : ((pc : Int) + o).toNat = pc1) (h2 : pc + 3 = pc2) (yes : x < (0 : Int32) → Go p e below K (T.setTop (mkF m pc1 L S))) (no : ¬ x < (0 : Int32) → Go p e below K (T.setTop (mkF m pc2 L S))) : Go p e below K (T.setTop (mkF m pc L (.int x :: S))) := by
  refine g_if X hx hd pc1 pc2 h0 h1 h2 (fun hc => ?_) (fun hc => ?_)
  · by_cases q : x < (0 : Int32)
    · exact yes q
    · rw [(flt q).1] at hc; cases hc
  · by_cases q : x < (0 : Int32)
    · rw [(tlt q).1] at hc; cases hc
    · exact no q
theorem g_icmp_ge {K : State → Outcome → Prop} (X : Stand p l e R s m args below meth c T locs cells slots) (hx : p.tables.exec = Jvm.exec) {pc : Nat} {L : Array Slot} {S : List Value} {o : Int} {x y : Int32} (hd : decode c.code pc = .ok (.if_icmp .ge o, 3)) (pc1 pc2 : Nat) (h0 : 0 ≤ (pc : Int) + o) (h1 : ((pc : Int) + o).toNat = pc1) (h2 : pc + 3 = pc2) (yes : ¬ x < y → Go p e below K (T.setTop (mkF m pc1 L S))) (no : x < y → Go p e below K (T.setTop (mkF m pc2 L S))) : Go p e below K (T.setTop (mkF m pc L (.int y :: .int x :: S))) := by
  refine g_icmp X hx hd pc1 pc2 h0 h1 h2 (fun hc => ?_) (fun hc => ?_)
  · by_cases q : x < y
    · rw [(tlt q).2.1] at hc; cases hc
    · exact yes q
  · by_cases q : x < y
    · exact no q
    · rw [(flt q).2.1] at hc; cases hc
theorem g_icmp_gt {K : State → Outcome → Prop} (X : Stand p l e R s m args below meth c T locs cells slots) (hx : p.tables.exec = Jvm.exec) {pc : Nat} {L : Array Slot} {S : List Value} {o : Int} {x y : Int32} (hd : decode c.code pc = .ok (.if_icmp .gt o, 3)) (pc1 pc2 : Nat) (h0 : 0 ≤ (pc : Int) + o) (h1 : ((pc : Int) + o).toNat = pc1) (h2 : pc + 3 = pc2) (yes : y < x → Go p e below K (T.setTop (mkF m pc1 L S))) (no : ¬ y < x → Go p e below K (T.setTop (mkF m pc2 L S))) : Go p e below K (T.setTop (mkF m pc L (.int y :: .int x :: S))) := by
  refine g_icmp X hx hd pc1 pc2 h0 h1 h2 (fun hc => ?_) (fun hc => ?_)
  · by_cases q : y < x
    · exact yes q
    · rw [(flt q).2.2.1] at hc; cases hc
  · by_cases q : y < x
    · rw [(tlt q).2.2.1] at hc; cases hc
    · exact no q
end Layer
def own_dig (hi lo : Int64) (p : Int32) : Int32 := (XT.ushrL (if p < (16 : Int32) then hi else lo) ((64 : Int32) - ((4 : Int32) * ((p % (16 : Int32)) + (1 : Int32))))).toInt32 &&& (15 : Int32)
theorem own_ur (w : Int64) (q : Int32) (k : Nat) (h0 : 0 < k) (hk : q.toBitVec.toNat % 64 = k) (he : q.toInt64.toUInt64 &&& Int64.toUInt64 63 = (q &&& 0x3f).toInt64.toUInt64) : (XT.ushrL w q).toInt = (w.toInt % 18446744073709551616) / (2 ^ k : Nat) := by
  unfold XT.ushrL
  rw [he]
  exact c_lushr w q k hk h0
theorem own_ls (w : Int64) (q : Int32) (k : Nat) (hk : q.toBitVec.toNat % 64 = k) (he : q.toInt64 &&& 63 = (q &&& 0x3f).toInt64) : ((w <<< (q.toInt64 &&& 63)).toInt - w.toInt * (2 ^ k : Nat)) % 18446744073709551616 = 0 := by
  rw [he]
  exact c_lshl w q k hk
theorem own_u0 (w : Int64) : XT.ushrL w (0 : Int32) = w := by
  have h : (0 : Int32).toInt64.toUInt64 &&& Int64.toUInt64 63 = 0 := by decide
  unfold XT.ushrL
  rw [h]
  simp
theorem own_nib0 (w : Int64) : (XT.ushrL w (60 : Int32)).toInt32 &&& (15 : Int32) = (XT.ushrL (w <<< ((0 : Int32).toInt64 &&& 63)) (60 : Int32)).toInt32 := by
  have h1 : (XT.ushrL w (60 : Int32)).toInt % 18446744073709551616 = (w.toInt % 18446744073709551616) / 1152921504606846976 := by rw [own_ur w 60 60 (by decide) (by decide) (by decide)]; have := rng64 w; omega
  have h2 := c_mask (XT.ushrL w (60 : Int32)).toInt32 (15 : Int32) 4 (by decide) (by decide)
  have h3 := c_l2i (XT.ushrL w (60 : Int32))
  have h4 := own_ls w (0 : Int32) 0 (by decide) (by decide)
  have h5 := own_ur (w <<< ((0 : Int32).toInt64 &&& 63)) (60 : Int32) 60 (by decide) (by decide) (by decide)
  have h6 := c_l2i (XT.ushrL (w <<< ((0 : Int32).toInt64 &&& 63)) (60 : Int32))
  have h7 := rng64 w
  have h8 := rng64 (w <<< ((0 : Int32).toInt64 &&& 63))
  have h9 := rng32 (XT.ushrL (w <<< ((0 : Int32).toInt64 &&& 63)) (60 : Int32)).toInt32
  rw [← Int32.toInt_inj]
  simp only [Nat.reducePow] at h2 h4 h5
  generalize XT.ushrL w (60 : Int32) = A at *
  generalize XT.ushrL (w <<< ((0 : Int32).toInt64 &&& 63)) (60 : Int32) = C at *
  generalize w <<< ((0 : Int32).toInt64 &&& 63) = B at *
  omega
theorem own_nib1 (w : Int64) : (XT.ushrL w (56 : Int32)).toInt32 &&& (15 : Int32) = (XT.ushrL (w <<< ((4 : Int32).toInt64 &&& 63)) (60 : Int32)).toInt32 := by
  have h1 : (XT.ushrL w (56 : Int32)).toInt % 18446744073709551616 = (w.toInt % 18446744073709551616) / 72057594037927936 := by rw [own_ur w 56 56 (by decide) (by decide) (by decide)]; have := rng64 w; omega
  have h2 := c_mask (XT.ushrL w (56 : Int32)).toInt32 (15 : Int32) 4 (by decide) (by decide)
  have h3 := c_l2i (XT.ushrL w (56 : Int32))
  have h4 := own_ls w (4 : Int32) 4 (by decide) (by decide)
  have h5 := own_ur (w <<< ((4 : Int32).toInt64 &&& 63)) (60 : Int32) 60 (by decide) (by decide) (by decide)
  have h6 := c_l2i (XT.ushrL (w <<< ((4 : Int32).toInt64 &&& 63)) (60 : Int32))
  have h7 := rng64 w
  have h8 := rng64 (w <<< ((4 : Int32).toInt64 &&& 63))
  have h9 := rng32 (XT.ushrL (w <<< ((4 : Int32).toInt64 &&& 63)) (60 : Int32)).toInt32
  rw [← Int32.toInt_inj]
  simp only [Nat.reducePow] at h2 h4 h5
  generalize XT.ushrL w (56 : Int32) = A at *
  generalize XT.ushrL (w <<< ((4 : Int32).toInt64 &&& 63)) (60 : Int32) = C at *
  generalize w <<< ((4 : Int32).toInt64 &&& 63) = B at *
  omega
theorem own_nib2 (w : Int64) : (XT.ushrL w (52 : Int32)).toInt32 &&& (15 : Int32) = (XT.ushrL (w <<< ((8 : Int32).toInt64 &&& 63)) (60 : Int32)).toInt32 := by
  have h1 : (XT.ushrL w (52 : Int32)).toInt % 18446744073709551616 = (w.toInt % 18446744073709551616) / 4503599627370496 := by rw [own_ur w 52 52 (by decide) (by decide) (by decide)]; have := rng64 w; omega
  have h2 := c_mask (XT.ushrL w (52 : Int32)).toInt32 (15 : Int32) 4 (by decide) (by decide)
  have h3 := c_l2i (XT.ushrL w (52 : Int32))
  have h4 := own_ls w (8 : Int32) 8 (by decide) (by decide)
  have h5 := own_ur (w <<< ((8 : Int32).toInt64 &&& 63)) (60 : Int32) 60 (by decide) (by decide) (by decide)
  have h6 := c_l2i (XT.ushrL (w <<< ((8 : Int32).toInt64 &&& 63)) (60 : Int32))
  have h7 := rng64 w
  have h8 := rng64 (w <<< ((8 : Int32).toInt64 &&& 63))
  have h9 := rng32 (XT.ushrL (w <<< ((8 : Int32).toInt64 &&& 63)) (60 : Int32)).toInt32
  rw [← Int32.toInt_inj]
  simp only [Nat.reducePow] at h2 h4 h5
  generalize XT.ushrL w (52 : Int32) = A at *
  generalize XT.ushrL (w <<< ((8 : Int32).toInt64 &&& 63)) (60 : Int32) = C at *
  generalize w <<< ((8 : Int32).toInt64 &&& 63) = B at *
  omega
theorem own_nib3 (w : Int64) : (XT.ushrL w (48 : Int32)).toInt32 &&& (15 : Int32) = (XT.ushrL (w <<< ((12 : Int32).toInt64 &&& 63)) (60 : Int32)).toInt32 := by
  have h1 : (XT.ushrL w (48 : Int32)).toInt % 18446744073709551616 = (w.toInt % 18446744073709551616) / 281474976710656 := by rw [own_ur w 48 48 (by decide) (by decide) (by decide)]; have := rng64 w; omega
  have h2 := c_mask (XT.ushrL w (48 : Int32)).toInt32 (15 : Int32) 4 (by decide) (by decide)
  have h3 := c_l2i (XT.ushrL w (48 : Int32))
  have h4 := own_ls w (12 : Int32) 12 (by decide) (by decide)
  have h5 := own_ur (w <<< ((12 : Int32).toInt64 &&& 63)) (60 : Int32) 60 (by decide) (by decide) (by decide)
  have h6 := c_l2i (XT.ushrL (w <<< ((12 : Int32).toInt64 &&& 63)) (60 : Int32))
  have h7 := rng64 w
  have h8 := rng64 (w <<< ((12 : Int32).toInt64 &&& 63))
  have h9 := rng32 (XT.ushrL (w <<< ((12 : Int32).toInt64 &&& 63)) (60 : Int32)).toInt32
  rw [← Int32.toInt_inj]
  simp only [Nat.reducePow] at h2 h4 h5
  generalize XT.ushrL w (48 : Int32) = A at *
  generalize XT.ushrL (w <<< ((12 : Int32).toInt64 &&& 63)) (60 : Int32) = C at *
  generalize w <<< ((12 : Int32).toInt64 &&& 63) = B at *
  omega
theorem own_nib4 (w : Int64) : (XT.ushrL w (44 : Int32)).toInt32 &&& (15 : Int32) = (XT.ushrL (w <<< ((16 : Int32).toInt64 &&& 63)) (60 : Int32)).toInt32 := by
  have h1 : (XT.ushrL w (44 : Int32)).toInt % 18446744073709551616 = (w.toInt % 18446744073709551616) / 17592186044416 := by rw [own_ur w 44 44 (by decide) (by decide) (by decide)]; have := rng64 w; omega
  have h2 := c_mask (XT.ushrL w (44 : Int32)).toInt32 (15 : Int32) 4 (by decide) (by decide)
  have h3 := c_l2i (XT.ushrL w (44 : Int32))
  have h4 := own_ls w (16 : Int32) 16 (by decide) (by decide)
  have h5 := own_ur (w <<< ((16 : Int32).toInt64 &&& 63)) (60 : Int32) 60 (by decide) (by decide) (by decide)
  have h6 := c_l2i (XT.ushrL (w <<< ((16 : Int32).toInt64 &&& 63)) (60 : Int32))
  have h7 := rng64 w
  have h8 := rng64 (w <<< ((16 : Int32).toInt64 &&& 63))
  have h9 := rng32 (XT.ushrL (w <<< ((16 : Int32).toInt64 &&& 63)) (60 : Int32)).toInt32
  rw [← Int32.toInt_inj]
  simp only [Nat.reducePow] at h2 h4 h5
  generalize XT.ushrL w (44 : Int32) = A at *
  generalize XT.ushrL (w <<< ((16 : Int32).toInt64 &&& 63)) (60 : Int32) = C at *
  generalize w <<< ((16 : Int32).toInt64 &&& 63) = B at *
  omega
theorem own_nib5 (w : Int64) : (XT.ushrL w (40 : Int32)).toInt32 &&& (15 : Int32) = (XT.ushrL (w <<< ((20 : Int32).toInt64 &&& 63)) (60 : Int32)).toInt32 := by
  have h1 : (XT.ushrL w (40 : Int32)).toInt % 18446744073709551616 = (w.toInt % 18446744073709551616) / 1099511627776 := by rw [own_ur w 40 40 (by decide) (by decide) (by decide)]; have := rng64 w; omega
  have h2 := c_mask (XT.ushrL w (40 : Int32)).toInt32 (15 : Int32) 4 (by decide) (by decide)
  have h3 := c_l2i (XT.ushrL w (40 : Int32))
  have h4 := own_ls w (20 : Int32) 20 (by decide) (by decide)
  have h5 := own_ur (w <<< ((20 : Int32).toInt64 &&& 63)) (60 : Int32) 60 (by decide) (by decide) (by decide)
  have h6 := c_l2i (XT.ushrL (w <<< ((20 : Int32).toInt64 &&& 63)) (60 : Int32))
  have h7 := rng64 w
  have h8 := rng64 (w <<< ((20 : Int32).toInt64 &&& 63))
  have h9 := rng32 (XT.ushrL (w <<< ((20 : Int32).toInt64 &&& 63)) (60 : Int32)).toInt32
  rw [← Int32.toInt_inj]
  simp only [Nat.reducePow] at h2 h4 h5
  generalize XT.ushrL w (40 : Int32) = A at *
  generalize XT.ushrL (w <<< ((20 : Int32).toInt64 &&& 63)) (60 : Int32) = C at *
  generalize w <<< ((20 : Int32).toInt64 &&& 63) = B at *
  omega
theorem own_nib6 (w : Int64) : (XT.ushrL w (36 : Int32)).toInt32 &&& (15 : Int32) = (XT.ushrL (w <<< ((24 : Int32).toInt64 &&& 63)) (60 : Int32)).toInt32 := by
  have h1 : (XT.ushrL w (36 : Int32)).toInt % 18446744073709551616 = (w.toInt % 18446744073709551616) / 68719476736 := by rw [own_ur w 36 36 (by decide) (by decide) (by decide)]; have := rng64 w; omega
  have h2 := c_mask (XT.ushrL w (36 : Int32)).toInt32 (15 : Int32) 4 (by decide) (by decide)
  have h3 := c_l2i (XT.ushrL w (36 : Int32))
  have h4 := own_ls w (24 : Int32) 24 (by decide) (by decide)
  have h5 := own_ur (w <<< ((24 : Int32).toInt64 &&& 63)) (60 : Int32) 60 (by decide) (by decide) (by decide)
  have h6 := c_l2i (XT.ushrL (w <<< ((24 : Int32).toInt64 &&& 63)) (60 : Int32))
  have h7 := rng64 w
  have h8 := rng64 (w <<< ((24 : Int32).toInt64 &&& 63))
  have h9 := rng32 (XT.ushrL (w <<< ((24 : Int32).toInt64 &&& 63)) (60 : Int32)).toInt32
  rw [← Int32.toInt_inj]
  simp only [Nat.reducePow] at h2 h4 h5
  generalize XT.ushrL w (36 : Int32) = A at *
  generalize XT.ushrL (w <<< ((24 : Int32).toInt64 &&& 63)) (60 : Int32) = C at *
  generalize w <<< ((24 : Int32).toInt64 &&& 63) = B at *
  omega
theorem own_nib7 (w : Int64) : (XT.ushrL w (32 : Int32)).toInt32 &&& (15 : Int32) = (XT.ushrL (w <<< ((28 : Int32).toInt64 &&& 63)) (60 : Int32)).toInt32 := by
  have h1 : (XT.ushrL w (32 : Int32)).toInt % 18446744073709551616 = (w.toInt % 18446744073709551616) / 4294967296 := by rw [own_ur w 32 32 (by decide) (by decide) (by decide)]; have := rng64 w; omega
  have h2 := c_mask (XT.ushrL w (32 : Int32)).toInt32 (15 : Int32) 4 (by decide) (by decide)
  have h3 := c_l2i (XT.ushrL w (32 : Int32))
  have h4 := own_ls w (28 : Int32) 28 (by decide) (by decide)
  have h5 := own_ur (w <<< ((28 : Int32).toInt64 &&& 63)) (60 : Int32) 60 (by decide) (by decide) (by decide)
  have h6 := c_l2i (XT.ushrL (w <<< ((28 : Int32).toInt64 &&& 63)) (60 : Int32))
  have h7 := rng64 w
  have h8 := rng64 (w <<< ((28 : Int32).toInt64 &&& 63))
  have h9 := rng32 (XT.ushrL (w <<< ((28 : Int32).toInt64 &&& 63)) (60 : Int32)).toInt32
  rw [← Int32.toInt_inj]
  simp only [Nat.reducePow] at h2 h4 h5
  generalize XT.ushrL w (32 : Int32) = A at *
  generalize XT.ushrL (w <<< ((28 : Int32).toInt64 &&& 63)) (60 : Int32) = C at *
  generalize w <<< ((28 : Int32).toInt64 &&& 63) = B at *
  omega
theorem own_nib8 (w : Int64) : (XT.ushrL w (28 : Int32)).toInt32 &&& (15 : Int32) = (XT.ushrL (w <<< ((32 : Int32).toInt64 &&& 63)) (60 : Int32)).toInt32 := by
  have h1 : (XT.ushrL w (28 : Int32)).toInt % 18446744073709551616 = (w.toInt % 18446744073709551616) / 268435456 := by rw [own_ur w 28 28 (by decide) (by decide) (by decide)]; have := rng64 w; omega
  have h2 := c_mask (XT.ushrL w (28 : Int32)).toInt32 (15 : Int32) 4 (by decide) (by decide)
  have h3 := c_l2i (XT.ushrL w (28 : Int32))
  have h4 := own_ls w (32 : Int32) 32 (by decide) (by decide)
  have h5 := own_ur (w <<< ((32 : Int32).toInt64 &&& 63)) (60 : Int32) 60 (by decide) (by decide) (by decide)
  have h6 := c_l2i (XT.ushrL (w <<< ((32 : Int32).toInt64 &&& 63)) (60 : Int32))
  have h7 := rng64 w
  have h8 := rng64 (w <<< ((32 : Int32).toInt64 &&& 63))
  have h9 := rng32 (XT.ushrL (w <<< ((32 : Int32).toInt64 &&& 63)) (60 : Int32)).toInt32
  rw [← Int32.toInt_inj]
  simp only [Nat.reducePow] at h2 h4 h5
  generalize XT.ushrL w (28 : Int32) = A at *
  generalize XT.ushrL (w <<< ((32 : Int32).toInt64 &&& 63)) (60 : Int32) = C at *
  generalize w <<< ((32 : Int32).toInt64 &&& 63) = B at *
  omega
theorem own_nib9 (w : Int64) : (XT.ushrL w (24 : Int32)).toInt32 &&& (15 : Int32) = (XT.ushrL (w <<< ((36 : Int32).toInt64 &&& 63)) (60 : Int32)).toInt32 := by
  have h1 : (XT.ushrL w (24 : Int32)).toInt % 18446744073709551616 = (w.toInt % 18446744073709551616) / 16777216 := by rw [own_ur w 24 24 (by decide) (by decide) (by decide)]; have := rng64 w; omega
  have h2 := c_mask (XT.ushrL w (24 : Int32)).toInt32 (15 : Int32) 4 (by decide) (by decide)
  have h3 := c_l2i (XT.ushrL w (24 : Int32))
  have h4 := own_ls w (36 : Int32) 36 (by decide) (by decide)
  have h5 := own_ur (w <<< ((36 : Int32).toInt64 &&& 63)) (60 : Int32) 60 (by decide) (by decide) (by decide)
  have h6 := c_l2i (XT.ushrL (w <<< ((36 : Int32).toInt64 &&& 63)) (60 : Int32))
  have h7 := rng64 w
  have h8 := rng64 (w <<< ((36 : Int32).toInt64 &&& 63))
  have h9 := rng32 (XT.ushrL (w <<< ((36 : Int32).toInt64 &&& 63)) (60 : Int32)).toInt32
  rw [← Int32.toInt_inj]
  simp only [Nat.reducePow] at h2 h4 h5
  generalize XT.ushrL w (24 : Int32) = A at *
  generalize XT.ushrL (w <<< ((36 : Int32).toInt64 &&& 63)) (60 : Int32) = C at *
  generalize w <<< ((36 : Int32).toInt64 &&& 63) = B at *
  omega
theorem own_nib10 (w : Int64) : (XT.ushrL w (20 : Int32)).toInt32 &&& (15 : Int32) = (XT.ushrL (w <<< ((40 : Int32).toInt64 &&& 63)) (60 : Int32)).toInt32 := by
  have h1 : (XT.ushrL w (20 : Int32)).toInt % 18446744073709551616 = (w.toInt % 18446744073709551616) / 1048576 := by rw [own_ur w 20 20 (by decide) (by decide) (by decide)]; have := rng64 w; omega
  have h2 := c_mask (XT.ushrL w (20 : Int32)).toInt32 (15 : Int32) 4 (by decide) (by decide)
  have h3 := c_l2i (XT.ushrL w (20 : Int32))
  have h4 := own_ls w (40 : Int32) 40 (by decide) (by decide)
  have h5 := own_ur (w <<< ((40 : Int32).toInt64 &&& 63)) (60 : Int32) 60 (by decide) (by decide) (by decide)
  have h6 := c_l2i (XT.ushrL (w <<< ((40 : Int32).toInt64 &&& 63)) (60 : Int32))
  have h7 := rng64 w
  have h8 := rng64 (w <<< ((40 : Int32).toInt64 &&& 63))
  have h9 := rng32 (XT.ushrL (w <<< ((40 : Int32).toInt64 &&& 63)) (60 : Int32)).toInt32
  rw [← Int32.toInt_inj]
  simp only [Nat.reducePow] at h2 h4 h5
  generalize XT.ushrL w (20 : Int32) = A at *
  generalize XT.ushrL (w <<< ((40 : Int32).toInt64 &&& 63)) (60 : Int32) = C at *
  generalize w <<< ((40 : Int32).toInt64 &&& 63) = B at *
  omega
theorem own_nib11 (w : Int64) : (XT.ushrL w (16 : Int32)).toInt32 &&& (15 : Int32) = (XT.ushrL (w <<< ((44 : Int32).toInt64 &&& 63)) (60 : Int32)).toInt32 := by
  have h1 : (XT.ushrL w (16 : Int32)).toInt % 18446744073709551616 = (w.toInt % 18446744073709551616) / 65536 := by rw [own_ur w 16 16 (by decide) (by decide) (by decide)]; have := rng64 w; omega
  have h2 := c_mask (XT.ushrL w (16 : Int32)).toInt32 (15 : Int32) 4 (by decide) (by decide)
  have h3 := c_l2i (XT.ushrL w (16 : Int32))
  have h4 := own_ls w (44 : Int32) 44 (by decide) (by decide)
  have h5 := own_ur (w <<< ((44 : Int32).toInt64 &&& 63)) (60 : Int32) 60 (by decide) (by decide) (by decide)
  have h6 := c_l2i (XT.ushrL (w <<< ((44 : Int32).toInt64 &&& 63)) (60 : Int32))
  have h7 := rng64 w
  have h8 := rng64 (w <<< ((44 : Int32).toInt64 &&& 63))
  have h9 := rng32 (XT.ushrL (w <<< ((44 : Int32).toInt64 &&& 63)) (60 : Int32)).toInt32
  rw [← Int32.toInt_inj]
  simp only [Nat.reducePow] at h2 h4 h5
  generalize XT.ushrL w (16 : Int32) = A at *
  generalize XT.ushrL (w <<< ((44 : Int32).toInt64 &&& 63)) (60 : Int32) = C at *
  generalize w <<< ((44 : Int32).toInt64 &&& 63) = B at *
  omega
theorem own_nib12 (w : Int64) : (XT.ushrL w (12 : Int32)).toInt32 &&& (15 : Int32) = (XT.ushrL (w <<< ((48 : Int32).toInt64 &&& 63)) (60 : Int32)).toInt32 := by
  have h1 : (XT.ushrL w (12 : Int32)).toInt % 18446744073709551616 = (w.toInt % 18446744073709551616) / 4096 := by rw [own_ur w 12 12 (by decide) (by decide) (by decide)]; have := rng64 w; omega
  have h2 := c_mask (XT.ushrL w (12 : Int32)).toInt32 (15 : Int32) 4 (by decide) (by decide)
  have h3 := c_l2i (XT.ushrL w (12 : Int32))
  have h4 := own_ls w (48 : Int32) 48 (by decide) (by decide)
  have h5 := own_ur (w <<< ((48 : Int32).toInt64 &&& 63)) (60 : Int32) 60 (by decide) (by decide) (by decide)
  have h6 := c_l2i (XT.ushrL (w <<< ((48 : Int32).toInt64 &&& 63)) (60 : Int32))
  have h7 := rng64 w
  have h8 := rng64 (w <<< ((48 : Int32).toInt64 &&& 63))
  have h9 := rng32 (XT.ushrL (w <<< ((48 : Int32).toInt64 &&& 63)) (60 : Int32)).toInt32
  rw [← Int32.toInt_inj]
  simp only [Nat.reducePow] at h2 h4 h5
  generalize XT.ushrL w (12 : Int32) = A at *
  generalize XT.ushrL (w <<< ((48 : Int32).toInt64 &&& 63)) (60 : Int32) = C at *
  generalize w <<< ((48 : Int32).toInt64 &&& 63) = B at *
  omega
theorem own_nib13 (w : Int64) : (XT.ushrL w (8 : Int32)).toInt32 &&& (15 : Int32) = (XT.ushrL (w <<< ((52 : Int32).toInt64 &&& 63)) (60 : Int32)).toInt32 := by
  have h1 : (XT.ushrL w (8 : Int32)).toInt % 18446744073709551616 = (w.toInt % 18446744073709551616) / 256 := by rw [own_ur w 8 8 (by decide) (by decide) (by decide)]; have := rng64 w; omega
  have h2 := c_mask (XT.ushrL w (8 : Int32)).toInt32 (15 : Int32) 4 (by decide) (by decide)
  have h3 := c_l2i (XT.ushrL w (8 : Int32))
  have h4 := own_ls w (52 : Int32) 52 (by decide) (by decide)
  have h5 := own_ur (w <<< ((52 : Int32).toInt64 &&& 63)) (60 : Int32) 60 (by decide) (by decide) (by decide)
  have h6 := c_l2i (XT.ushrL (w <<< ((52 : Int32).toInt64 &&& 63)) (60 : Int32))
  have h7 := rng64 w
  have h8 := rng64 (w <<< ((52 : Int32).toInt64 &&& 63))
  have h9 := rng32 (XT.ushrL (w <<< ((52 : Int32).toInt64 &&& 63)) (60 : Int32)).toInt32
  rw [← Int32.toInt_inj]
  simp only [Nat.reducePow] at h2 h4 h5
  generalize XT.ushrL w (8 : Int32) = A at *
  generalize XT.ushrL (w <<< ((52 : Int32).toInt64 &&& 63)) (60 : Int32) = C at *
  generalize w <<< ((52 : Int32).toInt64 &&& 63) = B at *
  omega
theorem own_nib14 (w : Int64) : (XT.ushrL w (4 : Int32)).toInt32 &&& (15 : Int32) = (XT.ushrL (w <<< ((56 : Int32).toInt64 &&& 63)) (60 : Int32)).toInt32 := by
  have h1 : (XT.ushrL w (4 : Int32)).toInt % 18446744073709551616 = (w.toInt % 18446744073709551616) / 16 := by rw [own_ur w 4 4 (by decide) (by decide) (by decide)]; have := rng64 w; omega
  have h2 := c_mask (XT.ushrL w (4 : Int32)).toInt32 (15 : Int32) 4 (by decide) (by decide)
  have h3 := c_l2i (XT.ushrL w (4 : Int32))
  have h4 := own_ls w (56 : Int32) 56 (by decide) (by decide)
  have h5 := own_ur (w <<< ((56 : Int32).toInt64 &&& 63)) (60 : Int32) 60 (by decide) (by decide) (by decide)
  have h6 := c_l2i (XT.ushrL (w <<< ((56 : Int32).toInt64 &&& 63)) (60 : Int32))
  have h7 := rng64 w
  have h8 := rng64 (w <<< ((56 : Int32).toInt64 &&& 63))
  have h9 := rng32 (XT.ushrL (w <<< ((56 : Int32).toInt64 &&& 63)) (60 : Int32)).toInt32
  rw [← Int32.toInt_inj]
  simp only [Nat.reducePow] at h2 h4 h5
  generalize XT.ushrL w (4 : Int32) = A at *
  generalize XT.ushrL (w <<< ((56 : Int32).toInt64 &&& 63)) (60 : Int32) = C at *
  generalize w <<< ((56 : Int32).toInt64 &&& 63) = B at *
  omega
theorem own_nib15 (w : Int64) : (XT.ushrL w (0 : Int32)).toInt32 &&& (15 : Int32) = (XT.ushrL (w <<< ((60 : Int32).toInt64 &&& 63)) (60 : Int32)).toInt32 := by
  have h1 : (XT.ushrL w (0 : Int32)).toInt % 18446744073709551616 = (w.toInt % 18446744073709551616) / 1 := by rw [show XT.ushrL w (0 : Int32) = w from own_u0 w]; omega
  have h2 := c_mask (XT.ushrL w (0 : Int32)).toInt32 (15 : Int32) 4 (by decide) (by decide)
  have h3 := c_l2i (XT.ushrL w (0 : Int32))
  have h4 := own_ls w (60 : Int32) 60 (by decide) (by decide)
  have h5 := own_ur (w <<< ((60 : Int32).toInt64 &&& 63)) (60 : Int32) 60 (by decide) (by decide) (by decide)
  have h6 := c_l2i (XT.ushrL (w <<< ((60 : Int32).toInt64 &&& 63)) (60 : Int32))
  have h7 := rng64 w
  have h8 := rng64 (w <<< ((60 : Int32).toInt64 &&& 63))
  have h9 := rng32 (XT.ushrL (w <<< ((60 : Int32).toInt64 &&& 63)) (60 : Int32)).toInt32
  rw [← Int32.toInt_inj]
  simp only [Nat.reducePow] at h2 h4 h5
  generalize XT.ushrL w (0 : Int32) = A at *
  generalize XT.ushrL (w <<< ((60 : Int32).toInt64 &&& 63)) (60 : Int32) = C at *
  generalize w <<< ((60 : Int32).toInt64 &&& 63) = B at *
  omega
theorem own_32 (p : Int32) (h : ¬ p < 0 ∧ ¬ 31 < p) : p = 0 ∨ p = 1 ∨ p = 2 ∨ p = 3 ∨ p = 4 ∨ p = 5 ∨ p = 6 ∨ p = 7 ∨ p = 8 ∨ p = 9 ∨ p = 10 ∨ p = 11 ∨ p = 12 ∨ p = 13 ∨ p = 14 ∨ p = 15 ∨ p = 16 ∨ p = 17 ∨ p = 18 ∨ p = 19 ∨ p = 20 ∨ p = 21 ∨ p = 22 ∨ p = 23 ∨ p = 24 ∨ p = 25 ∨ p = 26 ∨ p = 27 ∨ p = 28 ∨ p = 29 ∨ p = 30 ∨ p = 31 := by
  rw [Int32.lt_iff_toInt_lt, Int32.lt_iff_toInt_lt] at h
  have e0 : (0 : Int32).toInt = 0 := by decide
  have e31 : (31 : Int32).toInt = 31 := by decide
  have f0 : p.toInt = 0 → p = 0 := fun q => Int32.toInt_inj.mp (q.trans (by decide))
  have f1 : p.toInt = 1 → p = 1 := fun q => Int32.toInt_inj.mp (q.trans (by decide))
  have f2 : p.toInt = 2 → p = 2 := fun q => Int32.toInt_inj.mp (q.trans (by decide))
  have f3 : p.toInt = 3 → p = 3 := fun q => Int32.toInt_inj.mp (q.trans (by decide))
  have f4 : p.toInt = 4 → p = 4 := fun q => Int32.toInt_inj.mp (q.trans (by decide))
  have f5 : p.toInt = 5 → p = 5 := fun q => Int32.toInt_inj.mp (q.trans (by decide))
  have f6 : p.toInt = 6 → p = 6 := fun q => Int32.toInt_inj.mp (q.trans (by decide))
  have f7 : p.toInt = 7 → p = 7 := fun q => Int32.toInt_inj.mp (q.trans (by decide))
  have f8 : p.toInt = 8 → p = 8 := fun q => Int32.toInt_inj.mp (q.trans (by decide))
  have f9 : p.toInt = 9 → p = 9 := fun q => Int32.toInt_inj.mp (q.trans (by decide))
  have f10 : p.toInt = 10 → p = 10 := fun q => Int32.toInt_inj.mp (q.trans (by decide))
  have f11 : p.toInt = 11 → p = 11 := fun q => Int32.toInt_inj.mp (q.trans (by decide))
  have f12 : p.toInt = 12 → p = 12 := fun q => Int32.toInt_inj.mp (q.trans (by decide))
  have f13 : p.toInt = 13 → p = 13 := fun q => Int32.toInt_inj.mp (q.trans (by decide))
  have f14 : p.toInt = 14 → p = 14 := fun q => Int32.toInt_inj.mp (q.trans (by decide))
  have f15 : p.toInt = 15 → p = 15 := fun q => Int32.toInt_inj.mp (q.trans (by decide))
  have f16 : p.toInt = 16 → p = 16 := fun q => Int32.toInt_inj.mp (q.trans (by decide))
  have f17 : p.toInt = 17 → p = 17 := fun q => Int32.toInt_inj.mp (q.trans (by decide))
  have f18 : p.toInt = 18 → p = 18 := fun q => Int32.toInt_inj.mp (q.trans (by decide))
  have f19 : p.toInt = 19 → p = 19 := fun q => Int32.toInt_inj.mp (q.trans (by decide))
  have f20 : p.toInt = 20 → p = 20 := fun q => Int32.toInt_inj.mp (q.trans (by decide))
  have f21 : p.toInt = 21 → p = 21 := fun q => Int32.toInt_inj.mp (q.trans (by decide))
  have f22 : p.toInt = 22 → p = 22 := fun q => Int32.toInt_inj.mp (q.trans (by decide))
  have f23 : p.toInt = 23 → p = 23 := fun q => Int32.toInt_inj.mp (q.trans (by decide))
  have f24 : p.toInt = 24 → p = 24 := fun q => Int32.toInt_inj.mp (q.trans (by decide))
  have f25 : p.toInt = 25 → p = 25 := fun q => Int32.toInt_inj.mp (q.trans (by decide))
  have f26 : p.toInt = 26 → p = 26 := fun q => Int32.toInt_inj.mp (q.trans (by decide))
  have f27 : p.toInt = 27 → p = 27 := fun q => Int32.toInt_inj.mp (q.trans (by decide))
  have f28 : p.toInt = 28 → p = 28 := fun q => Int32.toInt_inj.mp (q.trans (by decide))
  have f29 : p.toInt = 29 → p = 29 := fun q => Int32.toInt_inj.mp (q.trans (by decide))
  have f30 : p.toInt = 30 → p = 30 := fun q => Int32.toInt_inj.mp (q.trans (by decide))
  have f31 : p.toInt = 31 → p = 31 := fun q => Int32.toInt_inj.mp (q.trans (by decide))
  have : p.toInt = 0 ∨ p.toInt = 1 ∨ p.toInt = 2 ∨ p.toInt = 3 ∨ p.toInt = 4 ∨ p.toInt = 5 ∨ p.toInt = 6 ∨ p.toInt = 7 ∨ p.toInt = 8 ∨ p.toInt = 9 ∨ p.toInt = 10 ∨ p.toInt = 11 ∨ p.toInt = 12 ∨ p.toInt = 13 ∨ p.toInt = 14 ∨ p.toInt = 15 ∨ p.toInt = 16 ∨ p.toInt = 17 ∨ p.toInt = 18 ∨ p.toInt = 19 ∨ p.toInt = 20 ∨ p.toInt = 21 ∨ p.toInt = 22 ∨ p.toInt = 23 ∨ p.toInt = 24 ∨ p.toInt = 25 ∨ p.toInt = 26 ∨ p.toInt = 27 ∨ p.toInt = 28 ∨ p.toInt = 29 ∨ p.toInt = 30 ∨ p.toInt = 31 := by omega
  rcases this with q | q | q | q | q | q | q | q | q | q | q | q | q | q | q | q | q | q | q | q | q | q | q | q | q | q | q | q | q | q | q | q
  · exact Or.inl (f0 q)
  · exact Or.inr (Or.inl (f1 q))
  · exact Or.inr (Or.inr (Or.inl (f2 q)))
  · exact Or.inr (Or.inr (Or.inr (Or.inl (f3 q))))
  · exact Or.inr (Or.inr (Or.inr (Or.inr (Or.inl (f4 q)))))
  · exact Or.inr (Or.inr (Or.inr (Or.inr (Or.inr (Or.inl (f5 q))))))
  · exact Or.inr (Or.inr (Or.inr (Or.inr (Or.inr (Or.inr (Or.inl (f6 q)))))))
  · exact Or.inr (Or.inr (Or.inr (Or.inr (Or.inr (Or.inr (Or.inr (Or.inl (f7 q))))))))
  · exact Or.inr (Or.inr (Or.inr (Or.inr (Or.inr (Or.inr (Or.inr (Or.inr (Or.inl (f8 q)))))))))
  · exact Or.inr (Or.inr (Or.inr (Or.inr (Or.inr (Or.inr (Or.inr (Or.inr (Or.inr (Or.inl (f9 q))))))))))
  · exact Or.inr (Or.inr (Or.inr (Or.inr (Or.inr (Or.inr (Or.inr (Or.inr (Or.inr (Or.inr (Or.inl (f10 q)))))))))))
  · exact Or.inr (Or.inr (Or.inr (Or.inr (Or.inr (Or.inr (Or.inr (Or.inr (Or.inr (Or.inr (Or.inr (Or.inl (f11 q))))))))))))
  · exact Or.inr (Or.inr (Or.inr (Or.inr (Or.inr (Or.inr (Or.inr (Or.inr (Or.inr (Or.inr (Or.inr (Or.inr (Or.inl (f12 q)))))))))))))
  · exact Or.inr (Or.inr (Or.inr (Or.inr (Or.inr (Or.inr (Or.inr (Or.inr (Or.inr (Or.inr (Or.inr (Or.inr (Or.inr (Or.inl (f13 q))))))))))))))
  · exact Or.inr (Or.inr (Or.inr (Or.inr (Or.inr (Or.inr (Or.inr (Or.inr (Or.inr (Or.inr (Or.inr (Or.inr (Or.inr (Or.inr (Or.inl (f14 q)))))))))))))))
  · exact Or.inr (Or.inr (Or.inr (Or.inr (Or.inr (Or.inr (Or.inr (Or.inr (Or.inr (Or.inr (Or.inr (Or.inr (Or.inr (Or.inr (Or.inr (Or.inl (f15 q))))))))))))))))
  · exact Or.inr (Or.inr (Or.inr (Or.inr (Or.inr (Or.inr (Or.inr (Or.inr (Or.inr (Or.inr (Or.inr (Or.inr (Or.inr (Or.inr (Or.inr (Or.inr (Or.inl (f16 q)))))))))))))))))
  · exact Or.inr (Or.inr (Or.inr (Or.inr (Or.inr (Or.inr (Or.inr (Or.inr (Or.inr (Or.inr (Or.inr (Or.inr (Or.inr (Or.inr (Or.inr (Or.inr (Or.inr (Or.inl (f17 q))))))))))))))))))
  · exact Or.inr (Or.inr (Or.inr (Or.inr (Or.inr (Or.inr (Or.inr (Or.inr (Or.inr (Or.inr (Or.inr (Or.inr (Or.inr (Or.inr (Or.inr (Or.inr (Or.inr (Or.inr (Or.inl (f18 q)))))))))))))))))))
  · exact Or.inr (Or.inr (Or.inr (Or.inr (Or.inr (Or.inr (Or.inr (Or.inr (Or.inr (Or.inr (Or.inr (Or.inr (Or.inr (Or.inr (Or.inr (Or.inr (Or.inr (Or.inr (Or.inr (Or.inl (f19 q))))))))))))))))))))
  · exact Or.inr (Or.inr (Or.inr (Or.inr (Or.inr (Or.inr (Or.inr (Or.inr (Or.inr (Or.inr (Or.inr (Or.inr (Or.inr (Or.inr (Or.inr (Or.inr (Or.inr (Or.inr (Or.inr (Or.inr (Or.inl (f20 q)))))))))))))))))))))
  · exact Or.inr (Or.inr (Or.inr (Or.inr (Or.inr (Or.inr (Or.inr (Or.inr (Or.inr (Or.inr (Or.inr (Or.inr (Or.inr (Or.inr (Or.inr (Or.inr (Or.inr (Or.inr (Or.inr (Or.inr (Or.inr (Or.inl (f21 q))))))))))))))))))))))
  · exact Or.inr (Or.inr (Or.inr (Or.inr (Or.inr (Or.inr (Or.inr (Or.inr (Or.inr (Or.inr (Or.inr (Or.inr (Or.inr (Or.inr (Or.inr (Or.inr (Or.inr (Or.inr (Or.inr (Or.inr (Or.inr (Or.inr (Or.inl (f22 q)))))))))))))))))))))))
  · exact Or.inr (Or.inr (Or.inr (Or.inr (Or.inr (Or.inr (Or.inr (Or.inr (Or.inr (Or.inr (Or.inr (Or.inr (Or.inr (Or.inr (Or.inr (Or.inr (Or.inr (Or.inr (Or.inr (Or.inr (Or.inr (Or.inr (Or.inr (Or.inl (f23 q))))))))))))))))))))))))
  · exact Or.inr (Or.inr (Or.inr (Or.inr (Or.inr (Or.inr (Or.inr (Or.inr (Or.inr (Or.inr (Or.inr (Or.inr (Or.inr (Or.inr (Or.inr (Or.inr (Or.inr (Or.inr (Or.inr (Or.inr (Or.inr (Or.inr (Or.inr (Or.inr (Or.inl (f24 q)))))))))))))))))))))))))
  · exact Or.inr (Or.inr (Or.inr (Or.inr (Or.inr (Or.inr (Or.inr (Or.inr (Or.inr (Or.inr (Or.inr (Or.inr (Or.inr (Or.inr (Or.inr (Or.inr (Or.inr (Or.inr (Or.inr (Or.inr (Or.inr (Or.inr (Or.inr (Or.inr (Or.inr (Or.inl (f25 q))))))))))))))))))))))))))
  · exact Or.inr (Or.inr (Or.inr (Or.inr (Or.inr (Or.inr (Or.inr (Or.inr (Or.inr (Or.inr (Or.inr (Or.inr (Or.inr (Or.inr (Or.inr (Or.inr (Or.inr (Or.inr (Or.inr (Or.inr (Or.inr (Or.inr (Or.inr (Or.inr (Or.inr (Or.inr (Or.inl (f26 q)))))))))))))))))))))))))))
  · exact Or.inr (Or.inr (Or.inr (Or.inr (Or.inr (Or.inr (Or.inr (Or.inr (Or.inr (Or.inr (Or.inr (Or.inr (Or.inr (Or.inr (Or.inr (Or.inr (Or.inr (Or.inr (Or.inr (Or.inr (Or.inr (Or.inr (Or.inr (Or.inr (Or.inr (Or.inr (Or.inr (Or.inl (f27 q))))))))))))))))))))))))))))
  · exact Or.inr (Or.inr (Or.inr (Or.inr (Or.inr (Or.inr (Or.inr (Or.inr (Or.inr (Or.inr (Or.inr (Or.inr (Or.inr (Or.inr (Or.inr (Or.inr (Or.inr (Or.inr (Or.inr (Or.inr (Or.inr (Or.inr (Or.inr (Or.inr (Or.inr (Or.inr (Or.inr (Or.inr (Or.inl (f28 q)))))))))))))))))))))))))))))
  · exact Or.inr (Or.inr (Or.inr (Or.inr (Or.inr (Or.inr (Or.inr (Or.inr (Or.inr (Or.inr (Or.inr (Or.inr (Or.inr (Or.inr (Or.inr (Or.inr (Or.inr (Or.inr (Or.inr (Or.inr (Or.inr (Or.inr (Or.inr (Or.inr (Or.inr (Or.inr (Or.inr (Or.inr (Or.inr (Or.inl (f29 q))))))))))))))))))))))))))))))
  · exact Or.inr (Or.inr (Or.inr (Or.inr (Or.inr (Or.inr (Or.inr (Or.inr (Or.inr (Or.inr (Or.inr (Or.inr (Or.inr (Or.inr (Or.inr (Or.inr (Or.inr (Or.inr (Or.inr (Or.inr (Or.inr (Or.inr (Or.inr (Or.inr (Or.inr (Or.inr (Or.inr (Or.inr (Or.inr (Or.inr (Or.inl (f30 q)))))))))))))))))))))))))))))))
  · exact Or.inr (Or.inr (Or.inr (Or.inr (Or.inr (Or.inr (Or.inr (Or.inr (Or.inr (Or.inr (Or.inr (Or.inr (Or.inr (Or.inr (Or.inr (Or.inr (Or.inr (Or.inr (Or.inr (Or.inr (Or.inr (Or.inr (Or.inr (Or.inr (Or.inr (Or.inr (Or.inr (Or.inr (Or.inr (Or.inr (Or.inr (f31 q)))))))))))))))))))))))))))))))
theorem own_rng (x : Int32) : ¬ (x &&& (31 : Int32)) < 0 ∧ ¬ 31 < (x &&& (31 : Int32)) := by
  have h := c_and x (31 : Int32) (by decide)
  rw [Int32.lt_iff_toInt_lt, Int32.lt_iff_toInt_lt]
  have e0 : (0 : Int32).toInt = 0 := by decide
  have e1 : (31 : Int32).toInt = 31 := by decide
  omega
theorem own_and15 (y : Int32) : ¬ (y &&& (15 : Int32)) < 0 ∧ ¬ 15 < (y &&& (15 : Int32)) := by
  have h := c_and y (15 : Int32) (by decide)
  rw [Int32.lt_iff_toInt_lt, Int32.lt_iff_toInt_lt]
  have e0 : (0 : Int32).toInt = 0 := by decide
  have e1 : (15 : Int32).toInt = 15 := by decide
  omega
theorem own_dig0 (hi lo : Int64) (p : Int32) : ¬ own_dig hi lo p < 0 ∧ ¬ 15 < own_dig hi lo p := own_and15 _
theorem own_shift (w : Int64) (p : Int32) (h : ¬ p < 0 ∧ ¬ 31 < p) : (XT.ushrL w ((64 : Int32) - ((4 : Int32) * ((p % (16 : Int32)) + (1 : Int32))))).toInt32 &&& (15 : Int32) = (XT.ushrL (w <<< (((4 : Int32) * (p &&& (15 : Int32))).toInt64 &&& 63)) (60 : Int32)).toInt32 := by
  rcases own_32 p h with rfl | rfl | rfl | rfl | rfl | rfl | rfl | rfl | rfl | rfl | rfl | rfl | rfl | rfl | rfl | rfl | rfl | rfl | rfl | rfl | rfl | rfl | rfl | rfl | rfl | rfl | rfl | rfl | rfl | rfl | rfl | rfl
  · rw [show (64 : Int32) - ((4 : Int32) * (((0 : Int32) % (16 : Int32)) + (1 : Int32))) = 60 from by decide, show (4 : Int32) * ((0 : Int32) &&& (15 : Int32)) = 0 from by decide]; exact own_nib0 w
  · rw [show (64 : Int32) - ((4 : Int32) * (((1 : Int32) % (16 : Int32)) + (1 : Int32))) = 56 from by decide, show (4 : Int32) * ((1 : Int32) &&& (15 : Int32)) = 4 from by decide]; exact own_nib1 w
  · rw [show (64 : Int32) - ((4 : Int32) * (((2 : Int32) % (16 : Int32)) + (1 : Int32))) = 52 from by decide, show (4 : Int32) * ((2 : Int32) &&& (15 : Int32)) = 8 from by decide]; exact own_nib2 w
  · rw [show (64 : Int32) - ((4 : Int32) * (((3 : Int32) % (16 : Int32)) + (1 : Int32))) = 48 from by decide, show (4 : Int32) * ((3 : Int32) &&& (15 : Int32)) = 12 from by decide]; exact own_nib3 w
  · rw [show (64 : Int32) - ((4 : Int32) * (((4 : Int32) % (16 : Int32)) + (1 : Int32))) = 44 from by decide, show (4 : Int32) * ((4 : Int32) &&& (15 : Int32)) = 16 from by decide]; exact own_nib4 w
  · rw [show (64 : Int32) - ((4 : Int32) * (((5 : Int32) % (16 : Int32)) + (1 : Int32))) = 40 from by decide, show (4 : Int32) * ((5 : Int32) &&& (15 : Int32)) = 20 from by decide]; exact own_nib5 w
  · rw [show (64 : Int32) - ((4 : Int32) * (((6 : Int32) % (16 : Int32)) + (1 : Int32))) = 36 from by decide, show (4 : Int32) * ((6 : Int32) &&& (15 : Int32)) = 24 from by decide]; exact own_nib6 w
  · rw [show (64 : Int32) - ((4 : Int32) * (((7 : Int32) % (16 : Int32)) + (1 : Int32))) = 32 from by decide, show (4 : Int32) * ((7 : Int32) &&& (15 : Int32)) = 28 from by decide]; exact own_nib7 w
  · rw [show (64 : Int32) - ((4 : Int32) * (((8 : Int32) % (16 : Int32)) + (1 : Int32))) = 28 from by decide, show (4 : Int32) * ((8 : Int32) &&& (15 : Int32)) = 32 from by decide]; exact own_nib8 w
  · rw [show (64 : Int32) - ((4 : Int32) * (((9 : Int32) % (16 : Int32)) + (1 : Int32))) = 24 from by decide, show (4 : Int32) * ((9 : Int32) &&& (15 : Int32)) = 36 from by decide]; exact own_nib9 w
  · rw [show (64 : Int32) - ((4 : Int32) * (((10 : Int32) % (16 : Int32)) + (1 : Int32))) = 20 from by decide, show (4 : Int32) * ((10 : Int32) &&& (15 : Int32)) = 40 from by decide]; exact own_nib10 w
  · rw [show (64 : Int32) - ((4 : Int32) * (((11 : Int32) % (16 : Int32)) + (1 : Int32))) = 16 from by decide, show (4 : Int32) * ((11 : Int32) &&& (15 : Int32)) = 44 from by decide]; exact own_nib11 w
  · rw [show (64 : Int32) - ((4 : Int32) * (((12 : Int32) % (16 : Int32)) + (1 : Int32))) = 12 from by decide, show (4 : Int32) * ((12 : Int32) &&& (15 : Int32)) = 48 from by decide]; exact own_nib12 w
  · rw [show (64 : Int32) - ((4 : Int32) * (((13 : Int32) % (16 : Int32)) + (1 : Int32))) = 8 from by decide, show (4 : Int32) * ((13 : Int32) &&& (15 : Int32)) = 52 from by decide]; exact own_nib13 w
  · rw [show (64 : Int32) - ((4 : Int32) * (((14 : Int32) % (16 : Int32)) + (1 : Int32))) = 4 from by decide, show (4 : Int32) * ((14 : Int32) &&& (15 : Int32)) = 56 from by decide]; exact own_nib14 w
  · rw [show (64 : Int32) - ((4 : Int32) * (((15 : Int32) % (16 : Int32)) + (1 : Int32))) = 0 from by decide, show (4 : Int32) * ((15 : Int32) &&& (15 : Int32)) = 60 from by decide]; exact own_nib15 w
  · rw [show (64 : Int32) - ((4 : Int32) * (((16 : Int32) % (16 : Int32)) + (1 : Int32))) = 60 from by decide, show (4 : Int32) * ((16 : Int32) &&& (15 : Int32)) = 0 from by decide]; exact own_nib0 w
  · rw [show (64 : Int32) - ((4 : Int32) * (((17 : Int32) % (16 : Int32)) + (1 : Int32))) = 56 from by decide, show (4 : Int32) * ((17 : Int32) &&& (15 : Int32)) = 4 from by decide]; exact own_nib1 w
  · rw [show (64 : Int32) - ((4 : Int32) * (((18 : Int32) % (16 : Int32)) + (1 : Int32))) = 52 from by decide, show (4 : Int32) * ((18 : Int32) &&& (15 : Int32)) = 8 from by decide]; exact own_nib2 w
  · rw [show (64 : Int32) - ((4 : Int32) * (((19 : Int32) % (16 : Int32)) + (1 : Int32))) = 48 from by decide, show (4 : Int32) * ((19 : Int32) &&& (15 : Int32)) = 12 from by decide]; exact own_nib3 w
  · rw [show (64 : Int32) - ((4 : Int32) * (((20 : Int32) % (16 : Int32)) + (1 : Int32))) = 44 from by decide, show (4 : Int32) * ((20 : Int32) &&& (15 : Int32)) = 16 from by decide]; exact own_nib4 w
  · rw [show (64 : Int32) - ((4 : Int32) * (((21 : Int32) % (16 : Int32)) + (1 : Int32))) = 40 from by decide, show (4 : Int32) * ((21 : Int32) &&& (15 : Int32)) = 20 from by decide]; exact own_nib5 w
  · rw [show (64 : Int32) - ((4 : Int32) * (((22 : Int32) % (16 : Int32)) + (1 : Int32))) = 36 from by decide, show (4 : Int32) * ((22 : Int32) &&& (15 : Int32)) = 24 from by decide]; exact own_nib6 w
  · rw [show (64 : Int32) - ((4 : Int32) * (((23 : Int32) % (16 : Int32)) + (1 : Int32))) = 32 from by decide, show (4 : Int32) * ((23 : Int32) &&& (15 : Int32)) = 28 from by decide]; exact own_nib7 w
  · rw [show (64 : Int32) - ((4 : Int32) * (((24 : Int32) % (16 : Int32)) + (1 : Int32))) = 28 from by decide, show (4 : Int32) * ((24 : Int32) &&& (15 : Int32)) = 32 from by decide]; exact own_nib8 w
  · rw [show (64 : Int32) - ((4 : Int32) * (((25 : Int32) % (16 : Int32)) + (1 : Int32))) = 24 from by decide, show (4 : Int32) * ((25 : Int32) &&& (15 : Int32)) = 36 from by decide]; exact own_nib9 w
  · rw [show (64 : Int32) - ((4 : Int32) * (((26 : Int32) % (16 : Int32)) + (1 : Int32))) = 20 from by decide, show (4 : Int32) * ((26 : Int32) &&& (15 : Int32)) = 40 from by decide]; exact own_nib10 w
  · rw [show (64 : Int32) - ((4 : Int32) * (((27 : Int32) % (16 : Int32)) + (1 : Int32))) = 16 from by decide, show (4 : Int32) * ((27 : Int32) &&& (15 : Int32)) = 44 from by decide]; exact own_nib11 w
  · rw [show (64 : Int32) - ((4 : Int32) * (((28 : Int32) % (16 : Int32)) + (1 : Int32))) = 12 from by decide, show (4 : Int32) * ((28 : Int32) &&& (15 : Int32)) = 48 from by decide]; exact own_nib12 w
  · rw [show (64 : Int32) - ((4 : Int32) * (((29 : Int32) % (16 : Int32)) + (1 : Int32))) = 8 from by decide, show (4 : Int32) * ((29 : Int32) &&& (15 : Int32)) = 52 from by decide]; exact own_nib13 w
  · rw [show (64 : Int32) - ((4 : Int32) * (((30 : Int32) % (16 : Int32)) + (1 : Int32))) = 4 from by decide, show (4 : Int32) * ((30 : Int32) &&& (15 : Int32)) = 56 from by decide]; exact own_nib14 w
  · rw [show (64 : Int32) - ((4 : Int32) * (((31 : Int32) % (16 : Int32)) + (1 : Int32))) = 0 from by decide, show (4 : Int32) * ((31 : Int32) &&& (15 : Int32)) = 60 from by decide]; exact own_nib15 w
theorem own_half (p : Int32) (h : ¬ p < 0 ∧ ¬ 31 < p) : (p >>> ((4 : Int32) &&& 31) = 0 → p < 16) ∧ (¬ p >>> ((4 : Int32) &&& 31) = 0 → ¬ p < 16) := by
  rcases own_32 p h with rfl | rfl | rfl | rfl | rfl | rfl | rfl | rfl | rfl | rfl | rfl | rfl | rfl | rfl | rfl | rfl | rfl | rfl | rfl | rfl | rfl | rfl | rfl | rfl | rfl | rfl | rfl | rfl | rfl | rfl | rfl | rfl <;> decide
theorem own_hi (hi lo : Int64) (p : Int32) (h : ¬ p < 0 ∧ ¬ 31 < p) (hc : p >>> ((4 : Int32) &&& 31) = 0) : own_dig hi lo p = (XT.ushrL (hi <<< (((4 : Int32) * (p &&& (15 : Int32))).toInt64 &&& 63)) (60 : Int32)).toInt32 := by
  unfold own_dig
  rw [if_pos ((own_half p h).1 hc)]
  exact own_shift hi p h
theorem own_lo (hi lo : Int64) (p : Int32) (h : ¬ p < 0 ∧ ¬ 31 < p) (hc : ¬ p >>> ((4 : Int32) &&& 31) = 0) : own_dig hi lo p = (XT.ushrL (lo <<< (((4 : Int32) * (p &&& (15 : Int32))).toInt64 &&& 63)) (60 : Int32)).toInt32 := by
  unfold own_dig
  rw [if_neg ((own_half p h).2 hc)]
  exact own_shift lo p h

theorem own_pn_java_lang_Record : plainName "java/lang/Record" = true := by first | (simp [plainName, overriddenIn]; done) | decide +kernel
theorem ef_2 (m : MethodId) (x0 : Addr) : entryFrame m #[(.ref x0)] 1 = mkF m 0 #[.val (.ref x0)] [] := by first | (simp [entryFrame, mkF, argsToLocals, Value.category]; done) | rfl
theorem d2_0 : decode jdk_30_method_1_code 0 = .ok (.aload_n 0, 1) := by decide +kernel
theorem d2_1 : decode jdk_30_method_1_code 1 = .ok (.invokespecial 1, 3) := by decide +kernel
theorem d2_4 : decode jdk_30_method_1_code 4 = .ok (.return_, 1) := by decide +kernel
def Q2 (Z : State) (a1 : Addr) (h0 : Heap) (n0 : Nat) (v : Option Value) (h : Heap) (L : List Loc) : Prop := v = none ∧ Fr n0 L ∧ h = h0
set_option maxRecDepth 65536 in
set_option maxHeartbeats 40000000 in
theorem rm2 (l : Launch) (Z : State) (a0 : Array Value) (hw : ∀ d ∈ tables_1, d.before a0 Z = true) (ws : List Jvm.Cond) (a1 : Addr) (h0 : Heap) (n0 : Nat) (Z0 : n0 ≤ h0.size)  :
    MetFree l (⟨"java/lang/Record", "<init>", "()V"⟩ : MethodName) (head1 (Jvm.Cond.code (⟨"java/lang/Record", "<init>", "()V"⟩ : MethodName) jdk_30_method_1_code 1 none :: ws) ({ frames := 1, cells := 0, slots := 0, locals := 12 } : Room)) (fun a U => a = #[(.ref a1)] ∧ Z.Warmed39 U.vm ∧ U.heap = h0) (fun _ _ _ _ _ => True) (fun _ U o U' => ∃ v L, o = .returned v ∧ Q2 Z a1 h0 n0 v U'.heap L ∧ FrameEnd U o U' L ({ frames := 1, cells := 0, slots := 0, locals := 12 } : Room).cells ({ frames := 1, cells := 0, slots := 0, locals := 12 } : Room).slots) := by
  refine MetFree.of_bodySF (plainFor_of_name own_pn_java_lang_Record) hisR ?_
  intro p e s m args below meth c s₁ Bd hml0 hP hK
  obtain ⟨rfl, hZ, hh⟩ := hP
  have hx := Bd.exec
  have hby := Bd.bytes
  have hlk := Bd.notSynchronized
  have hml : c.maxLocals = 1 := hml0
  have hown : s.vm.findClass "java/lang/Record" = some m.cls := findClass_of_methodNamed Bd.named
  have hnm := (name_of_methodNamed Bd.named Bd.method).1
  have X0 : Stand p l e ({ frames := 1, cells := 0, slots := 0, locals := 12 } : Room) s m #[(.ref a1)] below meth c s₁ [] 0 0 := Stand.of_body Bd
  have e0 : s₁.heap = h0 := by rw [← hh, Bd.state]; rfl
  have N0 := Fr.nil n0
  show Go p e below (KQ s below (Q2 Z a1 h0 n0) ({ frames := 1, cells := 0, slots := 0, locals := 12 } : Room).cells ({ frames := 1, cells := 0, slots := 0, locals := 12 } : Room).slots) _
  refine Go.body (T := s₁) (σ := s₁) (g' := (mkF m 0 #[.val (.ref a1)] [])) (ef_2 m a1) ?_
  refine g_aloadN X0 hx (hb hby d2_0) 1 rfl (v := (.ref a1)) rfl rfl ?_
  obtain ⟨T1, X1, e1, st1⟩ := initO X0 hx hZ hown (hw _ (List.mem_of_getElem? (i := 11) rfl)) (hw _ (List.mem_of_getElem? (i := 12) rfl)) (hw _ (List.mem_of_getElem? (i := 13) rfl)) e0 (g := (mkF m 1 #[.val (.ref a1)] [(.ref a1)])) rfl (by rw [hml]; rfl) rfl (hb hby d2_1) (by decide) (W := 0) (by show 2 * 0 + _ ≤ _; exact Nat.le_of_eq rfl) (by decide)
  refine Go.st st1 ?_
  show Go p e below _ (T1.setTop (mkF m 4 #[.val (.ref a1)] []))
  refine Go.retV X1 hx hlk Bd.returns (hb hby d2_4) (by decide) (by decide) ?_
  show Q2 Z a1 h0 n0 _ T1.heap _
  rw [e1]
  exact ⟨rfl, N0, rfl⟩
theorem own_pn_com_example_peerpool_peerpool_sim_PeerId : plainName "com/example/peerpool/peerpool/sim/PeerId" = true := by first | (simp [plainName, overriddenIn]; done) | decide +kernel
theorem ef_1 (m : MethodId) (x0 : Addr) (x1 : Int64) (x2 : Int64) : entryFrame m #[(.ref x0), (.long x1), (.long x2)] 5 = mkF m 0 #[.val (.ref x0), .val (.long x1), .second, .val (.long x2), .second] [] := by first | (simp [entryFrame, mkF, argsToLocals, Value.category]; done) | rfl
theorem d1_0 : decode prog_43_method_1_code 0 = .ok (.aload_n 0, 1) := by decide +kernel
theorem own_pd0 : parseMethodDescriptor "()V" = some ⟨[], none⟩ := by decide +kernel
theorem d1_1 : decode prog_43_method_1_code 1 = .ok (.invokespecial 1, 3) := by decide +kernel
theorem d1_4 : decode prog_43_method_1_code 4 = .ok (.aload_n 0, 1) := by decide +kernel
theorem d1_5 : decode prog_43_method_1_code 5 = .ok (.lload_n 1, 1) := by decide +kernel
theorem d1_6 : decode prog_43_method_1_code 6 = .ok (.putfield 7, 3) := by decide +kernel
theorem d1_9 : decode prog_43_method_1_code 9 = .ok (.aload_n 0, 1) := by decide +kernel
theorem d1_10 : decode prog_43_method_1_code 10 = .ok (.lload_n 3, 1) := by decide +kernel
theorem d1_11 : decode prog_43_method_1_code 11 = .ok (.putfield 13, 3) := by decide +kernel
theorem d1_14 : decode prog_43_method_1_code 14 = .ok (.return_, 1) := by decide +kernel
def Q1 (Z : State) (a1 : Addr) (q2 : Int64) (q3 : Int64) (u1 : Value) (u2 : Value) (h0 : Heap) (n0 : Nat) (v : Option Value) (h : Heap) (L : List Loc) : Prop := v = none ∧ Fr n0 L ∧ Keep h0 h [a1] ∧ (Exa Z h a1 "com/example/peerpool/peerpool/sim/PeerId") ∧ (Fld Z h a1 "com/example/peerpool/peerpool/sim/PeerId" "high" "J" (.long q2)) ∧ (Fld Z h a1 "com/example/peerpool/peerpool/sim/PeerId" "low" "J" (.long q3))
set_option maxRecDepth 65536 in
set_option maxHeartbeats 40000000 in
theorem rm1 (l : Launch) (Z : State) (a0 : Array Value) (hw : ∀ d ∈ tables_1, d.before a0 Z = true) (ws : List Jvm.Cond) (a1 : Addr) (q2 : Int64) (q3 : Int64) (u1 : Value) (u2 : Value) (h0 : Heap) (n0 : Nat) (Z0 : n0 ≤ h0.size) (E_a1 : Exa Z h0 a1 "com/example/peerpool/peerpool/sim/PeerId") (F_high_a1 : Fld Z h0 a1 "com/example/peerpool/peerpool/sim/PeerId" "high" "J" u1) (F_low_a1 : Fld Z h0 a1 "com/example/peerpool/peerpool/sim/PeerId" "low" "J" u2) (g_a1 : n0 ≤ a1) :
    MetFree l (⟨"com/example/peerpool/peerpool/sim/PeerId", "<init>", "(JJ)V"⟩ : MethodName) (head1 (Jvm.Cond.code (⟨"com/example/peerpool/peerpool/sim/PeerId", "<init>", "(JJ)V"⟩ : MethodName) prog_43_method_1_code 5 none :: ws) ({ frames := 2, cells := 0, slots := 0, locals := 24 } : Room)) (fun a U => a = #[(.ref a1), (.long q2), (.long q3)] ∧ Z.Warmed39 U.vm ∧ U.heap = h0) (fun _ _ _ _ _ => True) (fun _ U o U' => ∃ v L, o = .returned v ∧ Q1 Z a1 q2 q3 u1 u2 h0 n0 v U'.heap L ∧ FrameEnd U o U' L ({ frames := 2, cells := 0, slots := 0, locals := 24 } : Room).cells ({ frames := 2, cells := 0, slots := 0, locals := 24 } : Room).slots) := by
  refine MetFree.of_bodySF (plainFor_of_name own_pn_com_example_peerpool_peerpool_sim_PeerId) hisR ?_
  intro p e s m args below meth c s₁ Bd hml0 hP hK
  obtain ⟨rfl, hZ, hh⟩ := hP
  have hx := Bd.exec
  have hby := Bd.bytes
  have hlk := Bd.notSynchronized
  have hml : c.maxLocals = 5 := hml0
  have hown : s.vm.findClass "com/example/peerpool/peerpool/sim/PeerId" = some m.cls := findClass_of_methodNamed Bd.named
  have hnm := (name_of_methodNamed Bd.named Bd.method).1
  have X0 : Stand p l e ({ frames := 2, cells := 0, slots := 0, locals := 24 } : Room) s m #[(.ref a1), (.long q2), (.long q3)] below meth c s₁ [] 0 0 := Stand.of_body Bd
  have e0 : s₁.heap = h0 := by rw [← hh, Bd.state]; rfl
  have N0 := Fr.nil n0
  have K0 : Keep h0 h0 [a1] := Keep.refl _ _
  show Go p e below (KQ s below (Q1 Z a1 q2 q3 u1 u2 h0 n0) ({ frames := 2, cells := 0, slots := 0, locals := 24 } : Room).cells ({ frames := 2, cells := 0, slots := 0, locals := 24 } : Room).slots) _
  refine Go.body (T := s₁) (σ := s₁) (g' := (mkF m 0 #[.val (.ref a1), .val (.long q2), .second, .val (.long q3), .second] [])) (ef_1 m a1 q2 q3) ?_
  refine g_aloadN X0 hx (hb hby d1_0) 1 rfl (v := (.ref a1)) rfl rfl ?_
  obtain ⟨_, _, ⟨T2, L2, k2, n2⟩, -, X2, ⟨Lc2, hQ2, l2, y2, z2⟩, st2⟩ := X0.specialBack hx (y := (⟨"java/lang/Record", "<init>", "()V"⟩ : MethodName)) rfl hown (mvT hZ (hw _ (List.mem_of_getElem? (i := 6) rfl))) (mvT hZ (hw _ (List.mem_of_getElem? (i := 7) rfl))) (mvT hZ (hw _ (List.mem_of_getElem? (i := 10) rfl))) (by decide) (backOf (W := 0) (rm2 l Z a0 hw [] a1 h0 n0 Z0 ) hZ (hw _ (List.mem_of_getElem? (i := 10) rfl)) (hw _ (List.mem_of_getElem? (i := 9) rfl)) (by decide) (by decide)) (g := (mkF m 1 #[.val (.ref a1), .val (.long q2), .second, .val (.long q3), .second] [(.ref a1)])) rfl (by rw [hml]; rfl) (Steps.refl _) (a := a1) (argsL := []) (rest := []) (lenOf own_pd0 rfl) rfl (by show 2 * 0 + _ ≤ _; exact Nat.le_of_eq rfl) (hb hby d1_1) (fun _ _ => ⟨rfl, e0, (by decide : 0 + 0 ≤ _), (by decide : 0 + 0 ≤ _)⟩)
  dsimp only [Pt.U, Pt.locs, Pt.cells, Pt.slots] at X2 l2 y2 z2 st2 hQ2
  subst l2 y2 z2
  obtain ⟨rfl, Nq2, e2⟩ := hQ2
  refine Go.tr st2 ?_
  have N2 := Fr.app N0 Nq2
  show Go p e below _ (T2.setTop (mkF m 4 #[.val (.ref a1), .val (.long q2), .second, .val (.long q3), .second] []))
  refine g_aloadN X2 hx (hb hby d1_4) 5 rfl (v := (.ref a1)) rfl rfl ?_
  refine g_lloadN X2 hx (hb hby d1_5) 6 rfl (v := q2) rfl ?_
  obtain ⟨T3, h3, X3, e3, W3, st3⟩ := putF X2 hx hZ hown (host := "") (Or.inl (hw _ (List.mem_of_getElem? (i := 14) rfl))) Via.refl e2 F_high_a1 E_a1 (Or.inr ⟨(hw _ (List.mem_of_getElem? (i := 15) rfl)), rfl, hnm⟩) (hw _ (List.mem_of_getElem? (i := 1) rfl)) (ty := .long) (by decide) rfl rfl (g := (mkF m 6 #[.val (.ref a1), .val (.long q2), .second, .val (.long q3), .second] [(.long q2), (.ref a1)])) rfl rfl (hb hby d1_6)
  refine Go.st st3 ?_
  have E_a1_4 : Exa Z h3 a1 "com/example/peerpool/peerpool/sim/PeerId" := Exa.wr W3 E_a1
  have F_low_a1_4 : Fld Z h3 a1 "com/example/peerpool/peerpool/sim/PeerId" "low" "J" u2 := Fld.other W3 F_low_a1 (Or.inr (slot_ne (Or.inr (hw _ (List.mem_of_getElem? (i := 17) rfl))) (Or.inr (hw _ (List.mem_of_getElem? (i := 15) rfl))) (by decide) (t := .long) (t' := .long) (by decide) (by decide)))
  have F_high_a1_3w : Fld Z h3 a1 "com/example/peerpool/peerpool/sim/PeerId" "high" "J" (.long q2) := Fld.same W3 F_high_a1
  have K3 : Keep h0 h3 [a1] := Keep.wr K0 W3 (Or.inl (List.mem_of_getElem? (i := 0) rfl))
  have N3 := Fr.snoc X3 N2 g_a1
  have Zs3 : n0 ≤ h3.size := by rw [W3.size]; exact Z0
  show Go p e below _ (T3.setTop (mkF m 9 #[.val (.ref a1), .val (.long q2), .second, .val (.long q3), .second] []))
  refine g_aloadN X3 hx (hb hby d1_9) 10 rfl (v := (.ref a1)) rfl rfl ?_
  refine g_lloadN X3 hx (hb hby d1_10) 11 rfl (v := q3) rfl ?_
  obtain ⟨T5, h5, X5, e5, W5, st5⟩ := putF X3 hx hZ hown (host := "") (Or.inl (hw _ (List.mem_of_getElem? (i := 16) rfl))) Via.refl e3 F_low_a1_4 E_a1_4 (Or.inr ⟨(hw _ (List.mem_of_getElem? (i := 17) rfl)), rfl, hnm⟩) (hw _ (List.mem_of_getElem? (i := 1) rfl)) (ty := .long) (by decide) rfl rfl (g := (mkF m 11 #[.val (.ref a1), .val (.long q2), .second, .val (.long q3), .second] [(.long q3), (.ref a1)])) rfl rfl (hb hby d1_11)
  refine Go.st st5 ?_
  have E_a1_6 : Exa Z h5 a1 "com/example/peerpool/peerpool/sim/PeerId" := Exa.wr W5 E_a1_4
  have F_high_a1_6 : Fld Z h5 a1 "com/example/peerpool/peerpool/sim/PeerId" "high" "J" (.long q2) := Fld.other W5 F_high_a1_3w (Or.inr (slot_ne (Or.inr (hw _ (List.mem_of_getElem? (i := 15) rfl))) (Or.inr (hw _ (List.mem_of_getElem? (i := 17) rfl))) (by decide) (t := .long) (t' := .long) (by decide) (by decide)))
  have F_low_a1_5w : Fld Z h5 a1 "com/example/peerpool/peerpool/sim/PeerId" "low" "J" (.long q3) := Fld.same W5 F_low_a1_4
  have K5 : Keep h0 h5 [a1] := Keep.wr K3 W5 (Or.inl (List.mem_of_getElem? (i := 0) rfl))
  have N5 := Fr.snoc X5 N3 g_a1
  have Zs5 : n0 ≤ h5.size := by rw [W5.size]; exact Zs3
  show Go p e below _ (T5.setTop (mkF m 14 #[.val (.ref a1), .val (.long q2), .second, .val (.long q3), .second] []))
  refine Go.retV X5 hx hlk Bd.returns (hb hby d1_14) (by decide) (by decide) ?_
  show Q1 Z a1 q2 q3 u1 u2 h0 n0 _ T5.heap _
  rw [e5]
  exact ⟨rfl, N5, K5, E_a1_6, F_high_a1_6, F_low_a1_5w⟩
theorem ef_4 (m : MethodId) (x0 : Addr) (x1 : Int32) : entryFrame m #[(.ref x0), (.int x1)] 5 = mkF m 0 #[.val (.ref x0), .val (.int x1), .unset, .unset, .unset] [] := by first | (simp [entryFrame, mkF, argsToLocals, Value.category]; done) | rfl
theorem d4_0 : decode prog_43_method_9_code 0 = .ok (.iload_n 1, 1) := by decide +kernel
theorem d4_1 : decode prog_43_method_9_code 1 = .ok (.bipush 16, 2) := by decide +kernel
theorem d4_3 : decode prog_43_method_9_code 3 = .ok (.if_icmp .ge 10, 3) := by decide +kernel
theorem d4_13 : decode prog_43_method_9_code 13 = .ok (.aload_n 0, 1) := by decide +kernel
theorem d4_14 : decode prog_43_method_9_code 14 = .ok (.getfield 13, 3) := by decide +kernel
theorem d4_17 : decode prog_43_method_9_code 17 = .ok (.lstore_n 2, 1) := by decide +kernel
theorem d4_18 : decode prog_43_method_9_code 18 = .ok (.bipush 64, 2) := by decide +kernel
theorem d4_20 : decode prog_43_method_9_code 20 = .ok (.iconst 4, 1) := by decide +kernel
theorem d4_21 : decode prog_43_method_9_code 21 = .ok (.iload_n 1, 1) := by decide +kernel
theorem d4_22 : decode prog_43_method_9_code 22 = .ok (.bipush 16, 2) := by decide +kernel
theorem d4_24 : decode prog_43_method_9_code 24 = .ok (.irem, 1) := by decide +kernel
theorem d4_25 : decode prog_43_method_9_code 25 = .ok (.iconst 1, 1) := by decide +kernel
theorem d4_26 : decode prog_43_method_9_code 26 = .ok (.iadd, 1) := by decide +kernel
theorem d4_27 : decode prog_43_method_9_code 27 = .ok (.imul, 1) := by decide +kernel
theorem d4_28 : decode prog_43_method_9_code 28 = .ok (.isub, 1) := by decide +kernel
theorem d4_29 : decode prog_43_method_9_code 29 = .ok (.istore 4, 2) := by decide +kernel
theorem d4_31 : decode prog_43_method_9_code 31 = .ok (.lload_n 2, 1) := by decide +kernel
theorem d4_32 : decode prog_43_method_9_code 32 = .ok (.iload 4, 2) := by decide +kernel
theorem d4_34 : decode prog_43_method_9_code 34 = .ok (.lushr, 1) := by decide +kernel
theorem d4_35 : decode prog_43_method_9_code 35 = .ok (.l2i, 1) := by decide +kernel
theorem d4_36 : decode prog_43_method_9_code 36 = .ok (.bipush 15, 2) := by decide +kernel
theorem d4_38 : decode prog_43_method_9_code 38 = .ok (.iand, 1) := by decide +kernel
theorem d4_39 : decode prog_43_method_9_code 39 = .ok (.ireturn, 1) := by decide +kernel
theorem d4_6 : decode prog_43_method_9_code 6 = .ok (.aload_n 0, 1) := by decide +kernel
theorem d4_7 : decode prog_43_method_9_code 7 = .ok (.getfield 7, 3) := by decide +kernel
theorem d4_10 : decode prog_43_method_9_code 10 = .ok (.goto 7, 3) := by decide +kernel
def Q4 (Z : State) (a1 : Addr) (p2 : Int32) (hi : Int64) (lo : Int64) (h0 : Heap) (n0 : Nat) (v : Option Value) (h : Heap) (L : List Loc) : Prop := v = some (.int (own_dig hi lo p2)) ∧ Fr n0 L ∧ h = h0
set_option maxRecDepth 65536 in
set_option maxHeartbeats 40000000 in
theorem rm4 (l : Launch) (Z : State) (a0 : Array Value) (hw : ∀ d ∈ tables_1, d.before a0 Z = true) (ws : List Jvm.Cond) (a1 : Addr) (p2 : Int32) (hi : Int64) (lo : Int64) (h0 : Heap) (n0 : Nat) (Z0 : n0 ≤ h0.size) (E_a1 : Exa Z h0 a1 "com/example/peerpool/peerpool/sim/PeerId") (F_high_a1 : Fld Z h0 a1 "com/example/peerpool/peerpool/sim/PeerId" "high" "J" (.long hi)) (F_low_a1 : Fld Z h0 a1 "com/example/peerpool/peerpool/sim/PeerId" "low" "J" (.long lo)) :
    MetFree l (⟨"com/example/peerpool/peerpool/sim/PeerId", "digit", "(I)I"⟩ : MethodName) (head1 (Jvm.Cond.code (⟨"com/example/peerpool/peerpool/sim/PeerId", "digit", "(I)I"⟩ : MethodName) prog_43_method_9_code 5 (some .int) :: ws) ({ frames := 0, cells := 0, slots := 0, locals := 0 } : Room)) (fun a U => a = #[(.ref a1), (.int p2)] ∧ Z.Warmed39 U.vm ∧ U.heap = h0) (fun _ _ _ _ _ => True) (fun _ U o U' => ∃ v L, o = .returned v ∧ Q4 Z a1 p2 hi lo h0 n0 v U'.heap L ∧ FrameEnd U o U' L ({ frames := 0, cells := 0, slots := 0, locals := 0 } : Room).cells ({ frames := 0, cells := 0, slots := 0, locals := 0 } : Room).slots) := by
  refine MetFree.of_bodySF (plainFor_of_name own_pn_com_example_peerpool_peerpool_sim_PeerId) hisR ?_
  intro p e s m args below meth c s₁ Bd hml0 hP hK
  obtain ⟨rfl, hZ, hh⟩ := hP
  have hx := Bd.exec
  have hby := Bd.bytes
  have hlk := Bd.notSynchronized
  have hml : c.maxLocals = 5 := hml0
  have hown : s.vm.findClass "com/example/peerpool/peerpool/sim/PeerId" = some m.cls := findClass_of_methodNamed Bd.named
  have hnm := (name_of_methodNamed Bd.named Bd.method).1
  have X0 : Stand p l e ({ frames := 0, cells := 0, slots := 0, locals := 0 } : Room) s m #[(.ref a1), (.int p2)] below meth c s₁ [] 0 0 := Stand.of_body Bd
  have e0 : s₁.heap = h0 := by rw [← hh, Bd.state]; rfl
  have N0 := Fr.nil n0
  show Go p e below (KQ s below (Q4 Z a1 p2 hi lo h0 n0) ({ frames := 0, cells := 0, slots := 0, locals := 0 } : Room).cells ({ frames := 0, cells := 0, slots := 0, locals := 0 } : Room).slots) _
  refine Go.body (T := s₁) (σ := s₁) (g' := (mkF m 0 #[.val (.ref a1), .val (.int p2), .unset, .unset, .unset] [])) (ef_4 m a1 p2) ?_
  refine g_iloadN X0 hx (hb hby d4_0) 1 rfl (v := p2) rfl ?_
  refine g_bipush X0 hx (hb hby d4_1) 3 rfl (16 : Int32) rfl ?_
  refine g_icmp_ge X0 hx (hb hby d4_3) 13 6 (by decide) (by decide) rfl (fun hc3 => ?_) (fun hc3 => ?_)
  · refine g_aloadN X0 hx (hb hby d4_13) 14 rfl (v := (.ref a1)) rfl rfl ?_
    obtain ⟨T7, X7, e7, st7⟩ := getF X0 hx hZ hown (host := "") (Or.inl (hw _ (List.mem_of_getElem? (i := 16) rfl))) Via.refl e0 F_low_a1 (g := (mkF m 14 #[.val (.ref a1), .val (.int p2), .unset, .unset, .unset] [(.ref a1)])) rfl rfl (hb hby d4_14)
    refine Go.st st7 ?_
    show Go p e below _ (T7.setTop (mkF m 17 #[.val (.ref a1), .val (.int p2), .unset, .unset, .unset] [(.long lo)]))
    refine g_lstoreN X7 hx (hb hby d4_17) 18 rfl #[.val (.ref a1), .val (.int p2), .val (.long lo), .second, .unset] rfl ?_
    refine g_bipush X7 hx (hb hby d4_18) 20 rfl (64 : Int32) rfl ?_
    refine g_iconst X7 hx (hb hby d4_20) 21 rfl (4 : Int32) rfl ?_
    refine g_iloadN X7 hx (hb hby d4_21) 22 rfl (v := p2) rfl ?_
    refine g_bipush X7 hx (hb hby d4_22) 24 rfl (16 : Int32) rfl ?_
    refine g_irem X7 hx (hb hby d4_24) 25 rfl (by decide) (p2 % (16 : Int32)) rfl ?_
    refine g_iconst X7 hx (hb hby d4_25) 26 rfl (1 : Int32) rfl ?_
    refine g_iadd X7 hx (hb hby d4_26) 27 rfl ((p2 % (16 : Int32)) + (1 : Int32)) rfl ?_
    refine g_imul X7 hx (hb hby d4_27) 28 rfl ((4 : Int32) * ((p2 % (16 : Int32)) + (1 : Int32))) rfl ?_
    refine g_isub X7 hx (hb hby d4_28) 29 rfl ((64 : Int32) - ((4 : Int32) * ((p2 % (16 : Int32)) + (1 : Int32)))) rfl ?_
    refine g_istore X7 hx (hb hby d4_29) 31 rfl #[.val (.ref a1), .val (.int p2), .val (.long lo), .second, .val (.int ((64 : Int32) - ((4 : Int32) * ((p2 % (16 : Int32)) + (1 : Int32)))))] rfl ?_
    refine g_lloadN X7 hx (hb hby d4_31) 32 rfl (v := lo) rfl ?_
    refine g_iload X7 hx (hb hby d4_32) 34 rfl (v := ((64 : Int32) - ((4 : Int32) * ((p2 % (16 : Int32)) + (1 : Int32))))) rfl ?_
    refine g_lushr X7 hx (hb hby d4_34) 35 rfl (XT.ushrL lo ((64 : Int32) - ((4 : Int32) * ((p2 % (16 : Int32)) + (1 : Int32))))) rfl ?_
    refine g_l2i X7 hx (hb hby d4_35) 36 rfl (XT.ushrL lo ((64 : Int32) - ((4 : Int32) * ((p2 % (16 : Int32)) + (1 : Int32))))).toInt32 rfl ?_
    refine g_bipush X7 hx (hb hby d4_36) 38 rfl (15 : Int32) rfl ?_
    refine g_iand X7 hx (hb hby d4_38) 39 rfl (((XT.ushrL lo ((64 : Int32) - ((4 : Int32) * ((p2 % (16 : Int32)) + (1 : Int32))))).toInt32) &&& (15 : Int32)) rfl ?_
    refine Go.retI X7 hx hlk Bd.returns (hb hby d4_39) (by decide) (by decide) ?_
    show Q4 Z a1 p2 hi lo h0 n0 _ T7.heap _
    rw [e7]
    exact ⟨(by simp only [own_dig, hc3, if_true, if_false]), N0, rfl⟩
  · refine g_aloadN X0 hx (hb hby d4_6) 7 rfl (v := (.ref a1)) rfl rfl ?_
    obtain ⟨T8, X8, e8, st8⟩ := getF X0 hx hZ hown (host := "") (Or.inl (hw _ (List.mem_of_getElem? (i := 14) rfl))) Via.refl e0 F_high_a1 (g := (mkF m 7 #[.val (.ref a1), .val (.int p2), .unset, .unset, .unset] [(.ref a1)])) rfl rfl (hb hby d4_7)
    refine Go.st st8 ?_
    show Go p e below _ (T8.setTop (mkF m 10 #[.val (.ref a1), .val (.int p2), .unset, .unset, .unset] [(.long hi)]))
    refine g_goto X8 hx (hb hby d4_10) 17 (by decide) (by decide) ?_
    refine g_lstoreN X8 hx (hb hby d4_17) 18 rfl #[.val (.ref a1), .val (.int p2), .val (.long hi), .second, .unset] rfl ?_
    refine g_bipush X8 hx (hb hby d4_18) 20 rfl (64 : Int32) rfl ?_
    refine g_iconst X8 hx (hb hby d4_20) 21 rfl (4 : Int32) rfl ?_
    refine g_iloadN X8 hx (hb hby d4_21) 22 rfl (v := p2) rfl ?_
    refine g_bipush X8 hx (hb hby d4_22) 24 rfl (16 : Int32) rfl ?_
    refine g_irem X8 hx (hb hby d4_24) 25 rfl (by decide) (p2 % (16 : Int32)) rfl ?_
    refine g_iconst X8 hx (hb hby d4_25) 26 rfl (1 : Int32) rfl ?_
    refine g_iadd X8 hx (hb hby d4_26) 27 rfl ((p2 % (16 : Int32)) + (1 : Int32)) rfl ?_
    refine g_imul X8 hx (hb hby d4_27) 28 rfl ((4 : Int32) * ((p2 % (16 : Int32)) + (1 : Int32))) rfl ?_
    refine g_isub X8 hx (hb hby d4_28) 29 rfl ((64 : Int32) - ((4 : Int32) * ((p2 % (16 : Int32)) + (1 : Int32)))) rfl ?_
    refine g_istore X8 hx (hb hby d4_29) 31 rfl #[.val (.ref a1), .val (.int p2), .val (.long hi), .second, .val (.int ((64 : Int32) - ((4 : Int32) * ((p2 % (16 : Int32)) + (1 : Int32)))))] rfl ?_
    refine g_lloadN X8 hx (hb hby d4_31) 32 rfl (v := hi) rfl ?_
    refine g_iload X8 hx (hb hby d4_32) 34 rfl (v := ((64 : Int32) - ((4 : Int32) * ((p2 % (16 : Int32)) + (1 : Int32))))) rfl ?_
    refine g_lushr X8 hx (hb hby d4_34) 35 rfl (XT.ushrL hi ((64 : Int32) - ((4 : Int32) * ((p2 % (16 : Int32)) + (1 : Int32))))) rfl ?_
    refine g_l2i X8 hx (hb hby d4_35) 36 rfl (XT.ushrL hi ((64 : Int32) - ((4 : Int32) * ((p2 % (16 : Int32)) + (1 : Int32))))).toInt32 rfl ?_
    refine g_bipush X8 hx (hb hby d4_36) 38 rfl (15 : Int32) rfl ?_
    refine g_iand X8 hx (hb hby d4_38) 39 rfl (((XT.ushrL hi ((64 : Int32) - ((4 : Int32) * ((p2 % (16 : Int32)) + (1 : Int32))))).toInt32) &&& (15 : Int32)) rfl ?_
    refine Go.retI X8 hx hlk Bd.returns (hb hby d4_39) (by decide) (by decide) ?_
    show Q4 Z a1 p2 hi lo h0 n0 _ T8.heap _
    rw [e8]
    exact ⟨(by simp only [own_dig, hc3, if_true, if_false]), N0, rfl⟩
theorem own_pn_com_example_peerpool_peerpool_sim_PeerIdDigitPinLaw : plainName "com/example/peerpool/peerpool/sim/PeerIdDigitPinLaw" = true := by first | (simp [plainName, overriddenIn]; done) | decide +kernel
theorem ef_0 (m : MethodId) (x0 : Int64) (x1 : Int64) (x2 : Int32) : entryFrame m #[(.long x0), (.long x1), (.int x2)] maxLocals = mkF m 0 #[.val (.long x0), .second, .val (.long x1), .second, .val (.int x2), .unset, .unset, .unset, .unset, .unset, .unset] [] := by first | (simp [entryFrame, mkF, argsToLocals, Value.category, maxLocals]; done) | rfl
theorem own_pd1 : parseMethodDescriptor "(JJ)V" = some ⟨[.long, .long], none⟩ := by decide +kernel
theorem own_pd2 : parseMethodDescriptor "(I)I" = some ⟨[.int], some .int⟩ := by decide +kernel
def Q0 (Z : State) (q1 : Int64) (q2 : Int64) (p3 : Int32) (h0 : Heap) (n0 : Nat) (v : Option Value) (h : Heap) (L : List Loc) : Prop := v = some (.int (1 : Int32)) ∧ Fr n0 L
set_option maxRecDepth 65536 in
set_option maxHeartbeats 40000000 in
theorem rm0 (l : Launch) (Z : State) (a0 : Array Value) (hw : ∀ d ∈ tables_1, d.before a0 Z = true) (ws : List Jvm.Cond) (q1 : Int64) (q2 : Int64) (p3 : Int32) (h0 : Heap) (n0 : Nat) (Z0 : n0 ≤ h0.size) (hn0 : h0.size = n0) :
    MetFree l x (head1 (Jvm.Cond.code x code maxLocals ret :: ws) room_1) (fun a U => a = #[(.long q1), (.long q2), (.int p3)] ∧ Z.Warmed39 U.vm ∧ U.heap = h0) (fun _ _ _ _ _ => True) (fun _ U o U' => ∃ v L, o = .returned v ∧ Q0 Z q1 q2 p3 h0 n0 v U'.heap L ∧ FrameEnd U o U' L 16 128) := by
  refine MetFree.of_bodySF (plainFor_of_name own_pn_com_example_peerpool_peerpool_sim_PeerIdDigitPinLaw) hisR ?_
  intro p e s m args below meth c s₁ Bd hml0 hP hK
  obtain ⟨rfl, hZ, hh⟩ := hP
  have hx := Bd.exec
  have hby := Bd.bytes
  have hlk := Bd.notSynchronized
  have hml : c.maxLocals = 11 := hml0
  have hown : s.vm.findClass "com/example/peerpool/peerpool/sim/PeerIdDigitPinLaw" = some m.cls := findClass_of_methodNamed Bd.named
  have hnm := (name_of_methodNamed Bd.named Bd.method).1
  have X0 : Stand p l e room_1 s m #[(.long q1), (.long q2), (.int p3)] below meth c s₁ [] 0 0 := Stand.of_body Bd
  have e0 : s₁.heap = h0 := by rw [← hh, Bd.state]; rfl
  have N0 := Fr.nil n0
  have K0 : Keep h0 h0 [] := Keep.refl _ _
  show Go p e below (KQ s below (Q0 Z q1 q2 p3 h0 n0) 16 128) _
  refine Go.body (T := s₁) (σ := s₁) (g' := (mkF m 0 #[.val (.long q1), .second, .val (.long q2), .second, .val (.int p3), .unset, .unset, .unset, .unset, .unset, .unset] [])) (ef_0 m q1 q2 p3) ?_
  refine g_iload X0 hx (hb hby at_0) 2 rfl (v := p3) rfl ?_
  refine g_bipush X0 hx (hb hby at_2) 4 rfl (31 : Int32) rfl ?_
  obtain ⟨pl, e_pl⟩ : ∃ z, (p3 &&& (31 : Int32)) = z := ⟨_, rfl⟩
  refine g_iand X0 hx (hb hby at_4) 5 rfl pl e_pl ?_
  have hp : ¬ pl < 0 ∧ ¬ 31 < pl := e_pl ▸ own_rng p3
  refine g_istore X0 hx (hb hby at_5) 7 rfl #[.val (.long q1), .second, .val (.long q2), .second, .val (.int p3), .val (.int pl), .unset, .unset, .unset, .unset, .unset] rfl ?_
  obtain ⟨T9, h9, X9, e9, E9, A9, D9, -, st9⟩ := newO X0 hx hZ hown (hw _ (List.mem_of_getElem? (i := 0) rfl)) (hw _ (List.mem_of_getElem? (i := 1) rfl)) (hw _ (List.mem_of_getElem? (i := 2) rfl)) e0 (g := (mkF m 7 #[.val (.long q1), .second, .val (.long q2), .second, .val (.int p3), .val (.int pl), .unset, .unset, .unset, .unset, .unset] [])) rfl (hb hby at_7) (by decide) (by decide)
  refine Go.st st9 ?_
  obtain ⟨o9, q9⟩ : ∃ z, z = h0.size := ⟨_, rfl⟩
  rw [← q9] at A9 D9 ⊢
  have g_o9 : n0 ≤ o9 := Nat.le_trans Z0 (Nat.le_of_eq q9.symm)
  have mh_o9 : h0.size ≤ o9 := Nat.le_trans K0.1 (Nat.le_of_eq q9.symm)
  have F_high_9 : Fld Z h9 o9 "com/example/peerpool/peerpool/sim/PeerId" "high" "J" (.long (0 : Int64)) := D9 (Or.inr (hw _ (List.mem_of_getElem? (i := 15) rfl))) (ty := .long) (by decide)
  have F_low_9 : Fld Z h9 o9 "com/example/peerpool/peerpool/sim/PeerId" "low" "J" (.long (0 : Int64)) := D9 (Or.inr (hw _ (List.mem_of_getElem? (i := 17) rfl))) (ty := .long) (by decide)
  have K9 : Keep h0 h9 [] := Keep.ext K0 E9
  have Zs9 : n0 ≤ h9.size := Nat.le_trans Z0 E9.1
  show Go p e below _ (T9.setTop (mkF m 10 #[.val (.long q1), .second, .val (.long q2), .second, .val (.int p3), .val (.int pl), .unset, .unset, .unset, .unset, .unset] [(.ref o9)]))
  refine g_dup X9 hx (hb hby at_10) 11 rfl rfl ?_
  refine g_lloadN X9 hx (hb hby at_11) 12 rfl (v := q1) rfl ?_
  refine g_lloadN X9 hx (hb hby at_12) 13 rfl (v := q2) rfl ?_
  obtain ⟨_, _, ⟨T11, L11, k11, n11⟩, -, X11, ⟨Lc11, hQ11, l11, y11, z11⟩, st11⟩ := X9.specialBack hx (y := (⟨"com/example/peerpool/peerpool/sim/PeerId", "<init>", "(JJ)V"⟩ : MethodName)) rfl hown (mvT hZ (hw _ (List.mem_of_getElem? (i := 3) rfl))) (mvT hZ (hw _ (List.mem_of_getElem? (i := 4) rfl))) (mvT hZ (hw _ (List.mem_of_getElem? (i := 5) rfl))) (by decide) (backOf (W := 1) (rm1 l Z a0 hw [] o9 q1 q2 (.long (0 : Int64)) (.long (0 : Int64)) h9 n0 Zs9 A9 F_high_9 F_low_9 g_o9) hZ (hw _ (List.mem_of_getElem? (i := 5) rfl)) (hw _ (List.mem_of_getElem? (i := 2) rfl)) (by decide) (by decide)) (g := (mkF m 13 #[.val (.long q1), .second, .val (.long q2), .second, .val (.int p3), .val (.int pl), .unset, .unset, .unset, .unset, .unset] [(.long q2), (.long q1), (.ref o9), (.ref o9)])) rfl (by rw [hml]; rfl) (Steps.refl _) (a := o9) (argsL := [(.long q1), (.long q2)]) (rest := [(.ref o9)]) (lenOf own_pd1 rfl) rfl (by show 2 * 0 + _ ≤ _; exact Nat.le_of_eq rfl) (hb hby at_13) (fun _ _ => ⟨rfl, e9, (by decide : 1 + 0 ≤ _), (by decide : 2 + 0 ≤ _)⟩)
  dsimp only [Pt.U, Pt.locs, Pt.cells, Pt.slots] at X11 l11 y11 z11 st11 hQ11
  subst l11 y11 z11
  obtain ⟨rfl, Nq11, Kq11, f11_0, f11_1, f11_2⟩ := hQ11
  refine Go.tr st11 ?_
  have N11 := Fr.app N0 Nq11
  have E_o9_12 : Exa Z T11.heap o9 "com/example/peerpool/peerpool/sim/PeerId" := Exa.keep A9 Kq11
  have K11 : Keep h0 T11.heap [] := Keep.trans K9 Kq11 (allS (Or.inr mh_o9) all0)
  have Zs11 : n0 ≤ T11.heap.size := Nat.le_trans Zs9 Kq11.1
  show Go p e below _ (T11.setTop (mkF m 16 #[.val (.long q1), .second, .val (.long q2), .second, .val (.int p3), .val (.int pl), .unset, .unset, .unset, .unset, .unset] [(.ref o9)]))
  refine g_astore X11 hx (hb hby at_16) 18 rfl rfl #[.val (.long q1), .second, .val (.long q2), .second, .val (.int p3), .val (.int pl), .val (.ref o9), .unset, .unset, .unset, .unset] rfl ?_
  refine g_aload X11 hx (hb hby at_18) 20 rfl (v := (.ref o9)) rfl rfl ?_
  refine g_iload X11 hx (hb hby at_20) 22 rfl (v := pl) rfl ?_
  obtain ⟨cq13, kq13, q13a, q13b, q13c⟩ := isOf hZ rfl f11_0
  obtain ⟨_, _, ⟨T13, L13, k13, n13⟩, -, X13, ⟨Lc13, hQ13, l13, y13, z13⟩, st13⟩ := X11.virtualBack hx (y := (⟨"com/example/peerpool/peerpool/sim/PeerId", "digit", "(I)I"⟩ : MethodName)) (z := (⟨"com/example/peerpool/peerpool/sim/PeerId", "digit", "(I)I"⟩ : MethodName)) hown (mvT hZ (hw _ (List.mem_of_getElem? (i := 18) rfl))) (mvT hZ (hw _ (List.mem_of_getElem? (i := 19) rfl))) (notFace_of_selects (args := #[]) (mvT hZ (hw _ (List.mem_of_getElem? (i := 21) rfl)))) (mvT hZ (hw _ (List.mem_of_getElem? (i := 21) rfl))) (mvT hZ (hw _ (List.mem_of_getElem? (i := 20) rfl))) (by decide) (backOf (W := 0) (rm4 l Z a0 hw [] o9 pl q1 q2 T11.heap n0 Zs11 f11_0 f11_1 f11_2) hZ (hw _ (List.mem_of_getElem? (i := 22) rfl)) (hw _ (List.mem_of_getElem? (i := 2) rfl)) (by decide) (by decide)) q13a q13c (g := (mkF m 22 #[.val (.long q1), .second, .val (.long q2), .second, .val (.int p3), .val (.int pl), .val (.ref o9), .unset, .unset, .unset, .unset] [(.int pl), (.ref o9)])) rfl (by rw [hml]; rfl) (Steps.refl _) (argsL := [(.int pl)]) (rest := []) (lenOf own_pd2 rfl) rfl (by show 2 * 0 + _ ≤ _; exact Nat.le_of_eq rfl) (hb hby at_22) (fun _ _ => ⟨rfl, rfl, (by decide : 1 + 0 ≤ _), (by decide : 2 + 0 ≤ _)⟩)
  dsimp only [Pt.U, Pt.locs, Pt.cells, Pt.slots] at X13 l13 y13 z13 st13 hQ13
  subst l13 y13 z13
  obtain ⟨rfl, Nq13, e13⟩ := hQ13
  refine Go.tr st13 ?_
  have N13 := Fr.app N11 Nq13
  show Go p e below _ (T13.setTop (mkF m 25 #[.val (.long q1), .second, .val (.long q2), .second, .val (.int p3), .val (.int pl), .val (.ref o9), .unset, .unset, .unset, .unset] [(.int (own_dig q1 q2 pl))]))
  refine g_istore X13 hx (hb hby at_25) 27 rfl #[.val (.long q1), .second, .val (.long q2), .second, .val (.int p3), .val (.int pl), .val (.ref o9), .val (.int (own_dig q1 q2 pl)), .unset, .unset, .unset] rfl ?_
  refine g_iload X13 hx (hb hby at_27) 29 rfl (v := pl) rfl ?_
  refine g_iconst X13 hx (hb hby at_29) 30 rfl (4 : Int32) rfl ?_
  refine g_ishr X13 hx (hb hby at_30) 31 rfl (pl >>> ((4 : Int32) &&& 31)) rfl ?_
  refine g_if_ne X13 hx (hb hby at_31) 38 34 (by decide) (by decide) rfl (fun hc31 => ?_) (fun hc31 => ?_)
  · refine g_lloadN X13 hx (hb hby at_38) 39 rfl (v := q2) rfl ?_
    refine g_lstore X13 hx (hb hby at_39) 41 rfl #[.val (.long q1), .second, .val (.long q2), .second, .val (.int p3), .val (.int pl), .val (.ref o9), .val (.int (own_dig q1 q2 pl)), .val (.long q2), .second, .unset] rfl ?_
    refine g_lload X13 hx (hb hby at_41) 43 rfl (v := q2) rfl ?_
    refine g_iconst X13 hx (hb hby at_43) 44 rfl (4 : Int32) rfl ?_
    refine g_iload X13 hx (hb hby at_44) 46 rfl (v := pl) rfl ?_
    refine g_bipush X13 hx (hb hby at_46) 48 rfl (15 : Int32) rfl ?_
    refine g_iand X13 hx (hb hby at_48) 49 rfl (pl &&& (15 : Int32)) rfl ?_
    refine g_imul X13 hx (hb hby at_49) 50 rfl ((4 : Int32) * (pl &&& (15 : Int32))) rfl ?_
    refine g_lshl X13 hx (hb hby at_50) 51 rfl (q2 <<< (((4 : Int32) * (pl &&& (15 : Int32))).toInt64 &&& 63)) rfl ?_
    refine g_bipush X13 hx (hb hby at_51) 53 rfl (60 : Int32) rfl ?_
    refine g_lushr X13 hx (hb hby at_53) 54 rfl (XT.ushrL (q2 <<< (((4 : Int32) * (pl &&& (15 : Int32))).toInt64 &&& 63)) (60 : Int32)) rfl ?_
    refine g_l2i X13 hx (hb hby at_54) 55 rfl (XT.ushrL (q2 <<< (((4 : Int32) * (pl &&& (15 : Int32))).toInt64 &&& 63)) (60 : Int32)).toInt32 rfl ?_
    refine g_istore X13 hx (hb hby at_55) 57 rfl #[.val (.long q1), .second, .val (.long q2), .second, .val (.int p3), .val (.int pl), .val (.ref o9), .val (.int (own_dig q1 q2 pl)), .val (.long q2), .second, .val (.int (XT.ushrL (q2 <<< (((4 : Int32) * (pl &&& (15 : Int32))).toInt64 &&& 63)) (60 : Int32)).toInt32)] rfl ?_
    refine g_iload X13 hx (hb hby at_57) 59 rfl (v := (own_dig q1 q2 pl)) rfl ?_
    refine g_iload X13 hx (hb hby at_59) 61 rfl (v := (XT.ushrL (q2 <<< (((4 : Int32) * (pl &&& (15 : Int32))).toInt64 &&& 63)) (60 : Int32)).toInt32) rfl ?_
    refine g_icmp_ne X13 hx (hb hby at_61) 80 64 (by decide) (by decide) rfl (fun hc61 => False.elim (hc61 (own_lo q1 q2 pl hp hc31))) (fun hc61 => ?_)
    refine g_iload X13 hx (hb hby at_64) 66 rfl (v := (own_dig q1 q2 pl)) rfl ?_
    refine g_if_lt X13 hx (hb hby at_66) 80 69 (by decide) (by decide) rfl (fun hc66 => False.elim ((own_dig0 q1 q2 pl).1 hc66)) (fun hc66 => ?_)
    refine g_iload X13 hx (hb hby at_69) 71 rfl (v := (own_dig q1 q2 pl)) rfl ?_
    refine g_bipush X13 hx (hb hby at_71) 73 rfl (15 : Int32) rfl ?_
    refine g_icmp_gt X13 hx (hb hby at_73) 80 76 (by decide) (by decide) rfl (fun hc73 => False.elim ((own_dig0 q1 q2 pl).2 hc73)) (fun hc73 => ?_)
    refine g_iconst X13 hx (hb hby at_76) 77 rfl (1 : Int32) rfl ?_
    refine g_goto X13 hx (hb hby at_77) 81 (by decide) (by decide) ?_
    refine Go.retN X13 hx hlk (t := .boolean) Bd.returns (by simp) (hb hby at_81) (by decide) (by decide) ?_
    exact ⟨rfl, N13⟩
  · refine g_lloadN X13 hx (hb hby at_34) 35 rfl (v := q1) rfl ?_
    refine g_goto X13 hx (hb hby at_35) 39 (by decide) (by decide) ?_
    refine g_lstore X13 hx (hb hby at_39) 41 rfl #[.val (.long q1), .second, .val (.long q2), .second, .val (.int p3), .val (.int pl), .val (.ref o9), .val (.int (own_dig q1 q2 pl)), .val (.long q1), .second, .unset] rfl ?_
    refine g_lload X13 hx (hb hby at_41) 43 rfl (v := q1) rfl ?_
    refine g_iconst X13 hx (hb hby at_43) 44 rfl (4 : Int32) rfl ?_
    refine g_iload X13 hx (hb hby at_44) 46 rfl (v := pl) rfl ?_
    refine g_bipush X13 hx (hb hby at_46) 48 rfl (15 : Int32) rfl ?_
    refine g_iand X13 hx (hb hby at_48) 49 rfl (pl &&& (15 : Int32)) rfl ?_
    refine g_imul X13 hx (hb hby at_49) 50 rfl ((4 : Int32) * (pl &&& (15 : Int32))) rfl ?_
    refine g_lshl X13 hx (hb hby at_50) 51 rfl (q1 <<< (((4 : Int32) * (pl &&& (15 : Int32))).toInt64 &&& 63)) rfl ?_
    refine g_bipush X13 hx (hb hby at_51) 53 rfl (60 : Int32) rfl ?_
    refine g_lushr X13 hx (hb hby at_53) 54 rfl (XT.ushrL (q1 <<< (((4 : Int32) * (pl &&& (15 : Int32))).toInt64 &&& 63)) (60 : Int32)) rfl ?_
    refine g_l2i X13 hx (hb hby at_54) 55 rfl (XT.ushrL (q1 <<< (((4 : Int32) * (pl &&& (15 : Int32))).toInt64 &&& 63)) (60 : Int32)).toInt32 rfl ?_
    refine g_istore X13 hx (hb hby at_55) 57 rfl #[.val (.long q1), .second, .val (.long q2), .second, .val (.int p3), .val (.int pl), .val (.ref o9), .val (.int (own_dig q1 q2 pl)), .val (.long q1), .second, .val (.int (XT.ushrL (q1 <<< (((4 : Int32) * (pl &&& (15 : Int32))).toInt64 &&& 63)) (60 : Int32)).toInt32)] rfl ?_
    refine g_iload X13 hx (hb hby at_57) 59 rfl (v := (own_dig q1 q2 pl)) rfl ?_
    refine g_iload X13 hx (hb hby at_59) 61 rfl (v := (XT.ushrL (q1 <<< (((4 : Int32) * (pl &&& (15 : Int32))).toInt64 &&& 63)) (60 : Int32)).toInt32) rfl ?_
    refine g_icmp_ne X13 hx (hb hby at_61) 80 64 (by decide) (by decide) rfl (fun hc61 => False.elim (hc61 (own_hi q1 q2 pl hp hc31))) (fun hc61 => ?_)
    refine g_iload X13 hx (hb hby at_64) 66 rfl (v := (own_dig q1 q2 pl)) rfl ?_
    refine g_if_lt X13 hx (hb hby at_66) 80 69 (by decide) (by decide) rfl (fun hc66 => False.elim ((own_dig0 q1 q2 pl).1 hc66)) (fun hc66 => ?_)
    refine g_iload X13 hx (hb hby at_69) 71 rfl (v := (own_dig q1 q2 pl)) rfl ?_
    refine g_bipush X13 hx (hb hby at_71) 73 rfl (15 : Int32) rfl ?_
    refine g_icmp_gt X13 hx (hb hby at_73) 80 76 (by decide) (by decide) rfl (fun hc73 => False.elim ((own_dig0 q1 q2 pl).2 hc73)) (fun hc73 => ?_)
    refine g_iconst X13 hx (hb hby at_76) 77 rfl (1 : Int32) rfl ?_
    refine g_goto X13 hx (hb hby at_77) 81 (by decide) (by decide) ?_
    refine Go.retN X13 hx hlk (t := .boolean) Bd.returns (by simp) (hb hby at_81) (by decide) (by decide) ?_
    exact ⟨rfl, N13⟩
set_option maxRecDepth 65536 in
set_option maxHeartbeats 40000000 in
theorem comes_1 {Post : Tables → Env → Array Value → State → Outcome → State → Prop} (hpost : ∀ tb e args s v u, (limb_1_1.after args s (.returned v) u = true ∧ limb_1_2.after args s (.returned v) u = true ∧ True) → FrameEnd s (.returned v) u (Jvm.fieldLocs frame_1_writes args s ++ Jvm.arrayLocs frame_1_arrays args s ++ Jvm.staticLocs frame_1_statics s) 16 128 → Post tb e args s (.returned v) u) :
    ArmFor flags0 classFile x code maxLocals ret World_1 tables_1 room_1 Calls_1 rest_1 Pre_1 Post := by
  intro l hfl _ _ p e ha hc hk s m args below hf hA hF happ hP
  obtain ⟨hcalls, hrest, hpre⟩ := hP
  obtain ⟨-, -, -, hnamed, -, -, -, hat⟩ := (Spec.applies_iff hf).mp happ
  obtain ⟨hg, hn⟩ := and_e (Cond.before_iff.mp (show (Jvm.Cond.and given_1 narrow_1).before args s = true from hpre))
  obtain ⟨c0, r0⟩ := and_e hg
  obtain ⟨c1, r1⟩ := and_e r0
  obtain ⟨c2, r2⟩ := and_e r1
  obtain ⟨w0, w1, w2, rfl⟩ : ∃ w0 w1 w2 : Value, args = #[w0, w1, w2] := by
    have hs : args.size = 3 := by simpa [Cond.value, given_1] using c0
    obtain ⟨L⟩ := args
    match L, hs with
    | [w0, w1, w2], _ => exact ⟨w0, w1, w2, rfl⟩
  have hw := fun d (hd : d ∈ tables_1) => atoms_spec (ws := Jvm.Cond.code x code maxLocals ret :: tables_1) hat d (List.mem_cons_of_mem _ hd)
  have hfit : Fit s := fun {y c} hc i hi => by
    obtain ⟨ha, rfl⟩ := Array.getElem?_eq_some_iff.mp hc
    have q := List.all_eq_true.mp ((Array.all_eq_true_iff_forall_mem.mp hF) _ (Array.getElem_mem ha)) i (List.mem_range.mpr hi)
    simpa [Array.getElem?_eq_getElem hi] using q
  obtain ⟨i0, ei0⟩ := isL_v c1
  obtain rfl : w0 = (.long i0) := Option.some.inj ei0
  obtain ⟨i1, ei1⟩ := isL_v c2
  obtain rfl : w1 = (.long i1) := Option.some.inj ei1
  obtain ⟨i2, ei2⟩ := is_v r2
  obtain rfl : w2 = (.int i2) := Option.some.inj ei2
  obtain ⟨n, o, h1, h2, h3, _, L, rfl, ⟨rfl, N⟩, hq⟩ := rm0 l s _ hw tables_1 i0 i1 i2 s.heap s.heap.size (Nat.le_refl _)  rfl p e ha hc hk s m _ below hf ((Spec.applies_iff_loose hf).mp happ).1 ⟨rfl, State.Warmed39.refl s, rfl⟩ trivial
  refine ⟨n, _, h1, h2, h3, hpost _ _ _ _ _ _ ⟨Cond.after_iff.mpr rfl, Cond.after_iff.mpr (eq_i res_at (Term.int_eval (1)) rfl), trivial⟩ ⟨hq.1, hq.2.1, (hq.2.2.sift fun y hy => Or.inr (N y hy)).mono (by decide) (by decide)⟩⟩
theorem main_1_1 : Claimed_1_1 := comes_1 fun _ _ _ _ _ _ h hF => ⟨h.1, hF⟩
theorem main_1_2 : Claimed_1_2 := comes_1 fun _ _ _ _ _ _ h hF => ⟨h.2.1, hF⟩
end Jvm.Pilot.@@N@@
namespace Jvm.Pilot.@@N@@
open Jvm Jvm.ClassFile Sem Op Lib Jvm.Free Jvm.Stand Jvm.Pilot.@@N@@.Jvm.D
/-! MADE BY PROGRAM (witnessworld.py) out of the Statement's table words and the real class files: 11 classes; the members and pool entries that the words name. The judged class is class 1, her method 1. -/
namespace start1
open Jvm.ClassFile
def u (s : String) : CpInfo := .utf8 (stringToUtf16 s)
/-- a pool by its gaps: so many unusable entries, then the entry; so many at the end -/
def gap : Nat → List CpInfo → List CpInfo
  | 0, r => r
  | n + 1, r => .unusable :: gap n r
def poolList (es : List (Nat × CpInfo)) (last : Nat) : List CpInfo := es.foldr (fun e r => gap e.1 (e.2 :: r)) (gap last [])
def pool (es : List (Nat × CpInfo)) (last : Nat) : Array CpInfo := ⟨poolList es last⟩
def fileOf (pool : Array CpInfo) (this : Nat) (attrs : Array Attribute := #[]) (ms : Array MethodInfo := #[]) (fl : Nat := 33) (sup : Nat := 0) (ifs : Array Nat := #[]) (fds : Array FieldInfo := #[]) : ClassFile where
  minorVersion := 0
  majorVersion := 65
  constantPool := pool
  accessFlags := fl
  thisClass := this
  superClass := sup
  interfaces := ifs
  fields := fds
  methods := ms
  attributes := attrs
def plain (name : String) (sup : Option ClassId) : Class where
  name := name
  kind := .ordinary
  loader := none
  accessFlags := 33
  super := sup
  interfaces := #[]
  cf := none
  fields := #[]
  methods := #[]
  instanceTypes := #[]
  staticTypes := #[]
  resolved := #[]
  callSites := []
  init := .initialized
  statics := none
  mirror := none

def pool0 : Array CpInfo := pool [(5, u "<init>"), (0, u "()V"), (1, .class_ 10), (1, u "java/lang/Object")] 113

def k0c0 : Code := { maxStack := 0, maxLocals := 1, code := object_method_1_code, exceptionTable := #[], attributes := #[] }
def k0m0 : Method := { name := "<init>", desc := "()V", sig := { parameters := [], returnType := none }, accessFlags := 1, code := some k0c0 }
/-- java/lang/Object -/
def k0 : Class := { plain "java/lang/Object" none with
  accessFlags := 33
  interfaces := #[]
  cf := some (fileOf pool0 8 #[] #[{ accessFlags := 1, nameIndex := 5, descriptorIndex := 6, attributes := #[] }] 33 0 #[] #[])
  fields := #[]
  methods := #[k0m0]
  instanceTypes := #[]
  staticTypes := #[]
  resolved := Array.replicate 124 none
  statics := none }

def pool1 : Array CpInfo := pool [(2, .class_ 4), (1, u "java/lang/Object"), (0, u "<init>"), (0, u "()V"), (0, .class_ 8), (0, u "com/example/peerpool/peerpool/sim/PeerId"), (0, .methodref 7 10), (0, .nameAndType 5 11), (0, u "(JJ)V"), (0, .methodref 7 13), (0, .nameAndType 14 15), (0, u "digit"), (0, u "(I)I"), (0, .class_ 17), (0, u "com/example/peerpool/peerpool/sim/PeerIdDigitPinLaw"), (2, u "law"), (0, u "(JJI)Z")] 3

def k1m0 : Method := { name := "<init>", desc := "()V", sig := { parameters := [], returnType := none }, accessFlags := 1, code := none }
def k1c1 : Code := { maxStack := 6, maxLocals := 11, code := code, exceptionTable := #[], attributes := #[] }
def k1m1 : Method := { name := "law", desc := "(JJI)Z", sig := { parameters := [.long, .long, .int], returnType := some .boolean }, accessFlags := 9, code := some k1c1 }
/-- com/example/peerpool/peerpool/sim/PeerIdDigitPinLaw -/
def k1 : Class := { plain "com/example/peerpool/peerpool/sim/PeerIdDigitPinLaw" (some 0) with
  accessFlags := 49
  interfaces := #[]
  cf := some (fileOf pool1 16 #[] #[{ accessFlags := 1, nameIndex := 5, descriptorIndex := 6, attributes := #[] }, { accessFlags := 9, nameIndex := 20, descriptorIndex := 21, attributes := #[] }] 49 2 #[] #[])
  fields := #[]
  methods := #[k1m0, k1m1]
  instanceTypes := #[]
  staticTypes := #[]
  resolved := Array.replicate 25 none
  statics := none }

def pool2 : Array CpInfo := pool [(1, .methodref 2 3), (0, .class_ 4), (0, .nameAndType 5 6), (0, u "java/lang/Object"), (0, u "<init>"), (0, u "()V"), (0, .class_ 8), (0, u "java/lang/Record")] 13

def k2c0 : Code := { maxStack := 1, maxLocals := 1, code := jdk_30_method_1_code, exceptionTable := #[], attributes := #[] }
def k2m0 : Method := { name := "<init>", desc := "()V", sig := { parameters := [], returnType := none }, accessFlags := 4, code := some k2c0 }
/-- java/lang/Record -/
def k2 : Class := { plain "java/lang/Record" (some 0) with
  accessFlags := 1057
  interfaces := #[]
  cf := some (fileOf pool2 7 #[] #[{ accessFlags := 4, nameIndex := 5, descriptorIndex := 6, attributes := #[] }] 1057 2 #[] #[])
  fields := #[]
  methods := #[k2m0]
  instanceTypes := #[]
  staticTypes := #[]
  resolved := Array.replicate 22 none
  statics := none }

def pool3 : Array CpInfo := pool [(1, .class_ 2), (0, u "java/lang/Comparable"), (0, .class_ 4), (0, u "java/lang/Object")] 7

/-- java/lang/Comparable -/
def k3 : Class := { plain "java/lang/Comparable" (some 0) with
  accessFlags := 1537
  interfaces := #[]
  cf := some (fileOf pool3 1 #[] #[] 1537 3 #[] #[])
  fields := #[]
  methods := #[]
  instanceTypes := #[]
  staticTypes := #[]
  resolved := Array.replicate 12 none
  statics := none }

def pool4 : Array CpInfo := pool [(1, .methodref 2 3), (0, .class_ 4), (0, .nameAndType 5 6), (0, u "java/lang/Record"), (0, u "<init>"), (0, u "()V"), (0, .fieldref 8 9), (0, .class_ 10), (0, .nameAndType 11 12), (0, u "com/example/peerpool/peerpool/sim/PeerId"), (0, u "high"), (0, u "J"), (0, .fieldref 8 14), (0, .nameAndType 15 12), (0, u "low"), (51, u "SHA_256"), (0, u "Ljava/lang/ThreadLocal;"), (20, u "(JJ)V"), (93, .class_ 184), (0, u "java/lang/Comparable"), (0, u "DIGITS"), (0, u "I"), (2, u "RADIX"), (1, u "BITS_PER_DIGIT"), (20, u "digit"), (0, u "(I)I")] 56

def k4c0 : Code := { maxStack := 3, maxLocals := 5, code := prog_43_method_1_code, exceptionTable := #[], attributes := #[] }
def k4m0 : Method := { name := "<init>", desc := "(JJ)V", sig := { parameters := [.long, .long], returnType := none }, accessFlags := 1, code := some k4c0 }
def k4c1 : Code := { maxStack := 4, maxLocals := 5, code := prog_43_method_9_code, exceptionTable := #[], attributes := #[] }
def k4m1 : Method := { name := "digit", desc := "(I)I", sig := { parameters := [.int], returnType := some .int }, accessFlags := 1, code := some k4c1 }
/-- com/example/peerpool/peerpool/sim/PeerId -/
def k4 : Class := { plain "com/example/peerpool/peerpool/sim/PeerId" (some 2) with
  accessFlags := 49
  interfaces := #[3]
  cf := some (fileOf pool4 8 #[] #[{ accessFlags := 1, nameIndex := 5, descriptorIndex := 89, attributes := #[] }, { accessFlags := 1, nameIndex := 212, descriptorIndex := 213, attributes := #[] }] 49 2 #[183] #[{ accessFlags := 18, nameIndex := 11, descriptorIndex := 12, attributes := #[] }, { accessFlags := 18, nameIndex := 15, descriptorIndex := 12, attributes := #[] }, { accessFlags := 25, nameIndex := 185, descriptorIndex := 186, attributes := #[] }, { accessFlags := 25, nameIndex := 189, descriptorIndex := 186, attributes := #[] }, { accessFlags := 26, nameIndex := 191, descriptorIndex := 186, attributes := #[] }, { accessFlags := 26, nameIndex := 67, descriptorIndex := 68, attributes := #[] }])
  fields := #[{ name := "high", type := .long, accessFlags := 18, slot := 0, constantValue := 0 }, { name := "low", type := .long, accessFlags := 18, slot := 1, constantValue := 0 }, { name := "DIGITS", type := .int, accessFlags := 25, slot := 0, constantValue := 0 }, { name := "RADIX", type := .int, accessFlags := 25, slot := 1, constantValue := 0 }, { name := "BITS_PER_DIGIT", type := .int, accessFlags := 26, slot := 2, constantValue := 0 }, { name := "SHA_256", type := (.object "java/lang/ThreadLocal"), accessFlags := 26, slot := 3, constantValue := 0 }]
  methods := #[k4m0, k4m1]
  instanceTypes := #[.long, .long]
  staticTypes := #[.int, .int, .int, (.object "java/lang/ThreadLocal")]
  resolved := Array.replicate 270 none
  statics := none }

def pool5 : Array CpInfo := pool [(1, u "java/lang/Cloneable"), (0, .class_ 1), (0, u "java/lang/Object"), (0, .class_ 3)] 3

/-- java/lang/Cloneable -/
def k5 : Class := { plain "java/lang/Cloneable" (some 0) with
  accessFlags := 1537
  interfaces := #[]
  cf := some (fileOf pool5 2 #[] #[] 1537 4 #[] #[])
  fields := #[]
  methods := #[]
  instanceTypes := #[]
  staticTypes := #[]
  resolved := Array.replicate 8 none
  statics := none }

def pool6 : Array CpInfo := pool [(1, u "java/io/Serializable"), (0, .class_ 1), (0, u "java/lang/Object"), (0, .class_ 3)] 3

/-- java/io/Serializable -/
def k6 : Class := { plain "java/io/Serializable" (some 0) with
  accessFlags := 1537
  interfaces := #[]
  cf := some (fileOf pool6 2 #[] #[] 1537 4 #[] #[])
  fields := #[]
  methods := #[]
  instanceTypes := #[]
  staticTypes := #[]
  resolved := Array.replicate 8 none
  statics := none }

/-- the primitive byte -/
def k7 : Class := { plain "byte" none with kind := .primitive 'B', accessFlags := 0x411 }
/-- [B -/
def k8 : Class := { plain "[B" (some 0) with kind := .array 7 .byte, interfaces := #[5, 6], accessFlags := 1041 }

/-- the primitive int -/
def k9 : Class := { plain "int" none with kind := .primitive 'I', accessFlags := 0x411 }
/-- [I -/
def k10 : Class := { plain "[I" (some 0) with kind := .array 9 .int, interfaces := #[5, 6], accessFlags := 1041 }

def heap : Heap := #[]
def classes : Array Class := #[k0, k1, k2, k3, k4, k5, k6, k7, k8, k9, k10]
def interned : List (Array UInt16 × Addr) := []
def slotsUsed : Nat := 0
def theMethod : MethodId := ⟨1, 1⟩
def args0 : Array Value := #[.long 1, .long 2, .int 3]
def aboutOver (below : List Frame) : State where
  vm := { classes := classes, interned := interned.toArray }
  heap := heap
  slotsUsed := slotsUsed
  threads := #[{ frames := .invoking theMethod args0 :: below }]
def below0 : List Frame := [.native { method := ⟨0, 0⟩, args := #[] }]
def about1 : State := aboutOver below0
def p0 : Program := .bare "" "" ""
def e0 : Env := launch0.env 0 0 0
theorem w_frames : about1.frames = Frame.invoking theMethod args0 :: below0 := rfl
set_option maxRecDepth 65536 in
theorem w_args : argsFit about1.vm theMethod args0 = true := by decide +kernel
set_option maxRecDepth 65536 in
theorem w_heap : heapFits about1 = true := by decide +kernel
set_option maxRecDepth 65536 in
theorem w_runnable : about1.curStatus? = some .runnable := by decide +kernel
set_option maxRecDepth 65536 in
theorem w_alone : about1.alone = true := by decide +kernel
set_option maxRecDepth 65536 in
theorem w_named : about1.methodNamed? x = some theMethod := by decide +kernel
set_option maxRecDepth 65536 in
theorem w_hears : about1.hears theMethod below0 = true := by decide +kernel
set_option maxRecDepth 65536 in
theorem w_ripe : about1.ripe theMethod args0 below0 = true := by decide +kernel
theorem w_running : about1.status = .running := rfl
set_option maxRecDepth 65536 in
theorem w_room : about1.hasRoom e0.platform room_1 = true :=
  launch0.hasRoom_least _ room_1 (by decide +kernel) (by decide +kernel) (by decide +kernel) (by decide +kernel) (by decide +kernel) (by decide +kernel)
theorem allAtoms_all (ts : List Jvm.Cond) (a : Array Jvm.Value) (st : Jvm.State) : (allAtoms ts).before a st = ts.all (fun c => c.before a st) := by
  induction ts with
  | nil => rfl
  | cons c t ih =>
    show (Jvm.Cond.and c (allAtoms t)).before a st = _
    rw [Jvm.Cond.before_and, ih, List.all_cons]
def words1 : List Jvm.Cond := Jvm.Cond.code x code maxLocals ret :: tables_1
/-- a 'code' word, met by the world's own term for the bytes: nothing is compared byte by byte -/
theorem code_word {y : MethodName} {bytes : ByteArray} {mx : Nat} {rt : Option FieldType} {a : Array Value} {s : State} {m : MethodId} {meth : Method} {c : Code} (h1 : s.methodNamed? y = some m) (h2 : s.vm.method? m = some meth) (h3 : meth.code = some c) (h4 : c.code = bytes)
    (h5 : (c.maxLocals == mx && c.exceptionTable.isEmpty && decide (c.maxStack ≤ mostOperands) && decide (meth.sig.returnType = rt) && !meth.locks && decide (parseMethodDescriptor y.desc = some meth.sig)) = true) : (Jvm.Cond.code y bytes mx rt).before a s = true := by
  simp only [Bool.and_eq_true, beq_iff_eq, Bool.not_eq_true', decide_eq_true_eq] at h5
  obtain ⟨⟨⟨⟨⟨g1, g2⟩, g3⟩, g4⟩, g5⟩, g6⟩ := h5
  simp [Cond.before, Cond.holds, Cond.value, h1, h2, h3, h4, g1, g2, g3, g4, g5, g6]
def isCode : Jvm.Cond → Bool
  | .code _ _ _ _ => true
  | _ => false
theorem all_split {L : List Jvm.Cond} {P : Jvm.Cond → Bool} (h1 : L.all (fun c => isCode c || P c) = true) (h2 : ∀ c ∈ L.filter isCode, P c = true) : L.all P = true := by
  refine List.all_eq_true.mpr fun c hc => ?_
  have h := List.all_eq_true.mp h1 c hc
  rcases Bool.eq_false_or_eq_true (isCode c) with hi | hi
  · exact h2 c (List.mem_filter.mpr ⟨hc, hi⟩)
  · simpa [hi] using h
set_option maxRecDepth 65536 in
theorem w_c0 : (Jvm.Cond.code x code maxLocals ret).before args0 about1 = true := code_word (m := ⟨1, 1⟩) (meth := k1m1) (c := k1c1) (by decide +kernel) rfl rfl rfl (by decide +kernel)
set_option maxRecDepth 65536 in
theorem w_c1 : (Jvm.Cond.code ({ cls := "com/example/peerpool/peerpool/sim/PeerId", name := "<init>", desc := "(JJ)V" } : Jvm.MethodName) prog_43_method_1_code (5 : Nat) (Option.none : Option Jvm.ClassFile.FieldType)).before args0 about1 = true := code_word (m := ⟨4, 0⟩) (meth := k4m0) (c := k4c0) (by decide +kernel) rfl rfl rfl (by decide +kernel)
set_option maxRecDepth 65536 in
theorem w_c2 : (Jvm.Cond.code ({ cls := "java/lang/Record", name := "<init>", desc := "()V" } : Jvm.MethodName) jdk_30_method_1_code (1 : Nat) (Option.none : Option Jvm.ClassFile.FieldType)).before args0 about1 = true := code_word (m := ⟨2, 0⟩) (meth := k2m0) (c := k2c0) (by decide +kernel) rfl rfl rfl (by decide +kernel)
set_option maxRecDepth 65536 in
theorem w_c3 : (Jvm.Cond.code ({ cls := "java/lang/Object", name := "<init>", desc := "()V" } : Jvm.MethodName) object_method_1_code (1 : Nat) (Option.none : Option Jvm.ClassFile.FieldType)).before args0 about1 = true := code_word (m := ⟨0, 0⟩) (meth := k0m0) (c := k0c0) (by decide +kernel) rfl rfl rfl (by decide +kernel)
set_option maxRecDepth 65536 in
theorem w_c4 : (Jvm.Cond.code ({ cls := "com/example/peerpool/peerpool/sim/PeerId", name := "digit", desc := "(I)I" } : Jvm.MethodName) prog_43_method_9_code (5 : Nat) (Option.some Jvm.ClassFile.FieldType.int)).before args0 about1 = true := code_word (m := ⟨4, 1⟩) (meth := k4m1) (c := k4c1) (by decide +kernel) rfl rfl rfl (by decide +kernel)
def codes1 : List Jvm.Cond := [Jvm.Cond.code x code maxLocals ret, Jvm.Cond.code ({ cls := "com/example/peerpool/peerpool/sim/PeerId", name := "<init>", desc := "(JJ)V" } : Jvm.MethodName) prog_43_method_1_code (5 : Nat) (Option.none : Option Jvm.ClassFile.FieldType), Jvm.Cond.code ({ cls := "java/lang/Record", name := "<init>", desc := "()V" } : Jvm.MethodName) jdk_30_method_1_code (1 : Nat) (Option.none : Option Jvm.ClassFile.FieldType), Jvm.Cond.code ({ cls := "java/lang/Object", name := "<init>", desc := "()V" } : Jvm.MethodName) object_method_1_code (1 : Nat) (Option.none : Option Jvm.ClassFile.FieldType), Jvm.Cond.code ({ cls := "com/example/peerpool/peerpool/sim/PeerId", name := "digit", desc := "(I)I" } : Jvm.MethodName) prog_43_method_9_code (5 : Nat) (Option.some Jvm.ClassFile.FieldType.int)]
set_option maxRecDepth 65536 in
theorem codes_eq : words1.filter isCode = codes1 := rfl
theorem w_codes : ∀ c ∈ words1.filter isCode, c.before args0 about1 = true := by
  rw [codes_eq]
  intro c hc
  simp only [codes1, List.mem_cons, List.not_mem_nil, or_false] at hc
  rcases hc with rfl | rfl | rfl | rfl | rfl
  · exact w_c0
  · exact w_c1
  · exact w_c2
  · exact w_c3
  · exact w_c4
set_option maxRecDepth 65536 in
theorem w_t1 : words1.all (fun c => isCode c || c.before args0 about1) = true := by decide +kernel
theorem w_tables : (allAtoms (Jvm.Cond.code x code maxLocals ret :: tables_1)).before args0 about1 = true := by
  rw [allAtoms_all]
  show words1.all (fun c => c.before args0 about1) = true
  refine all_split ?_ w_codes
  rw [w_t1]
set_option maxRecDepth 65536 in
theorem w_case : (Jvm.Cond.and given_1 narrow_1).before args0 about1 = true := by decide +kernel
theorem w_applies : (headSpec (Jvm.Cond.code x code maxLocals ret :: tables_1) room_1).applies x e0.platform about1 = true :=
  (Spec.applies_iff w_frames).mpr ⟨w_running, w_runnable, w_alone, w_named, w_hears, w_ripe, w_room, w_tables⟩
theorem atStart : AtStart classFile x code maxLocals ret World_1 tables_1 room_1 Calls_1 rest_1 Pre_1 launch0 p0 e0 about1 theMethod args0 below0 :=
  ⟨lists_1, trivial, launch0.admits_env _ _ _, launch0.least_env, fairChoices_fair.cas, fairChoices_fair.clock, w_frames, w_args, w_heap, w_applies, trivial, trivial, w_case⟩
end start1
theorem witness_1 : WitnessClaimed_1 := ⟨start1.p0, start1.e0, start1.about1, start1.theMethod, start1.args0, start1.below0, start1.atStart⟩
end Jvm.Pilot.@@N@@
