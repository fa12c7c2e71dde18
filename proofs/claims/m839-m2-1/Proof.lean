import JvmDerived
import JvmDerived.Pilot.@@N@@Statement
import JvmDerived.Pilot.@@N@@Code
set_option linter.unusedVariables false
set_option linter.unusedSimpArgs false
namespace Jvm.Pilot.@@N@@
open Jvm Jvm.ClassFile Sem Op Lib Jvm.Free Jvm.Stand Jvm.LawKit Jvm.RoadKit Bundle Jvm.Pilot.@@N@@.Jvm.D
theorem own_nz {args : Array Value} {s : State} {tm : Term} {z : Int32} (ev : tm.eval args s none [] s = some (.int z)) (h : (Jvm.Cond.not (Jvm.Cond.eq tm (Term.int 0))).value args s none s [] = some true) : ¬ z = 0 := by
  have h1 := not_v h
  have e2 : (Term.int 0).eval args s none [] s = some (.int 0) := Term.int_eval 0
  intro q
  subst q
  simp [Jvm.Cond.value, ev, e2] at h1
theorem own_mono {p : Program} {l : Launch} {e : Env} {R : Room} {s : State} {m : MethodId} {args : Array Value} {below : List Frame} {meth : Method} {c : Code} {T : State} {locs : List Loc} {cells slots C S : Nat} (X : Stand p l e R s m args below meth c T locs cells slots) (hC : cells ≤ C) (hS : slots ≤ S) : Stand p l e R s m args below meth c T locs C S := { X with same := X.same.mono hC hS }
theorem own_ns {Z : State} {h : Heap} {a : Addr} {C : String} (F : Exa Z h a C) : ∃ c : Cell, h[a]? = some c ∧ c.vm.isStatics = false := by
  obtain ⟨c, k, h1, -, -, h4, -⟩ := F
  exact ⟨c, h1, h4⟩
theorem own_Sta_keep {Z : State} {h h' : Heap} {C n d : String} {v : Value} {ws : List Addr} (F : Sta Z h C n d v) (K : Keep h h' ws) (q : ∀ a ∈ ws, ∃ c : Cell, h[a]? = some c ∧ c.vm.isStatics = false) : Sta Z h' C n d v := by
  obtain ⟨cf, i, k, f, st, cell, h1, h2, h3, h4, h5, h6, h7⟩ := F
  refine ⟨cf, i, k, f, st, cell, h1, h2, h3, h4, K.2.1 st cell h5 (fun z => ?_), h6, h7⟩
  obtain ⟨c, e1, e2⟩ := q st z
  cases h5.symm.trans e1
  rw [e2] at h6
  cases h6
theorem own_fits_nar (t : FieldType) (x : Int32) (ht : t = .boolean ∨ t = .byte ∨ t = .char ∨ t = .short) : fits t (.int (nar t x)) = true := by
  rcases ht with rfl | rfl | rfl | rfl
  · exact fits_nar_bool x
  · exact fits_nar_byte x
  · exact fits_nar_char x
  · exact fits_nar_short x
section Layer
variable {p : Program} {l : Launch} {e : Env} {R : Room} {s : State} {m : MethodId} {args : Array Value} {below : List Frame} {meth : Method} {c : Code} {T : State} {locs : List Loc} {cells slots : Nat}
/-- the walk from σ comes to an end at which K holds -/
def Go (p : Program) (e : Env) (below : List Frame) (K : State → Outcome → Prop) (σ : State) : Prop := ∃ s₂ o, Steps p.tables e below σ s₂ ∧ K s₂ o
theorem Go.st {K : State → Outcome → Prop} {σ σ' : State} (h : ∀ t, Steps p.tables e below σ' t → Steps p.tables e below σ t) (k : Go p e below K σ') : Go p e below K σ := by
  obtain ⟨a, b, c, d⟩ := k
  exact ⟨a, b, h _ c, d⟩
theorem Go.tr {K : State → Outcome → Prop} {σ σ' : State} (h : Steps p.tables e below σ σ') (k : Go p e below K σ') : Go p e below K σ := Go.st (fun _ q => h.trans q) k
/-- what a contract asks of the end -/
def KQ (s : State) (below : List Frame) (Q : Option Value → Heap → List Loc → Prop) (C S : Nat) (s₂ : State) (o : Outcome) : Prop :=
  s₂.status = .running ∧ Ended s₂ below o ∧ ∃ v L, o = .returned v ∧ Q v s₂.heap L ∧ FrameEnd s o s₂ L C S
theorem Go.body {K : State → Outcome → Prop} {σ : State} {g g' : JFrame} (hg : g = g') (k : Go p e below K (T.setTop g')) : Go p e below K (T.setTop g) := hg ▸ k
/-- return of nothing -/
theorem Go.retV {Q : Option Value → Heap → List Loc → Prop} {C S : Nat} (X : Stand p l e R s m args below meth c T locs cells slots) (hx : p.tables.exec = Jvm.exec) (hlk : meth.locks = false) (hret : meth.sig.returnType = none) {pc : Nat} {Ls : Array Slot} (hd : decode c.code pc = .ok (.return_, 1)) (hC : cells ≤ C) (hS : slots ≤ S) (q : Q none T.heap locs) :
    Go p e below (KQ s below Q C S) (T.setTop (mkF m pc Ls [])) := by
  obtain ⟨fs, hr, hrun, hended, hW, hsame⟩ := X.leave (v := none) (fun _ => rfl)
  exact ⟨_, _, X.returnOut hx hret hd hr, hrun, hended, _, _, rfl, q, ⟨_, rfl⟩, hW, hsame.mono hC hS⟩
/-- return of an int -/
theorem Go.retI {Q : Option Value → Heap → List Loc → Prop} {C S : Nat} (X : Stand p l e R s m args below meth c T locs cells slots) (hx : p.tables.exec = Jvm.exec) (hlk : meth.locks = false) (hret : meth.sig.returnType = some .int) {pc : Nat} {Ls : Array Slot} {z : Int32} {rest : List Value} (hd : decode c.code pc = .ok (.ireturn, 1)) (hC : cells ≤ C) (hS : slots ≤ S) (q : Q (some (.int z)) T.heap locs) :
    Go p e below (KQ s below Q C S) (T.setTop (mkF m pc Ls (.int z :: rest))) := by
  obtain ⟨fs, hr, hrun, hended, hW, hsame⟩ := X.leave (v := some (.int z)) (fun h => by rw [hret] at h; cases h)
  exact ⟨_, _, retOut X hx hret rfl (Or.inl ⟨rfl, Or.inl rfl, _, rfl⟩) hd hr, hrun, hended, _, _, rfl, q, ⟨_, rfl⟩, hW, hsame.mono hC hS⟩
/-- return of a boolean, byte, char or short -/
theorem Go.retN {Q : Option Value → Heap → List Loc → Prop} {C S : Nat} (X : Stand p l e R s m args below meth c T locs cells slots) (hx : p.tables.exec = Jvm.exec) (hlk : meth.locks = false) {t : FieldType} (hret : meth.sig.returnType = some t) (ht : t = .boolean ∨ t = .byte ∨ t = .char ∨ t = .short) {pc : Nat} {Ls : Array Slot} {z : Int32} {rest : List Value} (hd : decode c.code pc = .ok (.ireturn, 1)) (hC : cells ≤ C) (hS : slots ≤ S) (q : Q (some (.int (nar t z))) T.heap locs) :
    Go p e below (KQ s below Q C S) (T.setTop (mkF m pc Ls (.int z :: rest))) := by
  obtain ⟨fs, hr, hrun, hended, hW, hsame⟩ := X.leave (v := some (.int (nar t z))) (fun h => by rw [hret] at h; cases h)
  exact ⟨_, _, RoadKit.retN X hx hret ht hd hr, hrun, hended, _, _, rfl, q, ⟨_, rfl⟩, hW, hsame.mono hC hS⟩
/-- return of a reference -/
theorem Go.retA {Q : Option Value → Heap → List Loc → Prop} {C S : Nat} (X : Stand p l e R s m args below meth c T locs cells slots) (hx : p.tables.exec = Jvm.exec) (hlk : meth.locks = false) {t : FieldType} (hret : meth.sig.returnType = some t) (ht : t.isReference = true) {pc : Nat} {Ls : Array Slot} {w : Value} (hw : w.isRef = true) {rest : List Value} (hd : decode c.code pc = .ok (.areturn, 1)) (hC : cells ≤ C) (hS : slots ≤ S) (q : Q (some w) T.heap locs) :
    Go p e below (KQ s below Q C S) (T.setTop (mkF m pc Ls (w :: rest))) := by
  obtain ⟨fs, hr, hrun, hended, hW, hsame⟩ := X.leave (v := some w) (fun h => by rw [hret] at h; cases h)
  exact ⟨_, _, retOut X hx hret (by cases t <;> cases w <;> simp_all [narrow, Value.isRef, FieldType.isReference]) (Or.inr (Or.inr (Or.inr (Or.inr ⟨rfl, ht, hw⟩)))) hd hr, hrun, hended, _, _, rfl, q, ⟨_, rfl⟩, hW, hsame.mono hC hS⟩
/-- return of a long -/
theorem Go.retJ {Q : Option Value → Heap → List Loc → Prop} {C S : Nat} (X : Stand p l e R s m args below meth c T locs cells slots) (hx : p.tables.exec = Jvm.exec) (hlk : meth.locks = false) (hret : meth.sig.returnType = some .long) {pc : Nat} {Ls : Array Slot} {z : Int64} {rest : List Value} (hd : decode c.code pc = .ok (.lreturn, 1)) (hC : cells ≤ C) (hS : slots ≤ S) (q : Q (some (.long z)) T.heap locs) :
    Go p e below (KQ s below Q C S) (T.setTop (mkF m pc Ls (.long z :: rest))) := by
  obtain ⟨fs, hr, hrun, hended, hW, hsame⟩ := X.leave (v := some (.long z)) (fun h => by rw [hret] at h; cases h)
  exact ⟨_, _, retOut X hx hret rfl (Or.inr (Or.inl ⟨rfl, rfl, _, rfl⟩)) hd hr, hrun, hended, _, _, rfl, q, ⟨_, rfl⟩, hW, hsame.mono hC hS⟩
/-- return of a double -/
theorem Go.retD {Q : Option Value → Heap → List Loc → Prop} {C S : Nat} (X : Stand p l e R s m args below meth c T locs cells slots) (hx : p.tables.exec = Jvm.exec) (hlk : meth.locks = false) (hret : meth.sig.returnType = some .double) {pc : Nat} {Ls : Array Slot} {z : UInt64} {rest : List Value} (hd : decode c.code pc = .ok (.dreturn, 1)) (hC : cells ≤ C) (hS : slots ≤ S) (q : Q (some (.double z)) T.heap locs) :
    Go p e below (KQ s below Q C S) (T.setTop (mkF m pc Ls (.double z :: rest))) := by
  obtain ⟨fs, hr, hrun, hended, hW, hsame⟩ := X.leave (v := some (.double z)) (fun h => by rw [hret] at h; cases h)
  exact ⟨_, _, retOut X hx hret rfl (Or.inr (Or.inr (Or.inl ⟨rfl, rfl, _, rfl⟩))) hd hr, hrun, hended, _, _, rfl, q, ⟨_, rfl⟩, hW, hsame.mono hC hS⟩
theorem g_iloadN {K : State → Outcome → Prop} (X : Stand p l e R s m args below meth c T locs cells slots) (hx : p.tables.exec = Jvm.exec) {pc : Nat} {L : Array Slot} {S : List Value} {k : Fin 4} {v : Int32} (hd : decode c.code pc = .ok (.iload_n k, 1)) (pc' : Nat) (hp : pc + 1 = pc') (hl : L[k.val]? = some (.val (.int v))) (r : Go p e below K (T.setTop (mkF m pc' L (.int v :: S)))) : Go p e below K (T.setTop (mkF m pc L S)) := by
  subst hp
  exact Go.st (fun _ => XS.iloadN X.here hx rfl hd hl) r
theorem g_iload {K : State → Outcome → Prop} (X : Stand p l e R s m args below meth c T locs cells slots) (hx : p.tables.exec = Jvm.exec) {pc : Nat} {L : Array Slot} {S : List Value} {k : Nat} {v : Int32} (hd : decode c.code pc = .ok (.iload k, 2)) (pc' : Nat) (hp : pc + 2 = pc') (hl : L[k]? = some (.val (.int v))) (r : Go p e below K (T.setTop (mkF m pc' L (.int v :: S)))) : Go p e below K (T.setTop (mkF m pc L S)) := by
  subst hp
  exact Go.st (fun _ => XS.iload X.here hx rfl hd hl) r
theorem g_aloadN {K : State → Outcome → Prop} (X : Stand p l e R s m args below meth c T locs cells slots) (hx : p.tables.exec = Jvm.exec) {pc : Nat} {L : Array Slot} {S : List Value} {k : Fin 4} {v : Value} (hd : decode c.code pc = .ok (.aload_n k, 1)) (pc' : Nat) (hp : pc + 1 = pc') (hl : L[k.val]? = some (.val v)) (hv : v.isRef = true) (r : Go p e below K (T.setTop (mkF m pc' L (v :: S)))) : Go p e below K (T.setTop (mkF m pc L S)) := by
  subst hp
  exact Go.st (fun _ => XS.aloadN X.here hx rfl hd hl hv) r
theorem g_aload {K : State → Outcome → Prop} (X : Stand p l e R s m args below meth c T locs cells slots) (hx : p.tables.exec = Jvm.exec) {pc : Nat} {L : Array Slot} {S : List Value} {k : Nat} {v : Value} (hd : decode c.code pc = .ok (.aload k, 2)) (pc' : Nat) (hp : pc + 2 = pc') (hl : L[k]? = some (.val v)) (hv : v.isRef = true) (r : Go p e below K (T.setTop (mkF m pc' L (v :: S)))) : Go p e below K (T.setTop (mkF m pc L S)) := by
  subst hp
  exact Go.st (fun _ => XS.aload X.here hx rfl hd hl hv) r
theorem g_istoreN {K : State → Outcome → Prop} (X : Stand p l e R s m args below meth c T locs cells slots) (hx : p.tables.exec = Jvm.exec) {pc : Nat} {L : Array Slot} {S : List Value} {k : Fin 4} {v : Int32} (hd : decode c.code pc = .ok (.istore_n k, 1)) (pc' : Nat) (hp : pc + 1 = pc') (L' : Array Slot) (hl : storeLocals L k.val (.int v) = some L') (r : Go p e below K (T.setTop (mkF m pc' L' S))) : Go p e below K (T.setTop (mkF m pc L (.int v :: S))) := by
  subst hp
  exact Go.st (fun _ => XS.istoreN X.here hx rfl hd rfl hl) r
theorem g_istore {K : State → Outcome → Prop} (X : Stand p l e R s m args below meth c T locs cells slots) (hx : p.tables.exec = Jvm.exec) {pc : Nat} {L : Array Slot} {S : List Value} {k : Nat} {v : Int32} (hd : decode c.code pc = .ok (.istore k, 2)) (pc' : Nat) (hp : pc + 2 = pc') (L' : Array Slot) (hl : storeLocals L k (.int v) = some L') (r : Go p e below K (T.setTop (mkF m pc' L' S))) : Go p e below K (T.setTop (mkF m pc L (.int v :: S))) := by
  subst hp
  exact Go.st (fun _ => XS.istore X.here hx rfl hd rfl hl) r
theorem g_astoreN {K : State → Outcome → Prop} (X : Stand p l e R s m args below meth c T locs cells slots) (hx : p.tables.exec = Jvm.exec) {pc : Nat} {L : Array Slot} {S : List Value} {k : Fin 4} {v : Value} (hd : decode c.code pc = .ok (.astore_n k, 1)) (pc' : Nat) (hp : pc + 1 = pc') (hv : v.isRef = true) (L' : Array Slot) (hl : storeLocals L k.val v = some L') (r : Go p e below K (T.setTop (mkF m pc' L' S))) : Go p e below K (T.setTop (mkF m pc L (v :: S))) := by
  subst hp
  exact Go.st (fun _ => XS.astoreN X.here hx rfl hd rfl hv hl) r
theorem g_astore {K : State → Outcome → Prop} (X : Stand p l e R s m args below meth c T locs cells slots) (hx : p.tables.exec = Jvm.exec) {pc : Nat} {L : Array Slot} {S : List Value} {k : Nat} {v : Value} (hd : decode c.code pc = .ok (.astore k, 2)) (pc' : Nat) (hp : pc + 2 = pc') (hv : v.isRef = true) (L' : Array Slot) (hl : storeLocals L k v = some L') (r : Go p e below K (T.setTop (mkF m pc' L' S))) : Go p e below K (T.setTop (mkF m pc L (v :: S))) := by
  subst hp
  exact Go.st (fun _ => XS.astore X.here hx rfl hd rfl hv hl) r
theorem g_iconst {K : State → Outcome → Prop} (X : Stand p l e R s m args below meth c T locs cells slots) (hx : p.tables.exec = Jvm.exec) {pc : Nat} {L : Array Slot} {S : List Value} {i : Int} (hd : decode c.code pc = .ok (.iconst i, 1)) (pc' : Nat) (hp : pc + 1 = pc') (z : Int32) (hz : Int32.ofInt i = z) (r : Go p e below K (T.setTop (mkF m pc' L (.int z :: S)))) : Go p e below K (T.setTop (mkF m pc L S)) := by
  subst hp; subst hz
  exact Go.st (fun _ => XS.iconst X.here hx rfl hd) r
theorem g_bipush {K : State → Outcome → Prop} (X : Stand p l e R s m args below meth c T locs cells slots) (hx : p.tables.exec = Jvm.exec) {pc : Nat} {L : Array Slot} {S : List Value} {i : Int} (hd : decode c.code pc = .ok (.bipush i, 2)) (pc' : Nat) (hp : pc + 2 = pc') (z : Int32) (hz : (Int8.ofInt i).toInt32 = z) (r : Go p e below K (T.setTop (mkF m pc' L (.int z :: S)))) : Go p e below K (T.setTop (mkF m pc L S)) := by
  subst hp; subst hz
  exact Go.st (fun _ => XS.bipush X.here hx rfl hd) r
theorem g_sipush {K : State → Outcome → Prop} (X : Stand p l e R s m args below meth c T locs cells slots) (hx : p.tables.exec = Jvm.exec) {pc : Nat} {L : Array Slot} {S : List Value} {i : Int} (hd : decode c.code pc = .ok (.sipush i, 3)) (pc' : Nat) (hp : pc + 3 = pc') (z : Int32) (hz : (Int16.ofInt i).toInt32 = z) (r : Go p e below K (T.setTop (mkF m pc' L (.int z :: S)))) : Go p e below K (T.setTop (mkF m pc L S)) := by
  subst hp; subst hz
  exact Go.st (fun _ => XS.sipush X.here hx rfl hd) r
theorem g_null {K : State → Outcome → Prop} (X : Stand p l e R s m args below meth c T locs cells slots) (hx : p.tables.exec = Jvm.exec) {pc : Nat} {L : Array Slot} {S : List Value} (hd : decode c.code pc = .ok (.aconst_null, 1)) (pc' : Nat) (hp : pc + 1 = pc') (r : Go p e below K (T.setTop (mkF m pc' L (.null :: S)))) : Go p e below K (T.setTop (mkF m pc L S)) := by
  subst hp
  exact Go.st (fun _ => XS.aconstNull X.here hx rfl hd) r
theorem g_iadd {K : State → Outcome → Prop} (X : Stand p l e R s m args below meth c T locs cells slots) (hx : p.tables.exec = Jvm.exec) {pc : Nat} {L : Array Slot} {S : List Value} {x y : Int32} (hd : decode c.code pc = .ok (.iadd, 1)) (pc' : Nat) (hp : pc + 1 = pc') (z : Int32) (hz : x + y = z) (r : Go p e below K (T.setTop (mkF m pc' L (.int z :: S)))) : Go p e below K (T.setTop (mkF m pc L (.int y :: .int x :: S))) := by
  subst hp; subst hz
  exact Go.st (fun _ => XS.iadd X.here hx rfl hd rfl) r
theorem g_isub {K : State → Outcome → Prop} (X : Stand p l e R s m args below meth c T locs cells slots) (hx : p.tables.exec = Jvm.exec) {pc : Nat} {L : Array Slot} {S : List Value} {x y : Int32} (hd : decode c.code pc = .ok (.isub, 1)) (pc' : Nat) (hp : pc + 1 = pc') (z : Int32) (hz : x - y = z) (r : Go p e below K (T.setTop (mkF m pc' L (.int z :: S)))) : Go p e below K (T.setTop (mkF m pc L (.int y :: .int x :: S))) := by
  subst hp; subst hz
  exact Go.st (fun _ => XS.isub X.here hx rfl hd rfl) r
theorem g_iand {K : State → Outcome → Prop} (X : Stand p l e R s m args below meth c T locs cells slots) (hx : p.tables.exec = Jvm.exec) {pc : Nat} {L : Array Slot} {S : List Value} {x y : Int32} (hd : decode c.code pc = .ok (.iand, 1)) (pc' : Nat) (hp : pc + 1 = pc') (z : Int32) (hz : x &&& y = z) (r : Go p e below K (T.setTop (mkF m pc' L (.int z :: S)))) : Go p e below K (T.setTop (mkF m pc L (.int y :: .int x :: S))) := by
  subst hp; subst hz
  exact Go.st (fun _ => XS.iand X.here hx rfl hd rfl) r
theorem g_iushr {K : State → Outcome → Prop} (X : Stand p l e R s m args below meth c T locs cells slots) (hx : p.tables.exec = Jvm.exec) {pc : Nat} {L : Array Slot} {S : List Value} {x y : Int32} (hd : decode c.code pc = .ok (.iushr, 1)) (pc' : Nat) (hp : pc + 1 = pc') (z : Int32) (hz : XT.ushr x y = z) (r : Go p e below K (T.setTop (mkF m pc' L (.int z :: S)))) : Go p e below K (T.setTop (mkF m pc L (.int y :: .int x :: S))) := by
  subst hp; subst hz
  exact Go.st (fun _ => XT.iushr X.here hx rfl hd rfl) r
theorem g_irem {K : State → Outcome → Prop} (X : Stand p l e R s m args below meth c T locs cells slots) (hx : p.tables.exec = Jvm.exec) {pc : Nat} {L : Array Slot} {S : List Value} {x y : Int32} (hd : decode c.code pc = .ok (.irem, 1)) (pc' : Nat) (hp : pc + 1 = pc') (hy : y ≠ 0) (z : Int32) (hz : x % y = z) (r : Go p e below K (T.setTop (mkF m pc' L (.int z :: S)))) : Go p e below K (T.setTop (mkF m pc L (.int y :: .int x :: S))) := by
  subst hp; subst hz
  exact Go.st (fun _ => iremM X hx rfl hd rfl hy) r
theorem g_i2b {K : State → Outcome → Prop} (X : Stand p l e R s m args below meth c T locs cells slots) (hx : p.tables.exec = Jvm.exec) {pc : Nat} {L : Array Slot} {S : List Value} {x : Int32} (hd : decode c.code pc = .ok (.i2b, 1)) (pc' : Nat) (hp : pc + 1 = pc') (z : Int32) (hz : x.toInt8.toInt32 = z) (r : Go p e below K (T.setTop (mkF m pc' L (.int z :: S)))) : Go p e below K (T.setTop (mkF m pc L (.int x :: S))) := by
  subst hp; subst hz
  exact Go.st (fun _ => XT.i2b X.here hx rfl hd rfl) r
theorem g_i2c {K : State → Outcome → Prop} (X : Stand p l e R s m args below meth c T locs cells slots) (hx : p.tables.exec = Jvm.exec) {pc : Nat} {L : Array Slot} {S : List Value} {x : Int32} (hd : decode c.code pc = .ok (.i2c, 1)) (pc' : Nat) (hp : pc + 1 = pc') (z : Int32) (hz : x.toUInt32.toUInt16.toUInt32.toInt32 = z) (r : Go p e below K (T.setTop (mkF m pc' L (.int z :: S)))) : Go p e below K (T.setTop (mkF m pc L (.int x :: S))) := by
  subst hp; subst hz
  exact Go.st (fun _ => XT.i2c X.here hx rfl hd rfl) r
theorem g_iinc {K : State → Outcome → Prop} (X : Stand p l e R s m args below meth c T locs cells slots) (hx : p.tables.exec = Jvm.exec) {pc : Nat} {L : Array Slot} {S : List Value} {k : Nat} {i : Int} {x : Int32} (hd : decode c.code pc = .ok (.iinc k i, 3)) (pc' : Nat) (hp : pc + 3 = pc') (hl : L[k]? = some (.val (.int x))) (z : Int32) (hz : x + Int32.ofInt i = z) (L' : Array Slot) (hl' : storeLocals L k (.int z) = some L') (r : Go p e below K (T.setTop (mkF m pc' L' S))) : Go p e below K (T.setTop (mkF m pc L S)) := by
  subst hp; subst hz
  exact Go.st (fun _ => XS.iinc X.here hx rfl hd hl hl') r
theorem g_dup {K : State → Outcome → Prop} (X : Stand p l e R s m args below meth c T locs cells slots) (hx : p.tables.exec = Jvm.exec) {pc : Nat} {L : Array Slot} {S : List Value} {x : Value} (hd : decode c.code pc = .ok (.dup, 1)) (pc' : Nat) (hp : pc + 1 = pc') (hc : x.category = 1) (r : Go p e below K (T.setTop (mkF m pc' L (x :: x :: S)))) : Go p e below K (T.setTop (mkF m pc L (x :: S))) := by
  subst hp
  exact Go.st (fun _ => XS.dup X.here hx rfl hd rfl hc) r
theorem g_pop {K : State → Outcome → Prop} (X : Stand p l e R s m args below meth c T locs cells slots) (hx : p.tables.exec = Jvm.exec) {pc : Nat} {L : Array Slot} {S : List Value} {x : Value} (hd : decode c.code pc = .ok (.pop, 1)) (pc' : Nat) (hp : pc + 1 = pc') (hc : x.category = 1) (r : Go p e below K (T.setTop (mkF m pc' L S))) : Go p e below K (T.setTop (mkF m pc L (x :: S))) := by
  subst hp
  exact Go.st (fun _ => XT.pop X.here hx rfl hd rfl hc) r
theorem g_goto {K : State → Outcome → Prop} (X : Stand p l e R s m args below meth c T locs cells slots) (hx : p.tables.exec = Jvm.exec) {pc : Nat} {L : Array Slot} {S : List Value} {o : Int} (hd : decode c.code pc = .ok (.goto o, 3)) (pc' : Nat) (h0 : 0 ≤ (pc : Int) + o) (hp : ((pc : Int) + o).toNat = pc') (r : Go p e below K (T.setTop (mkF m pc' L S))) : Go p e below K (T.setTop (mkF m pc L S)) :=
  Go.st (fun _ => XS.goto X.here hx rfl (pc0 := pc) rfl hd h0 hp) r
theorem g_icmp {K : State → Outcome → Prop} (X : Stand p l e R s m args below meth c T locs cells slots) (hx : p.tables.exec = Jvm.exec) {pc : Nat} {L : Array Slot} {S : List Value} {cd : ClassFile.Cond} {o : Int} {x y : Int32} (hd : decode c.code pc = .ok (.if_icmp cd o, 3)) (pc1 pc2 : Nat) (h0 : 0 ≤ (pc : Int) + o) (h1 : ((pc : Int) + o).toNat = pc1) (h2 : pc + 3 = pc2) (yes : if_icmp.holds cd x y = true → Go p e below K (T.setTop (mkF m pc1 L S))) (no : if_icmp.holds cd x y = false → Go p e below K (T.setTop (mkF m pc2 L S))) : Go p e below K (T.setTop (mkF m pc L (.int y :: .int x :: S))) := by
  subst h2
  cases hc : if_icmp.holds cd x y with
  | true => exact Go.st (fun _ => XS.icmpYes X.here hx rfl (pc0 := pc) rfl hd rfl hc h0 h1) (yes hc)
  | false => exact Go.st (fun _ => XS.icmpNo X.here hx rfl hd rfl hc) (no hc)
theorem g_if {K : State → Outcome → Prop} (X : Stand p l e R s m args below meth c T locs cells slots) (hx : p.tables.exec = Jvm.exec) {pc : Nat} {L : Array Slot} {S : List Value} {cd : ClassFile.Cond} {o : Int} {x : Int32} (hd : decode c.code pc = .ok (.ifCond cd o, 3)) (pc1 pc2 : Nat) (h0 : 0 ≤ (pc : Int) + o) (h1 : ((pc : Int) + o).toNat = pc1) (h2 : pc + 3 = pc2) (yes : if_icmp.holds cd x 0 = true → Go p e below K (T.setTop (mkF m pc1 L S))) (no : if_icmp.holds cd x 0 = false → Go p e below K (T.setTop (mkF m pc2 L S))) : Go p e below K (T.setTop (mkF m pc L (.int x :: S))) := by
  subst h2
  cases hc : if_icmp.holds cd x 0 with
  | true => exact Go.st (fun _ => XS.ifYes X.here hx rfl (pc0 := pc) rfl hd rfl ((if0 cd x).trans hc) h0 h1) (yes hc)
  | false => exact Go.st (fun _ => XS.ifNo X.here hx rfl hd rfl ((if0 cd x).trans hc)) (no hc)
theorem g_icmp_eq {K : State → Outcome → Prop} (X : Stand p l e R s m args below meth c T locs cells slots) (hx : p.tables.exec = Jvm.exec) {pc : Nat} {L : Array Slot} {S : List Value} {o : Int} {x y : Int32} (hd : decode c.code pc = .ok (.if_icmp .eq o, 3)) (pc1 pc2 : Nat) (h0 : 0 ≤ (pc : Int) + o) (h1 : ((pc : Int) + o).toNat = pc1) (h2 : pc + 3 = pc2) (yes : x = y → Go p e below K (T.setTop (mkF m pc1 L S))) (no : ¬ x = y → Go p e below K (T.setTop (mkF m pc2 L S))) : Go p e below K (T.setTop (mkF m pc L (.int y :: .int x :: S))) := by
  refine g_icmp X hx hd pc1 pc2 h0 h1 h2 (fun hc => ?_) (fun hc => ?_)
  · by_cases q : x = y
    · exact yes q
    · rw [(feq q).1] at hc; cases hc
  · by_cases q : x = y
    · rw [(teq q).1] at hc; cases hc
    · exact no q
theorem g_if_eq {K : State → Outcome → Prop} (X : Stand p l e R s m args below meth c T locs cells slots) (hx : p.tables.exec = Jvm.exec) {pc : Nat} {L : Array Slot} {S : List Value} {o : Int} {x : Int32} (hd : decode c.code pc = .ok (.ifCond .eq o, 3)) (pc1 pc2 : Nat) (h0 : 0 ≤ (pc : Int) + o) (h1 : ((pc : Int) + o).toNat = pc1) (h2 : pc + 3 = pc2) (yes : x = (0 : Int32) → Go p e below K (T.setTop (mkF m pc1 L S))) (no : ¬ x = (0 : Int32) → Go p e below K (T.setTop (mkF m pc2 L S))) : Go p e below K (T.setTop (mkF m pc L (.int x :: S))) := by
  refine g_if X hx hd pc1 pc2 h0 h1 h2 (fun hc => ?_) (fun hc => ?_)
  · by_cases q : x = (0 : Int32)
    · exact yes q
    · rw [(feq q).1] at hc; cases hc
  · by_cases q : x = (0 : Int32)
    · rw [(teq q).1] at hc; cases hc
    · exact no q
theorem g_icmp_ne {K : State → Outcome → Prop} (X : Stand p l e R s m args below meth c T locs cells slots) (hx : p.tables.exec = Jvm.exec) {pc : Nat} {L : Array Slot} {S : List Value} {o : Int} {x y : Int32} (hd : decode c.code pc = .ok (.if_icmp .ne o, 3)) (pc1 pc2 : Nat) (h0 : 0 ≤ (pc : Int) + o) (h1 : ((pc : Int) + o).toNat = pc1) (h2 : pc + 3 = pc2) (yes : ¬ x = y → Go p e below K (T.setTop (mkF m pc1 L S))) (no : x = y → Go p e below K (T.setTop (mkF m pc2 L S))) : Go p e below K (T.setTop (mkF m pc L (.int y :: .int x :: S))) := by
  refine g_icmp X hx hd pc1 pc2 h0 h1 h2 (fun hc => ?_) (fun hc => ?_)
  · by_cases q : x = y
    · rw [(teq q).2] at hc; cases hc
    · exact yes q
  · by_cases q : x = y
    · exact no q
    · rw [(feq q).2] at hc; cases hc
theorem g_if_ne {K : State → Outcome → Prop} (X : Stand p l e R s m args below meth c T locs cells slots) (hx : p.tables.exec = Jvm.exec) {pc : Nat} {L : Array Slot} {S : List Value} {o : Int} {x : Int32} (hd : decode c.code pc = .ok (.ifCond .ne o, 3)) (pc1 pc2 : Nat) (h0 : 0 ≤ (pc : Int) + o) (h1 : ((pc : Int) + o).toNat = pc1) (h2 : pc + 3 = pc2) (yes : ¬ x = (0 : Int32) → Go p e below K (T.setTop (mkF m pc1 L S))) (no : x = (0 : Int32) → Go p e below K (T.setTop (mkF m pc2 L S))) : Go p e below K (T.setTop (mkF m pc L (.int x :: S))) := by
  refine g_if X hx hd pc1 pc2 h0 h1 h2 (fun hc => ?_) (fun hc => ?_)
  · by_cases q : x = (0 : Int32)
    · rw [(teq q).2] at hc; cases hc
    · exact yes q
  · by_cases q : x = (0 : Int32)
    · exact no q
    · rw [(feq q).2] at hc; cases hc
theorem g_icmp_lt {K : State → Outcome → Prop} (X : Stand p l e R s m args below meth c T locs cells slots) (hx : p.tables.exec = Jvm.exec) {pc : Nat} {L : Array Slot} {S : List Value} {o : Int} {x y : Int32} (hd : decode c.code pc = .ok (.if_icmp .lt o, 3)) (pc1 pc2 : Nat) (h0 : 0 ≤ (pc : Int) + o) (h1 : ((pc : Int) + o).toNat = pc1) (h2 : pc + 3 = pc2) (yes : x < y → Go p e below K (T.setTop (mkF m pc1 L S))) (no : ¬ x < y → Go p e below K (T.setTop (mkF m pc2 L S))) : Go p e below K (T.setTop (mkF m pc L (.int y :: .int x :: S))) := by
  refine g_icmp X hx hd pc1 pc2 h0 h1 h2 (fun hc => ?_) (fun hc => ?_)
  · by_cases q : x < y
    · exact yes q
    · rw [(flt q).1] at hc; cases hc
  · by_cases q : x < y
    · rw [(tlt q).1] at hc; cases hc
    · exact no q
theorem g_icmp_ge {K : State → Outcome → Prop} (X : Stand p l e R s m args below meth c T locs cells slots) (hx : p.tables.exec = Jvm.exec) {pc : Nat} {L : Array Slot} {S : List Value} {o : Int} {x y : Int32} (hd : decode c.code pc = .ok (.if_icmp .ge o, 3)) (pc1 pc2 : Nat) (h0 : 0 ≤ (pc : Int) + o) (h1 : ((pc : Int) + o).toNat = pc1) (h2 : pc + 3 = pc2) (yes : ¬ x < y → Go p e below K (T.setTop (mkF m pc1 L S))) (no : x < y → Go p e below K (T.setTop (mkF m pc2 L S))) : Go p e below K (T.setTop (mkF m pc L (.int y :: .int x :: S))) := by
  refine g_icmp X hx hd pc1 pc2 h0 h1 h2 (fun hc => ?_) (fun hc => ?_)
  · by_cases q : x < y
    · rw [(tlt q).2.1] at hc; cases hc
    · exact yes q
  · by_cases q : x < y
    · exact no q
    · rw [(flt q).2.1] at hc; cases hc
theorem g_if_gt {K : State → Outcome → Prop} (X : Stand p l e R s m args below meth c T locs cells slots) (hx : p.tables.exec = Jvm.exec) {pc : Nat} {L : Array Slot} {S : List Value} {o : Int} {x : Int32} (hd : decode c.code pc = .ok (.ifCond .gt o, 3)) (pc1 pc2 : Nat) (h0 : 0 ≤ (pc : Int) + o) (h1 : ((pc : Int) + o).toNat = pc1) (h2 : pc + 3 = pc2) (yes : (0 : Int32) < x → Go p e below K (T.setTop (mkF m pc1 L S))) (no : ¬ (0 : Int32) < x → Go p e below K (T.setTop (mkF m pc2 L S))) : Go p e below K (T.setTop (mkF m pc L (.int x :: S))) := by
  refine g_if X hx hd pc1 pc2 h0 h1 h2 (fun hc => ?_) (fun hc => ?_)
  · by_cases q : (0 : Int32) < x
    · exact yes q
    · rw [(flt q).2.2.1] at hc; cases hc
  · by_cases q : (0 : Int32) < x
    · rw [(tlt q).2.2.1] at hc; cases hc
    · exact no q
theorem g_icmp_le {K : State → Outcome → Prop} (X : Stand p l e R s m args below meth c T locs cells slots) (hx : p.tables.exec = Jvm.exec) {pc : Nat} {L : Array Slot} {S : List Value} {o : Int} {x y : Int32} (hd : decode c.code pc = .ok (.if_icmp .le o, 3)) (pc1 pc2 : Nat) (h0 : 0 ≤ (pc : Int) + o) (h1 : ((pc : Int) + o).toNat = pc1) (h2 : pc + 3 = pc2) (yes : ¬ y < x → Go p e below K (T.setTop (mkF m pc1 L S))) (no : y < x → Go p e below K (T.setTop (mkF m pc2 L S))) : Go p e below K (T.setTop (mkF m pc L (.int y :: .int x :: S))) := by
  refine g_icmp X hx hd pc1 pc2 h0 h1 h2 (fun hc => ?_) (fun hc => ?_)
  · by_cases q : y < x
    · rw [(tlt q).2.2.2] at hc; cases hc
    · exact yes q
  · by_cases q : y < x
    · exact no q
    · rw [(flt q).2.2.2] at hc; cases hc
theorem g_ifnonnullY {K : State → Outcome → Prop} (X : Stand p l e R s m args below meth c T locs cells slots) (hx : p.tables.exec = Jvm.exec) {pc : Nat} {L : Array Slot} {S : List Value} {o : Int} {b : Addr} (hd : decode c.code pc = .ok (.ifnonnull o, 3)) (pc' : Nat) (h0 : 0 ≤ (pc : Int) + o) (hp : ((pc : Int) + o).toNat = pc') (r : Go p e below K (T.setTop (mkF m pc' L S))) : Go p e below K (T.setTop (mkF m pc L (.ref b :: S))) :=
  Go.st (fun _ => XT.ifnonnullYes X.here hx rfl (pc0 := pc) rfl hd rfl h0 hp) r
theorem g_acmp_ne {K : State → Outcome → Prop} (X : Stand p l e R s m args below meth c T locs cells slots) (hx : p.tables.exec = Jvm.exec) {pc : Nat} {L : Array Slot} {S : List Value} {o : Int} {x y : Value} (hd : decode c.code pc = .ok (.if_acmp .ne o, 3)) (pc1 pc2 : Nat) (h0 : 0 ≤ (pc : Int) + o) (h1 : ((pc : Int) + o).toNat = pc1) (h2 : pc + 3 = pc2) (hx' : x.isRef = true) (hy' : y.isRef = true) (yes : ¬ x = y → Go p e below K (T.setTop (mkF m pc1 L S))) (no : x = y → Go p e below K (T.setTop (mkF m pc2 L S))) : Go p e below K (T.setTop (mkF m pc L (y :: x :: S))) := by
  subst h2
  by_cases q : x = y
  · exact Go.st (fun _ => XT.acmpNo X.here hx rfl hd rfl hx' hy' (by simp [XT.acmp, q])) (no q)
  · exact Go.st (fun _ => XT.acmpYes X.here hx rfl (pc0 := pc) rfl hd rfl hx' hy' (by simp [XT.acmp, q]) h0 h1) (yes q)
theorem g_alen {K : State → Outcome → Prop} {Z : State} {h : Heap} {a : Addr} {k : ClassId} {ty : FieldType} {z : Int32} {vs : List Value} {dv : Value} (X : Stand p l e R s m args below meth c T locs cells slots) (hx : p.tables.exec = Jvm.exec) {pc : Nat} {L : Array Slot} {S : List Value} (hd : decode c.code pc = .ok (.arraylength, 1)) (pc' : Nat) (hp : pc + 1 = pc') (hZ : Z.Warmed39 s.vm) (eT : T.heap = h) (F : Arv Z h a k ty z vs dv) (r : Go p e below K (T.setTop (mkF m pc' L (.int z :: S)))) : Go p e below K (T.setTop (mkF m pc L (.ref a :: S))) := by
  subst hp
  obtain ⟨cl, A, r1, r2, r3, Hh, Gg⟩ := F
  refine Go.st (X.arraylength hx (by rw [eT]; exact A.1) (State.isArrayOf_alike hZ.alike A.2.1) (g := mkF m pc L (.ref a :: S)) rfl rfl hd) ?_
  rw [len_of r2 r3]
  exact r
theorem g_baload {K : State → Outcome → Prop} {Z : State} {h : Heap} {a : Addr} {k : ClassId} {z : Int32} {vs : List Value} {dv : Value} (X : Stand p l e R s m args below meth c T locs cells slots) (hx : p.tables.exec = Jvm.exec) {pc : Nat} {L : Array Slot} {S : List Value} {j : Int32} (hd : decode c.code pc = .ok (.baload, 1)) (pc' : Nat) (hp : pc + 1 = pc') (hZ : Z.Warmed39 s.vm) (eT : T.heap = h) (F : Arv Z h a k .byte z vs dv) (q : ¬ j < 0 ∧ j < z) (v : Value) (u : vs.getD j.toNatClampNeg dv = v) (r : Go p e below K (T.setTop (mkF m pc' L (v :: S)))) : Go p e below K (T.setTop (mkF m pc L (.int j :: .ref a :: S))) := by
  subst hp
  obtain ⟨cl, A, r1, r2, r3, Hh, Gg⟩ := F
  exact Go.st (X.baloadBytes hx (by rw [eT]; exact A.1) (State.isArrayOf_alike hZ.alike A.2.1) A.2.2 (inb_of r2 q) (Hh.at (inb_of r2 q) u) (g := mkF m pc L (.int j :: .ref a :: S)) rfl rfl hd) r
theorem g_caload {K : State → Outcome → Prop} {Z : State} {h : Heap} {a : Addr} {k : ClassId} {z : Int32} {vs : List Value} {dv : Value} (X : Stand p l e R s m args below meth c T locs cells slots) (hx : p.tables.exec = Jvm.exec) {pc : Nat} {L : Array Slot} {S : List Value} {j : Int32} (hd : decode c.code pc = .ok (.caload, 1)) (pc' : Nat) (hp : pc + 1 = pc') (hZ : Z.Warmed39 s.vm) (eT : T.heap = h) (F : Arv Z h a k .char z vs dv) (q : ¬ j < 0 ∧ j < z) (v : Value) (u : vs.getD j.toNatClampNeg dv = v) (r : Go p e below K (T.setTop (mkF m pc' L (v :: S)))) : Go p e below K (T.setTop (mkF m pc L (.int j :: .ref a :: S))) := by
  subst hp
  obtain ⟨cl, A, r1, r2, r3, Hh, Gg⟩ := F
  exact Go.st (X.caload hx (by rw [eT]; exact A.1) (State.isArrayOf_alike hZ.alike A.2.1) A.2.2 (inb_of r2 q) (Hh.at (inb_of r2 q) u) (g := mkF m pc L (.int j :: .ref a :: S)) rfl rfl hd) r
theorem g_bastore {Z : State} {h : Heap} {a : Addr} {k : ClassId} {z : Int32} {vs : List Value} {dv : Value} (X : Stand p l e R s m args below meth c T locs cells slots) (hx : p.tables.exec = Jvm.exec) {pc : Nat} {L : Array Slot} {S : List Value} {j : Int32} {x : Int32} (hd : decode c.code pc = .ok (.bastore, 1)) (hZ : Z.Warmed39 s.vm) (eT : T.heap = h) (F : Arv Z h a k .byte z vs dv) (q : ¬ j < 0 ∧ j < z) {i : Nat} (hj : j.toNatClampNeg = i) (hi : i < vs.length) :
    ∃ T' h', Stand p l e R s m args below meth c T' (locs ++ [⟨a, j.toNatClampNeg⟩]) cells slots ∧ T'.heap = h' ∧ Wr h h' a j.toNatClampNeg (.int (nar .byte x)) ∧ Arv Z h' a k .byte z (vs.set i (.int (nar .byte x))) dv ∧ ∀ target, Steps p.tables e below (T'.setTop (mkF m (pc + 1) L S)) target → Steps p.tables e below (T.setTop (mkF m pc L (.int x :: .int j :: .ref a :: S))) target := by
  obtain ⟨cl, A, r1, r2, r3, Hh, Gg⟩ := F
  obtain ⟨T', h', X', e', W', st⟩ := stB X hx hZ eT A (inb_of r2 q) (g := mkF m pc L (.int x :: .int j :: .ref a :: S)) rfl rfl hd
  exact ⟨T', h', X', e', W', Arv.set A r1 r2 r3 Hh Gg (own_fits_nar .byte x (by simp)) W' i hj hi, st⟩
theorem g_castore {Z : State} {h : Heap} {a : Addr} {k : ClassId} {z : Int32} {vs : List Value} {dv : Value} (X : Stand p l e R s m args below meth c T locs cells slots) (hx : p.tables.exec = Jvm.exec) {pc : Nat} {L : Array Slot} {S : List Value} {j : Int32} {x : Int32} (hd : decode c.code pc = .ok (.castore, 1)) (hZ : Z.Warmed39 s.vm) (eT : T.heap = h) (F : Arv Z h a k .char z vs dv) (q : ¬ j < 0 ∧ j < z) {i : Nat} (hj : j.toNatClampNeg = i) (hi : i < vs.length) :
    ∃ T' h', Stand p l e R s m args below meth c T' (locs ++ [⟨a, j.toNatClampNeg⟩]) cells slots ∧ T'.heap = h' ∧ Wr h h' a j.toNatClampNeg (.int (nar .char x)) ∧ Arv Z h' a k .char z (vs.set i (.int (nar .char x))) dv ∧ ∀ target, Steps p.tables e below (T'.setTop (mkF m (pc + 1) L S)) target → Steps p.tables e below (T.setTop (mkF m pc L (.int x :: .int j :: .ref a :: S))) target := by
  obtain ⟨cl, A, r1, r2, r3, Hh, Gg⟩ := F
  obtain ⟨T', h', X', e', W', st⟩ := stC X hx hZ eT A (inb_of r2 q) (g := mkF m pc L (.int x :: .int j :: .ref a :: S)) rfl rfl hd
  exact ⟨T', h', X', e', W', Arv.set A r1 r2 r3 Hh Gg (own_fits_nar .char x (by simp)) W' i hj hi, st⟩
end Layer
theorem own_i2b (x : Int32) : nar .byte x.toInt8.toInt32 = x.toInt8.toInt32 := by
  show x.toInt8.toInt32.toInt8.toInt32 = x.toInt8.toInt32
  rw [Int8.toInt8_toInt32]
theorem own_ch (x : Int32) : ¬ (255 : Int32) < (x &&& (255 : Int32)).toUInt32.toUInt16.toUInt32.toInt32 := by
  have h1 := c_and x (255 : Int32) (by decide)
  have h2 := c_i2c (x &&& (255 : Int32))
  have e1 : (255 : Int32).toInt = 255 := by decide
  rw [Int32.lt_iff_toInt_lt, e1]
  omega
theorem own_shr0 (z : Int32) : z >>> ((0 : Int32) &&& 31) = z := by
  have h := c_ishr z (0 : Int32) 0 (by decide)
  rw [← Int32.toInt_inj, h]
  omega
theorem own_chr (x : Int32) : nar .char (x &&& (255 : Int32)).toUInt32.toUInt16.toUInt32.toInt32 = x &&& (255 : Int32) := by
  show (x &&& (255 : Int32)).toUInt32.toUInt16.toUInt32.toInt32.toUInt32.toUInt16.toUInt32.toInt32 = _
  have h1 := c_and x (255 : Int32) (by decide)
  have h2 := c_i2c (x &&& (255 : Int32))
  have h3 := c_i2c ((x &&& (255 : Int32)).toUInt32.toUInt16.toUInt32.toInt32)
  have e1 : (255 : Int32).toInt = 255 := by decide
  rw [← Int32.toInt_inj]
  omega
theorem own_nc (x : Int32) : nar .char (x &&& (255 : Int32)) = x &&& (255 : Int32) := by
  show (x &&& (255 : Int32)).toUInt32.toUInt16.toUInt32.toInt32 = _
  have h1 := c_and x (255 : Int32) (by decide)
  have h2 := c_i2c (x &&& (255 : Int32))
  have e1 : (255 : Int32).toInt = 255 := by decide
  rw [← Int32.toInt_inj]
  omega
theorem own_nc2 {x y : Int32} (e : y.toUInt32.toUInt16.toUInt32.toInt32 = x) : nar .char x = x := by
  subst e
  show y.toUInt32.toUInt16.toUInt32.toInt32.toUInt32.toUInt16.toUInt32.toInt32 = y.toUInt32.toUInt16.toUInt32.toInt32
  have h1 := c_i2c y
  have h2 := c_i2c y.toUInt32.toUInt16.toUInt32.toInt32
  rw [← Int32.toInt_inj]
  omega
def own_c0 (x : Int32) : Int32 := (XT.ushr x (2 : Int32)) &&& (255 : Int32)
def own_c1 (x : Int32) : Int32 := (XT.ushr x (10 : Int32)) &&& (255 : Int32)
theorem own_n0 (x : Int32) : nar .char (own_c0 x) = own_c0 x := own_nc _
theorem own_n1 (x : Int32) : nar .char (own_c1 x) = own_c1 x := own_nc _
theorem own_le (y : Int32) : ¬ (255 : Int32) < y &&& (255 : Int32) := by
  have h := c_and y (255 : Int32) (by decide)
  have e1 : (255 : Int32).toInt = 255 := by decide
  rw [Int32.lt_iff_toInt_lt]
  omega
def own_us (x len : Int32) : List Int32 := if 0 < len then (if len = 1 then [(own_c0 x).toInt8.toInt32] else [(own_c0 x).toInt8.toInt32, (own_c1 x).toInt8.toInt32]) else []
theorem own_us0 {x len : Int32} (h : ¬ 0 < len) : own_us x len = [] := if_neg h
theorem own_us1 {x len : Int32} (h : 0 < len) (h1 : len = 1) : own_us x len = [(own_c0 x).toInt8.toInt32] := by unfold own_us; rw [if_pos h, if_pos h1]
theorem own_us2 {x len : Int32} (h : 0 < len) (h1 : ¬ len = 1) : own_us x len = [(own_c0 x).toInt8.toInt32, (own_c1 x).toInt8.toInt32] := by unfold own_us; rw [if_pos h, if_neg h1]
theorem own_uslen (x len : Int32) : (own_us x len).length ≤ 2 := by unfold own_us; split <;> (try split) <;> simp
theorem own_inj {y z : Int32} (h : (y &&& (255 : Int32)).toInt8.toInt32 = (z &&& (255 : Int32)).toInt8.toInt32) : (y &&& (255 : Int32)) = (z &&& (255 : Int32)) := by
  have h1 := c_and y (255 : Int32) (by decide)
  have h2 := c_and z (255 : Int32) (by decide)
  have h3 := c_i2b (y &&& (255 : Int32))
  have h4 := c_i2b (z &&& (255 : Int32))
  have e1 : (255 : Int32).toInt = 255 := by decide
  rw [← Int32.toInt_inj] at h ⊢
  omega
theorem own_ofNat {n : Nat} (h : n < 2147483648) : (Int32.ofNat n).toInt = n := Int32.toInt_ofNat_small h
theorem own_clamp (x : Int32) (h : 0 ≤ x.toInt) : (x.toNatClampNeg : Int) = x.toInt := by
  show ((x.toInt).toNat : Int) = x.toInt
  omega
theorem own_cl {n : Nat} (h : n < 2147483648) : (Int32.ofNat n).toNatClampNeg = n := by
  have h1 := own_ofNat h
  have h2 := own_clamp (Int32.ofNat n) (by omega)
  omega
theorem own_in {j N : Nat} (hN : N < 2147483648) (h : j < N) : ¬ Int32.ofNat j < 0 ∧ Int32.ofNat j < Int32.ofNat N := by
  rw [Int32.lt_iff_toInt_lt, Int32.lt_iff_toInt_lt, own_ofNat hN, own_ofNat (by omega)]
  have e0 : (0 : Int32).toInt = 0 := by decide
  omega
theorem own_eqn {i j : Nat} (hi : i < 2147483648) (hj : j < 2147483648) (h : Int32.ofNat i = Int32.ofNat j) : i = j := by
  rw [← Int32.toInt_inj, own_ofNat hi, own_ofNat hj] at h
  omega
theorem own_up (N : Nat) : Int32.ofNat N + (1 : Int32) = Int32.ofNat (N + 1) := (Int32.ofNat_add N 1).symm
theorem own_mapget (u : List Int32) {i : Nat} (h : i < u.length) : (u.map Value.int).getD i (.int (0 : Int32)) = .int (u.getD i 0) := by
  simp [List.getD, h]
theorem own_ext {u v : List Int32} (hl : u.length = v.length) (h : ∀ j, j < u.length → u.getD j 0 = v.getD j 0) : u = v := by
  refine List.ext_getElem hl fun j h1 h2 => ?_
  have := h j h1
  simpa [List.getD, h1, h2] using this
def own_R (x : Int32) : Prop := ¬ x < 0 ∧ ¬ 2 < x
theorem own_r3 (x : Int32) : own_R ((x &&& (3 : Int32)) % (3 : Int32)) := by
  have h1 := (c_and x (3 : Int32) (by decide)).1
  have h2 := (c_irem (x &&& (3 : Int32)) (3 : Int32) 3 (by decide)).1 h1
  unfold own_R
  rw [Int32.lt_iff_toInt_lt, Int32.lt_iff_toInt_lt, h2]
  have e0 : (0 : Int32).toInt = 0 := by decide
  have e2 : (2 : Int32).toInt = 2 := by decide
  omega
theorem own_r2 (x : Int32) : own_R ((1 : Int32) + ((x &&& (3 : Int32)) % (2 : Int32))) ∧ 0 < (1 : Int32) + ((x &&& (3 : Int32)) % (2 : Int32)) := by
  have h1 := (c_and x (3 : Int32) (by decide)).1
  have h2 := (c_irem (x &&& (3 : Int32)) (2 : Int32) 2 (by decide)).1 h1
  have h3 := c_iadd (1 : Int32) ((x &&& (3 : Int32)) % (2 : Int32))
  have h4 := rng32 ((1 : Int32) + ((x &&& (3 : Int32)) % (2 : Int32)))
  unfold own_R
  rw [Int32.lt_iff_toInt_lt, Int32.lt_iff_toInt_lt, Int32.lt_iff_toInt_lt]
  have e0 : (0 : Int32).toInt = 0 := by decide
  have e1 : (1 : Int32).toInt = 1 := by decide
  have e2 : (2 : Int32).toInt = 2 := by decide
  omega
theorem own_three {x : Int32} (h : own_R x) : x = 0 ∨ x = 1 ∨ x = 2 := by
  unfold own_R at h
  rw [Int32.lt_iff_toInt_lt, Int32.lt_iff_toInt_lt] at h
  have e0 : (0 : Int32).toInt = 0 := by decide
  have e2 : (2 : Int32).toInt = 2 := by decide
  have f0 : x.toInt = 0 → x = 0 := fun q => Int32.toInt_inj.mp (q.trans (by decide))
  have f1 : x.toInt = 1 → x = 1 := fun q => Int32.toInt_inj.mp (q.trans (by decide))
  have f2 : x.toInt = 2 → x = 2 := fun q => Int32.toInt_inj.mp (q.trans (by decide))
  have : x.toInt = 0 ∨ x.toInt = 1 ∨ x.toInt = 2 := by omega
  rcases this with q | q | q
  · exact Or.inl (f0 q)
  · exact Or.inr (Or.inl (f1 q))
  · exact Or.inr (Or.inr (f2 q))
theorem own_lenc {x y a b : Int32} (ha : own_R a) (hb : own_R b) (h : own_us x a = own_us y b) : a = b := by
  rcases own_three ha with rfl | rfl | rfl <;> rcases own_three hb with rfl | rfl | rfl <;> first | rfl | (have := congrArg List.length h; revert this; simp [own_us])
theorem own_0ne {x y a b : Int32} (ha : own_R a) (hb : own_R b) (h : ¬ a = b) : ¬ own_us x a = own_us y b := fun q => h (own_lenc ha hb q)
theorem own_sm0 {x y a : Int32} (h1 : ¬ a < 1) (h : ¬ own_c0 x = own_c0 y) : ¬ own_us x a = own_us y a := fun q => by
  have hp : (0 : Int32) < a := by
    rw [Int32.lt_iff_toInt_lt] at h1 ⊢
    have e0 : (0 : Int32).toInt = 0 := by decide
    have e1 : (1 : Int32).toInt = 1 := by decide
    omega
  by_cases q1 : a = 1
  · rw [own_us1 hp q1, own_us1 hp q1] at q; exact h (own_inj (List.cons.inj q).1)
  · rw [own_us2 hp q1, own_us2 hp q1] at q; exact h (own_inj (List.cons.inj q).1)
theorem own_sm1 {x y a : Int32} (h1 : ¬ a < 2) (h : ¬ own_c1 x = own_c1 y) : ¬ own_us x a = own_us y a := fun q => by
  rw [Int32.lt_iff_toInt_lt] at h1
  have e1 : (1 : Int32).toInt = 1 := by decide
  have e2 : (2 : Int32).toInt = 2 := by decide
  have hp : (0 : Int32) < a := by
    rw [Int32.lt_iff_toInt_lt]
    have e0 : (0 : Int32).toInt = 0 := by decide
    omega
  have q1 : ¬ a = 1 := fun z => by rw [z] at h1; omega
  rw [own_us2 hp q1, own_us2 hp q1] at q
  exact h (own_inj (List.cons.inj (List.cons.inj q).2).1)
theorem own_sme0 {x y a : Int32} (ha : own_R a) (h1 : a < 1) : own_us x a = own_us y a := by
  rcases own_three ha with rfl | rfl | rfl
  · rw [own_us0 (by decide), own_us0 (by decide)]
  · exact absurd h1 (by decide)
  · exact absurd h1 (by decide)
theorem own_sme1 {x y a : Int32} (ha : own_R a) (h1 : ¬ a < 1) (h2 : a < 2) (h : own_c0 x = own_c0 y) : own_us x a = own_us y a := by
  rcases own_three ha with rfl | rfl | rfl
  · exact absurd (by decide) h1
  · rw [own_us1 (by decide) rfl, own_us1 (by decide) rfl, h]
  · exact absurd h2 (by decide)
theorem own_sme2 {x y a : Int32} (ha : own_R a) (h2 : ¬ a < 2) (h : own_c0 x = own_c0 y) (h' : own_c1 x = own_c1 y) : own_us x a = own_us y a := by
  rcases own_three ha with rfl | rfl | rfl
  · exact absurd (by decide) h2
  · exact absurd (by decide) h2
  · rw [own_us2 (by decide) (by decide), own_us2 (by decide) (by decide), h, h']
theorem own_nonz {x a : Int32} (h : 0 < a) : ¬ Int32.ofNat (own_us x a).length = 0 := by
  by_cases q : a = 1
  · rw [own_us1 h q]; show ¬ Int32.ofNat 1 = 0; decide
  · rw [own_us2 h q]; show ¬ Int32.ofNat 2 = 0; decide
theorem own_lt2 {j N : Nat} (hj : j < 2147483648) (hN : N < 2147483648) (h : Int32.ofNat j < Int32.ofNat N) : j < N := by
  rw [Int32.lt_iff_toInt_lt, own_ofNat hN, own_ofNat hj] at h
  omega
theorem own_next {u v : List Int32} {i : Nat} (hj : ∀ j, j < i → u.getD j 0 = v.getD j 0) (h : u.getD i 0 = v.getD i 0) : ∀ j, j < i + 1 → u.getD j 0 = v.getD j 0 := fun j q => by
  rcases Nat.lt_or_ge j i with z | z
  · exact hj j z
  · have : j = i := by omega
    rw [this]; exact h

def own_EL : List (String × Nat) := [("java/lang/String", 7)]
theorem own_EW {Z : State} {a0 : Array Value} (hw : ∀ d ∈ tables_1, d.before a0 Z = true) : EW Z a0 own_EL := (EW.cons (hw _ (List.mem_of_getElem? (i := 18) rfl)) (by decide) EW.nil)
theorem own_wS {Z : State} {a0 : Array Value} (hw : ∀ d ∈ tables_1, d.before a0 Z = true) : ∀ a ∈ Bundle.stringAtoms, a.before a0 Z = true := fun d hd => by
  simp only [Bundle.stringAtoms, List.mem_cons, List.not_mem_nil, or_false] at hd
  rcases hd with rfl | rfl | rfl | rfl | rfl | rfl | rfl
  · exact (hw _ (List.mem_of_getElem? (i := 6) rfl))
  · exact (hw _ (List.mem_of_getElem? (i := 5) rfl))
  · exact (hw _ (List.mem_of_getElem? (i := 19) rfl))
  · exact (hw _ (List.mem_of_getElem? (i := 20) rfl))
  · exact (hw _ (List.mem_of_getElem? (i := 21) rfl))
  · exact (hw _ (List.mem_of_getElem? (i := 22) rfl))
  · exact (hw _ (List.mem_of_getElem? (i := 23) rfl))
theorem own_SafeArv {Z : State} {EL : List (String × Nat)} {vm : Vm} {h : Heap} {a : Addr} {k : ClassId} {ty : FieldType} {z : Int32} {vs : List Value} {dv : Value} (hal : Z.vm.Alike vm) (F : Arv Z h a k ty z vs dv) (ht : ty ≠ .byte) : Safe Z EL vm h a := by
  obtain ⟨cl, A, -⟩ := F
  exact Safe.arr hal A ht
/-- a String whose field value is null is no booked one -/
theorem own_SafeNull {Z : State} {EL : List (String × Nat)} {vm : Vm} {h : Heap} {x : Addr} (hal : Z.vm.Alike vm) (E : Exa Z h x "java/lang/String") (F0 : Fld Z h x "java/lang/String" "value" "[B" .null) : Safe Z EL vm h x := fun B => by
  obtain ⟨p, -, u, a, -, q, -, F, rfl | rfl⟩ := B
  · obtain ⟨cell, cf, k, i, f, h1, h2, -, -, -, -, h7⟩ := F0
    cases (show h[q.sa]? = some q.sC from F.ha).symm.trans h1
    obtain ⟨cS, ⟨⟨-, -, -, ⟨cv, kv, iv, s4, -⟩, -, -, -, s8, -⟩, -⟩, -⟩ := F
    obtain ⟨kv', z4⟩ := ff_back (U := Wst Z vm h) hal s4
    have e4 := z4.symm.trans h2
    simp only [Option.some.injEq, Prod.mk.injEq] at e4
    rw [← e4.2.2.2, s8] at h7
    cases h7
  · obtain ⟨cell, k, e1, e2, e3, -, -⟩ := E
    cases (show h[q.sd]? = some q.SA from F.hd).symm.trans e1
    obtain ⟨cS, -, -, f, -⟩ := F
    have f' : Z.vm.findClass "[B" = some q.SA.cls := by rw [← hal.findClass]; exact f
    obtain ⟨k1, q1, q2⟩ := Vm.findClass_spec f'
    obtain ⟨k2, q3, q4⟩ := Vm.findClass_spec e2
    cases q1.symm.trans q3
    exact absurd (q2.symm.trans q4) (by decide)
section LayerS
variable {p : Program} {l : Launch} {e : Env} {R : Room} {s : State} {m : MethodId} {args : Array Value} {below : List Frame} {meth : Method} {c : Code} {T : State} {locs : List Loc} {cells slots : Nat} {Z : State} {a0 : Array Value} {EL : List (String × Nat)} {vm0 : Vm} {k0 : Nat}
/-- what a contract asks of the end of a walk that may intern -/
def KS (s : State) (below : List Frame) (Z : State) (EL : List (String × Nat)) (Q : Option Value → Heap → List Loc → Prop) (C S : Nat) (s₂ : State) (o : Outcome) : Prop :=
  s₂.status = .running ∧ Ended s₂ below o ∧ ∃ v L, o = .returned v ∧ Q v s₂.heap L ∧ CHr Z EL s.vm s.heap s₂.vm s₂.heap ∧ ReturnedEndW s o s₂ L C S
theorem Go.endS {Q : Option Value → Heap → List Loc → Prop} {C S : Nat} (X : Stand p l e R (s.setVm vm0) m args below meth c T locs cells slots) (hlk : meth.locks = false) {v : Option Value} (hv : meth.sig.returnType = none → v = none) {σ : State}
    (go : ∀ fs, (∀ (f : JFrame) (acts : List Action), f.method = m → f.locked = none → f.entered = [] → (doReturn e (T.setTop f) acts v).1 = T.setFrames fs) → Steps p.tables e below σ (T.setFrames fs))
    (hC : cells ≤ C) (hS' : slots ≤ S) (hS : s.Since vm0 k0) (hk : k0 ≤ T.heap.size) (hEL : EW Z a0 EL) (hZ : Z.Warmed39 (s.setVm vm0).vm) (Rr : CHr Z EL s.vm s.heap vm0 T.heap) (q : Q v T.heap locs) : Go p e below (KS s below Z EL Q C S) σ := by
  obtain ⟨fs, hr, hrun, hended, hEnd⟩ := X.leaveW hS hk (v := v) hv
  exact ⟨_, _, go fs hr, hrun, hended, _, _, rfl, q, Rr.trans (show CHr Z EL vm0 T.heap T.vm T.heap from CHv.at X hZ hEL Rr.1), hEnd.1, hEnd.2.1, hEnd.2.2.1, hEnd.2.2.2.mono hC hS'⟩
theorem Go.retVS {Q : Option Value → Heap → List Loc → Prop} {C S : Nat} (X : Stand p l e R (s.setVm vm0) m args below meth c T locs cells slots) (hx : p.tables.exec = Jvm.exec) (hlk : meth.locks = false) (hret : meth.sig.returnType = none) {pc : Nat} {Ls : Array Slot} (hd : decode c.code pc = .ok (.return_, 1)) (hC : cells ≤ C) (hS' : slots ≤ S)
    (hS : s.Since vm0 k0) (hk : k0 ≤ T.heap.size) (hEL : EW Z a0 EL) (hZ : Z.Warmed39 (s.setVm vm0).vm) (Rr : CHr Z EL s.vm s.heap vm0 T.heap) (q : Q none T.heap locs) : Go p e below (KS s below Z EL Q C S) (T.setTop (mkF m pc Ls [])) :=
  Go.endS X hlk (fun _ => rfl) (fun fs hr => X.returnOut hx hret hd hr) hC hS' hS hk hEL hZ Rr q
theorem Go.retAS {Q : Option Value → Heap → List Loc → Prop} {C S : Nat} (X : Stand p l e R (s.setVm vm0) m args below meth c T locs cells slots) (hx : p.tables.exec = Jvm.exec) (hlk : meth.locks = false) {t : FieldType} (hret : meth.sig.returnType = some t) (ht : t.isReference = true) {pc : Nat} {Ls : Array Slot} {w : Value} (hw : w.isRef = true) {rest : List Value} (hd : decode c.code pc = .ok (.areturn, 1)) (hC : cells ≤ C) (hS' : slots ≤ S)
    (hS : s.Since vm0 k0) (hk : k0 ≤ T.heap.size) (hEL : EW Z a0 EL) (hZ : Z.Warmed39 (s.setVm vm0).vm) (Rr : CHr Z EL s.vm s.heap vm0 T.heap) (q : Q (some w) T.heap locs) : Go p e below (KS s below Z EL Q C S) (T.setTop (mkF m pc Ls (w :: rest))) :=
  Go.endS X hlk (fun h => by rw [hret] at h; cases h) (fun fs hr => retOut X hx hret (by cases t <;> cases w <;> simp_all [narrow, Value.isRef, FieldType.isReference]) (Or.inr (Or.inr (Or.inr (Or.inr ⟨rfl, ht, hw⟩)))) hd hr) hC hS' hS hk hEL hZ Rr q
theorem Go.retIS {Q : Option Value → Heap → List Loc → Prop} {C S : Nat} (X : Stand p l e R (s.setVm vm0) m args below meth c T locs cells slots) (hx : p.tables.exec = Jvm.exec) (hlk : meth.locks = false) (hret : meth.sig.returnType = some .int) {pc : Nat} {Ls : Array Slot} {z : Int32} {rest : List Value} (hd : decode c.code pc = .ok (.ireturn, 1)) (hC : cells ≤ C) (hS' : slots ≤ S)
    (hS : s.Since vm0 k0) (hk : k0 ≤ T.heap.size) (hEL : EW Z a0 EL) (hZ : Z.Warmed39 (s.setVm vm0).vm) (Rr : CHr Z EL s.vm s.heap vm0 T.heap) (q : Q (some (.int z)) T.heap locs) : Go p e below (KS s below Z EL Q C S) (T.setTop (mkF m pc Ls (.int z :: rest))) :=
  Go.endS X hlk (fun h => by rw [hret] at h; cases h) (fun fs hr => retOut X hx hret rfl (Or.inl ⟨rfl, Or.inl rfl, _, rfl⟩) hd hr) hC hS' hS hk hEL hZ Rr q
theorem Go.retNS {Q : Option Value → Heap → List Loc → Prop} {C S : Nat} (X : Stand p l e R (s.setVm vm0) m args below meth c T locs cells slots) (hx : p.tables.exec = Jvm.exec) (hlk : meth.locks = false) {t : FieldType} (hret : meth.sig.returnType = some t) (ht : t = .boolean ∨ t = .byte ∨ t = .char ∨ t = .short) {pc : Nat} {Ls : Array Slot} {z : Int32} {rest : List Value} (hd : decode c.code pc = .ok (.ireturn, 1)) (hC : cells ≤ C) (hS' : slots ≤ S)
    (hS : s.Since vm0 k0) (hk : k0 ≤ T.heap.size) (hEL : EW Z a0 EL) (hZ : Z.Warmed39 (s.setVm vm0).vm) (Rr : CHr Z EL s.vm s.heap vm0 T.heap) (q : Q (some (.int (nar t z))) T.heap locs) : Go p e below (KS s below Z EL Q C S) (T.setTop (mkF m pc Ls (.int z :: rest))) :=
  Go.endS X hlk (fun h => by rw [hret] at h; cases h) (fun fs hr => RoadKit.retN X hx hret ht hd hr) hC hS' hS hk hEL hZ Rr q
end LayerS

theorem own_pn_java_lang_String : plainName "java/lang/String" = true := by first | (simp [plainName, overriddenIn]; done) | decide +kernel
theorem ef_sV0 (m : MethodId) (x0 : Addr) (x1 : Addr) (x2 : Int32) (x3 : Int32) : entryFrame m #[(.ref x0), (.ref x1), (.int x2), (.int x3), .null] 6 = mkF m 0 #[.val (.ref x0), .val (.ref x1), .val (.int x2), .val (.int x3), .val .null, .unset] [] := by first | (simp [entryFrame, mkF, argsToLocals, Value.category]; done) | rfl
theorem d3_0 : decode jdk_42_method_149_code 0 = .ok (.aload_n 0, 1) := by decide +kernel
theorem d3_1 : decode jdk_42_method_149_code 1 = .ok (.invokespecial 1, 3) := by decide +kernel
theorem d3_4 : decode jdk_42_method_149_code 4 = .ok (.iload_n 3, 1) := by decide +kernel
theorem d3_5 : decode jdk_42_method_149_code 5 = .ok (.ifCond .ne 22, 3) := by decide +kernel
theorem d3_8 : decode jdk_42_method_149_code 8 = .ok (.aload_n 0, 1) := by decide +kernel
theorem d3_9 : decode jdk_42_method_149_code 9 = .ok (.ldc 7, 2) := by decide +kernel
theorem d3_11 : decode jdk_42_method_149_code 11 = .ok (.getfield 9, 3) := by decide +kernel
theorem d3_14 : decode jdk_42_method_149_code 14 = .ok (.putfield 9, 3) := by decide +kernel
theorem d3_17 : decode jdk_42_method_149_code 17 = .ok (.aload_n 0, 1) := by decide +kernel
theorem d3_18 : decode jdk_42_method_149_code 18 = .ok (.ldc 7, 2) := by decide +kernel
theorem d3_20 : decode jdk_42_method_149_code 20 = .ok (.getfield 15, 3) := by decide +kernel
theorem d3_23 : decode jdk_42_method_149_code 23 = .ok (.putfield 15, 3) := by decide +kernel
theorem d3_26 : decode jdk_42_method_149_code 26 = .ok (.return_, 1) := by decide +kernel
def QsV0 (Z : State) (a1 : Addr) (a2 : Addr) (h0 : Heap) (n0 : Nat) (v : Option Value) (h : Heap) (L : List Loc) : Prop := ∃ vb : Addr, ∃ kb : ClassId, v = none ∧ Fr n0 L ∧ Keep h0 h [a1] ∧ (Exa Z h a1 "java/lang/String") ∧ (Fld Z h a1 "java/lang/String" "value" "[B" (.ref vb)) ∧ (Fld Z h a1 "java/lang/String" "coder" "B" (.int (0 : Int32))) ∧ (Arv Z h vb kb .byte (0 : Int32) [] (.int (0 : Int32))) ∧ (a1 ≠ vb)
set_option maxRecDepth 65536 in
set_option maxHeartbeats 40000000 in
theorem rmsV0 (l : Launch) (Z : State) (a0 : Array Value) (hw : ∀ d ∈ tables_1, d.before a0 Z = true) (ws : List Jvm.Cond) (a1 : Addr) (a2 : Addr) (h0 : Heap) (n0 : Nat) (Z0 : n0 ≤ h0.size) (E_a1 : Exa Z h0 a1 "java/lang/String") (g_a1 : n0 ≤ a1) (F_value_a1 : Fld Z h0 a1 "java/lang/String" "value" "[B" .null) (F_coder_a1 : Fld Z h0 a1 "java/lang/String" "coder" "B" (.int (0 : Int32))) :
    MetFree l (⟨"java/lang/String", "<init>", "([CIILjava/lang/Void;)V"⟩ : MethodName) (head1 (Jvm.Cond.code (⟨"java/lang/String", "<init>", "([CIILjava/lang/Void;)V"⟩ : MethodName) jdk_42_method_149_code 6 none :: ws) ({ frames := 1, cells := 4, slots := 8, locals := 12 } : Room)) (fun a U => a = #[(.ref a1), (.ref a2), (.int (0 : Int32)), (.int (0 : Int32)), .null] ∧ Z.Warmed39 U.vm ∧ U.heap = h0 ∧ CHv Z own_EL U.vm h0) (fun _ _ _ _ _ => True) (fun _ U o U' => ∃ v L, o = .returned v ∧ QsV0 Z a1 a2 h0 n0 v U'.heap L ∧ CHr Z own_EL U.vm U.heap U'.vm U'.heap ∧ ReturnedEndW U o U' L ({ frames := 1, cells := 4, slots := 8, locals := 12 } : Room).cells ({ frames := 1, cells := 4, slots := 8, locals := 12 } : Room).slots) := by
  refine MetFree.of_bodySF (plainFor_of_name own_pn_java_lang_String) hisR ?_
  intro p e s m args below meth c s₁ Bd hml0 hP hK
  obtain ⟨rfl, hZ, hh, hCH⟩ := hP
  have hx := Bd.exec
  have hby := Bd.bytes
  have hlk := Bd.notSynchronized
  have hml : c.maxLocals = 6 := hml0
  have hown : s.vm.findClass "java/lang/String" = some m.cls := findClass_of_methodNamed Bd.named
  have hnm := (name_of_methodNamed Bd.named Bd.method).1
  have X0 : Stand p l e ({ frames := 1, cells := 4, slots := 8, locals := 12 } : Room) (s.setVm s.vm) m #[(.ref a1), (.ref a2), (.int (0 : Int32)), (.int (0 : Int32)), .null] below meth c s₁ [] 0 0 := Stand.of_body Bd
  have hZ : Z.Warmed39 (s.setVm s.vm).vm := hZ
  have hown : (s.setVm s.vm).vm.findClass "java/lang/String" = some m.cls := hown
  have hS0 : s.Since s.vm 0 := (State.WarmedH.refl s).since 0
  have R0 : CHr Z own_EL s.vm h0 s.vm h0 := CHr.refl hCH
  have e0 : s₁.heap = h0 := by rw [← hh, Bd.state]; rfl
  have N0 := Fr.nil n0
  have K0 : Keep h0 h0 [a1] := Keep.refl _ _
  show Go p e below (KS s below Z own_EL (QsV0 Z a1 a2 h0 n0) ({ frames := 1, cells := 4, slots := 8, locals := 12 } : Room).cells ({ frames := 1, cells := 4, slots := 8, locals := 12 } : Room).slots) _
  refine Go.body (T := s₁) (σ := s₁) (g' := (mkF m 0 #[.val (.ref a1), .val (.ref a2), .val (.int (0 : Int32)), .val (.int (0 : Int32)), .val .null, .unset] [])) (ef_sV0 m a1 a2 (0 : Int32) (0 : Int32)) ?_
  have Sf_a1 : Safe Z own_EL s.vm h0 a1 := own_SafeNull hZ.alike E_a1 F_value_a1
  refine g_aloadN X0 hx (hb hby d3_0) 1 rfl (v := (.ref a1)) rfl rfl ?_
  obtain ⟨T1, X1, e1, st1⟩ := initO X0 hx hZ hown (hw _ (List.mem_of_getElem? (i := 15) rfl)) (hw _ (List.mem_of_getElem? (i := 16) rfl)) (hw _ (List.mem_of_getElem? (i := 17) rfl)) e0 (g := (mkF m 1 #[.val (.ref a1), .val (.ref a2), .val (.int (0 : Int32)), .val (.int (0 : Int32)), .val .null, .unset] [(.ref a1)])) rfl (by rw [hml]; rfl) rfl (hb hby d3_1) (by decide) (W := 0) (by show 2 * 0 + _ ≤ _; exact Nat.le_of_eq rfl) (by decide)
  refine Go.st st1 ?_
  show Go p e below _ (T1.setTop (mkF m 4 #[.val (.ref a1), .val (.ref a2), .val (.int (0 : Int32)), .val (.int (0 : Int32)), .val .null, .unset] []))
  refine g_iloadN X1 hx (hb hby d3_4) 5 rfl (v := (0 : Int32)) rfl ?_
  refine g_if_ne X1 hx (hb hby d3_5) 27 8 (by decide) (by decide) rfl (fun hc5 => False.elim (absurd rfl hc5)) (fun hc5 => ?_)
  refine g_aloadN X1 hx (hb hby d3_8) 9 rfl (v := (.ref a1)) rfl rfl ?_
  obtain ⟨oa2, T2, h2, k12, ob2, kb2, X2, e2, E2, hS2, hk2, hZ, hown, f2a, f2c, f2v, f2b, lt2a, lt2b, C2, -, hne2, st2⟩ := ldcCH X1 hx hZ hown (hw _ (List.mem_of_getElem? (i := 18) rfl)) (own_wS hw) e1 hS0 (Nat.zero_le _) (own_EW hw) (by decide) R0.1 (vs := []) (z := (0 : Int32)) (by decide) (by decide) rfl (g := (mkF m 9 #[.val (.ref a1), .val (.ref a2), .val (.int (0 : Int32)), .val (.int (0 : Int32)), .val .null, .unset] [(.ref a1)])) rfl (hb hby d3_9) (n := 0) (by decide) (by decide) (by decide) (by decide)
  refine Go.st st2 ?_
  have Sf_a1_2 : Safe Z own_EL T2.vm h2 a1 := CHr.safe C2 E_a1.lt Sf_a1
  have R2 : CHr Z own_EL s.vm h0 T2.vm h2 := CHr.trans R0 C2
  have E_a1_3 : Exa Z h2 a1 "java/lang/String" := Exa.ext E2 E_a1
  have F_value_a1_3 : Fld Z h2 a1 "java/lang/String" "value" "[B" .null := Fld.ext E2 F_value_a1
  have F_coder_a1_3 : Fld Z h2 a1 "java/lang/String" "coder" "B" (.int (0 : Int32)) := Fld.ext E2 F_coder_a1
  have ne_a1_oa2 : a1 ≠ oa2 := (hne2 _ Sf_a1_2).1
  have ne_a1_ob2 : a1 ≠ ob2 := (hne2 _ Sf_a1_2).2
  have K2 : Keep h0 h2 [a1] := Keep.ext K0 E2
  have Zs2 : n0 ≤ h2.size := Nat.le_trans Z0 E2.1
  show Go p e below _ (T2.setTop (mkF m 11 #[.val (.ref a1), .val (.ref a2), .val (.int (0 : Int32)), .val (.int (0 : Int32)), .val .null, .unset] [(.ref oa2), (.ref a1)]))
  obtain ⟨T4, X4, e4, st4⟩ := getF X2 hx hZ hown (host := "") (Or.inl (hw _ (List.mem_of_getElem? (i := 24) rfl))) Via.refl e2 f2v (g := (mkF m 11 #[.val (.ref a1), .val (.ref a2), .val (.int (0 : Int32)), .val (.int (0 : Int32)), .val .null, .unset] [(.ref oa2), (.ref a1)])) rfl rfl (hb hby d3_11)
  refine Go.st st4 ?_
  show Go p e below _ (T4.setTop (mkF m 14 #[.val (.ref a1), .val (.ref a2), .val (.int (0 : Int32)), .val (.int (0 : Int32)), .val .null, .unset] [(.ref ob2), (.ref a1)]))
  obtain ⟨T5, h5, X5, e5, W5, st5⟩ := putF X4 hx hZ hown (host := "") (Or.inl (hw _ (List.mem_of_getElem? (i := 24) rfl))) Via.refl e4 F_value_a1_3 E_a1_3 (Or.inr ⟨(hw _ (List.mem_of_getElem? (i := 20) rfl)), rfl, hnm⟩) (hw _ (List.mem_of_getElem? (i := 5) rfl)) (ty := (.array .byte)) (by decide) rfl rfl (g := (mkF m 14 #[.val (.ref a1), .val (.ref a2), .val (.int (0 : Int32)), .val (.int (0 : Int32)), .val .null, .unset] [(.ref ob2), (.ref a1)])) rfl rfl (hb hby d3_14)
  refine Go.st st5 ?_
  have Sf_a1_6 : Safe Z own_EL T2.vm h5 a1 := Safe.wr W5 Sf_a1_2 R2.1 Sf_a1_2
  have R6 : CHr Z own_EL s.vm h0 T2.vm h5 := CHr.trans R2 (CHr.wr W5 Sf_a1_2 R2.1)
  have hk6 : _ ≤ h5.size := Nat.le_trans hk2 (Nat.le_of_eq W5.size.symm)
  have E_a1_7 : Exa Z h5 a1 "java/lang/String" := Exa.wr W5 E_a1_3
  have F_coder_a1_7 : Fld Z h5 a1 "java/lang/String" "coder" "B" (.int (0 : Int32)) := Fld.other W5 F_coder_a1_3 (Or.inr (slot_ne (Or.inr (hw _ (List.mem_of_getElem? (i := 21) rfl))) (Or.inr (hw _ (List.mem_of_getElem? (i := 20) rfl))) (by decide) (t := .byte) (t' := (.array .byte)) (by decide) (by decide)))
  have E_oa2_7 : Exa Z h5 oa2 "java/lang/String" := Exa.wr W5 f2a
  have F_coder_oa2_7 : Fld Z h5 oa2 "java/lang/String" "coder" "B" (.int (0 : Int32)) := Fld.other W5 f2c (Or.inl (Ne.symm ne_a1_oa2))
  have F_value_oa2_7 : Fld Z h5 oa2 "java/lang/String" "value" "[B" (.ref ob2) := Fld.other W5 f2v (Or.inl (Ne.symm ne_a1_oa2))
  have A_ob2_7 : Arv Z h5 ob2 kb2 .byte (0 : Int32) [] (.int (0 : Int32)) := Arv.other f2b W5 (Ne.symm ne_a1_ob2)
  have F_value_a1_5w : Fld Z h5 a1 "java/lang/String" "value" "[B" (.ref ob2) := Fld.same W5 F_value_a1_3
  have K5 : Keep h0 h5 [a1] := Keep.wr K2 W5 (Or.inl (List.mem_of_getElem? (i := 0) rfl))
  have N5 := Fr.snoc X5 N0 g_a1
  have Zs5 : n0 ≤ h5.size := by rw [W5.size]; exact Zs2
  show Go p e below _ (T5.setTop (mkF m 17 #[.val (.ref a1), .val (.ref a2), .val (.int (0 : Int32)), .val (.int (0 : Int32)), .val .null, .unset] []))
  refine g_aloadN X5 hx (hb hby d3_17) 18 rfl (v := (.ref a1)) rfl rfl ?_
  obtain ⟨oa8, T8, h8, k18, ob8, kb8, X8, e8, E8, hS8, hk8, hZ, hown, f8a, f8c, f8v, f8b, lt8a, lt8b, C8, -, hne8, st8⟩ := ldcCH X5 hx hZ hown (hw _ (List.mem_of_getElem? (i := 18) rfl)) (own_wS hw) e5 hS2 hk6 (own_EW hw) (by decide) R6.1 (vs := []) (z := (0 : Int32)) (by decide) (by decide) rfl (g := (mkF m 18 #[.val (.ref a1), .val (.ref a2), .val (.int (0 : Int32)), .val (.int (0 : Int32)), .val .null, .unset] [(.ref a1)])) rfl (hb hby d3_18) (n := 0) (by decide) (by decide) (by decide) (by decide)
  refine Go.st st8 ?_
  have Sf_a1_8 : Safe Z own_EL T8.vm h8 a1 := CHr.safe C8 E_a1_7.lt Sf_a1_6
  have R8 : CHr Z own_EL s.vm h0 T8.vm h8 := CHr.trans R6 C8
  have E_a1_9 : Exa Z h8 a1 "java/lang/String" := Exa.ext E8 E_a1_7
  have F_coder_a1_9 : Fld Z h8 a1 "java/lang/String" "coder" "B" (.int (0 : Int32)) := Fld.ext E8 F_coder_a1_7
  have E_oa2_9 : Exa Z h8 oa2 "java/lang/String" := Exa.ext E8 E_oa2_7
  have F_coder_oa2_9 : Fld Z h8 oa2 "java/lang/String" "coder" "B" (.int (0 : Int32)) := Fld.ext E8 F_coder_oa2_7
  have F_value_oa2_9 : Fld Z h8 oa2 "java/lang/String" "value" "[B" (.ref ob2) := Fld.ext E8 F_value_oa2_7
  have A_ob2_9 : Arv Z h8 ob2 kb2 .byte (0 : Int32) [] (.int (0 : Int32)) := Arv.ext A_ob2_7 E8
  have F_value_a1_9 : Fld Z h8 a1 "java/lang/String" "value" "[B" (.ref ob2) := Fld.ext E8 F_value_a1_5w
  have ne_a1_oa8 : a1 ≠ oa8 := (hne8 _ Sf_a1_8).1
  have ne_a1_ob8 : a1 ≠ ob8 := (hne8 _ Sf_a1_8).2
  have K8 : Keep h0 h8 [a1] := Keep.ext K5 E8
  have Zs8 : n0 ≤ h8.size := Nat.le_trans Zs5 E8.1
  show Go p e below _ (T8.setTop (mkF m 20 #[.val (.ref a1), .val (.ref a2), .val (.int (0 : Int32)), .val (.int (0 : Int32)), .val .null, .unset] [(.ref oa8), (.ref a1)]))
  obtain ⟨T10, X10, e10, st10⟩ := getF X8 hx hZ hown (host := "") (Or.inl (hw _ (List.mem_of_getElem? (i := 25) rfl))) Via.refl e8 f8c (g := (mkF m 20 #[.val (.ref a1), .val (.ref a2), .val (.int (0 : Int32)), .val (.int (0 : Int32)), .val .null, .unset] [(.ref oa8), (.ref a1)])) rfl rfl (hb hby d3_20)
  refine Go.st st10 ?_
  show Go p e below _ (T10.setTop (mkF m 23 #[.val (.ref a1), .val (.ref a2), .val (.int (0 : Int32)), .val (.int (0 : Int32)), .val .null, .unset] [(.int (0 : Int32)), (.ref a1)]))
  obtain ⟨T11, h11, X11, e11, W11, st11⟩ := putF X10 hx hZ hown (host := "") (Or.inl (hw _ (List.mem_of_getElem? (i := 25) rfl))) Via.refl e10 F_coder_a1_9 E_a1_9 (Or.inr ⟨(hw _ (List.mem_of_getElem? (i := 21) rfl)), rfl, hnm⟩) (hw _ (List.mem_of_getElem? (i := 5) rfl)) (ty := .byte) (by decide) rfl rfl (g := (mkF m 23 #[.val (.ref a1), .val (.ref a2), .val (.int (0 : Int32)), .val (.int (0 : Int32)), .val .null, .unset] [(.int (0 : Int32)), (.ref a1)])) rfl rfl (hb hby d3_23)
  refine Go.st st11 ?_
  have Sf_a1_12 : Safe Z own_EL T8.vm h11 a1 := Safe.wr W11 Sf_a1_8 R8.1 Sf_a1_8
  have R12 : CHr Z own_EL s.vm h0 T8.vm h11 := CHr.trans R8 (CHr.wr W11 Sf_a1_8 R8.1)
  have hk12 : _ ≤ h11.size := Nat.le_trans hk8 (Nat.le_of_eq W11.size.symm)
  have E_a1_13 : Exa Z h11 a1 "java/lang/String" := Exa.wr W11 E_a1_9
  have E_oa2_13 : Exa Z h11 oa2 "java/lang/String" := Exa.wr W11 E_oa2_9
  have F_coder_oa2_13 : Fld Z h11 oa2 "java/lang/String" "coder" "B" (.int (0 : Int32)) := Fld.other W11 F_coder_oa2_9 (Or.inl (Ne.symm ne_a1_oa2))
  have F_value_oa2_13 : Fld Z h11 oa2 "java/lang/String" "value" "[B" (.ref ob2) := Fld.other W11 F_value_oa2_9 (Or.inl (Ne.symm ne_a1_oa2))
  have A_ob2_13 : Arv Z h11 ob2 kb2 .byte (0 : Int32) [] (.int (0 : Int32)) := Arv.other A_ob2_9 W11 (Ne.symm ne_a1_ob2)
  have F_value_a1_13 : Fld Z h11 a1 "java/lang/String" "value" "[B" (.ref ob2) := Fld.other W11 F_value_a1_9 (Or.inr (slot_ne (Or.inr (hw _ (List.mem_of_getElem? (i := 20) rfl))) (Or.inr (hw _ (List.mem_of_getElem? (i := 21) rfl))) (by decide) (t := (.array .byte)) (t' := .byte) (by decide) (by decide)))
  have E_oa8_13 : Exa Z h11 oa8 "java/lang/String" := Exa.wr W11 f8a
  have F_coder_oa8_13 : Fld Z h11 oa8 "java/lang/String" "coder" "B" (.int (0 : Int32)) := Fld.other W11 f8c (Or.inl (Ne.symm ne_a1_oa8))
  have F_value_oa8_13 : Fld Z h11 oa8 "java/lang/String" "value" "[B" (.ref ob8) := Fld.other W11 f8v (Or.inl (Ne.symm ne_a1_oa8))
  have A_ob8_13 : Arv Z h11 ob8 kb8 .byte (0 : Int32) [] (.int (0 : Int32)) := Arv.other f8b W11 (Ne.symm ne_a1_ob8)
  have F_coder_a1_11w : Fld Z h11 a1 "java/lang/String" "coder" "B" (.int (0 : Int32)) := Fld.same W11 F_coder_a1_9
  have K11 : Keep h0 h11 [a1] := Keep.wr K8 W11 (Or.inl (List.mem_of_getElem? (i := 0) rfl))
  have N11 := Fr.snoc X11 N5 g_a1
  have Zs11 : n0 ≤ h11.size := by rw [W11.size]; exact Zs8
  show Go p e below _ (T11.setTop (mkF m 26 #[.val (.ref a1), .val (.ref a2), .val (.int (0 : Int32)), .val (.int (0 : Int32)), .val .null, .unset] []))
  refine Go.retVS X11 hx hlk Bd.returns (hb hby d3_26) (by decide) (by decide) hS8 (by rw [e11]; exact hk12) (own_EW hw) hZ (by rw [hh, e11]; exact R12) ?_
  show QsV0 Z a1 a2 h0 n0 _ T11.heap _
  rw [e11]
  exact ⟨ob2, kb2, rfl, N11, K11, E_a1_13, F_value_a1_13, F_coder_a1_11w, A_ob2_13, ne_a1_ob2⟩
theorem ef_sC0 (m : MethodId) (x0 : Addr) (x1 : Addr) : entryFrame m #[(.ref x0), (.ref x1)] 2 = mkF m 0 #[.val (.ref x0), .val (.ref x1)] [] := by first | (simp [entryFrame, mkF, argsToLocals, Value.category]; done) | rfl
theorem d2_0 : decode jdk_42_method_3_code 0 = .ok (.aload_n 0, 1) := by decide +kernel
theorem d2_1 : decode jdk_42_method_3_code 1 = .ok (.aload_n 1, 1) := by decide +kernel
theorem d2_2 : decode jdk_42_method_3_code 2 = .ok (.iconst 0, 1) := by decide +kernel
theorem d2_3 : decode jdk_42_method_3_code 3 = .ok (.aload_n 1, 1) := by decide +kernel
theorem d2_4 : decode jdk_42_method_3_code 4 = .ok (.arraylength, 1) := by decide +kernel
theorem d2_5 : decode jdk_42_method_3_code 5 = .ok (.aconst_null, 1) := by decide +kernel
theorem own_pd0 : parseMethodDescriptor "([CIILjava/lang/Void;)V" = some ⟨[(.array .char), .int, .int, (.object "java/lang/Void")], none⟩ := by decide +kernel
theorem d2_6 : decode jdk_42_method_3_code 6 = .ok (.invokespecial 27, 3) := by decide +kernel
theorem d2_9 : decode jdk_42_method_3_code 9 = .ok (.return_, 1) := by decide +kernel
def QsC0 (Z : State) (a1 : Addr) (a2 : Addr) (kc : ClassId) (h0 : Heap) (n0 : Nat) (v : Option Value) (h : Heap) (L : List Loc) : Prop := ∃ vb : Addr, ∃ kb : ClassId, v = none ∧ Fr n0 L ∧ Keep h0 h [a1] ∧ (Exa Z h a1 "java/lang/String") ∧ (Fld Z h a1 "java/lang/String" "value" "[B" (.ref vb)) ∧ (Fld Z h a1 "java/lang/String" "coder" "B" (.int (0 : Int32))) ∧ (Arv Z h vb kb .byte (0 : Int32) [] (.int (0 : Int32))) ∧ (a1 ≠ vb)
set_option maxRecDepth 65536 in
set_option maxHeartbeats 40000000 in
theorem rmsC0 (l : Launch) (Z : State) (a0 : Array Value) (hw : ∀ d ∈ tables_1, d.before a0 Z = true) (ws : List Jvm.Cond) (a1 : Addr) (a2 : Addr) (kc : ClassId) (h0 : Heap) (n0 : Nat) (Z0 : n0 ≤ h0.size) (E_a1 : Exa Z h0 a1 "java/lang/String") (g_a1 : n0 ≤ a1) (F_value_a1 : Fld Z h0 a1 "java/lang/String" "value" "[B" .null) (F_coder_a1 : Fld Z h0 a1 "java/lang/String" "coder" "B" (.int (0 : Int32))) (A_a2 : Arv Z h0 a2 kc .char (0 : Int32) [] (.int (0 : Int32))) (ne_a1_a2 : a1 ≠ a2) :
    MetFree l (⟨"java/lang/String", "<init>", "([C)V"⟩ : MethodName) (head1 (Jvm.Cond.code (⟨"java/lang/String", "<init>", "([C)V"⟩ : MethodName) jdk_42_method_3_code 2 none :: ws) ({ frames := 2, cells := 4, slots := 8, locals := 29 } : Room)) (fun a U => a = #[(.ref a1), (.ref a2)] ∧ Z.Warmed39 U.vm ∧ U.heap = h0 ∧ CHv Z own_EL U.vm h0) (fun _ _ _ _ _ => True) (fun _ U o U' => ∃ v L, o = .returned v ∧ QsC0 Z a1 a2 kc h0 n0 v U'.heap L ∧ CHr Z own_EL U.vm U.heap U'.vm U'.heap ∧ ReturnedEndW U o U' L ({ frames := 2, cells := 4, slots := 8, locals := 29 } : Room).cells ({ frames := 2, cells := 4, slots := 8, locals := 29 } : Room).slots) := by
  refine MetFree.of_bodySF (plainFor_of_name own_pn_java_lang_String) hisR ?_
  intro p e s m args below meth c s₁ Bd hml0 hP hK
  obtain ⟨rfl, hZ, hh, hCH⟩ := hP
  have hx := Bd.exec
  have hby := Bd.bytes
  have hlk := Bd.notSynchronized
  have hml : c.maxLocals = 2 := hml0
  have hown : s.vm.findClass "java/lang/String" = some m.cls := findClass_of_methodNamed Bd.named
  have hnm := (name_of_methodNamed Bd.named Bd.method).1
  have X0 : Stand p l e ({ frames := 2, cells := 4, slots := 8, locals := 29 } : Room) (s.setVm s.vm) m #[(.ref a1), (.ref a2)] below meth c s₁ [] 0 0 := Stand.of_body Bd
  have hZ : Z.Warmed39 (s.setVm s.vm).vm := hZ
  have hown : (s.setVm s.vm).vm.findClass "java/lang/String" = some m.cls := hown
  have hS0 : s.Since s.vm 0 := (State.WarmedH.refl s).since 0
  have R0 : CHr Z own_EL s.vm h0 s.vm h0 := CHr.refl hCH
  have e0 : s₁.heap = h0 := by rw [← hh, Bd.state]; rfl
  have N0 := Fr.nil n0
  have K0 : Keep h0 h0 [a1] := Keep.refl _ _
  show Go p e below (KS s below Z own_EL (QsC0 Z a1 a2 kc h0 n0) ({ frames := 2, cells := 4, slots := 8, locals := 29 } : Room).cells ({ frames := 2, cells := 4, slots := 8, locals := 29 } : Room).slots) _
  refine Go.body (T := s₁) (σ := s₁) (g' := (mkF m 0 #[.val (.ref a1), .val (.ref a2)] [])) (ef_sC0 m a1 a2) ?_
  refine g_aloadN X0 hx (hb hby d2_0) 1 rfl (v := (.ref a1)) rfl rfl ?_
  refine g_aloadN X0 hx (hb hby d2_1) 2 rfl (v := (.ref a2)) rfl rfl ?_
  refine g_iconst X0 hx (hb hby d2_2) 3 rfl (0 : Int32) rfl ?_
  refine g_aloadN X0 hx (hb hby d2_3) 4 rfl (v := (.ref a2)) rfl rfl ?_
  refine g_alen X0 hx (hb hby d2_4) 5 rfl hZ e0 A_a2 ?_
  refine g_null X0 hx (hb hby d2_5) 6 rfl ?_
  obtain ⟨_, _, ⟨T15, L15, k15, n15⟩, -, X15, hS15, gr15, ⟨Lc15, hQ15, l15, y15, z15, C15⟩, st15⟩ := X0.specialBackS hx (y := (⟨"java/lang/String", "<init>", "([CIILjava/lang/Void;)V"⟩ : MethodName)) rfl hown (mvT hZ (hw _ (List.mem_of_getElem? (i := 11) rfl))) (mvT hZ (hw _ (List.mem_of_getElem? (i := 12) rfl))) (mvT hZ (hw _ (List.mem_of_getElem? (i := 14) rfl))) (by decide) (backOfSH (W := 0) (rmsV0 l Z a0 hw [] a1 a2 h0 n0 Z0 E_a1 g_a1 F_value_a1 F_coder_a1) hZ (hw _ (List.mem_of_getElem? (i := 14) rfl)) (hw _ (List.mem_of_getElem? (i := 6) rfl)) (by decide) (by decide) (own_EW hw) R0.1) (g := (mkF m 6 #[.val (.ref a1), .val (.ref a2)] [.null, (.int (0 : Int32)), (.int (0 : Int32)), (.ref a2), (.ref a1)])) rfl (by rw [hml]; rfl) (Steps.refl _) (a := a1) (argsL := [(.ref a2), (.int (0 : Int32)), (.int (0 : Int32)), .null]) (rest := []) (lenOf own_pd0 rfl) rfl (by show 2 * 0 + _ ≤ _; exact Nat.le_of_eq rfl) (hb hby d2_6) (fun _ _ => ⟨rfl, e0, (by decide : 0 + 4 ≤ _), (by decide : 0 + 8 ≤ _)⟩)
  dsimp only [Pt.U, Pt.locs, Pt.cells, Pt.slots] at X15 l15 y15 z15 st15 hQ15 hS15 gr15 C15
  subst l15 y15 z15
  obtain ⟨ovb, okb, rfl, Nq15, Kq15, f15_0, f15_1, f15_2, f15_3, f15_4⟩ := hQ15
  refine Go.tr st15 ?_
  obtain ⟨X15, hS15, hZ, hown⟩ := rebS hS0 (by rw [e0]; exact (Nat.zero_le _)) X15 hS15 gr15 hZ hown
  have R15 : CHr Z own_EL s.vm h0 T15.vm T15.heap := CHr.trans R0 C15
  have N15 := Fr.app N0 Nq15
  have E_a1_16 : Exa Z T15.heap a1 "java/lang/String" := Exa.keep E_a1 Kq15
  have K15 : Keep h0 T15.heap [a1] := Keep.trans K0 Kq15 (allS (Or.inl (List.mem_of_getElem? (i := 0) rfl)) all0)
  have Zs15 : n0 ≤ T15.heap.size := Nat.le_trans Z0 Kq15.1
  show Go p e below _ (T15.setTop (mkF m 9 #[.val (.ref a1), .val (.ref a2)] []))
  refine Go.retVS X15 hx hlk Bd.returns (hb hby d2_9) (by decide) (by decide) hS15 (Nat.le_refl _) (own_EW hw) hZ (by rw [hh]; exact R15) ?_
  show QsC0 Z a1 a2 kc h0 n0 _ T15.heap _
  exact ⟨ovb, okb, rfl, N15, K15, f15_0, f15_1, f15_2, f15_3, f15_4⟩
theorem own_pn_java_lang_StringUTF16 : plainName "java/lang/StringUTF16" = true := by first | (simp [plainName, overriddenIn]; done) | decide +kernel
theorem ef_cmp1 (m : MethodId) (x0 : Addr) (x1 : Int32) (x2 : Addr) (x3 : Int32) (x4 : Int32) : entryFrame m #[(.ref x0), (.int x1), (.ref x2), (.int x3), (.int x4)] 7 = mkF m 0 #[.val (.ref x0), .val (.int x1), .val (.ref x2), .val (.int x3), .val (.int x4), .unset, .unset] [] := by first | (simp [entryFrame, mkF, argsToLocals, Value.category]; done) | rfl
theorem d8_0 : decode jdk_52_method_21_code 0 = .ok (.iconst 0, 1) := by decide +kernel
theorem d8_1 : decode jdk_52_method_21_code 1 = .ok (.istore 5, 2) := by decide +kernel
theorem d8_3 : decode jdk_52_method_21_code 3 = .ok (.iload 5, 2) := by decide +kernel
theorem d8_5 : decode jdk_52_method_21_code 5 = .ok (.iload 4, 2) := by decide +kernel
theorem d8_7 : decode jdk_52_method_21_code 7 = .ok (.if_icmp .ge 37, 3) := by decide +kernel
theorem d8_10 : decode jdk_52_method_21_code 10 = .ok (.aload_n 0, 1) := by decide +kernel
theorem d8_11 : decode jdk_52_method_21_code 11 = .ok (.iload_n 1, 1) := by decide +kernel
theorem d8_12 : decode jdk_52_method_21_code 12 = .ok (.caload, 1) := by decide +kernel
theorem d8_13 : decode jdk_52_method_21_code 13 = .ok (.istore 6, 2) := by decide +kernel
theorem d8_15 : decode jdk_52_method_21_code 15 = .ok (.iload 6, 2) := by decide +kernel
theorem d8_17 : decode jdk_52_method_21_code 17 = .ok (.sipush 255, 3) := by decide +kernel
theorem d8_20 : decode jdk_52_method_21_code 20 = .ok (.if_icmp .le 6, 3) := by decide +kernel
theorem d8_26 : decode jdk_52_method_21_code 26 = .ok (.aload_n 2, 1) := by decide +kernel
theorem d8_27 : decode jdk_52_method_21_code 27 = .ok (.iload_n 3, 1) := by decide +kernel
theorem d8_28 : decode jdk_52_method_21_code 28 = .ok (.iload 6, 2) := by decide +kernel
theorem d8_30 : decode jdk_52_method_21_code 30 = .ok (.i2b, 1) := by decide +kernel
theorem d8_31 : decode jdk_52_method_21_code 31 = .ok (.bastore, 1) := by decide +kernel
theorem d8_32 : decode jdk_52_method_21_code 32 = .ok (.iinc 1 1, 3) := by decide +kernel
theorem d8_35 : decode jdk_52_method_21_code 35 = .ok (.iinc 3 1, 3) := by decide +kernel
theorem d8_38 : decode jdk_52_method_21_code 38 = .ok (.iinc 5 1, 3) := by decide +kernel
theorem d8_41 : decode jdk_52_method_21_code 41 = .ok (.goto (-38), 3) := by decide +kernel
theorem d8_44 : decode jdk_52_method_21_code 44 = .ok (.iload 4, 2) := by decide +kernel
theorem d8_46 : decode jdk_52_method_21_code 46 = .ok (.ireturn, 1) := by decide +kernel
def Qcmp1 (Z : State) (a1 : Addr) (a3 : Addr) (kc : ClassId) (kb : ClassId) (x1 : Int32) (h0 : Heap) (n0 : Nat) (v : Option Value) (h : Heap) (L : List Loc) : Prop := v = some (.int (1 : Int32)) ∧ Fr n0 L ∧ Keep h0 h [a3] ∧ (Arv Z h a3 kb .byte (1 : Int32) ([(.int x1.toInt8.toInt32)]) (.int (0 : Int32)))
set_option maxRecDepth 65536 in
set_option maxHeartbeats 40000000 in
theorem rmcmp1 (l : Launch) (Z : State) (a0 : Array Value) (hw : ∀ d ∈ tables_1, d.before a0 Z = true) (ws : List Jvm.Cond) (a1 : Addr) (a3 : Addr) (kc : ClassId) (kb : ClassId) (x1 : Int32) (h0 : Heap) (n0 : Nat) (Z0 : n0 ≤ h0.size) (A_a1 : Arv Z h0 a1 kc .char (1 : Int32) ([(.int x1)]) (.int (0 : Int32))) (A_a3 : Arv Z h0 a3 kb .byte (1 : Int32) ([(.int (0 : Int32))]) (.int (0 : Int32))) (g_a3 : n0 ≤ a3) (ne_a1_a3 : a1 ≠ a3) (hx1 : ¬ (255 : Int32) < x1) :
    MetFree l (⟨"java/lang/StringUTF16", "compress", "([CI[BII)I"⟩ : MethodName) (head1 (Jvm.Cond.code (⟨"java/lang/StringUTF16", "compress", "([CI[BII)I"⟩ : MethodName) jdk_52_method_21_code 7 (some .int) :: ws) ({ frames := 0, cells := 0, slots := 0, locals := 0 } : Room)) (fun a U => a = #[(.ref a1), (.int (0 : Int32)), (.ref a3), (.int (0 : Int32)), (.int (1 : Int32))] ∧ Z.Warmed39 U.vm ∧ U.heap = h0) (fun _ _ _ _ _ => True) (fun _ U o U' => ∃ v L, o = .returned v ∧ Qcmp1 Z a1 a3 kc kb x1 h0 n0 v U'.heap L ∧ FrameEnd U o U' L ({ frames := 0, cells := 0, slots := 0, locals := 0 } : Room).cells ({ frames := 0, cells := 0, slots := 0, locals := 0 } : Room).slots) := by
  refine MetFree.of_bodySF (plainFor_of_name own_pn_java_lang_StringUTF16) hisR ?_
  intro p e s m args below meth c s₁ Bd hml0 hP hK
  obtain ⟨rfl, hZ, hh⟩ := hP
  have hx := Bd.exec
  have hby := Bd.bytes
  have hlk := Bd.notSynchronized
  have hml : c.maxLocals = 7 := hml0
  have hown : s.vm.findClass "java/lang/StringUTF16" = some m.cls := findClass_of_methodNamed Bd.named
  have hnm := (name_of_methodNamed Bd.named Bd.method).1
  have X0 : Stand p l e ({ frames := 0, cells := 0, slots := 0, locals := 0 } : Room) s m #[(.ref a1), (.int (0 : Int32)), (.ref a3), (.int (0 : Int32)), (.int (1 : Int32))] below meth c s₁ [] 0 0 := Stand.of_body Bd
  have e0 : s₁.heap = h0 := by rw [← hh, Bd.state]; rfl
  have N0 := Fr.nil n0
  have K0 : Keep h0 h0 [a3] := Keep.refl _ _
  show Go p e below (KQ s below (Qcmp1 Z a1 a3 kc kb x1 h0 n0) ({ frames := 0, cells := 0, slots := 0, locals := 0 } : Room).cells ({ frames := 0, cells := 0, slots := 0, locals := 0 } : Room).slots) _
  refine Go.body (T := s₁) (σ := s₁) (g' := (mkF m 0 #[.val (.ref a1), .val (.int (0 : Int32)), .val (.ref a3), .val (.int (0 : Int32)), .val (.int (1 : Int32)), .unset, .unset] [])) (ef_cmp1 m a1 (0 : Int32) a3 (0 : Int32) (1 : Int32)) ?_
  refine g_iconst X0 hx (hb hby d8_0) 1 rfl (0 : Int32) rfl ?_
  refine g_istore X0 hx (hb hby d8_1) 3 rfl #[.val (.ref a1), .val (.int (0 : Int32)), .val (.ref a3), .val (.int (0 : Int32)), .val (.int (1 : Int32)), .val (.int (0 : Int32)), .unset] rfl ?_
  refine g_iload X0 hx (hb hby d8_3) 5 rfl (v := (0 : Int32)) rfl ?_
  refine g_iload X0 hx (hb hby d8_5) 7 rfl (v := (1 : Int32)) rfl ?_
  refine g_icmp_ge X0 hx (hb hby d8_7) 44 10 (by decide) (by decide) rfl (fun hc7 => False.elim (absurd (by decide) hc7)) (fun hc7 => ?_)
  refine g_aloadN X0 hx (hb hby d8_10) 11 rfl (v := (.ref a1)) rfl rfl ?_
  refine g_iloadN X0 hx (hb hby d8_11) 12 rfl (v := (0 : Int32)) rfl ?_
  refine g_caload X0 hx (hb hby d8_12) 13 rfl hZ e0 A_a1 (show ¬ (0 : Int32) < 0 ∧ (0 : Int32) < (1 : Int32) from by decide) (.int x1) rfl ?_
  refine g_istore X0 hx (hb hby d8_13) 15 rfl #[.val (.ref a1), .val (.int (0 : Int32)), .val (.ref a3), .val (.int (0 : Int32)), .val (.int (1 : Int32)), .val (.int (0 : Int32)), .val (.int x1)] rfl ?_
  refine g_iload X0 hx (hb hby d8_15) 17 rfl (v := x1) rfl ?_
  refine g_sipush X0 hx (hb hby d8_17) 20 rfl (255 : Int32) rfl ?_
  refine g_icmp_le X0 hx (hb hby d8_20) 26 23 (by decide) (by decide) rfl (fun hc20 => ?_) (fun hc20 => False.elim (hx1 hc20))
  refine g_aloadN X0 hx (hb hby d8_26) 27 rfl (v := (.ref a3)) rfl rfl ?_
  refine g_iloadN X0 hx (hb hby d8_27) 28 rfl (v := (0 : Int32)) rfl ?_
  refine g_iload X0 hx (hb hby d8_28) 30 rfl (v := x1) rfl ?_
  refine g_i2b X0 hx (hb hby d8_30) 31 rfl x1.toInt8.toInt32 rfl ?_
  obtain ⟨T18, h18, X18, e18, W18, B18, st18⟩ := g_bastore X0 hx (hb hby d8_31) hZ e0 A_a3 (show ¬ (0 : Int32) < 0 ∧ (0 : Int32) < (1 : Int32) from by decide) (i := 0) (by decide) (by simp)  (L := #[.val (.ref a1), .val (.int (0 : Int32)), .val (.ref a3), .val (.int (0 : Int32)), .val (.int (1 : Int32)), .val (.int (0 : Int32)), .val (.int x1)]) (S := [])
  refine Go.st st18 ?_
  have Av_a3_18 : Arv Z h18 a3 kb .byte (1 : Int32) ([(.int x1.toInt8.toInt32)]) (.int (0 : Int32)) := (by have q := B18; rw [own_i2b] at q; exact q)
  have K18 : Keep h0 h18 [a3] := Keep.wr K0 W18 (Or.inl (List.mem_of_getElem? (i := 0) rfl))
  have N18 := Fr.snoc X18 N0 g_a3
  have Zs18 : n0 ≤ h18.size := by rw [W18.size]; exact Z0
  show Go p e below _ (T18.setTop (mkF m 32 #[.val (.ref a1), .val (.int (0 : Int32)), .val (.ref a3), .val (.int (0 : Int32)), .val (.int (1 : Int32)), .val (.int (0 : Int32)), .val (.int x1)] []))
  refine g_iinc X18 hx (hb hby d8_32) 35 rfl (x := (0 : Int32)) rfl ((0 : Int32) + (1 : Int32)) rfl #[.val (.ref a1), .val (.int ((0 : Int32) + (1 : Int32))), .val (.ref a3), .val (.int (0 : Int32)), .val (.int (1 : Int32)), .val (.int (0 : Int32)), .val (.int x1)] rfl ?_
  refine g_iinc X18 hx (hb hby d8_35) 38 rfl (x := (0 : Int32)) rfl ((0 : Int32) + (1 : Int32)) rfl #[.val (.ref a1), .val (.int ((0 : Int32) + (1 : Int32))), .val (.ref a3), .val (.int ((0 : Int32) + (1 : Int32))), .val (.int (1 : Int32)), .val (.int (0 : Int32)), .val (.int x1)] rfl ?_
  refine g_iinc X18 hx (hb hby d8_38) 41 rfl (x := (0 : Int32)) rfl ((0 : Int32) + (1 : Int32)) rfl #[.val (.ref a1), .val (.int ((0 : Int32) + (1 : Int32))), .val (.ref a3), .val (.int ((0 : Int32) + (1 : Int32))), .val (.int (1 : Int32)), .val (.int ((0 : Int32) + (1 : Int32))), .val (.int x1)] rfl ?_
  refine g_goto X18 hx (hb hby d8_41) 3 (by decide) (by decide) ?_
  refine g_iload X18 hx (hb hby d8_3) 5 rfl (v := ((0 : Int32) + (1 : Int32))) rfl ?_
  refine g_iload X18 hx (hb hby d8_5) 7 rfl (v := (1 : Int32)) rfl ?_
  refine g_icmp_ge X18 hx (hb hby d8_7) 44 10 (by decide) (by decide) rfl (fun hc7 => ?_) (fun hc7 => False.elim (absurd hc7 (by decide)))
  refine g_iload X18 hx (hb hby d8_44) 46 rfl (v := (1 : Int32)) rfl ?_
  refine Go.retI X18 hx hlk Bd.returns (hb hby d8_46) (by decide) (by decide) ?_
  show Qcmp1 Z a1 a3 kc kb x1 h0 n0 _ T18.heap _
  rw [e18]
  exact ⟨rfl, N18, K18, Av_a3_18⟩
theorem ef_cmpa1 (m : MethodId) (x0 : Addr) (x1 : Int32) (x2 : Int32) : entryFrame m #[(.ref x0), (.int x1), (.int x2)] 6 = mkF m 0 #[.val (.ref x0), .val (.int x1), .val (.int x2), .unset, .unset, .unset] [] := by first | (simp [entryFrame, mkF, argsToLocals, Value.category]; done) | rfl
theorem d7_0 : decode jdk_52_method_16_code 0 = .ok (.iload_n 2, 1) := by decide +kernel
theorem d7_1 : decode jdk_52_method_16_code 1 = .ok (.newarray .byte, 2) := by decide +kernel
theorem d7_3 : decode jdk_52_method_16_code 3 = .ok (.astore_n 3, 1) := by decide +kernel
theorem d7_4 : decode jdk_52_method_16_code 4 = .ok (.aload_n 0, 1) := by decide +kernel
theorem d7_5 : decode jdk_52_method_16_code 5 = .ok (.iload_n 1, 1) := by decide +kernel
theorem d7_6 : decode jdk_52_method_16_code 6 = .ok (.aload_n 3, 1) := by decide +kernel
theorem d7_7 : decode jdk_52_method_16_code 7 = .ok (.iconst 0, 1) := by decide +kernel
theorem d7_8 : decode jdk_52_method_16_code 8 = .ok (.iload_n 2, 1) := by decide +kernel
theorem own_pd1 : parseMethodDescriptor "([CI[BII)I" = some ⟨[(.array .char), .int, (.array .byte), .int, .int], some .int⟩ := by decide +kernel
theorem d7_9 : decode jdk_52_method_16_code 9 = .ok (.invokestatic 115, 3) := by decide +kernel
theorem d7_12 : decode jdk_52_method_16_code 12 = .ok (.istore 4, 2) := by decide +kernel
theorem d7_14 : decode jdk_52_method_16_code 14 = .ok (.iload 4, 2) := by decide +kernel
theorem d7_16 : decode jdk_52_method_16_code 16 = .ok (.iload_n 2, 1) := by decide +kernel
theorem d7_17 : decode jdk_52_method_16_code 17 = .ok (.if_icmp .eq 40, 3) := by decide +kernel
theorem d7_57 : decode jdk_52_method_16_code 57 = .ok (.aload_n 3, 1) := by decide +kernel
theorem d7_58 : decode jdk_52_method_16_code 58 = .ok (.areturn, 1) := by decide +kernel
def Qcmpa1 (Z : State) (a1 : Addr) (kc : ClassId) (x1 : Int32) (h0 : Heap) (n0 : Nat) (v : Option Value) (h : Heap) (L : List Loc) : Prop := ∃ b : Addr, ∃ kb : ClassId, v = some (.ref b) ∧ Fr n0 L ∧ Keep h0 h [] ∧ h0.size ≤ b ∧ (Arv Z h b kb .byte (1 : Int32) ([(.int x1.toInt8.toInt32)]) (.int (0 : Int32)))
set_option maxRecDepth 65536 in
set_option maxHeartbeats 40000000 in
theorem rmcmpa1 (l : Launch) (Z : State) (a0 : Array Value) (hw : ∀ d ∈ tables_1, d.before a0 Z = true) (ws : List Jvm.Cond) (a1 : Addr) (kc : ClassId) (x1 : Int32) (h0 : Heap) (n0 : Nat) (Z0 : n0 ≤ h0.size) (A_a1 : Arv Z h0 a1 kc .char (1 : Int32) ([(.int x1)]) (.int (0 : Int32))) (hx1 : ¬ (255 : Int32) < x1) :
    MetFree l (⟨"java/lang/StringUTF16", "compress", "([CII)[B"⟩ : MethodName) (head1 (Jvm.Cond.code (⟨"java/lang/StringUTF16", "compress", "([CII)[B"⟩ : MethodName) jdk_52_method_16_code 6 (some (.array .byte)) :: ws) ({ frames := 1, cells := 1, slots := 1, locals := 18 } : Room)) (fun a U => a = #[(.ref a1), (.int (0 : Int32)), (.int (1 : Int32))] ∧ Z.Warmed39 U.vm ∧ U.heap = h0) (fun _ _ _ _ _ => True) (fun _ U o U' => ∃ v L, o = .returned v ∧ Qcmpa1 Z a1 kc x1 h0 n0 v U'.heap L ∧ FrameEnd U o U' L ({ frames := 1, cells := 1, slots := 1, locals := 18 } : Room).cells ({ frames := 1, cells := 1, slots := 1, locals := 18 } : Room).slots) := by
  refine MetFree.of_bodySF (plainFor_of_name own_pn_java_lang_StringUTF16) hisR ?_
  intro p e s m args below meth c s₁ Bd hml0 hP hK
  obtain ⟨rfl, hZ, hh⟩ := hP
  have hx := Bd.exec
  have hby := Bd.bytes
  have hlk := Bd.notSynchronized
  have hml : c.maxLocals = 6 := hml0
  have hown : s.vm.findClass "java/lang/StringUTF16" = some m.cls := findClass_of_methodNamed Bd.named
  have hnm := (name_of_methodNamed Bd.named Bd.method).1
  have X0 : Stand p l e ({ frames := 1, cells := 1, slots := 1, locals := 18 } : Room) s m #[(.ref a1), (.int (0 : Int32)), (.int (1 : Int32))] below meth c s₁ [] 0 0 := Stand.of_body Bd
  have e0 : s₁.heap = h0 := by rw [← hh, Bd.state]; rfl
  have N0 := Fr.nil n0
  have K0 : Keep h0 h0 [] := Keep.refl _ _
  show Go p e below (KQ s below (Qcmpa1 Z a1 kc x1 h0 n0) ({ frames := 1, cells := 1, slots := 1, locals := 18 } : Room).cells ({ frames := 1, cells := 1, slots := 1, locals := 18 } : Room).slots) _
  refine Go.body (T := s₁) (σ := s₁) (g' := (mkF m 0 #[.val (.ref a1), .val (.int (0 : Int32)), .val (.int (1 : Int32)), .unset, .unset, .unset] [])) (ef_cmpa1 m a1 (0 : Int32) (1 : Int32)) ?_
  refine g_iloadN X0 hx (hb hby d7_0) 1 rfl (v := (1 : Int32)) rfl ?_
  obtain ⟨T20, h20, cA20, X20, e20, E20, A20, st20⟩ := newP X0 hx hZ (aty := .byte) (hw _ (List.mem_of_getElem? (i := 19) rfl)) e0 (g := (mkF m 1 #[.val (.ref a1), .val (.int (0 : Int32)), .val (.int (1 : Int32)), .unset, .unset, .unset] [(.int (1 : Int32))])) rfl (hb hby d7_1) rfl (by decide) (cap := 1) (by decide) (by decide) (by decide) (by decide)
  refine Go.st st20 ?_
  obtain ⟨ob, q20⟩ : ∃ z, z = h0.size := ⟨_, rfl⟩
  rw [← q20] at A20 ⊢
  have g_ob : n0 ≤ ob := Nat.le_trans Z0 (Nat.le_of_eq q20.symm)
  have mh_ob : h0.size ≤ ob := Nat.le_trans K0.1 (Nat.le_of_eq q20.symm)
  have K20 : Keep h0 h20 [] := Keep.ext K0 E20
  have Zs20 : n0 ≤ h20.size := Nat.le_trans Z0 E20.1
  have Av_ob : Arv Z h20 ob cA20 .byte (1 : Int32) ([(.int (0 : Int32))]) (.int (0 : Int32)) := Arv.pad (Arv.new A20 (by decide)) (pad_rep [] (.int (0 : Int32)) 1)
  show Go p e below _ (T20.setTop (mkF m 3 #[.val (.ref a1), .val (.int (0 : Int32)), .val (.int (1 : Int32)), .unset, .unset, .unset] [(.ref ob)]))
  refine g_astoreN X20 hx (hb hby d7_3) 4 rfl rfl #[.val (.ref a1), .val (.int (0 : Int32)), .val (.int (1 : Int32)), .val (.ref ob), .unset, .unset] rfl ?_
  refine g_aloadN X20 hx (hb hby d7_4) 5 rfl (v := (.ref a1)) rfl rfl ?_
  refine g_iloadN X20 hx (hb hby d7_5) 6 rfl (v := (0 : Int32)) rfl ?_
  refine g_aloadN X20 hx (hb hby d7_6) 7 rfl (v := (.ref ob)) rfl rfl ?_
  refine g_iconst X20 hx (hb hby d7_7) 8 rfl (0 : Int32) rfl ?_
  refine g_iloadN X20 hx (hb hby d7_8) 9 rfl (v := (1 : Int32)) rfl ?_
  obtain ⟨_, _, ⟨T22, L22, k22, n22⟩, -, X22, ⟨Lc22, hQ22, l22, y22, z22⟩, st22⟩ := Jvm.LawKit.callS X20 hx (y := (⟨"java/lang/StringUTF16", "compress", "([CI[BII)I"⟩ : MethodName)) hown (mvT hZ (hw _ (List.mem_of_getElem? (i := 37) rfl))) (mvT hZ (hw _ (List.mem_of_getElem? (i := 38) rfl))) (mvT hZ (hw _ (List.mem_of_getElem? (i := 35) rfl))) (mvT hZ (hw _ (List.mem_of_getElem? (i := 39) rfl))) (by decide) (backOf (W := 0) (rmcmp1 l Z a0 hw [] a1 ob kc cA20 x1 h20 n0 Zs20 (Arv.keep A_a1 K20 nin0) Av_ob g_ob (Nat.ne_of_lt (Nat.lt_of_lt_of_le A_a1.lt mh_ob)) hx1) hZ (hw _ (List.mem_of_getElem? (i := 39) rfl)) (hw _ (List.mem_of_getElem? (i := 35) rfl)) (by decide) (by decide)) (g := (mkF m 9 #[.val (.ref a1), .val (.int (0 : Int32)), .val (.int (1 : Int32)), .val (.ref ob), .unset, .unset] [(.int (1 : Int32)), (.int (0 : Int32)), (.ref ob), (.int (0 : Int32)), (.ref a1)])) rfl (by rw [hml]; rfl) (argsL := [(.ref a1), (.int (0 : Int32)), (.ref ob), (.int (0 : Int32)), (.int (1 : Int32))]) (rest := []) (lenOf own_pd1 rfl) rfl (by show 2 * 0 + _ ≤ _; exact Nat.le_of_eq rfl) (hb hby d7_9) (fun _ _ => ⟨rfl, e20, (by decide : 1 + 0 ≤ _), (by decide : 1 + 0 ≤ _)⟩)
  dsimp only [Pt.U, Pt.locs, Pt.cells, Pt.slots] at X22 l22 y22 z22 st22 hQ22
  subst l22 y22 z22
  obtain ⟨rfl, Nq22, Kq22, f22_0⟩ := hQ22
  refine Go.st st22 ?_
  have N22 := Fr.app N0 Nq22
  have K22 : Keep h0 T22.heap [] := Keep.trans K20 Kq22 (allS (Or.inr mh_ob) all0)
  have Zs22 : n0 ≤ T22.heap.size := Nat.le_trans Zs20 Kq22.1
  show Go p e below _ (T22.setTop (mkF m 12 #[.val (.ref a1), .val (.int (0 : Int32)), .val (.int (1 : Int32)), .val (.ref ob), .unset, .unset] [(.int (1 : Int32))]))
  refine g_istore X22 hx (hb hby d7_12) 14 rfl #[.val (.ref a1), .val (.int (0 : Int32)), .val (.int (1 : Int32)), .val (.ref ob), .val (.int (1 : Int32)), .unset] rfl ?_
  refine g_iload X22 hx (hb hby d7_14) 16 rfl (v := (1 : Int32)) rfl ?_
  refine g_iloadN X22 hx (hb hby d7_16) 17 rfl (v := (1 : Int32)) rfl ?_
  refine g_icmp_eq X22 hx (hb hby d7_17) 57 20 (by decide) (by decide) rfl (fun hc17 => ?_) (fun hc17 => False.elim (hc17 rfl))
  refine g_aloadN X22 hx (hb hby d7_57) 58 rfl (v := (.ref ob)) rfl rfl ?_
  refine Go.retA X22 hx hlk Bd.returns rfl rfl (hb hby d7_58) (by decide) (by decide) ?_
  show Qcmpa1 Z a1 kc x1 h0 n0 _ T22.heap _
  exact ⟨ob, cA20, rfl, N22, K22, mh_ob, f22_0⟩
theorem ef_cfl1 (m : MethodId) (x0 : Addr) (x1 : Int32) : entryFrame m #[(.ref x0), (.int x1)] 2 = mkF m 0 #[.val (.ref x0), .val (.int x1)] [] := by first | (simp [entryFrame, mkF, argsToLocals, Value.category]; done) | rfl
theorem d9_0 : decode jdk_52_method_15_code 0 = .ok (.iload_n 1, 1) := by decide +kernel
theorem d9_1 : decode jdk_52_method_15_code 1 = .ok (.aload_n 0, 1) := by decide +kernel
theorem d9_2 : decode jdk_52_method_15_code 2 = .ok (.arraylength, 1) := by decide +kernel
theorem d9_3 : decode jdk_52_method_15_code 3 = .ok (.isub, 1) := by decide +kernel
theorem d9_4 : decode jdk_52_method_15_code 4 = .ok (.bipush 31, 2) := by decide +kernel
theorem d9_6 : decode jdk_52_method_15_code 6 = .ok (.iushr, 1) := by decide +kernel
theorem d9_7 : decode jdk_52_method_15_code 7 = .ok (.i2b, 1) := by decide +kernel
theorem d9_8 : decode jdk_52_method_15_code 8 = .ok (.ireturn, 1) := by decide +kernel
def Qcfl1 (Z : State) (a1 : Addr) (kb : ClassId) (vs : List Value) (h0 : Heap) (n0 : Nat) (v : Option Value) (h : Heap) (L : List Loc) : Prop := v = some (.int (0 : Int32)) ∧ Fr n0 L ∧ h = h0
set_option maxRecDepth 65536 in
set_option maxHeartbeats 40000000 in
theorem rmcfl1 (l : Launch) (Z : State) (a0 : Array Value) (hw : ∀ d ∈ tables_1, d.before a0 Z = true) (ws : List Jvm.Cond) (a1 : Addr) (kb : ClassId) (vs : List Value) (h0 : Heap) (n0 : Nat) (Z0 : n0 ≤ h0.size) (A_a1 : Arv Z h0 a1 kb .byte (1 : Int32) vs (.int (0 : Int32))) :
    MetFree l (⟨"java/lang/StringUTF16", "coderFromArrayLen", "([BI)B"⟩ : MethodName) (head1 (Jvm.Cond.code (⟨"java/lang/StringUTF16", "coderFromArrayLen", "([BI)B"⟩ : MethodName) jdk_52_method_15_code 2 (some .byte) :: ws) ({ frames := 0, cells := 0, slots := 0, locals := 0 } : Room)) (fun a U => a = #[(.ref a1), (.int (1 : Int32))] ∧ Z.Warmed39 U.vm ∧ U.heap = h0) (fun _ _ _ _ _ => True) (fun _ U o U' => ∃ v L, o = .returned v ∧ Qcfl1 Z a1 kb vs h0 n0 v U'.heap L ∧ FrameEnd U o U' L ({ frames := 0, cells := 0, slots := 0, locals := 0 } : Room).cells ({ frames := 0, cells := 0, slots := 0, locals := 0 } : Room).slots) := by
  refine MetFree.of_bodySF (plainFor_of_name own_pn_java_lang_StringUTF16) hisR ?_
  intro p e s m args below meth c s₁ Bd hml0 hP hK
  obtain ⟨rfl, hZ, hh⟩ := hP
  have hx := Bd.exec
  have hby := Bd.bytes
  have hlk := Bd.notSynchronized
  have hml : c.maxLocals = 2 := hml0
  have hown : s.vm.findClass "java/lang/StringUTF16" = some m.cls := findClass_of_methodNamed Bd.named
  have hnm := (name_of_methodNamed Bd.named Bd.method).1
  have X0 : Stand p l e ({ frames := 0, cells := 0, slots := 0, locals := 0 } : Room) s m #[(.ref a1), (.int (1 : Int32))] below meth c s₁ [] 0 0 := Stand.of_body Bd
  have e0 : s₁.heap = h0 := by rw [← hh, Bd.state]; rfl
  have N0 := Fr.nil n0
  show Go p e below (KQ s below (Qcfl1 Z a1 kb vs h0 n0) ({ frames := 0, cells := 0, slots := 0, locals := 0 } : Room).cells ({ frames := 0, cells := 0, slots := 0, locals := 0 } : Room).slots) _
  refine Go.body (T := s₁) (σ := s₁) (g' := (mkF m 0 #[.val (.ref a1), .val (.int (1 : Int32))] [])) (ef_cfl1 m a1 (1 : Int32)) ?_
  refine g_iloadN X0 hx (hb hby d9_0) 1 rfl (v := (1 : Int32)) rfl ?_
  refine g_aloadN X0 hx (hb hby d9_1) 2 rfl (v := (.ref a1)) rfl rfl ?_
  refine g_alen X0 hx (hb hby d9_2) 3 rfl hZ e0 A_a1 ?_
  refine g_isub X0 hx (hb hby d9_3) 4 rfl ((1 : Int32) - (1 : Int32)) rfl ?_
  refine g_bipush X0 hx (hb hby d9_4) 6 rfl (31 : Int32) rfl ?_
  refine g_iushr X0 hx (hb hby d9_6) 7 rfl (XT.ushr ((1 : Int32) - (1 : Int32)) (31 : Int32)) rfl ?_
  refine g_i2b X0 hx (hb hby d9_7) 8 rfl (XT.ushr ((1 : Int32) - (1 : Int32)) (31 : Int32)).toInt8.toInt32 rfl ?_
  refine Go.retN X0 hx hlk (t := .byte) Bd.returns (by simp) (hb hby d9_8) (by decide) (by decide) ?_
  show Qcfl1 Z a1 kb vs h0 n0 _ s₁.heap _
  rw [e0]
  exact ⟨rfl, N0, rfl⟩
theorem ef_sV1 (m : MethodId) (x0 : Addr) (x1 : Addr) (x2 : Int32) (x3 : Int32) : entryFrame m #[(.ref x0), (.ref x1), (.int x2), (.int x3), .null] 6 = mkF m 0 #[.val (.ref x0), .val (.ref x1), .val (.int x2), .val (.int x3), .val .null, .unset] [] := by first | (simp [entryFrame, mkF, argsToLocals, Value.category]; done) | rfl
theorem d3_27 : decode jdk_42_method_149_code 27 = .ok (.getstatic 38, 3) := by decide +kernel
theorem d3_30 : decode jdk_42_method_149_code 30 = .ok (.ifCond .eq 28, 3) := by decide +kernel
theorem d3_33 : decode jdk_42_method_149_code 33 = .ok (.aload_n 1, 1) := by decide +kernel
theorem d3_34 : decode jdk_42_method_149_code 34 = .ok (.iload_n 2, 1) := by decide +kernel
theorem d3_35 : decode jdk_42_method_149_code 35 = .ok (.iload_n 3, 1) := by decide +kernel
theorem own_pd2 : parseMethodDescriptor "([CII)[B" = some ⟨[(.array .char), .int, .int], some (.array .byte)⟩ := by decide +kernel
theorem d3_36 : decode jdk_42_method_149_code 36 = .ok (.invokestatic 177, 3) := by decide +kernel
theorem d3_39 : decode jdk_42_method_149_code 39 = .ok (.astore 5, 2) := by decide +kernel
theorem d3_41 : decode jdk_42_method_149_code 41 = .ok (.aload_n 0, 1) := by decide +kernel
theorem d3_42 : decode jdk_42_method_149_code 42 = .ok (.aload 5, 2) := by decide +kernel
theorem d3_44 : decode jdk_42_method_149_code 44 = .ok (.iload_n 3, 1) := by decide +kernel
theorem own_pd3 : parseMethodDescriptor "([BI)B" = some ⟨[(.array .byte), .int], some .byte⟩ := by decide +kernel
theorem d3_45 : decode jdk_42_method_149_code 45 = .ok (.invokestatic 47, 3) := by decide +kernel
theorem d3_48 : decode jdk_42_method_149_code 48 = .ok (.putfield 15, 3) := by decide +kernel
theorem d3_51 : decode jdk_42_method_149_code 51 = .ok (.aload_n 0, 1) := by decide +kernel
theorem d3_52 : decode jdk_42_method_149_code 52 = .ok (.aload 5, 2) := by decide +kernel
theorem d3_54 : decode jdk_42_method_149_code 54 = .ok (.putfield 9, 3) := by decide +kernel
theorem d3_57 : decode jdk_42_method_149_code 57 = .ok (.return_, 1) := by decide +kernel
def QsV1 (Z : State) (a1 : Addr) (a2 : Addr) (cs : Int32) (kc : ClassId) (x1 : Int32) (h0 : Heap) (n0 : Nat) (v : Option Value) (h : Heap) (L : List Loc) : Prop := ∃ vb : Addr, ∃ kb : ClassId, v = none ∧ Fr n0 L ∧ Keep h0 h [a1] ∧ h0.size ≤ vb ∧ (Exa Z h a1 "java/lang/String") ∧ (Fld Z h a1 "java/lang/String" "value" "[B" (.ref vb)) ∧ (Fld Z h a1 "java/lang/String" "coder" "B" (.int (0 : Int32))) ∧ (Arv Z h vb kb .byte (1 : Int32) ([(.int x1.toInt8.toInt32)]) (.int (0 : Int32)))
set_option maxRecDepth 65536 in
set_option maxHeartbeats 40000000 in
theorem rmsV1 (l : Launch) (Z : State) (a0 : Array Value) (hw : ∀ d ∈ tables_1, d.before a0 Z = true) (ws : List Jvm.Cond) (a1 : Addr) (a2 : Addr) (cs : Int32) (kc : ClassId) (x1 : Int32) (h0 : Heap) (n0 : Nat) (Z0 : n0 ≤ h0.size) (S_COMPACT_STRINGS : Sta Z h0 "java/lang/String" "COMPACT_STRINGS" "Z" (.int cs)) (E_a1 : Exa Z h0 a1 "java/lang/String") (g_a1 : n0 ≤ a1) (F_value_a1 : Fld Z h0 a1 "java/lang/String" "value" "[B" .null) (F_coder_a1 : Fld Z h0 a1 "java/lang/String" "coder" "B" (.int (0 : Int32))) (A_a2 : Arv Z h0 a2 kc .char (1 : Int32) ([(.int x1)]) (.int (0 : Int32))) (ne_a1_a2 : a1 ≠ a2) (hcs : ¬ cs = 0) (hx1 : ¬ (255 : Int32) < x1) :
    MetFree l (⟨"java/lang/String", "<init>", "([CIILjava/lang/Void;)V"⟩ : MethodName) (head1 (Jvm.Cond.code (⟨"java/lang/String", "<init>", "([CIILjava/lang/Void;)V"⟩ : MethodName) jdk_42_method_149_code 6 none :: ws) ({ frames := 2, cells := 1, slots := 1, locals := 35 } : Room)) (fun a U => a = #[(.ref a1), (.ref a2), (.int (0 : Int32)), (.int (1 : Int32)), .null] ∧ Z.Warmed39 U.vm ∧ U.heap = h0) (fun _ _ _ _ _ => True) (fun _ U o U' => ∃ v L, o = .returned v ∧ QsV1 Z a1 a2 cs kc x1 h0 n0 v U'.heap L ∧ FrameEnd U o U' L ({ frames := 2, cells := 1, slots := 1, locals := 35 } : Room).cells ({ frames := 2, cells := 1, slots := 1, locals := 35 } : Room).slots) := by
  refine MetFree.of_bodySF (plainFor_of_name own_pn_java_lang_String) hisR ?_
  intro p e s m args below meth c s₁ Bd hml0 hP hK
  obtain ⟨rfl, hZ, hh⟩ := hP
  have hx := Bd.exec
  have hby := Bd.bytes
  have hlk := Bd.notSynchronized
  have hml : c.maxLocals = 6 := hml0
  have hown : s.vm.findClass "java/lang/String" = some m.cls := findClass_of_methodNamed Bd.named
  have hnm := (name_of_methodNamed Bd.named Bd.method).1
  have X0 : Stand p l e ({ frames := 2, cells := 1, slots := 1, locals := 35 } : Room) s m #[(.ref a1), (.ref a2), (.int (0 : Int32)), (.int (1 : Int32)), .null] below meth c s₁ [] 0 0 := Stand.of_body Bd
  have e0 : s₁.heap = h0 := by rw [← hh, Bd.state]; rfl
  have N0 := Fr.nil n0
  have K0 : Keep h0 h0 [a1] := Keep.refl _ _
  show Go p e below (KQ s below (QsV1 Z a1 a2 cs kc x1 h0 n0) ({ frames := 2, cells := 1, slots := 1, locals := 35 } : Room).cells ({ frames := 2, cells := 1, slots := 1, locals := 35 } : Room).slots) _
  refine Go.body (T := s₁) (σ := s₁) (g' := (mkF m 0 #[.val (.ref a1), .val (.ref a2), .val (.int (0 : Int32)), .val (.int (1 : Int32)), .val .null, .unset] [])) (ef_sV1 m a1 a2 (0 : Int32) (1 : Int32)) ?_
  refine g_aloadN X0 hx (hb hby d3_0) 1 rfl (v := (.ref a1)) rfl rfl ?_
  obtain ⟨T25, X25, e25, st25⟩ := initO X0 hx hZ hown (hw _ (List.mem_of_getElem? (i := 15) rfl)) (hw _ (List.mem_of_getElem? (i := 16) rfl)) (hw _ (List.mem_of_getElem? (i := 17) rfl)) e0 (g := (mkF m 1 #[.val (.ref a1), .val (.ref a2), .val (.int (0 : Int32)), .val (.int (1 : Int32)), .val .null, .unset] [(.ref a1)])) rfl (by rw [hml]; rfl) rfl (hb hby d3_1) (by decide) (W := 0) (by show 2 * 0 + _ ≤ _; exact Nat.le_of_eq rfl) (by decide)
  refine Go.st st25 ?_
  show Go p e below _ (T25.setTop (mkF m 4 #[.val (.ref a1), .val (.ref a2), .val (.int (0 : Int32)), .val (.int (1 : Int32)), .val .null, .unset] []))
  refine g_iloadN X25 hx (hb hby d3_4) 5 rfl (v := (1 : Int32)) rfl ?_
  refine g_if_ne X25 hx (hb hby d3_5) 27 8 (by decide) (by decide) rfl (fun hc5 => ?_) (fun hc5 => False.elim (absurd hc5 (by decide)))
  obtain ⟨T26, X26, e26, st26⟩ := getS2 X25 hx hZ hown (host := "") (Or.inl (hw _ (List.mem_of_getElem? (i := 32) rfl))) Via.refl e25 S_COMPACT_STRINGS (g := (mkF m 27 #[.val (.ref a1), .val (.ref a2), .val (.int (0 : Int32)), .val (.int (1 : Int32)), .val .null, .unset] [])) rfl (hb hby d3_27)
  refine Go.st st26 ?_
  show Go p e below _ (T26.setTop (mkF m 30 #[.val (.ref a1), .val (.ref a2), .val (.int (0 : Int32)), .val (.int (1 : Int32)), .val .null, .unset] [(.int cs)]))
  refine g_if_eq X26 hx (hb hby d3_30) 58 33 (by decide) (by decide) rfl (fun hc30 => False.elim (hcs hc30)) (fun hc30 => ?_)
  refine g_aloadN X26 hx (hb hby d3_33) 34 rfl (v := (.ref a2)) rfl rfl ?_
  refine g_iloadN X26 hx (hb hby d3_34) 35 rfl (v := (0 : Int32)) rfl ?_
  refine g_iloadN X26 hx (hb hby d3_35) 36 rfl (v := (1 : Int32)) rfl ?_
  obtain ⟨_, _, ⟨T27, L27, k27, n27⟩, -, X27, ⟨Lc27, hQ27, l27, y27, z27⟩, st27⟩ := Jvm.LawKit.callS X26 hx (y := (⟨"java/lang/StringUTF16", "compress", "([CII)[B"⟩ : MethodName)) hown (mvT hZ (hw _ (List.mem_of_getElem? (i := 33) rfl))) (mvT hZ (hw _ (List.mem_of_getElem? (i := 34) rfl))) (mvT hZ (hw _ (List.mem_of_getElem? (i := 35) rfl))) (mvT hZ (hw _ (List.mem_of_getElem? (i := 36) rfl))) (by decide) (backOf (W := 0) (rmcmpa1 l Z a0 hw [] a2 kc x1 h0 n0 Z0 A_a2 hx1) hZ (hw _ (List.mem_of_getElem? (i := 36) rfl)) (hw _ (List.mem_of_getElem? (i := 35) rfl)) (by decide) (by decide)) (g := (mkF m 36 #[.val (.ref a1), .val (.ref a2), .val (.int (0 : Int32)), .val (.int (1 : Int32)), .val .null, .unset] [(.int (1 : Int32)), (.int (0 : Int32)), (.ref a2)])) rfl (by rw [hml]; rfl) (argsL := [(.ref a2), (.int (0 : Int32)), (.int (1 : Int32))]) (rest := []) (lenOf own_pd2 rfl) rfl (by show 2 * 0 + _ ≤ _; exact Nat.le_of_eq rfl) (hb hby d3_36) (fun _ _ => ⟨rfl, e26, (by decide : 0 + 1 ≤ _), (by decide : 0 + 1 ≤ _)⟩)
  dsimp only [Pt.U, Pt.locs, Pt.cells, Pt.slots] at X27 l27 y27 z27 st27 hQ27
  subst l27 y27 z27
  obtain ⟨ovb, okb, rfl, Nq27, Kq27, f27_0, f27_1⟩ := hQ27
  refine Go.st st27 ?_
  have N27 := Fr.app N0 Nq27
  have S_COMPACT_STRINGS_28 : Sta Z T27.heap "java/lang/String" "COMPACT_STRINGS" "Z" (.int cs) := own_Sta_keep S_COMPACT_STRINGS Kq27 all0
  have E_a1_28 : Exa Z T27.heap a1 "java/lang/String" := Exa.keep E_a1 Kq27
  have F_value_a1_28 : Fld Z T27.heap a1 "java/lang/String" "value" "[B" .null := Fld.keep F_value_a1 Kq27 nin0
  have F_coder_a1_28 : Fld Z T27.heap a1 "java/lang/String" "coder" "B" (.int (0 : Int32)) := Fld.keep F_coder_a1 Kq27 nin0
  have ne_a1_ovb : a1 ≠ ovb := Nat.ne_of_lt (Nat.lt_of_lt_of_le E_a1.lt f27_0)
  have g_ovb : n0 ≤ ovb := Nat.le_trans Z0 f27_0
  have mh_ovb : h0.size ≤ ovb := Nat.le_trans K0.1 f27_0
  have K27 : Keep h0 T27.heap [a1] := Keep.trans K0 Kq27 all0
  have Zs27 : n0 ≤ T27.heap.size := Nat.le_trans Z0 Kq27.1
  show Go p e below _ (T27.setTop (mkF m 39 #[.val (.ref a1), .val (.ref a2), .val (.int (0 : Int32)), .val (.int (1 : Int32)), .val .null, .unset] [(.ref ovb)]))
  refine g_astore X27 hx (hb hby d3_39) 41 rfl rfl #[.val (.ref a1), .val (.ref a2), .val (.int (0 : Int32)), .val (.int (1 : Int32)), .val .null, .val (.ref ovb)] rfl ?_
  refine g_aloadN X27 hx (hb hby d3_41) 42 rfl (v := (.ref a1)) rfl rfl ?_
  refine g_aload X27 hx (hb hby d3_42) 44 rfl (v := (.ref ovb)) rfl rfl ?_
  refine g_iloadN X27 hx (hb hby d3_44) 45 rfl (v := (1 : Int32)) rfl ?_
  obtain ⟨_, _, ⟨T29, L29, k29, n29⟩, -, X29, ⟨Lc29, hQ29, l29, y29, z29⟩, st29⟩ := Jvm.LawKit.callS X27 hx (y := (⟨"java/lang/StringUTF16", "coderFromArrayLen", "([BI)B"⟩ : MethodName)) hown (mvT hZ (hw _ (List.mem_of_getElem? (i := 40) rfl))) (mvT hZ (hw _ (List.mem_of_getElem? (i := 41) rfl))) (mvT hZ (hw _ (List.mem_of_getElem? (i := 35) rfl))) (mvT hZ (hw _ (List.mem_of_getElem? (i := 42) rfl))) (by decide) (backOf (W := 1) (rmcfl1 l Z a0 hw [] ovb okb ([(.int x1.toInt8.toInt32)]) T27.heap n0 Zs27 f27_1) hZ (hw _ (List.mem_of_getElem? (i := 42) rfl)) (hw _ (List.mem_of_getElem? (i := 35) rfl)) (by decide) (by decide)) (g := (mkF m 45 #[.val (.ref a1), .val (.ref a2), .val (.int (0 : Int32)), .val (.int (1 : Int32)), .val .null, .val (.ref ovb)] [(.int (1 : Int32)), (.ref ovb), (.ref a1)])) rfl (by rw [hml]; rfl) (argsL := [(.ref ovb), (.int (1 : Int32))]) (rest := [(.ref a1)]) (lenOf own_pd3 rfl) rfl (by show 2 * 0 + _ ≤ _; exact Nat.le_of_eq rfl) (hb hby d3_45) (fun _ _ => ⟨rfl, rfl, (by decide : 1 + 0 ≤ _), (by decide : 1 + 0 ≤ _)⟩)
  dsimp only [Pt.U, Pt.locs, Pt.cells, Pt.slots] at X29 l29 y29 z29 st29 hQ29
  subst l29 y29 z29
  obtain ⟨rfl, Nq29, e29⟩ := hQ29
  refine Go.st st29 ?_
  have N29 := Fr.app N27 Nq29
  show Go p e below _ (T29.setTop (mkF m 48 #[.val (.ref a1), .val (.ref a2), .val (.int (0 : Int32)), .val (.int (1 : Int32)), .val .null, .val (.ref ovb)] [(.int (0 : Int32)), (.ref a1)]))
  obtain ⟨T30, h30, X30, e30, W30, st30⟩ := putF X29 hx hZ hown (host := "") (Or.inl (hw _ (List.mem_of_getElem? (i := 25) rfl))) Via.refl e29 F_coder_a1_28 E_a1_28 (Or.inr ⟨(hw _ (List.mem_of_getElem? (i := 21) rfl)), rfl, hnm⟩) (hw _ (List.mem_of_getElem? (i := 5) rfl)) (ty := .byte) (by decide) rfl rfl (g := (mkF m 48 #[.val (.ref a1), .val (.ref a2), .val (.int (0 : Int32)), .val (.int (1 : Int32)), .val .null, .val (.ref ovb)] [(.int (0 : Int32)), (.ref a1)])) rfl rfl (hb hby d3_48)
  refine Go.st st30 ?_
  have S_COMPACT_STRINGS_31 : Sta Z h30 "java/lang/String" "COMPACT_STRINGS" "Z" (.int cs) := Sta.wr W30 S_COMPACT_STRINGS_28
  have E_a1_31 : Exa Z h30 a1 "java/lang/String" := Exa.wr W30 E_a1_28
  have F_value_a1_31 : Fld Z h30 a1 "java/lang/String" "value" "[B" .null := Fld.other W30 F_value_a1_28 (Or.inr (slot_ne (Or.inr (hw _ (List.mem_of_getElem? (i := 20) rfl))) (Or.inr (hw _ (List.mem_of_getElem? (i := 21) rfl))) (by decide) (t := (.array .byte)) (t' := .byte) (by decide) (by decide)))
  have A_ovb_31 : Arv Z h30 ovb okb .byte (1 : Int32) ([(.int x1.toInt8.toInt32)]) (.int (0 : Int32)) := Arv.other f27_1 W30 (Ne.symm ne_a1_ovb)
  have F_coder_a1_30w : Fld Z h30 a1 "java/lang/String" "coder" "B" (.int (0 : Int32)) := Fld.same W30 F_coder_a1_28
  have K30 : Keep h0 h30 [a1] := Keep.wr K27 W30 (Or.inl (List.mem_of_getElem? (i := 0) rfl))
  have N30 := Fr.snoc X30 N29 g_a1
  have Zs30 : n0 ≤ h30.size := by rw [W30.size]; exact Zs27
  show Go p e below _ (T30.setTop (mkF m 51 #[.val (.ref a1), .val (.ref a2), .val (.int (0 : Int32)), .val (.int (1 : Int32)), .val .null, .val (.ref ovb)] []))
  refine g_aloadN X30 hx (hb hby d3_51) 52 rfl (v := (.ref a1)) rfl rfl ?_
  refine g_aload X30 hx (hb hby d3_52) 54 rfl (v := (.ref ovb)) rfl rfl ?_
  obtain ⟨T32, h32, X32, e32, W32, st32⟩ := putF X30 hx hZ hown (host := "") (Or.inl (hw _ (List.mem_of_getElem? (i := 24) rfl))) Via.refl e30 F_value_a1_31 E_a1_31 (Or.inr ⟨(hw _ (List.mem_of_getElem? (i := 20) rfl)), rfl, hnm⟩) (hw _ (List.mem_of_getElem? (i := 5) rfl)) (ty := (.array .byte)) (by decide) rfl rfl (g := (mkF m 54 #[.val (.ref a1), .val (.ref a2), .val (.int (0 : Int32)), .val (.int (1 : Int32)), .val .null, .val (.ref ovb)] [(.ref ovb), (.ref a1)])) rfl rfl (hb hby d3_54)
  refine Go.st st32 ?_
  have S_COMPACT_STRINGS_33 : Sta Z h32 "java/lang/String" "COMPACT_STRINGS" "Z" (.int cs) := Sta.wr W32 S_COMPACT_STRINGS_31
  have E_a1_33 : Exa Z h32 a1 "java/lang/String" := Exa.wr W32 E_a1_31
  have A_ovb_33 : Arv Z h32 ovb okb .byte (1 : Int32) ([(.int x1.toInt8.toInt32)]) (.int (0 : Int32)) := Arv.other A_ovb_31 W32 (Ne.symm ne_a1_ovb)
  have F_coder_a1_33 : Fld Z h32 a1 "java/lang/String" "coder" "B" (.int (0 : Int32)) := Fld.other W32 F_coder_a1_30w (Or.inr (slot_ne (Or.inr (hw _ (List.mem_of_getElem? (i := 21) rfl))) (Or.inr (hw _ (List.mem_of_getElem? (i := 20) rfl))) (by decide) (t := .byte) (t' := (.array .byte)) (by decide) (by decide)))
  have F_value_a1_32w : Fld Z h32 a1 "java/lang/String" "value" "[B" (.ref ovb) := Fld.same W32 F_value_a1_31
  have K32 : Keep h0 h32 [a1] := Keep.wr K30 W32 (Or.inl (List.mem_of_getElem? (i := 0) rfl))
  have N32 := Fr.snoc X32 N30 g_a1
  have Zs32 : n0 ≤ h32.size := by rw [W32.size]; exact Zs30
  show Go p e below _ (T32.setTop (mkF m 57 #[.val (.ref a1), .val (.ref a2), .val (.int (0 : Int32)), .val (.int (1 : Int32)), .val .null, .val (.ref ovb)] []))
  refine Go.retV X32 hx hlk Bd.returns (hb hby d3_57) (by decide) (by decide) ?_
  show QsV1 Z a1 a2 cs kc x1 h0 n0 _ T32.heap _
  rw [e32]
  exact ⟨ovb, okb, rfl, N32, K32, mh_ovb, E_a1_33, F_value_a1_32w, F_coder_a1_33, A_ovb_33⟩
theorem ef_sC1 (m : MethodId) (x0 : Addr) (x1 : Addr) : entryFrame m #[(.ref x0), (.ref x1)] 2 = mkF m 0 #[.val (.ref x0), .val (.ref x1)] [] := by first | (simp [entryFrame, mkF, argsToLocals, Value.category]; done) | rfl
def QsC1 (Z : State) (a1 : Addr) (a2 : Addr) (cs : Int32) (kc : ClassId) (x1 : Int32) (h0 : Heap) (n0 : Nat) (v : Option Value) (h : Heap) (L : List Loc) : Prop := ∃ vb : Addr, ∃ kb : ClassId, v = none ∧ Fr n0 L ∧ Keep h0 h [a1] ∧ h0.size ≤ vb ∧ (Exa Z h a1 "java/lang/String") ∧ (Fld Z h a1 "java/lang/String" "value" "[B" (.ref vb)) ∧ (Fld Z h a1 "java/lang/String" "coder" "B" (.int (0 : Int32))) ∧ (Arv Z h vb kb .byte (1 : Int32) ([(.int x1.toInt8.toInt32)]) (.int (0 : Int32)))
set_option maxRecDepth 65536 in
set_option maxHeartbeats 40000000 in
theorem rmsC1 (l : Launch) (Z : State) (a0 : Array Value) (hw : ∀ d ∈ tables_1, d.before a0 Z = true) (ws : List Jvm.Cond) (a1 : Addr) (a2 : Addr) (cs : Int32) (kc : ClassId) (x1 : Int32) (h0 : Heap) (n0 : Nat) (Z0 : n0 ≤ h0.size) (S_COMPACT_STRINGS : Sta Z h0 "java/lang/String" "COMPACT_STRINGS" "Z" (.int cs)) (E_a1 : Exa Z h0 a1 "java/lang/String") (g_a1 : n0 ≤ a1) (F_value_a1 : Fld Z h0 a1 "java/lang/String" "value" "[B" .null) (F_coder_a1 : Fld Z h0 a1 "java/lang/String" "coder" "B" (.int (0 : Int32))) (A_a2 : Arv Z h0 a2 kc .char (1 : Int32) ([(.int x1)]) (.int (0 : Int32))) (ne_a1_a2 : a1 ≠ a2) (hcs : ¬ cs = 0) (hx1 : ¬ (255 : Int32) < x1) :
    MetFree l (⟨"java/lang/String", "<init>", "([C)V"⟩ : MethodName) (head1 (Jvm.Cond.code (⟨"java/lang/String", "<init>", "([C)V"⟩ : MethodName) jdk_42_method_3_code 2 none :: ws) ({ frames := 3, cells := 1, slots := 1, locals := 52 } : Room)) (fun a U => a = #[(.ref a1), (.ref a2)] ∧ Z.Warmed39 U.vm ∧ U.heap = h0) (fun _ _ _ _ _ => True) (fun _ U o U' => ∃ v L, o = .returned v ∧ QsC1 Z a1 a2 cs kc x1 h0 n0 v U'.heap L ∧ FrameEnd U o U' L ({ frames := 3, cells := 1, slots := 1, locals := 52 } : Room).cells ({ frames := 3, cells := 1, slots := 1, locals := 52 } : Room).slots) := by
  refine MetFree.of_bodySF (plainFor_of_name own_pn_java_lang_String) hisR ?_
  intro p e s m args below meth c s₁ Bd hml0 hP hK
  obtain ⟨rfl, hZ, hh⟩ := hP
  have hx := Bd.exec
  have hby := Bd.bytes
  have hlk := Bd.notSynchronized
  have hml : c.maxLocals = 2 := hml0
  have hown : s.vm.findClass "java/lang/String" = some m.cls := findClass_of_methodNamed Bd.named
  have hnm := (name_of_methodNamed Bd.named Bd.method).1
  have X0 : Stand p l e ({ frames := 3, cells := 1, slots := 1, locals := 52 } : Room) s m #[(.ref a1), (.ref a2)] below meth c s₁ [] 0 0 := Stand.of_body Bd
  have e0 : s₁.heap = h0 := by rw [← hh, Bd.state]; rfl
  have N0 := Fr.nil n0
  have K0 : Keep h0 h0 [a1] := Keep.refl _ _
  show Go p e below (KQ s below (QsC1 Z a1 a2 cs kc x1 h0 n0) ({ frames := 3, cells := 1, slots := 1, locals := 52 } : Room).cells ({ frames := 3, cells := 1, slots := 1, locals := 52 } : Room).slots) _
  refine Go.body (T := s₁) (σ := s₁) (g' := (mkF m 0 #[.val (.ref a1), .val (.ref a2)] [])) (ef_sC1 m a1 a2) ?_
  refine g_aloadN X0 hx (hb hby d2_0) 1 rfl (v := (.ref a1)) rfl rfl ?_
  refine g_aloadN X0 hx (hb hby d2_1) 2 rfl (v := (.ref a2)) rfl rfl ?_
  refine g_iconst X0 hx (hb hby d2_2) 3 rfl (0 : Int32) rfl ?_
  refine g_aloadN X0 hx (hb hby d2_3) 4 rfl (v := (.ref a2)) rfl rfl ?_
  refine g_alen X0 hx (hb hby d2_4) 5 rfl hZ e0 A_a2 ?_
  refine g_null X0 hx (hb hby d2_5) 6 rfl ?_
  obtain ⟨_, _, ⟨T35, L35, k35, n35⟩, -, X35, ⟨Lc35, hQ35, l35, y35, z35⟩, st35⟩ := X0.specialBack hx (y := (⟨"java/lang/String", "<init>", "([CIILjava/lang/Void;)V"⟩ : MethodName)) rfl hown (mvT hZ (hw _ (List.mem_of_getElem? (i := 11) rfl))) (mvT hZ (hw _ (List.mem_of_getElem? (i := 12) rfl))) (mvT hZ (hw _ (List.mem_of_getElem? (i := 14) rfl))) (by decide) (backOf (W := 0) (rmsV1 l Z a0 hw [] a1 a2 cs kc x1 h0 n0 Z0 S_COMPACT_STRINGS E_a1 g_a1 F_value_a1 F_coder_a1 A_a2 ne_a1_a2 hcs hx1) hZ (hw _ (List.mem_of_getElem? (i := 14) rfl)) (hw _ (List.mem_of_getElem? (i := 6) rfl)) (by decide) (by decide)) (g := (mkF m 6 #[.val (.ref a1), .val (.ref a2)] [.null, (.int (1 : Int32)), (.int (0 : Int32)), (.ref a2), (.ref a1)])) rfl (by rw [hml]; rfl) (Steps.refl _) (a := a1) (argsL := [(.ref a2), (.int (0 : Int32)), (.int (1 : Int32)), .null]) (rest := []) (lenOf own_pd0 rfl) rfl (by show 2 * 0 + _ ≤ _; exact Nat.le_of_eq rfl) (hb hby d2_6) (fun _ _ => ⟨rfl, e0, (by decide : 0 + 1 ≤ _), (by decide : 0 + 1 ≤ _)⟩)
  dsimp only [Pt.U, Pt.locs, Pt.cells, Pt.slots] at X35 l35 y35 z35 st35 hQ35
  subst l35 y35 z35
  obtain ⟨ovb, okb, rfl, Nq35, Kq35, f35_0, f35_1, f35_2, f35_3, f35_4⟩ := hQ35
  refine Go.tr st35 ?_
  have N35 := Fr.app N0 Nq35
  have S_COMPACT_STRINGS_36 : Sta Z T35.heap "java/lang/String" "COMPACT_STRINGS" "Z" (.int cs) := own_Sta_keep S_COMPACT_STRINGS Kq35 (allS (own_ns E_a1) all0)
  have E_a1_36 : Exa Z T35.heap a1 "java/lang/String" := Exa.keep E_a1 Kq35
  have ne_a1_ovb : a1 ≠ ovb := Nat.ne_of_lt (Nat.lt_of_lt_of_le E_a1.lt f35_0)
  have g_ovb : n0 ≤ ovb := Nat.le_trans Z0 f35_0
  have mh_ovb : h0.size ≤ ovb := Nat.le_trans K0.1 f35_0
  have K35 : Keep h0 T35.heap [a1] := Keep.trans K0 Kq35 (allS (Or.inl (List.mem_of_getElem? (i := 0) rfl)) all0)
  have Zs35 : n0 ≤ T35.heap.size := Nat.le_trans Z0 Kq35.1
  show Go p e below _ (T35.setTop (mkF m 9 #[.val (.ref a1), .val (.ref a2)] []))
  refine Go.retV X35 hx hlk Bd.returns (hb hby d2_9) (by decide) (by decide) ?_
  show QsC1 Z a1 a2 cs kc x1 h0 n0 _ T35.heap _
  exact ⟨ovb, okb, rfl, N35, K35, mh_ovb, f35_1, f35_2, f35_3, f35_4⟩
theorem ef_cmp2 (m : MethodId) (x0 : Addr) (x1 : Int32) (x2 : Addr) (x3 : Int32) (x4 : Int32) : entryFrame m #[(.ref x0), (.int x1), (.ref x2), (.int x3), (.int x4)] 7 = mkF m 0 #[.val (.ref x0), .val (.int x1), .val (.ref x2), .val (.int x3), .val (.int x4), .unset, .unset] [] := by first | (simp [entryFrame, mkF, argsToLocals, Value.category]; done) | rfl
def Qcmp2 (Z : State) (a1 : Addr) (a3 : Addr) (kc : ClassId) (kb : ClassId) (x1 : Int32) (x2 : Int32) (h0 : Heap) (n0 : Nat) (v : Option Value) (h : Heap) (L : List Loc) : Prop := v = some (.int (2 : Int32)) ∧ Fr n0 L ∧ Keep h0 h [a3] ∧ (Arv Z h a3 kb .byte (2 : Int32) ([(.int x1.toInt8.toInt32), (.int x2.toInt8.toInt32)]) (.int (0 : Int32)))
set_option maxRecDepth 65536 in
set_option maxHeartbeats 40000000 in
theorem rmcmp2 (l : Launch) (Z : State) (a0 : Array Value) (hw : ∀ d ∈ tables_1, d.before a0 Z = true) (ws : List Jvm.Cond) (a1 : Addr) (a3 : Addr) (kc : ClassId) (kb : ClassId) (x1 : Int32) (x2 : Int32) (h0 : Heap) (n0 : Nat) (Z0 : n0 ≤ h0.size) (A_a1 : Arv Z h0 a1 kc .char (2 : Int32) ([(.int x1), (.int x2)]) (.int (0 : Int32))) (A_a3 : Arv Z h0 a3 kb .byte (2 : Int32) ([(.int (0 : Int32)), (.int (0 : Int32))]) (.int (0 : Int32))) (g_a3 : n0 ≤ a3) (ne_a1_a3 : a1 ≠ a3) (hx1 : ¬ (255 : Int32) < x1) (hx2 : ¬ (255 : Int32) < x2) :
    MetFree l (⟨"java/lang/StringUTF16", "compress", "([CI[BII)I"⟩ : MethodName) (head1 (Jvm.Cond.code (⟨"java/lang/StringUTF16", "compress", "([CI[BII)I"⟩ : MethodName) jdk_52_method_21_code 7 (some .int) :: ws) ({ frames := 0, cells := 0, slots := 0, locals := 0 } : Room)) (fun a U => a = #[(.ref a1), (.int (0 : Int32)), (.ref a3), (.int (0 : Int32)), (.int (2 : Int32))] ∧ Z.Warmed39 U.vm ∧ U.heap = h0) (fun _ _ _ _ _ => True) (fun _ U o U' => ∃ v L, o = .returned v ∧ Qcmp2 Z a1 a3 kc kb x1 x2 h0 n0 v U'.heap L ∧ FrameEnd U o U' L ({ frames := 0, cells := 0, slots := 0, locals := 0 } : Room).cells ({ frames := 0, cells := 0, slots := 0, locals := 0 } : Room).slots) := by
  refine MetFree.of_bodySF (plainFor_of_name own_pn_java_lang_StringUTF16) hisR ?_
  intro p e s m args below meth c s₁ Bd hml0 hP hK
  obtain ⟨rfl, hZ, hh⟩ := hP
  have hx := Bd.exec
  have hby := Bd.bytes
  have hlk := Bd.notSynchronized
  have hml : c.maxLocals = 7 := hml0
  have hown : s.vm.findClass "java/lang/StringUTF16" = some m.cls := findClass_of_methodNamed Bd.named
  have hnm := (name_of_methodNamed Bd.named Bd.method).1
  have X0 : Stand p l e ({ frames := 0, cells := 0, slots := 0, locals := 0 } : Room) s m #[(.ref a1), (.int (0 : Int32)), (.ref a3), (.int (0 : Int32)), (.int (2 : Int32))] below meth c s₁ [] 0 0 := Stand.of_body Bd
  have e0 : s₁.heap = h0 := by rw [← hh, Bd.state]; rfl
  have N0 := Fr.nil n0
  have K0 : Keep h0 h0 [a3] := Keep.refl _ _
  show Go p e below (KQ s below (Qcmp2 Z a1 a3 kc kb x1 x2 h0 n0) ({ frames := 0, cells := 0, slots := 0, locals := 0 } : Room).cells ({ frames := 0, cells := 0, slots := 0, locals := 0 } : Room).slots) _
  refine Go.body (T := s₁) (σ := s₁) (g' := (mkF m 0 #[.val (.ref a1), .val (.int (0 : Int32)), .val (.ref a3), .val (.int (0 : Int32)), .val (.int (2 : Int32)), .unset, .unset] [])) (ef_cmp2 m a1 (0 : Int32) a3 (0 : Int32) (2 : Int32)) ?_
  refine g_iconst X0 hx (hb hby d8_0) 1 rfl (0 : Int32) rfl ?_
  refine g_istore X0 hx (hb hby d8_1) 3 rfl #[.val (.ref a1), .val (.int (0 : Int32)), .val (.ref a3), .val (.int (0 : Int32)), .val (.int (2 : Int32)), .val (.int (0 : Int32)), .unset] rfl ?_
  refine g_iload X0 hx (hb hby d8_3) 5 rfl (v := (0 : Int32)) rfl ?_
  refine g_iload X0 hx (hb hby d8_5) 7 rfl (v := (2 : Int32)) rfl ?_
  refine g_icmp_ge X0 hx (hb hby d8_7) 44 10 (by decide) (by decide) rfl (fun hc7 => False.elim (absurd (by decide) hc7)) (fun hc7 => ?_)
  refine g_aloadN X0 hx (hb hby d8_10) 11 rfl (v := (.ref a1)) rfl rfl ?_
  refine g_iloadN X0 hx (hb hby d8_11) 12 rfl (v := (0 : Int32)) rfl ?_
  refine g_caload X0 hx (hb hby d8_12) 13 rfl hZ e0 A_a1 (show ¬ (0 : Int32) < 0 ∧ (0 : Int32) < (2 : Int32) from by decide) (.int x1) rfl ?_
  refine g_istore X0 hx (hb hby d8_13) 15 rfl #[.val (.ref a1), .val (.int (0 : Int32)), .val (.ref a3), .val (.int (0 : Int32)), .val (.int (2 : Int32)), .val (.int (0 : Int32)), .val (.int x1)] rfl ?_
  refine g_iload X0 hx (hb hby d8_15) 17 rfl (v := x1) rfl ?_
  refine g_sipush X0 hx (hb hby d8_17) 20 rfl (255 : Int32) rfl ?_
  refine g_icmp_le X0 hx (hb hby d8_20) 26 23 (by decide) (by decide) rfl (fun hc20 => ?_) (fun hc20 => False.elim (hx1 hc20))
  refine g_aloadN X0 hx (hb hby d8_26) 27 rfl (v := (.ref a3)) rfl rfl ?_
  refine g_iloadN X0 hx (hb hby d8_27) 28 rfl (v := (0 : Int32)) rfl ?_
  refine g_iload X0 hx (hb hby d8_28) 30 rfl (v := x1) rfl ?_
  refine g_i2b X0 hx (hb hby d8_30) 31 rfl x1.toInt8.toInt32 rfl ?_
  obtain ⟨T38, h38, X38, e38, W38, B38, st38⟩ := g_bastore X0 hx (hb hby d8_31) hZ e0 A_a3 (show ¬ (0 : Int32) < 0 ∧ (0 : Int32) < (2 : Int32) from by decide) (i := 0) (by decide) (by simp)  (L := #[.val (.ref a1), .val (.int (0 : Int32)), .val (.ref a3), .val (.int (0 : Int32)), .val (.int (2 : Int32)), .val (.int (0 : Int32)), .val (.int x1)]) (S := [])
  refine Go.st st38 ?_
  have Av_a3_38 : Arv Z h38 a3 kb .byte (2 : Int32) ([(.int x1.toInt8.toInt32), (.int (0 : Int32))]) (.int (0 : Int32)) := (by have q := B38; rw [own_i2b] at q; exact q)
  have K38 : Keep h0 h38 [a3] := Keep.wr K0 W38 (Or.inl (List.mem_of_getElem? (i := 0) rfl))
  have N38 := Fr.snoc X38 N0 g_a3
  have Zs38 : n0 ≤ h38.size := by rw [W38.size]; exact Z0
  show Go p e below _ (T38.setTop (mkF m 32 #[.val (.ref a1), .val (.int (0 : Int32)), .val (.ref a3), .val (.int (0 : Int32)), .val (.int (2 : Int32)), .val (.int (0 : Int32)), .val (.int x1)] []))
  refine g_iinc X38 hx (hb hby d8_32) 35 rfl (x := (0 : Int32)) rfl ((0 : Int32) + (1 : Int32)) rfl #[.val (.ref a1), .val (.int ((0 : Int32) + (1 : Int32))), .val (.ref a3), .val (.int (0 : Int32)), .val (.int (2 : Int32)), .val (.int (0 : Int32)), .val (.int x1)] rfl ?_
  refine g_iinc X38 hx (hb hby d8_35) 38 rfl (x := (0 : Int32)) rfl ((0 : Int32) + (1 : Int32)) rfl #[.val (.ref a1), .val (.int ((0 : Int32) + (1 : Int32))), .val (.ref a3), .val (.int ((0 : Int32) + (1 : Int32))), .val (.int (2 : Int32)), .val (.int (0 : Int32)), .val (.int x1)] rfl ?_
  refine g_iinc X38 hx (hb hby d8_38) 41 rfl (x := (0 : Int32)) rfl ((0 : Int32) + (1 : Int32)) rfl #[.val (.ref a1), .val (.int ((0 : Int32) + (1 : Int32))), .val (.ref a3), .val (.int ((0 : Int32) + (1 : Int32))), .val (.int (2 : Int32)), .val (.int ((0 : Int32) + (1 : Int32))), .val (.int x1)] rfl ?_
  refine g_goto X38 hx (hb hby d8_41) 3 (by decide) (by decide) ?_
  refine g_iload X38 hx (hb hby d8_3) 5 rfl (v := ((0 : Int32) + (1 : Int32))) rfl ?_
  refine g_iload X38 hx (hb hby d8_5) 7 rfl (v := (2 : Int32)) rfl ?_
  refine g_icmp_ge X38 hx (hb hby d8_7) 44 10 (by decide) (by decide) rfl (fun hc7 => False.elim (absurd (by decide) hc7)) (fun hc7 => ?_)
  refine g_aloadN X38 hx (hb hby d8_10) 11 rfl (v := (.ref a1)) rfl rfl ?_
  refine g_iloadN X38 hx (hb hby d8_11) 12 rfl (v := ((0 : Int32) + (1 : Int32))) rfl ?_
  refine g_caload X38 hx (hb hby d8_12) 13 rfl hZ e38 (Arv.keep A_a1 K38 (ninS ne_a1_a3 nin0)) (show ¬ ((0 : Int32) + (1 : Int32)) < 0 ∧ ((0 : Int32) + (1 : Int32)) < (2 : Int32) from by decide) (.int x2) rfl ?_
  refine g_istore X38 hx (hb hby d8_13) 15 rfl #[.val (.ref a1), .val (.int ((0 : Int32) + (1 : Int32))), .val (.ref a3), .val (.int ((0 : Int32) + (1 : Int32))), .val (.int (2 : Int32)), .val (.int ((0 : Int32) + (1 : Int32))), .val (.int x2)] rfl ?_
  refine g_iload X38 hx (hb hby d8_15) 17 rfl (v := x2) rfl ?_
  refine g_sipush X38 hx (hb hby d8_17) 20 rfl (255 : Int32) rfl ?_
  refine g_icmp_le X38 hx (hb hby d8_20) 26 23 (by decide) (by decide) rfl (fun hc20 => ?_) (fun hc20 => False.elim (hx2 hc20))
  refine g_aloadN X38 hx (hb hby d8_26) 27 rfl (v := (.ref a3)) rfl rfl ?_
  refine g_iloadN X38 hx (hb hby d8_27) 28 rfl (v := ((0 : Int32) + (1 : Int32))) rfl ?_
  refine g_iload X38 hx (hb hby d8_28) 30 rfl (v := x2) rfl ?_
  refine g_i2b X38 hx (hb hby d8_30) 31 rfl x2.toInt8.toInt32 rfl ?_
  obtain ⟨T41, h41, X41, e41, W41, B41, st41⟩ := g_bastore X38 hx (hb hby d8_31) hZ e38 Av_a3_38 (show ¬ ((0 : Int32) + (1 : Int32)) < 0 ∧ ((0 : Int32) + (1 : Int32)) < (2 : Int32) from by decide) (i := 1) (by decide) (by simp)  (L := #[.val (.ref a1), .val (.int ((0 : Int32) + (1 : Int32))), .val (.ref a3), .val (.int ((0 : Int32) + (1 : Int32))), .val (.int (2 : Int32)), .val (.int ((0 : Int32) + (1 : Int32))), .val (.int x2)]) (S := [])
  refine Go.st st41 ?_
  have Av_a3_41 : Arv Z h41 a3 kb .byte (2 : Int32) ([(.int x1.toInt8.toInt32), (.int x2.toInt8.toInt32)]) (.int (0 : Int32)) := (by have q := B41; rw [own_i2b] at q; exact q)
  have K41 : Keep h0 h41 [a3] := Keep.wr K38 W41 (Or.inl (List.mem_of_getElem? (i := 0) rfl))
  have N41 := Fr.snoc X41 N38 g_a3
  have Zs41 : n0 ≤ h41.size := by rw [W41.size]; exact Zs38
  show Go p e below _ (T41.setTop (mkF m 32 #[.val (.ref a1), .val (.int ((0 : Int32) + (1 : Int32))), .val (.ref a3), .val (.int ((0 : Int32) + (1 : Int32))), .val (.int (2 : Int32)), .val (.int ((0 : Int32) + (1 : Int32))), .val (.int x2)] []))
  refine g_iinc X41 hx (hb hby d8_32) 35 rfl (x := ((0 : Int32) + (1 : Int32))) rfl (((0 : Int32) + (1 : Int32)) + (1 : Int32)) rfl #[.val (.ref a1), .val (.int (((0 : Int32) + (1 : Int32)) + (1 : Int32))), .val (.ref a3), .val (.int ((0 : Int32) + (1 : Int32))), .val (.int (2 : Int32)), .val (.int ((0 : Int32) + (1 : Int32))), .val (.int x2)] rfl ?_
  refine g_iinc X41 hx (hb hby d8_35) 38 rfl (x := ((0 : Int32) + (1 : Int32))) rfl (((0 : Int32) + (1 : Int32)) + (1 : Int32)) rfl #[.val (.ref a1), .val (.int (((0 : Int32) + (1 : Int32)) + (1 : Int32))), .val (.ref a3), .val (.int (((0 : Int32) + (1 : Int32)) + (1 : Int32))), .val (.int (2 : Int32)), .val (.int ((0 : Int32) + (1 : Int32))), .val (.int x2)] rfl ?_
  refine g_iinc X41 hx (hb hby d8_38) 41 rfl (x := ((0 : Int32) + (1 : Int32))) rfl (((0 : Int32) + (1 : Int32)) + (1 : Int32)) rfl #[.val (.ref a1), .val (.int (((0 : Int32) + (1 : Int32)) + (1 : Int32))), .val (.ref a3), .val (.int (((0 : Int32) + (1 : Int32)) + (1 : Int32))), .val (.int (2 : Int32)), .val (.int (((0 : Int32) + (1 : Int32)) + (1 : Int32))), .val (.int x2)] rfl ?_
  refine g_goto X41 hx (hb hby d8_41) 3 (by decide) (by decide) ?_
  refine g_iload X41 hx (hb hby d8_3) 5 rfl (v := (((0 : Int32) + (1 : Int32)) + (1 : Int32))) rfl ?_
  refine g_iload X41 hx (hb hby d8_5) 7 rfl (v := (2 : Int32)) rfl ?_
  refine g_icmp_ge X41 hx (hb hby d8_7) 44 10 (by decide) (by decide) rfl (fun hc7 => ?_) (fun hc7 => False.elim (absurd hc7 (by decide)))
  refine g_iload X41 hx (hb hby d8_44) 46 rfl (v := (2 : Int32)) rfl ?_
  refine Go.retI X41 hx hlk Bd.returns (hb hby d8_46) (by decide) (by decide) ?_
  show Qcmp2 Z a1 a3 kc kb x1 x2 h0 n0 _ T41.heap _
  rw [e41]
  exact ⟨rfl, N41, K41, Av_a3_41⟩
theorem ef_cmpa2 (m : MethodId) (x0 : Addr) (x1 : Int32) (x2 : Int32) : entryFrame m #[(.ref x0), (.int x1), (.int x2)] 6 = mkF m 0 #[.val (.ref x0), .val (.int x1), .val (.int x2), .unset, .unset, .unset] [] := by first | (simp [entryFrame, mkF, argsToLocals, Value.category]; done) | rfl
def Qcmpa2 (Z : State) (a1 : Addr) (kc : ClassId) (x1 : Int32) (x2 : Int32) (h0 : Heap) (n0 : Nat) (v : Option Value) (h : Heap) (L : List Loc) : Prop := ∃ b : Addr, ∃ kb : ClassId, v = some (.ref b) ∧ Fr n0 L ∧ Keep h0 h [] ∧ h0.size ≤ b ∧ (Arv Z h b kb .byte (2 : Int32) ([(.int x1.toInt8.toInt32), (.int x2.toInt8.toInt32)]) (.int (0 : Int32)))
set_option maxRecDepth 65536 in
set_option maxHeartbeats 40000000 in
theorem rmcmpa2 (l : Launch) (Z : State) (a0 : Array Value) (hw : ∀ d ∈ tables_1, d.before a0 Z = true) (ws : List Jvm.Cond) (a1 : Addr) (kc : ClassId) (x1 : Int32) (x2 : Int32) (h0 : Heap) (n0 : Nat) (Z0 : n0 ≤ h0.size) (A_a1 : Arv Z h0 a1 kc .char (2 : Int32) ([(.int x1), (.int x2)]) (.int (0 : Int32))) (hx1 : ¬ (255 : Int32) < x1) (hx2 : ¬ (255 : Int32) < x2) :
    MetFree l (⟨"java/lang/StringUTF16", "compress", "([CII)[B"⟩ : MethodName) (head1 (Jvm.Cond.code (⟨"java/lang/StringUTF16", "compress", "([CII)[B"⟩ : MethodName) jdk_52_method_16_code 6 (some (.array .byte)) :: ws) ({ frames := 1, cells := 1, slots := 2, locals := 18 } : Room)) (fun a U => a = #[(.ref a1), (.int (0 : Int32)), (.int (2 : Int32))] ∧ Z.Warmed39 U.vm ∧ U.heap = h0) (fun _ _ _ _ _ => True) (fun _ U o U' => ∃ v L, o = .returned v ∧ Qcmpa2 Z a1 kc x1 x2 h0 n0 v U'.heap L ∧ FrameEnd U o U' L ({ frames := 1, cells := 1, slots := 2, locals := 18 } : Room).cells ({ frames := 1, cells := 1, slots := 2, locals := 18 } : Room).slots) := by
  refine MetFree.of_bodySF (plainFor_of_name own_pn_java_lang_StringUTF16) hisR ?_
  intro p e s m args below meth c s₁ Bd hml0 hP hK
  obtain ⟨rfl, hZ, hh⟩ := hP
  have hx := Bd.exec
  have hby := Bd.bytes
  have hlk := Bd.notSynchronized
  have hml : c.maxLocals = 6 := hml0
  have hown : s.vm.findClass "java/lang/StringUTF16" = some m.cls := findClass_of_methodNamed Bd.named
  have hnm := (name_of_methodNamed Bd.named Bd.method).1
  have X0 : Stand p l e ({ frames := 1, cells := 1, slots := 2, locals := 18 } : Room) s m #[(.ref a1), (.int (0 : Int32)), (.int (2 : Int32))] below meth c s₁ [] 0 0 := Stand.of_body Bd
  have e0 : s₁.heap = h0 := by rw [← hh, Bd.state]; rfl
  have N0 := Fr.nil n0
  have K0 : Keep h0 h0 [] := Keep.refl _ _
  show Go p e below (KQ s below (Qcmpa2 Z a1 kc x1 x2 h0 n0) ({ frames := 1, cells := 1, slots := 2, locals := 18 } : Room).cells ({ frames := 1, cells := 1, slots := 2, locals := 18 } : Room).slots) _
  refine Go.body (T := s₁) (σ := s₁) (g' := (mkF m 0 #[.val (.ref a1), .val (.int (0 : Int32)), .val (.int (2 : Int32)), .unset, .unset, .unset] [])) (ef_cmpa2 m a1 (0 : Int32) (2 : Int32)) ?_
  refine g_iloadN X0 hx (hb hby d7_0) 1 rfl (v := (2 : Int32)) rfl ?_
  obtain ⟨T43, h43, cA43, X43, e43, E43, A43, st43⟩ := newP X0 hx hZ (aty := .byte) (hw _ (List.mem_of_getElem? (i := 19) rfl)) e0 (g := (mkF m 1 #[.val (.ref a1), .val (.int (0 : Int32)), .val (.int (2 : Int32)), .unset, .unset, .unset] [(.int (2 : Int32))])) rfl (hb hby d7_1) rfl (by decide) (cap := 2) (by decide) (by decide) (by decide) (by decide)
  refine Go.st st43 ?_
  obtain ⟨ob, q43⟩ : ∃ z, z = h0.size := ⟨_, rfl⟩
  rw [← q43] at A43 ⊢
  have g_ob : n0 ≤ ob := Nat.le_trans Z0 (Nat.le_of_eq q43.symm)
  have mh_ob : h0.size ≤ ob := Nat.le_trans K0.1 (Nat.le_of_eq q43.symm)
  have K43 : Keep h0 h43 [] := Keep.ext K0 E43
  have Zs43 : n0 ≤ h43.size := Nat.le_trans Z0 E43.1
  have Av_ob : Arv Z h43 ob cA43 .byte (2 : Int32) ([(.int (0 : Int32)), (.int (0 : Int32))]) (.int (0 : Int32)) := Arv.pad (Arv.new A43 (by decide)) (pad_rep [] (.int (0 : Int32)) 2)
  show Go p e below _ (T43.setTop (mkF m 3 #[.val (.ref a1), .val (.int (0 : Int32)), .val (.int (2 : Int32)), .unset, .unset, .unset] [(.ref ob)]))
  refine g_astoreN X43 hx (hb hby d7_3) 4 rfl rfl #[.val (.ref a1), .val (.int (0 : Int32)), .val (.int (2 : Int32)), .val (.ref ob), .unset, .unset] rfl ?_
  refine g_aloadN X43 hx (hb hby d7_4) 5 rfl (v := (.ref a1)) rfl rfl ?_
  refine g_iloadN X43 hx (hb hby d7_5) 6 rfl (v := (0 : Int32)) rfl ?_
  refine g_aloadN X43 hx (hb hby d7_6) 7 rfl (v := (.ref ob)) rfl rfl ?_
  refine g_iconst X43 hx (hb hby d7_7) 8 rfl (0 : Int32) rfl ?_
  refine g_iloadN X43 hx (hb hby d7_8) 9 rfl (v := (2 : Int32)) rfl ?_
  obtain ⟨_, _, ⟨T45, L45, k45, n45⟩, -, X45, ⟨Lc45, hQ45, l45, y45, z45⟩, st45⟩ := Jvm.LawKit.callS X43 hx (y := (⟨"java/lang/StringUTF16", "compress", "([CI[BII)I"⟩ : MethodName)) hown (mvT hZ (hw _ (List.mem_of_getElem? (i := 37) rfl))) (mvT hZ (hw _ (List.mem_of_getElem? (i := 38) rfl))) (mvT hZ (hw _ (List.mem_of_getElem? (i := 35) rfl))) (mvT hZ (hw _ (List.mem_of_getElem? (i := 39) rfl))) (by decide) (backOf (W := 0) (rmcmp2 l Z a0 hw [] a1 ob kc cA43 x1 x2 h43 n0 Zs43 (Arv.keep A_a1 K43 nin0) Av_ob g_ob (Nat.ne_of_lt (Nat.lt_of_lt_of_le A_a1.lt mh_ob)) hx1 hx2) hZ (hw _ (List.mem_of_getElem? (i := 39) rfl)) (hw _ (List.mem_of_getElem? (i := 35) rfl)) (by decide) (by decide)) (g := (mkF m 9 #[.val (.ref a1), .val (.int (0 : Int32)), .val (.int (2 : Int32)), .val (.ref ob), .unset, .unset] [(.int (2 : Int32)), (.int (0 : Int32)), (.ref ob), (.int (0 : Int32)), (.ref a1)])) rfl (by rw [hml]; rfl) (argsL := [(.ref a1), (.int (0 : Int32)), (.ref ob), (.int (0 : Int32)), (.int (2 : Int32))]) (rest := []) (lenOf own_pd1 rfl) rfl (by show 2 * 0 + _ ≤ _; exact Nat.le_of_eq rfl) (hb hby d7_9) (fun _ _ => ⟨rfl, e43, (by decide : 1 + 0 ≤ _), (by decide : 2 + 0 ≤ _)⟩)
  dsimp only [Pt.U, Pt.locs, Pt.cells, Pt.slots] at X45 l45 y45 z45 st45 hQ45
  subst l45 y45 z45
  obtain ⟨rfl, Nq45, Kq45, f45_0⟩ := hQ45
  refine Go.st st45 ?_
  have N45 := Fr.app N0 Nq45
  have K45 : Keep h0 T45.heap [] := Keep.trans K43 Kq45 (allS (Or.inr mh_ob) all0)
  have Zs45 : n0 ≤ T45.heap.size := Nat.le_trans Zs43 Kq45.1
  show Go p e below _ (T45.setTop (mkF m 12 #[.val (.ref a1), .val (.int (0 : Int32)), .val (.int (2 : Int32)), .val (.ref ob), .unset, .unset] [(.int (2 : Int32))]))
  refine g_istore X45 hx (hb hby d7_12) 14 rfl #[.val (.ref a1), .val (.int (0 : Int32)), .val (.int (2 : Int32)), .val (.ref ob), .val (.int (2 : Int32)), .unset] rfl ?_
  refine g_iload X45 hx (hb hby d7_14) 16 rfl (v := (2 : Int32)) rfl ?_
  refine g_iloadN X45 hx (hb hby d7_16) 17 rfl (v := (2 : Int32)) rfl ?_
  refine g_icmp_eq X45 hx (hb hby d7_17) 57 20 (by decide) (by decide) rfl (fun hc17 => ?_) (fun hc17 => False.elim (hc17 rfl))
  refine g_aloadN X45 hx (hb hby d7_57) 58 rfl (v := (.ref ob)) rfl rfl ?_
  refine Go.retA X45 hx hlk Bd.returns rfl rfl (hb hby d7_58) (by decide) (by decide) ?_
  show Qcmpa2 Z a1 kc x1 x2 h0 n0 _ T45.heap _
  exact ⟨ob, cA43, rfl, N45, K45, mh_ob, f45_0⟩
theorem ef_cfl2 (m : MethodId) (x0 : Addr) (x1 : Int32) : entryFrame m #[(.ref x0), (.int x1)] 2 = mkF m 0 #[.val (.ref x0), .val (.int x1)] [] := by first | (simp [entryFrame, mkF, argsToLocals, Value.category]; done) | rfl
def Qcfl2 (Z : State) (a1 : Addr) (kb : ClassId) (vs : List Value) (h0 : Heap) (n0 : Nat) (v : Option Value) (h : Heap) (L : List Loc) : Prop := v = some (.int (0 : Int32)) ∧ Fr n0 L ∧ h = h0
set_option maxRecDepth 65536 in
set_option maxHeartbeats 40000000 in
theorem rmcfl2 (l : Launch) (Z : State) (a0 : Array Value) (hw : ∀ d ∈ tables_1, d.before a0 Z = true) (ws : List Jvm.Cond) (a1 : Addr) (kb : ClassId) (vs : List Value) (h0 : Heap) (n0 : Nat) (Z0 : n0 ≤ h0.size) (A_a1 : Arv Z h0 a1 kb .byte (2 : Int32) vs (.int (0 : Int32))) :
    MetFree l (⟨"java/lang/StringUTF16", "coderFromArrayLen", "([BI)B"⟩ : MethodName) (head1 (Jvm.Cond.code (⟨"java/lang/StringUTF16", "coderFromArrayLen", "([BI)B"⟩ : MethodName) jdk_52_method_15_code 2 (some .byte) :: ws) ({ frames := 0, cells := 0, slots := 0, locals := 0 } : Room)) (fun a U => a = #[(.ref a1), (.int (2 : Int32))] ∧ Z.Warmed39 U.vm ∧ U.heap = h0) (fun _ _ _ _ _ => True) (fun _ U o U' => ∃ v L, o = .returned v ∧ Qcfl2 Z a1 kb vs h0 n0 v U'.heap L ∧ FrameEnd U o U' L ({ frames := 0, cells := 0, slots := 0, locals := 0 } : Room).cells ({ frames := 0, cells := 0, slots := 0, locals := 0 } : Room).slots) := by
  refine MetFree.of_bodySF (plainFor_of_name own_pn_java_lang_StringUTF16) hisR ?_
  intro p e s m args below meth c s₁ Bd hml0 hP hK
  obtain ⟨rfl, hZ, hh⟩ := hP
  have hx := Bd.exec
  have hby := Bd.bytes
  have hlk := Bd.notSynchronized
  have hml : c.maxLocals = 2 := hml0
  have hown : s.vm.findClass "java/lang/StringUTF16" = some m.cls := findClass_of_methodNamed Bd.named
  have hnm := (name_of_methodNamed Bd.named Bd.method).1
  have X0 : Stand p l e ({ frames := 0, cells := 0, slots := 0, locals := 0 } : Room) s m #[(.ref a1), (.int (2 : Int32))] below meth c s₁ [] 0 0 := Stand.of_body Bd
  have e0 : s₁.heap = h0 := by rw [← hh, Bd.state]; rfl
  have N0 := Fr.nil n0
  show Go p e below (KQ s below (Qcfl2 Z a1 kb vs h0 n0) ({ frames := 0, cells := 0, slots := 0, locals := 0 } : Room).cells ({ frames := 0, cells := 0, slots := 0, locals := 0 } : Room).slots) _
  refine Go.body (T := s₁) (σ := s₁) (g' := (mkF m 0 #[.val (.ref a1), .val (.int (2 : Int32))] [])) (ef_cfl2 m a1 (2 : Int32)) ?_
  refine g_iloadN X0 hx (hb hby d9_0) 1 rfl (v := (2 : Int32)) rfl ?_
  refine g_aloadN X0 hx (hb hby d9_1) 2 rfl (v := (.ref a1)) rfl rfl ?_
  refine g_alen X0 hx (hb hby d9_2) 3 rfl hZ e0 A_a1 ?_
  refine g_isub X0 hx (hb hby d9_3) 4 rfl ((2 : Int32) - (2 : Int32)) rfl ?_
  refine g_bipush X0 hx (hb hby d9_4) 6 rfl (31 : Int32) rfl ?_
  refine g_iushr X0 hx (hb hby d9_6) 7 rfl (XT.ushr ((2 : Int32) - (2 : Int32)) (31 : Int32)) rfl ?_
  refine g_i2b X0 hx (hb hby d9_7) 8 rfl (XT.ushr ((2 : Int32) - (2 : Int32)) (31 : Int32)).toInt8.toInt32 rfl ?_
  refine Go.retN X0 hx hlk (t := .byte) Bd.returns (by simp) (hb hby d9_8) (by decide) (by decide) ?_
  show Qcfl2 Z a1 kb vs h0 n0 _ s₁.heap _
  rw [e0]
  exact ⟨rfl, N0, rfl⟩
theorem ef_sV2 (m : MethodId) (x0 : Addr) (x1 : Addr) (x2 : Int32) (x3 : Int32) : entryFrame m #[(.ref x0), (.ref x1), (.int x2), (.int x3), .null] 6 = mkF m 0 #[.val (.ref x0), .val (.ref x1), .val (.int x2), .val (.int x3), .val .null, .unset] [] := by first | (simp [entryFrame, mkF, argsToLocals, Value.category]; done) | rfl
def QsV2 (Z : State) (a1 : Addr) (a2 : Addr) (cs : Int32) (kc : ClassId) (x1 : Int32) (x2 : Int32) (h0 : Heap) (n0 : Nat) (v : Option Value) (h : Heap) (L : List Loc) : Prop := ∃ vb : Addr, ∃ kb : ClassId, v = none ∧ Fr n0 L ∧ Keep h0 h [a1] ∧ h0.size ≤ vb ∧ (Exa Z h a1 "java/lang/String") ∧ (Fld Z h a1 "java/lang/String" "value" "[B" (.ref vb)) ∧ (Fld Z h a1 "java/lang/String" "coder" "B" (.int (0 : Int32))) ∧ (Arv Z h vb kb .byte (2 : Int32) ([(.int x1.toInt8.toInt32), (.int x2.toInt8.toInt32)]) (.int (0 : Int32)))
set_option maxRecDepth 65536 in
set_option maxHeartbeats 40000000 in
theorem rmsV2 (l : Launch) (Z : State) (a0 : Array Value) (hw : ∀ d ∈ tables_1, d.before a0 Z = true) (ws : List Jvm.Cond) (a1 : Addr) (a2 : Addr) (cs : Int32) (kc : ClassId) (x1 : Int32) (x2 : Int32) (h0 : Heap) (n0 : Nat) (Z0 : n0 ≤ h0.size) (S_COMPACT_STRINGS : Sta Z h0 "java/lang/String" "COMPACT_STRINGS" "Z" (.int cs)) (E_a1 : Exa Z h0 a1 "java/lang/String") (g_a1 : n0 ≤ a1) (F_value_a1 : Fld Z h0 a1 "java/lang/String" "value" "[B" .null) (F_coder_a1 : Fld Z h0 a1 "java/lang/String" "coder" "B" (.int (0 : Int32))) (A_a2 : Arv Z h0 a2 kc .char (2 : Int32) ([(.int x1), (.int x2)]) (.int (0 : Int32))) (ne_a1_a2 : a1 ≠ a2) (hcs : ¬ cs = 0) (hx1 : ¬ (255 : Int32) < x1) (hx2 : ¬ (255 : Int32) < x2) :
    MetFree l (⟨"java/lang/String", "<init>", "([CIILjava/lang/Void;)V"⟩ : MethodName) (head1 (Jvm.Cond.code (⟨"java/lang/String", "<init>", "([CIILjava/lang/Void;)V"⟩ : MethodName) jdk_42_method_149_code 6 none :: ws) ({ frames := 2, cells := 1, slots := 2, locals := 35 } : Room)) (fun a U => a = #[(.ref a1), (.ref a2), (.int (0 : Int32)), (.int (2 : Int32)), .null] ∧ Z.Warmed39 U.vm ∧ U.heap = h0) (fun _ _ _ _ _ => True) (fun _ U o U' => ∃ v L, o = .returned v ∧ QsV2 Z a1 a2 cs kc x1 x2 h0 n0 v U'.heap L ∧ FrameEnd U o U' L ({ frames := 2, cells := 1, slots := 2, locals := 35 } : Room).cells ({ frames := 2, cells := 1, slots := 2, locals := 35 } : Room).slots) := by
  refine MetFree.of_bodySF (plainFor_of_name own_pn_java_lang_String) hisR ?_
  intro p e s m args below meth c s₁ Bd hml0 hP hK
  obtain ⟨rfl, hZ, hh⟩ := hP
  have hx := Bd.exec
  have hby := Bd.bytes
  have hlk := Bd.notSynchronized
  have hml : c.maxLocals = 6 := hml0
  have hown : s.vm.findClass "java/lang/String" = some m.cls := findClass_of_methodNamed Bd.named
  have hnm := (name_of_methodNamed Bd.named Bd.method).1
  have X0 : Stand p l e ({ frames := 2, cells := 1, slots := 2, locals := 35 } : Room) s m #[(.ref a1), (.ref a2), (.int (0 : Int32)), (.int (2 : Int32)), .null] below meth c s₁ [] 0 0 := Stand.of_body Bd
  have e0 : s₁.heap = h0 := by rw [← hh, Bd.state]; rfl
  have N0 := Fr.nil n0
  have K0 : Keep h0 h0 [a1] := Keep.refl _ _
  show Go p e below (KQ s below (QsV2 Z a1 a2 cs kc x1 x2 h0 n0) ({ frames := 2, cells := 1, slots := 2, locals := 35 } : Room).cells ({ frames := 2, cells := 1, slots := 2, locals := 35 } : Room).slots) _
  refine Go.body (T := s₁) (σ := s₁) (g' := (mkF m 0 #[.val (.ref a1), .val (.ref a2), .val (.int (0 : Int32)), .val (.int (2 : Int32)), .val .null, .unset] [])) (ef_sV2 m a1 a2 (0 : Int32) (2 : Int32)) ?_
  refine g_aloadN X0 hx (hb hby d3_0) 1 rfl (v := (.ref a1)) rfl rfl ?_
  obtain ⟨T48, X48, e48, st48⟩ := initO X0 hx hZ hown (hw _ (List.mem_of_getElem? (i := 15) rfl)) (hw _ (List.mem_of_getElem? (i := 16) rfl)) (hw _ (List.mem_of_getElem? (i := 17) rfl)) e0 (g := (mkF m 1 #[.val (.ref a1), .val (.ref a2), .val (.int (0 : Int32)), .val (.int (2 : Int32)), .val .null, .unset] [(.ref a1)])) rfl (by rw [hml]; rfl) rfl (hb hby d3_1) (by decide) (W := 0) (by show 2 * 0 + _ ≤ _; exact Nat.le_of_eq rfl) (by decide)
  refine Go.st st48 ?_
  show Go p e below _ (T48.setTop (mkF m 4 #[.val (.ref a1), .val (.ref a2), .val (.int (0 : Int32)), .val (.int (2 : Int32)), .val .null, .unset] []))
  refine g_iloadN X48 hx (hb hby d3_4) 5 rfl (v := (2 : Int32)) rfl ?_
  refine g_if_ne X48 hx (hb hby d3_5) 27 8 (by decide) (by decide) rfl (fun hc5 => ?_) (fun hc5 => False.elim (absurd hc5 (by decide)))
  obtain ⟨T49, X49, e49, st49⟩ := getS2 X48 hx hZ hown (host := "") (Or.inl (hw _ (List.mem_of_getElem? (i := 32) rfl))) Via.refl e48 S_COMPACT_STRINGS (g := (mkF m 27 #[.val (.ref a1), .val (.ref a2), .val (.int (0 : Int32)), .val (.int (2 : Int32)), .val .null, .unset] [])) rfl (hb hby d3_27)
  refine Go.st st49 ?_
  show Go p e below _ (T49.setTop (mkF m 30 #[.val (.ref a1), .val (.ref a2), .val (.int (0 : Int32)), .val (.int (2 : Int32)), .val .null, .unset] [(.int cs)]))
  refine g_if_eq X49 hx (hb hby d3_30) 58 33 (by decide) (by decide) rfl (fun hc30 => False.elim (hcs hc30)) (fun hc30 => ?_)
  refine g_aloadN X49 hx (hb hby d3_33) 34 rfl (v := (.ref a2)) rfl rfl ?_
  refine g_iloadN X49 hx (hb hby d3_34) 35 rfl (v := (0 : Int32)) rfl ?_
  refine g_iloadN X49 hx (hb hby d3_35) 36 rfl (v := (2 : Int32)) rfl ?_
  obtain ⟨_, _, ⟨T50, L50, k50, n50⟩, -, X50, ⟨Lc50, hQ50, l50, y50, z50⟩, st50⟩ := Jvm.LawKit.callS X49 hx (y := (⟨"java/lang/StringUTF16", "compress", "([CII)[B"⟩ : MethodName)) hown (mvT hZ (hw _ (List.mem_of_getElem? (i := 33) rfl))) (mvT hZ (hw _ (List.mem_of_getElem? (i := 34) rfl))) (mvT hZ (hw _ (List.mem_of_getElem? (i := 35) rfl))) (mvT hZ (hw _ (List.mem_of_getElem? (i := 36) rfl))) (by decide) (backOf (W := 0) (rmcmpa2 l Z a0 hw [] a2 kc x1 x2 h0 n0 Z0 A_a2 hx1 hx2) hZ (hw _ (List.mem_of_getElem? (i := 36) rfl)) (hw _ (List.mem_of_getElem? (i := 35) rfl)) (by decide) (by decide)) (g := (mkF m 36 #[.val (.ref a1), .val (.ref a2), .val (.int (0 : Int32)), .val (.int (2 : Int32)), .val .null, .unset] [(.int (2 : Int32)), (.int (0 : Int32)), (.ref a2)])) rfl (by rw [hml]; rfl) (argsL := [(.ref a2), (.int (0 : Int32)), (.int (2 : Int32))]) (rest := []) (lenOf own_pd2 rfl) rfl (by show 2 * 0 + _ ≤ _; exact Nat.le_of_eq rfl) (hb hby d3_36) (fun _ _ => ⟨rfl, e49, (by decide : 0 + 1 ≤ _), (by decide : 0 + 2 ≤ _)⟩)
  dsimp only [Pt.U, Pt.locs, Pt.cells, Pt.slots] at X50 l50 y50 z50 st50 hQ50
  subst l50 y50 z50
  obtain ⟨ovb, okb, rfl, Nq50, Kq50, f50_0, f50_1⟩ := hQ50
  refine Go.st st50 ?_
  have N50 := Fr.app N0 Nq50
  have S_COMPACT_STRINGS_51 : Sta Z T50.heap "java/lang/String" "COMPACT_STRINGS" "Z" (.int cs) := own_Sta_keep S_COMPACT_STRINGS Kq50 all0
  have E_a1_51 : Exa Z T50.heap a1 "java/lang/String" := Exa.keep E_a1 Kq50
  have F_value_a1_51 : Fld Z T50.heap a1 "java/lang/String" "value" "[B" .null := Fld.keep F_value_a1 Kq50 nin0
  have F_coder_a1_51 : Fld Z T50.heap a1 "java/lang/String" "coder" "B" (.int (0 : Int32)) := Fld.keep F_coder_a1 Kq50 nin0
  have ne_a1_ovb : a1 ≠ ovb := Nat.ne_of_lt (Nat.lt_of_lt_of_le E_a1.lt f50_0)
  have g_ovb : n0 ≤ ovb := Nat.le_trans Z0 f50_0
  have mh_ovb : h0.size ≤ ovb := Nat.le_trans K0.1 f50_0
  have K50 : Keep h0 T50.heap [a1] := Keep.trans K0 Kq50 all0
  have Zs50 : n0 ≤ T50.heap.size := Nat.le_trans Z0 Kq50.1
  show Go p e below _ (T50.setTop (mkF m 39 #[.val (.ref a1), .val (.ref a2), .val (.int (0 : Int32)), .val (.int (2 : Int32)), .val .null, .unset] [(.ref ovb)]))
  refine g_astore X50 hx (hb hby d3_39) 41 rfl rfl #[.val (.ref a1), .val (.ref a2), .val (.int (0 : Int32)), .val (.int (2 : Int32)), .val .null, .val (.ref ovb)] rfl ?_
  refine g_aloadN X50 hx (hb hby d3_41) 42 rfl (v := (.ref a1)) rfl rfl ?_
  refine g_aload X50 hx (hb hby d3_42) 44 rfl (v := (.ref ovb)) rfl rfl ?_
  refine g_iloadN X50 hx (hb hby d3_44) 45 rfl (v := (2 : Int32)) rfl ?_
  obtain ⟨_, _, ⟨T52, L52, k52, n52⟩, -, X52, ⟨Lc52, hQ52, l52, y52, z52⟩, st52⟩ := Jvm.LawKit.callS X50 hx (y := (⟨"java/lang/StringUTF16", "coderFromArrayLen", "([BI)B"⟩ : MethodName)) hown (mvT hZ (hw _ (List.mem_of_getElem? (i := 40) rfl))) (mvT hZ (hw _ (List.mem_of_getElem? (i := 41) rfl))) (mvT hZ (hw _ (List.mem_of_getElem? (i := 35) rfl))) (mvT hZ (hw _ (List.mem_of_getElem? (i := 42) rfl))) (by decide) (backOf (W := 1) (rmcfl2 l Z a0 hw [] ovb okb ([(.int x1.toInt8.toInt32), (.int x2.toInt8.toInt32)]) T50.heap n0 Zs50 f50_1) hZ (hw _ (List.mem_of_getElem? (i := 42) rfl)) (hw _ (List.mem_of_getElem? (i := 35) rfl)) (by decide) (by decide)) (g := (mkF m 45 #[.val (.ref a1), .val (.ref a2), .val (.int (0 : Int32)), .val (.int (2 : Int32)), .val .null, .val (.ref ovb)] [(.int (2 : Int32)), (.ref ovb), (.ref a1)])) rfl (by rw [hml]; rfl) (argsL := [(.ref ovb), (.int (2 : Int32))]) (rest := [(.ref a1)]) (lenOf own_pd3 rfl) rfl (by show 2 * 0 + _ ≤ _; exact Nat.le_of_eq rfl) (hb hby d3_45) (fun _ _ => ⟨rfl, rfl, (by decide : 1 + 0 ≤ _), (by decide : 2 + 0 ≤ _)⟩)
  dsimp only [Pt.U, Pt.locs, Pt.cells, Pt.slots] at X52 l52 y52 z52 st52 hQ52
  subst l52 y52 z52
  obtain ⟨rfl, Nq52, e52⟩ := hQ52
  refine Go.st st52 ?_
  have N52 := Fr.app N50 Nq52
  show Go p e below _ (T52.setTop (mkF m 48 #[.val (.ref a1), .val (.ref a2), .val (.int (0 : Int32)), .val (.int (2 : Int32)), .val .null, .val (.ref ovb)] [(.int (0 : Int32)), (.ref a1)]))
  obtain ⟨T53, h53, X53, e53, W53, st53⟩ := putF X52 hx hZ hown (host := "") (Or.inl (hw _ (List.mem_of_getElem? (i := 25) rfl))) Via.refl e52 F_coder_a1_51 E_a1_51 (Or.inr ⟨(hw _ (List.mem_of_getElem? (i := 21) rfl)), rfl, hnm⟩) (hw _ (List.mem_of_getElem? (i := 5) rfl)) (ty := .byte) (by decide) rfl rfl (g := (mkF m 48 #[.val (.ref a1), .val (.ref a2), .val (.int (0 : Int32)), .val (.int (2 : Int32)), .val .null, .val (.ref ovb)] [(.int (0 : Int32)), (.ref a1)])) rfl rfl (hb hby d3_48)
  refine Go.st st53 ?_
  have S_COMPACT_STRINGS_54 : Sta Z h53 "java/lang/String" "COMPACT_STRINGS" "Z" (.int cs) := Sta.wr W53 S_COMPACT_STRINGS_51
  have E_a1_54 : Exa Z h53 a1 "java/lang/String" := Exa.wr W53 E_a1_51
  have F_value_a1_54 : Fld Z h53 a1 "java/lang/String" "value" "[B" .null := Fld.other W53 F_value_a1_51 (Or.inr (slot_ne (Or.inr (hw _ (List.mem_of_getElem? (i := 20) rfl))) (Or.inr (hw _ (List.mem_of_getElem? (i := 21) rfl))) (by decide) (t := (.array .byte)) (t' := .byte) (by decide) (by decide)))
  have A_ovb_54 : Arv Z h53 ovb okb .byte (2 : Int32) ([(.int x1.toInt8.toInt32), (.int x2.toInt8.toInt32)]) (.int (0 : Int32)) := Arv.other f50_1 W53 (Ne.symm ne_a1_ovb)
  have F_coder_a1_53w : Fld Z h53 a1 "java/lang/String" "coder" "B" (.int (0 : Int32)) := Fld.same W53 F_coder_a1_51
  have K53 : Keep h0 h53 [a1] := Keep.wr K50 W53 (Or.inl (List.mem_of_getElem? (i := 0) rfl))
  have N53 := Fr.snoc X53 N52 g_a1
  have Zs53 : n0 ≤ h53.size := by rw [W53.size]; exact Zs50
  show Go p e below _ (T53.setTop (mkF m 51 #[.val (.ref a1), .val (.ref a2), .val (.int (0 : Int32)), .val (.int (2 : Int32)), .val .null, .val (.ref ovb)] []))
  refine g_aloadN X53 hx (hb hby d3_51) 52 rfl (v := (.ref a1)) rfl rfl ?_
  refine g_aload X53 hx (hb hby d3_52) 54 rfl (v := (.ref ovb)) rfl rfl ?_
  obtain ⟨T55, h55, X55, e55, W55, st55⟩ := putF X53 hx hZ hown (host := "") (Or.inl (hw _ (List.mem_of_getElem? (i := 24) rfl))) Via.refl e53 F_value_a1_54 E_a1_54 (Or.inr ⟨(hw _ (List.mem_of_getElem? (i := 20) rfl)), rfl, hnm⟩) (hw _ (List.mem_of_getElem? (i := 5) rfl)) (ty := (.array .byte)) (by decide) rfl rfl (g := (mkF m 54 #[.val (.ref a1), .val (.ref a2), .val (.int (0 : Int32)), .val (.int (2 : Int32)), .val .null, .val (.ref ovb)] [(.ref ovb), (.ref a1)])) rfl rfl (hb hby d3_54)
  refine Go.st st55 ?_
  have S_COMPACT_STRINGS_56 : Sta Z h55 "java/lang/String" "COMPACT_STRINGS" "Z" (.int cs) := Sta.wr W55 S_COMPACT_STRINGS_54
  have E_a1_56 : Exa Z h55 a1 "java/lang/String" := Exa.wr W55 E_a1_54
  have A_ovb_56 : Arv Z h55 ovb okb .byte (2 : Int32) ([(.int x1.toInt8.toInt32), (.int x2.toInt8.toInt32)]) (.int (0 : Int32)) := Arv.other A_ovb_54 W55 (Ne.symm ne_a1_ovb)
  have F_coder_a1_56 : Fld Z h55 a1 "java/lang/String" "coder" "B" (.int (0 : Int32)) := Fld.other W55 F_coder_a1_53w (Or.inr (slot_ne (Or.inr (hw _ (List.mem_of_getElem? (i := 21) rfl))) (Or.inr (hw _ (List.mem_of_getElem? (i := 20) rfl))) (by decide) (t := .byte) (t' := (.array .byte)) (by decide) (by decide)))
  have F_value_a1_55w : Fld Z h55 a1 "java/lang/String" "value" "[B" (.ref ovb) := Fld.same W55 F_value_a1_54
  have K55 : Keep h0 h55 [a1] := Keep.wr K53 W55 (Or.inl (List.mem_of_getElem? (i := 0) rfl))
  have N55 := Fr.snoc X55 N53 g_a1
  have Zs55 : n0 ≤ h55.size := by rw [W55.size]; exact Zs53
  show Go p e below _ (T55.setTop (mkF m 57 #[.val (.ref a1), .val (.ref a2), .val (.int (0 : Int32)), .val (.int (2 : Int32)), .val .null, .val (.ref ovb)] []))
  refine Go.retV X55 hx hlk Bd.returns (hb hby d3_57) (by decide) (by decide) ?_
  show QsV2 Z a1 a2 cs kc x1 x2 h0 n0 _ T55.heap _
  rw [e55]
  exact ⟨ovb, okb, rfl, N55, K55, mh_ovb, E_a1_56, F_value_a1_55w, F_coder_a1_56, A_ovb_56⟩
theorem ef_sC2 (m : MethodId) (x0 : Addr) (x1 : Addr) : entryFrame m #[(.ref x0), (.ref x1)] 2 = mkF m 0 #[.val (.ref x0), .val (.ref x1)] [] := by first | (simp [entryFrame, mkF, argsToLocals, Value.category]; done) | rfl
def QsC2 (Z : State) (a1 : Addr) (a2 : Addr) (cs : Int32) (kc : ClassId) (x1 : Int32) (x2 : Int32) (h0 : Heap) (n0 : Nat) (v : Option Value) (h : Heap) (L : List Loc) : Prop := ∃ vb : Addr, ∃ kb : ClassId, v = none ∧ Fr n0 L ∧ Keep h0 h [a1] ∧ h0.size ≤ vb ∧ (Exa Z h a1 "java/lang/String") ∧ (Fld Z h a1 "java/lang/String" "value" "[B" (.ref vb)) ∧ (Fld Z h a1 "java/lang/String" "coder" "B" (.int (0 : Int32))) ∧ (Arv Z h vb kb .byte (2 : Int32) ([(.int x1.toInt8.toInt32), (.int x2.toInt8.toInt32)]) (.int (0 : Int32)))
set_option maxRecDepth 65536 in
set_option maxHeartbeats 40000000 in
theorem rmsC2 (l : Launch) (Z : State) (a0 : Array Value) (hw : ∀ d ∈ tables_1, d.before a0 Z = true) (ws : List Jvm.Cond) (a1 : Addr) (a2 : Addr) (cs : Int32) (kc : ClassId) (x1 : Int32) (x2 : Int32) (h0 : Heap) (n0 : Nat) (Z0 : n0 ≤ h0.size) (S_COMPACT_STRINGS : Sta Z h0 "java/lang/String" "COMPACT_STRINGS" "Z" (.int cs)) (E_a1 : Exa Z h0 a1 "java/lang/String") (g_a1 : n0 ≤ a1) (F_value_a1 : Fld Z h0 a1 "java/lang/String" "value" "[B" .null) (F_coder_a1 : Fld Z h0 a1 "java/lang/String" "coder" "B" (.int (0 : Int32))) (A_a2 : Arv Z h0 a2 kc .char (2 : Int32) ([(.int x1), (.int x2)]) (.int (0 : Int32))) (ne_a1_a2 : a1 ≠ a2) (hcs : ¬ cs = 0) (hx1 : ¬ (255 : Int32) < x1) (hx2 : ¬ (255 : Int32) < x2) :
    MetFree l (⟨"java/lang/String", "<init>", "([C)V"⟩ : MethodName) (head1 (Jvm.Cond.code (⟨"java/lang/String", "<init>", "([C)V"⟩ : MethodName) jdk_42_method_3_code 2 none :: ws) ({ frames := 3, cells := 1, slots := 2, locals := 52 } : Room)) (fun a U => a = #[(.ref a1), (.ref a2)] ∧ Z.Warmed39 U.vm ∧ U.heap = h0) (fun _ _ _ _ _ => True) (fun _ U o U' => ∃ v L, o = .returned v ∧ QsC2 Z a1 a2 cs kc x1 x2 h0 n0 v U'.heap L ∧ FrameEnd U o U' L ({ frames := 3, cells := 1, slots := 2, locals := 52 } : Room).cells ({ frames := 3, cells := 1, slots := 2, locals := 52 } : Room).slots) := by
  refine MetFree.of_bodySF (plainFor_of_name own_pn_java_lang_String) hisR ?_
  intro p e s m args below meth c s₁ Bd hml0 hP hK
  obtain ⟨rfl, hZ, hh⟩ := hP
  have hx := Bd.exec
  have hby := Bd.bytes
  have hlk := Bd.notSynchronized
  have hml : c.maxLocals = 2 := hml0
  have hown : s.vm.findClass "java/lang/String" = some m.cls := findClass_of_methodNamed Bd.named
  have hnm := (name_of_methodNamed Bd.named Bd.method).1
  have X0 : Stand p l e ({ frames := 3, cells := 1, slots := 2, locals := 52 } : Room) s m #[(.ref a1), (.ref a2)] below meth c s₁ [] 0 0 := Stand.of_body Bd
  have e0 : s₁.heap = h0 := by rw [← hh, Bd.state]; rfl
  have N0 := Fr.nil n0
  have K0 : Keep h0 h0 [a1] := Keep.refl _ _
  show Go p e below (KQ s below (QsC2 Z a1 a2 cs kc x1 x2 h0 n0) ({ frames := 3, cells := 1, slots := 2, locals := 52 } : Room).cells ({ frames := 3, cells := 1, slots := 2, locals := 52 } : Room).slots) _
  refine Go.body (T := s₁) (σ := s₁) (g' := (mkF m 0 #[.val (.ref a1), .val (.ref a2)] [])) (ef_sC2 m a1 a2) ?_
  refine g_aloadN X0 hx (hb hby d2_0) 1 rfl (v := (.ref a1)) rfl rfl ?_
  refine g_aloadN X0 hx (hb hby d2_1) 2 rfl (v := (.ref a2)) rfl rfl ?_
  refine g_iconst X0 hx (hb hby d2_2) 3 rfl (0 : Int32) rfl ?_
  refine g_aloadN X0 hx (hb hby d2_3) 4 rfl (v := (.ref a2)) rfl rfl ?_
  refine g_alen X0 hx (hb hby d2_4) 5 rfl hZ e0 A_a2 ?_
  refine g_null X0 hx (hb hby d2_5) 6 rfl ?_
  obtain ⟨_, _, ⟨T58, L58, k58, n58⟩, -, X58, ⟨Lc58, hQ58, l58, y58, z58⟩, st58⟩ := X0.specialBack hx (y := (⟨"java/lang/String", "<init>", "([CIILjava/lang/Void;)V"⟩ : MethodName)) rfl hown (mvT hZ (hw _ (List.mem_of_getElem? (i := 11) rfl))) (mvT hZ (hw _ (List.mem_of_getElem? (i := 12) rfl))) (mvT hZ (hw _ (List.mem_of_getElem? (i := 14) rfl))) (by decide) (backOf (W := 0) (rmsV2 l Z a0 hw [] a1 a2 cs kc x1 x2 h0 n0 Z0 S_COMPACT_STRINGS E_a1 g_a1 F_value_a1 F_coder_a1 A_a2 ne_a1_a2 hcs hx1 hx2) hZ (hw _ (List.mem_of_getElem? (i := 14) rfl)) (hw _ (List.mem_of_getElem? (i := 6) rfl)) (by decide) (by decide)) (g := (mkF m 6 #[.val (.ref a1), .val (.ref a2)] [.null, (.int (2 : Int32)), (.int (0 : Int32)), (.ref a2), (.ref a1)])) rfl (by rw [hml]; rfl) (Steps.refl _) (a := a1) (argsL := [(.ref a2), (.int (0 : Int32)), (.int (2 : Int32)), .null]) (rest := []) (lenOf own_pd0 rfl) rfl (by show 2 * 0 + _ ≤ _; exact Nat.le_of_eq rfl) (hb hby d2_6) (fun _ _ => ⟨rfl, e0, (by decide : 0 + 1 ≤ _), (by decide : 0 + 2 ≤ _)⟩)
  dsimp only [Pt.U, Pt.locs, Pt.cells, Pt.slots] at X58 l58 y58 z58 st58 hQ58
  subst l58 y58 z58
  obtain ⟨ovb, okb, rfl, Nq58, Kq58, f58_0, f58_1, f58_2, f58_3, f58_4⟩ := hQ58
  refine Go.tr st58 ?_
  have N58 := Fr.app N0 Nq58
  have S_COMPACT_STRINGS_59 : Sta Z T58.heap "java/lang/String" "COMPACT_STRINGS" "Z" (.int cs) := own_Sta_keep S_COMPACT_STRINGS Kq58 (allS (own_ns E_a1) all0)
  have E_a1_59 : Exa Z T58.heap a1 "java/lang/String" := Exa.keep E_a1 Kq58
  have ne_a1_ovb : a1 ≠ ovb := Nat.ne_of_lt (Nat.lt_of_lt_of_le E_a1.lt f58_0)
  have g_ovb : n0 ≤ ovb := Nat.le_trans Z0 f58_0
  have mh_ovb : h0.size ≤ ovb := Nat.le_trans K0.1 f58_0
  have K58 : Keep h0 T58.heap [a1] := Keep.trans K0 Kq58 (allS (Or.inl (List.mem_of_getElem? (i := 0) rfl)) all0)
  have Zs58 : n0 ≤ T58.heap.size := Nat.le_trans Z0 Kq58.1
  show Go p e below _ (T58.setTop (mkF m 9 #[.val (.ref a1), .val (.ref a2)] []))
  refine Go.retV X58 hx hlk Bd.returns (hb hby d2_9) (by decide) (by decide) ?_
  show QsC2 Z a1 a2 cs kc x1 x2 h0 n0 _ T58.heap _
  exact ⟨ovb, okb, rfl, N58, K58, mh_ovb, f58_1, f58_2, f58_3, f58_4⟩
theorem own_pn_com_example_varigraph_varigraph_graph_NameIsPinLaw : plainName "com/example/varigraph/varigraph/graph/NameIsPinLaw" = true := by first | (simp [plainName, overriddenIn]; done) | decide +kernel
theorem ef_5 (m : MethodId) (x0 : Int32) : entryFrame m #[(.int x0)] 1 = mkF m 0 #[.val (.int x0)] [] := by first | (simp [entryFrame, mkF, argsToLocals, Value.category]; done) | rfl
theorem d5_0 : decode method_2_code 0 = .ok (.iload_n 0, 1) := by decide +kernel
theorem d5_1 : decode method_2_code 1 = .ok (.iconst 2, 1) := by decide +kernel
theorem d5_2 : decode method_2_code 2 = .ok (.iushr, 1) := by decide +kernel
theorem d5_3 : decode method_2_code 3 = .ok (.sipush 255, 3) := by decide +kernel
theorem d5_6 : decode method_2_code 6 = .ok (.iand, 1) := by decide +kernel
theorem d5_7 : decode method_2_code 7 = .ok (.i2c, 1) := by decide +kernel
theorem d5_8 : decode method_2_code 8 = .ok (.ireturn, 1) := by decide +kernel
def Q5 (Z : State) (p1 : Int32) (h0 : Heap) (n0 : Nat) (v : Option Value) (h : Heap) (L : List Loc) : Prop := v = some (.int (own_c0 p1)) ∧ Fr n0 L ∧ h = h0
set_option maxRecDepth 65536 in
set_option maxHeartbeats 40000000 in
theorem rm5 (l : Launch) (Z : State) (a0 : Array Value) (hw : ∀ d ∈ tables_1, d.before a0 Z = true) (ws : List Jvm.Cond) (p1 : Int32) (h0 : Heap) (n0 : Nat) (Z0 : n0 ≤ h0.size)  :
    MetFree l (⟨"com/example/varigraph/varigraph/graph/NameIsPinLaw", "ch0", "(I)C"⟩ : MethodName) (head1 (Jvm.Cond.code (⟨"com/example/varigraph/varigraph/graph/NameIsPinLaw", "ch0", "(I)C"⟩ : MethodName) method_2_code 1 (some .char) :: ws) ({ frames := 0, cells := 0, slots := 0, locals := 0 } : Room)) (fun a U => a = #[(.int p1)] ∧ Z.Warmed39 U.vm ∧ U.heap = h0) (fun _ _ _ _ _ => True) (fun _ U o U' => ∃ v L, o = .returned v ∧ Q5 Z p1 h0 n0 v U'.heap L ∧ FrameEnd U o U' L ({ frames := 0, cells := 0, slots := 0, locals := 0 } : Room).cells ({ frames := 0, cells := 0, slots := 0, locals := 0 } : Room).slots) := by
  refine MetFree.of_bodySF (plainFor_of_name own_pn_com_example_varigraph_varigraph_graph_NameIsPinLaw) hisR ?_
  intro p e s m args below meth c s₁ Bd hml0 hP hK
  obtain ⟨rfl, hZ, hh⟩ := hP
  have hx := Bd.exec
  have hby := Bd.bytes
  have hlk := Bd.notSynchronized
  have hml : c.maxLocals = 1 := hml0
  have hown : s.vm.findClass "com/example/varigraph/varigraph/graph/NameIsPinLaw" = some m.cls := findClass_of_methodNamed Bd.named
  have hnm := (name_of_methodNamed Bd.named Bd.method).1
  have X0 : Stand p l e ({ frames := 0, cells := 0, slots := 0, locals := 0 } : Room) s m #[(.int p1)] below meth c s₁ [] 0 0 := Stand.of_body Bd
  have e0 : s₁.heap = h0 := by rw [← hh, Bd.state]; rfl
  have N0 := Fr.nil n0
  show Go p e below (KQ s below (Q5 Z p1 h0 n0) ({ frames := 0, cells := 0, slots := 0, locals := 0 } : Room).cells ({ frames := 0, cells := 0, slots := 0, locals := 0 } : Room).slots) _
  refine Go.body (T := s₁) (σ := s₁) (g' := (mkF m 0 #[.val (.int p1)] [])) (ef_5 m p1) ?_
  refine g_iloadN X0 hx (hb hby d5_0) 1 rfl (v := p1) rfl ?_
  refine g_iconst X0 hx (hb hby d5_1) 2 rfl (2 : Int32) rfl ?_
  refine g_iushr X0 hx (hb hby d5_2) 3 rfl (XT.ushr p1 (2 : Int32)) rfl ?_
  refine g_sipush X0 hx (hb hby d5_3) 6 rfl (255 : Int32) rfl ?_
  refine g_iand X0 hx (hb hby d5_6) 7 rfl ((XT.ushr p1 (2 : Int32)) &&& (255 : Int32)) rfl ?_
  refine g_i2c X0 hx (hb hby d5_7) 8 rfl ((XT.ushr p1 (2 : Int32)) &&& (255 : Int32)).toUInt32.toUInt16.toUInt32.toInt32 rfl ?_
  refine Go.retN X0 hx hlk (t := .char) Bd.returns (by simp) (hb hby d5_8) (by decide) (by decide) ?_
  show Q5 Z p1 h0 n0 _ s₁.heap _
  rw [e0]
  exact ⟨(by rw [own_chr]; rfl), N0, rfl⟩
theorem ef_6 (m : MethodId) (x0 : Int32) : entryFrame m #[(.int x0)] 1 = mkF m 0 #[.val (.int x0)] [] := by first | (simp [entryFrame, mkF, argsToLocals, Value.category]; done) | rfl
theorem d6_0 : decode method_3_code 0 = .ok (.iload_n 0, 1) := by decide +kernel
theorem d6_1 : decode method_3_code 1 = .ok (.bipush 10, 2) := by decide +kernel
theorem d6_3 : decode method_3_code 3 = .ok (.iushr, 1) := by decide +kernel
theorem d6_4 : decode method_3_code 4 = .ok (.sipush 255, 3) := by decide +kernel
theorem d6_7 : decode method_3_code 7 = .ok (.iand, 1) := by decide +kernel
theorem d6_8 : decode method_3_code 8 = .ok (.i2c, 1) := by decide +kernel
theorem d6_9 : decode method_3_code 9 = .ok (.ireturn, 1) := by decide +kernel
def Q6 (Z : State) (p1 : Int32) (h0 : Heap) (n0 : Nat) (v : Option Value) (h : Heap) (L : List Loc) : Prop := v = some (.int (own_c1 p1)) ∧ Fr n0 L ∧ h = h0
set_option maxRecDepth 65536 in
set_option maxHeartbeats 40000000 in
theorem rm6 (l : Launch) (Z : State) (a0 : Array Value) (hw : ∀ d ∈ tables_1, d.before a0 Z = true) (ws : List Jvm.Cond) (p1 : Int32) (h0 : Heap) (n0 : Nat) (Z0 : n0 ≤ h0.size)  :
    MetFree l (⟨"com/example/varigraph/varigraph/graph/NameIsPinLaw", "ch1", "(I)C"⟩ : MethodName) (head1 (Jvm.Cond.code (⟨"com/example/varigraph/varigraph/graph/NameIsPinLaw", "ch1", "(I)C"⟩ : MethodName) method_3_code 1 (some .char) :: ws) ({ frames := 0, cells := 0, slots := 0, locals := 0 } : Room)) (fun a U => a = #[(.int p1)] ∧ Z.Warmed39 U.vm ∧ U.heap = h0) (fun _ _ _ _ _ => True) (fun _ U o U' => ∃ v L, o = .returned v ∧ Q6 Z p1 h0 n0 v U'.heap L ∧ FrameEnd U o U' L ({ frames := 0, cells := 0, slots := 0, locals := 0 } : Room).cells ({ frames := 0, cells := 0, slots := 0, locals := 0 } : Room).slots) := by
  refine MetFree.of_bodySF (plainFor_of_name own_pn_com_example_varigraph_varigraph_graph_NameIsPinLaw) hisR ?_
  intro p e s m args below meth c s₁ Bd hml0 hP hK
  obtain ⟨rfl, hZ, hh⟩ := hP
  have hx := Bd.exec
  have hby := Bd.bytes
  have hlk := Bd.notSynchronized
  have hml : c.maxLocals = 1 := hml0
  have hown : s.vm.findClass "com/example/varigraph/varigraph/graph/NameIsPinLaw" = some m.cls := findClass_of_methodNamed Bd.named
  have hnm := (name_of_methodNamed Bd.named Bd.method).1
  have X0 : Stand p l e ({ frames := 0, cells := 0, slots := 0, locals := 0 } : Room) s m #[(.int p1)] below meth c s₁ [] 0 0 := Stand.of_body Bd
  have e0 : s₁.heap = h0 := by rw [← hh, Bd.state]; rfl
  have N0 := Fr.nil n0
  show Go p e below (KQ s below (Q6 Z p1 h0 n0) ({ frames := 0, cells := 0, slots := 0, locals := 0 } : Room).cells ({ frames := 0, cells := 0, slots := 0, locals := 0 } : Room).slots) _
  refine Go.body (T := s₁) (σ := s₁) (g' := (mkF m 0 #[.val (.int p1)] [])) (ef_6 m p1) ?_
  refine g_iloadN X0 hx (hb hby d6_0) 1 rfl (v := p1) rfl ?_
  refine g_bipush X0 hx (hb hby d6_1) 3 rfl (10 : Int32) rfl ?_
  refine g_iushr X0 hx (hb hby d6_3) 4 rfl (XT.ushr p1 (10 : Int32)) rfl ?_
  refine g_sipush X0 hx (hb hby d6_4) 7 rfl (255 : Int32) rfl ?_
  refine g_iand X0 hx (hb hby d6_7) 8 rfl ((XT.ushr p1 (10 : Int32)) &&& (255 : Int32)) rfl ?_
  refine g_i2c X0 hx (hb hby d6_8) 9 rfl ((XT.ushr p1 (10 : Int32)) &&& (255 : Int32)).toUInt32.toUInt16.toUInt32.toInt32 rfl ?_
  refine Go.retN X0 hx hlk (t := .char) Bd.returns (by simp) (hb hby d6_9) (by decide) (by decide) ?_
  show Q6 Z p1 h0 n0 _ s₁.heap _
  rw [e0]
  exact ⟨(by rw [own_chr]; rfl), N0, rfl⟩
theorem ef_str (m : MethodId) (x0 : Int32) (x1 : Int32) : entryFrame m #[(.int x0), (.int x1)] 2 = mkF m 0 #[.val (.int x0), .val (.int x1)] [] := by first | (simp [entryFrame, mkF, argsToLocals, Value.category]; done) | rfl
theorem d1_0 : decode method_4_code 0 = .ok (.iload_n 1, 1) := by decide +kernel
theorem d1_1 : decode method_4_code 1 = .ok (.ifCond .gt 14, 3) := by decide +kernel
theorem d1_15 : decode method_4_code 15 = .ok (.iload_n 1, 1) := by decide +kernel
theorem d1_16 : decode method_4_code 16 = .ok (.iconst 1, 1) := by decide +kernel
theorem d1_17 : decode method_4_code 17 = .ok (.if_icmp .ne 21, 3) := by decide +kernel
theorem d1_38 : decode method_4_code 38 = .ok (.new 7, 3) := by decide +kernel
theorem d1_41 : decode method_4_code 41 = .ok (.dup, 1) := by decide +kernel
theorem d1_42 : decode method_4_code 42 = .ok (.iconst 2, 1) := by decide +kernel
theorem d1_43 : decode method_4_code 43 = .ok (.newarray .char, 2) := by decide +kernel
theorem d1_45 : decode method_4_code 45 = .ok (.dup, 1) := by decide +kernel
theorem d1_46 : decode method_4_code 46 = .ok (.iconst 0, 1) := by decide +kernel
theorem d1_47 : decode method_4_code 47 = .ok (.iload_n 0, 1) := by decide +kernel
theorem own_pd4 : parseMethodDescriptor "(I)C" = some ⟨[.int], some .char⟩ := by decide +kernel
theorem d1_48 : decode method_4_code 48 = .ok (.invokestatic 12, 3) := by decide +kernel
theorem d1_51 : decode method_4_code 51 = .ok (.castore, 1) := by decide +kernel
theorem d1_52 : decode method_4_code 52 = .ok (.dup, 1) := by decide +kernel
theorem d1_53 : decode method_4_code 53 = .ok (.iconst 1, 1) := by decide +kernel
theorem d1_54 : decode method_4_code 54 = .ok (.iload_n 0, 1) := by decide +kernel
theorem d1_55 : decode method_4_code 55 = .ok (.invokestatic 18, 3) := by decide +kernel
theorem d1_58 : decode method_4_code 58 = .ok (.castore, 1) := by decide +kernel
theorem own_pd5 : parseMethodDescriptor "([C)V" = some ⟨[(.array .char)], none⟩ := by decide +kernel
theorem d1_59 : decode method_4_code 59 = .ok (.invokespecial 9, 3) := by decide +kernel
theorem d1_62 : decode method_4_code 62 = .ok (.areturn, 1) := by decide +kernel
theorem d1_20 : decode method_4_code 20 = .ok (.new 7, 3) := by decide +kernel
theorem d1_23 : decode method_4_code 23 = .ok (.dup, 1) := by decide +kernel
theorem d1_24 : decode method_4_code 24 = .ok (.iconst 1, 1) := by decide +kernel
theorem d1_25 : decode method_4_code 25 = .ok (.newarray .char, 2) := by decide +kernel
theorem d1_27 : decode method_4_code 27 = .ok (.dup, 1) := by decide +kernel
theorem d1_28 : decode method_4_code 28 = .ok (.iconst 0, 1) := by decide +kernel
theorem d1_29 : decode method_4_code 29 = .ok (.iload_n 0, 1) := by decide +kernel
theorem d1_30 : decode method_4_code 30 = .ok (.invokestatic 12, 3) := by decide +kernel
theorem d1_33 : decode method_4_code 33 = .ok (.castore, 1) := by decide +kernel
theorem d1_34 : decode method_4_code 34 = .ok (.invokespecial 9, 3) := by decide +kernel
theorem d1_37 : decode method_4_code 37 = .ok (.areturn, 1) := by decide +kernel
theorem d1_4 : decode method_4_code 4 = .ok (.new 7, 3) := by decide +kernel
theorem d1_7 : decode method_4_code 7 = .ok (.dup, 1) := by decide +kernel
theorem d1_8 : decode method_4_code 8 = .ok (.iconst 0, 1) := by decide +kernel
theorem d1_9 : decode method_4_code 9 = .ok (.newarray .char, 2) := by decide +kernel
theorem d1_11 : decode method_4_code 11 = .ok (.invokespecial 9, 3) := by decide +kernel
theorem d1_14 : decode method_4_code 14 = .ok (.areturn, 1) := by decide +kernel
def Qstr (Z : State) (p1 : Int32) (p2 : Int32) (cs : Int32) (h0 : Heap) (n0 : Nat) (v : Option Value) (h : Heap) (L : List Loc) : Prop := ∃ b : Addr, ∃ vb : Addr, ∃ kb : ClassId, v = some (.ref b) ∧ Fr n0 L ∧ Keep h0 h [] ∧ h0.size ≤ b ∧ (Exa Z h b "java/lang/String") ∧ (Fld Z h b "java/lang/String" "value" "[B" (.ref vb)) ∧ (Fld Z h b "java/lang/String" "coder" "B" (.int (0 : Int32))) ∧ (Arv Z h vb kb .byte (Int32.ofNat (own_us p1 p2).length) ((own_us p1 p2).map Value.int) (.int (0 : Int32))) ∧ (b ≠ vb)
set_option maxRecDepth 65536 in
set_option maxHeartbeats 40000000 in
theorem rmstr (l : Launch) (Z : State) (a0 : Array Value) (hw : ∀ d ∈ tables_1, d.before a0 Z = true) (ws : List Jvm.Cond) (p1 : Int32) (p2 : Int32) (cs : Int32) (h0 : Heap) (n0 : Nat) (Z0 : n0 ≤ h0.size) (S_COMPACT_STRINGS : Sta Z h0 "java/lang/String" "COMPACT_STRINGS" "Z" (.int cs)) (hcs : ¬ cs = 0) :
    MetFree l (⟨"com/example/varigraph/varigraph/graph/NameIsPinLaw", "str", "(II)Ljava/lang/String;"⟩ : MethodName) (head1 (Jvm.Cond.code (⟨"com/example/varigraph/varigraph/graph/NameIsPinLaw", "str", "(II)Ljava/lang/String;"⟩ : MethodName) method_4_code 2 (some (.object "java/lang/String")) :: ws) ({ frames := 4, cells := 6, slots := 12, locals := 66 } : Room)) (fun a U => a = #[(.int p1), (.int p2)] ∧ Z.Warmed39 U.vm ∧ U.heap = h0 ∧ CHv Z own_EL U.vm h0) (fun _ _ _ _ _ => True) (fun _ U o U' => ∃ v L, o = .returned v ∧ Qstr Z p1 p2 cs h0 n0 v U'.heap L ∧ CHr Z own_EL U.vm U.heap U'.vm U'.heap ∧ ReturnedEndW U o U' L ({ frames := 4, cells := 6, slots := 12, locals := 66 } : Room).cells ({ frames := 4, cells := 6, slots := 12, locals := 66 } : Room).slots) := by
  refine MetFree.of_bodySF (plainFor_of_name own_pn_com_example_varigraph_varigraph_graph_NameIsPinLaw) hisR ?_
  intro p e s m args below meth c s₁ Bd hml0 hP hK
  obtain ⟨rfl, hZ, hh, hCH⟩ := hP
  have hx := Bd.exec
  have hby := Bd.bytes
  have hlk := Bd.notSynchronized
  have hml : c.maxLocals = 2 := hml0
  have hown : s.vm.findClass "com/example/varigraph/varigraph/graph/NameIsPinLaw" = some m.cls := findClass_of_methodNamed Bd.named
  have hnm := (name_of_methodNamed Bd.named Bd.method).1
  have X0 : Stand p l e ({ frames := 4, cells := 6, slots := 12, locals := 66 } : Room) (s.setVm s.vm) m #[(.int p1), (.int p2)] below meth c s₁ [] 0 0 := Stand.of_body Bd
  have hZ : Z.Warmed39 (s.setVm s.vm).vm := hZ
  have hown : (s.setVm s.vm).vm.findClass "com/example/varigraph/varigraph/graph/NameIsPinLaw" = some m.cls := hown
  have hS0 : s.Since s.vm 0 := (State.WarmedH.refl s).since 0
  have R0 : CHr Z own_EL s.vm h0 s.vm h0 := CHr.refl hCH
  have e0 : s₁.heap = h0 := by rw [← hh, Bd.state]; rfl
  have N0 := Fr.nil n0
  have K0 : Keep h0 h0 [] := Keep.refl _ _
  show Go p e below (KS s below Z own_EL (Qstr Z p1 p2 cs h0 n0) ({ frames := 4, cells := 6, slots := 12, locals := 66 } : Room).cells ({ frames := 4, cells := 6, slots := 12, locals := 66 } : Room).slots) _
  refine Go.body (T := s₁) (σ := s₁) (g' := (mkF m 0 #[.val (.int p1), .val (.int p2)] [])) (ef_str m p1 p2) ?_
  refine g_iloadN X0 hx (hb hby d1_0) 1 rfl (v := p2) rfl ?_
  refine g_if_gt X0 hx (hb hby d1_1) 15 4 (by decide) (by decide) rfl (fun hc1 => ?_) (fun hc1 => ?_)
  · refine g_iloadN X0 hx (hb hby d1_15) 16 rfl (v := p2) rfl ?_
    refine g_iconst X0 hx (hb hby d1_16) 17 rfl (1 : Int32) rfl ?_
    refine g_icmp_ne X0 hx (hb hby d1_17) 38 20 (by decide) (by decide) rfl (fun hc17 => ?_) (fun hc17 => ?_)
    · obtain ⟨T60, h60, X60, e60, E60, A60, D60, -, st60⟩ := newO X0 hx hZ hown (hw _ (List.mem_of_getElem? (i := 4) rfl)) (hw _ (List.mem_of_getElem? (i := 5) rfl)) (hw _ (List.mem_of_getElem? (i := 6) rfl)) e0 (g := (mkF m 38 #[.val (.int p1), .val (.int p2)] [])) rfl (hb hby d1_38) (by decide) (by decide)
      refine Go.st st60 ?_
      obtain ⟨os, q60⟩ : ∃ z, z = h0.size := ⟨_, rfl⟩
      rw [← q60] at A60 D60 ⊢
      have g_os : n0 ≤ os := Nat.le_trans Z0 (Nat.le_of_eq q60.symm)
      have Sf_os : Safe Z own_EL s.vm h0 os := Safe.new (Nat.le_of_eq q60.symm)
      have mh_os : h0.size ≤ os := Nat.le_trans K0.1 (Nat.le_of_eq q60.symm)
      have Sf_os_61 : Safe Z own_EL s.vm h60 os := Safe.ext E60 R0.1 Sf_os
      have R61 : CHr Z own_EL s.vm h0 s.vm h60 := CHr.trans R0 (CHr.ext E60 R0.1)
      have hk61 : _ ≤ h60.size := Nat.le_trans (Nat.zero_le _) (E60.1)
      have F_value_60 : Fld Z h60 os "java/lang/String" "value" "[B" .null := D60 (Or.inr (hw _ (List.mem_of_getElem? (i := 20) rfl))) (ty := (.array .byte)) (by decide)
      have F_coder_60 : Fld Z h60 os "java/lang/String" "coder" "B" (.int (0 : Int32)) := D60 (Or.inr (hw _ (List.mem_of_getElem? (i := 21) rfl))) (ty := .byte) (by decide)
      have K60 : Keep h0 h60 [] := Keep.ext K0 E60
      have Zs60 : n0 ≤ h60.size := Nat.le_trans Z0 E60.1
      show Go p e below _ (T60.setTop (mkF m 41 #[.val (.int p1), .val (.int p2)] [(.ref os)]))
      refine g_dup X60 hx (hb hby d1_41) 42 rfl rfl ?_
      refine g_iconst X60 hx (hb hby d1_42) 43 rfl (2 : Int32) rfl ?_
      obtain ⟨T63, h63, cA63, X63, e63, E63, A63, st63⟩ := newP X60 hx hZ (aty := .char) (hw _ (List.mem_of_getElem? (i := 7) rfl)) e60 (g := (mkF m 43 #[.val (.int p1), .val (.int p2)] [(.int (2 : Int32)), (.ref os), (.ref os)])) rfl (hb hby d1_43) rfl (by decide) (cap := 2) (by decide) (by decide) (by decide) (by decide)
      refine Go.st st63 ?_
      obtain ⟨oc, q63⟩ : ∃ z, z = h60.size := ⟨_, rfl⟩
      rw [← q63] at A63 ⊢
      have ne_os_oc : os ≠ oc := Nat.ne_of_lt (Nat.lt_of_lt_of_eq A60.lt q63.symm)
      have g_oc : n0 ≤ oc := Nat.le_trans Zs60 (Nat.le_of_eq q63.symm)
      have Sf_oc : Safe Z own_EL s.vm h60 oc := Safe.new (Nat.le_of_eq q63.symm)
      have mh_oc : h0.size ≤ oc := Nat.le_trans K60.1 (Nat.le_of_eq q63.symm)
      have Sf_os_64 : Safe Z own_EL s.vm h63 os := Safe.ext E63 R61.1 Sf_os_61
      have Sf_oc_64 : Safe Z own_EL s.vm h63 oc := Safe.ext E63 R61.1 Sf_oc
      have R64 : CHr Z own_EL s.vm h0 s.vm h63 := CHr.trans R61 (CHr.ext E63 R61.1)
      have hk64 : _ ≤ h63.size := Nat.le_trans hk61 (E63.1)
      have E_os_65 : Exa Z h63 os "java/lang/String" := Exa.ext E63 A60
      have F_value_os_65 : Fld Z h63 os "java/lang/String" "value" "[B" .null := Fld.ext E63 F_value_60
      have F_coder_os_65 : Fld Z h63 os "java/lang/String" "coder" "B" (.int (0 : Int32)) := Fld.ext E63 F_coder_60
      have K63 : Keep h0 h63 [] := Keep.ext K60 E63
      have Zs63 : n0 ≤ h63.size := Nat.le_trans Zs60 E63.1
      have Av_oc : Arv Z h63 oc cA63 .char (2 : Int32) ([(.int (0 : Int32)), (.int (0 : Int32))]) (.int (0 : Int32)) := Arv.pad (Arv.new A63 (by decide)) (pad_rep [] (.int (0 : Int32)) 2)
      show Go p e below _ (T63.setTop (mkF m 45 #[.val (.int p1), .val (.int p2)] [(.ref oc), (.ref os), (.ref os)]))
      refine g_dup X63 hx (hb hby d1_45) 46 rfl rfl ?_
      refine g_iconst X63 hx (hb hby d1_46) 47 rfl (0 : Int32) rfl ?_
      refine g_iloadN X63 hx (hb hby d1_47) 48 rfl (v := p1) rfl ?_
      obtain ⟨_, _, ⟨T66, L66, k66, n66⟩, -, X66, ⟨Lc66, hQ66, l66, y66, z66⟩, st66⟩ := Jvm.LawKit.callS X63 hx (y := (⟨"com/example/varigraph/varigraph/graph/NameIsPinLaw", "ch0", "(I)C"⟩ : MethodName)) hown (mvT hZ (hw _ (List.mem_of_getElem? (i := 26) rfl))) (mvT hZ (hw _ (List.mem_of_getElem? (i := 27) rfl))) (mvT hZ (hw _ (List.mem_of_getElem? (i := 2) rfl))) (mvT hZ (hw _ (List.mem_of_getElem? (i := 28) rfl))) (by decide) (backOf (W := 5) (rm5 l Z a0 hw [] p1 h63 n0 Zs63 ) hZ (hw _ (List.mem_of_getElem? (i := 28) rfl)) (hw _ (List.mem_of_getElem? (i := 2) rfl)) (by decide) (by decide)) (g := (mkF m 48 #[.val (.int p1), .val (.int p2)] [(.int p1), (.int (0 : Int32)), (.ref oc), (.ref oc), (.ref os), (.ref os)])) rfl (by rw [hml]; rfl) (argsL := [(.int p1)]) (rest := [(.int (0 : Int32)), (.ref oc), (.ref oc), (.ref os), (.ref os)]) (lenOf own_pd4 rfl) rfl (by show 2 * 0 + _ ≤ _; exact Nat.le_of_eq rfl) (hb hby d1_48) (fun _ _ => ⟨rfl, e63, (by decide : 2 + 0 ≤ _), (by decide : 6 + 0 ≤ _)⟩)
      dsimp only [Pt.U, Pt.locs, Pt.cells, Pt.slots] at X66 l66 y66 z66 st66 hQ66
      subst l66 y66 z66
      obtain ⟨rfl, Nq66, e66⟩ := hQ66
      refine Go.st st66 ?_
      have N66 := Fr.app N0 Nq66
      show Go p e below _ (T66.setTop (mkF m 51 #[.val (.int p1), .val (.int p2)] [(.int (own_c0 p1)), (.int (0 : Int32)), (.ref oc), (.ref oc), (.ref os), (.ref os)]))
      obtain ⟨T67, h67, X67, e67, W67, B67, st67⟩ := g_castore X66 hx (hb hby d1_51) hZ e66 Av_oc (show ¬ (0 : Int32) < 0 ∧ (0 : Int32) < (2 : Int32) from by decide) (i := 0) (by decide) (by simp)  (L := #[.val (.int p1), .val (.int p2)]) (S := [(.ref oc), (.ref os), (.ref os)])
      refine Go.st st67 ?_
      have Sf_os_68 : Safe Z own_EL s.vm h67 os := Safe.wr W67 Sf_oc_64 R64.1 Sf_os_64
      have Sf_oc_68 : Safe Z own_EL s.vm h67 oc := Safe.wr W67 Sf_oc_64 R64.1 Sf_oc_64
      have R68 : CHr Z own_EL s.vm h0 s.vm h67 := CHr.trans R64 (CHr.wr W67 Sf_oc_64 R64.1)
      have hk68 : _ ≤ h67.size := Nat.le_trans hk64 (Nat.le_of_eq W67.size.symm)
      have E_os_69 : Exa Z h67 os "java/lang/String" := Exa.wr W67 E_os_65
      have F_value_os_69 : Fld Z h67 os "java/lang/String" "value" "[B" .null := Fld.other W67 F_value_os_65 (Or.inl ne_os_oc)
      have F_coder_os_69 : Fld Z h67 os "java/lang/String" "coder" "B" (.int (0 : Int32)) := Fld.other W67 F_coder_os_65 (Or.inl ne_os_oc)
      have Av_oc_67 : Arv Z h67 oc cA63 .char (2 : Int32) ([(.int (own_c0 p1)), (.int (0 : Int32))]) (.int (0 : Int32)) := (by have q := B67; rw [own_n0] at q; exact q)
      have K67 : Keep h0 h67 [] := Keep.wr K63 W67 (Or.inr mh_oc)
      have N67 := Fr.snoc X67 N66 g_oc
      have Zs67 : n0 ≤ h67.size := by rw [W67.size]; exact Zs63
      show Go p e below _ (T67.setTop (mkF m 52 #[.val (.int p1), .val (.int p2)] [(.ref oc), (.ref os), (.ref os)]))
      refine g_dup X67 hx (hb hby d1_52) 53 rfl rfl ?_
      refine g_iconst X67 hx (hb hby d1_53) 54 rfl (1 : Int32) rfl ?_
      refine g_iloadN X67 hx (hb hby d1_54) 55 rfl (v := p1) rfl ?_
      obtain ⟨_, _, ⟨T70, L70, k70, n70⟩, -, X70, ⟨Lc70, hQ70, l70, y70, z70⟩, st70⟩ := Jvm.LawKit.callS X67 hx (y := (⟨"com/example/varigraph/varigraph/graph/NameIsPinLaw", "ch1", "(I)C"⟩ : MethodName)) hown (mvT hZ (hw _ (List.mem_of_getElem? (i := 29) rfl))) (mvT hZ (hw _ (List.mem_of_getElem? (i := 30) rfl))) (mvT hZ (hw _ (List.mem_of_getElem? (i := 2) rfl))) (mvT hZ (hw _ (List.mem_of_getElem? (i := 31) rfl))) (by decide) (backOf (W := 5) (rm6 l Z a0 hw [] p1 h67 n0 Zs67 ) hZ (hw _ (List.mem_of_getElem? (i := 31) rfl)) (hw _ (List.mem_of_getElem? (i := 2) rfl)) (by decide) (by decide)) (g := (mkF m 55 #[.val (.int p1), .val (.int p2)] [(.int p1), (.int (1 : Int32)), (.ref oc), (.ref oc), (.ref os), (.ref os)])) rfl (by rw [hml]; rfl) (argsL := [(.int p1)]) (rest := [(.int (1 : Int32)), (.ref oc), (.ref oc), (.ref os), (.ref os)]) (lenOf own_pd4 rfl) rfl (by show 2 * 0 + _ ≤ _; exact Nat.le_of_eq rfl) (hb hby d1_55) (fun _ _ => ⟨rfl, e67, (by decide : 2 + 0 ≤ _), (by decide : 6 + 0 ≤ _)⟩)
      dsimp only [Pt.U, Pt.locs, Pt.cells, Pt.slots] at X70 l70 y70 z70 st70 hQ70
      subst l70 y70 z70
      obtain ⟨rfl, Nq70, e70⟩ := hQ70
      refine Go.st st70 ?_
      have N70 := Fr.app N67 Nq70
      show Go p e below _ (T70.setTop (mkF m 58 #[.val (.int p1), .val (.int p2)] [(.int (own_c1 p1)), (.int (1 : Int32)), (.ref oc), (.ref oc), (.ref os), (.ref os)]))
      obtain ⟨T71, h71, X71, e71, W71, B71, st71⟩ := g_castore X70 hx (hb hby d1_58) hZ e70 Av_oc_67 (show ¬ (1 : Int32) < 0 ∧ (1 : Int32) < (2 : Int32) from by decide) (i := 1) (by decide) (by simp)  (L := #[.val (.int p1), .val (.int p2)]) (S := [(.ref oc), (.ref os), (.ref os)])
      refine Go.st st71 ?_
      have Sf_os_72 : Safe Z own_EL s.vm h71 os := Safe.wr W71 Sf_oc_68 R68.1 Sf_os_68
      have Sf_oc_72 : Safe Z own_EL s.vm h71 oc := Safe.wr W71 Sf_oc_68 R68.1 Sf_oc_68
      have R72 : CHr Z own_EL s.vm h0 s.vm h71 := CHr.trans R68 (CHr.wr W71 Sf_oc_68 R68.1)
      have hk72 : _ ≤ h71.size := Nat.le_trans hk68 (Nat.le_of_eq W71.size.symm)
      have E_os_73 : Exa Z h71 os "java/lang/String" := Exa.wr W71 E_os_69
      have F_value_os_73 : Fld Z h71 os "java/lang/String" "value" "[B" .null := Fld.other W71 F_value_os_69 (Or.inl ne_os_oc)
      have F_coder_os_73 : Fld Z h71 os "java/lang/String" "coder" "B" (.int (0 : Int32)) := Fld.other W71 F_coder_os_69 (Or.inl ne_os_oc)
      have Av_oc_71 : Arv Z h71 oc cA63 .char (2 : Int32) ([(.int (own_c0 p1)), (.int (own_c1 p1))]) (.int (0 : Int32)) := (by have q := B71; rw [own_n1] at q; exact q)
      have K71 : Keep h0 h71 [] := Keep.wr K67 W71 (Or.inr mh_oc)
      have N71 := Fr.snoc X71 N70 g_oc
      have Zs71 : n0 ≤ h71.size := by rw [W71.size]; exact Zs67
      show Go p e below _ (T71.setTop (mkF m 59 #[.val (.int p1), .val (.int p2)] [(.ref oc), (.ref os), (.ref os)]))
      obtain ⟨_, _, ⟨T74, L74, k74, n74⟩, -, X74, ⟨Lc74, hQ74, l74, y74, z74⟩, st74⟩ := X71.specialBack hx (y := (⟨"java/lang/String", "<init>", "([C)V"⟩ : MethodName)) rfl hown (mvT hZ (hw _ (List.mem_of_getElem? (i := 8) rfl))) (mvT hZ (hw _ (List.mem_of_getElem? (i := 9) rfl))) (mvT hZ (hw _ (List.mem_of_getElem? (i := 10) rfl))) (by decide) (backOf (W := 1) (rmsC2 l Z a0 hw [] os oc cs cA63 (own_c0 p1) (own_c1 p1) h71 n0 Zs71 (own_Sta_keep S_COMPACT_STRINGS K71 all0) E_os_73 g_os F_value_os_73 F_coder_os_73 Av_oc_71 ne_os_oc hcs (own_le _) (own_le _)) hZ (hw _ (List.mem_of_getElem? (i := 10) rfl)) (hw _ (List.mem_of_getElem? (i := 6) rfl)) (by decide) (by decide)) (g := (mkF m 59 #[.val (.int p1), .val (.int p2)] [(.ref oc), (.ref os), (.ref os)])) rfl (by rw [hml]; rfl) (Steps.refl _) (a := os) (argsL := [(.ref oc)]) (rest := [(.ref os)]) (lenOf own_pd5 rfl) rfl (by show 2 * 0 + _ ≤ _; exact Nat.le_of_eq rfl) (hb hby d1_59) (fun _ _ => ⟨rfl, e71, (by decide : 2 + 1 ≤ _), (by decide : 6 + 2 ≤ _)⟩)
      dsimp only [Pt.U, Pt.locs, Pt.cells, Pt.slots] at X74 l74 y74 z74 st74 hQ74
      subst l74 y74 z74
      obtain ⟨vb_74, kb_74, rfl, Nq74, Kq74, f74_0, f74_1, f74_2, f74_3, f74_4⟩ := hQ74
      refine Go.tr st74 ?_
      have N74 := Fr.app N71 Nq74
      have Sf_vb_74 : Safe Z own_EL s.vm h71 vb_74 := Safe.new f74_0
      have Sf_os_75 : Safe Z own_EL s.vm T74.heap os := Safe.keep Kq74 (allS Sf_os_72 all0) R72.1 Sf_os_72
      have Sf_oc_75 : Safe Z own_EL s.vm T74.heap oc := Safe.keep Kq74 (allS Sf_os_72 all0) R72.1 Sf_oc_72
      have Sf_vb_74_75 : Safe Z own_EL s.vm T74.heap vb_74 := Safe.keep Kq74 (allS Sf_os_72 all0) R72.1 Sf_vb_74
      have R75 : CHr Z own_EL s.vm h0 s.vm T74.heap := CHr.trans R72 (CHr.keep Kq74 (allS Sf_os_72 all0) R72.1)
      have hk75 : _ ≤ T74.heap.size := Nat.le_trans hk72 (Kq74.1)
      have E_os_76 : Exa Z T74.heap os "java/lang/String" := Exa.keep E_os_73 Kq74
      have A_oc_76 : Arv Z T74.heap oc cA63 .char (2 : Int32) ([(.int (own_c0 p1)), (.int (own_c1 p1))]) (.int (0 : Int32)) := Arv.keep Av_oc_71 Kq74 (ninS (Ne.symm ne_os_oc) nin0)
      have ne_os_vb_74 : os ≠ vb_74 := Nat.ne_of_lt (Nat.lt_of_lt_of_le E_os_73.lt f74_0)
      have ne_oc_vb_74 : oc ≠ vb_74 := Nat.ne_of_lt (Nat.lt_of_lt_of_le Av_oc_71.lt f74_0)
      have g_vb_74 : n0 ≤ vb_74 := Nat.le_trans Zs71 f74_0
      have mh_vb_74 : h0.size ≤ vb_74 := Nat.le_trans K71.1 f74_0
      have K74 : Keep h0 T74.heap [] := Keep.trans K71 Kq74 (allS (Or.inr mh_os) all0)
      have Zs74 : n0 ≤ T74.heap.size := Nat.le_trans Zs71 Kq74.1
      show Go p e below _ (T74.setTop (mkF m 62 #[.val (.int p1), .val (.int p2)] [(.ref os)]))
      refine Go.retAS X74 hx hlk Bd.returns rfl rfl (hb hby d1_62) (by decide) (by decide) hS0 hk75 (own_EW hw) hZ (by rw [hh]; exact R75) ?_
      show Qstr Z p1 p2 cs h0 n0 _ T74.heap _
      exact ⟨os, vb_74, kb_74, rfl, N74, K74, mh_os, f74_1, f74_2, f74_3, by rw [own_us2 hc1 hc17]; exact f74_4, ne_os_vb_74⟩
    · obtain ⟨T77, h77, X77, e77, E77, A77, D77, -, st77⟩ := newO X0 hx hZ hown (hw _ (List.mem_of_getElem? (i := 4) rfl)) (hw _ (List.mem_of_getElem? (i := 5) rfl)) (hw _ (List.mem_of_getElem? (i := 6) rfl)) e0 (g := (mkF m 20 #[.val (.int p1), .val (.int p2)] [])) rfl (hb hby d1_20) (by decide) (by decide)
      refine Go.st st77 ?_
      obtain ⟨os, q77⟩ : ∃ z, z = h0.size := ⟨_, rfl⟩
      rw [← q77] at A77 D77 ⊢
      have g_os : n0 ≤ os := Nat.le_trans Z0 (Nat.le_of_eq q77.symm)
      have Sf_os : Safe Z own_EL s.vm h0 os := Safe.new (Nat.le_of_eq q77.symm)
      have mh_os : h0.size ≤ os := Nat.le_trans K0.1 (Nat.le_of_eq q77.symm)
      have Sf_os_78 : Safe Z own_EL s.vm h77 os := Safe.ext E77 R0.1 Sf_os
      have R78 : CHr Z own_EL s.vm h0 s.vm h77 := CHr.trans R0 (CHr.ext E77 R0.1)
      have hk78 : _ ≤ h77.size := Nat.le_trans (Nat.zero_le _) (E77.1)
      have F_value_77 : Fld Z h77 os "java/lang/String" "value" "[B" .null := D77 (Or.inr (hw _ (List.mem_of_getElem? (i := 20) rfl))) (ty := (.array .byte)) (by decide)
      have F_coder_77 : Fld Z h77 os "java/lang/String" "coder" "B" (.int (0 : Int32)) := D77 (Or.inr (hw _ (List.mem_of_getElem? (i := 21) rfl))) (ty := .byte) (by decide)
      have K77 : Keep h0 h77 [] := Keep.ext K0 E77
      have Zs77 : n0 ≤ h77.size := Nat.le_trans Z0 E77.1
      show Go p e below _ (T77.setTop (mkF m 23 #[.val (.int p1), .val (.int p2)] [(.ref os)]))
      refine g_dup X77 hx (hb hby d1_23) 24 rfl rfl ?_
      refine g_iconst X77 hx (hb hby d1_24) 25 rfl (1 : Int32) rfl ?_
      obtain ⟨T80, h80, cA80, X80, e80, E80, A80, st80⟩ := newP X77 hx hZ (aty := .char) (hw _ (List.mem_of_getElem? (i := 7) rfl)) e77 (g := (mkF m 25 #[.val (.int p1), .val (.int p2)] [(.int (1 : Int32)), (.ref os), (.ref os)])) rfl (hb hby d1_25) rfl (by decide) (cap := 1) (by decide) (by decide) (by decide) (by decide)
      refine Go.st st80 ?_
      obtain ⟨oc, q80⟩ : ∃ z, z = h77.size := ⟨_, rfl⟩
      rw [← q80] at A80 ⊢
      have ne_os_oc : os ≠ oc := Nat.ne_of_lt (Nat.lt_of_lt_of_eq A77.lt q80.symm)
      have g_oc : n0 ≤ oc := Nat.le_trans Zs77 (Nat.le_of_eq q80.symm)
      have Sf_oc : Safe Z own_EL s.vm h77 oc := Safe.new (Nat.le_of_eq q80.symm)
      have mh_oc : h0.size ≤ oc := Nat.le_trans K77.1 (Nat.le_of_eq q80.symm)
      have Sf_os_81 : Safe Z own_EL s.vm h80 os := Safe.ext E80 R78.1 Sf_os_78
      have Sf_oc_81 : Safe Z own_EL s.vm h80 oc := Safe.ext E80 R78.1 Sf_oc
      have R81 : CHr Z own_EL s.vm h0 s.vm h80 := CHr.trans R78 (CHr.ext E80 R78.1)
      have hk81 : _ ≤ h80.size := Nat.le_trans hk78 (E80.1)
      have E_os_82 : Exa Z h80 os "java/lang/String" := Exa.ext E80 A77
      have F_value_os_82 : Fld Z h80 os "java/lang/String" "value" "[B" .null := Fld.ext E80 F_value_77
      have F_coder_os_82 : Fld Z h80 os "java/lang/String" "coder" "B" (.int (0 : Int32)) := Fld.ext E80 F_coder_77
      have K80 : Keep h0 h80 [] := Keep.ext K77 E80
      have Zs80 : n0 ≤ h80.size := Nat.le_trans Zs77 E80.1
      have Av_oc : Arv Z h80 oc cA80 .char (1 : Int32) ([(.int (0 : Int32))]) (.int (0 : Int32)) := Arv.pad (Arv.new A80 (by decide)) (pad_rep [] (.int (0 : Int32)) 1)
      show Go p e below _ (T80.setTop (mkF m 27 #[.val (.int p1), .val (.int p2)] [(.ref oc), (.ref os), (.ref os)]))
      refine g_dup X80 hx (hb hby d1_27) 28 rfl rfl ?_
      refine g_iconst X80 hx (hb hby d1_28) 29 rfl (0 : Int32) rfl ?_
      refine g_iloadN X80 hx (hb hby d1_29) 30 rfl (v := p1) rfl ?_
      obtain ⟨_, _, ⟨T83, L83, k83, n83⟩, -, X83, ⟨Lc83, hQ83, l83, y83, z83⟩, st83⟩ := Jvm.LawKit.callS X80 hx (y := (⟨"com/example/varigraph/varigraph/graph/NameIsPinLaw", "ch0", "(I)C"⟩ : MethodName)) hown (mvT hZ (hw _ (List.mem_of_getElem? (i := 26) rfl))) (mvT hZ (hw _ (List.mem_of_getElem? (i := 27) rfl))) (mvT hZ (hw _ (List.mem_of_getElem? (i := 2) rfl))) (mvT hZ (hw _ (List.mem_of_getElem? (i := 28) rfl))) (by decide) (backOf (W := 5) (rm5 l Z a0 hw [] p1 h80 n0 Zs80 ) hZ (hw _ (List.mem_of_getElem? (i := 28) rfl)) (hw _ (List.mem_of_getElem? (i := 2) rfl)) (by decide) (by decide)) (g := (mkF m 30 #[.val (.int p1), .val (.int p2)] [(.int p1), (.int (0 : Int32)), (.ref oc), (.ref oc), (.ref os), (.ref os)])) rfl (by rw [hml]; rfl) (argsL := [(.int p1)]) (rest := [(.int (0 : Int32)), (.ref oc), (.ref oc), (.ref os), (.ref os)]) (lenOf own_pd4 rfl) rfl (by show 2 * 0 + _ ≤ _; exact Nat.le_of_eq rfl) (hb hby d1_30) (fun _ _ => ⟨rfl, e80, (by decide : 2 + 0 ≤ _), (by decide : 5 + 0 ≤ _)⟩)
      dsimp only [Pt.U, Pt.locs, Pt.cells, Pt.slots] at X83 l83 y83 z83 st83 hQ83
      subst l83 y83 z83
      obtain ⟨rfl, Nq83, e83⟩ := hQ83
      refine Go.st st83 ?_
      have N83 := Fr.app N0 Nq83
      show Go p e below _ (T83.setTop (mkF m 33 #[.val (.int p1), .val (.int p2)] [(.int (own_c0 p1)), (.int (0 : Int32)), (.ref oc), (.ref oc), (.ref os), (.ref os)]))
      obtain ⟨T84, h84, X84, e84, W84, B84, st84⟩ := g_castore X83 hx (hb hby d1_33) hZ e83 Av_oc (show ¬ (0 : Int32) < 0 ∧ (0 : Int32) < (1 : Int32) from by decide) (i := 0) (by decide) (by simp)  (L := #[.val (.int p1), .val (.int p2)]) (S := [(.ref oc), (.ref os), (.ref os)])
      refine Go.st st84 ?_
      have Sf_os_85 : Safe Z own_EL s.vm h84 os := Safe.wr W84 Sf_oc_81 R81.1 Sf_os_81
      have Sf_oc_85 : Safe Z own_EL s.vm h84 oc := Safe.wr W84 Sf_oc_81 R81.1 Sf_oc_81
      have R85 : CHr Z own_EL s.vm h0 s.vm h84 := CHr.trans R81 (CHr.wr W84 Sf_oc_81 R81.1)
      have hk85 : _ ≤ h84.size := Nat.le_trans hk81 (Nat.le_of_eq W84.size.symm)
      have E_os_86 : Exa Z h84 os "java/lang/String" := Exa.wr W84 E_os_82
      have F_value_os_86 : Fld Z h84 os "java/lang/String" "value" "[B" .null := Fld.other W84 F_value_os_82 (Or.inl ne_os_oc)
      have F_coder_os_86 : Fld Z h84 os "java/lang/String" "coder" "B" (.int (0 : Int32)) := Fld.other W84 F_coder_os_82 (Or.inl ne_os_oc)
      have Av_oc_84 : Arv Z h84 oc cA80 .char (1 : Int32) ([(.int (own_c0 p1))]) (.int (0 : Int32)) := (by have q := B84; rw [own_n0] at q; exact q)
      have K84 : Keep h0 h84 [] := Keep.wr K80 W84 (Or.inr mh_oc)
      have N84 := Fr.snoc X84 N83 g_oc
      have Zs84 : n0 ≤ h84.size := by rw [W84.size]; exact Zs80
      show Go p e below _ (T84.setTop (mkF m 34 #[.val (.int p1), .val (.int p2)] [(.ref oc), (.ref os), (.ref os)]))
      obtain ⟨_, _, ⟨T87, L87, k87, n87⟩, -, X87, ⟨Lc87, hQ87, l87, y87, z87⟩, st87⟩ := X84.specialBack hx (y := (⟨"java/lang/String", "<init>", "([C)V"⟩ : MethodName)) rfl hown (mvT hZ (hw _ (List.mem_of_getElem? (i := 8) rfl))) (mvT hZ (hw _ (List.mem_of_getElem? (i := 9) rfl))) (mvT hZ (hw _ (List.mem_of_getElem? (i := 10) rfl))) (by decide) (backOf (W := 1) (rmsC1 l Z a0 hw [] os oc cs cA80 (own_c0 p1) h84 n0 Zs84 (own_Sta_keep S_COMPACT_STRINGS K84 all0) E_os_86 g_os F_value_os_86 F_coder_os_86 Av_oc_84 ne_os_oc hcs (own_le _)) hZ (hw _ (List.mem_of_getElem? (i := 10) rfl)) (hw _ (List.mem_of_getElem? (i := 6) rfl)) (by decide) (by decide)) (g := (mkF m 34 #[.val (.int p1), .val (.int p2)] [(.ref oc), (.ref os), (.ref os)])) rfl (by rw [hml]; rfl) (Steps.refl _) (a := os) (argsL := [(.ref oc)]) (rest := [(.ref os)]) (lenOf own_pd5 rfl) rfl (by show 2 * 0 + _ ≤ _; exact Nat.le_of_eq rfl) (hb hby d1_34) (fun _ _ => ⟨rfl, e84, (by decide : 2 + 1 ≤ _), (by decide : 5 + 1 ≤ _)⟩)
      dsimp only [Pt.U, Pt.locs, Pt.cells, Pt.slots] at X87 l87 y87 z87 st87 hQ87
      subst l87 y87 z87
      obtain ⟨vb_87, kb_87, rfl, Nq87, Kq87, f87_0, f87_1, f87_2, f87_3, f87_4⟩ := hQ87
      refine Go.tr st87 ?_
      have N87 := Fr.app N84 Nq87
      have Sf_vb_87 : Safe Z own_EL s.vm h84 vb_87 := Safe.new f87_0
      have Sf_os_88 : Safe Z own_EL s.vm T87.heap os := Safe.keep Kq87 (allS Sf_os_85 all0) R85.1 Sf_os_85
      have Sf_oc_88 : Safe Z own_EL s.vm T87.heap oc := Safe.keep Kq87 (allS Sf_os_85 all0) R85.1 Sf_oc_85
      have Sf_vb_87_88 : Safe Z own_EL s.vm T87.heap vb_87 := Safe.keep Kq87 (allS Sf_os_85 all0) R85.1 Sf_vb_87
      have R88 : CHr Z own_EL s.vm h0 s.vm T87.heap := CHr.trans R85 (CHr.keep Kq87 (allS Sf_os_85 all0) R85.1)
      have hk88 : _ ≤ T87.heap.size := Nat.le_trans hk85 (Kq87.1)
      have E_os_89 : Exa Z T87.heap os "java/lang/String" := Exa.keep E_os_86 Kq87
      have A_oc_89 : Arv Z T87.heap oc cA80 .char (1 : Int32) ([(.int (own_c0 p1))]) (.int (0 : Int32)) := Arv.keep Av_oc_84 Kq87 (ninS (Ne.symm ne_os_oc) nin0)
      have ne_os_vb_87 : os ≠ vb_87 := Nat.ne_of_lt (Nat.lt_of_lt_of_le E_os_86.lt f87_0)
      have ne_oc_vb_87 : oc ≠ vb_87 := Nat.ne_of_lt (Nat.lt_of_lt_of_le Av_oc_84.lt f87_0)
      have g_vb_87 : n0 ≤ vb_87 := Nat.le_trans Zs84 f87_0
      have mh_vb_87 : h0.size ≤ vb_87 := Nat.le_trans K84.1 f87_0
      have K87 : Keep h0 T87.heap [] := Keep.trans K84 Kq87 (allS (Or.inr mh_os) all0)
      have Zs87 : n0 ≤ T87.heap.size := Nat.le_trans Zs84 Kq87.1
      show Go p e below _ (T87.setTop (mkF m 37 #[.val (.int p1), .val (.int p2)] [(.ref os)]))
      refine Go.retAS X87 hx hlk Bd.returns rfl rfl (hb hby d1_37) (by decide) (by decide) hS0 hk88 (own_EW hw) hZ (by rw [hh]; exact R88) ?_
      show Qstr Z p1 p2 cs h0 n0 _ T87.heap _
      exact ⟨os, vb_87, kb_87, rfl, N87, K87, mh_os, f87_1, f87_2, f87_3, by rw [own_us1 hc1 hc17]; exact f87_4, ne_os_vb_87⟩
  · obtain ⟨T90, h90, X90, e90, E90, A90, D90, -, st90⟩ := newO X0 hx hZ hown (hw _ (List.mem_of_getElem? (i := 4) rfl)) (hw _ (List.mem_of_getElem? (i := 5) rfl)) (hw _ (List.mem_of_getElem? (i := 6) rfl)) e0 (g := (mkF m 4 #[.val (.int p1), .val (.int p2)] [])) rfl (hb hby d1_4) (by decide) (by decide)
    refine Go.st st90 ?_
    obtain ⟨os, q90⟩ : ∃ z, z = h0.size := ⟨_, rfl⟩
    rw [← q90] at A90 D90 ⊢
    have g_os : n0 ≤ os := Nat.le_trans Z0 (Nat.le_of_eq q90.symm)
    have Sf_os : Safe Z own_EL s.vm h0 os := Safe.new (Nat.le_of_eq q90.symm)
    have mh_os : h0.size ≤ os := Nat.le_trans K0.1 (Nat.le_of_eq q90.symm)
    have Sf_os_91 : Safe Z own_EL s.vm h90 os := Safe.ext E90 R0.1 Sf_os
    have R91 : CHr Z own_EL s.vm h0 s.vm h90 := CHr.trans R0 (CHr.ext E90 R0.1)
    have hk91 : _ ≤ h90.size := Nat.le_trans (Nat.zero_le _) (E90.1)
    have F_value_90 : Fld Z h90 os "java/lang/String" "value" "[B" .null := D90 (Or.inr (hw _ (List.mem_of_getElem? (i := 20) rfl))) (ty := (.array .byte)) (by decide)
    have F_coder_90 : Fld Z h90 os "java/lang/String" "coder" "B" (.int (0 : Int32)) := D90 (Or.inr (hw _ (List.mem_of_getElem? (i := 21) rfl))) (ty := .byte) (by decide)
    have K90 : Keep h0 h90 [] := Keep.ext K0 E90
    have Zs90 : n0 ≤ h90.size := Nat.le_trans Z0 E90.1
    show Go p e below _ (T90.setTop (mkF m 7 #[.val (.int p1), .val (.int p2)] [(.ref os)]))
    refine g_dup X90 hx (hb hby d1_7) 8 rfl rfl ?_
    refine g_iconst X90 hx (hb hby d1_8) 9 rfl (0 : Int32) rfl ?_
    obtain ⟨T93, h93, cA93, X93, e93, E93, A93, st93⟩ := newP X90 hx hZ (aty := .char) (hw _ (List.mem_of_getElem? (i := 7) rfl)) e90 (g := (mkF m 9 #[.val (.int p1), .val (.int p2)] [(.int (0 : Int32)), (.ref os), (.ref os)])) rfl (hb hby d1_9) rfl (by decide) (cap := 0) (by decide) (by decide) (by decide) (by decide)
    refine Go.st st93 ?_
    obtain ⟨oc, q93⟩ : ∃ z, z = h90.size := ⟨_, rfl⟩
    rw [← q93] at A93 ⊢
    have ne_os_oc : os ≠ oc := Nat.ne_of_lt (Nat.lt_of_lt_of_eq A90.lt q93.symm)
    have g_oc : n0 ≤ oc := Nat.le_trans Zs90 (Nat.le_of_eq q93.symm)
    have Sf_oc : Safe Z own_EL s.vm h90 oc := Safe.new (Nat.le_of_eq q93.symm)
    have mh_oc : h0.size ≤ oc := Nat.le_trans K90.1 (Nat.le_of_eq q93.symm)
    have Sf_os_94 : Safe Z own_EL s.vm h93 os := Safe.ext E93 R91.1 Sf_os_91
    have Sf_oc_94 : Safe Z own_EL s.vm h93 oc := Safe.ext E93 R91.1 Sf_oc
    have R94 : CHr Z own_EL s.vm h0 s.vm h93 := CHr.trans R91 (CHr.ext E93 R91.1)
    have hk94 : _ ≤ h93.size := Nat.le_trans hk91 (E93.1)
    have E_os_95 : Exa Z h93 os "java/lang/String" := Exa.ext E93 A90
    have F_value_os_95 : Fld Z h93 os "java/lang/String" "value" "[B" .null := Fld.ext E93 F_value_90
    have F_coder_os_95 : Fld Z h93 os "java/lang/String" "coder" "B" (.int (0 : Int32)) := Fld.ext E93 F_coder_90
    have K93 : Keep h0 h93 [] := Keep.ext K90 E93
    have Zs93 : n0 ≤ h93.size := Nat.le_trans Zs90 E93.1
    have Av_oc : Arv Z h93 oc cA93 .char (0 : Int32) [] (.int (0 : Int32)) := Arv.pad (Arv.new A93 (by decide)) (pad_rep [] (.int (0 : Int32)) 0)
    show Go p e below _ (T93.setTop (mkF m 11 #[.val (.int p1), .val (.int p2)] [(.ref oc), (.ref os), (.ref os)]))
    obtain ⟨_, _, ⟨T96, L96, k96, n96⟩, -, X96, hS96, gr96, ⟨Lc96, hQ96, l96, y96, z96, C96⟩, st96⟩ := X93.specialBackS hx (y := (⟨"java/lang/String", "<init>", "([C)V"⟩ : MethodName)) rfl hown (mvT hZ (hw _ (List.mem_of_getElem? (i := 8) rfl))) (mvT hZ (hw _ (List.mem_of_getElem? (i := 9) rfl))) (mvT hZ (hw _ (List.mem_of_getElem? (i := 10) rfl))) (by decide) (backOfSH (W := 1) (rmsC0 l Z a0 hw [] os oc cA93 h93 n0 Zs93 E_os_95 g_os F_value_os_95 F_coder_os_95 Av_oc ne_os_oc) hZ (hw _ (List.mem_of_getElem? (i := 10) rfl)) (hw _ (List.mem_of_getElem? (i := 6) rfl)) (by decide) (by decide) (own_EW hw) R94.1) (g := (mkF m 11 #[.val (.int p1), .val (.int p2)] [(.ref oc), (.ref os), (.ref os)])) rfl (by rw [hml]; rfl) (Steps.refl _) (a := os) (argsL := [(.ref oc)]) (rest := [(.ref os)]) (lenOf own_pd5 rfl) rfl (by show 2 * 0 + _ ≤ _; exact Nat.le_of_eq rfl) (hb hby d1_11) (fun _ _ => ⟨rfl, e93, (by decide : 2 + 4 ≤ _), (by decide : 4 + 8 ≤ _)⟩)
    dsimp only [Pt.U, Pt.locs, Pt.cells, Pt.slots] at X96 l96 y96 z96 st96 hQ96 hS96 gr96 C96
    subst l96 y96 z96
    obtain ⟨vb_96, kb_96, rfl, Nq96, Kq96, f96_0, f96_1, f96_2, f96_3, f96_4⟩ := hQ96
    refine Go.tr st96 ?_
    obtain ⟨X96, hS96, hZ, hown⟩ := rebS hS0 (by rw [e93]; exact hk94) X96 hS96 gr96 hZ hown
    have Sf_os_96 : Safe Z own_EL T96.vm T96.heap os := CHr.safe C96 E_os_95.lt Sf_os_94
    have Sf_oc_96 : Safe Z own_EL T96.vm T96.heap oc := CHr.safe C96 Av_oc.lt Sf_oc_94
    have R96 : CHr Z own_EL s.vm h0 T96.vm T96.heap := CHr.trans R94 C96
    have N96 := Fr.app N0 Nq96
    have E_os_97 : Exa Z T96.heap os "java/lang/String" := Exa.keep E_os_95 Kq96
    have A_oc_97 : Arv Z T96.heap oc cA93 .char (0 : Int32) [] (.int (0 : Int32)) := Arv.keep Av_oc Kq96 (ninS (Ne.symm ne_os_oc) nin0)
    have K96 : Keep h0 T96.heap [] := Keep.trans K93 Kq96 (allS (Or.inr mh_os) all0)
    have Zs96 : n0 ≤ T96.heap.size := Nat.le_trans Zs93 Kq96.1
    show Go p e below _ (T96.setTop (mkF m 14 #[.val (.int p1), .val (.int p2)] [(.ref os)]))
    refine Go.retAS X96 hx hlk Bd.returns rfl rfl (hb hby d1_14) (by decide) (by decide) hS96 (Nat.le_refl _) (own_EW hw) hZ (by rw [hh]; exact R96) ?_
    show Qstr Z p1 p2 cs h0 n0 _ T96.heap _
    exact ⟨os, vb_96, kb_96, rfl, N96, K96, mh_os, f96_0, f96_1, f96_2, by rw [own_us0 hc1]; exact f96_3, f96_4⟩
theorem own_pn_java_util_Objects : plainName "java/util/Objects" = true := by first | (simp [plainName, overriddenIn]; done) | decide +kernel
theorem ef_12 (m : MethodId) (x0 : Addr) (x1 : Addr) : entryFrame m #[(.ref x0), (.ref x1)] 2 = mkF m 0 #[.val (.ref x0), .val (.ref x1)] [] := by first | (simp [entryFrame, mkF, argsToLocals, Value.category]; done) | rfl
theorem d12_0 : decode jdk_31_method_11_code 0 = .ok (.aload_n 0, 1) := by decide +kernel
theorem d12_1 : decode jdk_31_method_11_code 1 = .ok (.ifnonnull 12, 3) := by decide +kernel
theorem d12_13 : decode jdk_31_method_11_code 13 = .ok (.aload_n 0, 1) := by decide +kernel
theorem d12_14 : decode jdk_31_method_11_code 14 = .ok (.areturn, 1) := by decide +kernel
def Q12 (Z : State) (a1 : Addr) (a2 : Addr) (h0 : Heap) (n0 : Nat) (v : Option Value) (h : Heap) (L : List Loc) : Prop := v = some (.ref a1) ∧ Fr n0 L ∧ h = h0
set_option maxRecDepth 65536 in
set_option maxHeartbeats 40000000 in
theorem rm12 (l : Launch) (Z : State) (a0 : Array Value) (hw : ∀ d ∈ tables_1, d.before a0 Z = true) (ws : List Jvm.Cond) (a1 : Addr) (a2 : Addr) (h0 : Heap) (n0 : Nat) (Z0 : n0 ≤ h0.size)  :
    MetFree l (⟨"java/util/Objects", "requireNonNull", "(Ljava/lang/Object;Ljava/lang/String;)Ljava/lang/Object;"⟩ : MethodName) (head1 (Jvm.Cond.code (⟨"java/util/Objects", "requireNonNull", "(Ljava/lang/Object;Ljava/lang/String;)Ljava/lang/Object;"⟩ : MethodName) jdk_31_method_11_code 2 (some (.object "java/lang/Object")) :: ws) ({ frames := 0, cells := 0, slots := 0, locals := 0 } : Room)) (fun a U => a = #[(.ref a1), (.ref a2)] ∧ Z.Warmed39 U.vm ∧ U.heap = h0) (fun _ _ _ _ _ => True) (fun _ U o U' => ∃ v L, o = .returned v ∧ Q12 Z a1 a2 h0 n0 v U'.heap L ∧ FrameEnd U o U' L ({ frames := 0, cells := 0, slots := 0, locals := 0 } : Room).cells ({ frames := 0, cells := 0, slots := 0, locals := 0 } : Room).slots) := by
  refine MetFree.of_bodySF (plainFor_of_name own_pn_java_util_Objects) hisR ?_
  intro p e s m args below meth c s₁ Bd hml0 hP hK
  obtain ⟨rfl, hZ, hh⟩ := hP
  have hx := Bd.exec
  have hby := Bd.bytes
  have hlk := Bd.notSynchronized
  have hml : c.maxLocals = 2 := hml0
  have hown : s.vm.findClass "java/util/Objects" = some m.cls := findClass_of_methodNamed Bd.named
  have hnm := (name_of_methodNamed Bd.named Bd.method).1
  have X0 : Stand p l e ({ frames := 0, cells := 0, slots := 0, locals := 0 } : Room) s m #[(.ref a1), (.ref a2)] below meth c s₁ [] 0 0 := Stand.of_body Bd
  have e0 : s₁.heap = h0 := by rw [← hh, Bd.state]; rfl
  have N0 := Fr.nil n0
  show Go p e below (KQ s below (Q12 Z a1 a2 h0 n0) ({ frames := 0, cells := 0, slots := 0, locals := 0 } : Room).cells ({ frames := 0, cells := 0, slots := 0, locals := 0 } : Room).slots) _
  refine Go.body (T := s₁) (σ := s₁) (g' := (mkF m 0 #[.val (.ref a1), .val (.ref a2)] [])) (ef_12 m a1 a2) ?_
  refine g_aloadN X0 hx (hb hby d12_0) 1 rfl (v := (.ref a1)) rfl rfl ?_
  refine g_ifnonnullY X0 hx (hb hby d12_1) 13 (by decide) (by decide) ?_
  refine g_aloadN X0 hx (hb hby d12_13) 14 rfl (v := (.ref a1)) rfl rfl ?_
  refine Go.retA X0 hx hlk Bd.returns rfl rfl (hb hby d12_14) (by decide) (by decide) ?_
  show Q12 Z a1 a2 h0 n0 _ s₁.heap _
  rw [e0]
  exact ⟨rfl, N0, rfl⟩
theorem ef_13 (m : MethodId) (x0 : Addr) : entryFrame m #[(.ref x0)] 1 = mkF m 0 #[.val (.ref x0)] [] := by first | (simp [entryFrame, mkF, argsToLocals, Value.category]; done) | rfl
theorem d13_0 : decode jdk_42_method_55_code 0 = .ok (.aload_n 0, 1) := by decide +kernel
theorem d13_1 : decode jdk_42_method_55_code 1 = .ok (.getfield 9, 3) := by decide +kernel
theorem d13_4 : decode jdk_42_method_55_code 4 = .ok (.arraylength, 1) := by decide +kernel
theorem d13_5 : decode jdk_42_method_55_code 5 = .ok (.ifCond .ne 7, 3) := by decide +kernel
theorem d13_12 : decode jdk_42_method_55_code 12 = .ok (.iconst 0, 1) := by decide +kernel
theorem d13_13 : decode jdk_42_method_55_code 13 = .ok (.ireturn, 1) := by decide +kernel
def Q13 (Z : State) (a1 : Addr) (vb : Addr) (kb : ClassId) (u : List Int32) (h0 : Heap) (n0 : Nat) (v : Option Value) (h : Heap) (L : List Loc) : Prop := v = some (.int (0 : Int32)) ∧ Fr n0 L ∧ h = h0
set_option maxRecDepth 65536 in
set_option maxHeartbeats 40000000 in
theorem rm13 (l : Launch) (Z : State) (a0 : Array Value) (hw : ∀ d ∈ tables_1, d.before a0 Z = true) (ws : List Jvm.Cond) (a1 : Addr) (vb : Addr) (kb : ClassId) (u : List Int32) (h0 : Heap) (n0 : Nat) (Z0 : n0 ≤ h0.size) (F_value_a1 : Fld Z h0 a1 "java/lang/String" "value" "[B" (.ref vb)) (A_vb : Arv Z h0 vb kb .byte (Int32.ofNat u.length) (u.map Value.int) (.int (0 : Int32))) (hu : ¬ Int32.ofNat u.length = 0) :
    MetFree l (⟨"java/lang/String", "isEmpty", "()Z"⟩ : MethodName) (head1 (Jvm.Cond.code (⟨"java/lang/String", "isEmpty", "()Z"⟩ : MethodName) jdk_42_method_55_code 1 (some .boolean) :: ws) ({ frames := 0, cells := 0, slots := 0, locals := 0 } : Room)) (fun a U => a = #[(.ref a1)] ∧ Z.Warmed39 U.vm ∧ U.heap = h0) (fun _ _ _ _ _ => True) (fun _ U o U' => ∃ v L, o = .returned v ∧ Q13 Z a1 vb kb u h0 n0 v U'.heap L ∧ FrameEnd U o U' L ({ frames := 0, cells := 0, slots := 0, locals := 0 } : Room).cells ({ frames := 0, cells := 0, slots := 0, locals := 0 } : Room).slots) := by
  refine MetFree.of_bodySF (plainFor_of_name own_pn_java_lang_String) hisR ?_
  intro p e s m args below meth c s₁ Bd hml0 hP hK
  obtain ⟨rfl, hZ, hh⟩ := hP
  have hx := Bd.exec
  have hby := Bd.bytes
  have hlk := Bd.notSynchronized
  have hml : c.maxLocals = 1 := hml0
  have hown : s.vm.findClass "java/lang/String" = some m.cls := findClass_of_methodNamed Bd.named
  have hnm := (name_of_methodNamed Bd.named Bd.method).1
  have X0 : Stand p l e ({ frames := 0, cells := 0, slots := 0, locals := 0 } : Room) s m #[(.ref a1)] below meth c s₁ [] 0 0 := Stand.of_body Bd
  have e0 : s₁.heap = h0 := by rw [← hh, Bd.state]; rfl
  have N0 := Fr.nil n0
  show Go p e below (KQ s below (Q13 Z a1 vb kb u h0 n0) ({ frames := 0, cells := 0, slots := 0, locals := 0 } : Room).cells ({ frames := 0, cells := 0, slots := 0, locals := 0 } : Room).slots) _
  refine Go.body (T := s₁) (σ := s₁) (g' := (mkF m 0 #[.val (.ref a1)] [])) (ef_13 m a1) ?_
  refine g_aloadN X0 hx (hb hby d13_0) 1 rfl (v := (.ref a1)) rfl rfl ?_
  obtain ⟨T98, X98, e98, st98⟩ := getF X0 hx hZ hown (host := "") (Or.inl (hw _ (List.mem_of_getElem? (i := 24) rfl))) Via.refl e0 F_value_a1 (g := (mkF m 1 #[.val (.ref a1)] [(.ref a1)])) rfl rfl (hb hby d13_1)
  refine Go.st st98 ?_
  show Go p e below _ (T98.setTop (mkF m 4 #[.val (.ref a1)] [(.ref vb)]))
  refine g_alen X98 hx (hb hby d13_4) 5 rfl hZ e98 A_vb ?_
  refine g_if_ne X98 hx (hb hby d13_5) 12 8 (by decide) (by decide) rfl (fun hc5 => ?_) (fun hc5 => False.elim (hu hc5))
  refine g_iconst X98 hx (hb hby d13_12) 13 rfl (0 : Int32) rfl ?_
  refine Go.retN X98 hx hlk (t := .boolean) Bd.returns (by simp) (hb hby d13_13) (by decide) (by decide) ?_
  show Q13 Z a1 vb kb u h0 n0 _ T98.heap _
  rw [e98]
  exact ⟨rfl, N0, rfl⟩
theorem own_pn_java_lang_Record : plainName "java/lang/Record" = true := by first | (simp [plainName, overriddenIn]; done) | decide +kernel
theorem ef_11 (m : MethodId) (x0 : Addr) : entryFrame m #[(.ref x0)] 1 = mkF m 0 #[.val (.ref x0)] [] := by first | (simp [entryFrame, mkF, argsToLocals, Value.category]; done) | rfl
theorem d11_0 : decode jdk_30_method_1_code 0 = .ok (.aload_n 0, 1) := by decide +kernel
theorem d11_1 : decode jdk_30_method_1_code 1 = .ok (.invokespecial 1, 3) := by decide +kernel
theorem d11_4 : decode jdk_30_method_1_code 4 = .ok (.return_, 1) := by decide +kernel
def Q11 (Z : State) (a1 : Addr) (h0 : Heap) (n0 : Nat) (v : Option Value) (h : Heap) (L : List Loc) : Prop := v = none ∧ Fr n0 L ∧ h = h0
set_option maxRecDepth 65536 in
set_option maxHeartbeats 40000000 in
theorem rm11 (l : Launch) (Z : State) (a0 : Array Value) (hw : ∀ d ∈ tables_1, d.before a0 Z = true) (ws : List Jvm.Cond) (a1 : Addr) (h0 : Heap) (n0 : Nat) (Z0 : n0 ≤ h0.size)  :
    MetFree l (⟨"java/lang/Record", "<init>", "()V"⟩ : MethodName) (head1 (Jvm.Cond.code (⟨"java/lang/Record", "<init>", "()V"⟩ : MethodName) jdk_30_method_1_code 1 none :: ws) ({ frames := 1, cells := 0, slots := 0, locals := 12 } : Room)) (fun a U => a = #[(.ref a1)] ∧ Z.Warmed39 U.vm ∧ U.heap = h0) (fun _ _ _ _ _ => True) (fun _ U o U' => ∃ v L, o = .returned v ∧ Q11 Z a1 h0 n0 v U'.heap L ∧ FrameEnd U o U' L ({ frames := 1, cells := 0, slots := 0, locals := 12 } : Room).cells ({ frames := 1, cells := 0, slots := 0, locals := 12 } : Room).slots) := by
  refine MetFree.of_bodySF (plainFor_of_name own_pn_java_lang_Record) hisR ?_
  intro p e s m args below meth c s₁ Bd hml0 hP hK
  obtain ⟨rfl, hZ, hh⟩ := hP
  have hx := Bd.exec
  have hby := Bd.bytes
  have hlk := Bd.notSynchronized
  have hml : c.maxLocals = 1 := hml0
  have hown : s.vm.findClass "java/lang/Record" = some m.cls := findClass_of_methodNamed Bd.named
  have hnm := (name_of_methodNamed Bd.named Bd.method).1
  have X0 : Stand p l e ({ frames := 1, cells := 0, slots := 0, locals := 12 } : Room) s m #[(.ref a1)] below meth c s₁ [] 0 0 := Stand.of_body Bd
  have e0 : s₁.heap = h0 := by rw [← hh, Bd.state]; rfl
  have N0 := Fr.nil n0
  show Go p e below (KQ s below (Q11 Z a1 h0 n0) ({ frames := 1, cells := 0, slots := 0, locals := 12 } : Room).cells ({ frames := 1, cells := 0, slots := 0, locals := 12 } : Room).slots) _
  refine Go.body (T := s₁) (σ := s₁) (g' := (mkF m 0 #[.val (.ref a1)] [])) (ef_11 m a1) ?_
  refine g_aloadN X0 hx (hb hby d11_0) 1 rfl (v := (.ref a1)) rfl rfl ?_
  obtain ⟨T100, X100, e100, st100⟩ := initO X0 hx hZ hown (hw _ (List.mem_of_getElem? (i := 54) rfl)) (hw _ (List.mem_of_getElem? (i := 16) rfl)) (hw _ (List.mem_of_getElem? (i := 17) rfl)) e0 (g := (mkF m 1 #[.val (.ref a1)] [(.ref a1)])) rfl (by rw [hml]; rfl) rfl (hb hby d11_1) (by decide) (W := 0) (by show 2 * 0 + _ ≤ _; exact Nat.le_of_eq rfl) (by decide)
  refine Go.st st100 ?_
  show Go p e below _ (T100.setTop (mkF m 4 #[.val (.ref a1)] []))
  refine Go.retV X100 hx hlk Bd.returns (hb hby d11_4) (by decide) (by decide) ?_
  show Q11 Z a1 h0 n0 _ T100.heap _
  rw [e100]
  exact ⟨rfl, N0, rfl⟩
theorem own_pn_com_example_varigraph_varigraph_graph_Markup_Name : plainName "com/example/varigraph/varigraph/graph/Markup$Name" = true := by first | (simp [plainName, overriddenIn]; done) | decide +kernel
theorem ef_ctor (m : MethodId) (x0 : Addr) (x1 : Addr) (x2 : Addr) (x3 : Addr) : entryFrame m #[(.ref x0), (.ref x1), (.ref x2), (.ref x3)] 4 = mkF m 0 #[.val (.ref x0), .val (.ref x1), .val (.ref x2), .val (.ref x3)] [] := by first | (simp [entryFrame, mkF, argsToLocals, Value.category]; done) | rfl
theorem d10_0 : decode prog_78_method_1_code 0 = .ok (.aload_n 0, 1) := by decide +kernel
theorem own_pd6 : parseMethodDescriptor "()V" = some ⟨[], none⟩ := by decide +kernel
theorem d10_1 : decode prog_78_method_1_code 1 = .ok (.invokespecial 1, 3) := by decide +kernel
theorem d10_4 : decode prog_78_method_1_code 4 = .ok (.aload_n 1, 1) := by decide +kernel
theorem d10_5 : decode prog_78_method_1_code 5 = .ok (.ldc 7, 2) := by decide +kernel
theorem own_pd7 : parseMethodDescriptor "(Ljava/lang/Object;Ljava/lang/String;)Ljava/lang/Object;" = some ⟨[(.object "java/lang/Object"), (.object "java/lang/String")], some (.object "java/lang/Object")⟩ := by decide +kernel
theorem d10_7 : decode prog_78_method_1_code 7 = .ok (.invokestatic 9, 3) := by decide +kernel
theorem d10_10 : decode prog_78_method_1_code 10 = .ok (.pop, 1) := by decide +kernel
theorem d10_11 : decode prog_78_method_1_code 11 = .ok (.aload_n 3, 1) := by decide +kernel
theorem d10_12 : decode prog_78_method_1_code 12 = .ok (.ldc 15, 2) := by decide +kernel
theorem d10_14 : decode prog_78_method_1_code 14 = .ok (.invokestatic 9, 3) := by decide +kernel
theorem d10_17 : decode prog_78_method_1_code 17 = .ok (.pop, 1) := by decide +kernel
theorem d10_18 : decode prog_78_method_1_code 18 = .ok (.aload_n 2, 1) := by decide +kernel
theorem own_pd8 : parseMethodDescriptor "()Z" = some ⟨[], some .boolean⟩ := by decide +kernel
theorem d10_19 : decode prog_78_method_1_code 19 = .ok (.invokevirtual 17, 3) := by decide +kernel
theorem d10_22 : decode prog_78_method_1_code 22 = .ok (.ifCond .eq 13, 3) := by decide +kernel
theorem d10_35 : decode prog_78_method_1_code 35 = .ok (.aload_n 0, 1) := by decide +kernel
theorem d10_36 : decode prog_78_method_1_code 36 = .ok (.aload_n 1, 1) := by decide +kernel
theorem d10_37 : decode prog_78_method_1_code 37 = .ok (.putfield 30, 3) := by decide +kernel
theorem d10_40 : decode prog_78_method_1_code 40 = .ok (.aload_n 0, 1) := by decide +kernel
theorem d10_41 : decode prog_78_method_1_code 41 = .ok (.aload_n 2, 1) := by decide +kernel
theorem d10_42 : decode prog_78_method_1_code 42 = .ok (.putfield 35, 3) := by decide +kernel
theorem d10_45 : decode prog_78_method_1_code 45 = .ok (.aload_n 0, 1) := by decide +kernel
theorem d10_46 : decode prog_78_method_1_code 46 = .ok (.aload_n 3, 1) := by decide +kernel
theorem d10_47 : decode prog_78_method_1_code 47 = .ok (.putfield 38, 3) := by decide +kernel
theorem d10_50 : decode prog_78_method_1_code 50 = .ok (.return_, 1) := by decide +kernel
def Qctor (Z : State) (a1 : Addr) (a2 : Addr) (a3 : Addr) (a4 : Addr) (u0 : Value) (u1 : Value) (u2 : Value) (vb : Addr) (kb : ClassId) (u : List Int32) (h0 : Heap) (n0 : Nat) (v : Option Value) (h : Heap) (L : List Loc) : Prop := v = none ∧ Fr n0 L ∧ Keep h0 h [a1] ∧ (Exa Z h a1 "com/example/varigraph/varigraph/graph/Markup$Name") ∧ (Fld Z h a1 "com/example/varigraph/varigraph/graph/Markup$Name" "namespace" "Ljava/lang/String;" (.ref a2)) ∧ (Fld Z h a1 "com/example/varigraph/varigraph/graph/Markup$Name" "localName" "Ljava/lang/String;" (.ref a3)) ∧ (Fld Z h a1 "com/example/varigraph/varigraph/graph/Markup$Name" "prefix" "Ljava/lang/String;" (.ref a4))
set_option maxRecDepth 65536 in
set_option maxHeartbeats 40000000 in
theorem rmctor (l : Launch) (Z : State) (a0 : Array Value) (hw : ∀ d ∈ tables_1, d.before a0 Z = true) (ws : List Jvm.Cond) (a1 : Addr) (a2 : Addr) (a3 : Addr) (a4 : Addr) (u0 : Value) (u1 : Value) (u2 : Value) (vb : Addr) (kb : ClassId) (u : List Int32) (h0 : Heap) (n0 : Nat) (Z0 : n0 ≤ h0.size) (E_a1 : Exa Z h0 a1 "com/example/varigraph/varigraph/graph/Markup$Name") (g_a1 : n0 ≤ a1) (F_namespace_a1 : Fld Z h0 a1 "com/example/varigraph/varigraph/graph/Markup$Name" "namespace" "Ljava/lang/String;" u0) (F_localName_a1 : Fld Z h0 a1 "com/example/varigraph/varigraph/graph/Markup$Name" "localName" "Ljava/lang/String;" u1) (F_prefix_a1 : Fld Z h0 a1 "com/example/varigraph/varigraph/graph/Markup$Name" "prefix" "Ljava/lang/String;" u2) (E_a3 : Exa Z h0 a3 "java/lang/String") (F_value_a3 : Fld Z h0 a3 "java/lang/String" "value" "[B" (.ref vb)) (A_vb : Arv Z h0 vb kb .byte (Int32.ofNat u.length) (u.map Value.int) (.int (0 : Int32))) (ne_a1_a3 : a1 ≠ a3) (ne_a1_vb : a1 ≠ vb) (hu : ¬ Int32.ofNat u.length = 0) :
    MetFree l (⟨"com/example/varigraph/varigraph/graph/Markup$Name", "<init>", "(Ljava/lang/String;Ljava/lang/String;Ljava/lang/String;)V"⟩ : MethodName) (head1 (Jvm.Cond.code (⟨"com/example/varigraph/varigraph/graph/Markup$Name", "<init>", "(Ljava/lang/String;Ljava/lang/String;Ljava/lang/String;)V"⟩ : MethodName) prog_78_method_1_code 4 none :: ws) ({ frames := 2, cells := 4, slots := 68, locals := 24 } : Room)) (fun a U => a = #[(.ref a1), (.ref a2), (.ref a3), (.ref a4)] ∧ Z.Warmed39 U.vm ∧ U.heap = h0 ∧ CHv Z own_EL U.vm h0) (fun _ _ _ _ _ => True) (fun _ U o U' => ∃ v L, o = .returned v ∧ Qctor Z a1 a2 a3 a4 u0 u1 u2 vb kb u h0 n0 v U'.heap L ∧ CHr Z own_EL U.vm U.heap U'.vm U'.heap ∧ ReturnedEndW U o U' L ({ frames := 2, cells := 4, slots := 68, locals := 24 } : Room).cells ({ frames := 2, cells := 4, slots := 68, locals := 24 } : Room).slots) := by
  refine MetFree.of_bodySF (plainFor_of_name own_pn_com_example_varigraph_varigraph_graph_Markup_Name) hisR ?_
  intro p e s m args below meth c s₁ Bd hml0 hP hK
  obtain ⟨rfl, hZ, hh, hCH⟩ := hP
  have hx := Bd.exec
  have hby := Bd.bytes
  have hlk := Bd.notSynchronized
  have hml : c.maxLocals = 4 := hml0
  have hown : s.vm.findClass "com/example/varigraph/varigraph/graph/Markup$Name" = some m.cls := findClass_of_methodNamed Bd.named
  have hnm := (name_of_methodNamed Bd.named Bd.method).1
  have X0 : Stand p l e ({ frames := 2, cells := 4, slots := 68, locals := 24 } : Room) (s.setVm s.vm) m #[(.ref a1), (.ref a2), (.ref a3), (.ref a4)] below meth c s₁ [] 0 0 := Stand.of_body Bd
  have hZ : Z.Warmed39 (s.setVm s.vm).vm := hZ
  have hown : (s.setVm s.vm).vm.findClass "com/example/varigraph/varigraph/graph/Markup$Name" = some m.cls := hown
  have hS0 : s.Since s.vm 0 := (State.WarmedH.refl s).since 0
  have R0 : CHr Z own_EL s.vm h0 s.vm h0 := CHr.refl hCH
  have e0 : s₁.heap = h0 := by rw [← hh, Bd.state]; rfl
  have N0 := Fr.nil n0
  have K0 : Keep h0 h0 [a1] := Keep.refl _ _
  show Go p e below (KS s below Z own_EL (Qctor Z a1 a2 a3 a4 u0 u1 u2 vb kb u h0 n0) ({ frames := 2, cells := 4, slots := 68, locals := 24 } : Room).cells ({ frames := 2, cells := 4, slots := 68, locals := 24 } : Room).slots) _
  refine Go.body (T := s₁) (σ := s₁) (g' := (mkF m 0 #[.val (.ref a1), .val (.ref a2), .val (.ref a3), .val (.ref a4)] [])) (ef_ctor m a1 a2 a3 a4) ?_
  refine g_aloadN X0 hx (hb hby d10_0) 1 rfl (v := (.ref a1)) rfl rfl ?_
  obtain ⟨_, _, ⟨T101, L101, k101, n101⟩, -, X101, ⟨Lc101, hQ101, l101, y101, z101⟩, st101⟩ := X0.specialBack hx (y := (⟨"java/lang/Record", "<init>", "()V"⟩ : MethodName)) rfl hown (mvT hZ (hw _ (List.mem_of_getElem? (i := 49) rfl))) (mvT hZ (hw _ (List.mem_of_getElem? (i := 50) rfl))) (mvT hZ (hw _ (List.mem_of_getElem? (i := 53) rfl))) (by decide) (backOf (W := 0) (rm11 l Z a0 hw [] a1 h0 n0 Z0 ) hZ (hw _ (List.mem_of_getElem? (i := 53) rfl)) (hw _ (List.mem_of_getElem? (i := 52) rfl)) (by decide) (by decide)) (g := (mkF m 1 #[.val (.ref a1), .val (.ref a2), .val (.ref a3), .val (.ref a4)] [(.ref a1)])) rfl (by rw [hml]; rfl) (Steps.refl _) (a := a1) (argsL := []) (rest := []) (lenOf own_pd6 rfl) rfl (by show 2 * 0 + _ ≤ _; exact Nat.le_of_eq rfl) (hb hby d10_1) (fun _ _ => ⟨rfl, e0, (by decide : 0 + 0 ≤ _), (by decide : 0 + 0 ≤ _)⟩)
  dsimp only [Pt.U, Pt.locs, Pt.cells, Pt.slots] at X101 l101 y101 z101 st101 hQ101
  subst l101 y101 z101
  obtain ⟨rfl, Nq101, e101⟩ := hQ101
  refine Go.tr st101 ?_
  have N101 := Fr.app N0 Nq101
  show Go p e below _ (T101.setTop (mkF m 4 #[.val (.ref a1), .val (.ref a2), .val (.ref a3), .val (.ref a4)] []))
  refine g_aloadN X101 hx (hb hby d10_4) 5 rfl (v := (.ref a2)) rfl rfl ?_
  obtain ⟨oa102, T102, h102, k1102, X102, e102, E102, hS102, hk102, hZ, hown, C102, -, st102⟩ := ldcOH X101 hx hZ hown (hw _ (List.mem_of_getElem? (i := 55) rfl)) (own_wS hw) e101 hS0 (Nat.zero_le _) (own_EW hw) R0.1 (g := (mkF m 5 #[.val (.ref a1), .val (.ref a2), .val (.ref a3), .val (.ref a4)] [(.ref a2)])) rfl (hb hby d10_5) (n := 36) (by decide) (by decide) (by decide) (by decide)
  refine Go.st st102 ?_
  have R102 : CHr Z own_EL s.vm h0 T102.vm h102 := CHr.trans R0 C102
  have E_a1_103 : Exa Z h102 a1 "com/example/varigraph/varigraph/graph/Markup$Name" := Exa.ext E102 E_a1
  have F_namespace_a1_103 : Fld Z h102 a1 "com/example/varigraph/varigraph/graph/Markup$Name" "namespace" "Ljava/lang/String;" u0 := Fld.ext E102 F_namespace_a1
  have F_localName_a1_103 : Fld Z h102 a1 "com/example/varigraph/varigraph/graph/Markup$Name" "localName" "Ljava/lang/String;" u1 := Fld.ext E102 F_localName_a1
  have F_prefix_a1_103 : Fld Z h102 a1 "com/example/varigraph/varigraph/graph/Markup$Name" "prefix" "Ljava/lang/String;" u2 := Fld.ext E102 F_prefix_a1
  have K102 : Keep h0 h102 [a1] := Keep.ext K0 E102
  have Zs102 : n0 ≤ h102.size := Nat.le_trans Z0 E102.1
  show Go p e below _ (T102.setTop (mkF m 7 #[.val (.ref a1), .val (.ref a2), .val (.ref a3), .val (.ref a4)] [(.ref oa102), (.ref a2)]))
  obtain ⟨_, _, ⟨T104, L104, k104, n104⟩, -, X104, ⟨Lc104, hQ104, l104, y104, z104⟩, st104⟩ := Jvm.LawKit.callS X102 hx (y := (⟨"java/util/Objects", "requireNonNull", "(Ljava/lang/Object;Ljava/lang/String;)Ljava/lang/Object;"⟩ : MethodName)) hown (mvT hZ (hw _ (List.mem_of_getElem? (i := 56) rfl))) (mvT hZ (hw _ (List.mem_of_getElem? (i := 57) rfl))) (mvT hZ (hw _ (List.mem_of_getElem? (i := 58) rfl))) (mvT hZ (hw _ (List.mem_of_getElem? (i := 59) rfl))) (by decide) (backOf (W := 0) (rm12 l Z a0 hw [] a2 oa102 h102 n0 Zs102 ) hZ (hw _ (List.mem_of_getElem? (i := 59) rfl)) (hw _ (List.mem_of_getElem? (i := 58) rfl)) (by decide) (by decide)) (g := (mkF m 7 #[.val (.ref a1), .val (.ref a2), .val (.ref a3), .val (.ref a4)] [(.ref oa102), (.ref a2)])) rfl (by rw [hml]; rfl) (argsL := [(.ref a2), (.ref oa102)]) (rest := []) (lenOf own_pd7 rfl) rfl (by show 2 * 0 + _ ≤ _; exact Nat.le_of_eq rfl) (hb hby d10_7) (fun _ _ => ⟨rfl, e102, (by decide : 2 + 0 ≤ _), (by decide : 40 + 0 ≤ _)⟩)
  dsimp only [Pt.U, Pt.locs, Pt.cells, Pt.slots] at X104 l104 y104 z104 st104 hQ104
  subst l104 y104 z104
  obtain ⟨rfl, Nq104, e104⟩ := hQ104
  refine Go.st st104 ?_
  have N104 := Fr.app N101 Nq104
  show Go p e below _ (T104.setTop (mkF m 10 #[.val (.ref a1), .val (.ref a2), .val (.ref a3), .val (.ref a4)] [(.ref a2)]))
  refine g_pop X104 hx (hb hby d10_10) 11 rfl rfl ?_
  refine g_aloadN X104 hx (hb hby d10_11) 12 rfl (v := (.ref a4)) rfl rfl ?_
  obtain ⟨oa105, T105, h105, k1105, X105, e105, E105, hS105, hk105, hZ, hown, C105, -, st105⟩ := ldcOH X104 hx hZ hown (hw _ (List.mem_of_getElem? (i := 60) rfl)) (own_wS hw) e104 hS102 hk102 (own_EW hw) R102.1 (g := (mkF m 12 #[.val (.ref a1), .val (.ref a2), .val (.ref a3), .val (.ref a4)] [(.ref a4)])) rfl (hb hby d10_12) (n := 24) (by decide) (by decide) (by decide) (by decide)
  refine Go.st st105 ?_
  have R105 : CHr Z own_EL s.vm h0 T105.vm h105 := CHr.trans R102 C105
  have E_a1_106 : Exa Z h105 a1 "com/example/varigraph/varigraph/graph/Markup$Name" := Exa.ext E105 E_a1_103
  have F_namespace_a1_106 : Fld Z h105 a1 "com/example/varigraph/varigraph/graph/Markup$Name" "namespace" "Ljava/lang/String;" u0 := Fld.ext E105 F_namespace_a1_103
  have F_localName_a1_106 : Fld Z h105 a1 "com/example/varigraph/varigraph/graph/Markup$Name" "localName" "Ljava/lang/String;" u1 := Fld.ext E105 F_localName_a1_103
  have F_prefix_a1_106 : Fld Z h105 a1 "com/example/varigraph/varigraph/graph/Markup$Name" "prefix" "Ljava/lang/String;" u2 := Fld.ext E105 F_prefix_a1_103
  have K105 : Keep h0 h105 [a1] := Keep.ext K102 E105
  have Zs105 : n0 ≤ h105.size := Nat.le_trans Zs102 E105.1
  show Go p e below _ (T105.setTop (mkF m 14 #[.val (.ref a1), .val (.ref a2), .val (.ref a3), .val (.ref a4)] [(.ref oa105), (.ref a4)]))
  obtain ⟨_, _, ⟨T107, L107, k107, n107⟩, -, X107, ⟨Lc107, hQ107, l107, y107, z107⟩, st107⟩ := Jvm.LawKit.callS X105 hx (y := (⟨"java/util/Objects", "requireNonNull", "(Ljava/lang/Object;Ljava/lang/String;)Ljava/lang/Object;"⟩ : MethodName)) hown (mvT hZ (hw _ (List.mem_of_getElem? (i := 56) rfl))) (mvT hZ (hw _ (List.mem_of_getElem? (i := 57) rfl))) (mvT hZ (hw _ (List.mem_of_getElem? (i := 58) rfl))) (mvT hZ (hw _ (List.mem_of_getElem? (i := 59) rfl))) (by decide) (backOf (W := 0) (rm12 l Z a0 hw [] a4 oa105 h105 n0 Zs105 ) hZ (hw _ (List.mem_of_getElem? (i := 59) rfl)) (hw _ (List.mem_of_getElem? (i := 58) rfl)) (by decide) (by decide)) (g := (mkF m 14 #[.val (.ref a1), .val (.ref a2), .val (.ref a3), .val (.ref a4)] [(.ref oa105), (.ref a4)])) rfl (by rw [hml]; rfl) (argsL := [(.ref a4), (.ref oa105)]) (rest := []) (lenOf own_pd7 rfl) rfl (by show 2 * 0 + _ ≤ _; exact Nat.le_of_eq rfl) (hb hby d10_14) (fun _ _ => ⟨rfl, e105, (by decide : 4 + 0 ≤ _), (by decide : 68 + 0 ≤ _)⟩)
  dsimp only [Pt.U, Pt.locs, Pt.cells, Pt.slots] at X107 l107 y107 z107 st107 hQ107
  subst l107 y107 z107
  obtain ⟨rfl, Nq107, e107⟩ := hQ107
  refine Go.st st107 ?_
  have N107 := Fr.app N104 Nq107
  show Go p e below _ (T107.setTop (mkF m 17 #[.val (.ref a1), .val (.ref a2), .val (.ref a3), .val (.ref a4)] [(.ref a4)]))
  refine g_pop X107 hx (hb hby d10_17) 18 rfl rfl ?_
  refine g_aloadN X107 hx (hb hby d10_18) 19 rfl (v := (.ref a3)) rfl rfl ?_
  obtain ⟨cq108, kq108, q108a, q108b, q108c⟩ := isOf hZ e107 (Exa.keep E_a3 K105)
  obtain ⟨_, _, ⟨T108, L108, k108, n108⟩, -, X108, ⟨Lc108, hQ108, l108, y108, z108⟩, st108⟩ := X107.virtualBack hx (y := (⟨"java/lang/String", "isEmpty", "()Z"⟩ : MethodName)) (z := (⟨"java/lang/String", "isEmpty", "()Z"⟩ : MethodName)) hown (mvT hZ (hw _ (List.mem_of_getElem? (i := 61) rfl))) (mvT hZ (hw _ (List.mem_of_getElem? (i := 62) rfl))) (notFace_of_selects (args := #[]) (mvT hZ (hw _ (List.mem_of_getElem? (i := 64) rfl)))) (mvT hZ (hw _ (List.mem_of_getElem? (i := 64) rfl))) (mvT hZ (hw _ (List.mem_of_getElem? (i := 63) rfl))) (by decide) (backOf (W := 0) (rm13 l Z a0 hw [] a3 vb kb u h105 n0 Zs105 (Fld.keep F_value_a3 K105 (ninS (Ne.symm ne_a1_a3) nin0)) (Arv.keep A_vb K105 (ninS (Ne.symm ne_a1_vb) nin0)) hu) hZ (hw _ (List.mem_of_getElem? (i := 65) rfl)) (hw _ (List.mem_of_getElem? (i := 6) rfl)) (by decide) (by decide)) q108a q108c (g := (mkF m 19 #[.val (.ref a1), .val (.ref a2), .val (.ref a3), .val (.ref a4)] [(.ref a3)])) rfl (by rw [hml]; rfl) (Steps.refl _) (argsL := []) (rest := []) (lenOf own_pd8 rfl) rfl (by show 2 * 0 + _ ≤ _; exact Nat.le_of_eq rfl) (hb hby d10_19) (fun _ _ => ⟨rfl, e107, (by decide : 4 + 0 ≤ _), (by decide : 68 + 0 ≤ _)⟩)
  dsimp only [Pt.U, Pt.locs, Pt.cells, Pt.slots] at X108 l108 y108 z108 st108 hQ108
  subst l108 y108 z108
  obtain ⟨rfl, Nq108, e108⟩ := hQ108
  refine Go.tr st108 ?_
  have N108 := Fr.app N107 Nq108
  show Go p e below _ (T108.setTop (mkF m 22 #[.val (.ref a1), .val (.ref a2), .val (.ref a3), .val (.ref a4)] [(.int (0 : Int32))]))
  refine g_if_eq X108 hx (hb hby d10_22) 35 25 (by decide) (by decide) rfl (fun hc22 => ?_) (fun hc22 => False.elim (absurd rfl hc22))
  refine g_aloadN X108 hx (hb hby d10_35) 36 rfl (v := (.ref a1)) rfl rfl ?_
  refine g_aloadN X108 hx (hb hby d10_36) 37 rfl (v := (.ref a2)) rfl rfl ?_
  obtain ⟨T109, h109, X109, e109, W109, st109⟩ := putF X108 hx hZ hown (host := "") (Or.inl (hw _ (List.mem_of_getElem? (i := 66) rfl))) Via.refl e108 F_namespace_a1_106 E_a1_106 (Or.inr ⟨(hw _ (List.mem_of_getElem? (i := 67) rfl)), rfl, hnm⟩) (hw _ (List.mem_of_getElem? (i := 44) rfl)) (ty := (.object "java/lang/String")) (by decide) rfl rfl (g := (mkF m 37 #[.val (.ref a1), .val (.ref a2), .val (.ref a3), .val (.ref a4)] [(.ref a2), (.ref a1)])) rfl rfl (hb hby d10_37)
  refine Go.st st109 ?_
  have R110 : CHr Z own_EL s.vm h0 T105.vm h109 := CHr.trans R105 (CHr.wr W109 (Safe.exa (hZ.alike) E_a1_106 (by decide) (by decide)) R105.1)
  have hk110 : _ ≤ h109.size := Nat.le_trans hk105 (Nat.le_of_eq W109.size.symm)
  have E_a1_111 : Exa Z h109 a1 "com/example/varigraph/varigraph/graph/Markup$Name" := Exa.wr W109 E_a1_106
  have F_localName_a1_111 : Fld Z h109 a1 "com/example/varigraph/varigraph/graph/Markup$Name" "localName" "Ljava/lang/String;" u1 := Fld.other W109 F_localName_a1_106 (Or.inr (slot_ne (Or.inr (hw _ (List.mem_of_getElem? (i := 69) rfl))) (Or.inr (hw _ (List.mem_of_getElem? (i := 67) rfl))) (by decide) (t := (.object "java/lang/String")) (t' := (.object "java/lang/String")) (by decide) (by decide)))
  have F_prefix_a1_111 : Fld Z h109 a1 "com/example/varigraph/varigraph/graph/Markup$Name" "prefix" "Ljava/lang/String;" u2 := Fld.other W109 F_prefix_a1_106 (Or.inr (slot_ne (Or.inr (hw _ (List.mem_of_getElem? (i := 71) rfl))) (Or.inr (hw _ (List.mem_of_getElem? (i := 67) rfl))) (by decide) (t := (.object "java/lang/String")) (t' := (.object "java/lang/String")) (by decide) (by decide)))
  have F_namespace_a1_109w : Fld Z h109 a1 "com/example/varigraph/varigraph/graph/Markup$Name" "namespace" "Ljava/lang/String;" (.ref a2) := Fld.same W109 F_namespace_a1_106
  have K109 : Keep h0 h109 [a1] := Keep.wr K105 W109 (Or.inl (List.mem_of_getElem? (i := 0) rfl))
  have N109 := Fr.snoc X109 N108 g_a1
  have Zs109 : n0 ≤ h109.size := by rw [W109.size]; exact Zs105
  show Go p e below _ (T109.setTop (mkF m 40 #[.val (.ref a1), .val (.ref a2), .val (.ref a3), .val (.ref a4)] []))
  refine g_aloadN X109 hx (hb hby d10_40) 41 rfl (v := (.ref a1)) rfl rfl ?_
  refine g_aloadN X109 hx (hb hby d10_41) 42 rfl (v := (.ref a3)) rfl rfl ?_
  obtain ⟨T112, h112, X112, e112, W112, st112⟩ := putF X109 hx hZ hown (host := "") (Or.inl (hw _ (List.mem_of_getElem? (i := 68) rfl))) Via.refl e109 F_localName_a1_111 E_a1_111 (Or.inr ⟨(hw _ (List.mem_of_getElem? (i := 69) rfl)), rfl, hnm⟩) (hw _ (List.mem_of_getElem? (i := 44) rfl)) (ty := (.object "java/lang/String")) (by decide) rfl rfl (g := (mkF m 42 #[.val (.ref a1), .val (.ref a2), .val (.ref a3), .val (.ref a4)] [(.ref a3), (.ref a1)])) rfl rfl (hb hby d10_42)
  refine Go.st st112 ?_
  have R113 : CHr Z own_EL s.vm h0 T105.vm h112 := CHr.trans R110 (CHr.wr W112 (Safe.exa (hZ.alike) E_a1_111 (by decide) (by decide)) R110.1)
  have hk113 : _ ≤ h112.size := Nat.le_trans hk110 (Nat.le_of_eq W112.size.symm)
  have E_a1_114 : Exa Z h112 a1 "com/example/varigraph/varigraph/graph/Markup$Name" := Exa.wr W112 E_a1_111
  have F_prefix_a1_114 : Fld Z h112 a1 "com/example/varigraph/varigraph/graph/Markup$Name" "prefix" "Ljava/lang/String;" u2 := Fld.other W112 F_prefix_a1_111 (Or.inr (slot_ne (Or.inr (hw _ (List.mem_of_getElem? (i := 71) rfl))) (Or.inr (hw _ (List.mem_of_getElem? (i := 69) rfl))) (by decide) (t := (.object "java/lang/String")) (t' := (.object "java/lang/String")) (by decide) (by decide)))
  have F_namespace_a1_114 : Fld Z h112 a1 "com/example/varigraph/varigraph/graph/Markup$Name" "namespace" "Ljava/lang/String;" (.ref a2) := Fld.other W112 F_namespace_a1_109w (Or.inr (slot_ne (Or.inr (hw _ (List.mem_of_getElem? (i := 67) rfl))) (Or.inr (hw _ (List.mem_of_getElem? (i := 69) rfl))) (by decide) (t := (.object "java/lang/String")) (t' := (.object "java/lang/String")) (by decide) (by decide)))
  have F_localName_a1_112w : Fld Z h112 a1 "com/example/varigraph/varigraph/graph/Markup$Name" "localName" "Ljava/lang/String;" (.ref a3) := Fld.same W112 F_localName_a1_111
  have K112 : Keep h0 h112 [a1] := Keep.wr K109 W112 (Or.inl (List.mem_of_getElem? (i := 0) rfl))
  have N112 := Fr.snoc X112 N109 g_a1
  have Zs112 : n0 ≤ h112.size := by rw [W112.size]; exact Zs109
  show Go p e below _ (T112.setTop (mkF m 45 #[.val (.ref a1), .val (.ref a2), .val (.ref a3), .val (.ref a4)] []))
  refine g_aloadN X112 hx (hb hby d10_45) 46 rfl (v := (.ref a1)) rfl rfl ?_
  refine g_aloadN X112 hx (hb hby d10_46) 47 rfl (v := (.ref a4)) rfl rfl ?_
  obtain ⟨T115, h115, X115, e115, W115, st115⟩ := putF X112 hx hZ hown (host := "") (Or.inl (hw _ (List.mem_of_getElem? (i := 70) rfl))) Via.refl e112 F_prefix_a1_114 E_a1_114 (Or.inr ⟨(hw _ (List.mem_of_getElem? (i := 71) rfl)), rfl, hnm⟩) (hw _ (List.mem_of_getElem? (i := 44) rfl)) (ty := (.object "java/lang/String")) (by decide) rfl rfl (g := (mkF m 47 #[.val (.ref a1), .val (.ref a2), .val (.ref a3), .val (.ref a4)] [(.ref a4), (.ref a1)])) rfl rfl (hb hby d10_47)
  refine Go.st st115 ?_
  have R116 : CHr Z own_EL s.vm h0 T105.vm h115 := CHr.trans R113 (CHr.wr W115 (Safe.exa (hZ.alike) E_a1_114 (by decide) (by decide)) R113.1)
  have hk116 : _ ≤ h115.size := Nat.le_trans hk113 (Nat.le_of_eq W115.size.symm)
  have E_a1_117 : Exa Z h115 a1 "com/example/varigraph/varigraph/graph/Markup$Name" := Exa.wr W115 E_a1_114
  have F_namespace_a1_117 : Fld Z h115 a1 "com/example/varigraph/varigraph/graph/Markup$Name" "namespace" "Ljava/lang/String;" (.ref a2) := Fld.other W115 F_namespace_a1_114 (Or.inr (slot_ne (Or.inr (hw _ (List.mem_of_getElem? (i := 67) rfl))) (Or.inr (hw _ (List.mem_of_getElem? (i := 71) rfl))) (by decide) (t := (.object "java/lang/String")) (t' := (.object "java/lang/String")) (by decide) (by decide)))
  have F_localName_a1_117 : Fld Z h115 a1 "com/example/varigraph/varigraph/graph/Markup$Name" "localName" "Ljava/lang/String;" (.ref a3) := Fld.other W115 F_localName_a1_112w (Or.inr (slot_ne (Or.inr (hw _ (List.mem_of_getElem? (i := 69) rfl))) (Or.inr (hw _ (List.mem_of_getElem? (i := 71) rfl))) (by decide) (t := (.object "java/lang/String")) (t' := (.object "java/lang/String")) (by decide) (by decide)))
  have F_prefix_a1_115w : Fld Z h115 a1 "com/example/varigraph/varigraph/graph/Markup$Name" "prefix" "Ljava/lang/String;" (.ref a4) := Fld.same W115 F_prefix_a1_114
  have K115 : Keep h0 h115 [a1] := Keep.wr K112 W115 (Or.inl (List.mem_of_getElem? (i := 0) rfl))
  have N115 := Fr.snoc X115 N112 g_a1
  have Zs115 : n0 ≤ h115.size := by rw [W115.size]; exact Zs112
  show Go p e below _ (T115.setTop (mkF m 50 #[.val (.ref a1), .val (.ref a2), .val (.ref a3), .val (.ref a4)] []))
  refine Go.retVS X115 hx hlk Bd.returns (hb hby d10_50) (by decide) (by decide) hS105 (by rw [e115]; exact hk116) (own_EW hw) hZ (by rw [hh, e115]; exact R116) ?_
  show Qctor Z a1 a2 a3 a4 u0 u1 u2 vb kb u h0 n0 _ T115.heap _
  rw [e115]
  exact ⟨rfl, N115, K115, E_a1_117, F_namespace_a1_117, F_localName_a1_117, F_prefix_a1_115w⟩
theorem own_pn_java_lang_StringLatin1 : plainName "java/lang/StringLatin1" = true := by first | (simp [plainName, overriddenIn]; done) | decide +kernel
theorem ef_leq (m : MethodId) (x0 : Addr) (x1 : Addr) : entryFrame m #[(.ref x0), (.ref x1)] 3 = mkF m 0 #[.val (.ref x0), .val (.ref x1), .unset] [] := by first | (simp [entryFrame, mkF, argsToLocals, Value.category]; done) | rfl
theorem d16_0 : decode jdk_43_method_13_code 0 = .ok (.aload_n 0, 1) := by decide +kernel
theorem d16_1 : decode jdk_43_method_13_code 1 = .ok (.arraylength, 1) := by decide +kernel
theorem d16_2 : decode jdk_43_method_13_code 2 = .ok (.aload_n 1, 1) := by decide +kernel
theorem d16_3 : decode jdk_43_method_13_code 3 = .ok (.arraylength, 1) := by decide +kernel
theorem d16_4 : decode jdk_43_method_13_code 4 = .ok (.if_icmp .ne 30, 3) := by decide +kernel
theorem d16_34 : decode jdk_43_method_13_code 34 = .ok (.iconst 0, 1) := by decide +kernel
theorem d16_35 : decode jdk_43_method_13_code 35 = .ok (.ireturn, 1) := by decide +kernel
theorem d16_7 : decode jdk_43_method_13_code 7 = .ok (.iconst 0, 1) := by decide +kernel
theorem d16_8 : decode jdk_43_method_13_code 8 = .ok (.istore_n 2, 1) := by decide +kernel
theorem d16_9 : decode jdk_43_method_13_code 9 = .ok (.iload_n 2, 1) := by decide +kernel
theorem d16_10 : decode jdk_43_method_13_code 10 = .ok (.aload_n 0, 1) := by decide +kernel
theorem d16_11 : decode jdk_43_method_13_code 11 = .ok (.arraylength, 1) := by decide +kernel
theorem d16_12 : decode jdk_43_method_13_code 12 = .ok (.if_icmp .ge 20, 3) := by decide +kernel
theorem d16_32 : decode jdk_43_method_13_code 32 = .ok (.iconst 1, 1) := by decide +kernel
theorem d16_33 : decode jdk_43_method_13_code 33 = .ok (.ireturn, 1) := by decide +kernel
theorem d16_15 : decode jdk_43_method_13_code 15 = .ok (.aload_n 0, 1) := by decide +kernel
theorem d16_16 : decode jdk_43_method_13_code 16 = .ok (.iload_n 2, 1) := by decide +kernel
theorem d16_17 : decode jdk_43_method_13_code 17 = .ok (.baload, 1) := by decide +kernel
theorem d16_18 : decode jdk_43_method_13_code 18 = .ok (.aload_n 1, 1) := by decide +kernel
theorem d16_19 : decode jdk_43_method_13_code 19 = .ok (.iload_n 2, 1) := by decide +kernel
theorem d16_20 : decode jdk_43_method_13_code 20 = .ok (.baload, 1) := by decide +kernel
theorem d16_21 : decode jdk_43_method_13_code 21 = .ok (.if_icmp .eq 5, 3) := by decide +kernel
theorem d16_26 : decode jdk_43_method_13_code 26 = .ok (.iinc 2 1, 3) := by decide +kernel
theorem d16_29 : decode jdk_43_method_13_code 29 = .ok (.goto (-20), 3) := by decide +kernel
theorem d16_24 : decode jdk_43_method_13_code 24 = .ok (.iconst 0, 1) := by decide +kernel
theorem d16_25 : decode jdk_43_method_13_code 25 = .ok (.ireturn, 1) := by decide +kernel
def Qleq (Z : State) (a1 : Addr) (a2 : Addr) (k1 : ClassId) (k2 : ClassId) (u1 : List Int32) (u2 : List Int32) (h0 : Heap) (n0 : Nat) (v : Option Value) (h : Heap) (L : List Loc) : Prop := ∃ r : Int32, v = some (.int r) ∧ Fr n0 L ∧ h = h0 ∧ (r = 0 ∨ r = 1) ∧ (r = 1 ↔ u1 = u2)
set_option maxRecDepth 65536 in
set_option maxHeartbeats 40000000 in
theorem rmleq (l : Launch) (Z : State) (a0 : Array Value) (hw : ∀ d ∈ tables_1, d.before a0 Z = true) (ws : List Jvm.Cond) (a1 : Addr) (a2 : Addr) (k1 : ClassId) (k2 : ClassId) (u1 : List Int32) (u2 : List Int32) (h0 : Heap) (n0 : Nat) (Z0 : n0 ≤ h0.size) (A_a1 : Arv Z h0 a1 k1 .byte (Int32.ofNat u1.length) (u1.map Value.int) (.int (0 : Int32))) (A_a2 : Arv Z h0 a2 k2 .byte (Int32.ofNat u2.length) (u2.map Value.int) (.int (0 : Int32))) (h1 : u1.length ≤ 2) (h2 : u2.length ≤ 2) :
    MetFree l (⟨"java/lang/StringLatin1", "equals", "([B[B)Z"⟩ : MethodName) (head1 (Jvm.Cond.code (⟨"java/lang/StringLatin1", "equals", "([B[B)Z"⟩ : MethodName) jdk_43_method_13_code 3 (some .boolean) :: ws) ({ frames := 0, cells := 0, slots := 0, locals := 0 } : Room)) (fun a U => a = #[(.ref a1), (.ref a2)] ∧ Z.Warmed39 U.vm ∧ U.heap = h0) (fun _ _ _ _ _ => True) (fun _ U o U' => ∃ v L, o = .returned v ∧ Qleq Z a1 a2 k1 k2 u1 u2 h0 n0 v U'.heap L ∧ FrameEnd U o U' L ({ frames := 0, cells := 0, slots := 0, locals := 0 } : Room).cells ({ frames := 0, cells := 0, slots := 0, locals := 0 } : Room).slots) := by
  refine MetFree.of_bodySF (plainFor_of_name own_pn_java_lang_StringLatin1) hisR ?_
  intro p e s m args below meth c s₁ Bd hml0 hP hK
  obtain ⟨rfl, hZ, hh⟩ := hP
  have hx := Bd.exec
  have hby := Bd.bytes
  have hlk := Bd.notSynchronized
  have hml : c.maxLocals = 3 := hml0
  have hown : s.vm.findClass "java/lang/StringLatin1" = some m.cls := findClass_of_methodNamed Bd.named
  have hnm := (name_of_methodNamed Bd.named Bd.method).1
  have X0 : Stand p l e ({ frames := 0, cells := 0, slots := 0, locals := 0 } : Room) s m #[(.ref a1), (.ref a2)] below meth c s₁ [] 0 0 := Stand.of_body Bd
  have e0 : s₁.heap = h0 := by rw [← hh, Bd.state]; rfl
  have N0 := Fr.nil n0
  show Go p e below (KQ s below (Qleq Z a1 a2 k1 k2 u1 u2 h0 n0) ({ frames := 0, cells := 0, slots := 0, locals := 0 } : Room).cells ({ frames := 0, cells := 0, slots := 0, locals := 0 } : Room).slots) _
  refine Go.body (T := s₁) (σ := s₁) (g' := (mkF m 0 #[.val (.ref a1), .val (.ref a2), .unset] [])) (ef_leq m a1 a2) ?_
  refine g_aloadN X0 hx (hb hby d16_0) 1 rfl (v := (.ref a1)) rfl rfl ?_
  refine g_alen X0 hx (hb hby d16_1) 2 rfl hZ e0 A_a1 ?_
  refine g_aloadN X0 hx (hb hby d16_2) 3 rfl (v := (.ref a2)) rfl rfl ?_
  refine g_alen X0 hx (hb hby d16_3) 4 rfl hZ e0 A_a2 ?_
  refine g_icmp_ne X0 hx (hb hby d16_4) 34 7 (by decide) (by decide) rfl (fun hc4 => ?_) (fun hc4 => ?_)
  · refine g_iconst X0 hx (hb hby d16_34) 35 rfl (0 : Int32) rfl ?_
    refine Go.retN X0 hx hlk (t := .boolean) Bd.returns (by simp) (hb hby d16_35) (by decide) (by decide) ?_
    show Qleq Z a1 a2 k1 k2 u1 u2 h0 n0 _ s₁.heap _
    rw [e0]
    exact ⟨(0 : Int32), rfl, N0, rfl, Or.inl rfl, ⟨fun q => absurd q (by decide), fun q => absurd (congrArg (fun z => Int32.ofNat (List.length z)) q) hc4⟩⟩
  · have hl : u1.length = u2.length := own_eqn (by omega) (by omega) hc4
    refine g_iconst X0 hx (hb hby d16_7) 8 rfl (0 : Int32) rfl ?_
    refine g_istoreN X0 hx (hb hby d16_8) 9 rfl #[.val (.ref a1), .val (.ref a2), .val (.int (0 : Int32))] rfl ?_
    have lp : ∀ tl : Nat, ∀ (i : Nat) {Ts120 : State} {lc120 : List Loc} (Xs120 : Stand p l e ({ frames := 0, cells := 0, slots := 0, locals := 0 } : Room) s m #[(.ref a1), (.ref a2)] below meth c Ts120 lc120 0 0) (es120 : Ts120.heap = h0) (Ns120 : Fr n0 lc120) (hj : ∀ j, j < i → u1.getD j 0 = u2.getD j 0), i + tl = u1.length → Go p e below (KQ s below (Qleq Z a1 a2 k1 k2 u1 u2 h0 n0) ({ frames := 0, cells := 0, slots := 0, locals := 0 } : Room).cells ({ frames := 0, cells := 0, slots := 0, locals := 0 } : Room).slots) (Ts120.setTop (mkF m 9 #[.val (.ref a1), .val (.ref a2), .val (.int (Int32.ofNat i))] [])) := by
      intro tl
      induction tl with
      | zero => 
        intro i Ts120 lc120 Xs120 es120 Ns120 hj htl
        refine g_iloadN Xs120 hx (hb hby d16_9) 10 rfl (v := (Int32.ofNat i)) rfl ?_
        refine g_aloadN Xs120 hx (hb hby d16_10) 11 rfl (v := (.ref a1)) rfl rfl ?_
        refine g_alen Xs120 hx (hb hby d16_11) 12 rfl hZ es120 A_a1 ?_
        refine g_icmp_ge Xs120 hx (hb hby d16_12) 32 15 (by decide) (by decide) rfl (fun hc12 => ?_) (fun hc12 => False.elim (absurd (own_lt2 (by omega) (by omega) hc12) (by omega)))
        refine g_iconst Xs120 hx (hb hby d16_32) 33 rfl (1 : Int32) rfl ?_
        refine Go.retN Xs120 hx hlk (t := .boolean) Bd.returns (by simp) (hb hby d16_33) (by decide) (by decide) ?_
        show Qleq Z a1 a2 k1 k2 u1 u2 h0 n0 _ Ts120.heap _
        rw [es120]
        exact ⟨(1 : Int32), rfl, Ns120, rfl, Or.inr rfl, ⟨fun _ => own_ext hl (fun j q => hj j (by omega)), fun _ => rfl⟩⟩
      | succ tl ih => 
        intro i Ts120 lc120 Xs120 es120 Ns120 hj htl
        refine g_iloadN Xs120 hx (hb hby d16_9) 10 rfl (v := (Int32.ofNat i)) rfl ?_
        refine g_aloadN Xs120 hx (hb hby d16_10) 11 rfl (v := (.ref a1)) rfl rfl ?_
        refine g_alen Xs120 hx (hb hby d16_11) 12 rfl hZ es120 A_a1 ?_
        refine g_icmp_ge Xs120 hx (hb hby d16_12) 32 15 (by decide) (by decide) rfl (fun hc12 => False.elim (hc12 (own_in (by omega) (by omega)).2)) (fun hc12 => ?_)
        refine g_aloadN Xs120 hx (hb hby d16_15) 16 rfl (v := (.ref a1)) rfl rfl ?_
        refine g_iloadN Xs120 hx (hb hby d16_16) 17 rfl (v := (Int32.ofNat i)) rfl ?_
        refine g_baload Xs120 hx (hb hby d16_17) 18 rfl hZ es120 A_a1 (own_in (by omega) (by omega)) (.int (u1.getD i 0)) (by rw [own_cl (by omega)]; exact own_mapget u1 (by omega)) ?_
        refine g_aloadN Xs120 hx (hb hby d16_18) 19 rfl (v := (.ref a2)) rfl rfl ?_
        refine g_iloadN Xs120 hx (hb hby d16_19) 20 rfl (v := (Int32.ofNat i)) rfl ?_
        refine g_baload Xs120 hx (hb hby d16_20) 21 rfl hZ es120 A_a2 (own_in (by omega) (by omega)) (.int (u2.getD i 0)) (by rw [own_cl (by omega)]; exact own_mapget u2 (by omega)) ?_
        refine g_icmp_eq Xs120 hx (hb hby d16_21) 26 24 (by decide) (by decide) rfl (fun hc21 => ?_) (fun hc21 => ?_)
        · refine g_iinc Xs120 hx (hb hby d16_26) 29 rfl (x := (Int32.ofNat i)) rfl (Int32.ofNat (i + 1)) (own_up i) #[.val (.ref a1), .val (.ref a2), .val (.int (Int32.ofNat (i + 1)))] rfl ?_
          refine g_goto Xs120 hx (hb hby d16_29) 9 (by decide) (by decide) ?_
          exact ih (i + 1) (own_mono Xs120 (by decide) (by decide)) es120 Ns120 (own_next hj hc21) (by omega)
        · refine g_iconst Xs120 hx (hb hby d16_24) 25 rfl (0 : Int32) rfl ?_
          refine Go.retN Xs120 hx hlk (t := .boolean) Bd.returns (by simp) (hb hby d16_25) (by decide) (by decide) ?_
          show Qleq Z a1 a2 k1 k2 u1 u2 h0 n0 _ Ts120.heap _
          rw [es120]
          exact ⟨(0 : Int32), rfl, Ns120, rfl, Or.inl rfl, ⟨fun q => absurd q (by decide), fun q => absurd (by rw [q]) hc21⟩⟩
    exact lp u1.length 0 (own_mono X0 (by decide) (by decide)) e0 N0 (fun j q => absurd q (by omega)) (by omega)
theorem ef_seq (m : MethodId) (x0 : Addr) (x1 : Addr) : entryFrame m #[(.ref x0), (.ref x1)] 3 = mkF m 0 #[.val (.ref x0), .val (.ref x1), .unset] [] := by first | (simp [entryFrame, mkF, argsToLocals, Value.category]; done) | rfl
theorem d15_0 : decode jdk_42_method_66_code 0 = .ok (.aload_n 0, 1) := by decide +kernel
theorem d15_1 : decode jdk_42_method_66_code 1 = .ok (.aload_n 1, 1) := by decide +kernel
theorem d15_2 : decode jdk_42_method_66_code 2 = .ok (.if_acmp .ne 5, 3) := by decide +kernel
theorem d15_7 : decode jdk_42_method_66_code 7 = .ok (.aload_n 1, 1) := by decide +kernel
theorem d15_8 : decode jdk_42_method_66_code 8 = .ok (.instanceof 10, 3) := by decide +kernel
theorem d15_11 : decode jdk_42_method_66_code 11 = .ok (.ifCond .eq 43, 3) := by decide +kernel
theorem d15_14 : decode jdk_42_method_66_code 14 = .ok (.aload_n 1, 1) := by decide +kernel
theorem d15_15 : decode jdk_42_method_66_code 15 = .ok (.checkcast 10, 3) := by decide +kernel
theorem d15_18 : decode jdk_42_method_66_code 18 = .ok (.astore_n 2, 1) := by decide +kernel
theorem d15_19 : decode jdk_42_method_66_code 19 = .ok (.getstatic 38, 3) := by decide +kernel
theorem d15_22 : decode jdk_42_method_66_code 22 = .ok (.ifCond .eq 14, 3) := by decide +kernel
theorem d15_25 : decode jdk_42_method_66_code 25 = .ok (.aload_n 0, 1) := by decide +kernel
theorem d15_26 : decode jdk_42_method_66_code 26 = .ok (.getfield 15, 3) := by decide +kernel
theorem d15_29 : decode jdk_42_method_66_code 29 = .ok (.aload_n 2, 1) := by decide +kernel
theorem d15_30 : decode jdk_42_method_66_code 30 = .ok (.getfield 15, 3) := by decide +kernel
theorem d15_33 : decode jdk_42_method_66_code 33 = .ok (.if_icmp .ne 21, 3) := by decide +kernel
theorem d15_36 : decode jdk_42_method_66_code 36 = .ok (.aload_n 0, 1) := by decide +kernel
theorem d15_37 : decode jdk_42_method_66_code 37 = .ok (.getfield 9, 3) := by decide +kernel
theorem d15_40 : decode jdk_42_method_66_code 40 = .ok (.aload_n 2, 1) := by decide +kernel
theorem d15_41 : decode jdk_42_method_66_code 41 = .ok (.getfield 9, 3) := by decide +kernel
theorem own_pd9 : parseMethodDescriptor "([B[B)Z" = some ⟨[(.array .byte), (.array .byte)], some .boolean⟩ := by decide +kernel
theorem d15_44 : decode jdk_42_method_66_code 44 = .ok (.invokestatic 541, 3) := by decide +kernel
theorem d15_47 : decode jdk_42_method_66_code 47 = .ok (.ifCond .eq 7, 3) := by decide +kernel
theorem d15_54 : decode jdk_42_method_66_code 54 = .ok (.iconst 0, 1) := by decide +kernel
theorem d15_55 : decode jdk_42_method_66_code 55 = .ok (.ireturn, 1) := by decide +kernel
theorem d15_50 : decode jdk_42_method_66_code 50 = .ok (.iconst 1, 1) := by decide +kernel
theorem d15_51 : decode jdk_42_method_66_code 51 = .ok (.goto 4, 3) := by decide +kernel
def Qseq (Z : State) (a1 : Addr) (a2 : Addr) (cs : Int32) (v1 : Addr) (v2 : Addr) (k1 : ClassId) (k2 : ClassId) (u1 : List Int32) (u2 : List Int32) (h0 : Heap) (n0 : Nat) (v : Option Value) (h : Heap) (L : List Loc) : Prop := ∃ r : Int32, v = some (.int r) ∧ Fr n0 L ∧ h = h0 ∧ (r = 0 ∨ r = 1) ∧ (r = 1 ↔ u1 = u2)
set_option maxRecDepth 65536 in
set_option maxHeartbeats 40000000 in
theorem rmseq (l : Launch) (Z : State) (a0 : Array Value) (hw : ∀ d ∈ tables_1, d.before a0 Z = true) (ws : List Jvm.Cond) (a1 : Addr) (a2 : Addr) (cs : Int32) (v1 : Addr) (v2 : Addr) (k1 : ClassId) (k2 : ClassId) (u1 : List Int32) (u2 : List Int32) (h0 : Heap) (n0 : Nat) (Z0 : n0 ≤ h0.size) (S_COMPACT_STRINGS : Sta Z h0 "java/lang/String" "COMPACT_STRINGS" "Z" (.int cs)) (E_a1 : Exa Z h0 a1 "java/lang/String") (F_value_a1 : Fld Z h0 a1 "java/lang/String" "value" "[B" (.ref v1)) (F_coder_a1 : Fld Z h0 a1 "java/lang/String" "coder" "B" (.int (0 : Int32))) (A_v1 : Arv Z h0 v1 k1 .byte (Int32.ofNat u1.length) (u1.map Value.int) (.int (0 : Int32))) (E_a2 : Exa Z h0 a2 "java/lang/String") (F_value_a2 : Fld Z h0 a2 "java/lang/String" "value" "[B" (.ref v2)) (F_coder_a2 : Fld Z h0 a2 "java/lang/String" "coder" "B" (.int (0 : Int32))) (A_v2 : Arv Z h0 v2 k2 .byte (Int32.ofNat u2.length) (u2.map Value.int) (.int (0 : Int32))) (ne_a1_a2 : a1 ≠ a2) (hcs : ¬ cs = 0) (h1 : u1.length ≤ 2) (h2 : u2.length ≤ 2) :
    MetFree l (⟨"java/lang/String", "equals", "(Ljava/lang/Object;)Z"⟩ : MethodName) (head1 (Jvm.Cond.code (⟨"java/lang/String", "equals", "(Ljava/lang/Object;)Z"⟩ : MethodName) jdk_42_method_66_code 3 (some .boolean) :: ws) ({ frames := 1, cells := 0, slots := 0, locals := 14 } : Room)) (fun a U => a = #[(.ref a1), (.ref a2)] ∧ Z.Warmed39 U.vm ∧ U.heap = h0) (fun _ _ _ _ _ => True) (fun _ U o U' => ∃ v L, o = .returned v ∧ Qseq Z a1 a2 cs v1 v2 k1 k2 u1 u2 h0 n0 v U'.heap L ∧ FrameEnd U o U' L ({ frames := 1, cells := 0, slots := 0, locals := 14 } : Room).cells ({ frames := 1, cells := 0, slots := 0, locals := 14 } : Room).slots) := by
  refine MetFree.of_bodySF (plainFor_of_name own_pn_java_lang_String) hisR ?_
  intro p e s m args below meth c s₁ Bd hml0 hP hK
  obtain ⟨rfl, hZ, hh⟩ := hP
  have hx := Bd.exec
  have hby := Bd.bytes
  have hlk := Bd.notSynchronized
  have hml : c.maxLocals = 3 := hml0
  have hown : s.vm.findClass "java/lang/String" = some m.cls := findClass_of_methodNamed Bd.named
  have hnm := (name_of_methodNamed Bd.named Bd.method).1
  have X0 : Stand p l e ({ frames := 1, cells := 0, slots := 0, locals := 14 } : Room) s m #[(.ref a1), (.ref a2)] below meth c s₁ [] 0 0 := Stand.of_body Bd
  have e0 : s₁.heap = h0 := by rw [← hh, Bd.state]; rfl
  have N0 := Fr.nil n0
  show Go p e below (KQ s below (Qseq Z a1 a2 cs v1 v2 k1 k2 u1 u2 h0 n0) ({ frames := 1, cells := 0, slots := 0, locals := 14 } : Room).cells ({ frames := 1, cells := 0, slots := 0, locals := 14 } : Room).slots) _
  refine Go.body (T := s₁) (σ := s₁) (g' := (mkF m 0 #[.val (.ref a1), .val (.ref a2), .unset] [])) (ef_seq m a1 a2) ?_
  refine g_aloadN X0 hx (hb hby d15_0) 1 rfl (v := (.ref a1)) rfl rfl ?_
  refine g_aloadN X0 hx (hb hby d15_1) 2 rfl (v := (.ref a2)) rfl rfl ?_
  refine g_acmp_ne X0 hx (hb hby d15_2) 7 5 (by decide) (by decide) rfl rfl rfl (fun hc2 => ?_) (fun hc2 => False.elim (ne_a1_a2 (Value.ref.inj hc2)))
  refine g_aloadN X0 hx (hb hby d15_7) 8 rfl (v := (.ref a2)) rfl rfl ?_
  obtain ⟨T125, X125, e125, st125⟩ := instY X0 hx hZ hown (hw _ (List.mem_of_getElem? (i := 82) rfl)) e0 (Ins.self E_a2) (g := (mkF m 8 #[.val (.ref a1), .val (.ref a2), .unset] [(.ref a2)])) rfl rfl (hb hby d15_8)
  refine Go.st st125 ?_
  show Go p e below _ (T125.setTop (mkF m 11 #[.val (.ref a1), .val (.ref a2), .unset] [(.int (1 : Int32))]))
  refine g_if_eq X125 hx (hb hby d15_11) 54 14 (by decide) (by decide) rfl (fun hc11 => False.elim (absurd hc11 (by decide))) (fun hc11 => ?_)
  refine g_aloadN X125 hx (hb hby d15_14) 15 rfl (v := (.ref a2)) rfl rfl ?_
  obtain ⟨T126, X126, e126, st126⟩ := castY X125 hx hZ hown (hw _ (List.mem_of_getElem? (i := 82) rfl)) e125 (Ins.self E_a2) (g := (mkF m 15 #[.val (.ref a1), .val (.ref a2), .unset] [(.ref a2)])) rfl rfl (hb hby d15_15)
  refine Go.st st126 ?_
  show Go p e below _ (T126.setTop (mkF m 18 #[.val (.ref a1), .val (.ref a2), .unset] [(.ref a2)]))
  refine g_astoreN X126 hx (hb hby d15_18) 19 rfl rfl #[.val (.ref a1), .val (.ref a2), .val (.ref a2)] rfl ?_
  obtain ⟨T127, X127, e127, st127⟩ := getS2 X126 hx hZ hown (host := "") (Or.inl (hw _ (List.mem_of_getElem? (i := 32) rfl))) Via.refl e126 S_COMPACT_STRINGS (g := (mkF m 19 #[.val (.ref a1), .val (.ref a2), .val (.ref a2)] [])) rfl (hb hby d15_19)
  refine Go.st st127 ?_
  show Go p e below _ (T127.setTop (mkF m 22 #[.val (.ref a1), .val (.ref a2), .val (.ref a2)] [(.int cs)]))
  refine g_if_eq X127 hx (hb hby d15_22) 36 25 (by decide) (by decide) rfl (fun hc22 => False.elim (hcs hc22)) (fun hc22 => ?_)
  refine g_aloadN X127 hx (hb hby d15_25) 26 rfl (v := (.ref a1)) rfl rfl ?_
  obtain ⟨T128, X128, e128, st128⟩ := getF X127 hx hZ hown (host := "") (Or.inl (hw _ (List.mem_of_getElem? (i := 25) rfl))) Via.refl e127 F_coder_a1 (g := (mkF m 26 #[.val (.ref a1), .val (.ref a2), .val (.ref a2)] [(.ref a1)])) rfl rfl (hb hby d15_26)
  refine Go.st st128 ?_
  show Go p e below _ (T128.setTop (mkF m 29 #[.val (.ref a1), .val (.ref a2), .val (.ref a2)] [(.int (0 : Int32))]))
  refine g_aloadN X128 hx (hb hby d15_29) 30 rfl (v := (.ref a2)) rfl rfl ?_
  obtain ⟨T129, X129, e129, st129⟩ := getF X128 hx hZ hown (host := "") (Or.inl (hw _ (List.mem_of_getElem? (i := 25) rfl))) Via.refl e128 F_coder_a2 (g := (mkF m 30 #[.val (.ref a1), .val (.ref a2), .val (.ref a2)] [(.ref a2), (.int (0 : Int32))])) rfl rfl (hb hby d15_30)
  refine Go.st st129 ?_
  show Go p e below _ (T129.setTop (mkF m 33 #[.val (.ref a1), .val (.ref a2), .val (.ref a2)] [(.int (0 : Int32)), (.int (0 : Int32))]))
  refine g_icmp_ne X129 hx (hb hby d15_33) 54 36 (by decide) (by decide) rfl (fun hc33 => False.elim (hc33 rfl)) (fun hc33 => ?_)
  refine g_aloadN X129 hx (hb hby d15_36) 37 rfl (v := (.ref a1)) rfl rfl ?_
  obtain ⟨T130, X130, e130, st130⟩ := getF X129 hx hZ hown (host := "") (Or.inl (hw _ (List.mem_of_getElem? (i := 24) rfl))) Via.refl e129 F_value_a1 (g := (mkF m 37 #[.val (.ref a1), .val (.ref a2), .val (.ref a2)] [(.ref a1)])) rfl rfl (hb hby d15_37)
  refine Go.st st130 ?_
  show Go p e below _ (T130.setTop (mkF m 40 #[.val (.ref a1), .val (.ref a2), .val (.ref a2)] [(.ref v1)]))
  refine g_aloadN X130 hx (hb hby d15_40) 41 rfl (v := (.ref a2)) rfl rfl ?_
  obtain ⟨T131, X131, e131, st131⟩ := getF X130 hx hZ hown (host := "") (Or.inl (hw _ (List.mem_of_getElem? (i := 24) rfl))) Via.refl e130 F_value_a2 (g := (mkF m 41 #[.val (.ref a1), .val (.ref a2), .val (.ref a2)] [(.ref a2), (.ref v1)])) rfl rfl (hb hby d15_41)
  refine Go.st st131 ?_
  show Go p e below _ (T131.setTop (mkF m 44 #[.val (.ref a1), .val (.ref a2), .val (.ref a2)] [(.ref v2), (.ref v1)]))
  obtain ⟨_, _, ⟨T132, L132, k132, n132⟩, -, X132, ⟨Lc132, hQ132, l132, y132, z132⟩, st132⟩ := Jvm.LawKit.callS X131 hx (y := (⟨"java/lang/StringLatin1", "equals", "([B[B)Z"⟩ : MethodName)) hown (mvT hZ (hw _ (List.mem_of_getElem? (i := 83) rfl))) (mvT hZ (hw _ (List.mem_of_getElem? (i := 84) rfl))) (mvT hZ (hw _ (List.mem_of_getElem? (i := 85) rfl))) (mvT hZ (hw _ (List.mem_of_getElem? (i := 86) rfl))) (by decide) (backOf (W := 0) (rmleq l Z a0 hw [] v1 v2 k1 k2 u1 u2 h0 n0 Z0 A_v1 A_v2 h1 h2) hZ (hw _ (List.mem_of_getElem? (i := 86) rfl)) (hw _ (List.mem_of_getElem? (i := 85) rfl)) (by decide) (by decide)) (g := (mkF m 44 #[.val (.ref a1), .val (.ref a2), .val (.ref a2)] [(.ref v2), (.ref v1)])) rfl (by rw [hml]; rfl) (argsL := [(.ref v1), (.ref v2)]) (rest := []) (lenOf own_pd9 rfl) rfl (by show 2 * 0 + _ ≤ _; exact Nat.le_of_eq rfl) (hb hby d15_44) (fun _ _ => ⟨rfl, e131, (by decide : 0 + 0 ≤ _), (by decide : 0 + 0 ≤ _)⟩)
  dsimp only [Pt.U, Pt.locs, Pt.cells, Pt.slots] at X132 l132 y132 z132 st132 hQ132
  subst l132 y132 z132
  obtain ⟨r_132, rfl, Nq132, e132, p132_0, p132_1⟩ := hQ132
  refine Go.st st132 ?_
  have N132 := Fr.app N0 Nq132
  show Go p e below _ (T132.setTop (mkF m 47 #[.val (.ref a1), .val (.ref a2), .val (.ref a2)] [(.int r_132)]))
  refine g_if_eq X132 hx (hb hby d15_47) 54 50 (by decide) (by decide) rfl (fun hc47 => ?_) (fun hc47 => ?_)
  · refine g_iconst X132 hx (hb hby d15_54) 55 rfl (0 : Int32) rfl ?_
    refine Go.retN X132 hx hlk (t := .boolean) Bd.returns (by simp) (hb hby d15_55) (by decide) (by decide) ?_
    show Qseq Z a1 a2 cs v1 v2 k1 k2 u1 u2 h0 n0 _ T132.heap _
    rw [e132]
    exact ⟨(0 : Int32), rfl, N132, rfl, Or.inl rfl, ⟨fun q => absurd q (by decide), fun q => absurd (hc47.symm.trans (p132_1.mpr q)) (by decide)⟩⟩
  · refine g_iconst X132 hx (hb hby d15_50) 51 rfl (1 : Int32) rfl ?_
    refine g_goto X132 hx (hb hby d15_51) 55 (by decide) (by decide) ?_
    refine Go.retN X132 hx hlk (t := .boolean) Bd.returns (by simp) (hb hby d15_55) (by decide) (by decide) ?_
    show Qseq Z a1 a2 cs v1 v2 k1 k2 u1 u2 h0 n0 _ T132.heap _
    rw [e132]
    exact ⟨(1 : Int32), rfl, N132, rfl, Or.inr rfl, ⟨fun _ => p132_1.mp (p132_0.resolve_left hc47), fun _ => rfl⟩⟩
theorem ef_nis (m : MethodId) (x0 : Addr) (x1 : Addr) (x2 : Addr) : entryFrame m #[(.ref x0), (.ref x1), (.ref x2)] 3 = mkF m 0 #[.val (.ref x0), .val (.ref x1), .val (.ref x2)] [] := by first | (simp [entryFrame, mkF, argsToLocals, Value.category]; done) | rfl
theorem d14_0 : decode prog_78_method_2_code 0 = .ok (.aload_n 0, 1) := by decide +kernel
theorem d14_1 : decode prog_78_method_2_code 1 = .ok (.getfield 30, 3) := by decide +kernel
theorem d14_4 : decode prog_78_method_2_code 4 = .ok (.aload_n 1, 1) := by decide +kernel
theorem own_pd10 : parseMethodDescriptor "(Ljava/lang/Object;)Z" = some ⟨[(.object "java/lang/Object")], some .boolean⟩ := by decide +kernel
theorem d14_5 : decode prog_78_method_2_code 5 = .ok (.invokevirtual 40, 3) := by decide +kernel
theorem d14_8 : decode prog_78_method_2_code 8 = .ok (.ifCond .eq 18, 3) := by decide +kernel
theorem d14_26 : decode prog_78_method_2_code 26 = .ok (.iconst 0, 1) := by decide +kernel
theorem d14_27 : decode prog_78_method_2_code 27 = .ok (.ireturn, 1) := by decide +kernel
theorem d14_11 : decode prog_78_method_2_code 11 = .ok (.aload_n 0, 1) := by decide +kernel
theorem d14_12 : decode prog_78_method_2_code 12 = .ok (.getfield 35, 3) := by decide +kernel
theorem d14_15 : decode prog_78_method_2_code 15 = .ok (.aload_n 2, 1) := by decide +kernel
theorem d14_16 : decode prog_78_method_2_code 16 = .ok (.invokevirtual 40, 3) := by decide +kernel
theorem d14_19 : decode prog_78_method_2_code 19 = .ok (.ifCond .eq 7, 3) := by decide +kernel
theorem d14_22 : decode prog_78_method_2_code 22 = .ok (.iconst 1, 1) := by decide +kernel
theorem d14_23 : decode prog_78_method_2_code 23 = .ok (.goto 4, 3) := by decide +kernel
def Qnis (Z : State) (a1 : Addr) (a2 : Addr) (a3 : Addr) (cs : Int32) (s1 : Addr) (s2 : Addr) (v0 : Addr) (v1 : Addr) (v2 : Addr) (v3 : Addr) (k0 : ClassId) (k1 : ClassId) (k2 : ClassId) (k3 : ClassId) (y0 : List Int32) (y1 : List Int32) (y2 : List Int32) (y3 : List Int32) (h0 : Heap) (n0 : Nat) (v : Option Value) (h : Heap) (L : List Loc) : Prop := ∃ r : Int32, v = some (.int r) ∧ Fr n0 L ∧ h = h0 ∧ (r = 0 ∨ r = 1) ∧ (r = 1 ↔ (y0 = y2 ∧ y1 = y3))
set_option maxRecDepth 65536 in
set_option maxHeartbeats 40000000 in
theorem rmnis (l : Launch) (Z : State) (a0 : Array Value) (hw : ∀ d ∈ tables_1, d.before a0 Z = true) (ws : List Jvm.Cond) (a1 : Addr) (a2 : Addr) (a3 : Addr) (cs : Int32) (s1 : Addr) (s2 : Addr) (v0 : Addr) (v1 : Addr) (v2 : Addr) (v3 : Addr) (k0 : ClassId) (k1 : ClassId) (k2 : ClassId) (k3 : ClassId) (y0 : List Int32) (y1 : List Int32) (y2 : List Int32) (y3 : List Int32) (h0 : Heap) (n0 : Nat) (Z0 : n0 ≤ h0.size) (S_COMPACT_STRINGS : Sta Z h0 "java/lang/String" "COMPACT_STRINGS" "Z" (.int cs)) (F_namespace_a1 : Fld Z h0 a1 "com/example/varigraph/varigraph/graph/Markup$Name" "namespace" "Ljava/lang/String;" (.ref s1)) (F_localName_a1 : Fld Z h0 a1 "com/example/varigraph/varigraph/graph/Markup$Name" "localName" "Ljava/lang/String;" (.ref s2)) (E_s1 : Exa Z h0 s1 "java/lang/String") (F_value_s1 : Fld Z h0 s1 "java/lang/String" "value" "[B" (.ref v0)) (F_coder_s1 : Fld Z h0 s1 "java/lang/String" "coder" "B" (.int (0 : Int32))) (A_v0 : Arv Z h0 v0 k0 .byte (Int32.ofNat y0.length) (y0.map Value.int) (.int (0 : Int32))) (E_s2 : Exa Z h0 s2 "java/lang/String") (F_value_s2 : Fld Z h0 s2 "java/lang/String" "value" "[B" (.ref v1)) (F_coder_s2 : Fld Z h0 s2 "java/lang/String" "coder" "B" (.int (0 : Int32))) (A_v1 : Arv Z h0 v1 k1 .byte (Int32.ofNat y1.length) (y1.map Value.int) (.int (0 : Int32))) (E_a2 : Exa Z h0 a2 "java/lang/String") (F_value_a2 : Fld Z h0 a2 "java/lang/String" "value" "[B" (.ref v2)) (F_coder_a2 : Fld Z h0 a2 "java/lang/String" "coder" "B" (.int (0 : Int32))) (A_v2 : Arv Z h0 v2 k2 .byte (Int32.ofNat y2.length) (y2.map Value.int) (.int (0 : Int32))) (E_a3 : Exa Z h0 a3 "java/lang/String") (F_value_a3 : Fld Z h0 a3 "java/lang/String" "value" "[B" (.ref v3)) (F_coder_a3 : Fld Z h0 a3 "java/lang/String" "coder" "B" (.int (0 : Int32))) (A_v3 : Arv Z h0 v3 k3 .byte (Int32.ofNat y3.length) (y3.map Value.int) (.int (0 : Int32))) (ne_s1_a2 : s1 ≠ a2) (ne_s2_a3 : s2 ≠ a3) (hcs : ¬ cs = 0) (hy0 : y0.length ≤ 2) (hy1 : y1.length ≤ 2) (hy2 : y2.length ≤ 2) (hy3 : y3.length ≤ 2) :
    MetFree l (⟨"com/example/varigraph/varigraph/graph/Markup$Name", "is", "(Ljava/lang/String;Ljava/lang/String;)Z"⟩ : MethodName) (head1 (Jvm.Cond.code (⟨"com/example/varigraph/varigraph/graph/Markup$Name", "is", "(Ljava/lang/String;Ljava/lang/String;)Z"⟩ : MethodName) prog_78_method_2_code 3 (some .boolean) :: ws) ({ frames := 2, cells := 0, slots := 0, locals := 28 } : Room)) (fun a U => a = #[(.ref a1), (.ref a2), (.ref a3)] ∧ Z.Warmed39 U.vm ∧ U.heap = h0) (fun _ _ _ _ _ => True) (fun _ U o U' => ∃ v L, o = .returned v ∧ Qnis Z a1 a2 a3 cs s1 s2 v0 v1 v2 v3 k0 k1 k2 k3 y0 y1 y2 y3 h0 n0 v U'.heap L ∧ FrameEnd U o U' L ({ frames := 2, cells := 0, slots := 0, locals := 28 } : Room).cells ({ frames := 2, cells := 0, slots := 0, locals := 28 } : Room).slots) := by
  refine MetFree.of_bodySF (plainFor_of_name own_pn_com_example_varigraph_varigraph_graph_Markup_Name) hisR ?_
  intro p e s m args below meth c s₁ Bd hml0 hP hK
  obtain ⟨rfl, hZ, hh⟩ := hP
  have hx := Bd.exec
  have hby := Bd.bytes
  have hlk := Bd.notSynchronized
  have hml : c.maxLocals = 3 := hml0
  have hown : s.vm.findClass "com/example/varigraph/varigraph/graph/Markup$Name" = some m.cls := findClass_of_methodNamed Bd.named
  have hnm := (name_of_methodNamed Bd.named Bd.method).1
  have X0 : Stand p l e ({ frames := 2, cells := 0, slots := 0, locals := 28 } : Room) s m #[(.ref a1), (.ref a2), (.ref a3)] below meth c s₁ [] 0 0 := Stand.of_body Bd
  have e0 : s₁.heap = h0 := by rw [← hh, Bd.state]; rfl
  have N0 := Fr.nil n0
  show Go p e below (KQ s below (Qnis Z a1 a2 a3 cs s1 s2 v0 v1 v2 v3 k0 k1 k2 k3 y0 y1 y2 y3 h0 n0) ({ frames := 2, cells := 0, slots := 0, locals := 28 } : Room).cells ({ frames := 2, cells := 0, slots := 0, locals := 28 } : Room).slots) _
  refine Go.body (T := s₁) (σ := s₁) (g' := (mkF m 0 #[.val (.ref a1), .val (.ref a2), .val (.ref a3)] [])) (ef_nis m a1 a2 a3) ?_
  refine g_aloadN X0 hx (hb hby d14_0) 1 rfl (v := (.ref a1)) rfl rfl ?_
  obtain ⟨T133, X133, e133, st133⟩ := getF X0 hx hZ hown (host := "") (Or.inl (hw _ (List.mem_of_getElem? (i := 66) rfl))) Via.refl e0 F_namespace_a1 (g := (mkF m 1 #[.val (.ref a1), .val (.ref a2), .val (.ref a3)] [(.ref a1)])) rfl rfl (hb hby d14_1)
  refine Go.st st133 ?_
  show Go p e below _ (T133.setTop (mkF m 4 #[.val (.ref a1), .val (.ref a2), .val (.ref a3)] [(.ref s1)]))
  refine g_aloadN X133 hx (hb hby d14_4) 5 rfl (v := (.ref a2)) rfl rfl ?_
  obtain ⟨cq134, kq134, q134a, q134b, q134c⟩ := isOf hZ e133 E_s1
  obtain ⟨_, _, ⟨T134, L134, k134, n134⟩, -, X134, ⟨Lc134, hQ134, l134, y134, z134⟩, st134⟩ := X133.virtualBack hx (y := (⟨"java/lang/String", "equals", "(Ljava/lang/Object;)Z"⟩ : MethodName)) (z := (⟨"java/lang/String", "equals", "(Ljava/lang/Object;)Z"⟩ : MethodName)) hown (mvT hZ (hw _ (List.mem_of_getElem? (i := 77) rfl))) (mvT hZ (hw _ (List.mem_of_getElem? (i := 78) rfl))) (notFace_of_selects (args := #[]) (mvT hZ (hw _ (List.mem_of_getElem? (i := 80) rfl)))) (mvT hZ (hw _ (List.mem_of_getElem? (i := 80) rfl))) (mvT hZ (hw _ (List.mem_of_getElem? (i := 79) rfl))) (by decide) (backOf (W := 0) (rmseq l Z a0 hw [] s1 a2 cs v0 v2 k0 k2 y0 y2 h0 n0 Z0 S_COMPACT_STRINGS E_s1 F_value_s1 F_coder_s1 A_v0 E_a2 F_value_a2 F_coder_a2 A_v2 ne_s1_a2 hcs hy0 hy2) hZ (hw _ (List.mem_of_getElem? (i := 81) rfl)) (hw _ (List.mem_of_getElem? (i := 6) rfl)) (by decide) (by decide)) q134a q134c (g := (mkF m 5 #[.val (.ref a1), .val (.ref a2), .val (.ref a3)] [(.ref a2), (.ref s1)])) rfl (by rw [hml]; rfl) (Steps.refl _) (argsL := [(.ref a2)]) (rest := []) (lenOf own_pd10 rfl) rfl (by show 2 * 0 + _ ≤ _; exact Nat.le_of_eq rfl) (hb hby d14_5) (fun _ _ => ⟨rfl, e133, (by decide : 0 + 0 ≤ _), (by decide : 0 + 0 ≤ _)⟩)
  dsimp only [Pt.U, Pt.locs, Pt.cells, Pt.slots] at X134 l134 y134 z134 st134 hQ134
  subst l134 y134 z134
  obtain ⟨r_134, rfl, Nq134, e134, p134_0, p134_1⟩ := hQ134
  refine Go.tr st134 ?_
  have N134 := Fr.app N0 Nq134
  show Go p e below _ (T134.setTop (mkF m 8 #[.val (.ref a1), .val (.ref a2), .val (.ref a3)] [(.int r_134)]))
  refine g_if_eq X134 hx (hb hby d14_8) 26 11 (by decide) (by decide) rfl (fun hc8 => ?_) (fun hc8 => ?_)
  · refine g_iconst X134 hx (hb hby d14_26) 27 rfl (0 : Int32) rfl ?_
    refine Go.retN X134 hx hlk (t := .boolean) Bd.returns (by simp) (hb hby d14_27) (by decide) (by decide) ?_
    show Qnis Z a1 a2 a3 cs s1 s2 v0 v1 v2 v3 k0 k1 k2 k3 y0 y1 y2 y3 h0 n0 _ T134.heap _
    rw [e134]
    exact ⟨(0 : Int32), rfl, N134, rfl, Or.inl rfl, ⟨fun q => absurd q (by decide), fun q => absurd (hc8.symm.trans (p134_1.mpr q.1)) (by decide)⟩⟩
  · refine g_aloadN X134 hx (hb hby d14_11) 12 rfl (v := (.ref a1)) rfl rfl ?_
    obtain ⟨T135, X135, e135, st135⟩ := getF X134 hx hZ hown (host := "") (Or.inl (hw _ (List.mem_of_getElem? (i := 68) rfl))) Via.refl e134 F_localName_a1 (g := (mkF m 12 #[.val (.ref a1), .val (.ref a2), .val (.ref a3)] [(.ref a1)])) rfl rfl (hb hby d14_12)
    refine Go.st st135 ?_
    show Go p e below _ (T135.setTop (mkF m 15 #[.val (.ref a1), .val (.ref a2), .val (.ref a3)] [(.ref s2)]))
    refine g_aloadN X135 hx (hb hby d14_15) 16 rfl (v := (.ref a3)) rfl rfl ?_
    obtain ⟨cq136, kq136, q136a, q136b, q136c⟩ := isOf hZ e135 E_s2
    obtain ⟨_, _, ⟨T136, L136, k136, n136⟩, -, X136, ⟨Lc136, hQ136, l136, y136, z136⟩, st136⟩ := X135.virtualBack hx (y := (⟨"java/lang/String", "equals", "(Ljava/lang/Object;)Z"⟩ : MethodName)) (z := (⟨"java/lang/String", "equals", "(Ljava/lang/Object;)Z"⟩ : MethodName)) hown (mvT hZ (hw _ (List.mem_of_getElem? (i := 77) rfl))) (mvT hZ (hw _ (List.mem_of_getElem? (i := 78) rfl))) (notFace_of_selects (args := #[]) (mvT hZ (hw _ (List.mem_of_getElem? (i := 80) rfl)))) (mvT hZ (hw _ (List.mem_of_getElem? (i := 80) rfl))) (mvT hZ (hw _ (List.mem_of_getElem? (i := 79) rfl))) (by decide) (backOf (W := 0) (rmseq l Z a0 hw [] s2 a3 cs v1 v3 k1 k3 y1 y3 h0 n0 Z0 S_COMPACT_STRINGS E_s2 F_value_s2 F_coder_s2 A_v1 E_a3 F_value_a3 F_coder_a3 A_v3 ne_s2_a3 hcs hy1 hy3) hZ (hw _ (List.mem_of_getElem? (i := 81) rfl)) (hw _ (List.mem_of_getElem? (i := 6) rfl)) (by decide) (by decide)) q136a q136c (g := (mkF m 16 #[.val (.ref a1), .val (.ref a2), .val (.ref a3)] [(.ref a3), (.ref s2)])) rfl (by rw [hml]; rfl) (Steps.refl _) (argsL := [(.ref a3)]) (rest := []) (lenOf own_pd10 rfl) rfl (by show 2 * 0 + _ ≤ _; exact Nat.le_of_eq rfl) (hb hby d14_16) (fun _ _ => ⟨rfl, e135, (by decide : 0 + 0 ≤ _), (by decide : 0 + 0 ≤ _)⟩)
    dsimp only [Pt.U, Pt.locs, Pt.cells, Pt.slots] at X136 l136 y136 z136 st136 hQ136
    subst l136 y136 z136
    obtain ⟨r_136, rfl, Nq136, e136, p136_0, p136_1⟩ := hQ136
    refine Go.tr st136 ?_
    have N136 := Fr.app N134 Nq136
    show Go p e below _ (T136.setTop (mkF m 19 #[.val (.ref a1), .val (.ref a2), .val (.ref a3)] [(.int r_136)]))
    refine g_if_eq X136 hx (hb hby d14_19) 26 22 (by decide) (by decide) rfl (fun hc19 => ?_) (fun hc19 => ?_)
    · refine g_iconst X136 hx (hb hby d14_26) 27 rfl (0 : Int32) rfl ?_
      refine Go.retN X136 hx hlk (t := .boolean) Bd.returns (by simp) (hb hby d14_27) (by decide) (by decide) ?_
      show Qnis Z a1 a2 a3 cs s1 s2 v0 v1 v2 v3 k0 k1 k2 k3 y0 y1 y2 y3 h0 n0 _ T136.heap _
      rw [e136]
      exact ⟨(0 : Int32), rfl, N136, rfl, Or.inl rfl, ⟨fun q => absurd q (by decide), fun q => absurd (hc19.symm.trans (p136_1.mpr q.2)) (by decide)⟩⟩
    · refine g_iconst X136 hx (hb hby d14_22) 23 rfl (1 : Int32) rfl ?_
      refine g_goto X136 hx (hb hby d14_23) 27 (by decide) (by decide) ?_
      refine Go.retN X136 hx hlk (t := .boolean) Bd.returns (by simp) (hb hby d14_27) (by decide) (by decide) ?_
      show Qnis Z a1 a2 a3 cs s1 s2 v0 v1 v2 v3 k0 k1 k2 k3 y0 y1 y2 y3 h0 n0 _ T136.heap _
      rw [e136]
      exact ⟨(1 : Int32), rfl, N136, rfl, Or.inr rfl, ⟨fun _ => ⟨p134_1.mp (p134_0.resolve_left hc8), p136_1.mp (p136_0.resolve_left hc19)⟩, fun _ => rfl⟩⟩
theorem ef_sme (m : MethodId) (x0 : Int32) (x1 : Int32) (x2 : Int32) (x3 : Int32) : entryFrame m #[(.int x0), (.int x1), (.int x2), (.int x3)] 4 = mkF m 0 #[.val (.int x0), .val (.int x1), .val (.int x2), .val (.int x3)] [] := by first | (simp [entryFrame, mkF, argsToLocals, Value.category]; done) | rfl
theorem d17_0 : decode method_5_code 0 = .ok (.iload_n 1, 1) := by decide +kernel
theorem d17_1 : decode method_5_code 1 = .ok (.iload_n 3, 1) := by decide +kernel
theorem d17_2 : decode method_5_code 2 = .ok (.if_icmp .eq 5, 3) := by decide +kernel
theorem d17_7 : decode method_5_code 7 = .ok (.iload_n 1, 1) := by decide +kernel
theorem d17_8 : decode method_5_code 8 = .ok (.iconst 1, 1) := by decide +kernel
theorem d17_9 : decode method_5_code 9 = .ok (.if_icmp .lt 16, 3) := by decide +kernel
theorem d17_25 : decode method_5_code 25 = .ok (.iload_n 1, 1) := by decide +kernel
theorem d17_26 : decode method_5_code 26 = .ok (.iconst 2, 1) := by decide +kernel
theorem d17_27 : decode method_5_code 27 = .ok (.if_icmp .lt 16, 3) := by decide +kernel
theorem d17_43 : decode method_5_code 43 = .ok (.iconst 1, 1) := by decide +kernel
theorem d17_44 : decode method_5_code 44 = .ok (.ireturn, 1) := by decide +kernel
theorem d17_12 : decode method_5_code 12 = .ok (.iload_n 0, 1) := by decide +kernel
theorem d17_13 : decode method_5_code 13 = .ok (.invokestatic 12, 3) := by decide +kernel
theorem d17_16 : decode method_5_code 16 = .ok (.iload_n 2, 1) := by decide +kernel
theorem d17_17 : decode method_5_code 17 = .ok (.invokestatic 12, 3) := by decide +kernel
theorem d17_20 : decode method_5_code 20 = .ok (.if_icmp .eq 5, 3) := by decide +kernel
theorem d17_30 : decode method_5_code 30 = .ok (.iload_n 0, 1) := by decide +kernel
theorem d17_31 : decode method_5_code 31 = .ok (.invokestatic 18, 3) := by decide +kernel
theorem d17_34 : decode method_5_code 34 = .ok (.iload_n 2, 1) := by decide +kernel
theorem d17_35 : decode method_5_code 35 = .ok (.invokestatic 18, 3) := by decide +kernel
theorem d17_38 : decode method_5_code 38 = .ok (.if_icmp .eq 5, 3) := by decide +kernel
theorem d17_41 : decode method_5_code 41 = .ok (.iconst 0, 1) := by decide +kernel
theorem d17_42 : decode method_5_code 42 = .ok (.ireturn, 1) := by decide +kernel
theorem d17_23 : decode method_5_code 23 = .ok (.iconst 0, 1) := by decide +kernel
theorem d17_24 : decode method_5_code 24 = .ok (.ireturn, 1) := by decide +kernel
theorem d17_5 : decode method_5_code 5 = .ok (.iconst 0, 1) := by decide +kernel
theorem d17_6 : decode method_5_code 6 = .ok (.ireturn, 1) := by decide +kernel
def Qsme (Z : State) (p1 : Int32) (p2 : Int32) (p3 : Int32) (p4 : Int32) (h0 : Heap) (n0 : Nat) (v : Option Value) (h : Heap) (L : List Loc) : Prop := ∃ r : Int32, v = some (.int r) ∧ Fr n0 L ∧ h = h0 ∧ (r = 0 ∨ r = 1) ∧ (r = 1 ↔ own_us p1 p2 = own_us p3 p4)
set_option maxRecDepth 65536 in
set_option maxHeartbeats 40000000 in
theorem rmsme (l : Launch) (Z : State) (a0 : Array Value) (hw : ∀ d ∈ tables_1, d.before a0 Z = true) (ws : List Jvm.Cond) (p1 : Int32) (p2 : Int32) (p3 : Int32) (p4 : Int32) (h0 : Heap) (n0 : Nat) (Z0 : n0 ≤ h0.size) (hr2 : own_R p2) (hr4 : own_R p4) :
    MetFree l (⟨"com/example/varigraph/varigraph/graph/NameIsPinLaw", "same", "(IIII)Z"⟩ : MethodName) (head1 (Jvm.Cond.code (⟨"com/example/varigraph/varigraph/graph/NameIsPinLaw", "same", "(IIII)Z"⟩ : MethodName) method_5_code 4 (some .boolean) :: ws) ({ frames := 1, cells := 0, slots := 0, locals := 13 } : Room)) (fun a U => a = #[(.int p1), (.int p2), (.int p3), (.int p4)] ∧ Z.Warmed39 U.vm ∧ U.heap = h0) (fun _ _ _ _ _ => True) (fun _ U o U' => ∃ v L, o = .returned v ∧ Qsme Z p1 p2 p3 p4 h0 n0 v U'.heap L ∧ FrameEnd U o U' L ({ frames := 1, cells := 0, slots := 0, locals := 13 } : Room).cells ({ frames := 1, cells := 0, slots := 0, locals := 13 } : Room).slots) := by
  refine MetFree.of_bodySF (plainFor_of_name own_pn_com_example_varigraph_varigraph_graph_NameIsPinLaw) hisR ?_
  intro p e s m args below meth c s₁ Bd hml0 hP hK
  obtain ⟨rfl, hZ, hh⟩ := hP
  have hx := Bd.exec
  have hby := Bd.bytes
  have hlk := Bd.notSynchronized
  have hml : c.maxLocals = 4 := hml0
  have hown : s.vm.findClass "com/example/varigraph/varigraph/graph/NameIsPinLaw" = some m.cls := findClass_of_methodNamed Bd.named
  have hnm := (name_of_methodNamed Bd.named Bd.method).1
  have X0 : Stand p l e ({ frames := 1, cells := 0, slots := 0, locals := 13 } : Room) s m #[(.int p1), (.int p2), (.int p3), (.int p4)] below meth c s₁ [] 0 0 := Stand.of_body Bd
  have e0 : s₁.heap = h0 := by rw [← hh, Bd.state]; rfl
  have N0 := Fr.nil n0
  show Go p e below (KQ s below (Qsme Z p1 p2 p3 p4 h0 n0) ({ frames := 1, cells := 0, slots := 0, locals := 13 } : Room).cells ({ frames := 1, cells := 0, slots := 0, locals := 13 } : Room).slots) _
  refine Go.body (T := s₁) (σ := s₁) (g' := (mkF m 0 #[.val (.int p1), .val (.int p2), .val (.int p3), .val (.int p4)] [])) (ef_sme m p1 p2 p3 p4) ?_
  refine g_iloadN X0 hx (hb hby d17_0) 1 rfl (v := p2) rfl ?_
  refine g_iloadN X0 hx (hb hby d17_1) 2 rfl (v := p4) rfl ?_
  refine g_icmp_eq X0 hx (hb hby d17_2) 7 5 (by decide) (by decide) rfl (fun hc2 => ?_) (fun hc2 => ?_)
  · refine g_iloadN X0 hx (hb hby d17_7) 8 rfl (v := p2) rfl ?_
    refine g_iconst X0 hx (hb hby d17_8) 9 rfl (1 : Int32) rfl ?_
    refine g_icmp_lt X0 hx (hb hby d17_9) 25 12 (by decide) (by decide) rfl (fun hc9 => ?_) (fun hc9 => ?_)
    · refine g_iloadN X0 hx (hb hby d17_25) 26 rfl (v := p2) rfl ?_
      refine g_iconst X0 hx (hb hby d17_26) 27 rfl (2 : Int32) rfl ?_
      refine g_icmp_lt X0 hx (hb hby d17_27) 43 30 (by decide) (by decide) rfl (fun hc27 => ?_) (fun hc27 => False.elim (hc27 (Int32.lt_trans hc9 (by decide))))
      refine g_iconst X0 hx (hb hby d17_43) 44 rfl (1 : Int32) rfl ?_
      refine Go.retN X0 hx hlk (t := .boolean) Bd.returns (by simp) (hb hby d17_44) (by decide) (by decide) ?_
      show Qsme Z p1 p2 p3 p4 h0 n0 _ s₁.heap _
      rw [e0]
      exact ⟨(1 : Int32), rfl, N0, rfl, Or.inr rfl, ⟨fun _ => (hc2 ▸ own_sme0 hr2 hc9), fun _ => rfl⟩⟩
    · refine g_iloadN X0 hx (hb hby d17_12) 13 rfl (v := p1) rfl ?_
      obtain ⟨_, _, ⟨T137, L137, k137, n137⟩, -, X137, ⟨Lc137, hQ137, l137, y137, z137⟩, st137⟩ := Jvm.LawKit.callS X0 hx (y := (⟨"com/example/varigraph/varigraph/graph/NameIsPinLaw", "ch0", "(I)C"⟩ : MethodName)) hown (mvT hZ (hw _ (List.mem_of_getElem? (i := 26) rfl))) (mvT hZ (hw _ (List.mem_of_getElem? (i := 27) rfl))) (mvT hZ (hw _ (List.mem_of_getElem? (i := 2) rfl))) (mvT hZ (hw _ (List.mem_of_getElem? (i := 28) rfl))) (by decide) (backOf (W := 0) (rm5 l Z a0 hw [] p1 h0 n0 Z0 ) hZ (hw _ (List.mem_of_getElem? (i := 28) rfl)) (hw _ (List.mem_of_getElem? (i := 2) rfl)) (by decide) (by decide)) (g := (mkF m 13 #[.val (.int p1), .val (.int p2), .val (.int p3), .val (.int p4)] [(.int p1)])) rfl (by rw [hml]; rfl) (argsL := [(.int p1)]) (rest := []) (lenOf own_pd4 rfl) rfl (by show 2 * 0 + _ ≤ _; exact Nat.le_of_eq rfl) (hb hby d17_13) (fun _ _ => ⟨rfl, e0, (by decide : 0 + 0 ≤ _), (by decide : 0 + 0 ≤ _)⟩)
      dsimp only [Pt.U, Pt.locs, Pt.cells, Pt.slots] at X137 l137 y137 z137 st137 hQ137
      subst l137 y137 z137
      obtain ⟨rfl, Nq137, e137⟩ := hQ137
      refine Go.st st137 ?_
      have N137 := Fr.app N0 Nq137
      show Go p e below _ (T137.setTop (mkF m 16 #[.val (.int p1), .val (.int p2), .val (.int p3), .val (.int p4)] [(.int (own_c0 p1))]))
      refine g_iloadN X137 hx (hb hby d17_16) 17 rfl (v := p3) rfl ?_
      obtain ⟨_, _, ⟨T138, L138, k138, n138⟩, -, X138, ⟨Lc138, hQ138, l138, y138, z138⟩, st138⟩ := Jvm.LawKit.callS X137 hx (y := (⟨"com/example/varigraph/varigraph/graph/NameIsPinLaw", "ch0", "(I)C"⟩ : MethodName)) hown (mvT hZ (hw _ (List.mem_of_getElem? (i := 26) rfl))) (mvT hZ (hw _ (List.mem_of_getElem? (i := 27) rfl))) (mvT hZ (hw _ (List.mem_of_getElem? (i := 2) rfl))) (mvT hZ (hw _ (List.mem_of_getElem? (i := 28) rfl))) (by decide) (backOf (W := 1) (rm5 l Z a0 hw [] p3 h0 n0 Z0 ) hZ (hw _ (List.mem_of_getElem? (i := 28) rfl)) (hw _ (List.mem_of_getElem? (i := 2) rfl)) (by decide) (by decide)) (g := (mkF m 17 #[.val (.int p1), .val (.int p2), .val (.int p3), .val (.int p4)] [(.int p3), (.int (own_c0 p1))])) rfl (by rw [hml]; rfl) (argsL := [(.int p3)]) (rest := [(.int (own_c0 p1))]) (lenOf own_pd4 rfl) rfl (by show 2 * 0 + _ ≤ _; exact Nat.le_of_eq rfl) (hb hby d17_17) (fun _ _ => ⟨rfl, e137, (by decide : 0 + 0 ≤ _), (by decide : 0 + 0 ≤ _)⟩)
      dsimp only [Pt.U, Pt.locs, Pt.cells, Pt.slots] at X138 l138 y138 z138 st138 hQ138
      subst l138 y138 z138
      obtain ⟨rfl, Nq138, e138⟩ := hQ138
      refine Go.st st138 ?_
      have N138 := Fr.app N137 Nq138
      show Go p e below _ (T138.setTop (mkF m 20 #[.val (.int p1), .val (.int p2), .val (.int p3), .val (.int p4)] [(.int (own_c0 p3)), (.int (own_c0 p1))]))
      refine g_icmp_eq X138 hx (hb hby d17_20) 25 23 (by decide) (by decide) rfl (fun hc20 => ?_) (fun hc20 => ?_)
      · refine g_iloadN X138 hx (hb hby d17_25) 26 rfl (v := p2) rfl ?_
        refine g_iconst X138 hx (hb hby d17_26) 27 rfl (2 : Int32) rfl ?_
        refine g_icmp_lt X138 hx (hb hby d17_27) 43 30 (by decide) (by decide) rfl (fun hc27 => ?_) (fun hc27 => ?_)
        · refine g_iconst X138 hx (hb hby d17_43) 44 rfl (1 : Int32) rfl ?_
          refine Go.retN X138 hx hlk (t := .boolean) Bd.returns (by simp) (hb hby d17_44) (by decide) (by decide) ?_
          show Qsme Z p1 p2 p3 p4 h0 n0 _ T138.heap _
          rw [e138]
          exact ⟨(1 : Int32), rfl, N138, rfl, Or.inr rfl, ⟨fun _ => (hc2 ▸ own_sme1 hr2 hc9 hc27 hc20), fun _ => rfl⟩⟩
        · refine g_iloadN X138 hx (hb hby d17_30) 31 rfl (v := p1) rfl ?_
          obtain ⟨_, _, ⟨T139, L139, k139, n139⟩, -, X139, ⟨Lc139, hQ139, l139, y139, z139⟩, st139⟩ := Jvm.LawKit.callS X138 hx (y := (⟨"com/example/varigraph/varigraph/graph/NameIsPinLaw", "ch1", "(I)C"⟩ : MethodName)) hown (mvT hZ (hw _ (List.mem_of_getElem? (i := 29) rfl))) (mvT hZ (hw _ (List.mem_of_getElem? (i := 30) rfl))) (mvT hZ (hw _ (List.mem_of_getElem? (i := 2) rfl))) (mvT hZ (hw _ (List.mem_of_getElem? (i := 31) rfl))) (by decide) (backOf (W := 0) (rm6 l Z a0 hw [] p1 h0 n0 Z0 ) hZ (hw _ (List.mem_of_getElem? (i := 31) rfl)) (hw _ (List.mem_of_getElem? (i := 2) rfl)) (by decide) (by decide)) (g := (mkF m 31 #[.val (.int p1), .val (.int p2), .val (.int p3), .val (.int p4)] [(.int p1)])) rfl (by rw [hml]; rfl) (argsL := [(.int p1)]) (rest := []) (lenOf own_pd4 rfl) rfl (by show 2 * 0 + _ ≤ _; exact Nat.le_of_eq rfl) (hb hby d17_31) (fun _ _ => ⟨rfl, e138, (by decide : 0 + 0 ≤ _), (by decide : 0 + 0 ≤ _)⟩)
          dsimp only [Pt.U, Pt.locs, Pt.cells, Pt.slots] at X139 l139 y139 z139 st139 hQ139
          subst l139 y139 z139
          obtain ⟨rfl, Nq139, e139⟩ := hQ139
          refine Go.st st139 ?_
          have N139 := Fr.app N138 Nq139
          show Go p e below _ (T139.setTop (mkF m 34 #[.val (.int p1), .val (.int p2), .val (.int p3), .val (.int p4)] [(.int (own_c1 p1))]))
          refine g_iloadN X139 hx (hb hby d17_34) 35 rfl (v := p3) rfl ?_
          obtain ⟨_, _, ⟨T140, L140, k140, n140⟩, -, X140, ⟨Lc140, hQ140, l140, y140, z140⟩, st140⟩ := Jvm.LawKit.callS X139 hx (y := (⟨"com/example/varigraph/varigraph/graph/NameIsPinLaw", "ch1", "(I)C"⟩ : MethodName)) hown (mvT hZ (hw _ (List.mem_of_getElem? (i := 29) rfl))) (mvT hZ (hw _ (List.mem_of_getElem? (i := 30) rfl))) (mvT hZ (hw _ (List.mem_of_getElem? (i := 2) rfl))) (mvT hZ (hw _ (List.mem_of_getElem? (i := 31) rfl))) (by decide) (backOf (W := 1) (rm6 l Z a0 hw [] p3 h0 n0 Z0 ) hZ (hw _ (List.mem_of_getElem? (i := 31) rfl)) (hw _ (List.mem_of_getElem? (i := 2) rfl)) (by decide) (by decide)) (g := (mkF m 35 #[.val (.int p1), .val (.int p2), .val (.int p3), .val (.int p4)] [(.int p3), (.int (own_c1 p1))])) rfl (by rw [hml]; rfl) (argsL := [(.int p3)]) (rest := [(.int (own_c1 p1))]) (lenOf own_pd4 rfl) rfl (by show 2 * 0 + _ ≤ _; exact Nat.le_of_eq rfl) (hb hby d17_35) (fun _ _ => ⟨rfl, e139, (by decide : 0 + 0 ≤ _), (by decide : 0 + 0 ≤ _)⟩)
          dsimp only [Pt.U, Pt.locs, Pt.cells, Pt.slots] at X140 l140 y140 z140 st140 hQ140
          subst l140 y140 z140
          obtain ⟨rfl, Nq140, e140⟩ := hQ140
          refine Go.st st140 ?_
          have N140 := Fr.app N139 Nq140
          show Go p e below _ (T140.setTop (mkF m 38 #[.val (.int p1), .val (.int p2), .val (.int p3), .val (.int p4)] [(.int (own_c1 p3)), (.int (own_c1 p1))]))
          refine g_icmp_eq X140 hx (hb hby d17_38) 43 41 (by decide) (by decide) rfl (fun hc38 => ?_) (fun hc38 => ?_)
          · refine g_iconst X140 hx (hb hby d17_43) 44 rfl (1 : Int32) rfl ?_
            refine Go.retN X140 hx hlk (t := .boolean) Bd.returns (by simp) (hb hby d17_44) (by decide) (by decide) ?_
            show Qsme Z p1 p2 p3 p4 h0 n0 _ T140.heap _
            rw [e140]
            exact ⟨(1 : Int32), rfl, N140, rfl, Or.inr rfl, ⟨fun _ => (hc2 ▸ own_sme2 hr2 hc27 hc20 hc38), fun _ => rfl⟩⟩
          · refine g_iconst X140 hx (hb hby d17_41) 42 rfl (0 : Int32) rfl ?_
            refine Go.retN X140 hx hlk (t := .boolean) Bd.returns (by simp) (hb hby d17_42) (by decide) (by decide) ?_
            show Qsme Z p1 p2 p3 p4 h0 n0 _ T140.heap _
            rw [e140]
            exact ⟨(0 : Int32), rfl, N140, rfl, Or.inl rfl, ⟨fun q => absurd q (by decide), fun q => absurd q ((hc2 ▸ own_sm1 hc27 hc38))⟩⟩
      · refine g_iconst X138 hx (hb hby d17_23) 24 rfl (0 : Int32) rfl ?_
        refine Go.retN X138 hx hlk (t := .boolean) Bd.returns (by simp) (hb hby d17_24) (by decide) (by decide) ?_
        show Qsme Z p1 p2 p3 p4 h0 n0 _ T138.heap _
        rw [e138]
        exact ⟨(0 : Int32), rfl, N138, rfl, Or.inl rfl, ⟨fun q => absurd q (by decide), fun q => absurd q ((hc2 ▸ own_sm0 hc9 hc20))⟩⟩
  · refine g_iconst X0 hx (hb hby d17_5) 6 rfl (0 : Int32) rfl ?_
    refine Go.retN X0 hx hlk (t := .boolean) Bd.returns (by simp) (hb hby d17_6) (by decide) (by decide) ?_
    show Qsme Z p1 p2 p3 p4 h0 n0 _ s₁.heap _
    rw [e0]
    exact ⟨(0 : Int32), rfl, N0, rfl, Or.inl rfl, ⟨fun q => absurd q (by decide), fun q => absurd q (own_0ne hr2 hr4 hc2)⟩⟩
theorem ef_0 (m : MethodId) (x0 : Int32) (x1 : Int32) (x2 : Int32) (x3 : Int32) (x4 : Int32) (x5 : Int32) : entryFrame m #[(.int x0), (.int x1), (.int x2), (.int x3), (.int x4), (.int x5)] maxLocals = mkF m 0 #[.val (.int x0), .val (.int x1), .val (.int x2), .val (.int x3), .val (.int x4), .val (.int x5), .unset, .unset, .unset, .unset, .unset, .unset, .unset, .unset, .unset, .unset, .unset, .unset, .unset, .unset, .unset, .unset, .unset] [] := by first | (simp [entryFrame, mkF, argsToLocals, Value.category, maxLocals]; done) | rfl
theorem own_pd11 : parseMethodDescriptor "(II)Ljava/lang/String;" = some ⟨[.int, .int], some (.object "java/lang/String")⟩ := by decide +kernel
theorem own_pd12 : parseMethodDescriptor "(Ljava/lang/String;Ljava/lang/String;Ljava/lang/String;)V" = some ⟨[(.object "java/lang/String"), (.object "java/lang/String"), (.object "java/lang/String")], none⟩ := by decide +kernel
theorem own_pd13 : parseMethodDescriptor "(Ljava/lang/String;Ljava/lang/String;)Z" = some ⟨[(.object "java/lang/String"), (.object "java/lang/String")], some .boolean⟩ := by decide +kernel
theorem own_pd14 : parseMethodDescriptor "(IIII)Z" = some ⟨[.int, .int, .int, .int], some .boolean⟩ := by decide +kernel
def Q0 (Z : State) (p1 : Int32) (p2 : Int32) (p3 : Int32) (p4 : Int32) (p5 : Int32) (p6 : Int32) (s_COMPACT_STRINGS : Int32) (s_SIOOBE_FORMATTER : Value) (h0 : Heap) (n0 : Nat) (v : Option Value) (h : Heap) (L : List Loc) : Prop := v = some (.int (1 : Int32)) ∧ Fr n0 L
set_option maxRecDepth 65536 in
set_option maxHeartbeats 40000000 in
theorem rm0 (l : Launch) (Z : State) (a0 : Array Value) (hw : ∀ d ∈ tables_1, d.before a0 Z = true) (ws : List Jvm.Cond) (p1 : Int32) (p2 : Int32) (p3 : Int32) (p4 : Int32) (p5 : Int32) (p6 : Int32) (s_COMPACT_STRINGS : Int32) (s_SIOOBE_FORMATTER : Value) (h0 : Heap) (n0 : Nat) (Z0 : n0 ≤ h0.size) (S_COMPACT_STRINGS : Sta Z h0 "java/lang/String" "COMPACT_STRINGS" "Z" (.int s_COMPACT_STRINGS)) (S_SIOOBE_FORMATTER : Sta Z h0 "jdk/internal/util/Preconditions" "SIOOBE_FORMATTER" "Ljava/util/function/BiFunction;" s_SIOOBE_FORMATTER) (hn0 : h0.size = n0) (hz_s_COMPACT_STRINGS : ¬ s_COMPACT_STRINGS = 0) (hR_s_SIOOBE_FORMATTER : s_SIOOBE_FORMATTER.isRef = true) :
    MetFree l x (head1 (Jvm.Cond.code x code maxLocals ret :: ws) room_1) (fun a U => a = #[(.int p1), (.int p2), (.int p3), (.int p4), (.int p5), (.int p6)] ∧ Z.Warmed39 U.vm ∧ U.heap = h0 ∧ CHv Z own_EL U.vm h0) (fun _ _ _ _ _ => True) (fun _ U o U' => ∃ v L, o = .returned v ∧ Q0 Z p1 p2 p3 p4 p5 p6 s_COMPACT_STRINGS s_SIOOBE_FORMATTER h0 n0 v U'.heap L ∧ CHr Z own_EL U.vm U.heap U'.vm U'.heap ∧ ReturnedEndW U o U' L 48 3264) := by
  refine MetFree.of_bodySF (plainFor_of_name own_pn_com_example_varigraph_varigraph_graph_NameIsPinLaw) hisR ?_
  intro p e s m args below meth c s₁ Bd hml0 hP hK
  obtain ⟨rfl, hZ, hh, hCH⟩ := hP
  have hx := Bd.exec
  have hby := Bd.bytes
  have hlk := Bd.notSynchronized
  have hml : c.maxLocals = 23 := hml0
  have hown : s.vm.findClass "com/example/varigraph/varigraph/graph/NameIsPinLaw" = some m.cls := findClass_of_methodNamed Bd.named
  have hnm := (name_of_methodNamed Bd.named Bd.method).1
  have X0 : Stand p l e room_1 (s.setVm s.vm) m #[(.int p1), (.int p2), (.int p3), (.int p4), (.int p5), (.int p6)] below meth c s₁ [] 0 0 := Stand.of_body Bd
  have hZ : Z.Warmed39 (s.setVm s.vm).vm := hZ
  have hown : (s.setVm s.vm).vm.findClass "com/example/varigraph/varigraph/graph/NameIsPinLaw" = some m.cls := hown
  have hS0 : s.Since s.vm 0 := (State.WarmedH.refl s).since 0
  have R0 : CHr Z own_EL s.vm h0 s.vm h0 := CHr.refl hCH
  have e0 : s₁.heap = h0 := by rw [← hh, Bd.state]; rfl
  have N0 := Fr.nil n0
  have K0 : Keep h0 h0 [] := Keep.refl _ _
  show Go p e below (KS s below Z own_EL (Q0 Z p1 p2 p3 p4 p5 p6 s_COMPACT_STRINGS s_SIOOBE_FORMATTER h0 n0) 48 3264) _
  refine Go.body (T := s₁) (σ := s₁) (g' := (mkF m 0 #[.val (.int p1), .val (.int p2), .val (.int p3), .val (.int p4), .val (.int p5), .val (.int p6), .unset, .unset, .unset, .unset, .unset, .unset, .unset, .unset, .unset, .unset, .unset, .unset, .unset, .unset, .unset, .unset, .unset] [])) (ef_0 m p1 p2 p3 p4 p5 p6) ?_
  refine g_iloadN X0 hx (hb hby at_0) 1 rfl (v := p1) rfl ?_
  refine g_iconst X0 hx (hb hby at_1) 2 rfl (3 : Int32) rfl ?_
  refine g_iand X0 hx (hb hby at_2) 3 rfl (p1 &&& (3 : Int32)) rfl ?_
  refine g_iconst X0 hx (hb hby at_3) 4 rfl (3 : Int32) rfl ?_
  obtain ⟨nl, e_nl⟩ : ∃ z, ((p1 &&& (3 : Int32)) % (3 : Int32)) = z := ⟨_, rfl⟩
  refine g_irem X0 hx (hb hby at_4) 5 rfl (by decide) nl e_nl ?_
  refine g_istore X0 hx (hb hby at_5) 7 rfl #[.val (.int p1), .val (.int p2), .val (.int p3), .val (.int p4), .val (.int p5), .val (.int p6), .val (.int nl), .unset, .unset, .unset, .unset, .unset, .unset, .unset, .unset, .unset, .unset, .unset, .unset, .unset, .unset, .unset, .unset] rfl ?_
  refine g_iconst X0 hx (hb hby at_7) 8 rfl (1 : Int32) rfl ?_
  refine g_iloadN X0 hx (hb hby at_8) 9 rfl (v := p2) rfl ?_
  refine g_iconst X0 hx (hb hby at_9) 10 rfl (3 : Int32) rfl ?_
  refine g_iand X0 hx (hb hby at_10) 11 rfl (p2 &&& (3 : Int32)) rfl ?_
  refine g_iconst X0 hx (hb hby at_11) 12 rfl (2 : Int32) rfl ?_
  refine g_irem X0 hx (hb hby at_12) 13 rfl (by decide) ((p2 &&& (3 : Int32)) % (2 : Int32)) rfl ?_
  obtain ⟨ll, e_ll⟩ : ∃ z, ((1 : Int32) + ((p2 &&& (3 : Int32)) % (2 : Int32))) = z := ⟨_, rfl⟩
  refine g_iadd X0 hx (hb hby at_13) 14 rfl ll e_ll ?_
  refine g_istore X0 hx (hb hby at_14) 16 rfl #[.val (.int p1), .val (.int p2), .val (.int p3), .val (.int p4), .val (.int p5), .val (.int p6), .val (.int nl), .val (.int ll), .unset, .unset, .unset, .unset, .unset, .unset, .unset, .unset, .unset, .unset, .unset, .unset, .unset, .unset, .unset] rfl ?_
  refine g_iloadN X0 hx (hb hby at_16) 17 rfl (v := p3) rfl ?_
  refine g_iconst X0 hx (hb hby at_17) 18 rfl (3 : Int32) rfl ?_
  refine g_iand X0 hx (hb hby at_18) 19 rfl (p3 &&& (3 : Int32)) rfl ?_
  refine g_iconst X0 hx (hb hby at_19) 20 rfl (3 : Int32) rfl ?_
  obtain ⟨fl, e_fl⟩ : ∃ z, ((p3 &&& (3 : Int32)) % (3 : Int32)) = z := ⟨_, rfl⟩
  refine g_irem X0 hx (hb hby at_20) 21 rfl (by decide) fl e_fl ?_
  refine g_istore X0 hx (hb hby at_21) 23 rfl #[.val (.int p1), .val (.int p2), .val (.int p3), .val (.int p4), .val (.int p5), .val (.int p6), .val (.int nl), .val (.int ll), .val (.int fl), .unset, .unset, .unset, .unset, .unset, .unset, .unset, .unset, .unset, .unset, .unset, .unset, .unset, .unset] rfl ?_
  have rnl : own_R nl := e_nl ▸ own_r3 p1
  have rll : own_R ll ∧ 0 < ll := e_ll ▸ own_r2 p2
  have tl : ∀ (z9 z10 o1 l1 o2 l2 : Int32) (_ : own_R l1) (_ : own_R l2), Go p e below (KS s below Z own_EL (Q0 Z p1 p2 p3 p4 p5 p6 s_COMPACT_STRINGS s_SIOOBE_FORMATTER h0 n0) 48 3264) (s₁.setTop (mkF m 111 #[.val (.int p1), .val (.int p2), .val (.int p3), .val (.int p4), .val (.int p5), .val (.int p6), .val (.int nl), .val (.int ll), .val (.int fl), .val (.int z9), .val (.int z10), .val (.int o1), .val (.int l1), .val (.int o2), .val (.int l2), .unset, .unset, .unset, .unset, .unset, .unset, .unset, .unset] [])) := by
    intro z9 z10 o1 l1 o2 l2 r1 r2
    refine g_iloadN X0 hx (hb hby at_111) 112 rfl (v := p1) rfl ?_
    refine g_iload X0 hx (hb hby at_112) 114 rfl (v := nl) rfl ?_
    obtain ⟨_, _, ⟨T141, L141, k141, n141⟩, -, X141, hS141, gr141, ⟨Lc141, hQ141, l141, y141, z141, C141⟩, st141⟩ := callSS X0 hx (y := (⟨"com/example/varigraph/varigraph/graph/NameIsPinLaw", "str", "(II)Ljava/lang/String;"⟩ : MethodName)) hown (mvT hZ (hw _ (List.mem_of_getElem? (i := 0) rfl))) (mvT hZ (hw _ (List.mem_of_getElem? (i := 1) rfl))) (mvT hZ (hw _ (List.mem_of_getElem? (i := 2) rfl))) (mvT hZ (hw _ (List.mem_of_getElem? (i := 3) rfl))) (by decide) (backOfSH (W := 0) (rmstr l Z a0 hw [] p1 nl s_COMPACT_STRINGS h0 n0 Z0 S_COMPACT_STRINGS hz_s_COMPACT_STRINGS) hZ (hw _ (List.mem_of_getElem? (i := 3) rfl)) (hw _ (List.mem_of_getElem? (i := 2) rfl)) (by decide) (by decide) (own_EW hw) R0.1) (g := (mkF m 114 #[.val (.int p1), .val (.int p2), .val (.int p3), .val (.int p4), .val (.int p5), .val (.int p6), .val (.int nl), .val (.int ll), .val (.int fl), .val (.int z9), .val (.int z10), .val (.int o1), .val (.int l1), .val (.int o2), .val (.int l2), .unset, .unset, .unset, .unset, .unset, .unset, .unset, .unset] [(.int nl), (.int p1)])) rfl (by rw [hml]; rfl) (argsL := [(.int p1), (.int nl)]) (rest := []) (lenOf own_pd11 rfl) rfl (by show 2 * 0 + _ ≤ _; exact Nat.le_of_eq rfl) (hb hby at_114) (fun _ _ => ⟨rfl, e0, (by decide : 0 + 6 ≤ _), (by decide : 0 + 12 ≤ _)⟩)
    dsimp only [Pt.U, Pt.locs, Pt.cells, Pt.slots] at X141 l141 y141 z141 st141 hQ141 hS141 gr141 C141
    subst l141 y141 z141
    obtain ⟨b_141, vb_141, kb_141, rfl, Nq141, Kq141, f141_0, f141_1, f141_2, f141_3, f141_4, f141_5⟩ := hQ141
    refine Go.tr st141 ?_
    obtain ⟨X141, hS141, hZ, hown⟩ := rebS hS0 (by rw [e0]; exact (Nat.zero_le _)) X141 hS141 gr141 hZ hown
    have R141 : CHr Z own_EL s.vm h0 T141.vm T141.heap := CHr.trans R0 C141
    have N141 := Fr.app N0 Nq141
    have g_b_141 : n0 ≤ b_141 := Nat.le_trans Z0 f141_0
    have mh_b_141 : h0.size ≤ b_141 := Nat.le_trans K0.1 f141_0
    have K141 : Keep h0 T141.heap [] := Keep.trans K0 Kq141 all0
    have Zs141 : n0 ≤ T141.heap.size := Nat.le_trans Z0 Kq141.1
    show Go p e below _ (T141.setTop (mkF m 117 #[.val (.int p1), .val (.int p2), .val (.int p3), .val (.int p4), .val (.int p5), .val (.int p6), .val (.int nl), .val (.int ll), .val (.int fl), .val (.int z9), .val (.int z10), .val (.int o1), .val (.int l1), .val (.int o2), .val (.int l2), .unset, .unset, .unset, .unset, .unset, .unset, .unset, .unset] [(.ref b_141)]))
    refine g_astore X141 hx (hb hby at_117) 119 rfl rfl #[.val (.int p1), .val (.int p2), .val (.int p3), .val (.int p4), .val (.int p5), .val (.int p6), .val (.int nl), .val (.int ll), .val (.int fl), .val (.int z9), .val (.int z10), .val (.int o1), .val (.int l1), .val (.int o2), .val (.int l2), .val (.ref b_141), .unset, .unset, .unset, .unset, .unset, .unset, .unset] rfl ?_
    refine g_iloadN X141 hx (hb hby at_119) 120 rfl (v := p2) rfl ?_
    refine g_iload X141 hx (hb hby at_120) 122 rfl (v := ll) rfl ?_
    obtain ⟨_, _, ⟨T143, L143, k143, n143⟩, -, X143, hS143, gr143, ⟨Lc143, hQ143, l143, y143, z143, C143⟩, st143⟩ := callSS X141 hx (y := (⟨"com/example/varigraph/varigraph/graph/NameIsPinLaw", "str", "(II)Ljava/lang/String;"⟩ : MethodName)) hown (mvT hZ (hw _ (List.mem_of_getElem? (i := 0) rfl))) (mvT hZ (hw _ (List.mem_of_getElem? (i := 1) rfl))) (mvT hZ (hw _ (List.mem_of_getElem? (i := 2) rfl))) (mvT hZ (hw _ (List.mem_of_getElem? (i := 3) rfl))) (by decide) (backOfSH (W := 0) (rmstr l Z a0 hw [] p2 ll s_COMPACT_STRINGS T141.heap n0 Zs141 (own_Sta_keep S_COMPACT_STRINGS K141 all0) hz_s_COMPACT_STRINGS) hZ (hw _ (List.mem_of_getElem? (i := 3) rfl)) (hw _ (List.mem_of_getElem? (i := 2) rfl)) (by decide) (by decide) (own_EW hw) R141.1) (g := (mkF m 122 #[.val (.int p1), .val (.int p2), .val (.int p3), .val (.int p4), .val (.int p5), .val (.int p6), .val (.int nl), .val (.int ll), .val (.int fl), .val (.int z9), .val (.int z10), .val (.int o1), .val (.int l1), .val (.int o2), .val (.int l2), .val (.ref b_141), .unset, .unset, .unset, .unset, .unset, .unset, .unset] [(.int ll), (.int p2)])) rfl (by rw [hml]; rfl) (argsL := [(.int p2), (.int ll)]) (rest := []) (lenOf own_pd11 rfl) rfl (by show 2 * 0 + _ ≤ _; exact Nat.le_of_eq rfl) (hb hby at_122) (fun _ _ => ⟨rfl, rfl, (by decide : 6 + 6 ≤ _), (by decide : 12 + 12 ≤ _)⟩)
    dsimp only [Pt.U, Pt.locs, Pt.cells, Pt.slots] at X143 l143 y143 z143 st143 hQ143 hS143 gr143 C143
    subst l143 y143 z143
    obtain ⟨b_143, vb_143, kb_143, rfl, Nq143, Kq143, f143_0, f143_1, f143_2, f143_3, f143_4, f143_5⟩ := hQ143
    refine Go.tr st143 ?_
    obtain ⟨X143, hS143, hZ, hown⟩ := rebS hS141 (Nat.le_refl _) X143 hS143 gr143 hZ hown
    have R143 : CHr Z own_EL s.vm h0 T143.vm T143.heap := CHr.trans R141 C143
    have N143 := Fr.app N141 Nq143
    have E_b_141_144 : Exa Z T143.heap b_141 "java/lang/String" := Exa.keep f141_1 Kq143
    have F_value_b_141_144 : Fld Z T143.heap b_141 "java/lang/String" "value" "[B" (.ref vb_141) := Fld.keep f141_2 Kq143 nin0
    have F_coder_b_141_144 : Fld Z T143.heap b_141 "java/lang/String" "coder" "B" (.int (0 : Int32)) := Fld.keep f141_3 Kq143 nin0
    have A_vb_141_144 : Arv Z T143.heap vb_141 kb_141 .byte (Int32.ofNat (own_us p1 nl).length) ((own_us p1 nl).map Value.int) (.int (0 : Int32)) := Arv.keep f141_4 Kq143 nin0
    have ne_b_141_b_143 : b_141 ≠ b_143 := Nat.ne_of_lt (Nat.lt_of_lt_of_le f141_1.lt f143_0)
    have ne_vb_141_b_143 : vb_141 ≠ b_143 := Nat.ne_of_lt (Nat.lt_of_lt_of_le f141_4.lt f143_0)
    have g_b_143 : n0 ≤ b_143 := Nat.le_trans Zs141 f143_0
    have mh_b_143 : h0.size ≤ b_143 := Nat.le_trans K141.1 f143_0
    have K143 : Keep h0 T143.heap [] := Keep.trans K141 Kq143 all0
    have Zs143 : n0 ≤ T143.heap.size := Nat.le_trans Zs141 Kq143.1
    show Go p e below _ (T143.setTop (mkF m 125 #[.val (.int p1), .val (.int p2), .val (.int p3), .val (.int p4), .val (.int p5), .val (.int p6), .val (.int nl), .val (.int ll), .val (.int fl), .val (.int z9), .val (.int z10), .val (.int o1), .val (.int l1), .val (.int o2), .val (.int l2), .val (.ref b_141), .unset, .unset, .unset, .unset, .unset, .unset, .unset] [(.ref b_143)]))
    refine g_astore X143 hx (hb hby at_125) 127 rfl rfl #[.val (.int p1), .val (.int p2), .val (.int p3), .val (.int p4), .val (.int p5), .val (.int p6), .val (.int nl), .val (.int ll), .val (.int fl), .val (.int z9), .val (.int z10), .val (.int o1), .val (.int l1), .val (.int o2), .val (.int l2), .val (.ref b_141), .val (.ref b_143), .unset, .unset, .unset, .unset, .unset, .unset] rfl ?_
    refine g_iloadN X143 hx (hb hby at_127) 128 rfl (v := p3) rfl ?_
    refine g_iload X143 hx (hb hby at_128) 130 rfl (v := fl) rfl ?_
    obtain ⟨_, _, ⟨T145, L145, k145, n145⟩, -, X145, hS145, gr145, ⟨Lc145, hQ145, l145, y145, z145, C145⟩, st145⟩ := callSS X143 hx (y := (⟨"com/example/varigraph/varigraph/graph/NameIsPinLaw", "str", "(II)Ljava/lang/String;"⟩ : MethodName)) hown (mvT hZ (hw _ (List.mem_of_getElem? (i := 0) rfl))) (mvT hZ (hw _ (List.mem_of_getElem? (i := 1) rfl))) (mvT hZ (hw _ (List.mem_of_getElem? (i := 2) rfl))) (mvT hZ (hw _ (List.mem_of_getElem? (i := 3) rfl))) (by decide) (backOfSH (W := 0) (rmstr l Z a0 hw [] p3 fl s_COMPACT_STRINGS T143.heap n0 Zs143 (own_Sta_keep S_COMPACT_STRINGS K143 all0) hz_s_COMPACT_STRINGS) hZ (hw _ (List.mem_of_getElem? (i := 3) rfl)) (hw _ (List.mem_of_getElem? (i := 2) rfl)) (by decide) (by decide) (own_EW hw) R143.1) (g := (mkF m 130 #[.val (.int p1), .val (.int p2), .val (.int p3), .val (.int p4), .val (.int p5), .val (.int p6), .val (.int nl), .val (.int ll), .val (.int fl), .val (.int z9), .val (.int z10), .val (.int o1), .val (.int l1), .val (.int o2), .val (.int l2), .val (.ref b_141), .val (.ref b_143), .unset, .unset, .unset, .unset, .unset, .unset] [(.int fl), (.int p3)])) rfl (by rw [hml]; rfl) (argsL := [(.int p3), (.int fl)]) (rest := []) (lenOf own_pd11 rfl) rfl (by show 2 * 0 + _ ≤ _; exact Nat.le_of_eq rfl) (hb hby at_130) (fun _ _ => ⟨rfl, rfl, (by decide : 12 + 6 ≤ _), (by decide : 24 + 12 ≤ _)⟩)
    dsimp only [Pt.U, Pt.locs, Pt.cells, Pt.slots] at X145 l145 y145 z145 st145 hQ145 hS145 gr145 C145
    subst l145 y145 z145
    obtain ⟨b_145, vb_145, kb_145, rfl, Nq145, Kq145, f145_0, f145_1, f145_2, f145_3, f145_4, f145_5⟩ := hQ145
    refine Go.tr st145 ?_
    obtain ⟨X145, hS145, hZ, hown⟩ := rebS hS143 (Nat.le_refl _) X145 hS145 gr145 hZ hown
    have R145 : CHr Z own_EL s.vm h0 T145.vm T145.heap := CHr.trans R143 C145
    have N145 := Fr.app N143 Nq145
    have E_b_141_146 : Exa Z T145.heap b_141 "java/lang/String" := Exa.keep E_b_141_144 Kq145
    have F_value_b_141_146 : Fld Z T145.heap b_141 "java/lang/String" "value" "[B" (.ref vb_141) := Fld.keep F_value_b_141_144 Kq145 nin0
    have F_coder_b_141_146 : Fld Z T145.heap b_141 "java/lang/String" "coder" "B" (.int (0 : Int32)) := Fld.keep F_coder_b_141_144 Kq145 nin0
    have A_vb_141_146 : Arv Z T145.heap vb_141 kb_141 .byte (Int32.ofNat (own_us p1 nl).length) ((own_us p1 nl).map Value.int) (.int (0 : Int32)) := Arv.keep A_vb_141_144 Kq145 nin0
    have E_b_143_146 : Exa Z T145.heap b_143 "java/lang/String" := Exa.keep f143_1 Kq145
    have F_value_b_143_146 : Fld Z T145.heap b_143 "java/lang/String" "value" "[B" (.ref vb_143) := Fld.keep f143_2 Kq145 nin0
    have F_coder_b_143_146 : Fld Z T145.heap b_143 "java/lang/String" "coder" "B" (.int (0 : Int32)) := Fld.keep f143_3 Kq145 nin0
    have A_vb_143_146 : Arv Z T145.heap vb_143 kb_143 .byte (Int32.ofNat (own_us p2 ll).length) ((own_us p2 ll).map Value.int) (.int (0 : Int32)) := Arv.keep f143_4 Kq145 nin0
    have ne_b_141_b_145 : b_141 ≠ b_145 := Nat.ne_of_lt (Nat.lt_of_lt_of_le E_b_141_144.lt f145_0)
    have ne_vb_141_b_145 : vb_141 ≠ b_145 := Nat.ne_of_lt (Nat.lt_of_lt_of_le A_vb_141_144.lt f145_0)
    have ne_b_143_b_145 : b_143 ≠ b_145 := Nat.ne_of_lt (Nat.lt_of_lt_of_le f143_1.lt f145_0)
    have ne_vb_143_b_145 : vb_143 ≠ b_145 := Nat.ne_of_lt (Nat.lt_of_lt_of_le f143_4.lt f145_0)
    have g_b_145 : n0 ≤ b_145 := Nat.le_trans Zs143 f145_0
    have mh_b_145 : h0.size ≤ b_145 := Nat.le_trans K143.1 f145_0
    have K145 : Keep h0 T145.heap [] := Keep.trans K143 Kq145 all0
    have Zs145 : n0 ≤ T145.heap.size := Nat.le_trans Zs143 Kq145.1
    show Go p e below _ (T145.setTop (mkF m 133 #[.val (.int p1), .val (.int p2), .val (.int p3), .val (.int p4), .val (.int p5), .val (.int p6), .val (.int nl), .val (.int ll), .val (.int fl), .val (.int z9), .val (.int z10), .val (.int o1), .val (.int l1), .val (.int o2), .val (.int l2), .val (.ref b_141), .val (.ref b_143), .unset, .unset, .unset, .unset, .unset, .unset] [(.ref b_145)]))
    refine g_astore X145 hx (hb hby at_133) 135 rfl rfl #[.val (.int p1), .val (.int p2), .val (.int p3), .val (.int p4), .val (.int p5), .val (.int p6), .val (.int nl), .val (.int ll), .val (.int fl), .val (.int z9), .val (.int z10), .val (.int o1), .val (.int l1), .val (.int o2), .val (.int l2), .val (.ref b_141), .val (.ref b_143), .val (.ref b_145), .unset, .unset, .unset, .unset, .unset] rfl ?_
    refine g_iload X145 hx (hb hby at_135) 137 rfl (v := o1) rfl ?_
    refine g_iload X145 hx (hb hby at_137) 139 rfl (v := l1) rfl ?_
    obtain ⟨_, _, ⟨T147, L147, k147, n147⟩, -, X147, hS147, gr147, ⟨Lc147, hQ147, l147, y147, z147, C147⟩, st147⟩ := callSS X145 hx (y := (⟨"com/example/varigraph/varigraph/graph/NameIsPinLaw", "str", "(II)Ljava/lang/String;"⟩ : MethodName)) hown (mvT hZ (hw _ (List.mem_of_getElem? (i := 0) rfl))) (mvT hZ (hw _ (List.mem_of_getElem? (i := 1) rfl))) (mvT hZ (hw _ (List.mem_of_getElem? (i := 2) rfl))) (mvT hZ (hw _ (List.mem_of_getElem? (i := 3) rfl))) (by decide) (backOfSH (W := 0) (rmstr l Z a0 hw [] o1 l1 s_COMPACT_STRINGS T145.heap n0 Zs145 (own_Sta_keep S_COMPACT_STRINGS K145 all0) hz_s_COMPACT_STRINGS) hZ (hw _ (List.mem_of_getElem? (i := 3) rfl)) (hw _ (List.mem_of_getElem? (i := 2) rfl)) (by decide) (by decide) (own_EW hw) R145.1) (g := (mkF m 139 #[.val (.int p1), .val (.int p2), .val (.int p3), .val (.int p4), .val (.int p5), .val (.int p6), .val (.int nl), .val (.int ll), .val (.int fl), .val (.int z9), .val (.int z10), .val (.int o1), .val (.int l1), .val (.int o2), .val (.int l2), .val (.ref b_141), .val (.ref b_143), .val (.ref b_145), .unset, .unset, .unset, .unset, .unset] [(.int l1), (.int o1)])) rfl (by rw [hml]; rfl) (argsL := [(.int o1), (.int l1)]) (rest := []) (lenOf own_pd11 rfl) rfl (by show 2 * 0 + _ ≤ _; exact Nat.le_of_eq rfl) (hb hby at_139) (fun _ _ => ⟨rfl, rfl, (by decide : 18 + 6 ≤ _), (by decide : 36 + 12 ≤ _)⟩)
    dsimp only [Pt.U, Pt.locs, Pt.cells, Pt.slots] at X147 l147 y147 z147 st147 hQ147 hS147 gr147 C147
    subst l147 y147 z147
    obtain ⟨b_147, vb_147, kb_147, rfl, Nq147, Kq147, f147_0, f147_1, f147_2, f147_3, f147_4, f147_5⟩ := hQ147
    refine Go.tr st147 ?_
    obtain ⟨X147, hS147, hZ, hown⟩ := rebS hS145 (Nat.le_refl _) X147 hS147 gr147 hZ hown
    have R147 : CHr Z own_EL s.vm h0 T147.vm T147.heap := CHr.trans R145 C147
    have N147 := Fr.app N145 Nq147
    have E_b_141_148 : Exa Z T147.heap b_141 "java/lang/String" := Exa.keep E_b_141_146 Kq147
    have F_value_b_141_148 : Fld Z T147.heap b_141 "java/lang/String" "value" "[B" (.ref vb_141) := Fld.keep F_value_b_141_146 Kq147 nin0
    have F_coder_b_141_148 : Fld Z T147.heap b_141 "java/lang/String" "coder" "B" (.int (0 : Int32)) := Fld.keep F_coder_b_141_146 Kq147 nin0
    have A_vb_141_148 : Arv Z T147.heap vb_141 kb_141 .byte (Int32.ofNat (own_us p1 nl).length) ((own_us p1 nl).map Value.int) (.int (0 : Int32)) := Arv.keep A_vb_141_146 Kq147 nin0
    have E_b_143_148 : Exa Z T147.heap b_143 "java/lang/String" := Exa.keep E_b_143_146 Kq147
    have F_value_b_143_148 : Fld Z T147.heap b_143 "java/lang/String" "value" "[B" (.ref vb_143) := Fld.keep F_value_b_143_146 Kq147 nin0
    have F_coder_b_143_148 : Fld Z T147.heap b_143 "java/lang/String" "coder" "B" (.int (0 : Int32)) := Fld.keep F_coder_b_143_146 Kq147 nin0
    have A_vb_143_148 : Arv Z T147.heap vb_143 kb_143 .byte (Int32.ofNat (own_us p2 ll).length) ((own_us p2 ll).map Value.int) (.int (0 : Int32)) := Arv.keep A_vb_143_146 Kq147 nin0
    have E_b_145_148 : Exa Z T147.heap b_145 "java/lang/String" := Exa.keep f145_1 Kq147
    have F_value_b_145_148 : Fld Z T147.heap b_145 "java/lang/String" "value" "[B" (.ref vb_145) := Fld.keep f145_2 Kq147 nin0
    have F_coder_b_145_148 : Fld Z T147.heap b_145 "java/lang/String" "coder" "B" (.int (0 : Int32)) := Fld.keep f145_3 Kq147 nin0
    have A_vb_145_148 : Arv Z T147.heap vb_145 kb_145 .byte (Int32.ofNat (own_us p3 fl).length) ((own_us p3 fl).map Value.int) (.int (0 : Int32)) := Arv.keep f145_4 Kq147 nin0
    have ne_b_141_b_147 : b_141 ≠ b_147 := Nat.ne_of_lt (Nat.lt_of_lt_of_le E_b_141_146.lt f147_0)
    have ne_vb_141_b_147 : vb_141 ≠ b_147 := Nat.ne_of_lt (Nat.lt_of_lt_of_le A_vb_141_146.lt f147_0)
    have ne_b_143_b_147 : b_143 ≠ b_147 := Nat.ne_of_lt (Nat.lt_of_lt_of_le E_b_143_146.lt f147_0)
    have ne_vb_143_b_147 : vb_143 ≠ b_147 := Nat.ne_of_lt (Nat.lt_of_lt_of_le A_vb_143_146.lt f147_0)
    have ne_b_145_b_147 : b_145 ≠ b_147 := Nat.ne_of_lt (Nat.lt_of_lt_of_le f145_1.lt f147_0)
    have ne_vb_145_b_147 : vb_145 ≠ b_147 := Nat.ne_of_lt (Nat.lt_of_lt_of_le f145_4.lt f147_0)
    have g_b_147 : n0 ≤ b_147 := Nat.le_trans Zs145 f147_0
    have mh_b_147 : h0.size ≤ b_147 := Nat.le_trans K145.1 f147_0
    have K147 : Keep h0 T147.heap [] := Keep.trans K145 Kq147 all0
    have Zs147 : n0 ≤ T147.heap.size := Nat.le_trans Zs145 Kq147.1
    show Go p e below _ (T147.setTop (mkF m 142 #[.val (.int p1), .val (.int p2), .val (.int p3), .val (.int p4), .val (.int p5), .val (.int p6), .val (.int nl), .val (.int ll), .val (.int fl), .val (.int z9), .val (.int z10), .val (.int o1), .val (.int l1), .val (.int o2), .val (.int l2), .val (.ref b_141), .val (.ref b_143), .val (.ref b_145), .unset, .unset, .unset, .unset, .unset] [(.ref b_147)]))
    refine g_astore X147 hx (hb hby at_142) 144 rfl rfl #[.val (.int p1), .val (.int p2), .val (.int p3), .val (.int p4), .val (.int p5), .val (.int p6), .val (.int nl), .val (.int ll), .val (.int fl), .val (.int z9), .val (.int z10), .val (.int o1), .val (.int l1), .val (.int o2), .val (.int l2), .val (.ref b_141), .val (.ref b_143), .val (.ref b_145), .val (.ref b_147), .unset, .unset, .unset, .unset] rfl ?_
    refine g_iload X147 hx (hb hby at_144) 146 rfl (v := o2) rfl ?_
    refine g_iload X147 hx (hb hby at_146) 148 rfl (v := l2) rfl ?_
    obtain ⟨_, _, ⟨T149, L149, k149, n149⟩, -, X149, hS149, gr149, ⟨Lc149, hQ149, l149, y149, z149, C149⟩, st149⟩ := callSS X147 hx (y := (⟨"com/example/varigraph/varigraph/graph/NameIsPinLaw", "str", "(II)Ljava/lang/String;"⟩ : MethodName)) hown (mvT hZ (hw _ (List.mem_of_getElem? (i := 0) rfl))) (mvT hZ (hw _ (List.mem_of_getElem? (i := 1) rfl))) (mvT hZ (hw _ (List.mem_of_getElem? (i := 2) rfl))) (mvT hZ (hw _ (List.mem_of_getElem? (i := 3) rfl))) (by decide) (backOfSH (W := 0) (rmstr l Z a0 hw [] o2 l2 s_COMPACT_STRINGS T147.heap n0 Zs147 (own_Sta_keep S_COMPACT_STRINGS K147 all0) hz_s_COMPACT_STRINGS) hZ (hw _ (List.mem_of_getElem? (i := 3) rfl)) (hw _ (List.mem_of_getElem? (i := 2) rfl)) (by decide) (by decide) (own_EW hw) R147.1) (g := (mkF m 148 #[.val (.int p1), .val (.int p2), .val (.int p3), .val (.int p4), .val (.int p5), .val (.int p6), .val (.int nl), .val (.int ll), .val (.int fl), .val (.int z9), .val (.int z10), .val (.int o1), .val (.int l1), .val (.int o2), .val (.int l2), .val (.ref b_141), .val (.ref b_143), .val (.ref b_145), .val (.ref b_147), .unset, .unset, .unset, .unset] [(.int l2), (.int o2)])) rfl (by rw [hml]; rfl) (argsL := [(.int o2), (.int l2)]) (rest := []) (lenOf own_pd11 rfl) rfl (by show 2 * 0 + _ ≤ _; exact Nat.le_of_eq rfl) (hb hby at_148) (fun _ _ => ⟨rfl, rfl, (by decide : 24 + 6 ≤ _), (by decide : 48 + 12 ≤ _)⟩)
    dsimp only [Pt.U, Pt.locs, Pt.cells, Pt.slots] at X149 l149 y149 z149 st149 hQ149 hS149 gr149 C149
    subst l149 y149 z149
    obtain ⟨b_149, vb_149, kb_149, rfl, Nq149, Kq149, f149_0, f149_1, f149_2, f149_3, f149_4, f149_5⟩ := hQ149
    refine Go.tr st149 ?_
    obtain ⟨X149, hS149, hZ, hown⟩ := rebS hS147 (Nat.le_refl _) X149 hS149 gr149 hZ hown
    have R149 : CHr Z own_EL s.vm h0 T149.vm T149.heap := CHr.trans R147 C149
    have N149 := Fr.app N147 Nq149
    have E_b_141_150 : Exa Z T149.heap b_141 "java/lang/String" := Exa.keep E_b_141_148 Kq149
    have F_value_b_141_150 : Fld Z T149.heap b_141 "java/lang/String" "value" "[B" (.ref vb_141) := Fld.keep F_value_b_141_148 Kq149 nin0
    have F_coder_b_141_150 : Fld Z T149.heap b_141 "java/lang/String" "coder" "B" (.int (0 : Int32)) := Fld.keep F_coder_b_141_148 Kq149 nin0
    have A_vb_141_150 : Arv Z T149.heap vb_141 kb_141 .byte (Int32.ofNat (own_us p1 nl).length) ((own_us p1 nl).map Value.int) (.int (0 : Int32)) := Arv.keep A_vb_141_148 Kq149 nin0
    have E_b_143_150 : Exa Z T149.heap b_143 "java/lang/String" := Exa.keep E_b_143_148 Kq149
    have F_value_b_143_150 : Fld Z T149.heap b_143 "java/lang/String" "value" "[B" (.ref vb_143) := Fld.keep F_value_b_143_148 Kq149 nin0
    have F_coder_b_143_150 : Fld Z T149.heap b_143 "java/lang/String" "coder" "B" (.int (0 : Int32)) := Fld.keep F_coder_b_143_148 Kq149 nin0
    have A_vb_143_150 : Arv Z T149.heap vb_143 kb_143 .byte (Int32.ofNat (own_us p2 ll).length) ((own_us p2 ll).map Value.int) (.int (0 : Int32)) := Arv.keep A_vb_143_148 Kq149 nin0
    have E_b_145_150 : Exa Z T149.heap b_145 "java/lang/String" := Exa.keep E_b_145_148 Kq149
    have F_value_b_145_150 : Fld Z T149.heap b_145 "java/lang/String" "value" "[B" (.ref vb_145) := Fld.keep F_value_b_145_148 Kq149 nin0
    have F_coder_b_145_150 : Fld Z T149.heap b_145 "java/lang/String" "coder" "B" (.int (0 : Int32)) := Fld.keep F_coder_b_145_148 Kq149 nin0
    have A_vb_145_150 : Arv Z T149.heap vb_145 kb_145 .byte (Int32.ofNat (own_us p3 fl).length) ((own_us p3 fl).map Value.int) (.int (0 : Int32)) := Arv.keep A_vb_145_148 Kq149 nin0
    have E_b_147_150 : Exa Z T149.heap b_147 "java/lang/String" := Exa.keep f147_1 Kq149
    have F_value_b_147_150 : Fld Z T149.heap b_147 "java/lang/String" "value" "[B" (.ref vb_147) := Fld.keep f147_2 Kq149 nin0
    have F_coder_b_147_150 : Fld Z T149.heap b_147 "java/lang/String" "coder" "B" (.int (0 : Int32)) := Fld.keep f147_3 Kq149 nin0
    have A_vb_147_150 : Arv Z T149.heap vb_147 kb_147 .byte (Int32.ofNat (own_us o1 l1).length) ((own_us o1 l1).map Value.int) (.int (0 : Int32)) := Arv.keep f147_4 Kq149 nin0
    have ne_b_141_b_149 : b_141 ≠ b_149 := Nat.ne_of_lt (Nat.lt_of_lt_of_le E_b_141_148.lt f149_0)
    have ne_vb_141_b_149 : vb_141 ≠ b_149 := Nat.ne_of_lt (Nat.lt_of_lt_of_le A_vb_141_148.lt f149_0)
    have ne_b_143_b_149 : b_143 ≠ b_149 := Nat.ne_of_lt (Nat.lt_of_lt_of_le E_b_143_148.lt f149_0)
    have ne_vb_143_b_149 : vb_143 ≠ b_149 := Nat.ne_of_lt (Nat.lt_of_lt_of_le A_vb_143_148.lt f149_0)
    have ne_b_145_b_149 : b_145 ≠ b_149 := Nat.ne_of_lt (Nat.lt_of_lt_of_le E_b_145_148.lt f149_0)
    have ne_vb_145_b_149 : vb_145 ≠ b_149 := Nat.ne_of_lt (Nat.lt_of_lt_of_le A_vb_145_148.lt f149_0)
    have ne_b_147_b_149 : b_147 ≠ b_149 := Nat.ne_of_lt (Nat.lt_of_lt_of_le f147_1.lt f149_0)
    have ne_vb_147_b_149 : vb_147 ≠ b_149 := Nat.ne_of_lt (Nat.lt_of_lt_of_le f147_4.lt f149_0)
    have g_b_149 : n0 ≤ b_149 := Nat.le_trans Zs147 f149_0
    have mh_b_149 : h0.size ≤ b_149 := Nat.le_trans K147.1 f149_0
    have K149 : Keep h0 T149.heap [] := Keep.trans K147 Kq149 all0
    have Zs149 : n0 ≤ T149.heap.size := Nat.le_trans Zs147 Kq149.1
    show Go p e below _ (T149.setTop (mkF m 151 #[.val (.int p1), .val (.int p2), .val (.int p3), .val (.int p4), .val (.int p5), .val (.int p6), .val (.int nl), .val (.int ll), .val (.int fl), .val (.int z9), .val (.int z10), .val (.int o1), .val (.int l1), .val (.int o2), .val (.int l2), .val (.ref b_141), .val (.ref b_143), .val (.ref b_145), .val (.ref b_147), .unset, .unset, .unset, .unset] [(.ref b_149)]))
    refine g_astore X149 hx (hb hby at_151) 153 rfl rfl #[.val (.int p1), .val (.int p2), .val (.int p3), .val (.int p4), .val (.int p5), .val (.int p6), .val (.int nl), .val (.int ll), .val (.int fl), .val (.int z9), .val (.int z10), .val (.int o1), .val (.int l1), .val (.int o2), .val (.int l2), .val (.ref b_141), .val (.ref b_143), .val (.ref b_145), .val (.ref b_147), .val (.ref b_149), .unset, .unset, .unset] rfl ?_
    obtain ⟨T151, h151, X151, e151, E151, A151, D151, -, st151⟩ := newO X149 hx hZ hown (hw _ (List.mem_of_getElem? (i := 43) rfl)) (hw _ (List.mem_of_getElem? (i := 44) rfl)) (hw _ (List.mem_of_getElem? (i := 45) rfl)) rfl (g := (mkF m 153 #[.val (.int p1), .val (.int p2), .val (.int p3), .val (.int p4), .val (.int p5), .val (.int p6), .val (.int nl), .val (.int ll), .val (.int fl), .val (.int z9), .val (.int z10), .val (.int o1), .val (.int l1), .val (.int o2), .val (.int l2), .val (.ref b_141), .val (.ref b_143), .val (.ref b_145), .val (.ref b_147), .val (.ref b_149), .unset, .unset, .unset] [])) rfl (hb hby at_153) (by decide) (by decide)
    refine Go.st st151 ?_
    obtain ⟨on, q151⟩ : ∃ z, z = T149.heap.size := ⟨_, rfl⟩
    rw [← q151] at A151 D151 ⊢
    have ne_b_141_on : b_141 ≠ on := Nat.ne_of_lt (Nat.lt_of_lt_of_eq E_b_141_150.lt q151.symm)
    have ne_vb_141_on : vb_141 ≠ on := Nat.ne_of_lt (Nat.lt_of_lt_of_eq A_vb_141_150.lt q151.symm)
    have ne_b_143_on : b_143 ≠ on := Nat.ne_of_lt (Nat.lt_of_lt_of_eq E_b_143_150.lt q151.symm)
    have ne_vb_143_on : vb_143 ≠ on := Nat.ne_of_lt (Nat.lt_of_lt_of_eq A_vb_143_150.lt q151.symm)
    have ne_b_145_on : b_145 ≠ on := Nat.ne_of_lt (Nat.lt_of_lt_of_eq E_b_145_150.lt q151.symm)
    have ne_vb_145_on : vb_145 ≠ on := Nat.ne_of_lt (Nat.lt_of_lt_of_eq A_vb_145_150.lt q151.symm)
    have ne_b_147_on : b_147 ≠ on := Nat.ne_of_lt (Nat.lt_of_lt_of_eq E_b_147_150.lt q151.symm)
    have ne_vb_147_on : vb_147 ≠ on := Nat.ne_of_lt (Nat.lt_of_lt_of_eq A_vb_147_150.lt q151.symm)
    have ne_b_149_on : b_149 ≠ on := Nat.ne_of_lt (Nat.lt_of_lt_of_eq f149_1.lt q151.symm)
    have ne_vb_149_on : vb_149 ≠ on := Nat.ne_of_lt (Nat.lt_of_lt_of_eq f149_4.lt q151.symm)
    have g_on : n0 ≤ on := Nat.le_trans Zs149 (Nat.le_of_eq q151.symm)
    have Sf_on : Safe Z own_EL T149.vm T149.heap on := Safe.new (Nat.le_of_eq q151.symm)
    have mh_on : h0.size ≤ on := Nat.le_trans K149.1 (Nat.le_of_eq q151.symm)
    have Sf_on_152 : Safe Z own_EL T149.vm h151 on := Safe.ext E151 R149.1 Sf_on
    have R152 : CHr Z own_EL s.vm h0 T149.vm h151 := CHr.trans R149 (CHr.ext E151 R149.1)
    have hk152 : _ ≤ h151.size := Nat.le_trans (Nat.le_refl _) (E151.1)
    have E_b_141_153 : Exa Z h151 b_141 "java/lang/String" := Exa.ext E151 E_b_141_150
    have F_value_b_141_153 : Fld Z h151 b_141 "java/lang/String" "value" "[B" (.ref vb_141) := Fld.ext E151 F_value_b_141_150
    have F_coder_b_141_153 : Fld Z h151 b_141 "java/lang/String" "coder" "B" (.int (0 : Int32)) := Fld.ext E151 F_coder_b_141_150
    have A_vb_141_153 : Arv Z h151 vb_141 kb_141 .byte (Int32.ofNat (own_us p1 nl).length) ((own_us p1 nl).map Value.int) (.int (0 : Int32)) := Arv.ext A_vb_141_150 E151
    have E_b_143_153 : Exa Z h151 b_143 "java/lang/String" := Exa.ext E151 E_b_143_150
    have F_value_b_143_153 : Fld Z h151 b_143 "java/lang/String" "value" "[B" (.ref vb_143) := Fld.ext E151 F_value_b_143_150
    have F_coder_b_143_153 : Fld Z h151 b_143 "java/lang/String" "coder" "B" (.int (0 : Int32)) := Fld.ext E151 F_coder_b_143_150
    have A_vb_143_153 : Arv Z h151 vb_143 kb_143 .byte (Int32.ofNat (own_us p2 ll).length) ((own_us p2 ll).map Value.int) (.int (0 : Int32)) := Arv.ext A_vb_143_150 E151
    have E_b_145_153 : Exa Z h151 b_145 "java/lang/String" := Exa.ext E151 E_b_145_150
    have F_value_b_145_153 : Fld Z h151 b_145 "java/lang/String" "value" "[B" (.ref vb_145) := Fld.ext E151 F_value_b_145_150
    have F_coder_b_145_153 : Fld Z h151 b_145 "java/lang/String" "coder" "B" (.int (0 : Int32)) := Fld.ext E151 F_coder_b_145_150
    have A_vb_145_153 : Arv Z h151 vb_145 kb_145 .byte (Int32.ofNat (own_us p3 fl).length) ((own_us p3 fl).map Value.int) (.int (0 : Int32)) := Arv.ext A_vb_145_150 E151
    have E_b_147_153 : Exa Z h151 b_147 "java/lang/String" := Exa.ext E151 E_b_147_150
    have F_value_b_147_153 : Fld Z h151 b_147 "java/lang/String" "value" "[B" (.ref vb_147) := Fld.ext E151 F_value_b_147_150
    have F_coder_b_147_153 : Fld Z h151 b_147 "java/lang/String" "coder" "B" (.int (0 : Int32)) := Fld.ext E151 F_coder_b_147_150
    have A_vb_147_153 : Arv Z h151 vb_147 kb_147 .byte (Int32.ofNat (own_us o1 l1).length) ((own_us o1 l1).map Value.int) (.int (0 : Int32)) := Arv.ext A_vb_147_150 E151
    have E_b_149_153 : Exa Z h151 b_149 "java/lang/String" := Exa.ext E151 f149_1
    have F_value_b_149_153 : Fld Z h151 b_149 "java/lang/String" "value" "[B" (.ref vb_149) := Fld.ext E151 f149_2
    have F_coder_b_149_153 : Fld Z h151 b_149 "java/lang/String" "coder" "B" (.int (0 : Int32)) := Fld.ext E151 f149_3
    have A_vb_149_153 : Arv Z h151 vb_149 kb_149 .byte (Int32.ofNat (own_us o2 l2).length) ((own_us o2 l2).map Value.int) (.int (0 : Int32)) := Arv.ext f149_4 E151
    have F_namespace_151 : Fld Z h151 on "com/example/varigraph/varigraph/graph/Markup$Name" "namespace" "Ljava/lang/String;" .null := D151 (Or.inr (hw _ (List.mem_of_getElem? (i := 67) rfl))) (ty := (.object "java/lang/String")) (by decide)
    have F_localName_151 : Fld Z h151 on "com/example/varigraph/varigraph/graph/Markup$Name" "localName" "Ljava/lang/String;" .null := D151 (Or.inr (hw _ (List.mem_of_getElem? (i := 69) rfl))) (ty := (.object "java/lang/String")) (by decide)
    have F_prefix_151 : Fld Z h151 on "com/example/varigraph/varigraph/graph/Markup$Name" "prefix" "Ljava/lang/String;" .null := D151 (Or.inr (hw _ (List.mem_of_getElem? (i := 71) rfl))) (ty := (.object "java/lang/String")) (by decide)
    have K151 : Keep h0 h151 [] := Keep.ext K149 E151
    have Zs151 : n0 ≤ h151.size := Nat.le_trans Zs149 E151.1
    show Go p e below _ (T151.setTop (mkF m 156 #[.val (.int p1), .val (.int p2), .val (.int p3), .val (.int p4), .val (.int p5), .val (.int p6), .val (.int nl), .val (.int ll), .val (.int fl), .val (.int z9), .val (.int z10), .val (.int o1), .val (.int l1), .val (.int o2), .val (.int l2), .val (.ref b_141), .val (.ref b_143), .val (.ref b_145), .val (.ref b_147), .val (.ref b_149), .unset, .unset, .unset] [(.ref on)]))
    refine g_dup X151 hx (hb hby at_156) 157 rfl rfl ?_
    refine g_aload X151 hx (hb hby at_157) 159 rfl (v := (.ref b_141)) rfl rfl ?_
    refine g_aload X151 hx (hb hby at_159) 161 rfl (v := (.ref b_143)) rfl rfl ?_
    refine g_aload X151 hx (hb hby at_161) 163 rfl (v := (.ref b_145)) rfl rfl ?_
    obtain ⟨_, _, ⟨T154, L154, k154, n154⟩, -, X154, hS154, gr154, ⟨Lc154, hQ154, l154, y154, z154, C154⟩, st154⟩ := X151.specialBackS hx (y := (⟨"com/example/varigraph/varigraph/graph/Markup$Name", "<init>", "(Ljava/lang/String;Ljava/lang/String;Ljava/lang/String;)V"⟩ : MethodName)) rfl hown (mvT hZ (hw _ (List.mem_of_getElem? (i := 46) rfl))) (mvT hZ (hw _ (List.mem_of_getElem? (i := 47) rfl))) (mvT hZ (hw _ (List.mem_of_getElem? (i := 48) rfl))) (by decide) (backOfSH (W := 1) (rmctor l Z a0 hw [] on b_141 b_143 b_145 .null .null .null vb_143 kb_143 (own_us p2 ll) h151 n0 Zs151 A151 g_on F_namespace_151 F_localName_151 F_prefix_151 E_b_143_153 F_value_b_143_153 A_vb_143_153 (Ne.symm ne_b_143_on) (Ne.symm ne_vb_143_on) (own_nonz rll.2)) hZ (hw _ (List.mem_of_getElem? (i := 48) rfl)) (hw _ (List.mem_of_getElem? (i := 45) rfl)) (by decide) (by decide) (own_EW hw) R152.1) (g := (mkF m 163 #[.val (.int p1), .val (.int p2), .val (.int p3), .val (.int p4), .val (.int p5), .val (.int p6), .val (.int nl), .val (.int ll), .val (.int fl), .val (.int z9), .val (.int z10), .val (.int o1), .val (.int l1), .val (.int o2), .val (.int l2), .val (.ref b_141), .val (.ref b_143), .val (.ref b_145), .val (.ref b_147), .val (.ref b_149), .unset, .unset, .unset] [(.ref b_145), (.ref b_143), (.ref b_141), (.ref on), (.ref on)])) rfl (by rw [hml]; rfl) (Steps.refl _) (a := on) (argsL := [(.ref b_141), (.ref b_143), (.ref b_145)]) (rest := [(.ref on)]) (lenOf own_pd12 rfl) rfl (by show 2 * 0 + _ ≤ _; exact Nat.le_of_eq rfl) (hb hby at_163) (fun _ _ => ⟨rfl, e151, (by decide : 31 + 4 ≤ _), (by decide : 63 + 68 ≤ _)⟩)
    dsimp only [Pt.U, Pt.locs, Pt.cells, Pt.slots] at X154 l154 y154 z154 st154 hQ154 hS154 gr154 C154
    subst l154 y154 z154
    obtain ⟨rfl, Nq154, Kq154, f154_0, f154_1, f154_2, f154_3⟩ := hQ154
    refine Go.tr st154 ?_
    obtain ⟨X154, hS154, hZ, hown⟩ := rebS hS149 (by rw [e151]; exact hk152) X154 hS154 gr154 hZ hown
    have Sf_on_154 : Safe Z own_EL T154.vm T154.heap on := CHr.safe C154 A151.lt Sf_on_152
    have R154 : CHr Z own_EL s.vm h0 T154.vm T154.heap := CHr.trans R152 C154
    have N154 := Fr.app N149 Nq154
    have E_b_141_155 : Exa Z T154.heap b_141 "java/lang/String" := Exa.keep E_b_141_153 Kq154
    have F_value_b_141_155 : Fld Z T154.heap b_141 "java/lang/String" "value" "[B" (.ref vb_141) := Fld.keep F_value_b_141_153 Kq154 (ninS ne_b_141_on nin0)
    have F_coder_b_141_155 : Fld Z T154.heap b_141 "java/lang/String" "coder" "B" (.int (0 : Int32)) := Fld.keep F_coder_b_141_153 Kq154 (ninS ne_b_141_on nin0)
    have A_vb_141_155 : Arv Z T154.heap vb_141 kb_141 .byte (Int32.ofNat (own_us p1 nl).length) ((own_us p1 nl).map Value.int) (.int (0 : Int32)) := Arv.keep A_vb_141_153 Kq154 (ninS ne_vb_141_on nin0)
    have E_b_143_155 : Exa Z T154.heap b_143 "java/lang/String" := Exa.keep E_b_143_153 Kq154
    have F_value_b_143_155 : Fld Z T154.heap b_143 "java/lang/String" "value" "[B" (.ref vb_143) := Fld.keep F_value_b_143_153 Kq154 (ninS ne_b_143_on nin0)
    have F_coder_b_143_155 : Fld Z T154.heap b_143 "java/lang/String" "coder" "B" (.int (0 : Int32)) := Fld.keep F_coder_b_143_153 Kq154 (ninS ne_b_143_on nin0)
    have A_vb_143_155 : Arv Z T154.heap vb_143 kb_143 .byte (Int32.ofNat (own_us p2 ll).length) ((own_us p2 ll).map Value.int) (.int (0 : Int32)) := Arv.keep A_vb_143_153 Kq154 (ninS ne_vb_143_on nin0)
    have E_b_145_155 : Exa Z T154.heap b_145 "java/lang/String" := Exa.keep E_b_145_153 Kq154
    have F_value_b_145_155 : Fld Z T154.heap b_145 "java/lang/String" "value" "[B" (.ref vb_145) := Fld.keep F_value_b_145_153 Kq154 (ninS ne_b_145_on nin0)
    have F_coder_b_145_155 : Fld Z T154.heap b_145 "java/lang/String" "coder" "B" (.int (0 : Int32)) := Fld.keep F_coder_b_145_153 Kq154 (ninS ne_b_145_on nin0)
    have A_vb_145_155 : Arv Z T154.heap vb_145 kb_145 .byte (Int32.ofNat (own_us p3 fl).length) ((own_us p3 fl).map Value.int) (.int (0 : Int32)) := Arv.keep A_vb_145_153 Kq154 (ninS ne_vb_145_on nin0)
    have E_b_147_155 : Exa Z T154.heap b_147 "java/lang/String" := Exa.keep E_b_147_153 Kq154
    have F_value_b_147_155 : Fld Z T154.heap b_147 "java/lang/String" "value" "[B" (.ref vb_147) := Fld.keep F_value_b_147_153 Kq154 (ninS ne_b_147_on nin0)
    have F_coder_b_147_155 : Fld Z T154.heap b_147 "java/lang/String" "coder" "B" (.int (0 : Int32)) := Fld.keep F_coder_b_147_153 Kq154 (ninS ne_b_147_on nin0)
    have A_vb_147_155 : Arv Z T154.heap vb_147 kb_147 .byte (Int32.ofNat (own_us o1 l1).length) ((own_us o1 l1).map Value.int) (.int (0 : Int32)) := Arv.keep A_vb_147_153 Kq154 (ninS ne_vb_147_on nin0)
    have E_b_149_155 : Exa Z T154.heap b_149 "java/lang/String" := Exa.keep E_b_149_153 Kq154
    have F_value_b_149_155 : Fld Z T154.heap b_149 "java/lang/String" "value" "[B" (.ref vb_149) := Fld.keep F_value_b_149_153 Kq154 (ninS ne_b_149_on nin0)
    have F_coder_b_149_155 : Fld Z T154.heap b_149 "java/lang/String" "coder" "B" (.int (0 : Int32)) := Fld.keep F_coder_b_149_153 Kq154 (ninS ne_b_149_on nin0)
    have A_vb_149_155 : Arv Z T154.heap vb_149 kb_149 .byte (Int32.ofNat (own_us o2 l2).length) ((own_us o2 l2).map Value.int) (.int (0 : Int32)) := Arv.keep A_vb_149_153 Kq154 (ninS ne_vb_149_on nin0)
    have E_on_155 : Exa Z T154.heap on "com/example/varigraph/varigraph/graph/Markup$Name" := Exa.keep A151 Kq154
    have K154 : Keep h0 T154.heap [] := Keep.trans K151 Kq154 (allS (Or.inr mh_on) all0)
    have Zs154 : n0 ≤ T154.heap.size := Nat.le_trans Zs151 Kq154.1
    show Go p e below _ (T154.setTop (mkF m 166 #[.val (.int p1), .val (.int p2), .val (.int p3), .val (.int p4), .val (.int p5), .val (.int p6), .val (.int nl), .val (.int ll), .val (.int fl), .val (.int z9), .val (.int z10), .val (.int o1), .val (.int l1), .val (.int o2), .val (.int l2), .val (.ref b_141), .val (.ref b_143), .val (.ref b_145), .val (.ref b_147), .val (.ref b_149), .unset, .unset, .unset] [(.ref on)]))
    refine g_astore X154 hx (hb hby at_166) 168 rfl rfl #[.val (.int p1), .val (.int p2), .val (.int p3), .val (.int p4), .val (.int p5), .val (.int p6), .val (.int nl), .val (.int ll), .val (.int fl), .val (.int z9), .val (.int z10), .val (.int o1), .val (.int l1), .val (.int o2), .val (.int l2), .val (.ref b_141), .val (.ref b_143), .val (.ref b_145), .val (.ref b_147), .val (.ref b_149), .val (.ref on), .unset, .unset] rfl ?_
    refine g_aload X154 hx (hb hby at_168) 170 rfl (v := (.ref on)) rfl rfl ?_
    refine g_aload X154 hx (hb hby at_170) 172 rfl (v := (.ref b_147)) rfl rfl ?_
    refine g_aload X154 hx (hb hby at_172) 174 rfl (v := (.ref b_149)) rfl rfl ?_
    obtain ⟨cq156, kq156, q156a, q156b, q156c⟩ := isOf hZ rfl f154_0
    obtain ⟨_, _, ⟨T156, L156, k156, n156⟩, -, X156, ⟨Lc156, hQ156, l156, y156, z156⟩, st156⟩ := X154.virtualBack hx (y := (⟨"com/example/varigraph/varigraph/graph/Markup$Name", "is", "(Ljava/lang/String;Ljava/lang/String;)Z"⟩ : MethodName)) (z := (⟨"com/example/varigraph/varigraph/graph/Markup$Name", "is", "(Ljava/lang/String;Ljava/lang/String;)Z"⟩ : MethodName)) hown (mvT hZ (hw _ (List.mem_of_getElem? (i := 72) rfl))) (mvT hZ (hw _ (List.mem_of_getElem? (i := 73) rfl))) (notFace_of_selects (args := #[]) (mvT hZ (hw _ (List.mem_of_getElem? (i := 75) rfl)))) (mvT hZ (hw _ (List.mem_of_getElem? (i := 75) rfl))) (mvT hZ (hw _ (List.mem_of_getElem? (i := 74) rfl))) (by decide) (backOf (W := 0) (rmnis l Z a0 hw [] on b_147 b_149 s_COMPACT_STRINGS b_141 b_143 vb_141 vb_143 vb_147 vb_149 kb_141 kb_143 kb_147 kb_149 (own_us p1 nl) (own_us p2 ll) (own_us o1 l1) (own_us o2 l2) T154.heap n0 Zs154 (own_Sta_keep S_COMPACT_STRINGS K154 all0) f154_1 f154_2 E_b_141_155 F_value_b_141_155 F_coder_b_141_155 A_vb_141_155 E_b_143_155 F_value_b_143_155 F_coder_b_143_155 A_vb_143_155 E_b_147_155 F_value_b_147_155 F_coder_b_147_155 A_vb_147_155 E_b_149_155 F_value_b_149_155 F_coder_b_149_155 A_vb_149_155 ne_b_141_b_147 ne_b_143_b_149 hz_s_COMPACT_STRINGS (own_uslen _ _) (own_uslen _ _) (own_uslen _ _) (own_uslen _ _)) hZ (hw _ (List.mem_of_getElem? (i := 76) rfl)) (hw _ (List.mem_of_getElem? (i := 45) rfl)) (by decide) (by decide)) q156a q156c (g := (mkF m 174 #[.val (.int p1), .val (.int p2), .val (.int p3), .val (.int p4), .val (.int p5), .val (.int p6), .val (.int nl), .val (.int ll), .val (.int fl), .val (.int z9), .val (.int z10), .val (.int o1), .val (.int l1), .val (.int o2), .val (.int l2), .val (.ref b_141), .val (.ref b_143), .val (.ref b_145), .val (.ref b_147), .val (.ref b_149), .val (.ref on), .unset, .unset] [(.ref b_149), (.ref b_147), (.ref on)])) rfl (by rw [hml]; rfl) (Steps.refl _) (argsL := [(.ref b_147), (.ref b_149)]) (rest := []) (lenOf own_pd13 rfl) rfl (by show 2 * 0 + _ ≤ _; exact Nat.le_of_eq rfl) (hb hby at_174) (fun _ _ => ⟨rfl, rfl, (by decide : 35 + 0 ≤ _), (by decide : 131 + 0 ≤ _)⟩)
    dsimp only [Pt.U, Pt.locs, Pt.cells, Pt.slots] at X156 l156 y156 z156 st156 hQ156
    subst l156 y156 z156
    obtain ⟨r_156, rfl, Nq156, e156, p156_0, p156_1⟩ := hQ156
    refine Go.tr st156 ?_
    have N156 := Fr.app N154 Nq156
    show Go p e below _ (T156.setTop (mkF m 177 #[.val (.int p1), .val (.int p2), .val (.int p3), .val (.int p4), .val (.int p5), .val (.int p6), .val (.int nl), .val (.int ll), .val (.int fl), .val (.int z9), .val (.int z10), .val (.int o1), .val (.int l1), .val (.int o2), .val (.int l2), .val (.ref b_141), .val (.ref b_143), .val (.ref b_145), .val (.ref b_147), .val (.ref b_149), .val (.ref on), .unset, .unset] [(.int r_156)]))
    refine g_istore X156 hx (hb hby at_177) 179 rfl #[.val (.int p1), .val (.int p2), .val (.int p3), .val (.int p4), .val (.int p5), .val (.int p6), .val (.int nl), .val (.int ll), .val (.int fl), .val (.int z9), .val (.int z10), .val (.int o1), .val (.int l1), .val (.int o2), .val (.int l2), .val (.ref b_141), .val (.ref b_143), .val (.ref b_145), .val (.ref b_147), .val (.ref b_149), .val (.ref on), .val (.int r_156), .unset] rfl ?_
    refine g_iloadN X156 hx (hb hby at_179) 180 rfl (v := p1) rfl ?_
    refine g_iload X156 hx (hb hby at_180) 182 rfl (v := nl) rfl ?_
    refine g_iload X156 hx (hb hby at_182) 184 rfl (v := o1) rfl ?_
    refine g_iload X156 hx (hb hby at_184) 186 rfl (v := l1) rfl ?_
    obtain ⟨_, _, ⟨T157, L157, k157, n157⟩, -, X157, ⟨Lc157, hQ157, l157, y157, z157⟩, st157⟩ := Jvm.LawKit.callS X156 hx (y := (⟨"com/example/varigraph/varigraph/graph/NameIsPinLaw", "same", "(IIII)Z"⟩ : MethodName)) hown (mvT hZ (hw _ (List.mem_of_getElem? (i := 87) rfl))) (mvT hZ (hw _ (List.mem_of_getElem? (i := 88) rfl))) (mvT hZ (hw _ (List.mem_of_getElem? (i := 2) rfl))) (mvT hZ (hw _ (List.mem_of_getElem? (i := 89) rfl))) (by decide) (backOf (W := 0) (rmsme l Z a0 hw [] p1 nl o1 l1 T154.heap n0 Zs154 rnl r1) hZ (hw _ (List.mem_of_getElem? (i := 89) rfl)) (hw _ (List.mem_of_getElem? (i := 2) rfl)) (by decide) (by decide)) (g := (mkF m 186 #[.val (.int p1), .val (.int p2), .val (.int p3), .val (.int p4), .val (.int p5), .val (.int p6), .val (.int nl), .val (.int ll), .val (.int fl), .val (.int z9), .val (.int z10), .val (.int o1), .val (.int l1), .val (.int o2), .val (.int l2), .val (.ref b_141), .val (.ref b_143), .val (.ref b_145), .val (.ref b_147), .val (.ref b_149), .val (.ref on), .val (.int r_156), .unset] [(.int l1), (.int o1), (.int nl), (.int p1)])) rfl (by rw [hml]; rfl) (argsL := [(.int p1), (.int nl), (.int o1), (.int l1)]) (rest := []) (lenOf own_pd14 rfl) rfl (by show 2 * 0 + _ ≤ _; exact Nat.le_of_eq rfl) (hb hby at_186) (fun _ _ => ⟨rfl, e156, (by decide : 35 + 0 ≤ _), (by decide : 131 + 0 ≤ _)⟩)
    dsimp only [Pt.U, Pt.locs, Pt.cells, Pt.slots] at X157 l157 y157 z157 st157 hQ157
    subst l157 y157 z157
    obtain ⟨r_157, rfl, Nq157, e157, p157_0, p157_1⟩ := hQ157
    refine Go.st st157 ?_
    have N157 := Fr.app N156 Nq157
    show Go p e below _ (T157.setTop (mkF m 189 #[.val (.int p1), .val (.int p2), .val (.int p3), .val (.int p4), .val (.int p5), .val (.int p6), .val (.int nl), .val (.int ll), .val (.int fl), .val (.int z9), .val (.int z10), .val (.int o1), .val (.int l1), .val (.int o2), .val (.int l2), .val (.ref b_141), .val (.ref b_143), .val (.ref b_145), .val (.ref b_147), .val (.ref b_149), .val (.ref on), .val (.int r_156), .unset] [(.int r_157)]))
    refine g_if_eq X157 hx (hb hby at_189) 209 192 (by decide) (by decide) rfl (fun hc189 => ?_) (fun hc189 => ?_)
    · refine g_iconst X157 hx (hb hby at_209) 210 rfl (0 : Int32) rfl ?_
      refine g_istore X157 hx (hb hby at_210) 212 rfl #[.val (.int p1), .val (.int p2), .val (.int p3), .val (.int p4), .val (.int p5), .val (.int p6), .val (.int nl), .val (.int ll), .val (.int fl), .val (.int z9), .val (.int z10), .val (.int o1), .val (.int l1), .val (.int o2), .val (.int l2), .val (.ref b_141), .val (.ref b_143), .val (.ref b_145), .val (.ref b_147), .val (.ref b_149), .val (.ref on), .val (.int r_156), .val (.int (0 : Int32))] rfl ?_
      refine g_iload X157 hx (hb hby at_212) 214 rfl (v := r_156) rfl ?_
      refine g_iload X157 hx (hb hby at_214) 216 rfl (v := (0 : Int32)) rfl ?_
      refine g_icmp_ne X157 hx (hb hby at_216) 223 219 (by decide) (by decide) rfl (fun hc216 => False.elim (hc216 (p156_0.resolve_right (fun q => absurd (hc189.symm.trans (p157_1.mpr (p156_1.mp q).1)) (by decide))))) (fun hc216 => ?_)
      refine g_iconst X157 hx (hb hby at_219) 220 rfl (1 : Int32) rfl ?_
      refine g_goto X157 hx (hb hby at_220) 224 (by decide) (by decide) ?_
      refine Go.retNS X157 hx hlk (t := .boolean) Bd.returns (by simp) (hb hby at_224) (by decide) (by decide) hS154 (by rw [e157]; exact (Nat.le_refl _)) (own_EW hw) hZ (by rw [hh, e157]; exact R154) ?_
      exact ⟨rfl, N157⟩
    · refine g_iloadN X157 hx (hb hby at_192) 193 rfl (v := p2) rfl ?_
      refine g_iload X157 hx (hb hby at_193) 195 rfl (v := ll) rfl ?_
      refine g_iload X157 hx (hb hby at_195) 197 rfl (v := o2) rfl ?_
      refine g_iload X157 hx (hb hby at_197) 199 rfl (v := l2) rfl ?_
      obtain ⟨_, _, ⟨T158, L158, k158, n158⟩, -, X158, ⟨Lc158, hQ158, l158, y158, z158⟩, st158⟩ := Jvm.LawKit.callS X157 hx (y := (⟨"com/example/varigraph/varigraph/graph/NameIsPinLaw", "same", "(IIII)Z"⟩ : MethodName)) hown (mvT hZ (hw _ (List.mem_of_getElem? (i := 87) rfl))) (mvT hZ (hw _ (List.mem_of_getElem? (i := 88) rfl))) (mvT hZ (hw _ (List.mem_of_getElem? (i := 2) rfl))) (mvT hZ (hw _ (List.mem_of_getElem? (i := 89) rfl))) (by decide) (backOf (W := 0) (rmsme l Z a0 hw [] p2 ll o2 l2 T154.heap n0 Zs154 rll.1 r2) hZ (hw _ (List.mem_of_getElem? (i := 89) rfl)) (hw _ (List.mem_of_getElem? (i := 2) rfl)) (by decide) (by decide)) (g := (mkF m 199 #[.val (.int p1), .val (.int p2), .val (.int p3), .val (.int p4), .val (.int p5), .val (.int p6), .val (.int nl), .val (.int ll), .val (.int fl), .val (.int z9), .val (.int z10), .val (.int o1), .val (.int l1), .val (.int o2), .val (.int l2), .val (.ref b_141), .val (.ref b_143), .val (.ref b_145), .val (.ref b_147), .val (.ref b_149), .val (.ref on), .val (.int r_156), .unset] [(.int l2), (.int o2), (.int ll), (.int p2)])) rfl (by rw [hml]; rfl) (argsL := [(.int p2), (.int ll), (.int o2), (.int l2)]) (rest := []) (lenOf own_pd14 rfl) rfl (by show 2 * 0 + _ ≤ _; exact Nat.le_of_eq rfl) (hb hby at_199) (fun _ _ => ⟨rfl, e157, (by decide : 35 + 0 ≤ _), (by decide : 131 + 0 ≤ _)⟩)
      dsimp only [Pt.U, Pt.locs, Pt.cells, Pt.slots] at X158 l158 y158 z158 st158 hQ158
      subst l158 y158 z158
      obtain ⟨r_158, rfl, Nq158, e158, p158_0, p158_1⟩ := hQ158
      refine Go.st st158 ?_
      have N158 := Fr.app N157 Nq158
      show Go p e below _ (T158.setTop (mkF m 202 #[.val (.int p1), .val (.int p2), .val (.int p3), .val (.int p4), .val (.int p5), .val (.int p6), .val (.int nl), .val (.int ll), .val (.int fl), .val (.int z9), .val (.int z10), .val (.int o1), .val (.int l1), .val (.int o2), .val (.int l2), .val (.ref b_141), .val (.ref b_143), .val (.ref b_145), .val (.ref b_147), .val (.ref b_149), .val (.ref on), .val (.int r_156), .unset] [(.int r_158)]))
      refine g_if_eq X158 hx (hb hby at_202) 209 205 (by decide) (by decide) rfl (fun hc202 => ?_) (fun hc202 => ?_)
      · refine g_iconst X158 hx (hb hby at_209) 210 rfl (0 : Int32) rfl ?_
        refine g_istore X158 hx (hb hby at_210) 212 rfl #[.val (.int p1), .val (.int p2), .val (.int p3), .val (.int p4), .val (.int p5), .val (.int p6), .val (.int nl), .val (.int ll), .val (.int fl), .val (.int z9), .val (.int z10), .val (.int o1), .val (.int l1), .val (.int o2), .val (.int l2), .val (.ref b_141), .val (.ref b_143), .val (.ref b_145), .val (.ref b_147), .val (.ref b_149), .val (.ref on), .val (.int r_156), .val (.int (0 : Int32))] rfl ?_
        refine g_iload X158 hx (hb hby at_212) 214 rfl (v := r_156) rfl ?_
        refine g_iload X158 hx (hb hby at_214) 216 rfl (v := (0 : Int32)) rfl ?_
        refine g_icmp_ne X158 hx (hb hby at_216) 223 219 (by decide) (by decide) rfl (fun hc216 => False.elim (hc216 (p156_0.resolve_right (fun q => absurd (hc202.symm.trans (p158_1.mpr (p156_1.mp q).2)) (by decide))))) (fun hc216 => ?_)
        refine g_iconst X158 hx (hb hby at_219) 220 rfl (1 : Int32) rfl ?_
        refine g_goto X158 hx (hb hby at_220) 224 (by decide) (by decide) ?_
        refine Go.retNS X158 hx hlk (t := .boolean) Bd.returns (by simp) (hb hby at_224) (by decide) (by decide) hS154 (by rw [e158]; exact (Nat.le_refl _)) (own_EW hw) hZ (by rw [hh, e158]; exact R154) ?_
        exact ⟨rfl, N158⟩
      · refine g_iconst X158 hx (hb hby at_205) 206 rfl (1 : Int32) rfl ?_
        refine g_goto X158 hx (hb hby at_206) 210 (by decide) (by decide) ?_
        refine g_istore X158 hx (hb hby at_210) 212 rfl #[.val (.int p1), .val (.int p2), .val (.int p3), .val (.int p4), .val (.int p5), .val (.int p6), .val (.int nl), .val (.int ll), .val (.int fl), .val (.int z9), .val (.int z10), .val (.int o1), .val (.int l1), .val (.int o2), .val (.int l2), .val (.ref b_141), .val (.ref b_143), .val (.ref b_145), .val (.ref b_147), .val (.ref b_149), .val (.ref on), .val (.int r_156), .val (.int (1 : Int32))] rfl ?_
        refine g_iload X158 hx (hb hby at_212) 214 rfl (v := r_156) rfl ?_
        refine g_iload X158 hx (hb hby at_214) 216 rfl (v := (1 : Int32)) rfl ?_
        refine g_icmp_ne X158 hx (hb hby at_216) 223 219 (by decide) (by decide) rfl (fun hc216 => False.elim (hc216 (p156_1.mpr ⟨p157_1.mp (p157_0.resolve_left hc189), p158_1.mp (p158_0.resolve_left hc202)⟩))) (fun hc216 => ?_)
        refine g_iconst X158 hx (hb hby at_219) 220 rfl (1 : Int32) rfl ?_
        refine g_goto X158 hx (hb hby at_220) 224 (by decide) (by decide) ?_
        refine Go.retNS X158 hx hlk (t := .boolean) Bd.returns (by simp) (hb hby at_224) (by decide) (by decide) hS154 (by rw [e158]; exact (Nat.le_refl _)) (own_EW hw) hZ (by rw [hh, e158]; exact R154) ?_
        exact ⟨rfl, N158⟩
  refine g_iload X0 hx (hb hby at_23) 25 rfl (v := p6) rfl ?_
  refine g_iconst X0 hx (hb hby at_25) 26 rfl (1 : Int32) rfl ?_
  refine g_iand X0 hx (hb hby at_26) 27 rfl (p6 &&& (1 : Int32)) rfl ?_
  refine g_if_eq X0 hx (hb hby at_27) 34 30 (by decide) (by decide) rfl (fun hc27 => ?_) (fun hc27 => ?_)
  · refine g_iconst X0 hx (hb hby at_34) 35 rfl (0 : Int32) rfl ?_
    refine g_istore X0 hx (hb hby at_35) 37 rfl #[.val (.int p1), .val (.int p2), .val (.int p3), .val (.int p4), .val (.int p5), .val (.int p6), .val (.int nl), .val (.int ll), .val (.int fl), .val (.int (0 : Int32)), .unset, .unset, .unset, .unset, .unset, .unset, .unset, .unset, .unset, .unset, .unset, .unset, .unset] rfl ?_
    refine g_iload X0 hx (hb hby at_37) 39 rfl (v := p6) rfl ?_
    refine g_iconst X0 hx (hb hby at_39) 40 rfl (2 : Int32) rfl ?_
    refine g_iand X0 hx (hb hby at_40) 41 rfl (p6 &&& (2 : Int32)) rfl ?_
    refine g_if_eq X0 hx (hb hby at_41) 48 44 (by decide) (by decide) rfl (fun hc41 => ?_) (fun hc41 => ?_)
    · refine g_iconst X0 hx (hb hby at_48) 49 rfl (0 : Int32) rfl ?_
      refine g_istore X0 hx (hb hby at_49) 51 rfl #[.val (.int p1), .val (.int p2), .val (.int p3), .val (.int p4), .val (.int p5), .val (.int p6), .val (.int nl), .val (.int ll), .val (.int fl), .val (.int (0 : Int32)), .val (.int (0 : Int32)), .unset, .unset, .unset, .unset, .unset, .unset, .unset, .unset, .unset, .unset, .unset, .unset] rfl ?_
      refine g_iload X0 hx (hb hby at_51) 53 rfl (v := (0 : Int32)) rfl ?_
      refine g_if_eq X0 hx (hb hby at_53) 60 56 (by decide) (by decide) rfl (fun hc53 => ?_) (fun hc53 => False.elim (absurd rfl hc53))
      refine g_iloadN X0 hx (hb hby at_60) 61 rfl (v := p4) rfl ?_
      refine g_istore X0 hx (hb hby at_61) 63 rfl #[.val (.int p1), .val (.int p2), .val (.int p3), .val (.int p4), .val (.int p5), .val (.int p6), .val (.int nl), .val (.int ll), .val (.int fl), .val (.int (0 : Int32)), .val (.int (0 : Int32)), .val (.int p4), .unset, .unset, .unset, .unset, .unset, .unset, .unset, .unset, .unset, .unset, .unset] rfl ?_
      refine g_iload X0 hx (hb hby at_63) 65 rfl (v := (0 : Int32)) rfl ?_
      refine g_if_eq X0 hx (hb hby at_65) 73 68 (by decide) (by decide) rfl (fun hc65 => ?_) (fun hc65 => False.elim (absurd rfl hc65))
      refine g_iloadN X0 hx (hb hby at_73) 74 rfl (v := p4) rfl ?_
      refine g_iconst X0 hx (hb hby at_74) 75 rfl (3 : Int32) rfl ?_
      refine g_iand X0 hx (hb hby at_75) 76 rfl (p4 &&& (3 : Int32)) rfl ?_
      refine g_iconst X0 hx (hb hby at_76) 77 rfl (3 : Int32) rfl ?_
      refine g_irem X0 hx (hb hby at_77) 78 rfl (by decide) ((p4 &&& (3 : Int32)) % (3 : Int32)) rfl ?_
      refine g_istore X0 hx (hb hby at_78) 80 rfl #[.val (.int p1), .val (.int p2), .val (.int p3), .val (.int p4), .val (.int p5), .val (.int p6), .val (.int nl), .val (.int ll), .val (.int fl), .val (.int (0 : Int32)), .val (.int (0 : Int32)), .val (.int p4), .val (.int ((p4 &&& (3 : Int32)) % (3 : Int32))), .unset, .unset, .unset, .unset, .unset, .unset, .unset, .unset, .unset, .unset] rfl ?_
      refine g_iload X0 hx (hb hby at_80) 82 rfl (v := (0 : Int32)) rfl ?_
      refine g_if_eq X0 hx (hb hby at_82) 89 85 (by decide) (by decide) rfl (fun hc82 => ?_) (fun hc82 => False.elim (absurd rfl hc82))
      refine g_iload X0 hx (hb hby at_89) 91 rfl (v := p5) rfl ?_
      refine g_istore X0 hx (hb hby at_91) 93 rfl #[.val (.int p1), .val (.int p2), .val (.int p3), .val (.int p4), .val (.int p5), .val (.int p6), .val (.int nl), .val (.int ll), .val (.int fl), .val (.int (0 : Int32)), .val (.int (0 : Int32)), .val (.int p4), .val (.int ((p4 &&& (3 : Int32)) % (3 : Int32))), .val (.int p5), .unset, .unset, .unset, .unset, .unset, .unset, .unset, .unset, .unset] rfl ?_
      refine g_iload X0 hx (hb hby at_93) 95 rfl (v := (0 : Int32)) rfl ?_
      refine g_if_eq X0 hx (hb hby at_95) 103 98 (by decide) (by decide) rfl (fun hc95 => ?_) (fun hc95 => False.elim (absurd rfl hc95))
      refine g_iload X0 hx (hb hby at_103) 105 rfl (v := p5) rfl ?_
      refine g_iconst X0 hx (hb hby at_105) 106 rfl (3 : Int32) rfl ?_
      refine g_iand X0 hx (hb hby at_106) 107 rfl (p5 &&& (3 : Int32)) rfl ?_
      refine g_iconst X0 hx (hb hby at_107) 108 rfl (3 : Int32) rfl ?_
      refine g_irem X0 hx (hb hby at_108) 109 rfl (by decide) ((p5 &&& (3 : Int32)) % (3 : Int32)) rfl ?_
      refine g_istore X0 hx (hb hby at_109) 111 rfl #[.val (.int p1), .val (.int p2), .val (.int p3), .val (.int p4), .val (.int p5), .val (.int p6), .val (.int nl), .val (.int ll), .val (.int fl), .val (.int (0 : Int32)), .val (.int (0 : Int32)), .val (.int p4), .val (.int ((p4 &&& (3 : Int32)) % (3 : Int32))), .val (.int p5), .val (.int ((p5 &&& (3 : Int32)) % (3 : Int32))), .unset, .unset, .unset, .unset, .unset, .unset, .unset, .unset] rfl ?_
      exact tl (0 : Int32) (0 : Int32) p4 ((p4 &&& (3 : Int32)) % (3 : Int32)) p5 ((p5 &&& (3 : Int32)) % (3 : Int32)) (own_r3 _) (own_r3 _)
    · refine g_iconst X0 hx (hb hby at_44) 45 rfl (1 : Int32) rfl ?_
      refine g_goto X0 hx (hb hby at_45) 49 (by decide) (by decide) ?_
      refine g_istore X0 hx (hb hby at_49) 51 rfl #[.val (.int p1), .val (.int p2), .val (.int p3), .val (.int p4), .val (.int p5), .val (.int p6), .val (.int nl), .val (.int ll), .val (.int fl), .val (.int (0 : Int32)), .val (.int (1 : Int32)), .unset, .unset, .unset, .unset, .unset, .unset, .unset, .unset, .unset, .unset, .unset, .unset] rfl ?_
      refine g_iload X0 hx (hb hby at_51) 53 rfl (v := (0 : Int32)) rfl ?_
      refine g_if_eq X0 hx (hb hby at_53) 60 56 (by decide) (by decide) rfl (fun hc53 => ?_) (fun hc53 => False.elim (absurd rfl hc53))
      refine g_iloadN X0 hx (hb hby at_60) 61 rfl (v := p4) rfl ?_
      refine g_istore X0 hx (hb hby at_61) 63 rfl #[.val (.int p1), .val (.int p2), .val (.int p3), .val (.int p4), .val (.int p5), .val (.int p6), .val (.int nl), .val (.int ll), .val (.int fl), .val (.int (0 : Int32)), .val (.int (1 : Int32)), .val (.int p4), .unset, .unset, .unset, .unset, .unset, .unset, .unset, .unset, .unset, .unset, .unset] rfl ?_
      refine g_iload X0 hx (hb hby at_63) 65 rfl (v := (0 : Int32)) rfl ?_
      refine g_if_eq X0 hx (hb hby at_65) 73 68 (by decide) (by decide) rfl (fun hc65 => ?_) (fun hc65 => False.elim (absurd rfl hc65))
      refine g_iloadN X0 hx (hb hby at_73) 74 rfl (v := p4) rfl ?_
      refine g_iconst X0 hx (hb hby at_74) 75 rfl (3 : Int32) rfl ?_
      refine g_iand X0 hx (hb hby at_75) 76 rfl (p4 &&& (3 : Int32)) rfl ?_
      refine g_iconst X0 hx (hb hby at_76) 77 rfl (3 : Int32) rfl ?_
      refine g_irem X0 hx (hb hby at_77) 78 rfl (by decide) ((p4 &&& (3 : Int32)) % (3 : Int32)) rfl ?_
      refine g_istore X0 hx (hb hby at_78) 80 rfl #[.val (.int p1), .val (.int p2), .val (.int p3), .val (.int p4), .val (.int p5), .val (.int p6), .val (.int nl), .val (.int ll), .val (.int fl), .val (.int (0 : Int32)), .val (.int (1 : Int32)), .val (.int p4), .val (.int ((p4 &&& (3 : Int32)) % (3 : Int32))), .unset, .unset, .unset, .unset, .unset, .unset, .unset, .unset, .unset, .unset] rfl ?_
      refine g_iload X0 hx (hb hby at_80) 82 rfl (v := (1 : Int32)) rfl ?_
      refine g_if_eq X0 hx (hb hby at_82) 89 85 (by decide) (by decide) rfl (fun hc82 => False.elim (absurd hc82 (by decide))) (fun hc82 => ?_)
      refine g_iloadN X0 hx (hb hby at_85) 86 rfl (v := p2) rfl ?_
      refine g_goto X0 hx (hb hby at_86) 91 (by decide) (by decide) ?_
      refine g_istore X0 hx (hb hby at_91) 93 rfl #[.val (.int p1), .val (.int p2), .val (.int p3), .val (.int p4), .val (.int p5), .val (.int p6), .val (.int nl), .val (.int ll), .val (.int fl), .val (.int (0 : Int32)), .val (.int (1 : Int32)), .val (.int p4), .val (.int ((p4 &&& (3 : Int32)) % (3 : Int32))), .val (.int p2), .unset, .unset, .unset, .unset, .unset, .unset, .unset, .unset, .unset] rfl ?_
      refine g_iload X0 hx (hb hby at_93) 95 rfl (v := (1 : Int32)) rfl ?_
      refine g_if_eq X0 hx (hb hby at_95) 103 98 (by decide) (by decide) rfl (fun hc95 => False.elim (absurd hc95 (by decide))) (fun hc95 => ?_)
      refine g_iload X0 hx (hb hby at_98) 100 rfl (v := ll) rfl ?_
      refine g_goto X0 hx (hb hby at_100) 109 (by decide) (by decide) ?_
      refine g_istore X0 hx (hb hby at_109) 111 rfl #[.val (.int p1), .val (.int p2), .val (.int p3), .val (.int p4), .val (.int p5), .val (.int p6), .val (.int nl), .val (.int ll), .val (.int fl), .val (.int (0 : Int32)), .val (.int (1 : Int32)), .val (.int p4), .val (.int ((p4 &&& (3 : Int32)) % (3 : Int32))), .val (.int p2), .val (.int ll), .unset, .unset, .unset, .unset, .unset, .unset, .unset, .unset] rfl ?_
      exact tl (0 : Int32) (1 : Int32) p4 ((p4 &&& (3 : Int32)) % (3 : Int32)) p2 ll (own_r3 _) rll.1
  · refine g_iconst X0 hx (hb hby at_30) 31 rfl (1 : Int32) rfl ?_
    refine g_goto X0 hx (hb hby at_31) 35 (by decide) (by decide) ?_
    refine g_istore X0 hx (hb hby at_35) 37 rfl #[.val (.int p1), .val (.int p2), .val (.int p3), .val (.int p4), .val (.int p5), .val (.int p6), .val (.int nl), .val (.int ll), .val (.int fl), .val (.int (1 : Int32)), .unset, .unset, .unset, .unset, .unset, .unset, .unset, .unset, .unset, .unset, .unset, .unset, .unset] rfl ?_
    refine g_iload X0 hx (hb hby at_37) 39 rfl (v := p6) rfl ?_
    refine g_iconst X0 hx (hb hby at_39) 40 rfl (2 : Int32) rfl ?_
    refine g_iand X0 hx (hb hby at_40) 41 rfl (p6 &&& (2 : Int32)) rfl ?_
    refine g_if_eq X0 hx (hb hby at_41) 48 44 (by decide) (by decide) rfl (fun hc41 => ?_) (fun hc41 => ?_)
    · refine g_iconst X0 hx (hb hby at_48) 49 rfl (0 : Int32) rfl ?_
      refine g_istore X0 hx (hb hby at_49) 51 rfl #[.val (.int p1), .val (.int p2), .val (.int p3), .val (.int p4), .val (.int p5), .val (.int p6), .val (.int nl), .val (.int ll), .val (.int fl), .val (.int (1 : Int32)), .val (.int (0 : Int32)), .unset, .unset, .unset, .unset, .unset, .unset, .unset, .unset, .unset, .unset, .unset, .unset] rfl ?_
      refine g_iload X0 hx (hb hby at_51) 53 rfl (v := (1 : Int32)) rfl ?_
      refine g_if_eq X0 hx (hb hby at_53) 60 56 (by decide) (by decide) rfl (fun hc53 => False.elim (absurd hc53 (by decide))) (fun hc53 => ?_)
      refine g_iloadN X0 hx (hb hby at_56) 57 rfl (v := p1) rfl ?_
      refine g_goto X0 hx (hb hby at_57) 61 (by decide) (by decide) ?_
      refine g_istore X0 hx (hb hby at_61) 63 rfl #[.val (.int p1), .val (.int p2), .val (.int p3), .val (.int p4), .val (.int p5), .val (.int p6), .val (.int nl), .val (.int ll), .val (.int fl), .val (.int (1 : Int32)), .val (.int (0 : Int32)), .val (.int p1), .unset, .unset, .unset, .unset, .unset, .unset, .unset, .unset, .unset, .unset, .unset] rfl ?_
      refine g_iload X0 hx (hb hby at_63) 65 rfl (v := (1 : Int32)) rfl ?_
      refine g_if_eq X0 hx (hb hby at_65) 73 68 (by decide) (by decide) rfl (fun hc65 => False.elim (absurd hc65 (by decide))) (fun hc65 => ?_)
      refine g_iload X0 hx (hb hby at_68) 70 rfl (v := nl) rfl ?_
      refine g_goto X0 hx (hb hby at_70) 78 (by decide) (by decide) ?_
      refine g_istore X0 hx (hb hby at_78) 80 rfl #[.val (.int p1), .val (.int p2), .val (.int p3), .val (.int p4), .val (.int p5), .val (.int p6), .val (.int nl), .val (.int ll), .val (.int fl), .val (.int (1 : Int32)), .val (.int (0 : Int32)), .val (.int p1), .val (.int nl), .unset, .unset, .unset, .unset, .unset, .unset, .unset, .unset, .unset, .unset] rfl ?_
      refine g_iload X0 hx (hb hby at_80) 82 rfl (v := (0 : Int32)) rfl ?_
      refine g_if_eq X0 hx (hb hby at_82) 89 85 (by decide) (by decide) rfl (fun hc82 => ?_) (fun hc82 => False.elim (absurd rfl hc82))
      refine g_iload X0 hx (hb hby at_89) 91 rfl (v := p5) rfl ?_
      refine g_istore X0 hx (hb hby at_91) 93 rfl #[.val (.int p1), .val (.int p2), .val (.int p3), .val (.int p4), .val (.int p5), .val (.int p6), .val (.int nl), .val (.int ll), .val (.int fl), .val (.int (1 : Int32)), .val (.int (0 : Int32)), .val (.int p1), .val (.int nl), .val (.int p5), .unset, .unset, .unset, .unset, .unset, .unset, .unset, .unset, .unset] rfl ?_
      refine g_iload X0 hx (hb hby at_93) 95 rfl (v := (0 : Int32)) rfl ?_
      refine g_if_eq X0 hx (hb hby at_95) 103 98 (by decide) (by decide) rfl (fun hc95 => ?_) (fun hc95 => False.elim (absurd rfl hc95))
      refine g_iload X0 hx (hb hby at_103) 105 rfl (v := p5) rfl ?_
      refine g_iconst X0 hx (hb hby at_105) 106 rfl (3 : Int32) rfl ?_
      refine g_iand X0 hx (hb hby at_106) 107 rfl (p5 &&& (3 : Int32)) rfl ?_
      refine g_iconst X0 hx (hb hby at_107) 108 rfl (3 : Int32) rfl ?_
      refine g_irem X0 hx (hb hby at_108) 109 rfl (by decide) ((p5 &&& (3 : Int32)) % (3 : Int32)) rfl ?_
      refine g_istore X0 hx (hb hby at_109) 111 rfl #[.val (.int p1), .val (.int p2), .val (.int p3), .val (.int p4), .val (.int p5), .val (.int p6), .val (.int nl), .val (.int ll), .val (.int fl), .val (.int (1 : Int32)), .val (.int (0 : Int32)), .val (.int p1), .val (.int nl), .val (.int p5), .val (.int ((p5 &&& (3 : Int32)) % (3 : Int32))), .unset, .unset, .unset, .unset, .unset, .unset, .unset, .unset] rfl ?_
      exact tl (1 : Int32) (0 : Int32) p1 nl p5 ((p5 &&& (3 : Int32)) % (3 : Int32)) rnl (own_r3 _)
    · refine g_iconst X0 hx (hb hby at_44) 45 rfl (1 : Int32) rfl ?_
      refine g_goto X0 hx (hb hby at_45) 49 (by decide) (by decide) ?_
      refine g_istore X0 hx (hb hby at_49) 51 rfl #[.val (.int p1), .val (.int p2), .val (.int p3), .val (.int p4), .val (.int p5), .val (.int p6), .val (.int nl), .val (.int ll), .val (.int fl), .val (.int (1 : Int32)), .val (.int (1 : Int32)), .unset, .unset, .unset, .unset, .unset, .unset, .unset, .unset, .unset, .unset, .unset, .unset] rfl ?_
      refine g_iload X0 hx (hb hby at_51) 53 rfl (v := (1 : Int32)) rfl ?_
      refine g_if_eq X0 hx (hb hby at_53) 60 56 (by decide) (by decide) rfl (fun hc53 => False.elim (absurd hc53 (by decide))) (fun hc53 => ?_)
      refine g_iloadN X0 hx (hb hby at_56) 57 rfl (v := p1) rfl ?_
      refine g_goto X0 hx (hb hby at_57) 61 (by decide) (by decide) ?_
      refine g_istore X0 hx (hb hby at_61) 63 rfl #[.val (.int p1), .val (.int p2), .val (.int p3), .val (.int p4), .val (.int p5), .val (.int p6), .val (.int nl), .val (.int ll), .val (.int fl), .val (.int (1 : Int32)), .val (.int (1 : Int32)), .val (.int p1), .unset, .unset, .unset, .unset, .unset, .unset, .unset, .unset, .unset, .unset, .unset] rfl ?_
      refine g_iload X0 hx (hb hby at_63) 65 rfl (v := (1 : Int32)) rfl ?_
      refine g_if_eq X0 hx (hb hby at_65) 73 68 (by decide) (by decide) rfl (fun hc65 => False.elim (absurd hc65 (by decide))) (fun hc65 => ?_)
      refine g_iload X0 hx (hb hby at_68) 70 rfl (v := nl) rfl ?_
      refine g_goto X0 hx (hb hby at_70) 78 (by decide) (by decide) ?_
      refine g_istore X0 hx (hb hby at_78) 80 rfl #[.val (.int p1), .val (.int p2), .val (.int p3), .val (.int p4), .val (.int p5), .val (.int p6), .val (.int nl), .val (.int ll), .val (.int fl), .val (.int (1 : Int32)), .val (.int (1 : Int32)), .val (.int p1), .val (.int nl), .unset, .unset, .unset, .unset, .unset, .unset, .unset, .unset, .unset, .unset] rfl ?_
      refine g_iload X0 hx (hb hby at_80) 82 rfl (v := (1 : Int32)) rfl ?_
      refine g_if_eq X0 hx (hb hby at_82) 89 85 (by decide) (by decide) rfl (fun hc82 => False.elim (absurd hc82 (by decide))) (fun hc82 => ?_)
      refine g_iloadN X0 hx (hb hby at_85) 86 rfl (v := p2) rfl ?_
      refine g_goto X0 hx (hb hby at_86) 91 (by decide) (by decide) ?_
      refine g_istore X0 hx (hb hby at_91) 93 rfl #[.val (.int p1), .val (.int p2), .val (.int p3), .val (.int p4), .val (.int p5), .val (.int p6), .val (.int nl), .val (.int ll), .val (.int fl), .val (.int (1 : Int32)), .val (.int (1 : Int32)), .val (.int p1), .val (.int nl), .val (.int p2), .unset, .unset, .unset, .unset, .unset, .unset, .unset, .unset, .unset] rfl ?_
      refine g_iload X0 hx (hb hby at_93) 95 rfl (v := (1 : Int32)) rfl ?_
      refine g_if_eq X0 hx (hb hby at_95) 103 98 (by decide) (by decide) rfl (fun hc95 => False.elim (absurd hc95 (by decide))) (fun hc95 => ?_)
      refine g_iload X0 hx (hb hby at_98) 100 rfl (v := ll) rfl ?_
      refine g_goto X0 hx (hb hby at_100) 109 (by decide) (by decide) ?_
      refine g_istore X0 hx (hb hby at_109) 111 rfl #[.val (.int p1), .val (.int p2), .val (.int p3), .val (.int p4), .val (.int p5), .val (.int p6), .val (.int nl), .val (.int ll), .val (.int fl), .val (.int (1 : Int32)), .val (.int (1 : Int32)), .val (.int p1), .val (.int nl), .val (.int p2), .val (.int ll), .unset, .unset, .unset, .unset, .unset, .unset, .unset, .unset] rfl ?_
      exact tl (1 : Int32) (1 : Int32) p1 nl p2 ll rnl rll.1
theorem own_held {s : State} {own : String} {i : Nat} (h : constHeld s own i) : Jvm.Lit.constHeld s own i := h
theorem own_cin : ∀ q ∈ own_EL, q ∈ consts_1 := by decide
set_option maxRecDepth 65536 in
set_option maxHeartbeats 40000000 in
theorem comes_1 {Post : Tables → Env → Array Value → State → Outcome → State → Prop} (hpost : ∀ tb e args s v u, (limb_1_1.after args s (.returned v) u = true ∧ limb_1_2.after args s (.returned v) u = true ∧ True) → ReturnedEndW s (.returned v) u (Jvm.fieldLocs frame_1_writes args s ++ Jvm.arrayLocs frame_1_arrays args s ++ Jvm.staticLocs frame_1_statics s) 48 3264 → Post tb e args s (.returned v) u) :
    ArmFor flags0 classFile x code maxLocals ret World_1 tables_1 room_1 Calls_1 rest_1 Pre_1 Post := by
  intro l hfl _ _ p e ha hc hk s m args below hf hA hF happ hP
  obtain ⟨hcalls, hrest, hpre⟩ := hP
  obtain ⟨-, -, -, hnamed, -, -, -, hat⟩ := (Spec.applies_iff hf).mp happ
  obtain ⟨hg, hn⟩ := and_e (Cond.before_iff.mp (show (Jvm.Cond.and given_1 narrow_1).before args s = true from hpre))
  obtain ⟨c0, r0⟩ := and_e hg
  obtain ⟨c1, r1⟩ := and_e r0
  obtain ⟨c2, r2⟩ := and_e r1
  obtain ⟨c3, r3⟩ := and_e r2
  obtain ⟨c4, r4⟩ := and_e r3
  obtain ⟨c5, r5⟩ := and_e r4
  obtain ⟨w0, w1, w2, w3, w4, w5, rfl⟩ : ∃ w0 w1 w2 w3 w4 w5 : Value, args = #[w0, w1, w2, w3, w4, w5] := by
    have hs : args.size = 6 := by simpa [Cond.value, given_1] using c0
    obtain ⟨L⟩ := args
    match L, hs with
    | [w0, w1, w2, w3, w4, w5], _ => exact ⟨w0, w1, w2, w3, w4, w5, rfl⟩
  have hw := fun d (hd : d ∈ tables_1) => atoms_spec (ws := Jvm.Cond.code x code maxLocals ret :: tables_1) hat d (List.mem_cons_of_mem _ hd)
  have hfit : Fit s := fun {y c} hc i hi => by
    obtain ⟨ha, rfl⟩ := Array.getElem?_eq_some_iff.mp hc
    have q := List.all_eq_true.mp ((Array.all_eq_true_iff_forall_mem.mp hF) _ (Array.getElem_mem ha)) i (List.mem_range.mpr hi)
    simpa [Array.getElem?_eq_getElem hi] using q
  obtain ⟨i0, ei0⟩ := is_v c1
  obtain rfl : w0 = (.int i0) := Option.some.inj ei0
  obtain ⟨i1, ei1⟩ := is_v c2
  obtain rfl : w1 = (.int i1) := Option.some.inj ei1
  obtain ⟨i2, ei2⟩ := is_v c3
  obtain rfl : w2 = (.int i2) := Option.some.inj ei2
  obtain ⟨i3, ei3⟩ := is_v c4
  obtain rfl : w3 = (.int i3) := Option.some.inj ei3
  obtain ⟨i4, ei4⟩ := is_v c5
  obtain rfl : w4 = (.int i4) := Option.some.inj ei4
  obtain ⟨i5, ei5⟩ := is_v r5
  obtain rfl : w5 = (.int i5) := Option.some.inj ei5
  obtain ⟨hsets, hown0⟩ := atoms_of _ (rest_1_c_eq ▸ (show rest_1_c.before _ s = true from hrest))
  obtain ⟨s_COMPACT_STRINGS, e_s_COMPACT_STRINGS⟩ := is_v (Cond.before_iff.mp (hsets _ (List.mem_of_getElem? (i := 1) rfl)))
  have S_COMPACT_STRINGS : Sta s s.heap "java/lang/String" "COMPACT_STRINGS" "Z" (.int s_COMPACT_STRINGS) := Sta.start e_s_COMPACT_STRINGS (Or.inl (hsets _ (List.mem_of_getElem? (i := 0) rfl)))
  obtain ⟨s_SIOOBE_FORMATTER, e_s_SIOOBE_FORMATTER, r_s_SIOOBE_FORMATTER⟩ := isR_v (Cond.before_iff.mp (hsets _ (List.mem_of_getElem? (i := 8) rfl)))
  have S_SIOOBE_FORMATTER : Sta s s.heap "jdk/internal/util/Preconditions" "SIOOBE_FORMATTER" "Ljava/util/function/BiFunction;" s_SIOOBE_FORMATTER := Sta.start e_s_SIOOBE_FORMATTER (Or.inl (hsets _ (List.mem_of_getElem? (i := 7) rfl)))
  have z_s_COMPACT_STRINGS : ¬ s_COMPACT_STRINGS = 0 := own_nz e_s_COMPACT_STRINGS (Cond.before_iff.mp (hsets _ (List.mem_of_getElem? (i := 2) rfl)))
  obtain ⟨n, o, h1, h2, h3, _, L, rfl, ⟨rfl, N⟩, -, hq⟩ := rm0 l s _ hw tables_1 i0 i1 i2 i3 i4 i5 s_COMPACT_STRINGS s_SIOOBE_FORMATTER s.heap s.heap.size (Nat.le_refl _) S_COMPACT_STRINGS S_SIOOBE_FORMATTER rfl z_s_COMPACT_STRINGS r_s_SIOOBE_FORMATTER p e ha hc hk s m _ below hf ((Spec.applies_iff_loose hf).mp happ).1 ⟨rfl, State.Warmed39.refl s, rfl, (CHv.start (own_EW hw) (fun q hq => own_held (hcalls.1 q (own_cin q hq))) (hsets _ (List.mem_of_getElem? (i := 2) rfl)) (hw _ (List.mem_of_getElem? (i := 19) rfl)) (hw _ (List.mem_of_getElem? (i := 5) rfl)))⟩ trivial
  refine ⟨n, _, h1, h2, h3, hpost _ _ _ _ _ _ ⟨Cond.after_iff.mpr rfl, Cond.after_iff.mpr (eq_i res_at (Term.int_eval (1)) rfl), trivial⟩ ⟨hq.1, hq.2.1, hq.2.2.1, (hq.2.2.2.sift fun y hy => Or.inr (N y hy)).mono (by decide) (by decide)⟩⟩
theorem main_1_1 : Claimed_1_1 := comes_1 fun _ _ _ _ _ _ h hF => ⟨h.1, hF⟩
theorem main_1_2 : Claimed_1_2 := comes_1 fun _ _ _ _ _ _ h hF => ⟨h.2.1, hF⟩
end Jvm.Pilot.@@N@@
namespace Jvm.Pilot.@@N@@
open Jvm Jvm.ClassFile Sem Op Lib Jvm.Free Jvm.Stand Jvm.Pilot.@@N@@.Jvm.D
/-! MADE BY PROGRAM (witnessworld.py) out of the Statement's table words and the real class files: 22 classes; the members and pool entries that the words name. The judged class is class 1, her method 5. -/
namespace start1
open Jvm.ClassFile
def u (s : String) : CpInfo := .utf8 (stringToUtf16 s)
/-- a pool by its gaps: so many unusable entries, then the entry; so many at the end -/
def gap : Nat → List CpInfo → List CpInfo
  | 0, r => r
  | n + 1, r => .unusable :: gap n r
def poolList (es : List (Nat × CpInfo)) (last : Nat) : List CpInfo := es.foldr (fun e r => gap e.1 (e.2 :: r)) (gap last [])
def pool (es : List (Nat × CpInfo)) (last : Nat) : Array CpInfo := ⟨poolList es last⟩
def fileOf (pool : Array CpInfo) (this : Nat) (attrs : Array Attribute := #[]) (ms : Array MethodInfo := #[]) (fl : Nat := 33) (sup : Nat := 0) (ifs : Array Nat := #[]) (fds : Array FieldInfo := #[]) : ClassFile where
  minorVersion := 0
  majorVersion := 65
  constantPool := pool
  accessFlags := fl
  thisClass := this
  superClass := sup
  interfaces := ifs
  fields := fds
  methods := ms
  attributes := attrs
def plain (name : String) (sup : Option ClassId) : Class where
  name := name
  kind := .ordinary
  loader := none
  accessFlags := 33
  super := sup
  interfaces := #[]
  cf := none
  fields := #[]
  methods := #[]
  instanceTypes := #[]
  staticTypes := #[]
  resolved := #[]
  callSites := []
  init := .initialized
  statics := none
  mirror := none

def pool0 : Array CpInfo := pool [(5, u "<init>"), (0, u "()V"), (1, .class_ 10), (1, u "java/lang/Object")] 113

def k0c0 : Code := { maxStack := 0, maxLocals := 1, code := object_method_1_code, exceptionTable := #[], attributes := #[] }
def k0m0 : Method := { name := "<init>", desc := "()V", sig := { parameters := [], returnType := none }, accessFlags := 1, code := some k0c0 }
/-- java/lang/Object -/
def k0 : Class := { plain "java/lang/Object" none with
  accessFlags := 33
  interfaces := #[]
  cf := some (fileOf pool0 8 #[] #[{ accessFlags := 1, nameIndex := 5, descriptorIndex := 6, attributes := #[] }] 33 0 #[] #[])
  fields := #[]
  methods := #[k0m0]
  instanceTypes := #[]
  staticTypes := #[]
  resolved := Array.replicate 124 none
  statics := none }

def pool1 : Array CpInfo := pool [(2, .class_ 4), (1, u "java/lang/Object"), (0, u "<init>"), (0, u "()V"), (0, .class_ 8), (0, u "java/lang/String"), (0, .methodref 7 10), (0, .nameAndType 5 11), (0, u "([C)V"), (0, .methodref 13 14), (0, .class_ 15), (0, .nameAndType 16 17), (0, u "com/example/varigraph/varigraph/graph/NameIsPinLaw"), (0, u "ch0"), (0, u "(I)C"), (0, .methodref 13 19), (0, .nameAndType 20 17), (0, u "ch1"), (0, .methodref 13 22), (0, .nameAndType 23 24), (0, u "str"), (0, u "(II)Ljava/lang/String;"), (0, .class_ 26), (0, u "com/example/varigraph/varigraph/graph/Markup$Name"), (0, .methodref 25 28), (0, .nameAndType 5 29), (0, u "(Ljava/lang/String;Ljava/lang/String;Ljava/lang/String;)V"), (0, .methodref 25 31), (0, .nameAndType 32 33), (0, u "is"), (0, u "(Ljava/lang/String;Ljava/lang/String;)Z"), (0, .methodref 13 35), (0, .nameAndType 36 37), (0, u "same"), (0, u "(IIII)Z"), (3, u "law"), (0, u "(IIIIII)Z")] 6

def k1m0 : Method := { name := "<init>", desc := "()V", sig := { parameters := [], returnType := none }, accessFlags := 1, code := none }
def k1c1 : Code := { maxStack := 2, maxLocals := 1, code := method_2_code, exceptionTable := #[], attributes := #[] }
def k1m1 : Method := { name := "ch0", desc := "(I)C", sig := { parameters := [.int], returnType := some .char }, accessFlags := 10, code := some k1c1 }
def k1c2 : Code := { maxStack := 2, maxLocals := 1, code := method_3_code, exceptionTable := #[], attributes := #[] }
def k1m2 : Method := { name := "ch1", desc := "(I)C", sig := { parameters := [.int], returnType := some .char }, accessFlags := 10, code := some k1c2 }
def k1c3 : Code := { maxStack := 6, maxLocals := 2, code := method_4_code, exceptionTable := #[], attributes := #[] }
def k1m3 : Method := { name := "str", desc := "(II)Ljava/lang/String;", sig := { parameters := [.int, .int], returnType := some (.object "java/lang/String") }, accessFlags := 10, code := some k1c3 }
def k1c4 : Code := { maxStack := 2, maxLocals := 4, code := method_5_code, exceptionTable := #[], attributes := #[] }
def k1m4 : Method := { name := "same", desc := "(IIII)Z", sig := { parameters := [.int, .int, .int, .int], returnType := some .boolean }, accessFlags := 10, code := some k1c4 }
def k1c5 : Code := { maxStack := 5, maxLocals := 23, code := code, exceptionTable := #[], attributes := #[] }
def k1m5 : Method := { name := "law", desc := "(IIIIII)Z", sig := { parameters := [.int, .int, .int, .int, .int, .int], returnType := some .boolean }, accessFlags := 9, code := some k1c5 }
/-- com/example/varigraph/varigraph/graph/NameIsPinLaw -/
def k1 : Class := { plain "com/example/varigraph/varigraph/graph/NameIsPinLaw" (some 0) with
  accessFlags := 49
  interfaces := #[]
  cf := some (fileOf pool1 13 #[] #[{ accessFlags := 1, nameIndex := 5, descriptorIndex := 6, attributes := #[] }, { accessFlags := 10, nameIndex := 16, descriptorIndex := 17, attributes := #[] }, { accessFlags := 10, nameIndex := 20, descriptorIndex := 17, attributes := #[] }, { accessFlags := 10, nameIndex := 23, descriptorIndex := 24, attributes := #[] }, { accessFlags := 10, nameIndex := 36, descriptorIndex := 37, attributes := #[] }, { accessFlags := 9, nameIndex := 41, descriptorIndex := 42, attributes := #[] }] 49 2 #[] #[])
  fields := #[]
  methods := #[k1m0, k1m1, k1m2, k1m3, k1m4, k1m5]
  instanceTypes := #[]
  staticTypes := #[]
  resolved := Array.replicate 49 none
  statics := none }

def pool2 : Array CpInfo := pool [(1, .class_ 2), (0, u "java/io/Serializable"), (0, .class_ 4), (0, u "java/lang/Object")] 2

/-- java/io/Serializable -/
def k2 : Class := { plain "java/io/Serializable" (some 0) with
  accessFlags := 1537
  interfaces := #[]
  cf := some (fileOf pool2 1 #[] #[] 1537 3 #[] #[])
  fields := #[]
  methods := #[]
  instanceTypes := #[]
  staticTypes := #[]
  resolved := Array.replicate 7 none
  statics := none }

def pool3 : Array CpInfo := pool [(1, .class_ 2), (0, u "java/lang/Comparable"), (0, .class_ 4), (0, u "java/lang/Object")] 7

/-- java/lang/Comparable -/
def k3 : Class := { plain "java/lang/Comparable" (some 0) with
  accessFlags := 1537
  interfaces := #[]
  cf := some (fileOf pool3 1 #[] #[] 1537 3 #[] #[])
  fields := #[]
  methods := #[]
  instanceTypes := #[]
  staticTypes := #[]
  resolved := Array.replicate 12 none
  statics := none }

def pool4 : Array CpInfo := pool [(2, .class_ 4), (1, u "java/lang/CharSequence"), (42, .class_ 48), (0, u "java/lang/CharSequence$1CodePointIterator"), (10, .class_ 60), (0, u "java/lang/CharSequence$1CharIterator"), (5, .class_ 67), (0, u "java/lang/Object")] 63

/-- java/lang/CharSequence -/
def k4 : Class := { plain "java/lang/CharSequence" (some 0) with
  accessFlags := 1537
  interfaces := #[]
  cf := some (fileOf pool4 2 #[.nestMembers #[47, 59]] #[] 1537 66 #[] #[])
  fields := #[]
  methods := #[]
  instanceTypes := #[]
  staticTypes := #[]
  resolved := Array.replicate 131 none
  statics := none }

def pool5 : Array CpInfo := pool [(1, .class_ 2), (0, u "java/lang/constant/Constable"), (0, .class_ 4), (0, u "java/lang/Object")] 6

/-- java/lang/constant/Constable -/
def k5 : Class := { plain "java/lang/constant/Constable" (some 0) with
  accessFlags := 1537
  interfaces := #[]
  cf := some (fileOf pool5 1 #[] #[] 1537 3 #[] #[])
  fields := #[]
  methods := #[]
  instanceTypes := #[]
  staticTypes := #[]
  resolved := Array.replicate 11 none
  statics := none }

def pool6 : Array CpInfo := pool [(1, .class_ 2), (0, u "java/lang/constant/ConstantDesc"), (0, .class_ 4), (0, u "java/lang/Object")] 32

/-- java/lang/constant/ConstantDesc -/
def k6 : Class := { plain "java/lang/constant/ConstantDesc" (some 0) with
  accessFlags := 1537
  interfaces := #[]
  cf := some (fileOf pool6 1 #[] #[] 1537 3 #[] #[])
  fields := #[]
  methods := #[]
  instanceTypes := #[]
  staticTypes := #[]
  resolved := Array.replicate 37 none
  statics := none }

def pool7 : Array CpInfo := pool [(1, .methodref 2 3), (0, .class_ 4), (0, .nameAndType 5 6), (0, u "java/lang/Object"), (0, u "<init>"), (0, u "()V"), (0, .string 8), (0, u ""), (0, .fieldref 10 11), (0, .class_ 12), (0, .nameAndType 13 14), (0, u "java/lang/String"), (0, u "value"), (0, u "[B"), (0, .fieldref 10 16), (0, .nameAndType 17 18), (0, u "coder"), (0, u "B"), (2, u "hash"), (0, u "I"), (2, u "hashIsZero"), (0, u "Z"), (0, .methodref 10 28), (0, .nameAndType 5 29), (0, u "([CIILjava/lang/Void;)V"), (8, .fieldref 10 39), (0, .nameAndType 40 26), (0, u "COMPACT_STRINGS"), (1, .class_ 44), (1, u "java/lang/StringUTF16"), (0, u "compress"), (1, .methodref 42 48), (0, .nameAndType 49 50), (0, u "coderFromArrayLen"), (0, u "([BI)B"), (56, .class_ 109), (1, u "java/lang/StringLatin1"), (32, u "()Z"), (34, .methodref 42 178), (0, .nameAndType 45 179), (0, u "([CII)[B"), (361, .methodref 107 542), (0, .nameAndType 543 544), (0, u "equals"), (0, u "([B[B)Z"), (28, u "(Ljava/lang/Object;)Z"), (1, .class_ 576), (0, u "java/lang/CharSequence"), (22, u "CASE_INSENSITIVE_ORDER"), (0, u "Ljava/util/Comparator;"), (91, u "isEmpty"), (317, u "([C)V"), (90, u "serialPersistentFields"), (0, u "[Ljava/io/ObjectStreamField;"), (0, .class_ 1104), (0, u "java/lang/String$CaseInsensitiveComparator"), (1, .class_ 1107), (0, u "java/io/Serializable"), (0, .class_ 1109), (0, u "java/lang/Comparable"), (0, .class_ 1111), (0, u "java/lang/constant/Constable"), (0, .class_ 1113), (0, u "java/lang/constant/ConstantDesc"), (2, u "serialVersionUID"), (0, u "J"), (3, u "REPL"), (0, u "C"), (2, u "LATIN1"), (1, u "UTF16")] 323

def k7m0 : Method := { name := "<init>", desc := "()V", sig := { parameters := [], returnType := none }, accessFlags := 1, code := none }
def k7c1 : Code := { maxStack := 5, maxLocals := 2, code := jdk_42_method_3_code, exceptionTable := #[], attributes := #[] }
def k7m1 : Method := { name := "<init>", desc := "([C)V", sig := { parameters := [(.array .char)], returnType := none }, accessFlags := 1, code := some k7c1 }
def k7c2 : Code := { maxStack := 1, maxLocals := 1, code := jdk_42_method_55_code, exceptionTable := #[], attributes := #[] }
def k7m2 : Method := { name := "isEmpty", desc := "()Z", sig := { parameters := [], returnType := some .boolean }, accessFlags := 1, code := some k7c2 }
def k7c3 : Code := { maxStack := 2, maxLocals := 3, code := jdk_42_method_66_code, exceptionTable := #[], attributes := #[] }
def k7m3 : Method := { name := "equals", desc := "(Ljava/lang/Object;)Z", sig := { parameters := [(.object "java/lang/Object")], returnType := some .boolean }, accessFlags := 1, code := some k7c3 }
def k7c4 : Code := { maxStack := 4, maxLocals := 6, code := jdk_42_method_149_code, exceptionTable := #[], attributes := #[] }
def k7m4 : Method := { name := "<init>", desc := "([CIILjava/lang/Void;)V", sig := { parameters := [(.array .char), .int, .int, (.object "java/lang/Void")], returnType := none }, accessFlags := 2, code := some k7c4 }
/-- java/lang/String -/
def k7 : Class := { plain "java/lang/String" (some 0) with
  accessFlags := 49
  interfaces := #[2, 3, 4, 5, 6]
  cf := some (fileOf pool7 10 #[.nestMembers #[1103]] #[{ accessFlags := 1, nameIndex := 5, descriptorIndex := 6, attributes := #[] }, { accessFlags := 1, nameIndex := 5, descriptorIndex := 1010, attributes := #[] }, { accessFlags := 1, nameIndex := 692, descriptorIndex := 142, attributes := #[] }, { accessFlags := 1, nameIndex := 543, descriptorIndex := 573, attributes := #[] }, { accessFlags := 2, nameIndex := 5, descriptorIndex := 29, attributes := #[] }] 49 2 #[1106, 1108, 575, 1110, 1112] #[{ accessFlags := 18, nameIndex := 13, descriptorIndex := 14, attributes := #[] }, { accessFlags := 18, nameIndex := 17, descriptorIndex := 18, attributes := #[] }, { accessFlags := 2, nameIndex := 21, descriptorIndex := 22, attributes := #[] }, { accessFlags := 2, nameIndex := 25, descriptorIndex := 26, attributes := #[] }, { accessFlags := 26, nameIndex := 1116, descriptorIndex := 1117, attributes := #[] }, { accessFlags := 24, nameIndex := 40, descriptorIndex := 26, attributes := #[] }, { accessFlags := 26, nameIndex := 1101, descriptorIndex := 1102, attributes := #[] }, { accessFlags := 26, nameIndex := 1121, descriptorIndex := 1122, attributes := #[] }, { accessFlags := 25, nameIndex := 599, descriptorIndex := 600, attributes := #[] }, { accessFlags := 24, nameIndex := 1125, descriptorIndex := 18, attributes := #[] }, { accessFlags := 24, nameIndex := 1127, descriptorIndex := 18, attributes := #[] }])
  fields := #[{ name := "value", type := (.array .byte), accessFlags := 18, slot := 0, constantValue := 0 }, { name := "coder", type := .byte, accessFlags := 18, slot := 1, constantValue := 0 }, { name := "hash", type := .int, accessFlags := 2, slot := 2, constantValue := 0 }, { name := "hashIsZero", type := .boolean, accessFlags := 2, slot := 3, constantValue := 0 }, { name := "serialVersionUID", type := .long, accessFlags := 26, slot := 0, constantValue := 0 }, { name := "COMPACT_STRINGS", type := .boolean, accessFlags := 24, slot := 1, constantValue := 0 }, { name := "serialPersistentFields", type := (.array (.object "java/io/ObjectStreamField")), accessFlags := 26, slot := 2, constantValue := 0 }, { name := "REPL", type := .char, accessFlags := 26, slot := 3, constantValue := 0 }, { name := "CASE_INSENSITIVE_ORDER", type := (.object "java/util/Comparator"), accessFlags := 25, slot := 4, constantValue := 0 }, { name := "LATIN1", type := .byte, accessFlags := 24, slot := 5, constantValue := 0 }, { name := "UTF16", type := .byte, accessFlags := 24, slot := 6, constantValue := 0 }]
  methods := #[k7m0, k7m1, k7m2, k7m3, k7m4]
  instanceTypes := #[(.array .byte), .byte, .int, .boolean]
  staticTypes := #[.long, .boolean, (.array (.object "java/io/ObjectStreamField")), .char, (.object "java/util/Comparator"), .byte, .byte]
  resolved := Array.replicate 1451 none
  statics := some 0 }

def pool8 : Array CpInfo := pool [(6, .class_ 8), (1, u "java/lang/Object"), (0, u "<init>"), (0, u "()V"), (1, .class_ 14), (1, u "java/lang/StringUTF16"), (31, u "$assertionsDisabled"), (0, u "Z"), (13, u "HI_BYTE_SHIFT"), (0, u "I"), (2, u "LO_BYTE_SHIFT"), (49, .methodref 12 116), (0, .nameAndType 117 118), (0, u "compress"), (0, u "([CI[BII)I"), (3, u "([CII)[B"), (138, u "coderFromArrayLen"), (0, u "([BI)B"), (106, .class_ 371), (1, u "java/lang/StringUTF16$LinesSpliterator"), (58, u "MAX_LENGTH"), (196, .class_ 628), (0, u "java/lang/StringUTF16$CodePointsSpliterator"), (0, .class_ 630), (0, u "java/lang/StringUTF16$CharsSpliterator")] 4

def k8m0 : Method := { name := "<init>", desc := "()V", sig := { parameters := [], returnType := none }, accessFlags := 0, code := none }
def k8c1 : Code := { maxStack := 2, maxLocals := 2, code := jdk_52_method_15_code, exceptionTable := #[], attributes := #[] }
def k8m1 : Method := { name := "coderFromArrayLen", desc := "([BI)B", sig := { parameters := [(.array .byte), .int], returnType := some .byte }, accessFlags := 8, code := some k8c1 }
def k8c2 : Code := { maxStack := 5, maxLocals := 6, code := jdk_52_method_16_code, exceptionTable := #[], attributes := #[] }
def k8m2 : Method := { name := "compress", desc := "([CII)[B", sig := { parameters := [(.array .char), .int, .int], returnType := some (.array .byte) }, accessFlags := 9, code := some k8c2 }
def k8c3 : Code := { maxStack := 3, maxLocals := 7, code := jdk_52_method_21_code, exceptionTable := #[], attributes := #[] }
def k8m3 : Method := { name := "compress", desc := "([CI[BII)I", sig := { parameters := [(.array .char), .int, (.array .byte), .int, .int], returnType := some .int }, accessFlags := 9, code := some k8c3 }
/-- java/lang/StringUTF16 -/
def k8 : Class := { plain "java/lang/StringUTF16" (some 0) with
  accessFlags := 48
  interfaces := #[]
  cf := some (fileOf pool8 12 #[.nestMembers #[627, 629, 369]] #[{ accessFlags := 0, nameIndex := 9, descriptorIndex := 10, attributes := #[] }, { accessFlags := 8, nameIndex := 261, descriptorIndex := 262, attributes := #[] }, { accessFlags := 9, nameIndex := 117, descriptorIndex := 122, attributes := #[] }, { accessFlags := 9, nameIndex := 117, descriptorIndex := 118, attributes := #[] }] 48 6 #[] #[{ accessFlags := 26, nameIndex := 61, descriptorIndex := 62, attributes := #[] }, { accessFlags := 26, nameIndex := 65, descriptorIndex := 62, attributes := #[] }, { accessFlags := 24, nameIndex := 430, descriptorIndex := 62, attributes := #[] }, { accessFlags := 4120, nameIndex := 46, descriptorIndex := 47, attributes := #[] }])
  fields := #[{ name := "HI_BYTE_SHIFT", type := .int, accessFlags := 26, slot := 0, constantValue := 0 }, { name := "LO_BYTE_SHIFT", type := .int, accessFlags := 26, slot := 1, constantValue := 0 }, { name := "MAX_LENGTH", type := .int, accessFlags := 24, slot := 2, constantValue := 0 }, { name := "$assertionsDisabled", type := .boolean, accessFlags := 4120, slot := 3, constantValue := 0 }]
  methods := #[k8m0, k8m1, k8m2, k8m3]
  instanceTypes := #[]
  staticTypes := #[.int, .int, .int, .boolean]
  resolved := Array.replicate 635 none
  statics := none }

def pool9 : Array CpInfo := pool [(1, .methodref 2 3), (0, .class_ 4), (0, .nameAndType 5 6), (0, u "java/lang/Object"), (0, u "<init>"), (0, u "()V"), (0, .class_ 8), (0, u "java/lang/Record")] 13

def k9c0 : Code := { maxStack := 1, maxLocals := 1, code := jdk_30_method_1_code, exceptionTable := #[], attributes := #[] }
def k9m0 : Method := { name := "<init>", desc := "()V", sig := { parameters := [], returnType := none }, accessFlags := 4, code := some k9c0 }
/-- java/lang/Record -/
def k9 : Class := { plain "java/lang/Record" (some 0) with
  accessFlags := 1057
  interfaces := #[]
  cf := some (fileOf pool9 7 #[] #[{ accessFlags := 4, nameIndex := 5, descriptorIndex := 6, attributes := #[] }] 1057 2 #[] #[])
  fields := #[]
  methods := #[k9m0]
  instanceTypes := #[]
  staticTypes := #[]
  resolved := Array.replicate 22 none
  statics := none }

def pool10 : Array CpInfo := pool [(1, .methodref 2 3), (0, .class_ 4), (0, .nameAndType 5 6), (0, u "java/lang/Record"), (0, u "<init>"), (0, u "()V"), (0, .string 8), (0, u "namespace"), (0, .methodref 10 11), (0, .class_ 12), (0, .nameAndType 13 14), (0, u "java/util/Objects"), (0, u "requireNonNull"), (0, u "(Ljava/lang/Object;Ljava/lang/String;)Ljava/lang/Object;"), (0, .string 16), (0, u "prefix"), (0, .methodref 18 19), (0, .class_ 20), (0, .nameAndType 21 22), (0, u "java/lang/String"), (0, u "isEmpty"), (0, u "()Z"), (7, .fieldref 31 32), (0, .class_ 33), (0, .nameAndType 8 34), (0, u "com/example/varigraph/varigraph/graph/Markup$Name"), (0, u "Ljava/lang/String;"), (0, .fieldref 31 36), (0, .nameAndType 37 34), (0, u "localName"), (0, .fieldref 31 39), (0, .nameAndType 16 34), (0, .methodref 18 41), (0, .nameAndType 42 43), (0, u "equals"), (0, u "(Ljava/lang/Object;)Z"), (15, u "(Ljava/lang/String;Ljava/lang/String;Ljava/lang/String;)V"), (4, u "is"), (0, u "(Ljava/lang/String;Ljava/lang/String;)Z"), (6, .class_ 73), (0, u "com/example/varigraph/varigraph/graph/Markup")] 29

def k10c0 : Code := { maxStack := 3, maxLocals := 4, code := prog_78_method_1_code, exceptionTable := #[], attributes := #[] }
def k10m0 : Method := { name := "<init>", desc := "(Ljava/lang/String;Ljava/lang/String;Ljava/lang/String;)V", sig := { parameters := [(.object "java/lang/String"), (.object "java/lang/String"), (.object "java/lang/String")], returnType := none }, accessFlags := 1, code := some k10c0 }
def k10c1 : Code := { maxStack := 2, maxLocals := 3, code := prog_78_method_2_code, exceptionTable := #[], attributes := #[] }
def k10m1 : Method := { name := "is", desc := "(Ljava/lang/String;Ljava/lang/String;)Z", sig := { parameters := [(.object "java/lang/String"), (.object "java/lang/String")], returnType := some .boolean }, accessFlags := 1, code := some k10c1 }
/-- com/example/varigraph/varigraph/graph/Markup$Name -/
def k10 : Class := { plain "com/example/varigraph/varigraph/graph/Markup$Name" (some 9) with
  accessFlags := 49
  interfaces := #[]
  cf := some (fileOf pool10 31 #[.nestHost 72] #[{ accessFlags := 1, nameIndex := 5, descriptorIndex := 59, attributes := #[] }, { accessFlags := 1, nameIndex := 64, descriptorIndex := 65, attributes := #[] }] 49 2 #[] #[{ accessFlags := 18, nameIndex := 8, descriptorIndex := 34, attributes := #[] }, { accessFlags := 18, nameIndex := 37, descriptorIndex := 34, attributes := #[] }, { accessFlags := 18, nameIndex := 16, descriptorIndex := 34, attributes := #[] }])
  fields := #[{ name := "namespace", type := (.object "java/lang/String"), accessFlags := 18, slot := 0, constantValue := 0 }, { name := "localName", type := (.object "java/lang/String"), accessFlags := 18, slot := 1, constantValue := 0 }, { name := "prefix", type := (.object "java/lang/String"), accessFlags := 18, slot := 2, constantValue := 0 }]
  methods := #[k10m0, k10m1]
  instanceTypes := #[(.object "java/lang/String"), (.object "java/lang/String"), (.object "java/lang/String")]
  staticTypes := #[]
  resolved := Array.replicate 103 none
  statics := none }

def pool11 : Array CpInfo := pool [(2, .class_ 4), (1, u "java/lang/Object"), (0, u "<init>"), (0, u "()V"), (35, .class_ 44), (1, u "java/util/Objects"), (0, u "requireNonNull"), (48, u "(Ljava/lang/Object;Ljava/lang/String;)Ljava/lang/Object;")] 89

def k11m0 : Method := { name := "<init>", desc := "()V", sig := { parameters := [], returnType := none }, accessFlags := 2, code := none }
def k11c1 : Code := { maxStack := 3, maxLocals := 2, code := jdk_31_method_11_code, exceptionTable := #[], attributes := #[] }
def k11m1 : Method := { name := "requireNonNull", desc := "(Ljava/lang/Object;Ljava/lang/String;)Ljava/lang/Object;", sig := { parameters := [(.object "java/lang/Object"), (.object "java/lang/String")], returnType := some (.object "java/lang/Object") }, accessFlags := 9, code := some k11c1 }
/-- java/util/Objects -/
def k11 : Class := { plain "java/util/Objects" (some 0) with
  accessFlags := 49
  interfaces := #[]
  cf := some (fileOf pool11 42 #[] #[{ accessFlags := 2, nameIndex := 5, descriptorIndex := 6, attributes := #[] }, { accessFlags := 9, nameIndex := 45, descriptorIndex := 94, attributes := #[] }] 49 2 #[] #[])
  fields := #[]
  methods := #[k11m0, k11m1]
  instanceTypes := #[]
  staticTypes := #[]
  resolved := Array.replicate 184 none
  statics := none }

def pool12 : Array CpInfo := pool [(4, .class_ 6), (1, u "java/lang/Object"), (0, u "<init>"), (0, u "()V"), (5, .class_ 16), (1, u "java/lang/StringLatin1"), (104, u "$assertionsDisabled"), (0, u "Z"), (98, .class_ 223), (1, u "java/lang/StringLatin1$LinesSpliterator"), (57, u "equals"), (0, u "([B[B)Z"), (107, .class_ 391), (0, u "java/lang/StringLatin1$CharsSpliterator")] 3

def k12m0 : Method := { name := "<init>", desc := "()V", sig := { parameters := [], returnType := none }, accessFlags := 0, code := none }
def k12c1 : Code := { maxStack := 3, maxLocals := 3, code := jdk_43_method_13_code, exceptionTable := #[], attributes := #[] }
def k12m1 : Method := { name := "equals", desc := "([B[B)Z", sig := { parameters := [(.array .byte), (.array .byte)], returnType := some .boolean }, accessFlags := 9, code := some k12c1 }
/-- java/lang/StringLatin1 -/
def k12 : Class := { plain "java/lang/StringLatin1" (some 0) with
  accessFlags := 48
  interfaces := #[]
  cf := some (fileOf pool12 14 #[.nestMembers #[390, 221]] #[{ accessFlags := 0, nameIndex := 7, descriptorIndex := 8, attributes := #[] }, { accessFlags := 9, nameIndex := 281, descriptorIndex := 282, attributes := #[] }] 48 4 #[] #[{ accessFlags := 4120, nameIndex := 121, descriptorIndex := 122, attributes := #[] }])
  fields := #[{ name := "$assertionsDisabled", type := .boolean, accessFlags := 4120, slot := 0, constantValue := 0 }]
  methods := #[k12m0, k12m1]
  instanceTypes := #[]
  staticTypes := #[.boolean]
  resolved := Array.replicate 395 none
  statics := none }

def pool13 : Array CpInfo := pool [(2, .class_ 4), (1, u "java/lang/Object"), (0, u "<init>"), (0, u "()V"), (17, .class_ 26), (1, u "jdk/internal/util/Preconditions"), (28, .class_ 56), (0, u "jdk/internal/util/Preconditions$4"), (57, .class_ 115), (0, u "jdk/internal/util/Preconditions$1"), (7, u "SIOOBE_FORMATTER"), (0, u "Ljava/util/function/BiFunction;"), (0, .class_ 126), (0, u "jdk/internal/util/Preconditions$2"), (3, u "AIOOBE_FORMATTER"), (0, .class_ 132), (0, u "jdk/internal/util/Preconditions$3"), (3, u "IOOBE_FORMATTER")] 57

def k13m0 : Method := { name := "<init>", desc := "()V", sig := { parameters := [], returnType := none }, accessFlags := 1, code := none }
/-- jdk/internal/util/Preconditions -/
def k13 : Class := { plain "jdk/internal/util/Preconditions" (some 0) with
  accessFlags := 33
  interfaces := #[]
  cf := some (fileOf pool13 24 #[.nestMembers #[55, 131, 125, 114]] #[{ accessFlags := 1, nameIndex := 5, descriptorIndex := 6, attributes := #[] }] 33 2 #[] #[{ accessFlags := 25, nameIndex := 123, descriptorIndex := 124, attributes := #[] }, { accessFlags := 25, nameIndex := 130, descriptorIndex := 124, attributes := #[] }, { accessFlags := 25, nameIndex := 136, descriptorIndex := 124, attributes := #[] }])
  fields := #[{ name := "SIOOBE_FORMATTER", type := (.object "java/util/function/BiFunction"), accessFlags := 25, slot := 0, constantValue := 0 }, { name := "AIOOBE_FORMATTER", type := (.object "java/util/function/BiFunction"), accessFlags := 25, slot := 1, constantValue := 0 }, { name := "IOOBE_FORMATTER", type := (.object "java/util/function/BiFunction"), accessFlags := 25, slot := 2, constantValue := 0 }]
  methods := #[k13m0]
  instanceTypes := #[]
  staticTypes := #[(.object "java/util/function/BiFunction"), (.object "java/util/function/BiFunction"), (.object "java/util/function/BiFunction")]
  resolved := Array.replicate 194 none
  statics := some 1 }

def pool14 : Array CpInfo := pool [(9, u "<init>"), (6, .class_ 18), (1, u "java/lang/Object"), (0, u "()V"), (1, .class_ 23), (1, u "jdk/internal/util/ArraysSupport"), (0, u "LOG2_ARRAY_LONG_INDEX_SCALE"), (0, u "I"), (2, u "U"), (0, u "Ljdk/internal/misc/Unsafe;"), (8, u "BIG_ENDIAN"), (0, u "Z"), (8, u "LOG2_BYTE_BIT_SIZE"), (4, u "LOG2_ARRAY_INT_INDEX_SCALE"), (54, u "JLA"), (0, u "Ljdk/internal/access/JavaLangAccess;"), (11, u "LOG2_ARRAY_BOOLEAN_INDEX_SCALE"), (9, u "LOG2_ARRAY_BYTE_INDEX_SCALE"), (5, u "LOG2_ARRAY_CHAR_INDEX_SCALE"), (5, u "LOG2_ARRAY_SHORT_INDEX_SCALE"), (18, u "LOG2_ARRAY_FLOAT_INDEX_SCALE"), (24, u "LOG2_ARRAY_DOUBLE_INDEX_SCALE"), (89, u "T_BOOLEAN"), (2, u "T_CHAR"), (1, u "T_FLOAT"), (1, u "T_DOUBLE"), (1, u "T_BYTE"), (1, u "T_SHORT"), (1, u "T_INT"), (1, u "T_LONG"), (1, u "SOFT_MAX_ARRAY_LENGTH")] 83

def k14m0 : Method := { name := "<init>", desc := "()V", sig := { parameters := [], returnType := none }, accessFlags := 2, code := none }
/-- jdk/internal/util/ArraysSupport -/
def k14 : Class := { plain "jdk/internal/util/ArraysSupport" (some 0) with
  accessFlags := 33
  interfaces := #[]
  cf := some (fileOf pool14 21 #[] #[{ accessFlags := 2, nameIndex := 9, descriptorIndex := 19, attributes := #[] }] 33 16 #[] #[{ accessFlags := 24, nameIndex := 28, descriptorIndex := 29, attributes := #[] }, { accessFlags := 26, nameIndex := 38, descriptorIndex := 39, attributes := #[] }, { accessFlags := 25, nameIndex := 121, descriptorIndex := 25, attributes := #[] }, { accessFlags := 25, nameIndex := 131, descriptorIndex := 25, attributes := #[] }, { accessFlags := 25, nameIndex := 137, descriptorIndex := 25, attributes := #[] }, { accessFlags := 25, nameIndex := 143, descriptorIndex := 25, attributes := #[] }, { accessFlags := 25, nameIndex := 53, descriptorIndex := 25, attributes := #[] }, { accessFlags := 25, nameIndex := 24, descriptorIndex := 25, attributes := #[] }, { accessFlags := 25, nameIndex := 162, descriptorIndex := 25, attributes := #[] }, { accessFlags := 25, nameIndex := 187, descriptorIndex := 25, attributes := #[] }, { accessFlags := 26, nameIndex := 48, descriptorIndex := 25, attributes := #[] }, { accessFlags := 25, nameIndex := 277, descriptorIndex := 25, attributes := #[] }, { accessFlags := 25, nameIndex := 280, descriptorIndex := 25, attributes := #[] }, { accessFlags := 25, nameIndex := 282, descriptorIndex := 25, attributes := #[] }, { accessFlags := 25, nameIndex := 284, descriptorIndex := 25, attributes := #[] }, { accessFlags := 25, nameIndex := 286, descriptorIndex := 25, attributes := #[] }, { accessFlags := 25, nameIndex := 288, descriptorIndex := 25, attributes := #[] }, { accessFlags := 25, nameIndex := 290, descriptorIndex := 25, attributes := #[] }, { accessFlags := 25, nameIndex := 292, descriptorIndex := 25, attributes := #[] }, { accessFlags := 26, nameIndex := 108, descriptorIndex := 109, attributes := #[] }, { accessFlags := 25, nameIndex := 294, descriptorIndex := 25, attributes := #[] }])
  fields := #[{ name := "U", type := (.object "jdk/internal/misc/Unsafe"), accessFlags := 24, slot := 0, constantValue := 0 }, { name := "BIG_ENDIAN", type := .boolean, accessFlags := 26, slot := 1, constantValue := 0 }, { name := "LOG2_ARRAY_BOOLEAN_INDEX_SCALE", type := .int, accessFlags := 25, slot := 2, constantValue := 0 }, { name := "LOG2_ARRAY_BYTE_INDEX_SCALE", type := .int, accessFlags := 25, slot := 3, constantValue := 0 }, { name := "LOG2_ARRAY_CHAR_INDEX_SCALE", type := .int, accessFlags := 25, slot := 4, constantValue := 0 }, { name := "LOG2_ARRAY_SHORT_INDEX_SCALE", type := .int, accessFlags := 25, slot := 5, constantValue := 0 }, { name := "LOG2_ARRAY_INT_INDEX_SCALE", type := .int, accessFlags := 25, slot := 6, constantValue := 0 }, { name := "LOG2_ARRAY_LONG_INDEX_SCALE", type := .int, accessFlags := 25, slot := 7, constantValue := 0 }, { name := "LOG2_ARRAY_FLOAT_INDEX_SCALE", type := .int, accessFlags := 25, slot := 8, constantValue := 0 }, { name := "LOG2_ARRAY_DOUBLE_INDEX_SCALE", type := .int, accessFlags := 25, slot := 9, constantValue := 0 }, { name := "LOG2_BYTE_BIT_SIZE", type := .int, accessFlags := 26, slot := 10, constantValue := 0 }, { name := "T_BOOLEAN", type := .int, accessFlags := 25, slot := 11, constantValue := 0 }, { name := "T_CHAR", type := .int, accessFlags := 25, slot := 12, constantValue := 0 }, { name := "T_FLOAT", type := .int, accessFlags := 25, slot := 13, constantValue := 0 }, { name := "T_DOUBLE", type := .int, accessFlags := 25, slot := 14, constantValue := 0 }, { name := "T_BYTE", type := .int, accessFlags := 25, slot := 15, constantValue := 0 }, { name := "T_SHORT", type := .int, accessFlags := 25, slot := 16, constantValue := 0 }, { name := "T_INT", type := .int, accessFlags := 25, slot := 17, constantValue := 0 }, { name := "T_LONG", type := .int, accessFlags := 25, slot := 18, constantValue := 0 }, { name := "JLA", type := (.object "jdk/internal/access/JavaLangAccess"), accessFlags := 26, slot := 19, constantValue := 0 }, { name := "SOFT_MAX_ARRAY_LENGTH", type := .int, accessFlags := 25, slot := 20, constantValue := 0 }]
  methods := #[k14m0]
  instanceTypes := #[]
  staticTypes := #[(.object "jdk/internal/misc/Unsafe"), .boolean, .int, .int, .int, .int, .int, .int, .int, .int, .int, .int, .int, .int, .int, .int, .int, .int, .int, (.object "jdk/internal/access/JavaLangAccess"), .int]
  resolved := Array.replicate 378 none
  statics := none }

def pool15 : Array CpInfo := pool [(1, u "java/lang/Cloneable"), (0, .class_ 1), (0, u "java/lang/Object"), (0, .class_ 3)] 3

/-- java/lang/Cloneable -/
def k15 : Class := { plain "java/lang/Cloneable" (some 0) with
  accessFlags := 1537
  interfaces := #[]
  cf := some (fileOf pool15 2 #[] #[] 1537 4 #[] #[])
  fields := #[]
  methods := #[]
  instanceTypes := #[]
  staticTypes := #[]
  resolved := Array.replicate 8 none
  statics := none }

/-- the primitive byte -/
def k16 : Class := { plain "byte" none with kind := .primitive 'B', accessFlags := 0x411 }
/-- [B -/
def k17 : Class := { plain "[B" (some 0) with kind := .array 16 .byte, interfaces := #[15, 2], accessFlags := 1041 }

/-- the primitive char -/
def k18 : Class := { plain "char" none with kind := .primitive 'C', accessFlags := 0x411 }
/-- [C -/
def k19 : Class := { plain "[C" (some 0) with kind := .array 18 .char, interfaces := #[15, 2], accessFlags := 1041 }

/-- the primitive int -/
def k20 : Class := { plain "int" none with kind := .primitive 'I', accessFlags := 0x411 }
/-- [I -/
def k21 : Class := { plain "[I" (some 0) with kind := .array 20 .int, interfaces := #[15, 2], accessFlags := 1041 }

def heap : Heap := #[{ cls := 7, slots := #[.long 0, .int 1, .null, .int 0, .null, .int 0, .int 0], vm := .statics 7 },
  { cls := 13, slots := #[.null, .null, .null], vm := .statics 13 }]
def classes : Array Class := #[k0, k1, k2, k3, k4, k5, k6, k7, k8, k9, k10, k11, k12, k13, k14, k15, k16, k17, k18, k19, k20, k21]
def interned : List (Array UInt16 × Addr) := []
def slotsUsed : Nat := 10
def theMethod : MethodId := ⟨1, 5⟩
def args0 : Array Value := #[.int 1, .int 2, .int 3, .int 4, .int 5, .int 6]
def aboutOver (below : List Frame) : State where
  vm := { classes := classes, interned := interned.toArray }
  heap := heap
  slotsUsed := slotsUsed
  threads := #[{ frames := .invoking theMethod args0 :: below }]
def below0 : List Frame := [.native { method := ⟨0, 0⟩, args := #[] }]
def about1 : State := aboutOver below0
def p0 : Program := .bare "" "" ""
def e0 : Env := launch0.env 0 0 0
theorem w_frames : about1.frames = Frame.invoking theMethod args0 :: below0 := rfl
set_option maxRecDepth 65536 in
theorem w_args : argsFit about1.vm theMethod args0 = true := by decide +kernel
set_option maxRecDepth 65536 in
theorem w_heap : heapFits about1 = true := by decide +kernel
set_option maxRecDepth 65536 in
theorem w_runnable : about1.curStatus? = some .runnable := by decide +kernel
set_option maxRecDepth 65536 in
theorem w_alone : about1.alone = true := by decide +kernel
set_option maxRecDepth 65536 in
theorem w_named : about1.methodNamed? x = some theMethod := by decide +kernel
set_option maxRecDepth 65536 in
theorem w_hears : about1.hears theMethod below0 = true := by decide +kernel
set_option maxRecDepth 65536 in
theorem w_ripe : about1.ripe theMethod args0 below0 = true := by decide +kernel
theorem w_running : about1.status = .running := rfl
set_option maxRecDepth 65536 in
theorem w_room : about1.hasRoom e0.platform room_1 = true :=
  launch0.hasRoom_least _ room_1 (by decide +kernel) (by decide +kernel) (by decide +kernel) (by decide +kernel) (by decide +kernel) (by decide +kernel)
theorem allAtoms_all (ts : List Jvm.Cond) (a : Array Jvm.Value) (st : Jvm.State) : (allAtoms ts).before a st = ts.all (fun c => c.before a st) := by
  induction ts with
  | nil => rfl
  | cons c t ih =>
    show (Jvm.Cond.and c (allAtoms t)).before a st = _
    rw [Jvm.Cond.before_and, ih, List.all_cons]
def words1 : List Jvm.Cond := Jvm.Cond.code x code maxLocals ret :: tables_1
/-- a 'code' word, met by the world's own term for the bytes: nothing is compared byte by byte -/
theorem code_word {y : MethodName} {bytes : ByteArray} {mx : Nat} {rt : Option FieldType} {a : Array Value} {s : State} {m : MethodId} {meth : Method} {c : Code} (h1 : s.methodNamed? y = some m) (h2 : s.vm.method? m = some meth) (h3 : meth.code = some c) (h4 : c.code = bytes)
    (h5 : (c.maxLocals == mx && c.exceptionTable.isEmpty && decide (c.maxStack ≤ mostOperands) && decide (meth.sig.returnType = rt) && !meth.locks && decide (parseMethodDescriptor y.desc = some meth.sig)) = true) : (Jvm.Cond.code y bytes mx rt).before a s = true := by
  simp only [Bool.and_eq_true, beq_iff_eq, Bool.not_eq_true', decide_eq_true_eq] at h5
  obtain ⟨⟨⟨⟨⟨g1, g2⟩, g3⟩, g4⟩, g5⟩, g6⟩ := h5
  simp [Cond.before, Cond.holds, Cond.value, h1, h2, h3, h4, g1, g2, g3, g4, g5, g6]
def isCode : Jvm.Cond → Bool
  | .code _ _ _ _ => true
  | _ => false
theorem all_split {L : List Jvm.Cond} {P : Jvm.Cond → Bool} (h1 : L.all (fun c => isCode c || P c) = true) (h2 : ∀ c ∈ L.filter isCode, P c = true) : L.all P = true := by
  refine List.all_eq_true.mpr fun c hc => ?_
  have h := List.all_eq_true.mp h1 c hc
  rcases Bool.eq_false_or_eq_true (isCode c) with hi | hi
  · exact h2 c (List.mem_filter.mpr ⟨hc, hi⟩)
  · simpa [hi] using h
set_option maxRecDepth 65536 in
theorem w_c0 : (Jvm.Cond.code x code maxLocals ret).before args0 about1 = true := code_word (m := ⟨1, 5⟩) (meth := k1m5) (c := k1c5) (by decide +kernel) rfl rfl rfl (by decide +kernel)
set_option maxRecDepth 65536 in
theorem w_c1 : (Jvm.Cond.code ({ cls := "com/example/varigraph/varigraph/graph/NameIsPinLaw", name := "str", desc := "(II)Ljava/lang/String;" } : Jvm.MethodName) method_4_code (2 : Nat) (Option.some (Jvm.ClassFile.FieldType.object "java/lang/String"))).before args0 about1 = true := code_word (m := ⟨1, 3⟩) (meth := k1m3) (c := k1c3) (by decide +kernel) rfl rfl rfl (by decide +kernel)
set_option maxRecDepth 65536 in
theorem w_c2 : (Jvm.Cond.code ({ cls := "java/lang/String", name := "<init>", desc := "([C)V" } : Jvm.MethodName) jdk_42_method_3_code (2 : Nat) (Option.none : Option Jvm.ClassFile.FieldType)).before args0 about1 = true := code_word (m := ⟨7, 1⟩) (meth := k7m1) (c := k7c1) (by decide +kernel) rfl rfl rfl (by decide +kernel)
set_option maxRecDepth 65536 in
theorem w_c3 : (Jvm.Cond.code ({ cls := "java/lang/String", name := "<init>", desc := "([CIILjava/lang/Void;)V" } : Jvm.MethodName) jdk_42_method_149_code (6 : Nat) (Option.none : Option Jvm.ClassFile.FieldType)).before args0 about1 = true := code_word (m := ⟨7, 4⟩) (meth := k7m4) (c := k7c4) (by decide +kernel) rfl rfl rfl (by decide +kernel)
set_option maxRecDepth 65536 in
theorem w_c4 : (Jvm.Cond.code ({ cls := "java/lang/Object", name := "<init>", desc := "()V" } : Jvm.MethodName) object_method_1_code (1 : Nat) (Option.none : Option Jvm.ClassFile.FieldType)).before args0 about1 = true := code_word (m := ⟨0, 0⟩) (meth := k0m0) (c := k0c0) (by decide +kernel) rfl rfl rfl (by decide +kernel)
set_option maxRecDepth 65536 in
theorem w_c5 : (Jvm.Cond.code ({ cls := "com/example/varigraph/varigraph/graph/NameIsPinLaw", name := "ch0", desc := "(I)C" } : Jvm.MethodName) method_2_code (1 : Nat) (Option.some Jvm.ClassFile.FieldType.char)).before args0 about1 = true := code_word (m := ⟨1, 1⟩) (meth := k1m1) (c := k1c1) (by decide +kernel) rfl rfl rfl (by decide +kernel)
set_option maxRecDepth 65536 in
theorem w_c6 : (Jvm.Cond.code ({ cls := "com/example/varigraph/varigraph/graph/NameIsPinLaw", name := "ch1", desc := "(I)C" } : Jvm.MethodName) method_3_code (1 : Nat) (Option.some Jvm.ClassFile.FieldType.char)).before args0 about1 = true := code_word (m := ⟨1, 2⟩) (meth := k1m2) (c := k1c2) (by decide +kernel) rfl rfl rfl (by decide +kernel)
set_option maxRecDepth 65536 in
theorem w_c7 : (Jvm.Cond.code ({ cls := "java/lang/StringUTF16", name := "compress", desc := "([CII)[B" } : Jvm.MethodName) jdk_52_method_16_code (6 : Nat) (Option.some (Jvm.ClassFile.FieldType.array Jvm.ClassFile.FieldType.byte))).before args0 about1 = true := code_word (m := ⟨8, 2⟩) (meth := k8m2) (c := k8c2) (by decide +kernel) rfl rfl rfl (by decide +kernel)
set_option maxRecDepth 65536 in
theorem w_c8 : (Jvm.Cond.code ({ cls := "java/lang/StringUTF16", name := "compress", desc := "([CI[BII)I" } : Jvm.MethodName) jdk_52_method_21_code (7 : Nat) (Option.some Jvm.ClassFile.FieldType.int)).before args0 about1 = true := code_word (m := ⟨8, 3⟩) (meth := k8m3) (c := k8c3) (by decide +kernel) rfl rfl rfl (by decide +kernel)
set_option maxRecDepth 65536 in
theorem w_c9 : (Jvm.Cond.code ({ cls := "java/lang/StringUTF16", name := "coderFromArrayLen", desc := "([BI)B" } : Jvm.MethodName) jdk_52_method_15_code (2 : Nat) (Option.some Jvm.ClassFile.FieldType.byte)).before args0 about1 = true := code_word (m := ⟨8, 1⟩) (meth := k8m1) (c := k8c1) (by decide +kernel) rfl rfl rfl (by decide +kernel)
set_option maxRecDepth 65536 in
theorem w_c10 : (Jvm.Cond.code ({ cls := "com/example/varigraph/varigraph/graph/Markup$Name", name := "<init>", desc := "(Ljava/lang/String;Ljava/lang/String;Ljava/lang/String;)V" } : Jvm.MethodName) prog_78_method_1_code (4 : Nat) (Option.none : Option Jvm.ClassFile.FieldType)).before args0 about1 = true := code_word (m := ⟨10, 0⟩) (meth := k10m0) (c := k10c0) (by decide +kernel) rfl rfl rfl (by decide +kernel)
set_option maxRecDepth 65536 in
theorem w_c11 : (Jvm.Cond.code ({ cls := "java/lang/Record", name := "<init>", desc := "()V" } : Jvm.MethodName) jdk_30_method_1_code (1 : Nat) (Option.none : Option Jvm.ClassFile.FieldType)).before args0 about1 = true := code_word (m := ⟨9, 0⟩) (meth := k9m0) (c := k9c0) (by decide +kernel) rfl rfl rfl (by decide +kernel)
set_option maxRecDepth 65536 in
theorem w_c12 : (Jvm.Cond.code ({ cls := "java/util/Objects", name := "requireNonNull", desc := "(Ljava/lang/Object;Ljava/lang/String;)Ljava/lang/Object;" } : Jvm.MethodName) jdk_31_method_11_code (2 : Nat) (Option.some (Jvm.ClassFile.FieldType.object "java/lang/Object"))).before args0 about1 = true := code_word (m := ⟨11, 1⟩) (meth := k11m1) (c := k11c1) (by decide +kernel) rfl rfl rfl (by decide +kernel)
set_option maxRecDepth 65536 in
theorem w_c13 : (Jvm.Cond.code ({ cls := "java/lang/String", name := "isEmpty", desc := "()Z" } : Jvm.MethodName) jdk_42_method_55_code (1 : Nat) (Option.some Jvm.ClassFile.FieldType.boolean)).before args0 about1 = true := code_word (m := ⟨7, 2⟩) (meth := k7m2) (c := k7c2) (by decide +kernel) rfl rfl rfl (by decide +kernel)
set_option maxRecDepth 65536 in
theorem w_c14 : (Jvm.Cond.code ({ cls := "com/example/varigraph/varigraph/graph/Markup$Name", name := "is", desc := "(Ljava/lang/String;Ljava/lang/String;)Z" } : Jvm.MethodName) prog_78_method_2_code (3 : Nat) (Option.some Jvm.ClassFile.FieldType.boolean)).before args0 about1 = true := code_word (m := ⟨10, 1⟩) (meth := k10m1) (c := k10c1) (by decide +kernel) rfl rfl rfl (by decide +kernel)
set_option maxRecDepth 65536 in
theorem w_c15 : (Jvm.Cond.code ({ cls := "java/lang/String", name := "equals", desc := "(Ljava/lang/Object;)Z" } : Jvm.MethodName) jdk_42_method_66_code (3 : Nat) (Option.some Jvm.ClassFile.FieldType.boolean)).before args0 about1 = true := code_word (m := ⟨7, 3⟩) (meth := k7m3) (c := k7c3) (by decide +kernel) rfl rfl rfl (by decide +kernel)
set_option maxRecDepth 65536 in
theorem w_c16 : (Jvm.Cond.code ({ cls := "java/lang/StringLatin1", name := "equals", desc := "([B[B)Z" } : Jvm.MethodName) jdk_43_method_13_code (3 : Nat) (Option.some Jvm.ClassFile.FieldType.boolean)).before args0 about1 = true := code_word (m := ⟨12, 1⟩) (meth := k12m1) (c := k12c1) (by decide +kernel) rfl rfl rfl (by decide +kernel)
set_option maxRecDepth 65536 in
theorem w_c17 : (Jvm.Cond.code ({ cls := "com/example/varigraph/varigraph/graph/NameIsPinLaw", name := "same", desc := "(IIII)Z" } : Jvm.MethodName) method_5_code (4 : Nat) (Option.some Jvm.ClassFile.FieldType.boolean)).before args0 about1 = true := code_word (m := ⟨1, 4⟩) (meth := k1m4) (c := k1c4) (by decide +kernel) rfl rfl rfl (by decide +kernel)
def codes1 : List Jvm.Cond := [Jvm.Cond.code x code maxLocals ret, Jvm.Cond.code ({ cls := "com/example/varigraph/varigraph/graph/NameIsPinLaw", name := "str", desc := "(II)Ljava/lang/String;" } : Jvm.MethodName) method_4_code (2 : Nat) (Option.some (Jvm.ClassFile.FieldType.object "java/lang/String")), Jvm.Cond.code ({ cls := "java/lang/String", name := "<init>", desc := "([C)V" } : Jvm.MethodName) jdk_42_method_3_code (2 : Nat) (Option.none : Option Jvm.ClassFile.FieldType), Jvm.Cond.code ({ cls := "java/lang/String", name := "<init>", desc := "([CIILjava/lang/Void;)V" } : Jvm.MethodName) jdk_42_method_149_code (6 : Nat) (Option.none : Option Jvm.ClassFile.FieldType), Jvm.Cond.code ({ cls := "java/lang/Object", name := "<init>", desc := "()V" } : Jvm.MethodName) object_method_1_code (1 : Nat) (Option.none : Option Jvm.ClassFile.FieldType), Jvm.Cond.code ({ cls := "com/example/varigraph/varigraph/graph/NameIsPinLaw", name := "ch0", desc := "(I)C" } : Jvm.MethodName) method_2_code (1 : Nat) (Option.some Jvm.ClassFile.FieldType.char), Jvm.Cond.code ({ cls := "com/example/varigraph/varigraph/graph/NameIsPinLaw", name := "ch1", desc := "(I)C" } : Jvm.MethodName) method_3_code (1 : Nat) (Option.some Jvm.ClassFile.FieldType.char), Jvm.Cond.code ({ cls := "java/lang/StringUTF16", name := "compress", desc := "([CII)[B" } : Jvm.MethodName) jdk_52_method_16_code (6 : Nat) (Option.some (Jvm.ClassFile.FieldType.array Jvm.ClassFile.FieldType.byte)), Jvm.Cond.code ({ cls := "java/lang/StringUTF16", name := "compress", desc := "([CI[BII)I" } : Jvm.MethodName) jdk_52_method_21_code (7 : Nat) (Option.some Jvm.ClassFile.FieldType.int), Jvm.Cond.code ({ cls := "java/lang/StringUTF16", name := "coderFromArrayLen", desc := "([BI)B" } : Jvm.MethodName) jdk_52_method_15_code (2 : Nat) (Option.some Jvm.ClassFile.FieldType.byte), Jvm.Cond.code ({ cls := "com/example/varigraph/varigraph/graph/Markup$Name", name := "<init>", desc := "(Ljava/lang/String;Ljava/lang/String;Ljava/lang/String;)V" } : Jvm.MethodName) prog_78_method_1_code (4 : Nat) (Option.none : Option Jvm.ClassFile.FieldType), Jvm.Cond.code ({ cls := "java/lang/Record", name := "<init>", desc := "()V" } : Jvm.MethodName) jdk_30_method_1_code (1 : Nat) (Option.none : Option Jvm.ClassFile.FieldType), Jvm.Cond.code ({ cls := "java/util/Objects", name := "requireNonNull", desc := "(Ljava/lang/Object;Ljava/lang/String;)Ljava/lang/Object;" } : Jvm.MethodName) jdk_31_method_11_code (2 : Nat) (Option.some (Jvm.ClassFile.FieldType.object "java/lang/Object")), Jvm.Cond.code ({ cls := "java/lang/String", name := "isEmpty", desc := "()Z" } : Jvm.MethodName) jdk_42_method_55_code (1 : Nat) (Option.some Jvm.ClassFile.FieldType.boolean), Jvm.Cond.code ({ cls := "com/example/varigraph/varigraph/graph/Markup$Name", name := "is", desc := "(Ljava/lang/String;Ljava/lang/String;)Z" } : Jvm.MethodName) prog_78_method_2_code (3 : Nat) (Option.some Jvm.ClassFile.FieldType.boolean), Jvm.Cond.code ({ cls := "java/lang/String", name := "equals", desc := "(Ljava/lang/Object;)Z" } : Jvm.MethodName) jdk_42_method_66_code (3 : Nat) (Option.some Jvm.ClassFile.FieldType.boolean), Jvm.Cond.code ({ cls := "java/lang/StringLatin1", name := "equals", desc := "([B[B)Z" } : Jvm.MethodName) jdk_43_method_13_code (3 : Nat) (Option.some Jvm.ClassFile.FieldType.boolean), Jvm.Cond.code ({ cls := "com/example/varigraph/varigraph/graph/NameIsPinLaw", name := "same", desc := "(IIII)Z" } : Jvm.MethodName) method_5_code (4 : Nat) (Option.some Jvm.ClassFile.FieldType.boolean)]
set_option maxRecDepth 65536 in
theorem codes_eq : words1.filter isCode = codes1 := rfl
theorem w_codes : ∀ c ∈ words1.filter isCode, c.before args0 about1 = true := by
  rw [codes_eq]
  intro c hc
  simp only [codes1, List.mem_cons, List.not_mem_nil, or_false] at hc
  rcases hc with rfl | rfl | rfl | rfl | rfl | rfl | rfl | rfl | rfl | rfl | rfl | rfl | rfl | rfl | rfl | rfl | rfl | rfl
  · exact w_c0
  · exact w_c1
  · exact w_c2
  · exact w_c3
  · exact w_c4
  · exact w_c5
  · exact w_c6
  · exact w_c7
  · exact w_c8
  · exact w_c9
  · exact w_c10
  · exact w_c11
  · exact w_c12
  · exact w_c13
  · exact w_c14
  · exact w_c15
  · exact w_c16
  · exact w_c17
set_option maxRecDepth 65536 in
theorem w_t1 : (words1.take 24).all (fun c => isCode c || c.before args0 about1) = true := by decide +kernel
set_option maxRecDepth 65536 in
theorem w_t2 : ((words1.drop 24).take 24).all (fun c => isCode c || c.before args0 about1) = true := by decide +kernel
set_option maxRecDepth 65536 in
theorem w_t3 : (((words1.drop 24).drop 24).take 24).all (fun c => isCode c || c.before args0 about1) = true := by decide +kernel
set_option maxRecDepth 65536 in
theorem w_t4 : (((words1.drop 24).drop 24).drop 24).all (fun c => isCode c || c.before args0 about1) = true := by decide +kernel
theorem w_tables : (allAtoms (Jvm.Cond.code x code maxLocals ret :: tables_1)).before args0 about1 = true := by
  rw [allAtoms_all]
  show words1.all (fun c => c.before args0 about1) = true
  refine all_split ?_ w_codes
  rw [← List.take_append_drop 24 words1, List.all_append, w_t1, ← List.take_append_drop 24 (words1.drop 24), List.all_append, w_t2, ← List.take_append_drop 24 ((words1.drop 24).drop 24), List.all_append, w_t3, w_t4]
  rfl
set_option maxRecDepth 65536 in
theorem w_rest : rest_1_c.before args0 about1 = true := by decide +kernel
set_option maxRecDepth 65536 in
theorem w_case : (Jvm.Cond.and given_1 narrow_1).before args0 about1 = true := by decide +kernel
set_option maxRecDepth 65536 in
theorem w_consts : constsHeld consts_1 about1 := Jvm.Lit.constsHeldB_iff.mp (by decide +kernel)
theorem w_applies : (headSpec (Jvm.Cond.code x code maxLocals ret :: tables_1) room_1).applies x e0.platform about1 = true :=
  (Spec.applies_iff w_frames).mpr ⟨w_running, w_runnable, w_alone, w_named, w_hears, w_ripe, w_room, w_tables⟩
theorem atStart : AtStart classFile x code maxLocals ret World_1 tables_1 room_1 Calls_1 rest_1 Pre_1 launch0 p0 e0 about1 theMethod args0 below0 :=
  ⟨lists_1, trivial, launch0.admits_env _ _ _, launch0.least_env, fairChoices_fair.cas, fairChoices_fair.clock, w_frames, w_args, w_heap, w_applies, ⟨w_consts, trivial⟩, w_rest, w_case⟩
end start1
theorem witness_1 : WitnessClaimed_1 := ⟨start1.p0, start1.e0, start1.about1, start1.theMethod, start1.args0, start1.below0, start1.atStart⟩
end Jvm.Pilot.@@N@@
