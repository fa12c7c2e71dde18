import JvmDerived
import JvmDerived.Pilot.@@N@@Statement
import JvmDerived.Pilot.@@N@@Code
set_option linter.unusedVariables false
set_option linter.unusedSimpArgs false
namespace Jvm.Pilot.@@N@@
open Jvm Jvm.ClassFile Sem Op Lib Jvm.Free Jvm.Stand Jvm.LawKit Jvm.RoadKit Bundle Jvm.Pilot.@@N@@.Jvm.D
theorem own_nz {args : Array Value} {s : State} {tm : Term} {z : Int32} (ev : tm.eval args s none [] s = some (.int z)) (h : (Jvm.Cond.not (Jvm.Cond.eq tm (Term.int 0))).value args s none s [] = some true) : ¬ z = 0 := by
  have h1 := not_v h
  have e2 : (Term.int 0).eval args s none [] s = some (.int 0) := Term.int_eval 0
  intro q
  subst q
  simp [Jvm.Cond.value, ev, e2] at h1
theorem own_ns {Z : State} {h : Heap} {a : Addr} {C : String} (F : Exa Z h a C) : ∃ c : Cell, h[a]? = some c ∧ c.vm.isStatics = false := by
  obtain ⟨c, k, h1, -, -, h4, -⟩ := F
  exact ⟨c, h1, h4⟩
theorem own_Sta_keep {Z : State} {h h' : Heap} {C n d : String} {v : Value} {ws : List Addr} (F : Sta Z h C n d v) (K : Keep h h' ws) (q : ∀ a ∈ ws, ∃ c : Cell, h[a]? = some c ∧ c.vm.isStatics = false) : Sta Z h' C n d v := by
  obtain ⟨cf, i, k, f, st, cell, h1, h2, h3, h4, h5, h6, h7⟩ := F
  refine ⟨cf, i, k, f, st, cell, h1, h2, h3, h4, K.2.1 st cell h5 (fun z => ?_), h6, h7⟩
  obtain ⟨c, e1, e2⟩ := q st z
  cases h5.symm.trans e1
  rw [e2] at h6
  cases h6
theorem own_fits_nar (t : FieldType) (x : Int32) (ht : t = .boolean ∨ t = .byte ∨ t = .char ∨ t = .short) : fits t (.int (nar t x)) = true := by
  rcases ht with rfl | rfl | rfl | rfl
  · exact fits_nar_bool x
  · exact fits_nar_byte x
  · exact fits_nar_char x
  · exact fits_nar_short x
section Layer
variable {p : Program} {l : Launch} {e : Env} {R : Room} {s : State} {m : MethodId} {args : Array Value} {below : List Frame} {meth : Method} {c : Code} {T : State} {locs : List Loc} {cells slots : Nat}
/-- the walk from σ comes to an end at which K holds -/
def Go (p : Program) (e : Env) (below : List Frame) (K : State → Outcome → Prop) (σ : State) : Prop := ∃ s₂ o, Steps p.tables e below σ s₂ ∧ K s₂ o
theorem Go.st {K : State → Outcome → Prop} {σ σ' : State} (h : ∀ t, Steps p.tables e below σ' t → Steps p.tables e below σ t) (k : Go p e below K σ') : Go p e below K σ := by
  obtain ⟨a, b, c, d⟩ := k
  exact ⟨a, b, h _ c, d⟩
theorem Go.tr {K : State → Outcome → Prop} {σ σ' : State} (h : Steps p.tables e below σ σ') (k : Go p e below K σ') : Go p e below K σ := Go.st (fun _ q => h.trans q) k
/-- what a contract asks of the end -/
def KQ (s : State) (below : List Frame) (Q : Option Value → Heap → List Loc → Prop) (C S : Nat) (s₂ : State) (o : Outcome) : Prop :=
  s₂.status = .running ∧ Ended s₂ below o ∧ ∃ v L, o = .returned v ∧ Q v s₂.heap L ∧ FrameEnd s o s₂ L C S
theorem Go.body {K : State → Outcome → Prop} {σ : State} {g g' : JFrame} (hg : g = g') (k : Go p e below K (T.setTop g')) : Go p e below K (T.setTop g) := hg ▸ k
/-- return of nothing -/
theorem Go.retV {Q : Option Value → Heap → List Loc → Prop} {C S : Nat} (X : Stand p l e R s m args below meth c T locs cells slots) (hx : p.tables.exec = Jvm.exec) (hlk : meth.locks = false) (hret : meth.sig.returnType = none) {pc : Nat} {Ls : Array Slot} (hd : decode c.code pc = .ok (.return_, 1)) (hC : cells ≤ C) (hS : slots ≤ S) (q : Q none T.heap locs) :
    Go p e below (KQ s below Q C S) (T.setTop (mkF m pc Ls [])) := by
  obtain ⟨fs, hr, hrun, hended, hW, hsame⟩ := X.leave (v := none) (fun _ => rfl)
  exact ⟨_, _, X.returnOut hx hret hd hr, hrun, hended, _, _, rfl, q, ⟨_, rfl⟩, hW, hsame.mono hC hS⟩
/-- return of an int -/
theorem Go.retI {Q : Option Value → Heap → List Loc → Prop} {C S : Nat} (X : Stand p l e R s m args below meth c T locs cells slots) (hx : p.tables.exec = Jvm.exec) (hlk : meth.locks = false) (hret : meth.sig.returnType = some .int) {pc : Nat} {Ls : Array Slot} {z : Int32} {rest : List Value} (hd : decode c.code pc = .ok (.ireturn, 1)) (hC : cells ≤ C) (hS : slots ≤ S) (q : Q (some (.int z)) T.heap locs) :
    Go p e below (KQ s below Q C S) (T.setTop (mkF m pc Ls (.int z :: rest))) := by
  obtain ⟨fs, hr, hrun, hended, hW, hsame⟩ := X.leave (v := some (.int z)) (fun h => by rw [hret] at h; cases h)
  exact ⟨_, _, retOut X hx hret rfl (Or.inl ⟨rfl, Or.inl rfl, _, rfl⟩) hd hr, hrun, hended, _, _, rfl, q, ⟨_, rfl⟩, hW, hsame.mono hC hS⟩
/-- return of a boolean, byte, char or short -/
theorem Go.retN {Q : Option Value → Heap → List Loc → Prop} {C S : Nat} (X : Stand p l e R s m args below meth c T locs cells slots) (hx : p.tables.exec = Jvm.exec) (hlk : meth.locks = false) {t : FieldType} (hret : meth.sig.returnType = some t) (ht : t = .boolean ∨ t = .byte ∨ t = .char ∨ t = .short) {pc : Nat} {Ls : Array Slot} {z : Int32} {rest : List Value} (hd : decode c.code pc = .ok (.ireturn, 1)) (hC : cells ≤ C) (hS : slots ≤ S) (q : Q (some (.int (nar t z))) T.heap locs) :
    Go p e below (KQ s below Q C S) (T.setTop (mkF m pc Ls (.int z :: rest))) := by
  obtain ⟨fs, hr, hrun, hended, hW, hsame⟩ := X.leave (v := some (.int (nar t z))) (fun h => by rw [hret] at h; cases h)
  exact ⟨_, _, RoadKit.retN X hx hret ht hd hr, hrun, hended, _, _, rfl, q, ⟨_, rfl⟩, hW, hsame.mono hC hS⟩
/-- return of a reference -/
theorem Go.retA {Q : Option Value → Heap → List Loc → Prop} {C S : Nat} (X : Stand p l e R s m args below meth c T locs cells slots) (hx : p.tables.exec = Jvm.exec) (hlk : meth.locks = false) {t : FieldType} (hret : meth.sig.returnType = some t) (ht : t.isReference = true) {pc : Nat} {Ls : Array Slot} {w : Value} (hw : w.isRef = true) {rest : List Value} (hd : decode c.code pc = .ok (.areturn, 1)) (hC : cells ≤ C) (hS : slots ≤ S) (q : Q (some w) T.heap locs) :
    Go p e below (KQ s below Q C S) (T.setTop (mkF m pc Ls (w :: rest))) := by
  obtain ⟨fs, hr, hrun, hended, hW, hsame⟩ := X.leave (v := some w) (fun h => by rw [hret] at h; cases h)
  exact ⟨_, _, retOut X hx hret (by cases t <;> cases w <;> simp_all [narrow, Value.isRef, FieldType.isReference]) (Or.inr (Or.inr (Or.inr (Or.inr ⟨rfl, ht, hw⟩)))) hd hr, hrun, hended, _, _, rfl, q, ⟨_, rfl⟩, hW, hsame.mono hC hS⟩
/-- return of a long -/
theorem Go.retJ {Q : Option Value → Heap → List Loc → Prop} {C S : Nat} (X : Stand p l e R s m args below meth c T locs cells slots) (hx : p.tables.exec = Jvm.exec) (hlk : meth.locks = false) (hret : meth.sig.returnType = some .long) {pc : Nat} {Ls : Array Slot} {z : Int64} {rest : List Value} (hd : decode c.code pc = .ok (.lreturn, 1)) (hC : cells ≤ C) (hS : slots ≤ S) (q : Q (some (.long z)) T.heap locs) :
    Go p e below (KQ s below Q C S) (T.setTop (mkF m pc Ls (.long z :: rest))) := by
  obtain ⟨fs, hr, hrun, hended, hW, hsame⟩ := X.leave (v := some (.long z)) (fun h => by rw [hret] at h; cases h)
  exact ⟨_, _, retOut X hx hret rfl (Or.inr (Or.inl ⟨rfl, rfl, _, rfl⟩)) hd hr, hrun, hended, _, _, rfl, q, ⟨_, rfl⟩, hW, hsame.mono hC hS⟩
/-- return of a double -/
theorem Go.retD {Q : Option Value → Heap → List Loc → Prop} {C S : Nat} (X : Stand p l e R s m args below meth c T locs cells slots) (hx : p.tables.exec = Jvm.exec) (hlk : meth.locks = false) (hret : meth.sig.returnType = some .double) {pc : Nat} {Ls : Array Slot} {z : UInt64} {rest : List Value} (hd : decode c.code pc = .ok (.dreturn, 1)) (hC : cells ≤ C) (hS : slots ≤ S) (q : Q (some (.double z)) T.heap locs) :
    Go p e below (KQ s below Q C S) (T.setTop (mkF m pc Ls (.double z :: rest))) := by
  obtain ⟨fs, hr, hrun, hended, hW, hsame⟩ := X.leave (v := some (.double z)) (fun h => by rw [hret] at h; cases h)
  exact ⟨_, _, retOut X hx hret rfl (Or.inr (Or.inr (Or.inl ⟨rfl, rfl, _, rfl⟩))) hd hr, hrun, hended, _, _, rfl, q, ⟨_, rfl⟩, hW, hsame.mono hC hS⟩
theorem g_iloadN {K : State → Outcome → Prop} (X : Stand p l e R s m args below meth c T locs cells slots) (hx : p.tables.exec = Jvm.exec) {pc : Nat} {L : Array Slot} {S : List Value} {k : Fin 4} {v : Int32} (hd : decode c.code pc = .ok (.iload_n k, 1)) (pc' : Nat) (hp : pc + 1 = pc') (hl : L[k.val]? = some (.val (.int v))) (r : Go p e below K (T.setTop (mkF m pc' L (.int v :: S)))) : Go p e below K (T.setTop (mkF m pc L S)) := by
  subst hp
  exact Go.st (fun _ => XS.iloadN X.here hx rfl hd hl) r
theorem g_iload {K : State → Outcome → Prop} (X : Stand p l e R s m args below meth c T locs cells slots) (hx : p.tables.exec = Jvm.exec) {pc : Nat} {L : Array Slot} {S : List Value} {k : Nat} {v : Int32} (hd : decode c.code pc = .ok (.iload k, 2)) (pc' : Nat) (hp : pc + 2 = pc') (hl : L[k]? = some (.val (.int v))) (r : Go p e below K (T.setTop (mkF m pc' L (.int v :: S)))) : Go p e below K (T.setTop (mkF m pc L S)) := by
  subst hp
  exact Go.st (fun _ => XS.iload X.here hx rfl hd hl) r
theorem g_aloadN {K : State → Outcome → Prop} (X : Stand p l e R s m args below meth c T locs cells slots) (hx : p.tables.exec = Jvm.exec) {pc : Nat} {L : Array Slot} {S : List Value} {k : Fin 4} {v : Value} (hd : decode c.code pc = .ok (.aload_n k, 1)) (pc' : Nat) (hp : pc + 1 = pc') (hl : L[k.val]? = some (.val v)) (hv : v.isRef = true) (r : Go p e below K (T.setTop (mkF m pc' L (v :: S)))) : Go p e below K (T.setTop (mkF m pc L S)) := by
  subst hp
  exact Go.st (fun _ => XS.aloadN X.here hx rfl hd hl hv) r
theorem g_aload {K : State → Outcome → Prop} (X : Stand p l e R s m args below meth c T locs cells slots) (hx : p.tables.exec = Jvm.exec) {pc : Nat} {L : Array Slot} {S : List Value} {k : Nat} {v : Value} (hd : decode c.code pc = .ok (.aload k, 2)) (pc' : Nat) (hp : pc + 2 = pc') (hl : L[k]? = some (.val v)) (hv : v.isRef = true) (r : Go p e below K (T.setTop (mkF m pc' L (v :: S)))) : Go p e below K (T.setTop (mkF m pc L S)) := by
  subst hp
  exact Go.st (fun _ => XS.aload X.here hx rfl hd hl hv) r
theorem g_istore {K : State → Outcome → Prop} (X : Stand p l e R s m args below meth c T locs cells slots) (hx : p.tables.exec = Jvm.exec) {pc : Nat} {L : Array Slot} {S : List Value} {k : Nat} {v : Int32} (hd : decode c.code pc = .ok (.istore k, 2)) (pc' : Nat) (hp : pc + 2 = pc') (L' : Array Slot) (hl : storeLocals L k (.int v) = some L') (r : Go p e below K (T.setTop (mkF m pc' L' S))) : Go p e below K (T.setTop (mkF m pc L (.int v :: S))) := by
  subst hp
  exact Go.st (fun _ => XS.istore X.here hx rfl hd rfl hl) r
theorem g_astoreN {K : State → Outcome → Prop} (X : Stand p l e R s m args below meth c T locs cells slots) (hx : p.tables.exec = Jvm.exec) {pc : Nat} {L : Array Slot} {S : List Value} {k : Fin 4} {v : Value} (hd : decode c.code pc = .ok (.astore_n k, 1)) (pc' : Nat) (hp : pc + 1 = pc') (hv : v.isRef = true) (L' : Array Slot) (hl : storeLocals L k.val v = some L') (r : Go p e below K (T.setTop (mkF m pc' L' S))) : Go p e below K (T.setTop (mkF m pc L (v :: S))) := by
  subst hp
  exact Go.st (fun _ => XS.astoreN X.here hx rfl hd rfl hv hl) r
theorem g_astore {K : State → Outcome → Prop} (X : Stand p l e R s m args below meth c T locs cells slots) (hx : p.tables.exec = Jvm.exec) {pc : Nat} {L : Array Slot} {S : List Value} {k : Nat} {v : Value} (hd : decode c.code pc = .ok (.astore k, 2)) (pc' : Nat) (hp : pc + 2 = pc') (hv : v.isRef = true) (L' : Array Slot) (hl : storeLocals L k v = some L') (r : Go p e below K (T.setTop (mkF m pc' L' S))) : Go p e below K (T.setTop (mkF m pc L (v :: S))) := by
  subst hp
  exact Go.st (fun _ => XS.astore X.here hx rfl hd rfl hv hl) r
theorem g_iconst {K : State → Outcome → Prop} (X : Stand p l e R s m args below meth c T locs cells slots) (hx : p.tables.exec = Jvm.exec) {pc : Nat} {L : Array Slot} {S : List Value} {i : Int} (hd : decode c.code pc = .ok (.iconst i, 1)) (pc' : Nat) (hp : pc + 1 = pc') (z : Int32) (hz : Int32.ofInt i = z) (r : Go p e below K (T.setTop (mkF m pc' L (.int z :: S)))) : Go p e below K (T.setTop (mkF m pc L S)) := by
  subst hp; subst hz
  exact Go.st (fun _ => XS.iconst X.here hx rfl hd) r
theorem g_bipush {K : State → Outcome → Prop} (X : Stand p l e R s m args below meth c T locs cells slots) (hx : p.tables.exec = Jvm.exec) {pc : Nat} {L : Array Slot} {S : List Value} {i : Int} (hd : decode c.code pc = .ok (.bipush i, 2)) (pc' : Nat) (hp : pc + 2 = pc') (z : Int32) (hz : (Int8.ofInt i).toInt32 = z) (r : Go p e below K (T.setTop (mkF m pc' L (.int z :: S)))) : Go p e below K (T.setTop (mkF m pc L S)) := by
  subst hp; subst hz
  exact Go.st (fun _ => XS.bipush X.here hx rfl hd) r
theorem g_sipush {K : State → Outcome → Prop} (X : Stand p l e R s m args below meth c T locs cells slots) (hx : p.tables.exec = Jvm.exec) {pc : Nat} {L : Array Slot} {S : List Value} {i : Int} (hd : decode c.code pc = .ok (.sipush i, 3)) (pc' : Nat) (hp : pc + 3 = pc') (z : Int32) (hz : (Int16.ofInt i).toInt32 = z) (r : Go p e below K (T.setTop (mkF m pc' L (.int z :: S)))) : Go p e below K (T.setTop (mkF m pc L S)) := by
  subst hp; subst hz
  exact Go.st (fun _ => XS.sipush X.here hx rfl hd) r
theorem g_null {K : State → Outcome → Prop} (X : Stand p l e R s m args below meth c T locs cells slots) (hx : p.tables.exec = Jvm.exec) {pc : Nat} {L : Array Slot} {S : List Value} (hd : decode c.code pc = .ok (.aconst_null, 1)) (pc' : Nat) (hp : pc + 1 = pc') (r : Go p e below K (T.setTop (mkF m pc' L (.null :: S)))) : Go p e below K (T.setTop (mkF m pc L S)) := by
  subst hp
  exact Go.st (fun _ => XS.aconstNull X.here hx rfl hd) r
theorem g_isub {K : State → Outcome → Prop} (X : Stand p l e R s m args below meth c T locs cells slots) (hx : p.tables.exec = Jvm.exec) {pc : Nat} {L : Array Slot} {S : List Value} {x y : Int32} (hd : decode c.code pc = .ok (.isub, 1)) (pc' : Nat) (hp : pc + 1 = pc') (z : Int32) (hz : x - y = z) (r : Go p e below K (T.setTop (mkF m pc' L (.int z :: S)))) : Go p e below K (T.setTop (mkF m pc L (.int y :: .int x :: S))) := by
  subst hp; subst hz
  exact Go.st (fun _ => XS.isub X.here hx rfl hd rfl) r
theorem g_iand {K : State → Outcome → Prop} (X : Stand p l e R s m args below meth c T locs cells slots) (hx : p.tables.exec = Jvm.exec) {pc : Nat} {L : Array Slot} {S : List Value} {x y : Int32} (hd : decode c.code pc = .ok (.iand, 1)) (pc' : Nat) (hp : pc + 1 = pc') (z : Int32) (hz : x &&& y = z) (r : Go p e below K (T.setTop (mkF m pc' L (.int z :: S)))) : Go p e below K (T.setTop (mkF m pc L (.int y :: .int x :: S))) := by
  subst hp; subst hz
  exact Go.st (fun _ => XS.iand X.here hx rfl hd rfl) r
theorem g_iushr {K : State → Outcome → Prop} (X : Stand p l e R s m args below meth c T locs cells slots) (hx : p.tables.exec = Jvm.exec) {pc : Nat} {L : Array Slot} {S : List Value} {x y : Int32} (hd : decode c.code pc = .ok (.iushr, 1)) (pc' : Nat) (hp : pc + 1 = pc') (z : Int32) (hz : XT.ushr x y = z) (r : Go p e below K (T.setTop (mkF m pc' L (.int z :: S)))) : Go p e below K (T.setTop (mkF m pc L (.int y :: .int x :: S))) := by
  subst hp; subst hz
  exact Go.st (fun _ => XT.iushr X.here hx rfl hd rfl) r
theorem g_i2b {K : State → Outcome → Prop} (X : Stand p l e R s m args below meth c T locs cells slots) (hx : p.tables.exec = Jvm.exec) {pc : Nat} {L : Array Slot} {S : List Value} {x : Int32} (hd : decode c.code pc = .ok (.i2b, 1)) (pc' : Nat) (hp : pc + 1 = pc') (z : Int32) (hz : x.toInt8.toInt32 = z) (r : Go p e below K (T.setTop (mkF m pc' L (.int z :: S)))) : Go p e below K (T.setTop (mkF m pc L (.int x :: S))) := by
  subst hp; subst hz
  exact Go.st (fun _ => XT.i2b X.here hx rfl hd rfl) r
theorem g_i2c {K : State → Outcome → Prop} (X : Stand p l e R s m args below meth c T locs cells slots) (hx : p.tables.exec = Jvm.exec) {pc : Nat} {L : Array Slot} {S : List Value} {x : Int32} (hd : decode c.code pc = .ok (.i2c, 1)) (pc' : Nat) (hp : pc + 1 = pc') (z : Int32) (hz : x.toUInt32.toUInt16.toUInt32.toInt32 = z) (r : Go p e below K (T.setTop (mkF m pc' L (.int z :: S)))) : Go p e below K (T.setTop (mkF m pc L (.int x :: S))) := by
  subst hp; subst hz
  exact Go.st (fun _ => XT.i2c X.here hx rfl hd rfl) r
theorem g_iinc {K : State → Outcome → Prop} (X : Stand p l e R s m args below meth c T locs cells slots) (hx : p.tables.exec = Jvm.exec) {pc : Nat} {L : Array Slot} {S : List Value} {k : Nat} {i : Int} {x : Int32} (hd : decode c.code pc = .ok (.iinc k i, 3)) (pc' : Nat) (hp : pc + 3 = pc') (hl : L[k]? = some (.val (.int x))) (z : Int32) (hz : x + Int32.ofInt i = z) (L' : Array Slot) (hl' : storeLocals L k (.int z) = some L') (r : Go p e below K (T.setTop (mkF m pc' L' S))) : Go p e below K (T.setTop (mkF m pc L S)) := by
  subst hp; subst hz
  exact Go.st (fun _ => XS.iinc X.here hx rfl hd hl hl') r
theorem g_dup {K : State → Outcome → Prop} (X : Stand p l e R s m args below meth c T locs cells slots) (hx : p.tables.exec = Jvm.exec) {pc : Nat} {L : Array Slot} {S : List Value} {x : Value} (hd : decode c.code pc = .ok (.dup, 1)) (pc' : Nat) (hp : pc + 1 = pc') (hc : x.category = 1) (r : Go p e below K (T.setTop (mkF m pc' L (x :: x :: S)))) : Go p e below K (T.setTop (mkF m pc L (x :: S))) := by
  subst hp
  exact Go.st (fun _ => XS.dup X.here hx rfl hd rfl hc) r
theorem g_goto {K : State → Outcome → Prop} (X : Stand p l e R s m args below meth c T locs cells slots) (hx : p.tables.exec = Jvm.exec) {pc : Nat} {L : Array Slot} {S : List Value} {o : Int} (hd : decode c.code pc = .ok (.goto o, 3)) (pc' : Nat) (h0 : 0 ≤ (pc : Int) + o) (hp : ((pc : Int) + o).toNat = pc') (r : Go p e below K (T.setTop (mkF m pc' L S))) : Go p e below K (T.setTop (mkF m pc L S)) :=
  Go.st (fun _ => XS.goto X.here hx rfl (pc0 := pc) rfl hd h0 hp) r
theorem g_icmp {K : State → Outcome → Prop} (X : Stand p l e R s m args below meth c T locs cells slots) (hx : p.tables.exec = Jvm.exec) {pc : Nat} {L : Array Slot} {S : List Value} {cd : ClassFile.Cond} {o : Int} {x y : Int32} (hd : decode c.code pc = .ok (.if_icmp cd o, 3)) (pc1 pc2 : Nat) (h0 : 0 ≤ (pc : Int) + o) (h1 : ((pc : Int) + o).toNat = pc1) (h2 : pc + 3 = pc2) (yes : if_icmp.holds cd x y = true → Go p e below K (T.setTop (mkF m pc1 L S))) (no : if_icmp.holds cd x y = false → Go p e below K (T.setTop (mkF m pc2 L S))) : Go p e below K (T.setTop (mkF m pc L (.int y :: .int x :: S))) := by
  subst h2
  cases hc : if_icmp.holds cd x y with
  | true => exact Go.st (fun _ => XS.icmpYes X.here hx rfl (pc0 := pc) rfl hd rfl hc h0 h1) (yes hc)
  | false => exact Go.st (fun _ => XS.icmpNo X.here hx rfl hd rfl hc) (no hc)
theorem g_if {K : State → Outcome → Prop} (X : Stand p l e R s m args below meth c T locs cells slots) (hx : p.tables.exec = Jvm.exec) {pc : Nat} {L : Array Slot} {S : List Value} {cd : ClassFile.Cond} {o : Int} {x : Int32} (hd : decode c.code pc = .ok (.ifCond cd o, 3)) (pc1 pc2 : Nat) (h0 : 0 ≤ (pc : Int) + o) (h1 : ((pc : Int) + o).toNat = pc1) (h2 : pc + 3 = pc2) (yes : if_icmp.holds cd x 0 = true → Go p e below K (T.setTop (mkF m pc1 L S))) (no : if_icmp.holds cd x 0 = false → Go p e below K (T.setTop (mkF m pc2 L S))) : Go p e below K (T.setTop (mkF m pc L (.int x :: S))) := by
  subst h2
  cases hc : if_icmp.holds cd x 0 with
  | true => exact Go.st (fun _ => XS.ifYes X.here hx rfl (pc0 := pc) rfl hd rfl ((if0 cd x).trans hc) h0 h1) (yes hc)
  | false => exact Go.st (fun _ => XS.ifNo X.here hx rfl hd rfl ((if0 cd x).trans hc)) (no hc)
theorem g_icmp_eq {K : State → Outcome → Prop} (X : Stand p l e R s m args below meth c T locs cells slots) (hx : p.tables.exec = Jvm.exec) {pc : Nat} {L : Array Slot} {S : List Value} {o : Int} {x y : Int32} (hd : decode c.code pc = .ok (.if_icmp .eq o, 3)) (pc1 pc2 : Nat) (h0 : 0 ≤ (pc : Int) + o) (h1 : ((pc : Int) + o).toNat = pc1) (h2 : pc + 3 = pc2) (yes : x = y → Go p e below K (T.setTop (mkF m pc1 L S))) (no : ¬ x = y → Go p e below K (T.setTop (mkF m pc2 L S))) : Go p e below K (T.setTop (mkF m pc L (.int y :: .int x :: S))) := by
  refine g_icmp X hx hd pc1 pc2 h0 h1 h2 (fun hc => ?_) (fun hc => ?_)
  · by_cases q : x = y
    · exact yes q
    · rw [(feq q).1] at hc; cases hc
  · by_cases q : x = y
    · rw [(teq q).1] at hc; cases hc
    · exact no q
theorem g_if_eq {K : State → Outcome → Prop} (X : Stand p l e R s m args below meth c T locs cells slots) (hx : p.tables.exec = Jvm.exec) {pc : Nat} {L : Array Slot} {S : List Value} {o : Int} {x : Int32} (hd : decode c.code pc = .ok (.ifCond .eq o, 3)) (pc1 pc2 : Nat) (h0 : 0 ≤ (pc : Int) + o) (h1 : ((pc : Int) + o).toNat = pc1) (h2 : pc + 3 = pc2) (yes : x = (0 : Int32) → Go p e below K (T.setTop (mkF m pc1 L S))) (no : ¬ x = (0 : Int32) → Go p e below K (T.setTop (mkF m pc2 L S))) : Go p e below K (T.setTop (mkF m pc L (.int x :: S))) := by
  refine g_if X hx hd pc1 pc2 h0 h1 h2 (fun hc => ?_) (fun hc => ?_)
  · by_cases q : x = (0 : Int32)
    · exact yes q
    · rw [(feq q).1] at hc; cases hc
  · by_cases q : x = (0 : Int32)
    · rw [(teq q).1] at hc; cases hc
    · exact no q
theorem g_icmp_ne {K : State → Outcome → Prop} (X : Stand p l e R s m args below meth c T locs cells slots) (hx : p.tables.exec = Jvm.exec) {pc : Nat} {L : Array Slot} {S : List Value} {o : Int} {x y : Int32} (hd : decode c.code pc = .ok (.if_icmp .ne o, 3)) (pc1 pc2 : Nat) (h0 : 0 ≤ (pc : Int) + o) (h1 : ((pc : Int) + o).toNat = pc1) (h2 : pc + 3 = pc2) (yes : ¬ x = y → Go p e below K (T.setTop (mkF m pc1 L S))) (no : x = y → Go p e below K (T.setTop (mkF m pc2 L S))) : Go p e below K (T.setTop (mkF m pc L (.int y :: .int x :: S))) := by
  refine g_icmp X hx hd pc1 pc2 h0 h1 h2 (fun hc => ?_) (fun hc => ?_)
  · by_cases q : x = y
    · rw [(teq q).2] at hc; cases hc
    · exact yes q
  · by_cases q : x = y
    · exact no q
    · rw [(feq q).2] at hc; cases hc
theorem g_if_ne {K : State → Outcome → Prop} (X : Stand p l e R s m args below meth c T locs cells slots) (hx : p.tables.exec = Jvm.exec) {pc : Nat} {L : Array Slot} {S : List Value} {o : Int} {x : Int32} (hd : decode c.code pc = .ok (.ifCond .ne o, 3)) (pc1 pc2 : Nat) (h0 : 0 ≤ (pc : Int) + o) (h1 : ((pc : Int) + o).toNat = pc1) (h2 : pc + 3 = pc2) (yes : ¬ x = (0 : Int32) → Go p e below K (T.setTop (mkF m pc1 L S))) (no : x = (0 : Int32) → Go p e below K (T.setTop (mkF m pc2 L S))) : Go p e below K (T.setTop (mkF m pc L (.int x :: S))) := by
  refine g_if X hx hd pc1 pc2 h0 h1 h2 (fun hc => ?_) (fun hc => ?_)
  · by_cases q : x = (0 : Int32)
    · rw [(teq q).2] at hc; cases hc
    · exact yes q
  · by_cases q : x = (0 : Int32)
    · exact no q
    · rw [(feq q).2] at hc; cases hc
theorem g_icmp_ge {K : State → Outcome → Prop} (X : Stand p l e R s m args below meth c T locs cells slots) (hx : p.tables.exec = Jvm.exec) {pc : Nat} {L : Array Slot} {S : List Value} {o : Int} {x y : Int32} (hd : decode c.code pc = .ok (.if_icmp .ge o, 3)) (pc1 pc2 : Nat) (h0 : 0 ≤ (pc : Int) + o) (h1 : ((pc : Int) + o).toNat = pc1) (h2 : pc + 3 = pc2) (yes : ¬ x < y → Go p e below K (T.setTop (mkF m pc1 L S))) (no : x < y → Go p e below K (T.setTop (mkF m pc2 L S))) : Go p e below K (T.setTop (mkF m pc L (.int y :: .int x :: S))) := by
  refine g_icmp X hx hd pc1 pc2 h0 h1 h2 (fun hc => ?_) (fun hc => ?_)
  · by_cases q : x < y
    · rw [(tlt q).2.1] at hc; cases hc
    · exact yes q
  · by_cases q : x < y
    · exact no q
    · rw [(flt q).2.1] at hc; cases hc
theorem g_icmp_le {K : State → Outcome → Prop} (X : Stand p l e R s m args below meth c T locs cells slots) (hx : p.tables.exec = Jvm.exec) {pc : Nat} {L : Array Slot} {S : List Value} {o : Int} {x y : Int32} (hd : decode c.code pc = .ok (.if_icmp .le o, 3)) (pc1 pc2 : Nat) (h0 : 0 ≤ (pc : Int) + o) (h1 : ((pc : Int) + o).toNat = pc1) (h2 : pc + 3 = pc2) (yes : ¬ y < x → Go p e below K (T.setTop (mkF m pc1 L S))) (no : y < x → Go p e below K (T.setTop (mkF m pc2 L S))) : Go p e below K (T.setTop (mkF m pc L (.int y :: .int x :: S))) := by
  refine g_icmp X hx hd pc1 pc2 h0 h1 h2 (fun hc => ?_) (fun hc => ?_)
  · by_cases q : y < x
    · rw [(tlt q).2.2.2] at hc; cases hc
    · exact yes q
  · by_cases q : y < x
    · exact no q
    · rw [(flt q).2.2.2] at hc; cases hc
theorem g_alen {K : State → Outcome → Prop} {Z : State} {h : Heap} {a : Addr} {k : ClassId} {ty : FieldType} {z : Int32} {vs : List Value} {dv : Value} (X : Stand p l e R s m args below meth c T locs cells slots) (hx : p.tables.exec = Jvm.exec) {pc : Nat} {L : Array Slot} {S : List Value} (hd : decode c.code pc = .ok (.arraylength, 1)) (pc' : Nat) (hp : pc + 1 = pc') (hZ : Z.Warmed39 s.vm) (eT : T.heap = h) (F : Arv Z h a k ty z vs dv) (r : Go p e below K (T.setTop (mkF m pc' L (.int z :: S)))) : Go p e below K (T.setTop (mkF m pc L (.ref a :: S))) := by
  subst hp
  obtain ⟨cl, A, r1, r2, r3, Hh, Gg⟩ := F
  refine Go.st (X.arraylength hx (by rw [eT]; exact A.1) (State.isArrayOf_alike hZ.alike A.2.1) (g := mkF m pc L (.ref a :: S)) rfl rfl hd) ?_
  rw [len_of r2 r3]
  exact r
theorem g_caload {K : State → Outcome → Prop} {Z : State} {h : Heap} {a : Addr} {k : ClassId} {z : Int32} {vs : List Value} {dv : Value} (X : Stand p l e R s m args below meth c T locs cells slots) (hx : p.tables.exec = Jvm.exec) {pc : Nat} {L : Array Slot} {S : List Value} {j : Int32} (hd : decode c.code pc = .ok (.caload, 1)) (pc' : Nat) (hp : pc + 1 = pc') (hZ : Z.Warmed39 s.vm) (eT : T.heap = h) (F : Arv Z h a k .char z vs dv) (q : ¬ j < 0 ∧ j < z) (v : Value) (u : vs.getD j.toNatClampNeg dv = v) (r : Go p e below K (T.setTop (mkF m pc' L (v :: S)))) : Go p e below K (T.setTop (mkF m pc L (.int j :: .ref a :: S))) := by
  subst hp
  obtain ⟨cl, A, r1, r2, r3, Hh, Gg⟩ := F
  exact Go.st (X.caload hx (by rw [eT]; exact A.1) (State.isArrayOf_alike hZ.alike A.2.1) A.2.2 (inb_of r2 q) (Hh.at (inb_of r2 q) u) (g := mkF m pc L (.int j :: .ref a :: S)) rfl rfl hd) r
theorem g_bastore {Z : State} {h : Heap} {a : Addr} {k : ClassId} {z : Int32} {vs : List Value} {dv : Value} (X : Stand p l e R s m args below meth c T locs cells slots) (hx : p.tables.exec = Jvm.exec) {pc : Nat} {L : Array Slot} {S : List Value} {j : Int32} {x : Int32} (hd : decode c.code pc = .ok (.bastore, 1)) (hZ : Z.Warmed39 s.vm) (eT : T.heap = h) (F : Arv Z h a k .byte z vs dv) (q : ¬ j < 0 ∧ j < z) {i : Nat} (hj : j.toNatClampNeg = i) (hi : i < vs.length) :
    ∃ T' h', Stand p l e R s m args below meth c T' (locs ++ [⟨a, j.toNatClampNeg⟩]) cells slots ∧ T'.heap = h' ∧ Wr h h' a j.toNatClampNeg (.int (nar .byte x)) ∧ Arv Z h' a k .byte z (vs.set i (.int (nar .byte x))) dv ∧ ∀ target, Steps p.tables e below (T'.setTop (mkF m (pc + 1) L S)) target → Steps p.tables e below (T.setTop (mkF m pc L (.int x :: .int j :: .ref a :: S))) target := by
  obtain ⟨cl, A, r1, r2, r3, Hh, Gg⟩ := F
  obtain ⟨T', h', X', e', W', st⟩ := stB X hx hZ eT A (inb_of r2 q) (g := mkF m pc L (.int x :: .int j :: .ref a :: S)) rfl rfl hd
  exact ⟨T', h', X', e', W', Arv.set A r1 r2 r3 Hh Gg (own_fits_nar .byte x (by simp)) W' i hj hi, st⟩
theorem g_castore {Z : State} {h : Heap} {a : Addr} {k : ClassId} {z : Int32} {vs : List Value} {dv : Value} (X : Stand p l e R s m args below meth c T locs cells slots) (hx : p.tables.exec = Jvm.exec) {pc : Nat} {L : Array Slot} {S : List Value} {j : Int32} {x : Int32} (hd : decode c.code pc = .ok (.castore, 1)) (hZ : Z.Warmed39 s.vm) (eT : T.heap = h) (F : Arv Z h a k .char z vs dv) (q : ¬ j < 0 ∧ j < z) {i : Nat} (hj : j.toNatClampNeg = i) (hi : i < vs.length) :
    ∃ T' h', Stand p l e R s m args below meth c T' (locs ++ [⟨a, j.toNatClampNeg⟩]) cells slots ∧ T'.heap = h' ∧ Wr h h' a j.toNatClampNeg (.int (nar .char x)) ∧ Arv Z h' a k .char z (vs.set i (.int (nar .char x))) dv ∧ ∀ target, Steps p.tables e below (T'.setTop (mkF m (pc + 1) L S)) target → Steps p.tables e below (T.setTop (mkF m pc L (.int x :: .int j :: .ref a :: S))) target := by
  obtain ⟨cl, A, r1, r2, r3, Hh, Gg⟩ := F
  obtain ⟨T', h', X', e', W', st⟩ := stC X hx hZ eT A (inb_of r2 q) (g := mkF m pc L (.int x :: .int j :: .ref a :: S)) rfl rfl hd
  exact ⟨T', h', X', e', W', Arv.set A r1 r2 r3 Hh Gg (own_fits_nar .char x (by simp)) W' i hj hi, st⟩
end Layer
theorem own_i2b (x : Int32) : nar .byte x.toInt8.toInt32 = x.toInt8.toInt32 := by
  show x.toInt8.toInt32.toInt8.toInt32 = x.toInt8.toInt32
  rw [Int8.toInt8_toInt32]
theorem own_ch (x : Int32) : ¬ (255 : Int32) < (x &&& (255 : Int32)).toUInt32.toUInt16.toUInt32.toInt32 := by
  have h1 := c_and x (255 : Int32) (by decide)
  have h2 := c_i2c (x &&& (255 : Int32))
  have e1 : (255 : Int32).toInt = 255 := by decide
  rw [Int32.lt_iff_toInt_lt, e1]
  omega
theorem own_nc2 {x y : Int32} (e : y.toUInt32.toUInt16.toUInt32.toInt32 = x) : nar .char x = x := by
  subst e
  show y.toUInt32.toUInt16.toUInt32.toInt32.toUInt32.toUInt16.toUInt32.toInt32 = y.toUInt32.toUInt16.toUInt32.toInt32
  have h1 := c_i2c y
  have h2 := c_i2c y.toUInt32.toUInt16.toUInt32.toInt32
  rw [← Int32.toInt_inj]
  omega
theorem own_nch {z y : Int32} (e : y.toUInt32.toUInt16.toUInt32.toInt32 = z) : narrow .char (.int z) = .int z ∧ fits .char (.int z) = true := by
  have h := own_nc2 e
  constructor
  · show Value.int (nar .char z) = .int z
    rw [h]
  · rw [← h]; exact fits_nar_char z

def own_EL : List (String × Nat) := [("java/lang/String", 7)]
theorem own_EW {Z : State} {a0 : Array Value} (hw : ∀ d ∈ tables_1, d.before a0 Z = true) : EW Z a0 own_EL := (EW.cons (hw _ (List.mem_of_getElem? (i := 14) rfl)) (by decide) EW.nil)
theorem own_wS {Z : State} {a0 : Array Value} (hw : ∀ d ∈ tables_1, d.before a0 Z = true) : ∀ a ∈ Bundle.stringAtoms, a.before a0 Z = true := fun d hd => by
  simp only [Bundle.stringAtoms, List.mem_cons, List.not_mem_nil, or_false] at hd
  rcases hd with rfl | rfl | rfl | rfl | rfl | rfl | rfl
  · exact (hw _ (List.mem_of_getElem? (i := 3) rfl))
  · exact (hw _ (List.mem_of_getElem? (i := 2) rfl))
  · exact (hw _ (List.mem_of_getElem? (i := 15) rfl))
  · exact (hw _ (List.mem_of_getElem? (i := 16) rfl))
  · exact (hw _ (List.mem_of_getElem? (i := 17) rfl))
  · exact (hw _ (List.mem_of_getElem? (i := 18) rfl))
  · exact (hw _ (List.mem_of_getElem? (i := 19) rfl))
theorem own_SafeArv {Z : State} {EL : List (String × Nat)} {vm : Vm} {h : Heap} {a : Addr} {k : ClassId} {ty : FieldType} {z : Int32} {vs : List Value} {dv : Value} (hal : Z.vm.Alike vm) (F : Arv Z h a k ty z vs dv) (ht : ty ≠ .byte) : Safe Z EL vm h a := by
  obtain ⟨cl, A, -⟩ := F
  exact Safe.arr hal A ht
/-- a String whose field value is null is no booked one -/
theorem own_SafeNull {Z : State} {EL : List (String × Nat)} {vm : Vm} {h : Heap} {x : Addr} (hal : Z.vm.Alike vm) (E : Exa Z h x "java/lang/String") (F0 : Fld Z h x "java/lang/String" "value" "[B" .null) : Safe Z EL vm h x := fun B => by
  obtain ⟨p, -, u, a, -, q, -, F, rfl | rfl⟩ := B
  · obtain ⟨cell, cf, k, i, f, h1, h2, -, -, -, -, h7⟩ := F0
    cases (show h[q.sa]? = some q.sC from F.ha).symm.trans h1
    obtain ⟨cS, ⟨⟨-, -, -, ⟨cv, kv, iv, s4, -⟩, -, -, -, s8, -⟩, -⟩, -⟩ := F
    obtain ⟨kv', z4⟩ := ff_back (U := Wst Z vm h) hal s4
    have e4 := z4.symm.trans h2
    simp only [Option.some.injEq, Prod.mk.injEq] at e4
    rw [← e4.2.2.2, s8] at h7
    cases h7
  · obtain ⟨cell, k, e1, e2, e3, -, -⟩ := E
    cases (show h[q.sd]? = some q.SA from F.hd).symm.trans e1
    obtain ⟨cS, -, -, f, -⟩ := F
    have f' : Z.vm.findClass "[B" = some q.SA.cls := by rw [← hal.findClass]; exact f
    obtain ⟨k1, q1, q2⟩ := Vm.findClass_spec f'
    obtain ⟨k2, q3, q4⟩ := Vm.findClass_spec e2
    cases q1.symm.trans q3
    exact absurd (q2.symm.trans q4) (by decide)
section LayerS
variable {p : Program} {l : Launch} {e : Env} {R : Room} {s : State} {m : MethodId} {args : Array Value} {below : List Frame} {meth : Method} {c : Code} {T : State} {locs : List Loc} {cells slots : Nat} {Z : State} {a0 : Array Value} {EL : List (String × Nat)} {vm0 : Vm} {k0 : Nat}
/-- what a contract asks of the end of a walk that may intern -/
def KS (s : State) (below : List Frame) (Z : State) (EL : List (String × Nat)) (Q : Option Value → Heap → List Loc → Prop) (C S : Nat) (s₂ : State) (o : Outcome) : Prop :=
  s₂.status = .running ∧ Ended s₂ below o ∧ ∃ v L, o = .returned v ∧ Q v s₂.heap L ∧ CHr Z EL s.vm s.heap s₂.vm s₂.heap ∧ ReturnedEndW s o s₂ L C S
theorem Go.endS {Q : Option Value → Heap → List Loc → Prop} {C S : Nat} (X : Stand p l e R (s.setVm vm0) m args below meth c T locs cells slots) (hlk : meth.locks = false) {v : Option Value} (hv : meth.sig.returnType = none → v = none) {σ : State}
    (go : ∀ fs, (∀ (f : JFrame) (acts : List Action), f.method = m → f.locked = none → f.entered = [] → (doReturn e (T.setTop f) acts v).1 = T.setFrames fs) → Steps p.tables e below σ (T.setFrames fs))
    (hC : cells ≤ C) (hS' : slots ≤ S) (hS : s.Since vm0 k0) (hk : k0 ≤ T.heap.size) (hEL : EW Z a0 EL) (hZ : Z.Warmed39 (s.setVm vm0).vm) (Rr : CHr Z EL s.vm s.heap vm0 T.heap) (q : Q v T.heap locs) : Go p e below (KS s below Z EL Q C S) σ := by
  obtain ⟨fs, hr, hrun, hended, hEnd⟩ := X.leaveW hS hk (v := v) hv
  exact ⟨_, _, go fs hr, hrun, hended, _, _, rfl, q, Rr.trans (show CHr Z EL vm0 T.heap T.vm T.heap from CHv.at X hZ hEL Rr.1), hEnd.1, hEnd.2.1, hEnd.2.2.1, hEnd.2.2.2.mono hC hS'⟩
theorem Go.retVS {Q : Option Value → Heap → List Loc → Prop} {C S : Nat} (X : Stand p l e R (s.setVm vm0) m args below meth c T locs cells slots) (hx : p.tables.exec = Jvm.exec) (hlk : meth.locks = false) (hret : meth.sig.returnType = none) {pc : Nat} {Ls : Array Slot} (hd : decode c.code pc = .ok (.return_, 1)) (hC : cells ≤ C) (hS' : slots ≤ S)
    (hS : s.Since vm0 k0) (hk : k0 ≤ T.heap.size) (hEL : EW Z a0 EL) (hZ : Z.Warmed39 (s.setVm vm0).vm) (Rr : CHr Z EL s.vm s.heap vm0 T.heap) (q : Q none T.heap locs) : Go p e below (KS s below Z EL Q C S) (T.setTop (mkF m pc Ls [])) :=
  Go.endS X hlk (fun _ => rfl) (fun fs hr => X.returnOut hx hret hd hr) hC hS' hS hk hEL hZ Rr q
theorem Go.retAS {Q : Option Value → Heap → List Loc → Prop} {C S : Nat} (X : Stand p l e R (s.setVm vm0) m args below meth c T locs cells slots) (hx : p.tables.exec = Jvm.exec) (hlk : meth.locks = false) {t : FieldType} (hret : meth.sig.returnType = some t) (ht : t.isReference = true) {pc : Nat} {Ls : Array Slot} {w : Value} (hw : w.isRef = true) {rest : List Value} (hd : decode c.code pc = .ok (.areturn, 1)) (hC : cells ≤ C) (hS' : slots ≤ S)
    (hS : s.Since vm0 k0) (hk : k0 ≤ T.heap.size) (hEL : EW Z a0 EL) (hZ : Z.Warmed39 (s.setVm vm0).vm) (Rr : CHr Z EL s.vm s.heap vm0 T.heap) (q : Q (some w) T.heap locs) : Go p e below (KS s below Z EL Q C S) (T.setTop (mkF m pc Ls (w :: rest))) :=
  Go.endS X hlk (fun h => by rw [hret] at h; cases h) (fun fs hr => retOut X hx hret (by cases t <;> cases w <;> simp_all [narrow, Value.isRef, FieldType.isReference]) (Or.inr (Or.inr (Or.inr (Or.inr ⟨rfl, ht, hw⟩)))) hd hr) hC hS' hS hk hEL hZ Rr q
theorem Go.retIS {Q : Option Value → Heap → List Loc → Prop} {C S : Nat} (X : Stand p l e R (s.setVm vm0) m args below meth c T locs cells slots) (hx : p.tables.exec = Jvm.exec) (hlk : meth.locks = false) (hret : meth.sig.returnType = some .int) {pc : Nat} {Ls : Array Slot} {z : Int32} {rest : List Value} (hd : decode c.code pc = .ok (.ireturn, 1)) (hC : cells ≤ C) (hS' : slots ≤ S)
    (hS : s.Since vm0 k0) (hk : k0 ≤ T.heap.size) (hEL : EW Z a0 EL) (hZ : Z.Warmed39 (s.setVm vm0).vm) (Rr : CHr Z EL s.vm s.heap vm0 T.heap) (q : Q (some (.int z)) T.heap locs) : Go p e below (KS s below Z EL Q C S) (T.setTop (mkF m pc Ls (.int z :: rest))) :=
  Go.endS X hlk (fun h => by rw [hret] at h; cases h) (fun fs hr => retOut X hx hret rfl (Or.inl ⟨rfl, Or.inl rfl, _, rfl⟩) hd hr) hC hS' hS hk hEL hZ Rr q
theorem Go.retNS {Q : Option Value → Heap → List Loc → Prop} {C S : Nat} (X : Stand p l e R (s.setVm vm0) m args below meth c T locs cells slots) (hx : p.tables.exec = Jvm.exec) (hlk : meth.locks = false) {t : FieldType} (hret : meth.sig.returnType = some t) (ht : t = .boolean ∨ t = .byte ∨ t = .char ∨ t = .short) {pc : Nat} {Ls : Array Slot} {z : Int32} {rest : List Value} (hd : decode c.code pc = .ok (.ireturn, 1)) (hC : cells ≤ C) (hS' : slots ≤ S)
    (hS : s.Since vm0 k0) (hk : k0 ≤ T.heap.size) (hEL : EW Z a0 EL) (hZ : Z.Warmed39 (s.setVm vm0).vm) (Rr : CHr Z EL s.vm s.heap vm0 T.heap) (q : Q (some (.int (nar t z))) T.heap locs) : Go p e below (KS s below Z EL Q C S) (T.setTop (mkF m pc Ls (.int z :: rest))) :=
  Go.endS X hlk (fun h => by rw [hret] at h; cases h) (fun fs hr => RoadKit.retN X hx hret ht hd hr) hC hS' hS hk hEL hZ Rr q
end LayerS

theorem own_pn_java_lang_String : plainName "java/lang/String" = true := by first | (simp [plainName, overriddenIn]; done) | decide +kernel
theorem ef_sV0 (m : MethodId) (x0 : Addr) (x1 : Addr) (x2 : Int32) (x3 : Int32) : entryFrame m #[(.ref x0), (.ref x1), (.int x2), (.int x3), .null] 6 = mkF m 0 #[.val (.ref x0), .val (.ref x1), .val (.int x2), .val (.int x3), .val .null, .unset] [] := by first | (simp [entryFrame, mkF, argsToLocals, Value.category]; done) | rfl
theorem d2_0 : decode jdk_42_method_149_code 0 = .ok (.aload_n 0, 1) := by decide +kernel
theorem d2_1 : decode jdk_42_method_149_code 1 = .ok (.invokespecial 1, 3) := by decide +kernel
theorem d2_4 : decode jdk_42_method_149_code 4 = .ok (.iload_n 3, 1) := by decide +kernel
theorem d2_5 : decode jdk_42_method_149_code 5 = .ok (.ifCond .ne 22, 3) := by decide +kernel
theorem d2_8 : decode jdk_42_method_149_code 8 = .ok (.aload_n 0, 1) := by decide +kernel
theorem d2_9 : decode jdk_42_method_149_code 9 = .ok (.ldc 7, 2) := by decide +kernel
theorem d2_11 : decode jdk_42_method_149_code 11 = .ok (.getfield 9, 3) := by decide +kernel
theorem d2_14 : decode jdk_42_method_149_code 14 = .ok (.putfield 9, 3) := by decide +kernel
theorem d2_17 : decode jdk_42_method_149_code 17 = .ok (.aload_n 0, 1) := by decide +kernel
theorem d2_18 : decode jdk_42_method_149_code 18 = .ok (.ldc 7, 2) := by decide +kernel
theorem d2_20 : decode jdk_42_method_149_code 20 = .ok (.getfield 15, 3) := by decide +kernel
theorem d2_23 : decode jdk_42_method_149_code 23 = .ok (.putfield 15, 3) := by decide +kernel
theorem d2_26 : decode jdk_42_method_149_code 26 = .ok (.return_, 1) := by decide +kernel
def QsV0 (Z : State) (a1 : Addr) (a2 : Addr) (h0 : Heap) (n0 : Nat) (v : Option Value) (h : Heap) (L : List Loc) : Prop := ∃ vb : Addr, ∃ kb : ClassId, v = none ∧ Fr n0 L ∧ Keep h0 h [a1] ∧ (Exa Z h a1 "java/lang/String") ∧ (Fld Z h a1 "java/lang/String" "value" "[B" (.ref vb)) ∧ (Fld Z h a1 "java/lang/String" "coder" "B" (.int (0 : Int32))) ∧ (Arv Z h vb kb .byte (0 : Int32) [] (.int (0 : Int32))) ∧ (a1 ≠ vb)
set_option maxRecDepth 65536 in
set_option maxHeartbeats 40000000 in
theorem rmsV0 (l : Launch) (Z : State) (a0 : Array Value) (hw : ∀ d ∈ tables_1, d.before a0 Z = true) (ws : List Jvm.Cond) (a1 : Addr) (a2 : Addr) (h0 : Heap) (n0 : Nat) (Z0 : n0 ≤ h0.size) (E_a1 : Exa Z h0 a1 "java/lang/String") (g_a1 : n0 ≤ a1) (F_value_a1 : Fld Z h0 a1 "java/lang/String" "value" "[B" .null) (F_coder_a1 : Fld Z h0 a1 "java/lang/String" "coder" "B" (.int (0 : Int32))) :
    MetFree l (⟨"java/lang/String", "<init>", "([CIILjava/lang/Void;)V"⟩ : MethodName) (head1 (Jvm.Cond.code (⟨"java/lang/String", "<init>", "([CIILjava/lang/Void;)V"⟩ : MethodName) jdk_42_method_149_code 6 none :: ws) ({ frames := 1, cells := 4, slots := 8, locals := 12 } : Room)) (fun a U => a = #[(.ref a1), (.ref a2), (.int (0 : Int32)), (.int (0 : Int32)), .null] ∧ Z.Warmed39 U.vm ∧ U.heap = h0 ∧ CHv Z own_EL U.vm h0) (fun _ _ _ _ _ => True) (fun _ U o U' => ∃ v L, o = .returned v ∧ QsV0 Z a1 a2 h0 n0 v U'.heap L ∧ CHr Z own_EL U.vm U.heap U'.vm U'.heap ∧ ReturnedEndW U o U' L ({ frames := 1, cells := 4, slots := 8, locals := 12 } : Room).cells ({ frames := 1, cells := 4, slots := 8, locals := 12 } : Room).slots) := by
  refine MetFree.of_bodySF (plainFor_of_name own_pn_java_lang_String) hisR ?_
  intro p e s m args below meth c s₁ Bd hml0 hP hK
  obtain ⟨rfl, hZ, hh, hCH⟩ := hP
  have hx := Bd.exec
  have hby := Bd.bytes
  have hlk := Bd.notSynchronized
  have hml : c.maxLocals = 6 := hml0
  have hown : s.vm.findClass "java/lang/String" = some m.cls := findClass_of_methodNamed Bd.named
  have hnm := (name_of_methodNamed Bd.named Bd.method).1
  have X0 : Stand p l e ({ frames := 1, cells := 4, slots := 8, locals := 12 } : Room) (s.setVm s.vm) m #[(.ref a1), (.ref a2), (.int (0 : Int32)), (.int (0 : Int32)), .null] below meth c s₁ [] 0 0 := Stand.of_body Bd
  have hZ : Z.Warmed39 (s.setVm s.vm).vm := hZ
  have hown : (s.setVm s.vm).vm.findClass "java/lang/String" = some m.cls := hown
  have hS0 : s.Since s.vm 0 := (State.WarmedH.refl s).since 0
  have R0 : CHr Z own_EL s.vm h0 s.vm h0 := CHr.refl hCH
  have e0 : s₁.heap = h0 := by rw [← hh, Bd.state]; rfl
  have N0 := Fr.nil n0
  have K0 : Keep h0 h0 [a1] := Keep.refl _ _
  show Go p e below (KS s below Z own_EL (QsV0 Z a1 a2 h0 n0) ({ frames := 1, cells := 4, slots := 8, locals := 12 } : Room).cells ({ frames := 1, cells := 4, slots := 8, locals := 12 } : Room).slots) _
  refine Go.body (T := s₁) (σ := s₁) (g' := (mkF m 0 #[.val (.ref a1), .val (.ref a2), .val (.int (0 : Int32)), .val (.int (0 : Int32)), .val .null, .unset] [])) (ef_sV0 m a1 a2 (0 : Int32) (0 : Int32)) ?_
  have Sf_a1 : Safe Z own_EL s.vm h0 a1 := own_SafeNull hZ.alike E_a1 F_value_a1
  refine g_aloadN X0 hx (hb hby d2_0) 1 rfl (v := (.ref a1)) rfl rfl ?_
  obtain ⟨T1, X1, e1, st1⟩ := initO X0 hx hZ hown (hw _ (List.mem_of_getElem? (i := 11) rfl)) (hw _ (List.mem_of_getElem? (i := 12) rfl)) (hw _ (List.mem_of_getElem? (i := 13) rfl)) e0 (g := (mkF m 1 #[.val (.ref a1), .val (.ref a2), .val (.int (0 : Int32)), .val (.int (0 : Int32)), .val .null, .unset] [(.ref a1)])) rfl (by rw [hml]; rfl) rfl (hb hby d2_1) (by decide) (W := 0) (by show 2 * 0 + _ ≤ _; exact Nat.le_of_eq rfl) (by decide)
  refine Go.st st1 ?_
  show Go p e below _ (T1.setTop (mkF m 4 #[.val (.ref a1), .val (.ref a2), .val (.int (0 : Int32)), .val (.int (0 : Int32)), .val .null, .unset] []))
  refine g_iloadN X1 hx (hb hby d2_4) 5 rfl (v := (0 : Int32)) rfl ?_
  refine g_if_ne X1 hx (hb hby d2_5) 27 8 (by decide) (by decide) rfl (fun hc5 => False.elim (absurd rfl hc5)) (fun hc5 => ?_)
  refine g_aloadN X1 hx (hb hby d2_8) 9 rfl (v := (.ref a1)) rfl rfl ?_
  obtain ⟨oa2, T2, h2, k12, ob2, kb2, X2, e2, E2, hS2, hk2, hZ, hown, f2a, f2c, f2v, f2b, lt2a, lt2b, C2, -, hne2, st2⟩ := ldcCH X1 hx hZ hown (hw _ (List.mem_of_getElem? (i := 14) rfl)) (own_wS hw) e1 hS0 (Nat.zero_le _) (own_EW hw) (by decide) R0.1 (vs := []) (z := (0 : Int32)) (by decide) (by decide) rfl (g := (mkF m 9 #[.val (.ref a1), .val (.ref a2), .val (.int (0 : Int32)), .val (.int (0 : Int32)), .val .null, .unset] [(.ref a1)])) rfl (hb hby d2_9) (n := 0) (by decide) (by decide) (by decide) (by decide)
  refine Go.st st2 ?_
  have Sf_a1_2 : Safe Z own_EL T2.vm h2 a1 := CHr.safe C2 E_a1.lt Sf_a1
  have R2 : CHr Z own_EL s.vm h0 T2.vm h2 := CHr.trans R0 C2
  have E_a1_3 : Exa Z h2 a1 "java/lang/String" := Exa.ext E2 E_a1
  have F_value_a1_3 : Fld Z h2 a1 "java/lang/String" "value" "[B" .null := Fld.ext E2 F_value_a1
  have F_coder_a1_3 : Fld Z h2 a1 "java/lang/String" "coder" "B" (.int (0 : Int32)) := Fld.ext E2 F_coder_a1
  have ne_a1_oa2 : a1 ≠ oa2 := (hne2 _ Sf_a1_2).1
  have ne_a1_ob2 : a1 ≠ ob2 := (hne2 _ Sf_a1_2).2
  have K2 : Keep h0 h2 [a1] := Keep.ext K0 E2
  have Zs2 : n0 ≤ h2.size := Nat.le_trans Z0 E2.1
  show Go p e below _ (T2.setTop (mkF m 11 #[.val (.ref a1), .val (.ref a2), .val (.int (0 : Int32)), .val (.int (0 : Int32)), .val .null, .unset] [(.ref oa2), (.ref a1)]))
  obtain ⟨T4, X4, e4, st4⟩ := getF X2 hx hZ hown (host := "") (Or.inl (hw _ (List.mem_of_getElem? (i := 20) rfl))) Via.refl e2 f2v (g := (mkF m 11 #[.val (.ref a1), .val (.ref a2), .val (.int (0 : Int32)), .val (.int (0 : Int32)), .val .null, .unset] [(.ref oa2), (.ref a1)])) rfl rfl (hb hby d2_11)
  refine Go.st st4 ?_
  show Go p e below _ (T4.setTop (mkF m 14 #[.val (.ref a1), .val (.ref a2), .val (.int (0 : Int32)), .val (.int (0 : Int32)), .val .null, .unset] [(.ref ob2), (.ref a1)]))
  obtain ⟨T5, h5, X5, e5, W5, st5⟩ := putF X4 hx hZ hown (host := "") (Or.inl (hw _ (List.mem_of_getElem? (i := 20) rfl))) Via.refl e4 F_value_a1_3 E_a1_3 (Or.inr ⟨(hw _ (List.mem_of_getElem? (i := 16) rfl)), rfl, hnm⟩) (hw _ (List.mem_of_getElem? (i := 2) rfl)) (ty := (.array .byte)) (by decide) rfl rfl (g := (mkF m 14 #[.val (.ref a1), .val (.ref a2), .val (.int (0 : Int32)), .val (.int (0 : Int32)), .val .null, .unset] [(.ref ob2), (.ref a1)])) rfl rfl (hb hby d2_14)
  refine Go.st st5 ?_
  have Sf_a1_6 : Safe Z own_EL T2.vm h5 a1 := Safe.wr W5 Sf_a1_2 R2.1 Sf_a1_2
  have R6 : CHr Z own_EL s.vm h0 T2.vm h5 := CHr.trans R2 (CHr.wr W5 Sf_a1_2 R2.1)
  have hk6 : _ ≤ h5.size := Nat.le_trans hk2 (Nat.le_of_eq W5.size.symm)
  have E_a1_7 : Exa Z h5 a1 "java/lang/String" := Exa.wr W5 E_a1_3
  have F_coder_a1_7 : Fld Z h5 a1 "java/lang/String" "coder" "B" (.int (0 : Int32)) := Fld.other W5 F_coder_a1_3 (Or.inr (slot_ne (Or.inr (hw _ (List.mem_of_getElem? (i := 17) rfl))) (Or.inr (hw _ (List.mem_of_getElem? (i := 16) rfl))) (by decide) (t := .byte) (t' := (.array .byte)) (by decide) (by decide)))
  have E_oa2_7 : Exa Z h5 oa2 "java/lang/String" := Exa.wr W5 f2a
  have F_coder_oa2_7 : Fld Z h5 oa2 "java/lang/String" "coder" "B" (.int (0 : Int32)) := Fld.other W5 f2c (Or.inl (Ne.symm ne_a1_oa2))
  have F_value_oa2_7 : Fld Z h5 oa2 "java/lang/String" "value" "[B" (.ref ob2) := Fld.other W5 f2v (Or.inl (Ne.symm ne_a1_oa2))
  have A_ob2_7 : Arv Z h5 ob2 kb2 .byte (0 : Int32) [] (.int (0 : Int32)) := Arv.other f2b W5 (Ne.symm ne_a1_ob2)
  have F_value_a1_5w : Fld Z h5 a1 "java/lang/String" "value" "[B" (.ref ob2) := Fld.same W5 F_value_a1_3
  have K5 : Keep h0 h5 [a1] := Keep.wr K2 W5 (Or.inl (List.mem_of_getElem? (i := 0) rfl))
  have N5 := Fr.snoc X5 N0 g_a1
  have Zs5 : n0 ≤ h5.size := by rw [W5.size]; exact Zs2
  show Go p e below _ (T5.setTop (mkF m 17 #[.val (.ref a1), .val (.ref a2), .val (.int (0 : Int32)), .val (.int (0 : Int32)), .val .null, .unset] []))
  refine g_aloadN X5 hx (hb hby d2_17) 18 rfl (v := (.ref a1)) rfl rfl ?_
  obtain ⟨oa8, T8, h8, k18, ob8, kb8, X8, e8, E8, hS8, hk8, hZ, hown, f8a, f8c, f8v, f8b, lt8a, lt8b, C8, -, hne8, st8⟩ := ldcCH X5 hx hZ hown (hw _ (List.mem_of_getElem? (i := 14) rfl)) (own_wS hw) e5 hS2 hk6 (own_EW hw) (by decide) R6.1 (vs := []) (z := (0 : Int32)) (by decide) (by decide) rfl (g := (mkF m 18 #[.val (.ref a1), .val (.ref a2), .val (.int (0 : Int32)), .val (.int (0 : Int32)), .val .null, .unset] [(.ref a1)])) rfl (hb hby d2_18) (n := 0) (by decide) (by decide) (by decide) (by decide)
  refine Go.st st8 ?_
  have Sf_a1_8 : Safe Z own_EL T8.vm h8 a1 := CHr.safe C8 E_a1_7.lt Sf_a1_6
  have R8 : CHr Z own_EL s.vm h0 T8.vm h8 := CHr.trans R6 C8
  have E_a1_9 : Exa Z h8 a1 "java/lang/String" := Exa.ext E8 E_a1_7
  have F_coder_a1_9 : Fld Z h8 a1 "java/lang/String" "coder" "B" (.int (0 : Int32)) := Fld.ext E8 F_coder_a1_7
  have E_oa2_9 : Exa Z h8 oa2 "java/lang/String" := Exa.ext E8 E_oa2_7
  have F_coder_oa2_9 : Fld Z h8 oa2 "java/lang/String" "coder" "B" (.int (0 : Int32)) := Fld.ext E8 F_coder_oa2_7
  have F_value_oa2_9 : Fld Z h8 oa2 "java/lang/String" "value" "[B" (.ref ob2) := Fld.ext E8 F_value_oa2_7
  have A_ob2_9 : Arv Z h8 ob2 kb2 .byte (0 : Int32) [] (.int (0 : Int32)) := Arv.ext A_ob2_7 E8
  have F_value_a1_9 : Fld Z h8 a1 "java/lang/String" "value" "[B" (.ref ob2) := Fld.ext E8 F_value_a1_5w
  have ne_a1_oa8 : a1 ≠ oa8 := (hne8 _ Sf_a1_8).1
  have ne_a1_ob8 : a1 ≠ ob8 := (hne8 _ Sf_a1_8).2
  have K8 : Keep h0 h8 [a1] := Keep.ext K5 E8
  have Zs8 : n0 ≤ h8.size := Nat.le_trans Zs5 E8.1
  show Go p e below _ (T8.setTop (mkF m 20 #[.val (.ref a1), .val (.ref a2), .val (.int (0 : Int32)), .val (.int (0 : Int32)), .val .null, .unset] [(.ref oa8), (.ref a1)]))
  obtain ⟨T10, X10, e10, st10⟩ := getF X8 hx hZ hown (host := "") (Or.inl (hw _ (List.mem_of_getElem? (i := 21) rfl))) Via.refl e8 f8c (g := (mkF m 20 #[.val (.ref a1), .val (.ref a2), .val (.int (0 : Int32)), .val (.int (0 : Int32)), .val .null, .unset] [(.ref oa8), (.ref a1)])) rfl rfl (hb hby d2_20)
  refine Go.st st10 ?_
  show Go p e below _ (T10.setTop (mkF m 23 #[.val (.ref a1), .val (.ref a2), .val (.int (0 : Int32)), .val (.int (0 : Int32)), .val .null, .unset] [(.int (0 : Int32)), (.ref a1)]))
  obtain ⟨T11, h11, X11, e11, W11, st11⟩ := putF X10 hx hZ hown (host := "") (Or.inl (hw _ (List.mem_of_getElem? (i := 21) rfl))) Via.refl e10 F_coder_a1_9 E_a1_9 (Or.inr ⟨(hw _ (List.mem_of_getElem? (i := 17) rfl)), rfl, hnm⟩) (hw _ (List.mem_of_getElem? (i := 2) rfl)) (ty := .byte) (by decide) rfl rfl (g := (mkF m 23 #[.val (.ref a1), .val (.ref a2), .val (.int (0 : Int32)), .val (.int (0 : Int32)), .val .null, .unset] [(.int (0 : Int32)), (.ref a1)])) rfl rfl (hb hby d2_23)
  refine Go.st st11 ?_
  have Sf_a1_12 : Safe Z own_EL T8.vm h11 a1 := Safe.wr W11 Sf_a1_8 R8.1 Sf_a1_8
  have R12 : CHr Z own_EL s.vm h0 T8.vm h11 := CHr.trans R8 (CHr.wr W11 Sf_a1_8 R8.1)
  have hk12 : _ ≤ h11.size := Nat.le_trans hk8 (Nat.le_of_eq W11.size.symm)
  have E_a1_13 : Exa Z h11 a1 "java/lang/String" := Exa.wr W11 E_a1_9
  have E_oa2_13 : Exa Z h11 oa2 "java/lang/String" := Exa.wr W11 E_oa2_9
  have F_coder_oa2_13 : Fld Z h11 oa2 "java/lang/String" "coder" "B" (.int (0 : Int32)) := Fld.other W11 F_coder_oa2_9 (Or.inl (Ne.symm ne_a1_oa2))
  have F_value_oa2_13 : Fld Z h11 oa2 "java/lang/String" "value" "[B" (.ref ob2) := Fld.other W11 F_value_oa2_9 (Or.inl (Ne.symm ne_a1_oa2))
  have A_ob2_13 : Arv Z h11 ob2 kb2 .byte (0 : Int32) [] (.int (0 : Int32)) := Arv.other A_ob2_9 W11 (Ne.symm ne_a1_ob2)
  have F_value_a1_13 : Fld Z h11 a1 "java/lang/String" "value" "[B" (.ref ob2) := Fld.other W11 F_value_a1_9 (Or.inr (slot_ne (Or.inr (hw _ (List.mem_of_getElem? (i := 16) rfl))) (Or.inr (hw _ (List.mem_of_getElem? (i := 17) rfl))) (by decide) (t := (.array .byte)) (t' := .byte) (by decide) (by decide)))
  have E_oa8_13 : Exa Z h11 oa8 "java/lang/String" := Exa.wr W11 f8a
  have F_coder_oa8_13 : Fld Z h11 oa8 "java/lang/String" "coder" "B" (.int (0 : Int32)) := Fld.other W11 f8c (Or.inl (Ne.symm ne_a1_oa8))
  have F_value_oa8_13 : Fld Z h11 oa8 "java/lang/String" "value" "[B" (.ref ob8) := Fld.other W11 f8v (Or.inl (Ne.symm ne_a1_oa8))
  have A_ob8_13 : Arv Z h11 ob8 kb8 .byte (0 : Int32) [] (.int (0 : Int32)) := Arv.other f8b W11 (Ne.symm ne_a1_ob8)
  have F_coder_a1_11w : Fld Z h11 a1 "java/lang/String" "coder" "B" (.int (0 : Int32)) := Fld.same W11 F_coder_a1_9
  have K11 : Keep h0 h11 [a1] := Keep.wr K8 W11 (Or.inl (List.mem_of_getElem? (i := 0) rfl))
  have N11 := Fr.snoc X11 N5 g_a1
  have Zs11 : n0 ≤ h11.size := by rw [W11.size]; exact Zs8
  show Go p e below _ (T11.setTop (mkF m 26 #[.val (.ref a1), .val (.ref a2), .val (.int (0 : Int32)), .val (.int (0 : Int32)), .val .null, .unset] []))
  refine Go.retVS X11 hx hlk Bd.returns (hb hby d2_26) (by decide) (by decide) hS8 (by rw [e11]; exact hk12) (own_EW hw) hZ (by rw [hh, e11]; exact R12) ?_
  show QsV0 Z a1 a2 h0 n0 _ T11.heap _
  rw [e11]
  exact ⟨ob2, kb2, rfl, N11, K11, E_a1_13, F_value_a1_13, F_coder_a1_11w, A_ob2_13, ne_a1_ob2⟩
theorem ef_sC0 (m : MethodId) (x0 : Addr) (x1 : Addr) : entryFrame m #[(.ref x0), (.ref x1)] 2 = mkF m 0 #[.val (.ref x0), .val (.ref x1)] [] := by first | (simp [entryFrame, mkF, argsToLocals, Value.category]; done) | rfl
theorem d1_0 : decode jdk_42_method_3_code 0 = .ok (.aload_n 0, 1) := by decide +kernel
theorem d1_1 : decode jdk_42_method_3_code 1 = .ok (.aload_n 1, 1) := by decide +kernel
theorem d1_2 : decode jdk_42_method_3_code 2 = .ok (.iconst 0, 1) := by decide +kernel
theorem d1_3 : decode jdk_42_method_3_code 3 = .ok (.aload_n 1, 1) := by decide +kernel
theorem d1_4 : decode jdk_42_method_3_code 4 = .ok (.arraylength, 1) := by decide +kernel
theorem d1_5 : decode jdk_42_method_3_code 5 = .ok (.aconst_null, 1) := by decide +kernel
theorem own_pd0 : parseMethodDescriptor "([CIILjava/lang/Void;)V" = some ⟨[(.array .char), .int, .int, (.object "java/lang/Void")], none⟩ := by decide +kernel
theorem d1_6 : decode jdk_42_method_3_code 6 = .ok (.invokespecial 27, 3) := by decide +kernel
theorem d1_9 : decode jdk_42_method_3_code 9 = .ok (.return_, 1) := by decide +kernel
def QsC0 (Z : State) (a1 : Addr) (a2 : Addr) (kc : ClassId) (h0 : Heap) (n0 : Nat) (v : Option Value) (h : Heap) (L : List Loc) : Prop := ∃ vb : Addr, ∃ kb : ClassId, v = none ∧ Fr n0 L ∧ Keep h0 h [a1] ∧ (Exa Z h a1 "java/lang/String") ∧ (Fld Z h a1 "java/lang/String" "value" "[B" (.ref vb)) ∧ (Fld Z h a1 "java/lang/String" "coder" "B" (.int (0 : Int32))) ∧ (Arv Z h vb kb .byte (0 : Int32) [] (.int (0 : Int32))) ∧ (a1 ≠ vb)
set_option maxRecDepth 65536 in
set_option maxHeartbeats 40000000 in
theorem rmsC0 (l : Launch) (Z : State) (a0 : Array Value) (hw : ∀ d ∈ tables_1, d.before a0 Z = true) (ws : List Jvm.Cond) (a1 : Addr) (a2 : Addr) (kc : ClassId) (h0 : Heap) (n0 : Nat) (Z0 : n0 ≤ h0.size) (E_a1 : Exa Z h0 a1 "java/lang/String") (g_a1 : n0 ≤ a1) (F_value_a1 : Fld Z h0 a1 "java/lang/String" "value" "[B" .null) (F_coder_a1 : Fld Z h0 a1 "java/lang/String" "coder" "B" (.int (0 : Int32))) (A_a2 : Arv Z h0 a2 kc .char (0 : Int32) [] (.int (0 : Int32))) (ne_a1_a2 : a1 ≠ a2) :
    MetFree l (⟨"java/lang/String", "<init>", "([C)V"⟩ : MethodName) (head1 (Jvm.Cond.code (⟨"java/lang/String", "<init>", "([C)V"⟩ : MethodName) jdk_42_method_3_code 2 none :: ws) ({ frames := 2, cells := 4, slots := 8, locals := 29 } : Room)) (fun a U => a = #[(.ref a1), (.ref a2)] ∧ Z.Warmed39 U.vm ∧ U.heap = h0 ∧ CHv Z own_EL U.vm h0) (fun _ _ _ _ _ => True) (fun _ U o U' => ∃ v L, o = .returned v ∧ QsC0 Z a1 a2 kc h0 n0 v U'.heap L ∧ CHr Z own_EL U.vm U.heap U'.vm U'.heap ∧ ReturnedEndW U o U' L ({ frames := 2, cells := 4, slots := 8, locals := 29 } : Room).cells ({ frames := 2, cells := 4, slots := 8, locals := 29 } : Room).slots) := by
  refine MetFree.of_bodySF (plainFor_of_name own_pn_java_lang_String) hisR ?_
  intro p e s m args below meth c s₁ Bd hml0 hP hK
  obtain ⟨rfl, hZ, hh, hCH⟩ := hP
  have hx := Bd.exec
  have hby := Bd.bytes
  have hlk := Bd.notSynchronized
  have hml : c.maxLocals = 2 := hml0
  have hown : s.vm.findClass "java/lang/String" = some m.cls := findClass_of_methodNamed Bd.named
  have hnm := (name_of_methodNamed Bd.named Bd.method).1
  have X0 : Stand p l e ({ frames := 2, cells := 4, slots := 8, locals := 29 } : Room) (s.setVm s.vm) m #[(.ref a1), (.ref a2)] below meth c s₁ [] 0 0 := Stand.of_body Bd
  have hZ : Z.Warmed39 (s.setVm s.vm).vm := hZ
  have hown : (s.setVm s.vm).vm.findClass "java/lang/String" = some m.cls := hown
  have hS0 : s.Since s.vm 0 := (State.WarmedH.refl s).since 0
  have R0 : CHr Z own_EL s.vm h0 s.vm h0 := CHr.refl hCH
  have e0 : s₁.heap = h0 := by rw [← hh, Bd.state]; rfl
  have N0 := Fr.nil n0
  have K0 : Keep h0 h0 [a1] := Keep.refl _ _
  show Go p e below (KS s below Z own_EL (QsC0 Z a1 a2 kc h0 n0) ({ frames := 2, cells := 4, slots := 8, locals := 29 } : Room).cells ({ frames := 2, cells := 4, slots := 8, locals := 29 } : Room).slots) _
  refine Go.body (T := s₁) (σ := s₁) (g' := (mkF m 0 #[.val (.ref a1), .val (.ref a2)] [])) (ef_sC0 m a1 a2) ?_
  refine g_aloadN X0 hx (hb hby d1_0) 1 rfl (v := (.ref a1)) rfl rfl ?_
  refine g_aloadN X0 hx (hb hby d1_1) 2 rfl (v := (.ref a2)) rfl rfl ?_
  refine g_iconst X0 hx (hb hby d1_2) 3 rfl (0 : Int32) rfl ?_
  refine g_aloadN X0 hx (hb hby d1_3) 4 rfl (v := (.ref a2)) rfl rfl ?_
  refine g_alen X0 hx (hb hby d1_4) 5 rfl hZ e0 A_a2 ?_
  refine g_null X0 hx (hb hby d1_5) 6 rfl ?_
  obtain ⟨_, _, ⟨T15, L15, k15, n15⟩, -, X15, hS15, gr15, ⟨Lc15, hQ15, l15, y15, z15, C15⟩, st15⟩ := X0.specialBackS hx (y := (⟨"java/lang/String", "<init>", "([CIILjava/lang/Void;)V"⟩ : MethodName)) rfl hown (mvT hZ (hw _ (List.mem_of_getElem? (i := 7) rfl))) (mvT hZ (hw _ (List.mem_of_getElem? (i := 8) rfl))) (mvT hZ (hw _ (List.mem_of_getElem? (i := 10) rfl))) (by decide) (backOfSH (W := 0) (rmsV0 l Z a0 hw [] a1 a2 h0 n0 Z0 E_a1 g_a1 F_value_a1 F_coder_a1) hZ (hw _ (List.mem_of_getElem? (i := 10) rfl)) (hw _ (List.mem_of_getElem? (i := 3) rfl)) (by decide) (by decide) (own_EW hw) R0.1) (g := (mkF m 6 #[.val (.ref a1), .val (.ref a2)] [.null, (.int (0 : Int32)), (.int (0 : Int32)), (.ref a2), (.ref a1)])) rfl (by rw [hml]; rfl) (Steps.refl _) (a := a1) (argsL := [(.ref a2), (.int (0 : Int32)), (.int (0 : Int32)), .null]) (rest := []) (lenOf own_pd0 rfl) rfl (by show 2 * 0 + _ ≤ _; exact Nat.le_of_eq rfl) (hb hby d1_6) (fun _ _ => ⟨rfl, e0, (by decide : 0 + 4 ≤ _), (by decide : 0 + 8 ≤ _)⟩)
  dsimp only [Pt.U, Pt.locs, Pt.cells, Pt.slots] at X15 l15 y15 z15 st15 hQ15 hS15 gr15 C15
  subst l15 y15 z15
  obtain ⟨ovb, okb, rfl, Nq15, Kq15, f15_0, f15_1, f15_2, f15_3, f15_4⟩ := hQ15
  refine Go.tr st15 ?_
  obtain ⟨X15, hS15, hZ, hown⟩ := rebS hS0 (by rw [e0]; exact (Nat.zero_le _)) X15 hS15 gr15 hZ hown
  have R15 : CHr Z own_EL s.vm h0 T15.vm T15.heap := CHr.trans R0 C15
  have N15 := Fr.app N0 Nq15
  have E_a1_16 : Exa Z T15.heap a1 "java/lang/String" := Exa.keep E_a1 Kq15
  have K15 : Keep h0 T15.heap [a1] := Keep.trans K0 Kq15 (allS (Or.inl (List.mem_of_getElem? (i := 0) rfl)) all0)
  have Zs15 : n0 ≤ T15.heap.size := Nat.le_trans Z0 Kq15.1
  show Go p e below _ (T15.setTop (mkF m 9 #[.val (.ref a1), .val (.ref a2)] []))
  refine Go.retVS X15 hx hlk Bd.returns (hb hby d1_9) (by decide) (by decide) hS15 (Nat.le_refl _) (own_EW hw) hZ (by rw [hh]; exact R15) ?_
  show QsC0 Z a1 a2 kc h0 n0 _ T15.heap _
  exact ⟨ovb, okb, rfl, N15, K15, f15_0, f15_1, f15_2, f15_3, f15_4⟩
theorem own_pn_java_lang_StringUTF16 : plainName "java/lang/StringUTF16" = true := by first | (simp [plainName, overriddenIn]; done) | decide +kernel
theorem ef_cmp1 (m : MethodId) (x0 : Addr) (x1 : Int32) (x2 : Addr) (x3 : Int32) (x4 : Int32) : entryFrame m #[(.ref x0), (.int x1), (.ref x2), (.int x3), (.int x4)] 7 = mkF m 0 #[.val (.ref x0), .val (.int x1), .val (.ref x2), .val (.int x3), .val (.int x4), .unset, .unset] [] := by first | (simp [entryFrame, mkF, argsToLocals, Value.category]; done) | rfl
theorem d9_0 : decode jdk_52_method_21_code 0 = .ok (.iconst 0, 1) := by decide +kernel
theorem d9_1 : decode jdk_52_method_21_code 1 = .ok (.istore 5, 2) := by decide +kernel
theorem d9_3 : decode jdk_52_method_21_code 3 = .ok (.iload 5, 2) := by decide +kernel
theorem d9_5 : decode jdk_52_method_21_code 5 = .ok (.iload 4, 2) := by decide +kernel
theorem d9_7 : decode jdk_52_method_21_code 7 = .ok (.if_icmp .ge 37, 3) := by decide +kernel
theorem d9_10 : decode jdk_52_method_21_code 10 = .ok (.aload_n 0, 1) := by decide +kernel
theorem d9_11 : decode jdk_52_method_21_code 11 = .ok (.iload_n 1, 1) := by decide +kernel
theorem d9_12 : decode jdk_52_method_21_code 12 = .ok (.caload, 1) := by decide +kernel
theorem d9_13 : decode jdk_52_method_21_code 13 = .ok (.istore 6, 2) := by decide +kernel
theorem d9_15 : decode jdk_52_method_21_code 15 = .ok (.iload 6, 2) := by decide +kernel
theorem d9_17 : decode jdk_52_method_21_code 17 = .ok (.sipush 255, 3) := by decide +kernel
theorem d9_20 : decode jdk_52_method_21_code 20 = .ok (.if_icmp .le 6, 3) := by decide +kernel
theorem d9_26 : decode jdk_52_method_21_code 26 = .ok (.aload_n 2, 1) := by decide +kernel
theorem d9_27 : decode jdk_52_method_21_code 27 = .ok (.iload_n 3, 1) := by decide +kernel
theorem d9_28 : decode jdk_52_method_21_code 28 = .ok (.iload 6, 2) := by decide +kernel
theorem d9_30 : decode jdk_52_method_21_code 30 = .ok (.i2b, 1) := by decide +kernel
theorem d9_31 : decode jdk_52_method_21_code 31 = .ok (.bastore, 1) := by decide +kernel
theorem d9_32 : decode jdk_52_method_21_code 32 = .ok (.iinc 1 1, 3) := by decide +kernel
theorem d9_35 : decode jdk_52_method_21_code 35 = .ok (.iinc 3 1, 3) := by decide +kernel
theorem d9_38 : decode jdk_52_method_21_code 38 = .ok (.iinc 5 1, 3) := by decide +kernel
theorem d9_41 : decode jdk_52_method_21_code 41 = .ok (.goto (-38), 3) := by decide +kernel
theorem d9_44 : decode jdk_52_method_21_code 44 = .ok (.iload 4, 2) := by decide +kernel
theorem d9_46 : decode jdk_52_method_21_code 46 = .ok (.ireturn, 1) := by decide +kernel
def Qcmp1 (Z : State) (a1 : Addr) (a3 : Addr) (kc : ClassId) (kb : ClassId) (x1 : Int32) (h0 : Heap) (n0 : Nat) (v : Option Value) (h : Heap) (L : List Loc) : Prop := v = some (.int (1 : Int32)) ∧ Fr n0 L ∧ Keep h0 h [a3] ∧ (Arv Z h a3 kb .byte (1 : Int32) ([(.int x1.toInt8.toInt32)]) (.int (0 : Int32)))
set_option maxRecDepth 65536 in
set_option maxHeartbeats 40000000 in
theorem rmcmp1 (l : Launch) (Z : State) (a0 : Array Value) (hw : ∀ d ∈ tables_1, d.before a0 Z = true) (ws : List Jvm.Cond) (a1 : Addr) (a3 : Addr) (kc : ClassId) (kb : ClassId) (x1 : Int32) (h0 : Heap) (n0 : Nat) (Z0 : n0 ≤ h0.size) (A_a1 : Arv Z h0 a1 kc .char (1 : Int32) ([(.int x1)]) (.int (0 : Int32))) (A_a3 : Arv Z h0 a3 kb .byte (1 : Int32) ([(.int (0 : Int32))]) (.int (0 : Int32))) (g_a3 : n0 ≤ a3) (ne_a1_a3 : a1 ≠ a3) (hx1 : ¬ (255 : Int32) < x1) :
    MetFree l (⟨"java/lang/StringUTF16", "compress", "([CI[BII)I"⟩ : MethodName) (head1 (Jvm.Cond.code (⟨"java/lang/StringUTF16", "compress", "([CI[BII)I"⟩ : MethodName) jdk_52_method_21_code 7 (some .int) :: ws) ({ frames := 0, cells := 0, slots := 0, locals := 0 } : Room)) (fun a U => a = #[(.ref a1), (.int (0 : Int32)), (.ref a3), (.int (0 : Int32)), (.int (1 : Int32))] ∧ Z.Warmed39 U.vm ∧ U.heap = h0) (fun _ _ _ _ _ => True) (fun _ U o U' => ∃ v L, o = .returned v ∧ Qcmp1 Z a1 a3 kc kb x1 h0 n0 v U'.heap L ∧ FrameEnd U o U' L ({ frames := 0, cells := 0, slots := 0, locals := 0 } : Room).cells ({ frames := 0, cells := 0, slots := 0, locals := 0 } : Room).slots) := by
  refine MetFree.of_bodySF (plainFor_of_name own_pn_java_lang_StringUTF16) hisR ?_
  intro p e s m args below meth c s₁ Bd hml0 hP hK
  obtain ⟨rfl, hZ, hh⟩ := hP
  have hx := Bd.exec
  have hby := Bd.bytes
  have hlk := Bd.notSynchronized
  have hml : c.maxLocals = 7 := hml0
  have hown : s.vm.findClass "java/lang/StringUTF16" = some m.cls := findClass_of_methodNamed Bd.named
  have hnm := (name_of_methodNamed Bd.named Bd.method).1
  have X0 : Stand p l e ({ frames := 0, cells := 0, slots := 0, locals := 0 } : Room) s m #[(.ref a1), (.int (0 : Int32)), (.ref a3), (.int (0 : Int32)), (.int (1 : Int32))] below meth c s₁ [] 0 0 := Stand.of_body Bd
  have e0 : s₁.heap = h0 := by rw [← hh, Bd.state]; rfl
  have N0 := Fr.nil n0
  have K0 : Keep h0 h0 [a3] := Keep.refl _ _
  show Go p e below (KQ s below (Qcmp1 Z a1 a3 kc kb x1 h0 n0) ({ frames := 0, cells := 0, slots := 0, locals := 0 } : Room).cells ({ frames := 0, cells := 0, slots := 0, locals := 0 } : Room).slots) _
  refine Go.body (T := s₁) (σ := s₁) (g' := (mkF m 0 #[.val (.ref a1), .val (.int (0 : Int32)), .val (.ref a3), .val (.int (0 : Int32)), .val (.int (1 : Int32)), .unset, .unset] [])) (ef_cmp1 m a1 (0 : Int32) a3 (0 : Int32) (1 : Int32)) ?_
  refine g_iconst X0 hx (hb hby d9_0) 1 rfl (0 : Int32) rfl ?_
  refine g_istore X0 hx (hb hby d9_1) 3 rfl #[.val (.ref a1), .val (.int (0 : Int32)), .val (.ref a3), .val (.int (0 : Int32)), .val (.int (1 : Int32)), .val (.int (0 : Int32)), .unset] rfl ?_
  refine g_iload X0 hx (hb hby d9_3) 5 rfl (v := (0 : Int32)) rfl ?_
  refine g_iload X0 hx (hb hby d9_5) 7 rfl (v := (1 : Int32)) rfl ?_
  refine g_icmp_ge X0 hx (hb hby d9_7) 44 10 (by decide) (by decide) rfl (fun hc7 => False.elim (absurd (by decide) hc7)) (fun hc7 => ?_)
  refine g_aloadN X0 hx (hb hby d9_10) 11 rfl (v := (.ref a1)) rfl rfl ?_
  refine g_iloadN X0 hx (hb hby d9_11) 12 rfl (v := (0 : Int32)) rfl ?_
  refine g_caload X0 hx (hb hby d9_12) 13 rfl hZ e0 A_a1 (show ¬ (0 : Int32) < 0 ∧ (0 : Int32) < (1 : Int32) from by decide) (.int x1) rfl ?_
  refine g_istore X0 hx (hb hby d9_13) 15 rfl #[.val (.ref a1), .val (.int (0 : Int32)), .val (.ref a3), .val (.int (0 : Int32)), .val (.int (1 : Int32)), .val (.int (0 : Int32)), .val (.int x1)] rfl ?_
  refine g_iload X0 hx (hb hby d9_15) 17 rfl (v := x1) rfl ?_
  refine g_sipush X0 hx (hb hby d9_17) 20 rfl (255 : Int32) rfl ?_
  refine g_icmp_le X0 hx (hb hby d9_20) 26 23 (by decide) (by decide) rfl (fun hc20 => ?_) (fun hc20 => False.elim (hx1 hc20))
  refine g_aloadN X0 hx (hb hby d9_26) 27 rfl (v := (.ref a3)) rfl rfl ?_
  refine g_iloadN X0 hx (hb hby d9_27) 28 rfl (v := (0 : Int32)) rfl ?_
  refine g_iload X0 hx (hb hby d9_28) 30 rfl (v := x1) rfl ?_
  refine g_i2b X0 hx (hb hby d9_30) 31 rfl x1.toInt8.toInt32 rfl ?_
  obtain ⟨T18, h18, X18, e18, W18, B18, st18⟩ := g_bastore X0 hx (hb hby d9_31) hZ e0 A_a3 (show ¬ (0 : Int32) < 0 ∧ (0 : Int32) < (1 : Int32) from by decide) (i := 0) (by decide) (by simp)  (L := #[.val (.ref a1), .val (.int (0 : Int32)), .val (.ref a3), .val (.int (0 : Int32)), .val (.int (1 : Int32)), .val (.int (0 : Int32)), .val (.int x1)]) (S := [])
  refine Go.st st18 ?_
  have Av_a3_18 : Arv Z h18 a3 kb .byte (1 : Int32) ([(.int x1.toInt8.toInt32)]) (.int (0 : Int32)) := (by have q := B18; rw [own_i2b] at q; exact q)
  have K18 : Keep h0 h18 [a3] := Keep.wr K0 W18 (Or.inl (List.mem_of_getElem? (i := 0) rfl))
  have N18 := Fr.snoc X18 N0 g_a3
  have Zs18 : n0 ≤ h18.size := by rw [W18.size]; exact Z0
  show Go p e below _ (T18.setTop (mkF m 32 #[.val (.ref a1), .val (.int (0 : Int32)), .val (.ref a3), .val (.int (0 : Int32)), .val (.int (1 : Int32)), .val (.int (0 : Int32)), .val (.int x1)] []))
  refine g_iinc X18 hx (hb hby d9_32) 35 rfl (x := (0 : Int32)) rfl ((0 : Int32) + (1 : Int32)) rfl #[.val (.ref a1), .val (.int ((0 : Int32) + (1 : Int32))), .val (.ref a3), .val (.int (0 : Int32)), .val (.int (1 : Int32)), .val (.int (0 : Int32)), .val (.int x1)] rfl ?_
  refine g_iinc X18 hx (hb hby d9_35) 38 rfl (x := (0 : Int32)) rfl ((0 : Int32) + (1 : Int32)) rfl #[.val (.ref a1), .val (.int ((0 : Int32) + (1 : Int32))), .val (.ref a3), .val (.int ((0 : Int32) + (1 : Int32))), .val (.int (1 : Int32)), .val (.int (0 : Int32)), .val (.int x1)] rfl ?_
  refine g_iinc X18 hx (hb hby d9_38) 41 rfl (x := (0 : Int32)) rfl ((0 : Int32) + (1 : Int32)) rfl #[.val (.ref a1), .val (.int ((0 : Int32) + (1 : Int32))), .val (.ref a3), .val (.int ((0 : Int32) + (1 : Int32))), .val (.int (1 : Int32)), .val (.int ((0 : Int32) + (1 : Int32))), .val (.int x1)] rfl ?_
  refine g_goto X18 hx (hb hby d9_41) 3 (by decide) (by decide) ?_
  refine g_iload X18 hx (hb hby d9_3) 5 rfl (v := ((0 : Int32) + (1 : Int32))) rfl ?_
  refine g_iload X18 hx (hb hby d9_5) 7 rfl (v := (1 : Int32)) rfl ?_
  refine g_icmp_ge X18 hx (hb hby d9_7) 44 10 (by decide) (by decide) rfl (fun hc7 => ?_) (fun hc7 => False.elim (absurd hc7 (by decide)))
  refine g_iload X18 hx (hb hby d9_44) 46 rfl (v := (1 : Int32)) rfl ?_
  refine Go.retI X18 hx hlk Bd.returns (hb hby d9_46) (by decide) (by decide) ?_
  show Qcmp1 Z a1 a3 kc kb x1 h0 n0 _ T18.heap _
  rw [e18]
  exact ⟨rfl, N18, K18, Av_a3_18⟩
theorem ef_cmpa1 (m : MethodId) (x0 : Addr) (x1 : Int32) (x2 : Int32) : entryFrame m #[(.ref x0), (.int x1), (.int x2)] 6 = mkF m 0 #[.val (.ref x0), .val (.int x1), .val (.int x2), .unset, .unset, .unset] [] := by first | (simp [entryFrame, mkF, argsToLocals, Value.category]; done) | rfl
theorem d8_0 : decode jdk_52_method_16_code 0 = .ok (.iload_n 2, 1) := by decide +kernel
theorem d8_1 : decode jdk_52_method_16_code 1 = .ok (.newarray .byte, 2) := by decide +kernel
theorem d8_3 : decode jdk_52_method_16_code 3 = .ok (.astore_n 3, 1) := by decide +kernel
theorem d8_4 : decode jdk_52_method_16_code 4 = .ok (.aload_n 0, 1) := by decide +kernel
theorem d8_5 : decode jdk_52_method_16_code 5 = .ok (.iload_n 1, 1) := by decide +kernel
theorem d8_6 : decode jdk_52_method_16_code 6 = .ok (.aload_n 3, 1) := by decide +kernel
theorem d8_7 : decode jdk_52_method_16_code 7 = .ok (.iconst 0, 1) := by decide +kernel
theorem d8_8 : decode jdk_52_method_16_code 8 = .ok (.iload_n 2, 1) := by decide +kernel
theorem own_pd1 : parseMethodDescriptor "([CI[BII)I" = some ⟨[(.array .char), .int, (.array .byte), .int, .int], some .int⟩ := by decide +kernel
theorem d8_9 : decode jdk_52_method_16_code 9 = .ok (.invokestatic 115, 3) := by decide +kernel
theorem d8_12 : decode jdk_52_method_16_code 12 = .ok (.istore 4, 2) := by decide +kernel
theorem d8_14 : decode jdk_52_method_16_code 14 = .ok (.iload 4, 2) := by decide +kernel
theorem d8_16 : decode jdk_52_method_16_code 16 = .ok (.iload_n 2, 1) := by decide +kernel
theorem d8_17 : decode jdk_52_method_16_code 17 = .ok (.if_icmp .eq 40, 3) := by decide +kernel
theorem d8_57 : decode jdk_52_method_16_code 57 = .ok (.aload_n 3, 1) := by decide +kernel
theorem d8_58 : decode jdk_52_method_16_code 58 = .ok (.areturn, 1) := by decide +kernel
def Qcmpa1 (Z : State) (a1 : Addr) (kc : ClassId) (x1 : Int32) (h0 : Heap) (n0 : Nat) (v : Option Value) (h : Heap) (L : List Loc) : Prop := ∃ b : Addr, ∃ kb : ClassId, v = some (.ref b) ∧ Fr n0 L ∧ Keep h0 h [] ∧ h0.size ≤ b ∧ (Arv Z h b kb .byte (1 : Int32) ([(.int x1.toInt8.toInt32)]) (.int (0 : Int32)))
set_option maxRecDepth 65536 in
set_option maxHeartbeats 40000000 in
theorem rmcmpa1 (l : Launch) (Z : State) (a0 : Array Value) (hw : ∀ d ∈ tables_1, d.before a0 Z = true) (ws : List Jvm.Cond) (a1 : Addr) (kc : ClassId) (x1 : Int32) (h0 : Heap) (n0 : Nat) (Z0 : n0 ≤ h0.size) (A_a1 : Arv Z h0 a1 kc .char (1 : Int32) ([(.int x1)]) (.int (0 : Int32))) (hx1 : ¬ (255 : Int32) < x1) :
    MetFree l (⟨"java/lang/StringUTF16", "compress", "([CII)[B"⟩ : MethodName) (head1 (Jvm.Cond.code (⟨"java/lang/StringUTF16", "compress", "([CII)[B"⟩ : MethodName) jdk_52_method_16_code 6 (some (.array .byte)) :: ws) ({ frames := 1, cells := 1, slots := 1, locals := 18 } : Room)) (fun a U => a = #[(.ref a1), (.int (0 : Int32)), (.int (1 : Int32))] ∧ Z.Warmed39 U.vm ∧ U.heap = h0) (fun _ _ _ _ _ => True) (fun _ U o U' => ∃ v L, o = .returned v ∧ Qcmpa1 Z a1 kc x1 h0 n0 v U'.heap L ∧ FrameEnd U o U' L ({ frames := 1, cells := 1, slots := 1, locals := 18 } : Room).cells ({ frames := 1, cells := 1, slots := 1, locals := 18 } : Room).slots) := by
  refine MetFree.of_bodySF (plainFor_of_name own_pn_java_lang_StringUTF16) hisR ?_
  intro p e s m args below meth c s₁ Bd hml0 hP hK
  obtain ⟨rfl, hZ, hh⟩ := hP
  have hx := Bd.exec
  have hby := Bd.bytes
  have hlk := Bd.notSynchronized
  have hml : c.maxLocals = 6 := hml0
  have hown : s.vm.findClass "java/lang/StringUTF16" = some m.cls := findClass_of_methodNamed Bd.named
  have hnm := (name_of_methodNamed Bd.named Bd.method).1
  have X0 : Stand p l e ({ frames := 1, cells := 1, slots := 1, locals := 18 } : Room) s m #[(.ref a1), (.int (0 : Int32)), (.int (1 : Int32))] below meth c s₁ [] 0 0 := Stand.of_body Bd
  have e0 : s₁.heap = h0 := by rw [← hh, Bd.state]; rfl
  have N0 := Fr.nil n0
  have K0 : Keep h0 h0 [] := Keep.refl _ _
  show Go p e below (KQ s below (Qcmpa1 Z a1 kc x1 h0 n0) ({ frames := 1, cells := 1, slots := 1, locals := 18 } : Room).cells ({ frames := 1, cells := 1, slots := 1, locals := 18 } : Room).slots) _
  refine Go.body (T := s₁) (σ := s₁) (g' := (mkF m 0 #[.val (.ref a1), .val (.int (0 : Int32)), .val (.int (1 : Int32)), .unset, .unset, .unset] [])) (ef_cmpa1 m a1 (0 : Int32) (1 : Int32)) ?_
  refine g_iloadN X0 hx (hb hby d8_0) 1 rfl (v := (1 : Int32)) rfl ?_
  obtain ⟨T20, h20, cA20, X20, e20, E20, A20, st20⟩ := newP X0 hx hZ (aty := .byte) (hw _ (List.mem_of_getElem? (i := 15) rfl)) e0 (g := (mkF m 1 #[.val (.ref a1), .val (.int (0 : Int32)), .val (.int (1 : Int32)), .unset, .unset, .unset] [(.int (1 : Int32))])) rfl (hb hby d8_1) rfl (by decide) (cap := 1) (by decide) (by decide) (by decide) (by decide)
  refine Go.st st20 ?_
  obtain ⟨ob, q20⟩ : ∃ z, z = h0.size := ⟨_, rfl⟩
  rw [← q20] at A20 ⊢
  have g_ob : n0 ≤ ob := Nat.le_trans Z0 (Nat.le_of_eq q20.symm)
  have mh_ob : h0.size ≤ ob := Nat.le_trans K0.1 (Nat.le_of_eq q20.symm)
  have K20 : Keep h0 h20 [] := Keep.ext K0 E20
  have Zs20 : n0 ≤ h20.size := Nat.le_trans Z0 E20.1
  have Av_ob : Arv Z h20 ob cA20 .byte (1 : Int32) ([(.int (0 : Int32))]) (.int (0 : Int32)) := Arv.pad (Arv.new A20 (by decide)) (pad_rep [] (.int (0 : Int32)) 1)
  show Go p e below _ (T20.setTop (mkF m 3 #[.val (.ref a1), .val (.int (0 : Int32)), .val (.int (1 : Int32)), .unset, .unset, .unset] [(.ref ob)]))
  refine g_astoreN X20 hx (hb hby d8_3) 4 rfl rfl #[.val (.ref a1), .val (.int (0 : Int32)), .val (.int (1 : Int32)), .val (.ref ob), .unset, .unset] rfl ?_
  refine g_aloadN X20 hx (hb hby d8_4) 5 rfl (v := (.ref a1)) rfl rfl ?_
  refine g_iloadN X20 hx (hb hby d8_5) 6 rfl (v := (0 : Int32)) rfl ?_
  refine g_aloadN X20 hx (hb hby d8_6) 7 rfl (v := (.ref ob)) rfl rfl ?_
  refine g_iconst X20 hx (hb hby d8_7) 8 rfl (0 : Int32) rfl ?_
  refine g_iloadN X20 hx (hb hby d8_8) 9 rfl (v := (1 : Int32)) rfl ?_
  obtain ⟨_, _, ⟨T22, L22, k22, n22⟩, -, X22, ⟨Lc22, hQ22, l22, y22, z22⟩, st22⟩ := Jvm.LawKit.callS X20 hx (y := (⟨"java/lang/StringUTF16", "compress", "([CI[BII)I"⟩ : MethodName)) hown (mvT hZ (hw _ (List.mem_of_getElem? (i := 55) rfl))) (mvT hZ (hw _ (List.mem_of_getElem? (i := 56) rfl))) (mvT hZ (hw _ (List.mem_of_getElem? (i := 53) rfl))) (mvT hZ (hw _ (List.mem_of_getElem? (i := 57) rfl))) (by decide) (backOf (W := 0) (rmcmp1 l Z a0 hw [] a1 ob kc cA20 x1 h20 n0 Zs20 (Arv.keep A_a1 K20 nin0) Av_ob g_ob (Nat.ne_of_lt (Nat.lt_of_lt_of_le A_a1.lt mh_ob)) hx1) hZ (hw _ (List.mem_of_getElem? (i := 57) rfl)) (hw _ (List.mem_of_getElem? (i := 53) rfl)) (by decide) (by decide)) (g := (mkF m 9 #[.val (.ref a1), .val (.int (0 : Int32)), .val (.int (1 : Int32)), .val (.ref ob), .unset, .unset] [(.int (1 : Int32)), (.int (0 : Int32)), (.ref ob), (.int (0 : Int32)), (.ref a1)])) rfl (by rw [hml]; rfl) (argsL := [(.ref a1), (.int (0 : Int32)), (.ref ob), (.int (0 : Int32)), (.int (1 : Int32))]) (rest := []) (lenOf own_pd1 rfl) rfl (by show 2 * 0 + _ ≤ _; exact Nat.le_of_eq rfl) (hb hby d8_9) (fun _ _ => ⟨rfl, e20, (by decide : 1 + 0 ≤ _), (by decide : 1 + 0 ≤ _)⟩)
  dsimp only [Pt.U, Pt.locs, Pt.cells, Pt.slots] at X22 l22 y22 z22 st22 hQ22
  subst l22 y22 z22
  obtain ⟨rfl, Nq22, Kq22, f22_0⟩ := hQ22
  refine Go.st st22 ?_
  have N22 := Fr.app N0 Nq22
  have K22 : Keep h0 T22.heap [] := Keep.trans K20 Kq22 (allS (Or.inr mh_ob) all0)
  have Zs22 : n0 ≤ T22.heap.size := Nat.le_trans Zs20 Kq22.1
  show Go p e below _ (T22.setTop (mkF m 12 #[.val (.ref a1), .val (.int (0 : Int32)), .val (.int (1 : Int32)), .val (.ref ob), .unset, .unset] [(.int (1 : Int32))]))
  refine g_istore X22 hx (hb hby d8_12) 14 rfl #[.val (.ref a1), .val (.int (0 : Int32)), .val (.int (1 : Int32)), .val (.ref ob), .val (.int (1 : Int32)), .unset] rfl ?_
  refine g_iload X22 hx (hb hby d8_14) 16 rfl (v := (1 : Int32)) rfl ?_
  refine g_iloadN X22 hx (hb hby d8_16) 17 rfl (v := (1 : Int32)) rfl ?_
  refine g_icmp_eq X22 hx (hb hby d8_17) 57 20 (by decide) (by decide) rfl (fun hc17 => ?_) (fun hc17 => False.elim (hc17 rfl))
  refine g_aloadN X22 hx (hb hby d8_57) 58 rfl (v := (.ref ob)) rfl rfl ?_
  refine Go.retA X22 hx hlk Bd.returns rfl rfl (hb hby d8_58) (by decide) (by decide) ?_
  show Qcmpa1 Z a1 kc x1 h0 n0 _ T22.heap _
  exact ⟨ob, cA20, rfl, N22, K22, mh_ob, f22_0⟩
theorem ef_cfl1 (m : MethodId) (x0 : Addr) (x1 : Int32) : entryFrame m #[(.ref x0), (.int x1)] 2 = mkF m 0 #[.val (.ref x0), .val (.int x1)] [] := by first | (simp [entryFrame, mkF, argsToLocals, Value.category]; done) | rfl
theorem d10_0 : decode jdk_52_method_15_code 0 = .ok (.iload_n 1, 1) := by decide +kernel
theorem d10_1 : decode jdk_52_method_15_code 1 = .ok (.aload_n 0, 1) := by decide +kernel
theorem d10_2 : decode jdk_52_method_15_code 2 = .ok (.arraylength, 1) := by decide +kernel
theorem d10_3 : decode jdk_52_method_15_code 3 = .ok (.isub, 1) := by decide +kernel
theorem d10_4 : decode jdk_52_method_15_code 4 = .ok (.bipush 31, 2) := by decide +kernel
theorem d10_6 : decode jdk_52_method_15_code 6 = .ok (.iushr, 1) := by decide +kernel
theorem d10_7 : decode jdk_52_method_15_code 7 = .ok (.i2b, 1) := by decide +kernel
theorem d10_8 : decode jdk_52_method_15_code 8 = .ok (.ireturn, 1) := by decide +kernel
def Qcfl1 (Z : State) (a1 : Addr) (kb : ClassId) (vs : List Value) (h0 : Heap) (n0 : Nat) (v : Option Value) (h : Heap) (L : List Loc) : Prop := v = some (.int (0 : Int32)) ∧ Fr n0 L ∧ h = h0
set_option maxRecDepth 65536 in
set_option maxHeartbeats 40000000 in
theorem rmcfl1 (l : Launch) (Z : State) (a0 : Array Value) (hw : ∀ d ∈ tables_1, d.before a0 Z = true) (ws : List Jvm.Cond) (a1 : Addr) (kb : ClassId) (vs : List Value) (h0 : Heap) (n0 : Nat) (Z0 : n0 ≤ h0.size) (A_a1 : Arv Z h0 a1 kb .byte (1 : Int32) vs (.int (0 : Int32))) :
    MetFree l (⟨"java/lang/StringUTF16", "coderFromArrayLen", "([BI)B"⟩ : MethodName) (head1 (Jvm.Cond.code (⟨"java/lang/StringUTF16", "coderFromArrayLen", "([BI)B"⟩ : MethodName) jdk_52_method_15_code 2 (some .byte) :: ws) ({ frames := 0, cells := 0, slots := 0, locals := 0 } : Room)) (fun a U => a = #[(.ref a1), (.int (1 : Int32))] ∧ Z.Warmed39 U.vm ∧ U.heap = h0) (fun _ _ _ _ _ => True) (fun _ U o U' => ∃ v L, o = .returned v ∧ Qcfl1 Z a1 kb vs h0 n0 v U'.heap L ∧ FrameEnd U o U' L ({ frames := 0, cells := 0, slots := 0, locals := 0 } : Room).cells ({ frames := 0, cells := 0, slots := 0, locals := 0 } : Room).slots) := by
  refine MetFree.of_bodySF (plainFor_of_name own_pn_java_lang_StringUTF16) hisR ?_
  intro p e s m args below meth c s₁ Bd hml0 hP hK
  obtain ⟨rfl, hZ, hh⟩ := hP
  have hx := Bd.exec
  have hby := Bd.bytes
  have hlk := Bd.notSynchronized
  have hml : c.maxLocals = 2 := hml0
  have hown : s.vm.findClass "java/lang/StringUTF16" = some m.cls := findClass_of_methodNamed Bd.named
  have hnm := (name_of_methodNamed Bd.named Bd.method).1
  have X0 : Stand p l e ({ frames := 0, cells := 0, slots := 0, locals := 0 } : Room) s m #[(.ref a1), (.int (1 : Int32))] below meth c s₁ [] 0 0 := Stand.of_body Bd
  have e0 : s₁.heap = h0 := by rw [← hh, Bd.state]; rfl
  have N0 := Fr.nil n0
  show Go p e below (KQ s below (Qcfl1 Z a1 kb vs h0 n0) ({ frames := 0, cells := 0, slots := 0, locals := 0 } : Room).cells ({ frames := 0, cells := 0, slots := 0, locals := 0 } : Room).slots) _
  refine Go.body (T := s₁) (σ := s₁) (g' := (mkF m 0 #[.val (.ref a1), .val (.int (1 : Int32))] [])) (ef_cfl1 m a1 (1 : Int32)) ?_
  refine g_iloadN X0 hx (hb hby d10_0) 1 rfl (v := (1 : Int32)) rfl ?_
  refine g_aloadN X0 hx (hb hby d10_1) 2 rfl (v := (.ref a1)) rfl rfl ?_
  refine g_alen X0 hx (hb hby d10_2) 3 rfl hZ e0 A_a1 ?_
  refine g_isub X0 hx (hb hby d10_3) 4 rfl ((1 : Int32) - (1 : Int32)) rfl ?_
  refine g_bipush X0 hx (hb hby d10_4) 6 rfl (31 : Int32) rfl ?_
  refine g_iushr X0 hx (hb hby d10_6) 7 rfl (XT.ushr ((1 : Int32) - (1 : Int32)) (31 : Int32)) rfl ?_
  refine g_i2b X0 hx (hb hby d10_7) 8 rfl (XT.ushr ((1 : Int32) - (1 : Int32)) (31 : Int32)).toInt8.toInt32 rfl ?_
  refine Go.retN X0 hx hlk (t := .byte) Bd.returns (by simp) (hb hby d10_8) (by decide) (by decide) ?_
  show Qcfl1 Z a1 kb vs h0 n0 _ s₁.heap _
  rw [e0]
  exact ⟨rfl, N0, rfl⟩
theorem ef_sV1 (m : MethodId) (x0 : Addr) (x1 : Addr) (x2 : Int32) (x3 : Int32) : entryFrame m #[(.ref x0), (.ref x1), (.int x2), (.int x3), .null] 6 = mkF m 0 #[.val (.ref x0), .val (.ref x1), .val (.int x2), .val (.int x3), .val .null, .unset] [] := by first | (simp [entryFrame, mkF, argsToLocals, Value.category]; done) | rfl
theorem d2_27 : decode jdk_42_method_149_code 27 = .ok (.getstatic 38, 3) := by decide +kernel
theorem d2_30 : decode jdk_42_method_149_code 30 = .ok (.ifCond .eq 28, 3) := by decide +kernel
theorem d2_33 : decode jdk_42_method_149_code 33 = .ok (.aload_n 1, 1) := by decide +kernel
theorem d2_34 : decode jdk_42_method_149_code 34 = .ok (.iload_n 2, 1) := by decide +kernel
theorem d2_35 : decode jdk_42_method_149_code 35 = .ok (.iload_n 3, 1) := by decide +kernel
theorem own_pd2 : parseMethodDescriptor "([CII)[B" = some ⟨[(.array .char), .int, .int], some (.array .byte)⟩ := by decide +kernel
theorem d2_36 : decode jdk_42_method_149_code 36 = .ok (.invokestatic 177, 3) := by decide +kernel
theorem d2_39 : decode jdk_42_method_149_code 39 = .ok (.astore 5, 2) := by decide +kernel
theorem d2_41 : decode jdk_42_method_149_code 41 = .ok (.aload_n 0, 1) := by decide +kernel
theorem d2_42 : decode jdk_42_method_149_code 42 = .ok (.aload 5, 2) := by decide +kernel
theorem d2_44 : decode jdk_42_method_149_code 44 = .ok (.iload_n 3, 1) := by decide +kernel
theorem own_pd3 : parseMethodDescriptor "([BI)B" = some ⟨[(.array .byte), .int], some .byte⟩ := by decide +kernel
theorem d2_45 : decode jdk_42_method_149_code 45 = .ok (.invokestatic 47, 3) := by decide +kernel
theorem d2_48 : decode jdk_42_method_149_code 48 = .ok (.putfield 15, 3) := by decide +kernel
theorem d2_51 : decode jdk_42_method_149_code 51 = .ok (.aload_n 0, 1) := by decide +kernel
theorem d2_52 : decode jdk_42_method_149_code 52 = .ok (.aload 5, 2) := by decide +kernel
theorem d2_54 : decode jdk_42_method_149_code 54 = .ok (.putfield 9, 3) := by decide +kernel
theorem d2_57 : decode jdk_42_method_149_code 57 = .ok (.return_, 1) := by decide +kernel
def QsV1 (Z : State) (a1 : Addr) (a2 : Addr) (cs : Int32) (kc : ClassId) (x1 : Int32) (h0 : Heap) (n0 : Nat) (v : Option Value) (h : Heap) (L : List Loc) : Prop := ∃ vb : Addr, ∃ kb : ClassId, v = none ∧ Fr n0 L ∧ Keep h0 h [a1] ∧ h0.size ≤ vb ∧ (Exa Z h a1 "java/lang/String") ∧ (Fld Z h a1 "java/lang/String" "value" "[B" (.ref vb)) ∧ (Fld Z h a1 "java/lang/String" "coder" "B" (.int (0 : Int32))) ∧ (Arv Z h vb kb .byte (1 : Int32) ([(.int x1.toInt8.toInt32)]) (.int (0 : Int32)))
set_option maxRecDepth 65536 in
set_option maxHeartbeats 40000000 in
theorem rmsV1 (l : Launch) (Z : State) (a0 : Array Value) (hw : ∀ d ∈ tables_1, d.before a0 Z = true) (ws : List Jvm.Cond) (a1 : Addr) (a2 : Addr) (cs : Int32) (kc : ClassId) (x1 : Int32) (h0 : Heap) (n0 : Nat) (Z0 : n0 ≤ h0.size) (S_COMPACT_STRINGS : Sta Z h0 "java/lang/String" "COMPACT_STRINGS" "Z" (.int cs)) (E_a1 : Exa Z h0 a1 "java/lang/String") (g_a1 : n0 ≤ a1) (F_value_a1 : Fld Z h0 a1 "java/lang/String" "value" "[B" .null) (F_coder_a1 : Fld Z h0 a1 "java/lang/String" "coder" "B" (.int (0 : Int32))) (A_a2 : Arv Z h0 a2 kc .char (1 : Int32) ([(.int x1)]) (.int (0 : Int32))) (ne_a1_a2 : a1 ≠ a2) (hcs : ¬ cs = 0) (hx1 : ¬ (255 : Int32) < x1) :
    MetFree l (⟨"java/lang/String", "<init>", "([CIILjava/lang/Void;)V"⟩ : MethodName) (head1 (Jvm.Cond.code (⟨"java/lang/String", "<init>", "([CIILjava/lang/Void;)V"⟩ : MethodName) jdk_42_method_149_code 6 none :: ws) ({ frames := 2, cells := 1, slots := 1, locals := 35 } : Room)) (fun a U => a = #[(.ref a1), (.ref a2), (.int (0 : Int32)), (.int (1 : Int32)), .null] ∧ Z.Warmed39 U.vm ∧ U.heap = h0) (fun _ _ _ _ _ => True) (fun _ U o U' => ∃ v L, o = .returned v ∧ QsV1 Z a1 a2 cs kc x1 h0 n0 v U'.heap L ∧ FrameEnd U o U' L ({ frames := 2, cells := 1, slots := 1, locals := 35 } : Room).cells ({ frames := 2, cells := 1, slots := 1, locals := 35 } : Room).slots) := by
  refine MetFree.of_bodySF (plainFor_of_name own_pn_java_lang_String) hisR ?_
  intro p e s m args below meth c s₁ Bd hml0 hP hK
  obtain ⟨rfl, hZ, hh⟩ := hP
  have hx := Bd.exec
  have hby := Bd.bytes
  have hlk := Bd.notSynchronized
  have hml : c.maxLocals = 6 := hml0
  have hown : s.vm.findClass "java/lang/String" = some m.cls := findClass_of_methodNamed Bd.named
  have hnm := (name_of_methodNamed Bd.named Bd.method).1
  have X0 : Stand p l e ({ frames := 2, cells := 1, slots := 1, locals := 35 } : Room) s m #[(.ref a1), (.ref a2), (.int (0 : Int32)), (.int (1 : Int32)), .null] below meth c s₁ [] 0 0 := Stand.of_body Bd
  have e0 : s₁.heap = h0 := by rw [← hh, Bd.state]; rfl
  have N0 := Fr.nil n0
  have K0 : Keep h0 h0 [a1] := Keep.refl _ _
  show Go p e below (KQ s below (QsV1 Z a1 a2 cs kc x1 h0 n0) ({ frames := 2, cells := 1, slots := 1, locals := 35 } : Room).cells ({ frames := 2, cells := 1, slots := 1, locals := 35 } : Room).slots) _
  refine Go.body (T := s₁) (σ := s₁) (g' := (mkF m 0 #[.val (.ref a1), .val (.ref a2), .val (.int (0 : Int32)), .val (.int (1 : Int32)), .val .null, .unset] [])) (ef_sV1 m a1 a2 (0 : Int32) (1 : Int32)) ?_
  refine g_aloadN X0 hx (hb hby d2_0) 1 rfl (v := (.ref a1)) rfl rfl ?_
  obtain ⟨T25, X25, e25, st25⟩ := initO X0 hx hZ hown (hw _ (List.mem_of_getElem? (i := 11) rfl)) (hw _ (List.mem_of_getElem? (i := 12) rfl)) (hw _ (List.mem_of_getElem? (i := 13) rfl)) e0 (g := (mkF m 1 #[.val (.ref a1), .val (.ref a2), .val (.int (0 : Int32)), .val (.int (1 : Int32)), .val .null, .unset] [(.ref a1)])) rfl (by rw [hml]; rfl) rfl (hb hby d2_1) (by decide) (W := 0) (by show 2 * 0 + _ ≤ _; exact Nat.le_of_eq rfl) (by decide)
  refine Go.st st25 ?_
  show Go p e below _ (T25.setTop (mkF m 4 #[.val (.ref a1), .val (.ref a2), .val (.int (0 : Int32)), .val (.int (1 : Int32)), .val .null, .unset] []))
  refine g_iloadN X25 hx (hb hby d2_4) 5 rfl (v := (1 : Int32)) rfl ?_
  refine g_if_ne X25 hx (hb hby d2_5) 27 8 (by decide) (by decide) rfl (fun hc5 => ?_) (fun hc5 => False.elim (absurd hc5 (by decide)))
  obtain ⟨T26, X26, e26, st26⟩ := getS2 X25 hx hZ hown (host := "") (Or.inl (hw _ (List.mem_of_getElem? (i := 50) rfl))) Via.refl e25 S_COMPACT_STRINGS (g := (mkF m 27 #[.val (.ref a1), .val (.ref a2), .val (.int (0 : Int32)), .val (.int (1 : Int32)), .val .null, .unset] [])) rfl (hb hby d2_27)
  refine Go.st st26 ?_
  show Go p e below _ (T26.setTop (mkF m 30 #[.val (.ref a1), .val (.ref a2), .val (.int (0 : Int32)), .val (.int (1 : Int32)), .val .null, .unset] [(.int cs)]))
  refine g_if_eq X26 hx (hb hby d2_30) 58 33 (by decide) (by decide) rfl (fun hc30 => False.elim (hcs hc30)) (fun hc30 => ?_)
  refine g_aloadN X26 hx (hb hby d2_33) 34 rfl (v := (.ref a2)) rfl rfl ?_
  refine g_iloadN X26 hx (hb hby d2_34) 35 rfl (v := (0 : Int32)) rfl ?_
  refine g_iloadN X26 hx (hb hby d2_35) 36 rfl (v := (1 : Int32)) rfl ?_
  obtain ⟨_, _, ⟨T27, L27, k27, n27⟩, -, X27, ⟨Lc27, hQ27, l27, y27, z27⟩, st27⟩ := Jvm.LawKit.callS X26 hx (y := (⟨"java/lang/StringUTF16", "compress", "([CII)[B"⟩ : MethodName)) hown (mvT hZ (hw _ (List.mem_of_getElem? (i := 51) rfl))) (mvT hZ (hw _ (List.mem_of_getElem? (i := 52) rfl))) (mvT hZ (hw _ (List.mem_of_getElem? (i := 53) rfl))) (mvT hZ (hw _ (List.mem_of_getElem? (i := 54) rfl))) (by decide) (backOf (W := 0) (rmcmpa1 l Z a0 hw [] a2 kc x1 h0 n0 Z0 A_a2 hx1) hZ (hw _ (List.mem_of_getElem? (i := 54) rfl)) (hw _ (List.mem_of_getElem? (i := 53) rfl)) (by decide) (by decide)) (g := (mkF m 36 #[.val (.ref a1), .val (.ref a2), .val (.int (0 : Int32)), .val (.int (1 : Int32)), .val .null, .unset] [(.int (1 : Int32)), (.int (0 : Int32)), (.ref a2)])) rfl (by rw [hml]; rfl) (argsL := [(.ref a2), (.int (0 : Int32)), (.int (1 : Int32))]) (rest := []) (lenOf own_pd2 rfl) rfl (by show 2 * 0 + _ ≤ _; exact Nat.le_of_eq rfl) (hb hby d2_36) (fun _ _ => ⟨rfl, e26, (by decide : 0 + 1 ≤ _), (by decide : 0 + 1 ≤ _)⟩)
  dsimp only [Pt.U, Pt.locs, Pt.cells, Pt.slots] at X27 l27 y27 z27 st27 hQ27
  subst l27 y27 z27
  obtain ⟨ovb, okb, rfl, Nq27, Kq27, f27_0, f27_1⟩ := hQ27
  refine Go.st st27 ?_
  have N27 := Fr.app N0 Nq27
  have S_COMPACT_STRINGS_28 : Sta Z T27.heap "java/lang/String" "COMPACT_STRINGS" "Z" (.int cs) := own_Sta_keep S_COMPACT_STRINGS Kq27 all0
  have E_a1_28 : Exa Z T27.heap a1 "java/lang/String" := Exa.keep E_a1 Kq27
  have F_value_a1_28 : Fld Z T27.heap a1 "java/lang/String" "value" "[B" .null := Fld.keep F_value_a1 Kq27 nin0
  have F_coder_a1_28 : Fld Z T27.heap a1 "java/lang/String" "coder" "B" (.int (0 : Int32)) := Fld.keep F_coder_a1 Kq27 nin0
  have ne_a1_ovb : a1 ≠ ovb := Nat.ne_of_lt (Nat.lt_of_lt_of_le E_a1.lt f27_0)
  have g_ovb : n0 ≤ ovb := Nat.le_trans Z0 f27_0
  have mh_ovb : h0.size ≤ ovb := Nat.le_trans K0.1 f27_0
  have K27 : Keep h0 T27.heap [a1] := Keep.trans K0 Kq27 all0
  have Zs27 : n0 ≤ T27.heap.size := Nat.le_trans Z0 Kq27.1
  show Go p e below _ (T27.setTop (mkF m 39 #[.val (.ref a1), .val (.ref a2), .val (.int (0 : Int32)), .val (.int (1 : Int32)), .val .null, .unset] [(.ref ovb)]))
  refine g_astore X27 hx (hb hby d2_39) 41 rfl rfl #[.val (.ref a1), .val (.ref a2), .val (.int (0 : Int32)), .val (.int (1 : Int32)), .val .null, .val (.ref ovb)] rfl ?_
  refine g_aloadN X27 hx (hb hby d2_41) 42 rfl (v := (.ref a1)) rfl rfl ?_
  refine g_aload X27 hx (hb hby d2_42) 44 rfl (v := (.ref ovb)) rfl rfl ?_
  refine g_iloadN X27 hx (hb hby d2_44) 45 rfl (v := (1 : Int32)) rfl ?_
  obtain ⟨_, _, ⟨T29, L29, k29, n29⟩, -, X29, ⟨Lc29, hQ29, l29, y29, z29⟩, st29⟩ := Jvm.LawKit.callS X27 hx (y := (⟨"java/lang/StringUTF16", "coderFromArrayLen", "([BI)B"⟩ : MethodName)) hown (mvT hZ (hw _ (List.mem_of_getElem? (i := 58) rfl))) (mvT hZ (hw _ (List.mem_of_getElem? (i := 59) rfl))) (mvT hZ (hw _ (List.mem_of_getElem? (i := 53) rfl))) (mvT hZ (hw _ (List.mem_of_getElem? (i := 60) rfl))) (by decide) (backOf (W := 1) (rmcfl1 l Z a0 hw [] ovb okb ([(.int x1.toInt8.toInt32)]) T27.heap n0 Zs27 f27_1) hZ (hw _ (List.mem_of_getElem? (i := 60) rfl)) (hw _ (List.mem_of_getElem? (i := 53) rfl)) (by decide) (by decide)) (g := (mkF m 45 #[.val (.ref a1), .val (.ref a2), .val (.int (0 : Int32)), .val (.int (1 : Int32)), .val .null, .val (.ref ovb)] [(.int (1 : Int32)), (.ref ovb), (.ref a1)])) rfl (by rw [hml]; rfl) (argsL := [(.ref ovb), (.int (1 : Int32))]) (rest := [(.ref a1)]) (lenOf own_pd3 rfl) rfl (by show 2 * 0 + _ ≤ _; exact Nat.le_of_eq rfl) (hb hby d2_45) (fun _ _ => ⟨rfl, rfl, (by decide : 1 + 0 ≤ _), (by decide : 1 + 0 ≤ _)⟩)
  dsimp only [Pt.U, Pt.locs, Pt.cells, Pt.slots] at X29 l29 y29 z29 st29 hQ29
  subst l29 y29 z29
  obtain ⟨rfl, Nq29, e29⟩ := hQ29
  refine Go.st st29 ?_
  have N29 := Fr.app N27 Nq29
  show Go p e below _ (T29.setTop (mkF m 48 #[.val (.ref a1), .val (.ref a2), .val (.int (0 : Int32)), .val (.int (1 : Int32)), .val .null, .val (.ref ovb)] [(.int (0 : Int32)), (.ref a1)]))
  obtain ⟨T30, h30, X30, e30, W30, st30⟩ := putF X29 hx hZ hown (host := "") (Or.inl (hw _ (List.mem_of_getElem? (i := 21) rfl))) Via.refl e29 F_coder_a1_28 E_a1_28 (Or.inr ⟨(hw _ (List.mem_of_getElem? (i := 17) rfl)), rfl, hnm⟩) (hw _ (List.mem_of_getElem? (i := 2) rfl)) (ty := .byte) (by decide) rfl rfl (g := (mkF m 48 #[.val (.ref a1), .val (.ref a2), .val (.int (0 : Int32)), .val (.int (1 : Int32)), .val .null, .val (.ref ovb)] [(.int (0 : Int32)), (.ref a1)])) rfl rfl (hb hby d2_48)
  refine Go.st st30 ?_
  have S_COMPACT_STRINGS_31 : Sta Z h30 "java/lang/String" "COMPACT_STRINGS" "Z" (.int cs) := Sta.wr W30 S_COMPACT_STRINGS_28
  have E_a1_31 : Exa Z h30 a1 "java/lang/String" := Exa.wr W30 E_a1_28
  have F_value_a1_31 : Fld Z h30 a1 "java/lang/String" "value" "[B" .null := Fld.other W30 F_value_a1_28 (Or.inr (slot_ne (Or.inr (hw _ (List.mem_of_getElem? (i := 16) rfl))) (Or.inr (hw _ (List.mem_of_getElem? (i := 17) rfl))) (by decide) (t := (.array .byte)) (t' := .byte) (by decide) (by decide)))
  have A_ovb_31 : Arv Z h30 ovb okb .byte (1 : Int32) ([(.int x1.toInt8.toInt32)]) (.int (0 : Int32)) := Arv.other f27_1 W30 (Ne.symm ne_a1_ovb)
  have F_coder_a1_30w : Fld Z h30 a1 "java/lang/String" "coder" "B" (.int (0 : Int32)) := Fld.same W30 F_coder_a1_28
  have K30 : Keep h0 h30 [a1] := Keep.wr K27 W30 (Or.inl (List.mem_of_getElem? (i := 0) rfl))
  have N30 := Fr.snoc X30 N29 g_a1
  have Zs30 : n0 ≤ h30.size := by rw [W30.size]; exact Zs27
  show Go p e below _ (T30.setTop (mkF m 51 #[.val (.ref a1), .val (.ref a2), .val (.int (0 : Int32)), .val (.int (1 : Int32)), .val .null, .val (.ref ovb)] []))
  refine g_aloadN X30 hx (hb hby d2_51) 52 rfl (v := (.ref a1)) rfl rfl ?_
  refine g_aload X30 hx (hb hby d2_52) 54 rfl (v := (.ref ovb)) rfl rfl ?_
  obtain ⟨T32, h32, X32, e32, W32, st32⟩ := putF X30 hx hZ hown (host := "") (Or.inl (hw _ (List.mem_of_getElem? (i := 20) rfl))) Via.refl e30 F_value_a1_31 E_a1_31 (Or.inr ⟨(hw _ (List.mem_of_getElem? (i := 16) rfl)), rfl, hnm⟩) (hw _ (List.mem_of_getElem? (i := 2) rfl)) (ty := (.array .byte)) (by decide) rfl rfl (g := (mkF m 54 #[.val (.ref a1), .val (.ref a2), .val (.int (0 : Int32)), .val (.int (1 : Int32)), .val .null, .val (.ref ovb)] [(.ref ovb), (.ref a1)])) rfl rfl (hb hby d2_54)
  refine Go.st st32 ?_
  have S_COMPACT_STRINGS_33 : Sta Z h32 "java/lang/String" "COMPACT_STRINGS" "Z" (.int cs) := Sta.wr W32 S_COMPACT_STRINGS_31
  have E_a1_33 : Exa Z h32 a1 "java/lang/String" := Exa.wr W32 E_a1_31
  have A_ovb_33 : Arv Z h32 ovb okb .byte (1 : Int32) ([(.int x1.toInt8.toInt32)]) (.int (0 : Int32)) := Arv.other A_ovb_31 W32 (Ne.symm ne_a1_ovb)
  have F_coder_a1_33 : Fld Z h32 a1 "java/lang/String" "coder" "B" (.int (0 : Int32)) := Fld.other W32 F_coder_a1_30w (Or.inr (slot_ne (Or.inr (hw _ (List.mem_of_getElem? (i := 17) rfl))) (Or.inr (hw _ (List.mem_of_getElem? (i := 16) rfl))) (by decide) (t := .byte) (t' := (.array .byte)) (by decide) (by decide)))
  have F_value_a1_32w : Fld Z h32 a1 "java/lang/String" "value" "[B" (.ref ovb) := Fld.same W32 F_value_a1_31
  have K32 : Keep h0 h32 [a1] := Keep.wr K30 W32 (Or.inl (List.mem_of_getElem? (i := 0) rfl))
  have N32 := Fr.snoc X32 N30 g_a1
  have Zs32 : n0 ≤ h32.size := by rw [W32.size]; exact Zs30
  show Go p e below _ (T32.setTop (mkF m 57 #[.val (.ref a1), .val (.ref a2), .val (.int (0 : Int32)), .val (.int (1 : Int32)), .val .null, .val (.ref ovb)] []))
  refine Go.retV X32 hx hlk Bd.returns (hb hby d2_57) (by decide) (by decide) ?_
  show QsV1 Z a1 a2 cs kc x1 h0 n0 _ T32.heap _
  rw [e32]
  exact ⟨ovb, okb, rfl, N32, K32, mh_ovb, E_a1_33, F_value_a1_32w, F_coder_a1_33, A_ovb_33⟩
theorem ef_sC1 (m : MethodId) (x0 : Addr) (x1 : Addr) : entryFrame m #[(.ref x0), (.ref x1)] 2 = mkF m 0 #[.val (.ref x0), .val (.ref x1)] [] := by first | (simp [entryFrame, mkF, argsToLocals, Value.category]; done) | rfl
def QsC1 (Z : State) (a1 : Addr) (a2 : Addr) (cs : Int32) (kc : ClassId) (x1 : Int32) (h0 : Heap) (n0 : Nat) (v : Option Value) (h : Heap) (L : List Loc) : Prop := ∃ vb : Addr, ∃ kb : ClassId, v = none ∧ Fr n0 L ∧ Keep h0 h [a1] ∧ h0.size ≤ vb ∧ (Exa Z h a1 "java/lang/String") ∧ (Fld Z h a1 "java/lang/String" "value" "[B" (.ref vb)) ∧ (Fld Z h a1 "java/lang/String" "coder" "B" (.int (0 : Int32))) ∧ (Arv Z h vb kb .byte (1 : Int32) ([(.int x1.toInt8.toInt32)]) (.int (0 : Int32)))
set_option maxRecDepth 65536 in
set_option maxHeartbeats 40000000 in
theorem rmsC1 (l : Launch) (Z : State) (a0 : Array Value) (hw : ∀ d ∈ tables_1, d.before a0 Z = true) (ws : List Jvm.Cond) (a1 : Addr) (a2 : Addr) (cs : Int32) (kc : ClassId) (x1 : Int32) (h0 : Heap) (n0 : Nat) (Z0 : n0 ≤ h0.size) (S_COMPACT_STRINGS : Sta Z h0 "java/lang/String" "COMPACT_STRINGS" "Z" (.int cs)) (E_a1 : Exa Z h0 a1 "java/lang/String") (g_a1 : n0 ≤ a1) (F_value_a1 : Fld Z h0 a1 "java/lang/String" "value" "[B" .null) (F_coder_a1 : Fld Z h0 a1 "java/lang/String" "coder" "B" (.int (0 : Int32))) (A_a2 : Arv Z h0 a2 kc .char (1 : Int32) ([(.int x1)]) (.int (0 : Int32))) (ne_a1_a2 : a1 ≠ a2) (hcs : ¬ cs = 0) (hx1 : ¬ (255 : Int32) < x1) :
    MetFree l (⟨"java/lang/String", "<init>", "([C)V"⟩ : MethodName) (head1 (Jvm.Cond.code (⟨"java/lang/String", "<init>", "([C)V"⟩ : MethodName) jdk_42_method_3_code 2 none :: ws) ({ frames := 3, cells := 1, slots := 1, locals := 52 } : Room)) (fun a U => a = #[(.ref a1), (.ref a2)] ∧ Z.Warmed39 U.vm ∧ U.heap = h0) (fun _ _ _ _ _ => True) (fun _ U o U' => ∃ v L, o = .returned v ∧ QsC1 Z a1 a2 cs kc x1 h0 n0 v U'.heap L ∧ FrameEnd U o U' L ({ frames := 3, cells := 1, slots := 1, locals := 52 } : Room).cells ({ frames := 3, cells := 1, slots := 1, locals := 52 } : Room).slots) := by
  refine MetFree.of_bodySF (plainFor_of_name own_pn_java_lang_String) hisR ?_
  intro p e s m args below meth c s₁ Bd hml0 hP hK
  obtain ⟨rfl, hZ, hh⟩ := hP
  have hx := Bd.exec
  have hby := Bd.bytes
  have hlk := Bd.notSynchronized
  have hml : c.maxLocals = 2 := hml0
  have hown : s.vm.findClass "java/lang/String" = some m.cls := findClass_of_methodNamed Bd.named
  have hnm := (name_of_methodNamed Bd.named Bd.method).1
  have X0 : Stand p l e ({ frames := 3, cells := 1, slots := 1, locals := 52 } : Room) s m #[(.ref a1), (.ref a2)] below meth c s₁ [] 0 0 := Stand.of_body Bd
  have e0 : s₁.heap = h0 := by rw [← hh, Bd.state]; rfl
  have N0 := Fr.nil n0
  have K0 : Keep h0 h0 [a1] := Keep.refl _ _
  show Go p e below (KQ s below (QsC1 Z a1 a2 cs kc x1 h0 n0) ({ frames := 3, cells := 1, slots := 1, locals := 52 } : Room).cells ({ frames := 3, cells := 1, slots := 1, locals := 52 } : Room).slots) _
  refine Go.body (T := s₁) (σ := s₁) (g' := (mkF m 0 #[.val (.ref a1), .val (.ref a2)] [])) (ef_sC1 m a1 a2) ?_
  refine g_aloadN X0 hx (hb hby d1_0) 1 rfl (v := (.ref a1)) rfl rfl ?_
  refine g_aloadN X0 hx (hb hby d1_1) 2 rfl (v := (.ref a2)) rfl rfl ?_
  refine g_iconst X0 hx (hb hby d1_2) 3 rfl (0 : Int32) rfl ?_
  refine g_aloadN X0 hx (hb hby d1_3) 4 rfl (v := (.ref a2)) rfl rfl ?_
  refine g_alen X0 hx (hb hby d1_4) 5 rfl hZ e0 A_a2 ?_
  refine g_null X0 hx (hb hby d1_5) 6 rfl ?_
  obtain ⟨_, _, ⟨T35, L35, k35, n35⟩, -, X35, ⟨Lc35, hQ35, l35, y35, z35⟩, st35⟩ := X0.specialBack hx (y := (⟨"java/lang/String", "<init>", "([CIILjava/lang/Void;)V"⟩ : MethodName)) rfl hown (mvT hZ (hw _ (List.mem_of_getElem? (i := 7) rfl))) (mvT hZ (hw _ (List.mem_of_getElem? (i := 8) rfl))) (mvT hZ (hw _ (List.mem_of_getElem? (i := 10) rfl))) (by decide) (backOf (W := 0) (rmsV1 l Z a0 hw [] a1 a2 cs kc x1 h0 n0 Z0 S_COMPACT_STRINGS E_a1 g_a1 F_value_a1 F_coder_a1 A_a2 ne_a1_a2 hcs hx1) hZ (hw _ (List.mem_of_getElem? (i := 10) rfl)) (hw _ (List.mem_of_getElem? (i := 3) rfl)) (by decide) (by decide)) (g := (mkF m 6 #[.val (.ref a1), .val (.ref a2)] [.null, (.int (1 : Int32)), (.int (0 : Int32)), (.ref a2), (.ref a1)])) rfl (by rw [hml]; rfl) (Steps.refl _) (a := a1) (argsL := [(.ref a2), (.int (0 : Int32)), (.int (1 : Int32)), .null]) (rest := []) (lenOf own_pd0 rfl) rfl (by show 2 * 0 + _ ≤ _; exact Nat.le_of_eq rfl) (hb hby d1_6) (fun _ _ => ⟨rfl, e0, (by decide : 0 + 1 ≤ _), (by decide : 0 + 1 ≤ _)⟩)
  dsimp only [Pt.U, Pt.locs, Pt.cells, Pt.slots] at X35 l35 y35 z35 st35 hQ35
  subst l35 y35 z35
  obtain ⟨ovb, okb, rfl, Nq35, Kq35, f35_0, f35_1, f35_2, f35_3, f35_4⟩ := hQ35
  refine Go.tr st35 ?_
  have N35 := Fr.app N0 Nq35
  have S_COMPACT_STRINGS_36 : Sta Z T35.heap "java/lang/String" "COMPACT_STRINGS" "Z" (.int cs) := own_Sta_keep S_COMPACT_STRINGS Kq35 (allS (own_ns E_a1) all0)
  have E_a1_36 : Exa Z T35.heap a1 "java/lang/String" := Exa.keep E_a1 Kq35
  have ne_a1_ovb : a1 ≠ ovb := Nat.ne_of_lt (Nat.lt_of_lt_of_le E_a1.lt f35_0)
  have g_ovb : n0 ≤ ovb := Nat.le_trans Z0 f35_0
  have mh_ovb : h0.size ≤ ovb := Nat.le_trans K0.1 f35_0
  have K35 : Keep h0 T35.heap [a1] := Keep.trans K0 Kq35 (allS (Or.inl (List.mem_of_getElem? (i := 0) rfl)) all0)
  have Zs35 : n0 ≤ T35.heap.size := Nat.le_trans Z0 Kq35.1
  show Go p e below _ (T35.setTop (mkF m 9 #[.val (.ref a1), .val (.ref a2)] []))
  refine Go.retV X35 hx hlk Bd.returns (hb hby d1_9) (by decide) (by decide) ?_
  show QsC1 Z a1 a2 cs kc x1 h0 n0 _ T35.heap _
  exact ⟨ovb, okb, rfl, N35, K35, mh_ovb, f35_1, f35_2, f35_3, f35_4⟩
theorem ef_cmp2 (m : MethodId) (x0 : Addr) (x1 : Int32) (x2 : Addr) (x3 : Int32) (x4 : Int32) : entryFrame m #[(.ref x0), (.int x1), (.ref x2), (.int x3), (.int x4)] 7 = mkF m 0 #[.val (.ref x0), .val (.int x1), .val (.ref x2), .val (.int x3), .val (.int x4), .unset, .unset] [] := by first | (simp [entryFrame, mkF, argsToLocals, Value.category]; done) | rfl
def Qcmp2 (Z : State) (a1 : Addr) (a3 : Addr) (kc : ClassId) (kb : ClassId) (x1 : Int32) (x2 : Int32) (h0 : Heap) (n0 : Nat) (v : Option Value) (h : Heap) (L : List Loc) : Prop := v = some (.int (2 : Int32)) ∧ Fr n0 L ∧ Keep h0 h [a3] ∧ (Arv Z h a3 kb .byte (2 : Int32) ([(.int x1.toInt8.toInt32), (.int x2.toInt8.toInt32)]) (.int (0 : Int32)))
set_option maxRecDepth 65536 in
set_option maxHeartbeats 40000000 in
theorem rmcmp2 (l : Launch) (Z : State) (a0 : Array Value) (hw : ∀ d ∈ tables_1, d.before a0 Z = true) (ws : List Jvm.Cond) (a1 : Addr) (a3 : Addr) (kc : ClassId) (kb : ClassId) (x1 : Int32) (x2 : Int32) (h0 : Heap) (n0 : Nat) (Z0 : n0 ≤ h0.size) (A_a1 : Arv Z h0 a1 kc .char (2 : Int32) ([(.int x1), (.int x2)]) (.int (0 : Int32))) (A_a3 : Arv Z h0 a3 kb .byte (2 : Int32) ([(.int (0 : Int32)), (.int (0 : Int32))]) (.int (0 : Int32))) (g_a3 : n0 ≤ a3) (ne_a1_a3 : a1 ≠ a3) (hx1 : ¬ (255 : Int32) < x1) (hx2 : ¬ (255 : Int32) < x2) :
    MetFree l (⟨"java/lang/StringUTF16", "compress", "([CI[BII)I"⟩ : MethodName) (head1 (Jvm.Cond.code (⟨"java/lang/StringUTF16", "compress", "([CI[BII)I"⟩ : MethodName) jdk_52_method_21_code 7 (some .int) :: ws) ({ frames := 0, cells := 0, slots := 0, locals := 0 } : Room)) (fun a U => a = #[(.ref a1), (.int (0 : Int32)), (.ref a3), (.int (0 : Int32)), (.int (2 : Int32))] ∧ Z.Warmed39 U.vm ∧ U.heap = h0) (fun _ _ _ _ _ => True) (fun _ U o U' => ∃ v L, o = .returned v ∧ Qcmp2 Z a1 a3 kc kb x1 x2 h0 n0 v U'.heap L ∧ FrameEnd U o U' L ({ frames := 0, cells := 0, slots := 0, locals := 0 } : Room).cells ({ frames := 0, cells := 0, slots := 0, locals := 0 } : Room).slots) := by
  refine MetFree.of_bodySF (plainFor_of_name own_pn_java_lang_StringUTF16) hisR ?_
  intro p e s m args below meth c s₁ Bd hml0 hP hK
  obtain ⟨rfl, hZ, hh⟩ := hP
  have hx := Bd.exec
  have hby := Bd.bytes
  have hlk := Bd.notSynchronized
  have hml : c.maxLocals = 7 := hml0
  have hown : s.vm.findClass "java/lang/StringUTF16" = some m.cls := findClass_of_methodNamed Bd.named
  have hnm := (name_of_methodNamed Bd.named Bd.method).1
  have X0 : Stand p l e ({ frames := 0, cells := 0, slots := 0, locals := 0 } : Room) s m #[(.ref a1), (.int (0 : Int32)), (.ref a3), (.int (0 : Int32)), (.int (2 : Int32))] below meth c s₁ [] 0 0 := Stand.of_body Bd
  have e0 : s₁.heap = h0 := by rw [← hh, Bd.state]; rfl
  have N0 := Fr.nil n0
  have K0 : Keep h0 h0 [a3] := Keep.refl _ _
  show Go p e below (KQ s below (Qcmp2 Z a1 a3 kc kb x1 x2 h0 n0) ({ frames := 0, cells := 0, slots := 0, locals := 0 } : Room).cells ({ frames := 0, cells := 0, slots := 0, locals := 0 } : Room).slots) _
  refine Go.body (T := s₁) (σ := s₁) (g' := (mkF m 0 #[.val (.ref a1), .val (.int (0 : Int32)), .val (.ref a3), .val (.int (0 : Int32)), .val (.int (2 : Int32)), .unset, .unset] [])) (ef_cmp2 m a1 (0 : Int32) a3 (0 : Int32) (2 : Int32)) ?_
  refine g_iconst X0 hx (hb hby d9_0) 1 rfl (0 : Int32) rfl ?_
  refine g_istore X0 hx (hb hby d9_1) 3 rfl #[.val (.ref a1), .val (.int (0 : Int32)), .val (.ref a3), .val (.int (0 : Int32)), .val (.int (2 : Int32)), .val (.int (0 : Int32)), .unset] rfl ?_
  refine g_iload X0 hx (hb hby d9_3) 5 rfl (v := (0 : Int32)) rfl ?_
  refine g_iload X0 hx (hb hby d9_5) 7 rfl (v := (2 : Int32)) rfl ?_
  refine g_icmp_ge X0 hx (hb hby d9_7) 44 10 (by decide) (by decide) rfl (fun hc7 => False.elim (absurd (by decide) hc7)) (fun hc7 => ?_)
  refine g_aloadN X0 hx (hb hby d9_10) 11 rfl (v := (.ref a1)) rfl rfl ?_
  refine g_iloadN X0 hx (hb hby d9_11) 12 rfl (v := (0 : Int32)) rfl ?_
  refine g_caload X0 hx (hb hby d9_12) 13 rfl hZ e0 A_a1 (show ¬ (0 : Int32) < 0 ∧ (0 : Int32) < (2 : Int32) from by decide) (.int x1) rfl ?_
  refine g_istore X0 hx (hb hby d9_13) 15 rfl #[.val (.ref a1), .val (.int (0 : Int32)), .val (.ref a3), .val (.int (0 : Int32)), .val (.int (2 : Int32)), .val (.int (0 : Int32)), .val (.int x1)] rfl ?_
  refine g_iload X0 hx (hb hby d9_15) 17 rfl (v := x1) rfl ?_
  refine g_sipush X0 hx (hb hby d9_17) 20 rfl (255 : Int32) rfl ?_
  refine g_icmp_le X0 hx (hb hby d9_20) 26 23 (by decide) (by decide) rfl (fun hc20 => ?_) (fun hc20 => False.elim (hx1 hc20))
  refine g_aloadN X0 hx (hb hby d9_26) 27 rfl (v := (.ref a3)) rfl rfl ?_
  refine g_iloadN X0 hx (hb hby d9_27) 28 rfl (v := (0 : Int32)) rfl ?_
  refine g_iload X0 hx (hb hby d9_28) 30 rfl (v := x1) rfl ?_
  refine g_i2b X0 hx (hb hby d9_30) 31 rfl x1.toInt8.toInt32 rfl ?_
  obtain ⟨T38, h38, X38, e38, W38, B38, st38⟩ := g_bastore X0 hx (hb hby d9_31) hZ e0 A_a3 (show ¬ (0 : Int32) < 0 ∧ (0 : Int32) < (2 : Int32) from by decide) (i := 0) (by decide) (by simp)  (L := #[.val (.ref a1), .val (.int (0 : Int32)), .val (.ref a3), .val (.int (0 : Int32)), .val (.int (2 : Int32)), .val (.int (0 : Int32)), .val (.int x1)]) (S := [])
  refine Go.st st38 ?_
  have Av_a3_38 : Arv Z h38 a3 kb .byte (2 : Int32) ([(.int x1.toInt8.toInt32), (.int (0 : Int32))]) (.int (0 : Int32)) := (by have q := B38; rw [own_i2b] at q; exact q)
  have K38 : Keep h0 h38 [a3] := Keep.wr K0 W38 (Or.inl (List.mem_of_getElem? (i := 0) rfl))
  have N38 := Fr.snoc X38 N0 g_a3
  have Zs38 : n0 ≤ h38.size := by rw [W38.size]; exact Z0
  show Go p e below _ (T38.setTop (mkF m 32 #[.val (.ref a1), .val (.int (0 : Int32)), .val (.ref a3), .val (.int (0 : Int32)), .val (.int (2 : Int32)), .val (.int (0 : Int32)), .val (.int x1)] []))
  refine g_iinc X38 hx (hb hby d9_32) 35 rfl (x := (0 : Int32)) rfl ((0 : Int32) + (1 : Int32)) rfl #[.val (.ref a1), .val (.int ((0 : Int32) + (1 : Int32))), .val (.ref a3), .val (.int (0 : Int32)), .val (.int (2 : Int32)), .val (.int (0 : Int32)), .val (.int x1)] rfl ?_
  refine g_iinc X38 hx (hb hby d9_35) 38 rfl (x := (0 : Int32)) rfl ((0 : Int32) + (1 : Int32)) rfl #[.val (.ref a1), .val (.int ((0 : Int32) + (1 : Int32))), .val (.ref a3), .val (.int ((0 : Int32) + (1 : Int32))), .val (.int (2 : Int32)), .val (.int (0 : Int32)), .val (.int x1)] rfl ?_
  refine g_iinc X38 hx (hb hby d9_38) 41 rfl (x := (0 : Int32)) rfl ((0 : Int32) + (1 : Int32)) rfl #[.val (.ref a1), .val (.int ((0 : Int32) + (1 : Int32))), .val (.ref a3), .val (.int ((0 : Int32) + (1 : Int32))), .val (.int (2 : Int32)), .val (.int ((0 : Int32) + (1 : Int32))), .val (.int x1)] rfl ?_
  refine g_goto X38 hx (hb hby d9_41) 3 (by decide) (by decide) ?_
  refine g_iload X38 hx (hb hby d9_3) 5 rfl (v := ((0 : Int32) + (1 : Int32))) rfl ?_
  refine g_iload X38 hx (hb hby d9_5) 7 rfl (v := (2 : Int32)) rfl ?_
  refine g_icmp_ge X38 hx (hb hby d9_7) 44 10 (by decide) (by decide) rfl (fun hc7 => False.elim (absurd (by decide) hc7)) (fun hc7 => ?_)
  refine g_aloadN X38 hx (hb hby d9_10) 11 rfl (v := (.ref a1)) rfl rfl ?_
  refine g_iloadN X38 hx (hb hby d9_11) 12 rfl (v := ((0 : Int32) + (1 : Int32))) rfl ?_
  refine g_caload X38 hx (hb hby d9_12) 13 rfl hZ e38 (Arv.keep A_a1 K38 (ninS ne_a1_a3 nin0)) (show ¬ ((0 : Int32) + (1 : Int32)) < 0 ∧ ((0 : Int32) + (1 : Int32)) < (2 : Int32) from by decide) (.int x2) rfl ?_
  refine g_istore X38 hx (hb hby d9_13) 15 rfl #[.val (.ref a1), .val (.int ((0 : Int32) + (1 : Int32))), .val (.ref a3), .val (.int ((0 : Int32) + (1 : Int32))), .val (.int (2 : Int32)), .val (.int ((0 : Int32) + (1 : Int32))), .val (.int x2)] rfl ?_
  refine g_iload X38 hx (hb hby d9_15) 17 rfl (v := x2) rfl ?_
  refine g_sipush X38 hx (hb hby d9_17) 20 rfl (255 : Int32) rfl ?_
  refine g_icmp_le X38 hx (hb hby d9_20) 26 23 (by decide) (by decide) rfl (fun hc20 => ?_) (fun hc20 => False.elim (hx2 hc20))
  refine g_aloadN X38 hx (hb hby d9_26) 27 rfl (v := (.ref a3)) rfl rfl ?_
  refine g_iloadN X38 hx (hb hby d9_27) 28 rfl (v := ((0 : Int32) + (1 : Int32))) rfl ?_
  refine g_iload X38 hx (hb hby d9_28) 30 rfl (v := x2) rfl ?_
  refine g_i2b X38 hx (hb hby d9_30) 31 rfl x2.toInt8.toInt32 rfl ?_
  obtain ⟨T41, h41, X41, e41, W41, B41, st41⟩ := g_bastore X38 hx (hb hby d9_31) hZ e38 Av_a3_38 (show ¬ ((0 : Int32) + (1 : Int32)) < 0 ∧ ((0 : Int32) + (1 : Int32)) < (2 : Int32) from by decide) (i := 1) (by decide) (by simp)  (L := #[.val (.ref a1), .val (.int ((0 : Int32) + (1 : Int32))), .val (.ref a3), .val (.int ((0 : Int32) + (1 : Int32))), .val (.int (2 : Int32)), .val (.int ((0 : Int32) + (1 : Int32))), .val (.int x2)]) (S := [])
  refine Go.st st41 ?_
  have Av_a3_41 : Arv Z h41 a3 kb .byte (2 : Int32) ([(.int x1.toInt8.toInt32), (.int x2.toInt8.toInt32)]) (.int (0 : Int32)) := (by have q := B41; rw [own_i2b] at q; exact q)
  have K41 : Keep h0 h41 [a3] := Keep.wr K38 W41 (Or.inl (List.mem_of_getElem? (i := 0) rfl))
  have N41 := Fr.snoc X41 N38 g_a3
  have Zs41 : n0 ≤ h41.size := by rw [W41.size]; exact Zs38
  show Go p e below _ (T41.setTop (mkF m 32 #[.val (.ref a1), .val (.int ((0 : Int32) + (1 : Int32))), .val (.ref a3), .val (.int ((0 : Int32) + (1 : Int32))), .val (.int (2 : Int32)), .val (.int ((0 : Int32) + (1 : Int32))), .val (.int x2)] []))
  refine g_iinc X41 hx (hb hby d9_32) 35 rfl (x := ((0 : Int32) + (1 : Int32))) rfl (((0 : Int32) + (1 : Int32)) + (1 : Int32)) rfl #[.val (.ref a1), .val (.int (((0 : Int32) + (1 : Int32)) + (1 : Int32))), .val (.ref a3), .val (.int ((0 : Int32) + (1 : Int32))), .val (.int (2 : Int32)), .val (.int ((0 : Int32) + (1 : Int32))), .val (.int x2)] rfl ?_
  refine g_iinc X41 hx (hb hby d9_35) 38 rfl (x := ((0 : Int32) + (1 : Int32))) rfl (((0 : Int32) + (1 : Int32)) + (1 : Int32)) rfl #[.val (.ref a1), .val (.int (((0 : Int32) + (1 : Int32)) + (1 : Int32))), .val (.ref a3), .val (.int (((0 : Int32) + (1 : Int32)) + (1 : Int32))), .val (.int (2 : Int32)), .val (.int ((0 : Int32) + (1 : Int32))), .val (.int x2)] rfl ?_
  refine g_iinc X41 hx (hb hby d9_38) 41 rfl (x := ((0 : Int32) + (1 : Int32))) rfl (((0 : Int32) + (1 : Int32)) + (1 : Int32)) rfl #[.val (.ref a1), .val (.int (((0 : Int32) + (1 : Int32)) + (1 : Int32))), .val (.ref a3), .val (.int (((0 : Int32) + (1 : Int32)) + (1 : Int32))), .val (.int (2 : Int32)), .val (.int (((0 : Int32) + (1 : Int32)) + (1 : Int32))), .val (.int x2)] rfl ?_
  refine g_goto X41 hx (hb hby d9_41) 3 (by decide) (by decide) ?_
  refine g_iload X41 hx (hb hby d9_3) 5 rfl (v := (((0 : Int32) + (1 : Int32)) + (1 : Int32))) rfl ?_
  refine g_iload X41 hx (hb hby d9_5) 7 rfl (v := (2 : Int32)) rfl ?_
  refine g_icmp_ge X41 hx (hb hby d9_7) 44 10 (by decide) (by decide) rfl (fun hc7 => ?_) (fun hc7 => False.elim (absurd hc7 (by decide)))
  refine g_iload X41 hx (hb hby d9_44) 46 rfl (v := (2 : Int32)) rfl ?_
  refine Go.retI X41 hx hlk Bd.returns (hb hby d9_46) (by decide) (by decide) ?_
  show Qcmp2 Z a1 a3 kc kb x1 x2 h0 n0 _ T41.heap _
  rw [e41]
  exact ⟨rfl, N41, K41, Av_a3_41⟩
theorem ef_cmpa2 (m : MethodId) (x0 : Addr) (x1 : Int32) (x2 : Int32) : entryFrame m #[(.ref x0), (.int x1), (.int x2)] 6 = mkF m 0 #[.val (.ref x0), .val (.int x1), .val (.int x2), .unset, .unset, .unset] [] := by first | (simp [entryFrame, mkF, argsToLocals, Value.category]; done) | rfl
def Qcmpa2 (Z : State) (a1 : Addr) (kc : ClassId) (x1 : Int32) (x2 : Int32) (h0 : Heap) (n0 : Nat) (v : Option Value) (h : Heap) (L : List Loc) : Prop := ∃ b : Addr, ∃ kb : ClassId, v = some (.ref b) ∧ Fr n0 L ∧ Keep h0 h [] ∧ h0.size ≤ b ∧ (Arv Z h b kb .byte (2 : Int32) ([(.int x1.toInt8.toInt32), (.int x2.toInt8.toInt32)]) (.int (0 : Int32)))
set_option maxRecDepth 65536 in
set_option maxHeartbeats 40000000 in
theorem rmcmpa2 (l : Launch) (Z : State) (a0 : Array Value) (hw : ∀ d ∈ tables_1, d.before a0 Z = true) (ws : List Jvm.Cond) (a1 : Addr) (kc : ClassId) (x1 : Int32) (x2 : Int32) (h0 : Heap) (n0 : Nat) (Z0 : n0 ≤ h0.size) (A_a1 : Arv Z h0 a1 kc .char (2 : Int32) ([(.int x1), (.int x2)]) (.int (0 : Int32))) (hx1 : ¬ (255 : Int32) < x1) (hx2 : ¬ (255 : Int32) < x2) :
    MetFree l (⟨"java/lang/StringUTF16", "compress", "([CII)[B"⟩ : MethodName) (head1 (Jvm.Cond.code (⟨"java/lang/StringUTF16", "compress", "([CII)[B"⟩ : MethodName) jdk_52_method_16_code 6 (some (.array .byte)) :: ws) ({ frames := 1, cells := 1, slots := 2, locals := 18 } : Room)) (fun a U => a = #[(.ref a1), (.int (0 : Int32)), (.int (2 : Int32))] ∧ Z.Warmed39 U.vm ∧ U.heap = h0) (fun _ _ _ _ _ => True) (fun _ U o U' => ∃ v L, o = .returned v ∧ Qcmpa2 Z a1 kc x1 x2 h0 n0 v U'.heap L ∧ FrameEnd U o U' L ({ frames := 1, cells := 1, slots := 2, locals := 18 } : Room).cells ({ frames := 1, cells := 1, slots := 2, locals := 18 } : Room).slots) := by
  refine MetFree.of_bodySF (plainFor_of_name own_pn_java_lang_StringUTF16) hisR ?_
  intro p e s m args below meth c s₁ Bd hml0 hP hK
  obtain ⟨rfl, hZ, hh⟩ := hP
  have hx := Bd.exec
  have hby := Bd.bytes
  have hlk := Bd.notSynchronized
  have hml : c.maxLocals = 6 := hml0
  have hown : s.vm.findClass "java/lang/StringUTF16" = some m.cls := findClass_of_methodNamed Bd.named
  have hnm := (name_of_methodNamed Bd.named Bd.method).1
  have X0 : Stand p l e ({ frames := 1, cells := 1, slots := 2, locals := 18 } : Room) s m #[(.ref a1), (.int (0 : Int32)), (.int (2 : Int32))] below meth c s₁ [] 0 0 := Stand.of_body Bd
  have e0 : s₁.heap = h0 := by rw [← hh, Bd.state]; rfl
  have N0 := Fr.nil n0
  have K0 : Keep h0 h0 [] := Keep.refl _ _
  show Go p e below (KQ s below (Qcmpa2 Z a1 kc x1 x2 h0 n0) ({ frames := 1, cells := 1, slots := 2, locals := 18 } : Room).cells ({ frames := 1, cells := 1, slots := 2, locals := 18 } : Room).slots) _
  refine Go.body (T := s₁) (σ := s₁) (g' := (mkF m 0 #[.val (.ref a1), .val (.int (0 : Int32)), .val (.int (2 : Int32)), .unset, .unset, .unset] [])) (ef_cmpa2 m a1 (0 : Int32) (2 : Int32)) ?_
  refine g_iloadN X0 hx (hb hby d8_0) 1 rfl (v := (2 : Int32)) rfl ?_
  obtain ⟨T43, h43, cA43, X43, e43, E43, A43, st43⟩ := newP X0 hx hZ (aty := .byte) (hw _ (List.mem_of_getElem? (i := 15) rfl)) e0 (g := (mkF m 1 #[.val (.ref a1), .val (.int (0 : Int32)), .val (.int (2 : Int32)), .unset, .unset, .unset] [(.int (2 : Int32))])) rfl (hb hby d8_1) rfl (by decide) (cap := 2) (by decide) (by decide) (by decide) (by decide)
  refine Go.st st43 ?_
  obtain ⟨ob, q43⟩ : ∃ z, z = h0.size := ⟨_, rfl⟩
  rw [← q43] at A43 ⊢
  have g_ob : n0 ≤ ob := Nat.le_trans Z0 (Nat.le_of_eq q43.symm)
  have mh_ob : h0.size ≤ ob := Nat.le_trans K0.1 (Nat.le_of_eq q43.symm)
  have K43 : Keep h0 h43 [] := Keep.ext K0 E43
  have Zs43 : n0 ≤ h43.size := Nat.le_trans Z0 E43.1
  have Av_ob : Arv Z h43 ob cA43 .byte (2 : Int32) ([(.int (0 : Int32)), (.int (0 : Int32))]) (.int (0 : Int32)) := Arv.pad (Arv.new A43 (by decide)) (pad_rep [] (.int (0 : Int32)) 2)
  show Go p e below _ (T43.setTop (mkF m 3 #[.val (.ref a1), .val (.int (0 : Int32)), .val (.int (2 : Int32)), .unset, .unset, .unset] [(.ref ob)]))
  refine g_astoreN X43 hx (hb hby d8_3) 4 rfl rfl #[.val (.ref a1), .val (.int (0 : Int32)), .val (.int (2 : Int32)), .val (.ref ob), .unset, .unset] rfl ?_
  refine g_aloadN X43 hx (hb hby d8_4) 5 rfl (v := (.ref a1)) rfl rfl ?_
  refine g_iloadN X43 hx (hb hby d8_5) 6 rfl (v := (0 : Int32)) rfl ?_
  refine g_aloadN X43 hx (hb hby d8_6) 7 rfl (v := (.ref ob)) rfl rfl ?_
  refine g_iconst X43 hx (hb hby d8_7) 8 rfl (0 : Int32) rfl ?_
  refine g_iloadN X43 hx (hb hby d8_8) 9 rfl (v := (2 : Int32)) rfl ?_
  obtain ⟨_, _, ⟨T45, L45, k45, n45⟩, -, X45, ⟨Lc45, hQ45, l45, y45, z45⟩, st45⟩ := Jvm.LawKit.callS X43 hx (y := (⟨"java/lang/StringUTF16", "compress", "([CI[BII)I"⟩ : MethodName)) hown (mvT hZ (hw _ (List.mem_of_getElem? (i := 55) rfl))) (mvT hZ (hw _ (List.mem_of_getElem? (i := 56) rfl))) (mvT hZ (hw _ (List.mem_of_getElem? (i := 53) rfl))) (mvT hZ (hw _ (List.mem_of_getElem? (i := 57) rfl))) (by decide) (backOf (W := 0) (rmcmp2 l Z a0 hw [] a1 ob kc cA43 x1 x2 h43 n0 Zs43 (Arv.keep A_a1 K43 nin0) Av_ob g_ob (Nat.ne_of_lt (Nat.lt_of_lt_of_le A_a1.lt mh_ob)) hx1 hx2) hZ (hw _ (List.mem_of_getElem? (i := 57) rfl)) (hw _ (List.mem_of_getElem? (i := 53) rfl)) (by decide) (by decide)) (g := (mkF m 9 #[.val (.ref a1), .val (.int (0 : Int32)), .val (.int (2 : Int32)), .val (.ref ob), .unset, .unset] [(.int (2 : Int32)), (.int (0 : Int32)), (.ref ob), (.int (0 : Int32)), (.ref a1)])) rfl (by rw [hml]; rfl) (argsL := [(.ref a1), (.int (0 : Int32)), (.ref ob), (.int (0 : Int32)), (.int (2 : Int32))]) (rest := []) (lenOf own_pd1 rfl) rfl (by show 2 * 0 + _ ≤ _; exact Nat.le_of_eq rfl) (hb hby d8_9) (fun _ _ => ⟨rfl, e43, (by decide : 1 + 0 ≤ _), (by decide : 2 + 0 ≤ _)⟩)
  dsimp only [Pt.U, Pt.locs, Pt.cells, Pt.slots] at X45 l45 y45 z45 st45 hQ45
  subst l45 y45 z45
  obtain ⟨rfl, Nq45, Kq45, f45_0⟩ := hQ45
  refine Go.st st45 ?_
  have N45 := Fr.app N0 Nq45
  have K45 : Keep h0 T45.heap [] := Keep.trans K43 Kq45 (allS (Or.inr mh_ob) all0)
  have Zs45 : n0 ≤ T45.heap.size := Nat.le_trans Zs43 Kq45.1
  show Go p e below _ (T45.setTop (mkF m 12 #[.val (.ref a1), .val (.int (0 : Int32)), .val (.int (2 : Int32)), .val (.ref ob), .unset, .unset] [(.int (2 : Int32))]))
  refine g_istore X45 hx (hb hby d8_12) 14 rfl #[.val (.ref a1), .val (.int (0 : Int32)), .val (.int (2 : Int32)), .val (.ref ob), .val (.int (2 : Int32)), .unset] rfl ?_
  refine g_iload X45 hx (hb hby d8_14) 16 rfl (v := (2 : Int32)) rfl ?_
  refine g_iloadN X45 hx (hb hby d8_16) 17 rfl (v := (2 : Int32)) rfl ?_
  refine g_icmp_eq X45 hx (hb hby d8_17) 57 20 (by decide) (by decide) rfl (fun hc17 => ?_) (fun hc17 => False.elim (hc17 rfl))
  refine g_aloadN X45 hx (hb hby d8_57) 58 rfl (v := (.ref ob)) rfl rfl ?_
  refine Go.retA X45 hx hlk Bd.returns rfl rfl (hb hby d8_58) (by decide) (by decide) ?_
  show Qcmpa2 Z a1 kc x1 x2 h0 n0 _ T45.heap _
  exact ⟨ob, cA43, rfl, N45, K45, mh_ob, f45_0⟩
theorem ef_cfl2 (m : MethodId) (x0 : Addr) (x1 : Int32) : entryFrame m #[(.ref x0), (.int x1)] 2 = mkF m 0 #[.val (.ref x0), .val (.int x1)] [] := by first | (simp [entryFrame, mkF, argsToLocals, Value.category]; done) | rfl
def Qcfl2 (Z : State) (a1 : Addr) (kb : ClassId) (vs : List Value) (h0 : Heap) (n0 : Nat) (v : Option Value) (h : Heap) (L : List Loc) : Prop := v = some (.int (0 : Int32)) ∧ Fr n0 L ∧ h = h0
set_option maxRecDepth 65536 in
set_option maxHeartbeats 40000000 in
theorem rmcfl2 (l : Launch) (Z : State) (a0 : Array Value) (hw : ∀ d ∈ tables_1, d.before a0 Z = true) (ws : List Jvm.Cond) (a1 : Addr) (kb : ClassId) (vs : List Value) (h0 : Heap) (n0 : Nat) (Z0 : n0 ≤ h0.size) (A_a1 : Arv Z h0 a1 kb .byte (2 : Int32) vs (.int (0 : Int32))) :
    MetFree l (⟨"java/lang/StringUTF16", "coderFromArrayLen", "([BI)B"⟩ : MethodName) (head1 (Jvm.Cond.code (⟨"java/lang/StringUTF16", "coderFromArrayLen", "([BI)B"⟩ : MethodName) jdk_52_method_15_code 2 (some .byte) :: ws) ({ frames := 0, cells := 0, slots := 0, locals := 0 } : Room)) (fun a U => a = #[(.ref a1), (.int (2 : Int32))] ∧ Z.Warmed39 U.vm ∧ U.heap = h0) (fun _ _ _ _ _ => True) (fun _ U o U' => ∃ v L, o = .returned v ∧ Qcfl2 Z a1 kb vs h0 n0 v U'.heap L ∧ FrameEnd U o U' L ({ frames := 0, cells := 0, slots := 0, locals := 0 } : Room).cells ({ frames := 0, cells := 0, slots := 0, locals := 0 } : Room).slots) := by
  refine MetFree.of_bodySF (plainFor_of_name own_pn_java_lang_StringUTF16) hisR ?_
  intro p e s m args below meth c s₁ Bd hml0 hP hK
  obtain ⟨rfl, hZ, hh⟩ := hP
  have hx := Bd.exec
  have hby := Bd.bytes
  have hlk := Bd.notSynchronized
  have hml : c.maxLocals = 2 := hml0
  have hown : s.vm.findClass "java/lang/StringUTF16" = some m.cls := findClass_of_methodNamed Bd.named
  have hnm := (name_of_methodNamed Bd.named Bd.method).1
  have X0 : Stand p l e ({ frames := 0, cells := 0, slots := 0, locals := 0 } : Room) s m #[(.ref a1), (.int (2 : Int32))] below meth c s₁ [] 0 0 := Stand.of_body Bd
  have e0 : s₁.heap = h0 := by rw [← hh, Bd.state]; rfl
  have N0 := Fr.nil n0
  show Go p e below (KQ s below (Qcfl2 Z a1 kb vs h0 n0) ({ frames := 0, cells := 0, slots := 0, locals := 0 } : Room).cells ({ frames := 0, cells := 0, slots := 0, locals := 0 } : Room).slots) _
  refine Go.body (T := s₁) (σ := s₁) (g' := (mkF m 0 #[.val (.ref a1), .val (.int (2 : Int32))] [])) (ef_cfl2 m a1 (2 : Int32)) ?_
  refine g_iloadN X0 hx (hb hby d10_0) 1 rfl (v := (2 : Int32)) rfl ?_
  refine g_aloadN X0 hx (hb hby d10_1) 2 rfl (v := (.ref a1)) rfl rfl ?_
  refine g_alen X0 hx (hb hby d10_2) 3 rfl hZ e0 A_a1 ?_
  refine g_isub X0 hx (hb hby d10_3) 4 rfl ((2 : Int32) - (2 : Int32)) rfl ?_
  refine g_bipush X0 hx (hb hby d10_4) 6 rfl (31 : Int32) rfl ?_
  refine g_iushr X0 hx (hb hby d10_6) 7 rfl (XT.ushr ((2 : Int32) - (2 : Int32)) (31 : Int32)) rfl ?_
  refine g_i2b X0 hx (hb hby d10_7) 8 rfl (XT.ushr ((2 : Int32) - (2 : Int32)) (31 : Int32)).toInt8.toInt32 rfl ?_
  refine Go.retN X0 hx hlk (t := .byte) Bd.returns (by simp) (hb hby d10_8) (by decide) (by decide) ?_
  show Qcfl2 Z a1 kb vs h0 n0 _ s₁.heap _
  rw [e0]
  exact ⟨rfl, N0, rfl⟩
theorem ef_sV2 (m : MethodId) (x0 : Addr) (x1 : Addr) (x2 : Int32) (x3 : Int32) : entryFrame m #[(.ref x0), (.ref x1), (.int x2), (.int x3), .null] 6 = mkF m 0 #[.val (.ref x0), .val (.ref x1), .val (.int x2), .val (.int x3), .val .null, .unset] [] := by first | (simp [entryFrame, mkF, argsToLocals, Value.category]; done) | rfl
def QsV2 (Z : State) (a1 : Addr) (a2 : Addr) (cs : Int32) (kc : ClassId) (x1 : Int32) (x2 : Int32) (h0 : Heap) (n0 : Nat) (v : Option Value) (h : Heap) (L : List Loc) : Prop := ∃ vb : Addr, ∃ kb : ClassId, v = none ∧ Fr n0 L ∧ Keep h0 h [a1] ∧ h0.size ≤ vb ∧ (Exa Z h a1 "java/lang/String") ∧ (Fld Z h a1 "java/lang/String" "value" "[B" (.ref vb)) ∧ (Fld Z h a1 "java/lang/String" "coder" "B" (.int (0 : Int32))) ∧ (Arv Z h vb kb .byte (2 : Int32) ([(.int x1.toInt8.toInt32), (.int x2.toInt8.toInt32)]) (.int (0 : Int32)))
set_option maxRecDepth 65536 in
set_option maxHeartbeats 40000000 in
theorem rmsV2 (l : Launch) (Z : State) (a0 : Array Value) (hw : ∀ d ∈ tables_1, d.before a0 Z = true) (ws : List Jvm.Cond) (a1 : Addr) (a2 : Addr) (cs : Int32) (kc : ClassId) (x1 : Int32) (x2 : Int32) (h0 : Heap) (n0 : Nat) (Z0 : n0 ≤ h0.size) (S_COMPACT_STRINGS : Sta Z h0 "java/lang/String" "COMPACT_STRINGS" "Z" (.int cs)) (E_a1 : Exa Z h0 a1 "java/lang/String") (g_a1 : n0 ≤ a1) (F_value_a1 : Fld Z h0 a1 "java/lang/String" "value" "[B" .null) (F_coder_a1 : Fld Z h0 a1 "java/lang/String" "coder" "B" (.int (0 : Int32))) (A_a2 : Arv Z h0 a2 kc .char (2 : Int32) ([(.int x1), (.int x2)]) (.int (0 : Int32))) (ne_a1_a2 : a1 ≠ a2) (hcs : ¬ cs = 0) (hx1 : ¬ (255 : Int32) < x1) (hx2 : ¬ (255 : Int32) < x2) :
    MetFree l (⟨"java/lang/String", "<init>", "([CIILjava/lang/Void;)V"⟩ : MethodName) (head1 (Jvm.Cond.code (⟨"java/lang/String", "<init>", "([CIILjava/lang/Void;)V"⟩ : MethodName) jdk_42_method_149_code 6 none :: ws) ({ frames := 2, cells := 1, slots := 2, locals := 35 } : Room)) (fun a U => a = #[(.ref a1), (.ref a2), (.int (0 : Int32)), (.int (2 : Int32)), .null] ∧ Z.Warmed39 U.vm ∧ U.heap = h0) (fun _ _ _ _ _ => True) (fun _ U o U' => ∃ v L, o = .returned v ∧ QsV2 Z a1 a2 cs kc x1 x2 h0 n0 v U'.heap L ∧ FrameEnd U o U' L ({ frames := 2, cells := 1, slots := 2, locals := 35 } : Room).cells ({ frames := 2, cells := 1, slots := 2, locals := 35 } : Room).slots) := by
  refine MetFree.of_bodySF (plainFor_of_name own_pn_java_lang_String) hisR ?_
  intro p e s m args below meth c s₁ Bd hml0 hP hK
  obtain ⟨rfl, hZ, hh⟩ := hP
  have hx := Bd.exec
  have hby := Bd.bytes
  have hlk := Bd.notSynchronized
  have hml : c.maxLocals = 6 := hml0
  have hown : s.vm.findClass "java/lang/String" = some m.cls := findClass_of_methodNamed Bd.named
  have hnm := (name_of_methodNamed Bd.named Bd.method).1
  have X0 : Stand p l e ({ frames := 2, cells := 1, slots := 2, locals := 35 } : Room) s m #[(.ref a1), (.ref a2), (.int (0 : Int32)), (.int (2 : Int32)), .null] below meth c s₁ [] 0 0 := Stand.of_body Bd
  have e0 : s₁.heap = h0 := by rw [← hh, Bd.state]; rfl
  have N0 := Fr.nil n0
  have K0 : Keep h0 h0 [a1] := Keep.refl _ _
  show Go p e below (KQ s below (QsV2 Z a1 a2 cs kc x1 x2 h0 n0) ({ frames := 2, cells := 1, slots := 2, locals := 35 } : Room).cells ({ frames := 2, cells := 1, slots := 2, locals := 35 } : Room).slots) _
  refine Go.body (T := s₁) (σ := s₁) (g' := (mkF m 0 #[.val (.ref a1), .val (.ref a2), .val (.int (0 : Int32)), .val (.int (2 : Int32)), .val .null, .unset] [])) (ef_sV2 m a1 a2 (0 : Int32) (2 : Int32)) ?_
  refine g_aloadN X0 hx (hb hby d2_0) 1 rfl (v := (.ref a1)) rfl rfl ?_
  obtain ⟨T48, X48, e48, st48⟩ := initO X0 hx hZ hown (hw _ (List.mem_of_getElem? (i := 11) rfl)) (hw _ (List.mem_of_getElem? (i := 12) rfl)) (hw _ (List.mem_of_getElem? (i := 13) rfl)) e0 (g := (mkF m 1 #[.val (.ref a1), .val (.ref a2), .val (.int (0 : Int32)), .val (.int (2 : Int32)), .val .null, .unset] [(.ref a1)])) rfl (by rw [hml]; rfl) rfl (hb hby d2_1) (by decide) (W := 0) (by show 2 * 0 + _ ≤ _; exact Nat.le_of_eq rfl) (by decide)
  refine Go.st st48 ?_
  show Go p e below _ (T48.setTop (mkF m 4 #[.val (.ref a1), .val (.ref a2), .val (.int (0 : Int32)), .val (.int (2 : Int32)), .val .null, .unset] []))
  refine g_iloadN X48 hx (hb hby d2_4) 5 rfl (v := (2 : Int32)) rfl ?_
  refine g_if_ne X48 hx (hb hby d2_5) 27 8 (by decide) (by decide) rfl (fun hc5 => ?_) (fun hc5 => False.elim (absurd hc5 (by decide)))
  obtain ⟨T49, X49, e49, st49⟩ := getS2 X48 hx hZ hown (host := "") (Or.inl (hw _ (List.mem_of_getElem? (i := 50) rfl))) Via.refl e48 S_COMPACT_STRINGS (g := (mkF m 27 #[.val (.ref a1), .val (.ref a2), .val (.int (0 : Int32)), .val (.int (2 : Int32)), .val .null, .unset] [])) rfl (hb hby d2_27)
  refine Go.st st49 ?_
  show Go p e below _ (T49.setTop (mkF m 30 #[.val (.ref a1), .val (.ref a2), .val (.int (0 : Int32)), .val (.int (2 : Int32)), .val .null, .unset] [(.int cs)]))
  refine g_if_eq X49 hx (hb hby d2_30) 58 33 (by decide) (by decide) rfl (fun hc30 => False.elim (hcs hc30)) (fun hc30 => ?_)
  refine g_aloadN X49 hx (hb hby d2_33) 34 rfl (v := (.ref a2)) rfl rfl ?_
  refine g_iloadN X49 hx (hb hby d2_34) 35 rfl (v := (0 : Int32)) rfl ?_
  refine g_iloadN X49 hx (hb hby d2_35) 36 rfl (v := (2 : Int32)) rfl ?_
  obtain ⟨_, _, ⟨T50, L50, k50, n50⟩, -, X50, ⟨Lc50, hQ50, l50, y50, z50⟩, st50⟩ := Jvm.LawKit.callS X49 hx (y := (⟨"java/lang/StringUTF16", "compress", "([CII)[B"⟩ : MethodName)) hown (mvT hZ (hw _ (List.mem_of_getElem? (i := 51) rfl))) (mvT hZ (hw _ (List.mem_of_getElem? (i := 52) rfl))) (mvT hZ (hw _ (List.mem_of_getElem? (i := 53) rfl))) (mvT hZ (hw _ (List.mem_of_getElem? (i := 54) rfl))) (by decide) (backOf (W := 0) (rmcmpa2 l Z a0 hw [] a2 kc x1 x2 h0 n0 Z0 A_a2 hx1 hx2) hZ (hw _ (List.mem_of_getElem? (i := 54) rfl)) (hw _ (List.mem_of_getElem? (i := 53) rfl)) (by decide) (by decide)) (g := (mkF m 36 #[.val (.ref a1), .val (.ref a2), .val (.int (0 : Int32)), .val (.int (2 : Int32)), .val .null, .unset] [(.int (2 : Int32)), (.int (0 : Int32)), (.ref a2)])) rfl (by rw [hml]; rfl) (argsL := [(.ref a2), (.int (0 : Int32)), (.int (2 : Int32))]) (rest := []) (lenOf own_pd2 rfl) rfl (by show 2 * 0 + _ ≤ _; exact Nat.le_of_eq rfl) (hb hby d2_36) (fun _ _ => ⟨rfl, e49, (by decide : 0 + 1 ≤ _), (by decide : 0 + 2 ≤ _)⟩)
  dsimp only [Pt.U, Pt.locs, Pt.cells, Pt.slots] at X50 l50 y50 z50 st50 hQ50
  subst l50 y50 z50
  obtain ⟨ovb, okb, rfl, Nq50, Kq50, f50_0, f50_1⟩ := hQ50
  refine Go.st st50 ?_
  have N50 := Fr.app N0 Nq50
  have S_COMPACT_STRINGS_51 : Sta Z T50.heap "java/lang/String" "COMPACT_STRINGS" "Z" (.int cs) := own_Sta_keep S_COMPACT_STRINGS Kq50 all0
  have E_a1_51 : Exa Z T50.heap a1 "java/lang/String" := Exa.keep E_a1 Kq50
  have F_value_a1_51 : Fld Z T50.heap a1 "java/lang/String" "value" "[B" .null := Fld.keep F_value_a1 Kq50 nin0
  have F_coder_a1_51 : Fld Z T50.heap a1 "java/lang/String" "coder" "B" (.int (0 : Int32)) := Fld.keep F_coder_a1 Kq50 nin0
  have ne_a1_ovb : a1 ≠ ovb := Nat.ne_of_lt (Nat.lt_of_lt_of_le E_a1.lt f50_0)
  have g_ovb : n0 ≤ ovb := Nat.le_trans Z0 f50_0
  have mh_ovb : h0.size ≤ ovb := Nat.le_trans K0.1 f50_0
  have K50 : Keep h0 T50.heap [a1] := Keep.trans K0 Kq50 all0
  have Zs50 : n0 ≤ T50.heap.size := Nat.le_trans Z0 Kq50.1
  show Go p e below _ (T50.setTop (mkF m 39 #[.val (.ref a1), .val (.ref a2), .val (.int (0 : Int32)), .val (.int (2 : Int32)), .val .null, .unset] [(.ref ovb)]))
  refine g_astore X50 hx (hb hby d2_39) 41 rfl rfl #[.val (.ref a1), .val (.ref a2), .val (.int (0 : Int32)), .val (.int (2 : Int32)), .val .null, .val (.ref ovb)] rfl ?_
  refine g_aloadN X50 hx (hb hby d2_41) 42 rfl (v := (.ref a1)) rfl rfl ?_
  refine g_aload X50 hx (hb hby d2_42) 44 rfl (v := (.ref ovb)) rfl rfl ?_
  refine g_iloadN X50 hx (hb hby d2_44) 45 rfl (v := (2 : Int32)) rfl ?_
  obtain ⟨_, _, ⟨T52, L52, k52, n52⟩, -, X52, ⟨Lc52, hQ52, l52, y52, z52⟩, st52⟩ := Jvm.LawKit.callS X50 hx (y := (⟨"java/lang/StringUTF16", "coderFromArrayLen", "([BI)B"⟩ : MethodName)) hown (mvT hZ (hw _ (List.mem_of_getElem? (i := 58) rfl))) (mvT hZ (hw _ (List.mem_of_getElem? (i := 59) rfl))) (mvT hZ (hw _ (List.mem_of_getElem? (i := 53) rfl))) (mvT hZ (hw _ (List.mem_of_getElem? (i := 60) rfl))) (by decide) (backOf (W := 1) (rmcfl2 l Z a0 hw [] ovb okb ([(.int x1.toInt8.toInt32), (.int x2.toInt8.toInt32)]) T50.heap n0 Zs50 f50_1) hZ (hw _ (List.mem_of_getElem? (i := 60) rfl)) (hw _ (List.mem_of_getElem? (i := 53) rfl)) (by decide) (by decide)) (g := (mkF m 45 #[.val (.ref a1), .val (.ref a2), .val (.int (0 : Int32)), .val (.int (2 : Int32)), .val .null, .val (.ref ovb)] [(.int (2 : Int32)), (.ref ovb), (.ref a1)])) rfl (by rw [hml]; rfl) (argsL := [(.ref ovb), (.int (2 : Int32))]) (rest := [(.ref a1)]) (lenOf own_pd3 rfl) rfl (by show 2 * 0 + _ ≤ _; exact Nat.le_of_eq rfl) (hb hby d2_45) (fun _ _ => ⟨rfl, rfl, (by decide : 1 + 0 ≤ _), (by decide : 2 + 0 ≤ _)⟩)
  dsimp only [Pt.U, Pt.locs, Pt.cells, Pt.slots] at X52 l52 y52 z52 st52 hQ52
  subst l52 y52 z52
  obtain ⟨rfl, Nq52, e52⟩ := hQ52
  refine Go.st st52 ?_
  have N52 := Fr.app N50 Nq52
  show Go p e below _ (T52.setTop (mkF m 48 #[.val (.ref a1), .val (.ref a2), .val (.int (0 : Int32)), .val (.int (2 : Int32)), .val .null, .val (.ref ovb)] [(.int (0 : Int32)), (.ref a1)]))
  obtain ⟨T53, h53, X53, e53, W53, st53⟩ := putF X52 hx hZ hown (host := "") (Or.inl (hw _ (List.mem_of_getElem? (i := 21) rfl))) Via.refl e52 F_coder_a1_51 E_a1_51 (Or.inr ⟨(hw _ (List.mem_of_getElem? (i := 17) rfl)), rfl, hnm⟩) (hw _ (List.mem_of_getElem? (i := 2) rfl)) (ty := .byte) (by decide) rfl rfl (g := (mkF m 48 #[.val (.ref a1), .val (.ref a2), .val (.int (0 : Int32)), .val (.int (2 : Int32)), .val .null, .val (.ref ovb)] [(.int (0 : Int32)), (.ref a1)])) rfl rfl (hb hby d2_48)
  refine Go.st st53 ?_
  have S_COMPACT_STRINGS_54 : Sta Z h53 "java/lang/String" "COMPACT_STRINGS" "Z" (.int cs) := Sta.wr W53 S_COMPACT_STRINGS_51
  have E_a1_54 : Exa Z h53 a1 "java/lang/String" := Exa.wr W53 E_a1_51
  have F_value_a1_54 : Fld Z h53 a1 "java/lang/String" "value" "[B" .null := Fld.other W53 F_value_a1_51 (Or.inr (slot_ne (Or.inr (hw _ (List.mem_of_getElem? (i := 16) rfl))) (Or.inr (hw _ (List.mem_of_getElem? (i := 17) rfl))) (by decide) (t := (.array .byte)) (t' := .byte) (by decide) (by decide)))
  have A_ovb_54 : Arv Z h53 ovb okb .byte (2 : Int32) ([(.int x1.toInt8.toInt32), (.int x2.toInt8.toInt32)]) (.int (0 : Int32)) := Arv.other f50_1 W53 (Ne.symm ne_a1_ovb)
  have F_coder_a1_53w : Fld Z h53 a1 "java/lang/String" "coder" "B" (.int (0 : Int32)) := Fld.same W53 F_coder_a1_51
  have K53 : Keep h0 h53 [a1] := Keep.wr K50 W53 (Or.inl (List.mem_of_getElem? (i := 0) rfl))
  have N53 := Fr.snoc X53 N52 g_a1
  have Zs53 : n0 ≤ h53.size := by rw [W53.size]; exact Zs50
  show Go p e below _ (T53.setTop (mkF m 51 #[.val (.ref a1), .val (.ref a2), .val (.int (0 : Int32)), .val (.int (2 : Int32)), .val .null, .val (.ref ovb)] []))
  refine g_aloadN X53 hx (hb hby d2_51) 52 rfl (v := (.ref a1)) rfl rfl ?_
  refine g_aload X53 hx (hb hby d2_52) 54 rfl (v := (.ref ovb)) rfl rfl ?_
  obtain ⟨T55, h55, X55, e55, W55, st55⟩ := putF X53 hx hZ hown (host := "") (Or.inl (hw _ (List.mem_of_getElem? (i := 20) rfl))) Via.refl e53 F_value_a1_54 E_a1_54 (Or.inr ⟨(hw _ (List.mem_of_getElem? (i := 16) rfl)), rfl, hnm⟩) (hw _ (List.mem_of_getElem? (i := 2) rfl)) (ty := (.array .byte)) (by decide) rfl rfl (g := (mkF m 54 #[.val (.ref a1), .val (.ref a2), .val (.int (0 : Int32)), .val (.int (2 : Int32)), .val .null, .val (.ref ovb)] [(.ref ovb), (.ref a1)])) rfl rfl (hb hby d2_54)
  refine Go.st st55 ?_
  have S_COMPACT_STRINGS_56 : Sta Z h55 "java/lang/String" "COMPACT_STRINGS" "Z" (.int cs) := Sta.wr W55 S_COMPACT_STRINGS_54
  have E_a1_56 : Exa Z h55 a1 "java/lang/String" := Exa.wr W55 E_a1_54
  have A_ovb_56 : Arv Z h55 ovb okb .byte (2 : Int32) ([(.int x1.toInt8.toInt32), (.int x2.toInt8.toInt32)]) (.int (0 : Int32)) := Arv.other A_ovb_54 W55 (Ne.symm ne_a1_ovb)
  have F_coder_a1_56 : Fld Z h55 a1 "java/lang/String" "coder" "B" (.int (0 : Int32)) := Fld.other W55 F_coder_a1_53w (Or.inr (slot_ne (Or.inr (hw _ (List.mem_of_getElem? (i := 17) rfl))) (Or.inr (hw _ (List.mem_of_getElem? (i := 16) rfl))) (by decide) (t := .byte) (t' := (.array .byte)) (by decide) (by decide)))
  have F_value_a1_55w : Fld Z h55 a1 "java/lang/String" "value" "[B" (.ref ovb) := Fld.same W55 F_value_a1_54
  have K55 : Keep h0 h55 [a1] := Keep.wr K53 W55 (Or.inl (List.mem_of_getElem? (i := 0) rfl))
  have N55 := Fr.snoc X55 N53 g_a1
  have Zs55 : n0 ≤ h55.size := by rw [W55.size]; exact Zs53
  show Go p e below _ (T55.setTop (mkF m 57 #[.val (.ref a1), .val (.ref a2), .val (.int (0 : Int32)), .val (.int (2 : Int32)), .val .null, .val (.ref ovb)] []))
  refine Go.retV X55 hx hlk Bd.returns (hb hby d2_57) (by decide) (by decide) ?_
  show QsV2 Z a1 a2 cs kc x1 x2 h0 n0 _ T55.heap _
  rw [e55]
  exact ⟨ovb, okb, rfl, N55, K55, mh_ovb, E_a1_56, F_value_a1_55w, F_coder_a1_56, A_ovb_56⟩
theorem ef_sC2 (m : MethodId) (x0 : Addr) (x1 : Addr) : entryFrame m #[(.ref x0), (.ref x1)] 2 = mkF m 0 #[.val (.ref x0), .val (.ref x1)] [] := by first | (simp [entryFrame, mkF, argsToLocals, Value.category]; done) | rfl
def QsC2 (Z : State) (a1 : Addr) (a2 : Addr) (cs : Int32) (kc : ClassId) (x1 : Int32) (x2 : Int32) (h0 : Heap) (n0 : Nat) (v : Option Value) (h : Heap) (L : List Loc) : Prop := ∃ vb : Addr, ∃ kb : ClassId, v = none ∧ Fr n0 L ∧ Keep h0 h [a1] ∧ h0.size ≤ vb ∧ (Exa Z h a1 "java/lang/String") ∧ (Fld Z h a1 "java/lang/String" "value" "[B" (.ref vb)) ∧ (Fld Z h a1 "java/lang/String" "coder" "B" (.int (0 : Int32))) ∧ (Arv Z h vb kb .byte (2 : Int32) ([(.int x1.toInt8.toInt32), (.int x2.toInt8.toInt32)]) (.int (0 : Int32)))
set_option maxRecDepth 65536 in
set_option maxHeartbeats 40000000 in
theorem rmsC2 (l : Launch) (Z : State) (a0 : Array Value) (hw : ∀ d ∈ tables_1, d.before a0 Z = true) (ws : List Jvm.Cond) (a1 : Addr) (a2 : Addr) (cs : Int32) (kc : ClassId) (x1 : Int32) (x2 : Int32) (h0 : Heap) (n0 : Nat) (Z0 : n0 ≤ h0.size) (S_COMPACT_STRINGS : Sta Z h0 "java/lang/String" "COMPACT_STRINGS" "Z" (.int cs)) (E_a1 : Exa Z h0 a1 "java/lang/String") (g_a1 : n0 ≤ a1) (F_value_a1 : Fld Z h0 a1 "java/lang/String" "value" "[B" .null) (F_coder_a1 : Fld Z h0 a1 "java/lang/String" "coder" "B" (.int (0 : Int32))) (A_a2 : Arv Z h0 a2 kc .char (2 : Int32) ([(.int x1), (.int x2)]) (.int (0 : Int32))) (ne_a1_a2 : a1 ≠ a2) (hcs : ¬ cs = 0) (hx1 : ¬ (255 : Int32) < x1) (hx2 : ¬ (255 : Int32) < x2) :
    MetFree l (⟨"java/lang/String", "<init>", "([C)V"⟩ : MethodName) (head1 (Jvm.Cond.code (⟨"java/lang/String", "<init>", "([C)V"⟩ : MethodName) jdk_42_method_3_code 2 none :: ws) ({ frames := 3, cells := 1, slots := 2, locals := 52 } : Room)) (fun a U => a = #[(.ref a1), (.ref a2)] ∧ Z.Warmed39 U.vm ∧ U.heap = h0) (fun _ _ _ _ _ => True) (fun _ U o U' => ∃ v L, o = .returned v ∧ QsC2 Z a1 a2 cs kc x1 x2 h0 n0 v U'.heap L ∧ FrameEnd U o U' L ({ frames := 3, cells := 1, slots := 2, locals := 52 } : Room).cells ({ frames := 3, cells := 1, slots := 2, locals := 52 } : Room).slots) := by
  refine MetFree.of_bodySF (plainFor_of_name own_pn_java_lang_String) hisR ?_
  intro p e s m args below meth c s₁ Bd hml0 hP hK
  obtain ⟨rfl, hZ, hh⟩ := hP
  have hx := Bd.exec
  have hby := Bd.bytes
  have hlk := Bd.notSynchronized
  have hml : c.maxLocals = 2 := hml0
  have hown : s.vm.findClass "java/lang/String" = some m.cls := findClass_of_methodNamed Bd.named
  have hnm := (name_of_methodNamed Bd.named Bd.method).1
  have X0 : Stand p l e ({ frames := 3, cells := 1, slots := 2, locals := 52 } : Room) s m #[(.ref a1), (.ref a2)] below meth c s₁ [] 0 0 := Stand.of_body Bd
  have e0 : s₁.heap = h0 := by rw [← hh, Bd.state]; rfl
  have N0 := Fr.nil n0
  have K0 : Keep h0 h0 [a1] := Keep.refl _ _
  show Go p e below (KQ s below (QsC2 Z a1 a2 cs kc x1 x2 h0 n0) ({ frames := 3, cells := 1, slots := 2, locals := 52 } : Room).cells ({ frames := 3, cells := 1, slots := 2, locals := 52 } : Room).slots) _
  refine Go.body (T := s₁) (σ := s₁) (g' := (mkF m 0 #[.val (.ref a1), .val (.ref a2)] [])) (ef_sC2 m a1 a2) ?_
  refine g_aloadN X0 hx (hb hby d1_0) 1 rfl (v := (.ref a1)) rfl rfl ?_
  refine g_aloadN X0 hx (hb hby d1_1) 2 rfl (v := (.ref a2)) rfl rfl ?_
  refine g_iconst X0 hx (hb hby d1_2) 3 rfl (0 : Int32) rfl ?_
  refine g_aloadN X0 hx (hb hby d1_3) 4 rfl (v := (.ref a2)) rfl rfl ?_
  refine g_alen X0 hx (hb hby d1_4) 5 rfl hZ e0 A_a2 ?_
  refine g_null X0 hx (hb hby d1_5) 6 rfl ?_
  obtain ⟨_, _, ⟨T58, L58, k58, n58⟩, -, X58, ⟨Lc58, hQ58, l58, y58, z58⟩, st58⟩ := X0.specialBack hx (y := (⟨"java/lang/String", "<init>", "([CIILjava/lang/Void;)V"⟩ : MethodName)) rfl hown (mvT hZ (hw _ (List.mem_of_getElem? (i := 7) rfl))) (mvT hZ (hw _ (List.mem_of_getElem? (i := 8) rfl))) (mvT hZ (hw _ (List.mem_of_getElem? (i := 10) rfl))) (by decide) (backOf (W := 0) (rmsV2 l Z a0 hw [] a1 a2 cs kc x1 x2 h0 n0 Z0 S_COMPACT_STRINGS E_a1 g_a1 F_value_a1 F_coder_a1 A_a2 ne_a1_a2 hcs hx1 hx2) hZ (hw _ (List.mem_of_getElem? (i := 10) rfl)) (hw _ (List.mem_of_getElem? (i := 3) rfl)) (by decide) (by decide)) (g := (mkF m 6 #[.val (.ref a1), .val (.ref a2)] [.null, (.int (2 : Int32)), (.int (0 : Int32)), (.ref a2), (.ref a1)])) rfl (by rw [hml]; rfl) (Steps.refl _) (a := a1) (argsL := [(.ref a2), (.int (0 : Int32)), (.int (2 : Int32)), .null]) (rest := []) (lenOf own_pd0 rfl) rfl (by show 2 * 0 + _ ≤ _; exact Nat.le_of_eq rfl) (hb hby d1_6) (fun _ _ => ⟨rfl, e0, (by decide : 0 + 1 ≤ _), (by decide : 0 + 2 ≤ _)⟩)
  dsimp only [Pt.U, Pt.locs, Pt.cells, Pt.slots] at X58 l58 y58 z58 st58 hQ58
  subst l58 y58 z58
  obtain ⟨ovb, okb, rfl, Nq58, Kq58, f58_0, f58_1, f58_2, f58_3, f58_4⟩ := hQ58
  refine Go.tr st58 ?_
  have N58 := Fr.app N0 Nq58
  have S_COMPACT_STRINGS_59 : Sta Z T58.heap "java/lang/String" "COMPACT_STRINGS" "Z" (.int cs) := own_Sta_keep S_COMPACT_STRINGS Kq58 (allS (own_ns E_a1) all0)
  have E_a1_59 : Exa Z T58.heap a1 "java/lang/String" := Exa.keep E_a1 Kq58
  have ne_a1_ovb : a1 ≠ ovb := Nat.ne_of_lt (Nat.lt_of_lt_of_le E_a1.lt f58_0)
  have g_ovb : n0 ≤ ovb := Nat.le_trans Z0 f58_0
  have mh_ovb : h0.size ≤ ovb := Nat.le_trans K0.1 f58_0
  have K58 : Keep h0 T58.heap [a1] := Keep.trans K0 Kq58 (allS (Or.inl (List.mem_of_getElem? (i := 0) rfl)) all0)
  have Zs58 : n0 ≤ T58.heap.size := Nat.le_trans Z0 Kq58.1
  show Go p e below _ (T58.setTop (mkF m 9 #[.val (.ref a1), .val (.ref a2)] []))
  refine Go.retV X58 hx hlk Bd.returns (hb hby d1_9) (by decide) (by decide) ?_
  show QsC2 Z a1 a2 cs kc x1 x2 h0 n0 _ T58.heap _
  exact ⟨ovb, okb, rfl, N58, K58, mh_ovb, f58_1, f58_2, f58_3, f58_4⟩
theorem own_pn_java_lang_Record : plainName "java/lang/Record" = true := by first | (simp [plainName, overriddenIn]; done) | decide +kernel
theorem ef_5 (m : MethodId) (x0 : Addr) : entryFrame m #[(.ref x0)] 1 = mkF m 0 #[.val (.ref x0)] [] := by first | (simp [entryFrame, mkF, argsToLocals, Value.category]; done) | rfl
theorem d5_0 : decode jdk_30_method_1_code 0 = .ok (.aload_n 0, 1) := by decide +kernel
theorem d5_1 : decode jdk_30_method_1_code 1 = .ok (.invokespecial 1, 3) := by decide +kernel
theorem d5_4 : decode jdk_30_method_1_code 4 = .ok (.return_, 1) := by decide +kernel
def Q5 (Z : State) (a1 : Addr) (h0 : Heap) (n0 : Nat) (v : Option Value) (h : Heap) (L : List Loc) : Prop := v = none ∧ Fr n0 L ∧ h = h0
set_option maxRecDepth 65536 in
set_option maxHeartbeats 40000000 in
theorem rm5 (l : Launch) (Z : State) (a0 : Array Value) (hw : ∀ d ∈ tables_1, d.before a0 Z = true) (ws : List Jvm.Cond) (a1 : Addr) (h0 : Heap) (n0 : Nat) (Z0 : n0 ≤ h0.size)  :
    MetFree l (⟨"java/lang/Record", "<init>", "()V"⟩ : MethodName) (head1 (Jvm.Cond.code (⟨"java/lang/Record", "<init>", "()V"⟩ : MethodName) jdk_30_method_1_code 1 none :: ws) ({ frames := 1, cells := 0, slots := 0, locals := 12 } : Room)) (fun a U => a = #[(.ref a1)] ∧ Z.Warmed39 U.vm ∧ U.heap = h0) (fun _ _ _ _ _ => True) (fun _ U o U' => ∃ v L, o = .returned v ∧ Q5 Z a1 h0 n0 v U'.heap L ∧ FrameEnd U o U' L ({ frames := 1, cells := 0, slots := 0, locals := 12 } : Room).cells ({ frames := 1, cells := 0, slots := 0, locals := 12 } : Room).slots) := by
  refine MetFree.of_bodySF (plainFor_of_name own_pn_java_lang_Record) hisR ?_
  intro p e s m args below meth c s₁ Bd hml0 hP hK
  obtain ⟨rfl, hZ, hh⟩ := hP
  have hx := Bd.exec
  have hby := Bd.bytes
  have hlk := Bd.notSynchronized
  have hml : c.maxLocals = 1 := hml0
  have hown : s.vm.findClass "java/lang/Record" = some m.cls := findClass_of_methodNamed Bd.named
  have hnm := (name_of_methodNamed Bd.named Bd.method).1
  have X0 : Stand p l e ({ frames := 1, cells := 0, slots := 0, locals := 12 } : Room) s m #[(.ref a1)] below meth c s₁ [] 0 0 := Stand.of_body Bd
  have e0 : s₁.heap = h0 := by rw [← hh, Bd.state]; rfl
  have N0 := Fr.nil n0
  show Go p e below (KQ s below (Q5 Z a1 h0 n0) ({ frames := 1, cells := 0, slots := 0, locals := 12 } : Room).cells ({ frames := 1, cells := 0, slots := 0, locals := 12 } : Room).slots) _
  refine Go.body (T := s₁) (σ := s₁) (g' := (mkF m 0 #[.val (.ref a1)] [])) (ef_5 m a1) ?_
  refine g_aloadN X0 hx (hb hby d5_0) 1 rfl (v := (.ref a1)) rfl rfl ?_
  obtain ⟨T60, X60, e60, st60⟩ := initO X0 hx hZ hown (hw _ (List.mem_of_getElem? (i := 33) rfl)) (hw _ (List.mem_of_getElem? (i := 12) rfl)) (hw _ (List.mem_of_getElem? (i := 13) rfl)) e0 (g := (mkF m 1 #[.val (.ref a1)] [(.ref a1)])) rfl (by rw [hml]; rfl) rfl (hb hby d5_1) (by decide) (W := 0) (by show 2 * 0 + _ ≤ _; exact Nat.le_of_eq rfl) (by decide)
  refine Go.st st60 ?_
  show Go p e below _ (T60.setTop (mkF m 4 #[.val (.ref a1)] []))
  refine Go.retV X60 hx hlk Bd.returns (hb hby d5_4) (by decide) (by decide) ?_
  show Q5 Z a1 h0 n0 _ T60.heap _
  rw [e60]
  exact ⟨rfl, N0, rfl⟩
theorem own_pn_com_example_scrivenmoor_scrivenmoor_DatePattern_Part : plainName "com/example/scrivenmoor/scrivenmoor/DatePattern$Part" = true := by first | (simp [plainName, overriddenIn]; done) | decide +kernel
theorem ef_4 (m : MethodId) (x0 : Addr) (x1 : Int32) (x2 : Int32) (x3 : Addr) : entryFrame m #[(.ref x0), (.int x1), (.int x2), (.ref x3)] 4 = mkF m 0 #[.val (.ref x0), .val (.int x1), .val (.int x2), .val (.ref x3)] [] := by first | (simp [entryFrame, mkF, argsToLocals, Value.category]; done) | rfl
theorem d4_0 : decode prog_19_method_1_code 0 = .ok (.aload_n 0, 1) := by decide +kernel
theorem own_pd4 : parseMethodDescriptor "()V" = some ⟨[], none⟩ := by decide +kernel
theorem d4_1 : decode prog_19_method_1_code 1 = .ok (.invokespecial 1, 3) := by decide +kernel
theorem d4_4 : decode prog_19_method_1_code 4 = .ok (.aload_n 0, 1) := by decide +kernel
theorem d4_5 : decode prog_19_method_1_code 5 = .ok (.iload_n 1, 1) := by decide +kernel
theorem d4_6 : decode prog_19_method_1_code 6 = .ok (.putfield 7, 3) := by decide +kernel
theorem d4_9 : decode prog_19_method_1_code 9 = .ok (.aload_n 0, 1) := by decide +kernel
theorem d4_10 : decode prog_19_method_1_code 10 = .ok (.iload_n 2, 1) := by decide +kernel
theorem d4_11 : decode prog_19_method_1_code 11 = .ok (.putfield 13, 3) := by decide +kernel
theorem d4_14 : decode prog_19_method_1_code 14 = .ok (.aload_n 0, 1) := by decide +kernel
theorem d4_15 : decode prog_19_method_1_code 15 = .ok (.aload_n 3, 1) := by decide +kernel
theorem d4_16 : decode prog_19_method_1_code 16 = .ok (.putfield 17, 3) := by decide +kernel
theorem d4_19 : decode prog_19_method_1_code 19 = .ok (.return_, 1) := by decide +kernel
def Q4 (Z : State) (a1 : Addr) (p1 : Int32) (p2 : Int32) (a2 : Addr) (u0 : Value) (u1 : Value) (u2 : Value) (h0 : Heap) (n0 : Nat) (v : Option Value) (h : Heap) (L : List Loc) : Prop := v = none ∧ Fr n0 L ∧ Keep h0 h [a1] ∧ (Exa Z h a1 "com/example/scrivenmoor/scrivenmoor/DatePattern$Part") ∧ (Fld Z h a1 "com/example/scrivenmoor/scrivenmoor/DatePattern$Part" "letter" "C" (.int p1)) ∧ (Fld Z h a1 "com/example/scrivenmoor/scrivenmoor/DatePattern$Part" "count" "I" (.int p2)) ∧ (Fld Z h a1 "com/example/scrivenmoor/scrivenmoor/DatePattern$Part" "text" "Ljava/lang/String;" (.ref a2))
set_option maxRecDepth 65536 in
set_option maxHeartbeats 40000000 in
theorem rm4 (l : Launch) (Z : State) (a0 : Array Value) (hw : ∀ d ∈ tables_1, d.before a0 Z = true) (ws : List Jvm.Cond) (a1 : Addr) (p1 : Int32) (p2 : Int32) (a2 : Addr) (u0 : Value) (u1 : Value) (u2 : Value) (h0 : Heap) (n0 : Nat) (Z0 : n0 ≤ h0.size) (E_a1 : Exa Z h0 a1 "com/example/scrivenmoor/scrivenmoor/DatePattern$Part") (g_a1 : n0 ≤ a1) (F_letter_a1 : Fld Z h0 a1 "com/example/scrivenmoor/scrivenmoor/DatePattern$Part" "letter" "C" u0) (F_count_a1 : Fld Z h0 a1 "com/example/scrivenmoor/scrivenmoor/DatePattern$Part" "count" "I" u1) (F_text_a1 : Fld Z h0 a1 "com/example/scrivenmoor/scrivenmoor/DatePattern$Part" "text" "Ljava/lang/String;" u2) (h1 : narrow .char (.int p1) = .int p1 ∧ fits .char (.int p1) = true) :
    MetFree l (⟨"com/example/scrivenmoor/scrivenmoor/DatePattern$Part", "<init>", "(CILjava/lang/String;)V"⟩ : MethodName) (head1 (Jvm.Cond.code (⟨"com/example/scrivenmoor/scrivenmoor/DatePattern$Part", "<init>", "(CILjava/lang/String;)V"⟩ : MethodName) prog_19_method_1_code 4 none :: ws) ({ frames := 2, cells := 0, slots := 0, locals := 24 } : Room)) (fun a U => a = #[(.ref a1), (.int p1), (.int p2), (.ref a2)] ∧ Z.Warmed39 U.vm ∧ U.heap = h0) (fun _ _ _ _ _ => True) (fun _ U o U' => ∃ v L, o = .returned v ∧ Q4 Z a1 p1 p2 a2 u0 u1 u2 h0 n0 v U'.heap L ∧ FrameEnd U o U' L ({ frames := 2, cells := 0, slots := 0, locals := 24 } : Room).cells ({ frames := 2, cells := 0, slots := 0, locals := 24 } : Room).slots) := by
  refine MetFree.of_bodySF (plainFor_of_name own_pn_com_example_scrivenmoor_scrivenmoor_DatePattern_Part) hisR ?_
  intro p e s m args below meth c s₁ Bd hml0 hP hK
  obtain ⟨rfl, hZ, hh⟩ := hP
  have hx := Bd.exec
  have hby := Bd.bytes
  have hlk := Bd.notSynchronized
  have hml : c.maxLocals = 4 := hml0
  have hown : s.vm.findClass "com/example/scrivenmoor/scrivenmoor/DatePattern$Part" = some m.cls := findClass_of_methodNamed Bd.named
  have hnm := (name_of_methodNamed Bd.named Bd.method).1
  have X0 : Stand p l e ({ frames := 2, cells := 0, slots := 0, locals := 24 } : Room) s m #[(.ref a1), (.int p1), (.int p2), (.ref a2)] below meth c s₁ [] 0 0 := Stand.of_body Bd
  have e0 : s₁.heap = h0 := by rw [← hh, Bd.state]; rfl
  have N0 := Fr.nil n0
  have K0 : Keep h0 h0 [a1] := Keep.refl _ _
  show Go p e below (KQ s below (Q4 Z a1 p1 p2 a2 u0 u1 u2 h0 n0) ({ frames := 2, cells := 0, slots := 0, locals := 24 } : Room).cells ({ frames := 2, cells := 0, slots := 0, locals := 24 } : Room).slots) _
  refine Go.body (T := s₁) (σ := s₁) (g' := (mkF m 0 #[.val (.ref a1), .val (.int p1), .val (.int p2), .val (.ref a2)] [])) (ef_4 m a1 p1 p2 a2) ?_
  refine g_aloadN X0 hx (hb hby d4_0) 1 rfl (v := (.ref a1)) rfl rfl ?_
  obtain ⟨_, _, ⟨T61, L61, k61, n61⟩, -, X61, ⟨Lc61, hQ61, l61, y61, z61⟩, st61⟩ := X0.specialBack hx (y := (⟨"java/lang/Record", "<init>", "()V"⟩ : MethodName)) rfl hown (mvT hZ (hw _ (List.mem_of_getElem? (i := 28) rfl))) (mvT hZ (hw _ (List.mem_of_getElem? (i := 29) rfl))) (mvT hZ (hw _ (List.mem_of_getElem? (i := 32) rfl))) (by decide) (backOf (W := 0) (rm5 l Z a0 hw [] a1 h0 n0 Z0 ) hZ (hw _ (List.mem_of_getElem? (i := 32) rfl)) (hw _ (List.mem_of_getElem? (i := 31) rfl)) (by decide) (by decide)) (g := (mkF m 1 #[.val (.ref a1), .val (.int p1), .val (.int p2), .val (.ref a2)] [(.ref a1)])) rfl (by rw [hml]; rfl) (Steps.refl _) (a := a1) (argsL := []) (rest := []) (lenOf own_pd4 rfl) rfl (by show 2 * 0 + _ ≤ _; exact Nat.le_of_eq rfl) (hb hby d4_1) (fun _ _ => ⟨rfl, e0, (by decide : 0 + 0 ≤ _), (by decide : 0 + 0 ≤ _)⟩)
  dsimp only [Pt.U, Pt.locs, Pt.cells, Pt.slots] at X61 l61 y61 z61 st61 hQ61
  subst l61 y61 z61
  obtain ⟨rfl, Nq61, e61⟩ := hQ61
  refine Go.tr st61 ?_
  have N61 := Fr.app N0 Nq61
  show Go p e below _ (T61.setTop (mkF m 4 #[.val (.ref a1), .val (.int p1), .val (.int p2), .val (.ref a2)] []))
  refine g_aloadN X61 hx (hb hby d4_4) 5 rfl (v := (.ref a1)) rfl rfl ?_
  refine g_iloadN X61 hx (hb hby d4_5) 6 rfl (v := p1) rfl ?_
  obtain ⟨T62, h62, X62, e62, W62, st62⟩ := putF X61 hx hZ hown (host := "") (Or.inl (hw _ (List.mem_of_getElem? (i := 34) rfl))) Via.refl e61 F_letter_a1 E_a1 (Or.inr ⟨(hw _ (List.mem_of_getElem? (i := 35) rfl)), rfl, hnm⟩) (hw _ (List.mem_of_getElem? (i := 23) rfl)) (ty := .char) (by decide) h1.1 h1.2 (g := (mkF m 6 #[.val (.ref a1), .val (.int p1), .val (.int p2), .val (.ref a2)] [(.int p1), (.ref a1)])) rfl rfl (hb hby d4_6)
  refine Go.st st62 ?_
  have E_a1_63 : Exa Z h62 a1 "com/example/scrivenmoor/scrivenmoor/DatePattern$Part" := Exa.wr W62 E_a1
  have F_count_a1_63 : Fld Z h62 a1 "com/example/scrivenmoor/scrivenmoor/DatePattern$Part" "count" "I" u1 := Fld.other W62 F_count_a1 (Or.inr (slot_ne (Or.inr (hw _ (List.mem_of_getElem? (i := 37) rfl))) (Or.inr (hw _ (List.mem_of_getElem? (i := 35) rfl))) (by decide) (t := .int) (t' := .char) (by decide) (by decide)))
  have F_text_a1_63 : Fld Z h62 a1 "com/example/scrivenmoor/scrivenmoor/DatePattern$Part" "text" "Ljava/lang/String;" u2 := Fld.other W62 F_text_a1 (Or.inr (slot_ne (Or.inr (hw _ (List.mem_of_getElem? (i := 39) rfl))) (Or.inr (hw _ (List.mem_of_getElem? (i := 35) rfl))) (by decide) (t := (.object "java/lang/String")) (t' := .char) (by decide) (by decide)))
  have F_letter_a1_62w : Fld Z h62 a1 "com/example/scrivenmoor/scrivenmoor/DatePattern$Part" "letter" "C" (.int p1) := Fld.same W62 F_letter_a1
  have K62 : Keep h0 h62 [a1] := Keep.wr K0 W62 (Or.inl (List.mem_of_getElem? (i := 0) rfl))
  have N62 := Fr.snoc X62 N61 g_a1
  have Zs62 : n0 ≤ h62.size := by rw [W62.size]; exact Z0
  show Go p e below _ (T62.setTop (mkF m 9 #[.val (.ref a1), .val (.int p1), .val (.int p2), .val (.ref a2)] []))
  refine g_aloadN X62 hx (hb hby d4_9) 10 rfl (v := (.ref a1)) rfl rfl ?_
  refine g_iloadN X62 hx (hb hby d4_10) 11 rfl (v := p2) rfl ?_
  obtain ⟨T64, h64, X64, e64, W64, st64⟩ := putF X62 hx hZ hown (host := "") (Or.inl (hw _ (List.mem_of_getElem? (i := 36) rfl))) Via.refl e62 F_count_a1_63 E_a1_63 (Or.inr ⟨(hw _ (List.mem_of_getElem? (i := 37) rfl)), rfl, hnm⟩) (hw _ (List.mem_of_getElem? (i := 23) rfl)) (ty := .int) (by decide) rfl rfl (g := (mkF m 11 #[.val (.ref a1), .val (.int p1), .val (.int p2), .val (.ref a2)] [(.int p2), (.ref a1)])) rfl rfl (hb hby d4_11)
  refine Go.st st64 ?_
  have E_a1_65 : Exa Z h64 a1 "com/example/scrivenmoor/scrivenmoor/DatePattern$Part" := Exa.wr W64 E_a1_63
  have F_text_a1_65 : Fld Z h64 a1 "com/example/scrivenmoor/scrivenmoor/DatePattern$Part" "text" "Ljava/lang/String;" u2 := Fld.other W64 F_text_a1_63 (Or.inr (slot_ne (Or.inr (hw _ (List.mem_of_getElem? (i := 39) rfl))) (Or.inr (hw _ (List.mem_of_getElem? (i := 37) rfl))) (by decide) (t := (.object "java/lang/String")) (t' := .int) (by decide) (by decide)))
  have F_letter_a1_65 : Fld Z h64 a1 "com/example/scrivenmoor/scrivenmoor/DatePattern$Part" "letter" "C" (.int p1) := Fld.other W64 F_letter_a1_62w (Or.inr (slot_ne (Or.inr (hw _ (List.mem_of_getElem? (i := 35) rfl))) (Or.inr (hw _ (List.mem_of_getElem? (i := 37) rfl))) (by decide) (t := .char) (t' := .int) (by decide) (by decide)))
  have F_count_a1_64w : Fld Z h64 a1 "com/example/scrivenmoor/scrivenmoor/DatePattern$Part" "count" "I" (.int p2) := Fld.same W64 F_count_a1_63
  have K64 : Keep h0 h64 [a1] := Keep.wr K62 W64 (Or.inl (List.mem_of_getElem? (i := 0) rfl))
  have N64 := Fr.snoc X64 N62 g_a1
  have Zs64 : n0 ≤ h64.size := by rw [W64.size]; exact Zs62
  show Go p e below _ (T64.setTop (mkF m 14 #[.val (.ref a1), .val (.int p1), .val (.int p2), .val (.ref a2)] []))
  refine g_aloadN X64 hx (hb hby d4_14) 15 rfl (v := (.ref a1)) rfl rfl ?_
  refine g_aloadN X64 hx (hb hby d4_15) 16 rfl (v := (.ref a2)) rfl rfl ?_
  obtain ⟨T66, h66, X66, e66, W66, st66⟩ := putF X64 hx hZ hown (host := "") (Or.inl (hw _ (List.mem_of_getElem? (i := 38) rfl))) Via.refl e64 F_text_a1_65 E_a1_65 (Or.inr ⟨(hw _ (List.mem_of_getElem? (i := 39) rfl)), rfl, hnm⟩) (hw _ (List.mem_of_getElem? (i := 23) rfl)) (ty := (.object "java/lang/String")) (by decide) rfl rfl (g := (mkF m 16 #[.val (.ref a1), .val (.int p1), .val (.int p2), .val (.ref a2)] [(.ref a2), (.ref a1)])) rfl rfl (hb hby d4_16)
  refine Go.st st66 ?_
  have E_a1_67 : Exa Z h66 a1 "com/example/scrivenmoor/scrivenmoor/DatePattern$Part" := Exa.wr W66 E_a1_65
  have F_letter_a1_67 : Fld Z h66 a1 "com/example/scrivenmoor/scrivenmoor/DatePattern$Part" "letter" "C" (.int p1) := Fld.other W66 F_letter_a1_65 (Or.inr (slot_ne (Or.inr (hw _ (List.mem_of_getElem? (i := 35) rfl))) (Or.inr (hw _ (List.mem_of_getElem? (i := 39) rfl))) (by decide) (t := .char) (t' := (.object "java/lang/String")) (by decide) (by decide)))
  have F_count_a1_67 : Fld Z h66 a1 "com/example/scrivenmoor/scrivenmoor/DatePattern$Part" "count" "I" (.int p2) := Fld.other W66 F_count_a1_64w (Or.inr (slot_ne (Or.inr (hw _ (List.mem_of_getElem? (i := 37) rfl))) (Or.inr (hw _ (List.mem_of_getElem? (i := 39) rfl))) (by decide) (t := .int) (t' := (.object "java/lang/String")) (by decide) (by decide)))
  have F_text_a1_66w : Fld Z h66 a1 "com/example/scrivenmoor/scrivenmoor/DatePattern$Part" "text" "Ljava/lang/String;" (.ref a2) := Fld.same W66 F_text_a1_65
  have K66 : Keep h0 h66 [a1] := Keep.wr K64 W66 (Or.inl (List.mem_of_getElem? (i := 0) rfl))
  have N66 := Fr.snoc X66 N64 g_a1
  have Zs66 : n0 ≤ h66.size := by rw [W66.size]; exact Zs64
  show Go p e below _ (T66.setTop (mkF m 19 #[.val (.ref a1), .val (.int p1), .val (.int p2), .val (.ref a2)] []))
  refine Go.retV X66 hx hlk Bd.returns (hb hby d4_19) (by decide) (by decide) ?_
  show Q4 Z a1 p1 p2 a2 u0 u1 u2 h0 n0 _ T66.heap _
  rw [e66]
  exact ⟨rfl, N66, K66, E_a1_67, F_letter_a1_67, F_count_a1_67, F_text_a1_66w⟩
theorem ef_6 (m : MethodId) (x0 : Addr) : entryFrame m #[(.ref x0)] 1 = mkF m 0 #[.val (.ref x0)] [] := by first | (simp [entryFrame, mkF, argsToLocals, Value.category]; done) | rfl
theorem d6_0 : decode prog_19_method_2_code 0 = .ok (.aload_n 0, 1) := by decide +kernel
theorem d6_1 : decode prog_19_method_2_code 1 = .ok (.getfield 7, 3) := by decide +kernel
theorem d6_4 : decode prog_19_method_2_code 4 = .ok (.ifCond .eq 7, 3) := by decide +kernel
theorem d6_11 : decode prog_19_method_2_code 11 = .ok (.iconst 0, 1) := by decide +kernel
theorem d6_12 : decode prog_19_method_2_code 12 = .ok (.ireturn, 1) := by decide +kernel
theorem d6_7 : decode prog_19_method_2_code 7 = .ok (.iconst 1, 1) := by decide +kernel
theorem d6_8 : decode prog_19_method_2_code 8 = .ok (.goto 4, 3) := by decide +kernel
def Q6 (Z : State) (a1 : Addr) (z : Int32) (h0 : Heap) (n0 : Nat) (v : Option Value) (h : Heap) (L : List Loc) : Prop := ∃ r : Int32, v = some (.int r) ∧ Fr n0 L ∧ h = h0 ∧ (r = if z = 0 then 0 else 1)
set_option maxRecDepth 65536 in
set_option maxHeartbeats 40000000 in
theorem rm6 (l : Launch) (Z : State) (a0 : Array Value) (hw : ∀ d ∈ tables_1, d.before a0 Z = true) (ws : List Jvm.Cond) (a1 : Addr) (z : Int32) (h0 : Heap) (n0 : Nat) (Z0 : n0 ≤ h0.size) (F_letter_a1 : Fld Z h0 a1 "com/example/scrivenmoor/scrivenmoor/DatePattern$Part" "letter" "C" (.int z)) :
    MetFree l (⟨"com/example/scrivenmoor/scrivenmoor/DatePattern$Part", "isField", "()Z"⟩ : MethodName) (head1 (Jvm.Cond.code (⟨"com/example/scrivenmoor/scrivenmoor/DatePattern$Part", "isField", "()Z"⟩ : MethodName) prog_19_method_2_code 1 (some .boolean) :: ws) ({ frames := 0, cells := 0, slots := 0, locals := 0 } : Room)) (fun a U => a = #[(.ref a1)] ∧ Z.Warmed39 U.vm ∧ U.heap = h0) (fun _ _ _ _ _ => True) (fun _ U o U' => ∃ v L, o = .returned v ∧ Q6 Z a1 z h0 n0 v U'.heap L ∧ FrameEnd U o U' L ({ frames := 0, cells := 0, slots := 0, locals := 0 } : Room).cells ({ frames := 0, cells := 0, slots := 0, locals := 0 } : Room).slots) := by
  refine MetFree.of_bodySF (plainFor_of_name own_pn_com_example_scrivenmoor_scrivenmoor_DatePattern_Part) hisR ?_
  intro p e s m args below meth c s₁ Bd hml0 hP hK
  obtain ⟨rfl, hZ, hh⟩ := hP
  have hx := Bd.exec
  have hby := Bd.bytes
  have hlk := Bd.notSynchronized
  have hml : c.maxLocals = 1 := hml0
  have hown : s.vm.findClass "com/example/scrivenmoor/scrivenmoor/DatePattern$Part" = some m.cls := findClass_of_methodNamed Bd.named
  have hnm := (name_of_methodNamed Bd.named Bd.method).1
  have X0 : Stand p l e ({ frames := 0, cells := 0, slots := 0, locals := 0 } : Room) s m #[(.ref a1)] below meth c s₁ [] 0 0 := Stand.of_body Bd
  have e0 : s₁.heap = h0 := by rw [← hh, Bd.state]; rfl
  have N0 := Fr.nil n0
  show Go p e below (KQ s below (Q6 Z a1 z h0 n0) ({ frames := 0, cells := 0, slots := 0, locals := 0 } : Room).cells ({ frames := 0, cells := 0, slots := 0, locals := 0 } : Room).slots) _
  refine Go.body (T := s₁) (σ := s₁) (g' := (mkF m 0 #[.val (.ref a1)] [])) (ef_6 m a1) ?_
  refine g_aloadN X0 hx (hb hby d6_0) 1 rfl (v := (.ref a1)) rfl rfl ?_
  obtain ⟨T68, X68, e68, st68⟩ := getF X0 hx hZ hown (host := "") (Or.inl (hw _ (List.mem_of_getElem? (i := 34) rfl))) Via.refl e0 F_letter_a1 (g := (mkF m 1 #[.val (.ref a1)] [(.ref a1)])) rfl rfl (hb hby d6_1)
  refine Go.st st68 ?_
  show Go p e below _ (T68.setTop (mkF m 4 #[.val (.ref a1)] [(.int z)]))
  refine g_if_eq X68 hx (hb hby d6_4) 11 7 (by decide) (by decide) rfl (fun hc4 => ?_) (fun hc4 => ?_)
  · refine g_iconst X68 hx (hb hby d6_11) 12 rfl (0 : Int32) rfl ?_
    refine Go.retN X68 hx hlk (t := .boolean) Bd.returns (by simp) (hb hby d6_12) (by decide) (by decide) ?_
    show Q6 Z a1 z h0 n0 _ T68.heap _
    rw [e68]
    exact ⟨(0 : Int32), rfl, N0, rfl, (by simp [hc4])⟩
  · refine g_iconst X68 hx (hb hby d6_7) 8 rfl (1 : Int32) rfl ?_
    refine g_goto X68 hx (hb hby d6_8) 12 (by decide) (by decide) ?_
    refine Go.retN X68 hx hlk (t := .boolean) Bd.returns (by simp) (hb hby d6_12) (by decide) (by decide) ?_
    show Q6 Z a1 z h0 n0 _ T68.heap _
    rw [e68]
    exact ⟨(1 : Int32), rfl, N0, rfl, (by simp [hc4])⟩
theorem ef_7 (m : MethodId) (x0 : Addr) : entryFrame m #[(.ref x0)] 1 = mkF m 0 #[.val (.ref x0)] [] := by first | (simp [entryFrame, mkF, argsToLocals, Value.category]; done) | rfl
theorem d7_0 : decode prog_19_method_6_code 0 = .ok (.aload_n 0, 1) := by decide +kernel
theorem d7_1 : decode prog_19_method_6_code 1 = .ok (.getfield 7, 3) := by decide +kernel
theorem d7_4 : decode prog_19_method_6_code 4 = .ok (.ireturn, 1) := by decide +kernel
def Q7 (Z : State) (a1 : Addr) (z : Int32) (h0 : Heap) (n0 : Nat) (v : Option Value) (h : Heap) (L : List Loc) : Prop := v = some (.int z) ∧ Fr n0 L ∧ h = h0
set_option maxRecDepth 65536 in
set_option maxHeartbeats 40000000 in
theorem rm7 (l : Launch) (Z : State) (a0 : Array Value) (hw : ∀ d ∈ tables_1, d.before a0 Z = true) (ws : List Jvm.Cond) (a1 : Addr) (z : Int32) (h0 : Heap) (n0 : Nat) (Z0 : n0 ≤ h0.size) (F_letter_a1 : Fld Z h0 a1 "com/example/scrivenmoor/scrivenmoor/DatePattern$Part" "letter" "C" (.int z)) (hz : nar .char z = z) :
    MetFree l (⟨"com/example/scrivenmoor/scrivenmoor/DatePattern$Part", "letter", "()C"⟩ : MethodName) (head1 (Jvm.Cond.code (⟨"com/example/scrivenmoor/scrivenmoor/DatePattern$Part", "letter", "()C"⟩ : MethodName) prog_19_method_6_code 1 (some .char) :: ws) ({ frames := 0, cells := 0, slots := 0, locals := 0 } : Room)) (fun a U => a = #[(.ref a1)] ∧ Z.Warmed39 U.vm ∧ U.heap = h0) (fun _ _ _ _ _ => True) (fun _ U o U' => ∃ v L, o = .returned v ∧ Q7 Z a1 z h0 n0 v U'.heap L ∧ FrameEnd U o U' L ({ frames := 0, cells := 0, slots := 0, locals := 0 } : Room).cells ({ frames := 0, cells := 0, slots := 0, locals := 0 } : Room).slots) := by
  refine MetFree.of_bodySF (plainFor_of_name own_pn_com_example_scrivenmoor_scrivenmoor_DatePattern_Part) hisR ?_
  intro p e s m args below meth c s₁ Bd hml0 hP hK
  obtain ⟨rfl, hZ, hh⟩ := hP
  have hx := Bd.exec
  have hby := Bd.bytes
  have hlk := Bd.notSynchronized
  have hml : c.maxLocals = 1 := hml0
  have hown : s.vm.findClass "com/example/scrivenmoor/scrivenmoor/DatePattern$Part" = some m.cls := findClass_of_methodNamed Bd.named
  have hnm := (name_of_methodNamed Bd.named Bd.method).1
  have X0 : Stand p l e ({ frames := 0, cells := 0, slots := 0, locals := 0 } : Room) s m #[(.ref a1)] below meth c s₁ [] 0 0 := Stand.of_body Bd
  have e0 : s₁.heap = h0 := by rw [← hh, Bd.state]; rfl
  have N0 := Fr.nil n0
  show Go p e below (KQ s below (Q7 Z a1 z h0 n0) ({ frames := 0, cells := 0, slots := 0, locals := 0 } : Room).cells ({ frames := 0, cells := 0, slots := 0, locals := 0 } : Room).slots) _
  refine Go.body (T := s₁) (σ := s₁) (g' := (mkF m 0 #[.val (.ref a1)] [])) (ef_7 m a1) ?_
  refine g_aloadN X0 hx (hb hby d7_0) 1 rfl (v := (.ref a1)) rfl rfl ?_
  obtain ⟨T69, X69, e69, st69⟩ := getF X0 hx hZ hown (host := "") (Or.inl (hw _ (List.mem_of_getElem? (i := 34) rfl))) Via.refl e0 F_letter_a1 (g := (mkF m 1 #[.val (.ref a1)] [(.ref a1)])) rfl rfl (hb hby d7_1)
  refine Go.st st69 ?_
  show Go p e below _ (T69.setTop (mkF m 4 #[.val (.ref a1)] [(.int z)]))
  refine Go.retN X69 hx hlk (t := .char) Bd.returns (by simp) (hb hby d7_4) (by decide) (by decide) ?_
  show Q7 Z a1 z h0 n0 _ T69.heap _
  rw [e69]
  exact ⟨(by rw [hz]), N0, rfl⟩
theorem own_pn_com_example_scrivenmoor_scrivenmoor_PartIsFieldPinLaw : plainName "com/example/scrivenmoor/scrivenmoor/PartIsFieldPinLaw" = true := by first | (simp [plainName, overriddenIn]; done) | decide +kernel
theorem ef_0 (m : MethodId) (x0 : Int32) (x1 : Int32) (x2 : Int32) (x3 : Int32) (x4 : Int32) : entryFrame m #[(.int x0), (.int x1), (.int x2), (.int x3), (.int x4)] maxLocals = mkF m 0 #[.val (.int x0), .val (.int x1), .val (.int x2), .val (.int x3), .val (.int x4), .unset, .unset, .unset, .unset, .unset, .unset] [] := by first | (simp [entryFrame, mkF, argsToLocals, Value.category, maxLocals]; done) | rfl
theorem own_pd5 : parseMethodDescriptor "([C)V" = some ⟨[(.array .char)], none⟩ := by decide +kernel
theorem own_pd6 : parseMethodDescriptor "(CILjava/lang/String;)V" = some ⟨[.char, .int, (.object "java/lang/String")], none⟩ := by decide +kernel
theorem own_pd7 : parseMethodDescriptor "()Z" = some ⟨[], some .boolean⟩ := by decide +kernel
theorem own_pd8 : parseMethodDescriptor "()C" = some ⟨[], some .char⟩ := by decide +kernel
def Q0 (Z : State) (p1 : Int32) (p2 : Int32) (p3 : Int32) (p4 : Int32) (p5 : Int32) (s_COMPACT_STRINGS : Int32) (s_SIOOBE_FORMATTER : Value) (h0 : Heap) (n0 : Nat) (v : Option Value) (h : Heap) (L : List Loc) : Prop := v = some (.int (1 : Int32)) ∧ Fr n0 L
set_option maxRecDepth 65536 in
set_option maxHeartbeats 40000000 in
theorem rm0 (l : Launch) (Z : State) (a0 : Array Value) (hw : ∀ d ∈ tables_1, d.before a0 Z = true) (ws : List Jvm.Cond) (p1 : Int32) (p2 : Int32) (p3 : Int32) (p4 : Int32) (p5 : Int32) (s_COMPACT_STRINGS : Int32) (s_SIOOBE_FORMATTER : Value) (h0 : Heap) (n0 : Nat) (Z0 : n0 ≤ h0.size) (S_COMPACT_STRINGS : Sta Z h0 "java/lang/String" "COMPACT_STRINGS" "Z" (.int s_COMPACT_STRINGS)) (S_SIOOBE_FORMATTER : Sta Z h0 "jdk/internal/util/Preconditions" "SIOOBE_FORMATTER" "Ljava/util/function/BiFunction;" s_SIOOBE_FORMATTER) (hn0 : h0.size = n0) (hz_s_COMPACT_STRINGS : ¬ s_COMPACT_STRINGS = 0) (hR_s_SIOOBE_FORMATTER : s_SIOOBE_FORMATTER.isRef = true) :
    MetFree l x (head1 (Jvm.Cond.code x code maxLocals ret :: ws) room_1) (fun a U => a = #[(.int p1), (.int p2), (.int p3), (.int p4), (.int p5)] ∧ Z.Warmed39 U.vm ∧ U.heap = h0 ∧ CHv Z own_EL U.vm h0) (fun _ _ _ _ _ => True) (fun _ U o U' => ∃ v L, o = .returned v ∧ Q0 Z p1 p2 p3 p4 p5 s_COMPACT_STRINGS s_SIOOBE_FORMATTER h0 n0 v U'.heap L ∧ CHr Z own_EL U.vm U.heap U'.vm U'.heap ∧ ReturnedEndW U o U' L 24 1152) := by
  refine MetFree.of_bodySF (plainFor_of_name own_pn_com_example_scrivenmoor_scrivenmoor_PartIsFieldPinLaw) hisR ?_
  intro p e s m args below meth c s₁ Bd hml0 hP hK
  obtain ⟨rfl, hZ, hh, hCH⟩ := hP
  have hx := Bd.exec
  have hby := Bd.bytes
  have hlk := Bd.notSynchronized
  have hml : c.maxLocals = 11 := hml0
  have hown : s.vm.findClass "com/example/scrivenmoor/scrivenmoor/PartIsFieldPinLaw" = some m.cls := findClass_of_methodNamed Bd.named
  have hnm := (name_of_methodNamed Bd.named Bd.method).1
  have X0 : Stand p l e room_1 (s.setVm s.vm) m #[(.int p1), (.int p2), (.int p3), (.int p4), (.int p5)] below meth c s₁ [] 0 0 := Stand.of_body Bd
  have hZ : Z.Warmed39 (s.setVm s.vm).vm := hZ
  have hown : (s.setVm s.vm).vm.findClass "com/example/scrivenmoor/scrivenmoor/PartIsFieldPinLaw" = some m.cls := hown
  have hS0 : s.Since s.vm 0 := (State.WarmedH.refl s).since 0
  have R0 : CHr Z own_EL s.vm h0 s.vm h0 := CHr.refl hCH
  have e0 : s₁.heap = h0 := by rw [← hh, Bd.state]; rfl
  have N0 := Fr.nil n0
  have K0 : Keep h0 h0 [] := Keep.refl _ _
  show Go p e below (KS s below Z own_EL (Q0 Z p1 p2 p3 p4 p5 s_COMPACT_STRINGS s_SIOOBE_FORMATTER h0 n0) 24 1152) _
  refine Go.body (T := s₁) (σ := s₁) (g' := (mkF m 0 #[.val (.int p1), .val (.int p2), .val (.int p3), .val (.int p4), .val (.int p5), .unset, .unset, .unset, .unset, .unset, .unset] [])) (ef_0 m p1 p2 p3 p4 p5) ?_
  have tl : ∀ (lt : Int32) (_ : narrow .char (.int lt) = .int lt ∧ fits .char (.int lt) = true) (_ : nar .char lt = lt), Go p e below (KS s below Z own_EL (Q0 Z p1 p2 p3 p4 p5 s_COMPACT_STRINGS s_SIOOBE_FORMATTER h0 n0) 24 1152) (s₁.setTop (mkF m 15 #[.val (.int p1), .val (.int p2), .val (.int p3), .val (.int p4), .val (.int p5), .val (.int lt), .unset, .unset, .unset, .unset, .unset] [])) := by
    intro lt h_lt n_lt
    refine g_iload X0 hx (hb hby at_15) 17 rfl (v := p5) rfl ?_
    refine g_iconst X0 hx (hb hby at_17) 18 rfl (1 : Int32) rfl ?_
    refine g_iushr X0 hx (hb hby at_18) 19 rfl (XT.ushr p5 (1 : Int32)) rfl ?_
    refine g_iconst X0 hx (hb hby at_19) 20 rfl (3 : Int32) rfl ?_
    refine g_iand X0 hx (hb hby at_20) 21 rfl ((XT.ushr p5 (1 : Int32)) &&& (3 : Int32)) rfl ?_
    refine g_istore X0 hx (hb hby at_21) 23 rfl #[.val (.int p1), .val (.int p2), .val (.int p3), .val (.int p4), .val (.int p5), .val (.int lt), .val (.int ((XT.ushr p5 (1 : Int32)) &&& (3 : Int32))), .unset, .unset, .unset, .unset] rfl ?_
    refine g_iload X0 hx (hb hby at_23) 25 rfl (v := ((XT.ushr p5 (1 : Int32)) &&& (3 : Int32))) rfl ?_
    refine g_if_ne X0 hx (hb hby at_25) 36 28 (by decide) (by decide) rfl (fun hc25 => ?_) (fun hc25 => ?_)
    · refine g_iload X0 hx (hb hby at_36) 38 rfl (v := ((XT.ushr p5 (1 : Int32)) &&& (3 : Int32))) rfl ?_
      refine g_iconst X0 hx (hb hby at_38) 39 rfl (1 : Int32) rfl ?_
      refine g_icmp_ne X0 hx (hb hby at_39) 60 42 (by decide) (by decide) rfl (fun hc39 => ?_) (fun hc39 => ?_)
      · refine g_iconst X0 hx (hb hby at_60) 61 rfl (2 : Int32) rfl ?_
        obtain ⟨T70, h70, cA70, X70, e70, E70, A70, st70⟩ := newP X0 hx hZ (aty := .char) (hw _ (List.mem_of_getElem? (i := 0) rfl)) e0 (g := (mkF m 61 #[.val (.int p1), .val (.int p2), .val (.int p3), .val (.int p4), .val (.int p5), .val (.int lt), .val (.int ((XT.ushr p5 (1 : Int32)) &&& (3 : Int32))), .unset, .unset, .unset, .unset] [(.int (2 : Int32))])) rfl (hb hby at_61) rfl (by decide) (cap := 2) (by decide) (by decide) (by decide) (by decide)
        refine Go.st st70 ?_
        obtain ⟨o70, q70⟩ : ∃ z, z = h0.size := ⟨_, rfl⟩
        rw [← q70] at A70 ⊢
        have g_o70 : n0 ≤ o70 := Nat.le_trans Z0 (Nat.le_of_eq q70.symm)
        have Sf_o70 : Safe Z own_EL s.vm h0 o70 := Safe.new (Nat.le_of_eq q70.symm)
        have mh_o70 : h0.size ≤ o70 := Nat.le_trans K0.1 (Nat.le_of_eq q70.symm)
        have Sf_o70_71 : Safe Z own_EL s.vm h70 o70 := Safe.ext E70 R0.1 Sf_o70
        have R71 : CHr Z own_EL s.vm h0 s.vm h70 := CHr.trans R0 (CHr.ext E70 R0.1)
        have hk71 : _ ≤ h70.size := Nat.le_trans (Nat.zero_le _) (E70.1)
        have K70 : Keep h0 h70 [] := Keep.ext K0 E70
        have Zs70 : n0 ≤ h70.size := Nat.le_trans Z0 E70.1
        have Av_o70 : Arv Z h70 o70 cA70 .char (2 : Int32) ([(.int (0 : Int32)), (.int (0 : Int32))]) (.int (0 : Int32)) := Arv.pad (Arv.new A70 (by decide)) (pad_rep [] (.int (0 : Int32)) 2)
        show Go p e below _ (T70.setTop (mkF m 63 #[.val (.int p1), .val (.int p2), .val (.int p3), .val (.int p4), .val (.int p5), .val (.int lt), .val (.int ((XT.ushr p5 (1 : Int32)) &&& (3 : Int32))), .unset, .unset, .unset, .unset] [(.ref o70)]))
        refine g_astore X70 hx (hb hby at_63) 65 rfl rfl #[.val (.int p1), .val (.int p2), .val (.int p3), .val (.int p4), .val (.int p5), .val (.int lt), .val (.int ((XT.ushr p5 (1 : Int32)) &&& (3 : Int32))), .val (.ref o70), .unset, .unset, .unset] rfl ?_
        refine g_aload X70 hx (hb hby at_65) 67 rfl (v := (.ref o70)) rfl rfl ?_
        refine g_iconst X70 hx (hb hby at_67) 68 rfl (0 : Int32) rfl ?_
        refine g_iloadN X70 hx (hb hby at_68) 69 rfl (v := p3) rfl ?_
        refine g_sipush X70 hx (hb hby at_69) 72 rfl (255 : Int32) rfl ?_
        refine g_iand X70 hx (hb hby at_72) 73 rfl (p3 &&& (255 : Int32)) rfl ?_
        obtain ⟨cb, e_cb⟩ : ∃ z, (p3 &&& (255 : Int32)).toUInt32.toUInt16.toUInt32.toInt32 = z := ⟨_, rfl⟩
        refine g_i2c X70 hx (hb hby at_73) 74 rfl cb e_cb ?_
        obtain ⟨T73, h73, X73, e73, W73, B73, st73⟩ := g_castore X70 hx (hb hby at_74) hZ e70 Av_o70 (show ¬ (0 : Int32) < 0 ∧ (0 : Int32) < (2 : Int32) from by decide) (i := 0) (by decide) (by simp)  (L := #[.val (.int p1), .val (.int p2), .val (.int p3), .val (.int p4), .val (.int p5), .val (.int lt), .val (.int ((XT.ushr p5 (1 : Int32)) &&& (3 : Int32))), .val (.ref o70), .unset, .unset, .unset]) (S := [])
        refine Go.st st73 ?_
        have Sf_o70_74 : Safe Z own_EL s.vm h73 o70 := Safe.wr W73 Sf_o70_71 R71.1 Sf_o70_71
        have R74 : CHr Z own_EL s.vm h0 s.vm h73 := CHr.trans R71 (CHr.wr W73 Sf_o70_71 R71.1)
        have hk74 : _ ≤ h73.size := Nat.le_trans hk71 (Nat.le_of_eq W73.size.symm)
        have Av_o70_73 : Arv Z h73 o70 cA70 .char (2 : Int32) ([(.int cb), (.int (0 : Int32))]) (.int (0 : Int32)) := (by have q := B73; rw [own_nc2 e_cb] at q; exact q)
        have K73 : Keep h0 h73 [] := Keep.wr K70 W73 (Or.inr mh_o70)
        have N73 := Fr.snoc X73 N0 g_o70
        have Zs73 : n0 ≤ h73.size := by rw [W73.size]; exact Zs70
        show Go p e below _ (T73.setTop (mkF m 75 #[.val (.int p1), .val (.int p2), .val (.int p3), .val (.int p4), .val (.int p5), .val (.int lt), .val (.int ((XT.ushr p5 (1 : Int32)) &&& (3 : Int32))), .val (.ref o70), .unset, .unset, .unset] []))
        refine g_aload X73 hx (hb hby at_75) 77 rfl (v := (.ref o70)) rfl rfl ?_
        refine g_iconst X73 hx (hb hby at_77) 78 rfl (1 : Int32) rfl ?_
        refine g_iloadN X73 hx (hb hby at_78) 79 rfl (v := p4) rfl ?_
        refine g_sipush X73 hx (hb hby at_79) 82 rfl (255 : Int32) rfl ?_
        refine g_iand X73 hx (hb hby at_82) 83 rfl (p4 &&& (255 : Int32)) rfl ?_
        obtain ⟨cd, e_cd⟩ : ∃ z, (p4 &&& (255 : Int32)).toUInt32.toUInt16.toUInt32.toInt32 = z := ⟨_, rfl⟩
        refine g_i2c X73 hx (hb hby at_83) 84 rfl cd e_cd ?_
        obtain ⟨T76, h76, X76, e76, W76, B76, st76⟩ := g_castore X73 hx (hb hby at_84) hZ e73 Av_o70_73 (show ¬ (1 : Int32) < 0 ∧ (1 : Int32) < (2 : Int32) from by decide) (i := 1) (by decide) (by simp)  (L := #[.val (.int p1), .val (.int p2), .val (.int p3), .val (.int p4), .val (.int p5), .val (.int lt), .val (.int ((XT.ushr p5 (1 : Int32)) &&& (3 : Int32))), .val (.ref o70), .unset, .unset, .unset]) (S := [])
        refine Go.st st76 ?_
        have Sf_o70_77 : Safe Z own_EL s.vm h76 o70 := Safe.wr W76 Sf_o70_74 R74.1 Sf_o70_74
        have R77 : CHr Z own_EL s.vm h0 s.vm h76 := CHr.trans R74 (CHr.wr W76 Sf_o70_74 R74.1)
        have hk77 : _ ≤ h76.size := Nat.le_trans hk74 (Nat.le_of_eq W76.size.symm)
        have Av_o70_76 : Arv Z h76 o70 cA70 .char (2 : Int32) ([(.int cb), (.int cd)]) (.int (0 : Int32)) := (by have q := B76; rw [own_nc2 e_cd] at q; exact q)
        have K76 : Keep h0 h76 [] := Keep.wr K73 W76 (Or.inr mh_o70)
        have N76 := Fr.snoc X76 N73 g_o70
        have Zs76 : n0 ≤ h76.size := by rw [W76.size]; exact Zs73
        show Go p e below _ (T76.setTop (mkF m 85 #[.val (.int p1), .val (.int p2), .val (.int p3), .val (.int p4), .val (.int p5), .val (.int lt), .val (.int ((XT.ushr p5 (1 : Int32)) &&& (3 : Int32))), .val (.ref o70), .unset, .unset, .unset] []))
        obtain ⟨T79, h79, X79, e79, E79, A79, D79, -, st79⟩ := newO X76 hx hZ hown (hw _ (List.mem_of_getElem? (i := 1) rfl)) (hw _ (List.mem_of_getElem? (i := 2) rfl)) (hw _ (List.mem_of_getElem? (i := 3) rfl)) e76 (g := (mkF m 85 #[.val (.int p1), .val (.int p2), .val (.int p3), .val (.int p4), .val (.int p5), .val (.int lt), .val (.int ((XT.ushr p5 (1 : Int32)) &&& (3 : Int32))), .val (.ref o70), .unset, .unset, .unset] [])) rfl (hb hby at_85) (by decide) (by decide)
        refine Go.st st79 ?_
        obtain ⟨os, q79⟩ : ∃ z, z = h76.size := ⟨_, rfl⟩
        rw [← q79] at A79 D79 ⊢
        have ne_o70_os : o70 ≠ os := Nat.ne_of_lt (Nat.lt_of_lt_of_eq Av_o70_76.lt q79.symm)
        have g_os : n0 ≤ os := Nat.le_trans Zs76 (Nat.le_of_eq q79.symm)
        have Sf_os : Safe Z own_EL s.vm h76 os := Safe.new (Nat.le_of_eq q79.symm)
        have mh_os : h0.size ≤ os := Nat.le_trans K76.1 (Nat.le_of_eq q79.symm)
        have Sf_o70_80 : Safe Z own_EL s.vm h79 o70 := Safe.ext E79 R77.1 Sf_o70_77
        have Sf_os_80 : Safe Z own_EL s.vm h79 os := Safe.ext E79 R77.1 Sf_os
        have R80 : CHr Z own_EL s.vm h0 s.vm h79 := CHr.trans R77 (CHr.ext E79 R77.1)
        have hk80 : _ ≤ h79.size := Nat.le_trans hk77 (E79.1)
        have A_o70_81 : Arv Z h79 o70 cA70 .char (2 : Int32) ([(.int cb), (.int cd)]) (.int (0 : Int32)) := Arv.ext Av_o70_76 E79
        have F_value_79 : Fld Z h79 os "java/lang/String" "value" "[B" .null := D79 (Or.inr (hw _ (List.mem_of_getElem? (i := 16) rfl))) (ty := (.array .byte)) (by decide)
        have F_coder_79 : Fld Z h79 os "java/lang/String" "coder" "B" (.int (0 : Int32)) := D79 (Or.inr (hw _ (List.mem_of_getElem? (i := 17) rfl))) (ty := .byte) (by decide)
        have K79 : Keep h0 h79 [] := Keep.ext K76 E79
        have Zs79 : n0 ≤ h79.size := Nat.le_trans Zs76 E79.1
        show Go p e below _ (T79.setTop (mkF m 88 #[.val (.int p1), .val (.int p2), .val (.int p3), .val (.int p4), .val (.int p5), .val (.int lt), .val (.int ((XT.ushr p5 (1 : Int32)) &&& (3 : Int32))), .val (.ref o70), .unset, .unset, .unset] [(.ref os)]))
        refine g_dup X79 hx (hb hby at_88) 89 rfl rfl ?_
        refine g_aload X79 hx (hb hby at_89) 91 rfl (v := (.ref o70)) rfl rfl ?_
        obtain ⟨_, _, ⟨T82, L82, k82, n82⟩, -, X82, ⟨Lc82, hQ82, l82, y82, z82⟩, st82⟩ := X79.specialBack hx (y := (⟨"java/lang/String", "<init>", "([C)V"⟩ : MethodName)) rfl hown (mvT hZ (hw _ (List.mem_of_getElem? (i := 4) rfl))) (mvT hZ (hw _ (List.mem_of_getElem? (i := 5) rfl))) (mvT hZ (hw _ (List.mem_of_getElem? (i := 6) rfl))) (by decide) (backOf (W := 1) (rmsC2 l Z a0 hw [] os o70 s_COMPACT_STRINGS cA70 cb cd h79 n0 Zs79 (own_Sta_keep S_COMPACT_STRINGS K79 all0) A79 g_os F_value_79 F_coder_79 A_o70_81 (Ne.symm ne_o70_os) hz_s_COMPACT_STRINGS (e_cb ▸ own_ch _) (e_cd ▸ own_ch _)) hZ (hw _ (List.mem_of_getElem? (i := 6) rfl)) (hw _ (List.mem_of_getElem? (i := 3) rfl)) (by decide) (by decide)) (g := (mkF m 91 #[.val (.int p1), .val (.int p2), .val (.int p3), .val (.int p4), .val (.int p5), .val (.int lt), .val (.int ((XT.ushr p5 (1 : Int32)) &&& (3 : Int32))), .val (.ref o70), .unset, .unset, .unset] [(.ref o70), (.ref os), (.ref os)])) rfl (by rw [hml]; rfl) (Steps.refl _) (a := os) (argsL := [(.ref o70)]) (rest := [(.ref os)]) (lenOf own_pd5 rfl) rfl (by show 2 * 0 + _ ≤ _; exact Nat.le_of_eq rfl) (hb hby at_91) (fun _ _ => ⟨rfl, e79, (by decide : 2 + 1 ≤ _), (by decide : 6 + 2 ≤ _)⟩)
        dsimp only [Pt.U, Pt.locs, Pt.cells, Pt.slots] at X82 l82 y82 z82 st82 hQ82
        subst l82 y82 z82
        obtain ⟨vb_82, kb_82, rfl, Nq82, Kq82, f82_0, f82_1, f82_2, f82_3, f82_4⟩ := hQ82
        refine Go.tr st82 ?_
        have N82 := Fr.app N76 Nq82
        have Sf_vb_82 : Safe Z own_EL s.vm h79 vb_82 := Safe.new f82_0
        have Sf_o70_83 : Safe Z own_EL s.vm T82.heap o70 := Safe.keep Kq82 (allS Sf_os_80 all0) R80.1 Sf_o70_80
        have Sf_os_83 : Safe Z own_EL s.vm T82.heap os := Safe.keep Kq82 (allS Sf_os_80 all0) R80.1 Sf_os_80
        have Sf_vb_82_83 : Safe Z own_EL s.vm T82.heap vb_82 := Safe.keep Kq82 (allS Sf_os_80 all0) R80.1 Sf_vb_82
        have R83 : CHr Z own_EL s.vm h0 s.vm T82.heap := CHr.trans R80 (CHr.keep Kq82 (allS Sf_os_80 all0) R80.1)
        have hk83 : _ ≤ T82.heap.size := Nat.le_trans hk80 (Kq82.1)
        have A_o70_84 : Arv Z T82.heap o70 cA70 .char (2 : Int32) ([(.int cb), (.int cd)]) (.int (0 : Int32)) := Arv.keep A_o70_81 Kq82 (ninS ne_o70_os nin0)
        have E_os_84 : Exa Z T82.heap os "java/lang/String" := Exa.keep A79 Kq82
        have ne_o70_vb_82 : o70 ≠ vb_82 := Nat.ne_of_lt (Nat.lt_of_lt_of_le A_o70_81.lt f82_0)
        have ne_os_vb_82 : os ≠ vb_82 := Nat.ne_of_lt (Nat.lt_of_lt_of_le A79.lt f82_0)
        have g_vb_82 : n0 ≤ vb_82 := Nat.le_trans Zs79 f82_0
        have mh_vb_82 : h0.size ≤ vb_82 := Nat.le_trans K79.1 f82_0
        have K82 : Keep h0 T82.heap [] := Keep.trans K79 Kq82 (allS (Or.inr mh_os) all0)
        have Zs82 : n0 ≤ T82.heap.size := Nat.le_trans Zs79 Kq82.1
        show Go p e below _ (T82.setTop (mkF m 94 #[.val (.int p1), .val (.int p2), .val (.int p3), .val (.int p4), .val (.int p5), .val (.int lt), .val (.int ((XT.ushr p5 (1 : Int32)) &&& (3 : Int32))), .val (.ref o70), .unset, .unset, .unset] [(.ref os)]))
        refine g_astore X82 hx (hb hby at_94) 96 rfl rfl #[.val (.int p1), .val (.int p2), .val (.int p3), .val (.int p4), .val (.int p5), .val (.int lt), .val (.int ((XT.ushr p5 (1 : Int32)) &&& (3 : Int32))), .val (.ref o70), .val (.ref os), .unset, .unset] rfl ?_
        obtain ⟨T85, h85, X85, e85, E85, A85, D85, -, st85⟩ := newO X82 hx hZ hown (hw _ (List.mem_of_getElem? (i := 22) rfl)) (hw _ (List.mem_of_getElem? (i := 23) rfl)) (hw _ (List.mem_of_getElem? (i := 24) rfl)) rfl (g := (mkF m 96 #[.val (.int p1), .val (.int p2), .val (.int p3), .val (.int p4), .val (.int p5), .val (.int lt), .val (.int ((XT.ushr p5 (1 : Int32)) &&& (3 : Int32))), .val (.ref o70), .val (.ref os), .unset, .unset] [])) rfl (hb hby at_96) (by decide) (by decide)
        refine Go.st st85 ?_
        obtain ⟨op, q85⟩ : ∃ z, z = T82.heap.size := ⟨_, rfl⟩
        rw [← q85] at A85 D85 ⊢
        have ne_o70_op : o70 ≠ op := Nat.ne_of_lt (Nat.lt_of_lt_of_eq A_o70_84.lt q85.symm)
        have ne_os_op : os ≠ op := Nat.ne_of_lt (Nat.lt_of_lt_of_eq f82_1.lt q85.symm)
        have ne_vb_82_op : vb_82 ≠ op := Nat.ne_of_lt (Nat.lt_of_lt_of_eq f82_4.lt q85.symm)
        have g_op : n0 ≤ op := Nat.le_trans Zs82 (Nat.le_of_eq q85.symm)
        have Sf_op : Safe Z own_EL s.vm T82.heap op := Safe.new (Nat.le_of_eq q85.symm)
        have mh_op : h0.size ≤ op := Nat.le_trans K82.1 (Nat.le_of_eq q85.symm)
        have Sf_o70_86 : Safe Z own_EL s.vm h85 o70 := Safe.ext E85 R83.1 Sf_o70_83
        have Sf_os_86 : Safe Z own_EL s.vm h85 os := Safe.ext E85 R83.1 Sf_os_83
        have Sf_vb_82_86 : Safe Z own_EL s.vm h85 vb_82 := Safe.ext E85 R83.1 Sf_vb_82_83
        have Sf_op_86 : Safe Z own_EL s.vm h85 op := Safe.ext E85 R83.1 Sf_op
        have R86 : CHr Z own_EL s.vm h0 s.vm h85 := CHr.trans R83 (CHr.ext E85 R83.1)
        have hk86 : _ ≤ h85.size := Nat.le_trans hk83 (E85.1)
        have A_o70_87 : Arv Z h85 o70 cA70 .char (2 : Int32) ([(.int cb), (.int cd)]) (.int (0 : Int32)) := Arv.ext A_o70_84 E85
        have E_os_87 : Exa Z h85 os "java/lang/String" := Exa.ext E85 f82_1
        have F_value_os_87 : Fld Z h85 os "java/lang/String" "value" "[B" (.ref vb_82) := Fld.ext E85 f82_2
        have F_coder_os_87 : Fld Z h85 os "java/lang/String" "coder" "B" (.int (0 : Int32)) := Fld.ext E85 f82_3
        have A_vb_82_87 : Arv Z h85 vb_82 kb_82 .byte (2 : Int32) ([(.int cb.toInt8.toInt32), (.int cd.toInt8.toInt32)]) (.int (0 : Int32)) := Arv.ext f82_4 E85
        have F_letter_85 : Fld Z h85 op "com/example/scrivenmoor/scrivenmoor/DatePattern$Part" "letter" "C" (.int (0 : Int32)) := D85 (Or.inr (hw _ (List.mem_of_getElem? (i := 35) rfl))) (ty := .char) (by decide)
        have F_count_85 : Fld Z h85 op "com/example/scrivenmoor/scrivenmoor/DatePattern$Part" "count" "I" (.int (0 : Int32)) := D85 (Or.inr (hw _ (List.mem_of_getElem? (i := 37) rfl))) (ty := .int) (by decide)
        have F_text_85 : Fld Z h85 op "com/example/scrivenmoor/scrivenmoor/DatePattern$Part" "text" "Ljava/lang/String;" .null := D85 (Or.inr (hw _ (List.mem_of_getElem? (i := 39) rfl))) (ty := (.object "java/lang/String")) (by decide)
        have K85 : Keep h0 h85 [] := Keep.ext K82 E85
        have Zs85 : n0 ≤ h85.size := Nat.le_trans Zs82 E85.1
        show Go p e below _ (T85.setTop (mkF m 99 #[.val (.int p1), .val (.int p2), .val (.int p3), .val (.int p4), .val (.int p5), .val (.int lt), .val (.int ((XT.ushr p5 (1 : Int32)) &&& (3 : Int32))), .val (.ref o70), .val (.ref os), .unset, .unset] [(.ref op)]))
        refine g_dup X85 hx (hb hby at_99) 100 rfl rfl ?_
        refine g_iload X85 hx (hb hby at_100) 102 rfl (v := lt) rfl ?_
        refine g_iloadN X85 hx (hb hby at_102) 103 rfl (v := p2) rfl ?_
        refine g_aload X85 hx (hb hby at_103) 105 rfl (v := (.ref os)) rfl rfl ?_
        obtain ⟨_, _, ⟨T88, L88, k88, n88⟩, -, X88, ⟨Lc88, hQ88, l88, y88, z88⟩, st88⟩ := X85.specialBack hx (y := (⟨"com/example/scrivenmoor/scrivenmoor/DatePattern$Part", "<init>", "(CILjava/lang/String;)V"⟩ : MethodName)) rfl hown (mvT hZ (hw _ (List.mem_of_getElem? (i := 25) rfl))) (mvT hZ (hw _ (List.mem_of_getElem? (i := 26) rfl))) (mvT hZ (hw _ (List.mem_of_getElem? (i := 27) rfl))) (by decide) (backOf (W := 1) (rm4 l Z a0 hw [] op lt p2 os (.int (0 : Int32)) (.int (0 : Int32)) .null h85 n0 Zs85 A85 g_op F_letter_85 F_count_85 F_text_85 h_lt) hZ (hw _ (List.mem_of_getElem? (i := 27) rfl)) (hw _ (List.mem_of_getElem? (i := 24) rfl)) (by decide) (by decide)) (g := (mkF m 105 #[.val (.int p1), .val (.int p2), .val (.int p3), .val (.int p4), .val (.int p5), .val (.int lt), .val (.int ((XT.ushr p5 (1 : Int32)) &&& (3 : Int32))), .val (.ref o70), .val (.ref os), .unset, .unset] [(.ref os), (.int p2), (.int lt), (.ref op), (.ref op)])) rfl (by rw [hml]; rfl) (Steps.refl _) (a := op) (argsL := [(.int lt), (.int p2), (.ref os)]) (rest := [(.ref op)]) (lenOf own_pd6 rfl) rfl (by show 2 * 0 + _ ≤ _; exact Nat.le_of_eq rfl) (hb hby at_105) (fun _ _ => ⟨rfl, e85, (by decide : 4 + 0 ≤ _), (by decide : 11 + 0 ≤ _)⟩)
        dsimp only [Pt.U, Pt.locs, Pt.cells, Pt.slots] at X88 l88 y88 z88 st88 hQ88
        subst l88 y88 z88
        obtain ⟨rfl, Nq88, Kq88, f88_0, f88_1, f88_2, f88_3⟩ := hQ88
        refine Go.tr st88 ?_
        have N88 := Fr.app N82 Nq88
        have Sf_o70_89 : Safe Z own_EL s.vm T88.heap o70 := Safe.keep Kq88 (allS Sf_op_86 all0) R86.1 Sf_o70_86
        have Sf_os_89 : Safe Z own_EL s.vm T88.heap os := Safe.keep Kq88 (allS Sf_op_86 all0) R86.1 Sf_os_86
        have Sf_vb_82_89 : Safe Z own_EL s.vm T88.heap vb_82 := Safe.keep Kq88 (allS Sf_op_86 all0) R86.1 Sf_vb_82_86
        have Sf_op_89 : Safe Z own_EL s.vm T88.heap op := Safe.keep Kq88 (allS Sf_op_86 all0) R86.1 Sf_op_86
        have R89 : CHr Z own_EL s.vm h0 s.vm T88.heap := CHr.trans R86 (CHr.keep Kq88 (allS Sf_op_86 all0) R86.1)
        have hk89 : _ ≤ T88.heap.size := Nat.le_trans hk86 (Kq88.1)
        have A_o70_90 : Arv Z T88.heap o70 cA70 .char (2 : Int32) ([(.int cb), (.int cd)]) (.int (0 : Int32)) := Arv.keep A_o70_87 Kq88 (ninS ne_o70_op nin0)
        have E_os_90 : Exa Z T88.heap os "java/lang/String" := Exa.keep E_os_87 Kq88
        have F_value_os_90 : Fld Z T88.heap os "java/lang/String" "value" "[B" (.ref vb_82) := Fld.keep F_value_os_87 Kq88 (ninS ne_os_op nin0)
        have F_coder_os_90 : Fld Z T88.heap os "java/lang/String" "coder" "B" (.int (0 : Int32)) := Fld.keep F_coder_os_87 Kq88 (ninS ne_os_op nin0)
        have A_vb_82_90 : Arv Z T88.heap vb_82 kb_82 .byte (2 : Int32) ([(.int cb.toInt8.toInt32), (.int cd.toInt8.toInt32)]) (.int (0 : Int32)) := Arv.keep A_vb_82_87 Kq88 (ninS ne_vb_82_op nin0)
        have E_op_90 : Exa Z T88.heap op "com/example/scrivenmoor/scrivenmoor/DatePattern$Part" := Exa.keep A85 Kq88
        have K88 : Keep h0 T88.heap [] := Keep.trans K85 Kq88 (allS (Or.inr mh_op) all0)
        have Zs88 : n0 ≤ T88.heap.size := Nat.le_trans Zs85 Kq88.1
        show Go p e below _ (T88.setTop (mkF m 108 #[.val (.int p1), .val (.int p2), .val (.int p3), .val (.int p4), .val (.int p5), .val (.int lt), .val (.int ((XT.ushr p5 (1 : Int32)) &&& (3 : Int32))), .val (.ref o70), .val (.ref os), .unset, .unset] [(.ref op)]))
        refine g_astore X88 hx (hb hby at_108) 110 rfl rfl #[.val (.int p1), .val (.int p2), .val (.int p3), .val (.int p4), .val (.int p5), .val (.int lt), .val (.int ((XT.ushr p5 (1 : Int32)) &&& (3 : Int32))), .val (.ref o70), .val (.ref os), .val (.ref op), .unset] rfl ?_
        refine g_iload X88 hx (hb hby at_110) 112 rfl (v := lt) rfl ?_
        refine g_if_eq X88 hx (hb hby at_112) 119 115 (by decide) (by decide) rfl (fun hc112 => ?_) (fun hc112 => ?_)
        · refine g_iconst X88 hx (hb hby at_119) 120 rfl (0 : Int32) rfl ?_
          refine g_istore X88 hx (hb hby at_120) 122 rfl #[.val (.int p1), .val (.int p2), .val (.int p3), .val (.int p4), .val (.int p5), .val (.int lt), .val (.int ((XT.ushr p5 (1 : Int32)) &&& (3 : Int32))), .val (.ref o70), .val (.ref os), .val (.ref op), .val (.int (0 : Int32))] rfl ?_
          refine g_aload X88 hx (hb hby at_122) 124 rfl (v := (.ref op)) rfl rfl ?_
          obtain ⟨cq91, kq91, q91a, q91b, q91c⟩ := isOf hZ rfl f88_0
          obtain ⟨_, _, ⟨T91, L91, k91, n91⟩, -, X91, ⟨Lc91, hQ91, l91, y91, z91⟩, st91⟩ := X88.virtualBack hx (y := (⟨"com/example/scrivenmoor/scrivenmoor/DatePattern$Part", "isField", "()Z"⟩ : MethodName)) (z := (⟨"com/example/scrivenmoor/scrivenmoor/DatePattern$Part", "isField", "()Z"⟩ : MethodName)) hown (mvT hZ (hw _ (List.mem_of_getElem? (i := 40) rfl))) (mvT hZ (hw _ (List.mem_of_getElem? (i := 41) rfl))) (notFace_of_selects (args := #[]) (mvT hZ (hw _ (List.mem_of_getElem? (i := 43) rfl)))) (mvT hZ (hw _ (List.mem_of_getElem? (i := 43) rfl))) (mvT hZ (hw _ (List.mem_of_getElem? (i := 42) rfl))) (by decide) (backOf (W := 0) (rm6 l Z a0 hw [] op lt T88.heap n0 Zs88 f88_1) hZ (hw _ (List.mem_of_getElem? (i := 44) rfl)) (hw _ (List.mem_of_getElem? (i := 24) rfl)) (by decide) (by decide)) q91a q91c (g := (mkF m 124 #[.val (.int p1), .val (.int p2), .val (.int p3), .val (.int p4), .val (.int p5), .val (.int lt), .val (.int ((XT.ushr p5 (1 : Int32)) &&& (3 : Int32))), .val (.ref o70), .val (.ref os), .val (.ref op), .val (.int (0 : Int32))] [(.ref op)])) rfl (by rw [hml]; rfl) (Steps.refl _) (argsL := []) (rest := []) (lenOf own_pd7 rfl) rfl (by show 2 * 0 + _ ≤ _; exact Nat.le_of_eq rfl) (hb hby at_124) (fun _ _ => ⟨rfl, rfl, (by decide : 4 + 0 ≤ _), (by decide : 11 + 0 ≤ _)⟩)
          dsimp only [Pt.U, Pt.locs, Pt.cells, Pt.slots] at X91 l91 y91 z91 st91 hQ91
          subst l91 y91 z91
          obtain ⟨r_91, rfl, Nq91, e91, p91_0⟩ := hQ91
          refine Go.tr st91 ?_
          have N91 := Fr.app N88 Nq91
          show Go p e below _ (T91.setTop (mkF m 127 #[.val (.int p1), .val (.int p2), .val (.int p3), .val (.int p4), .val (.int p5), .val (.int lt), .val (.int ((XT.ushr p5 (1 : Int32)) &&& (3 : Int32))), .val (.ref o70), .val (.ref os), .val (.ref op), .val (.int (0 : Int32))] [(.int r_91)]))
          refine g_iload X91 hx (hb hby at_127) 129 rfl (v := (0 : Int32)) rfl ?_
          refine g_icmp_ne X91 hx (hb hby at_129) 146 132 (by decide) (by decide) rfl (fun hc129 => False.elim (hc129 (p91_0.trans (if_pos hc112)))) (fun hc129 => ?_)
          refine g_aload X91 hx (hb hby at_132) 134 rfl (v := (.ref op)) rfl rfl ?_
          obtain ⟨cq92, kq92, q92a, q92b, q92c⟩ := isOf hZ e91 f88_0
          obtain ⟨_, _, ⟨T92, L92, k92, n92⟩, -, X92, ⟨Lc92, hQ92, l92, y92, z92⟩, st92⟩ := X91.virtualBack hx (y := (⟨"com/example/scrivenmoor/scrivenmoor/DatePattern$Part", "letter", "()C"⟩ : MethodName)) (z := (⟨"com/example/scrivenmoor/scrivenmoor/DatePattern$Part", "letter", "()C"⟩ : MethodName)) hown (mvT hZ (hw _ (List.mem_of_getElem? (i := 45) rfl))) (mvT hZ (hw _ (List.mem_of_getElem? (i := 46) rfl))) (notFace_of_selects (args := #[]) (mvT hZ (hw _ (List.mem_of_getElem? (i := 48) rfl)))) (mvT hZ (hw _ (List.mem_of_getElem? (i := 48) rfl))) (mvT hZ (hw _ (List.mem_of_getElem? (i := 47) rfl))) (by decide) (backOf (W := 0) (rm7 l Z a0 hw [] op lt T88.heap n0 Zs88 f88_1 n_lt) hZ (hw _ (List.mem_of_getElem? (i := 49) rfl)) (hw _ (List.mem_of_getElem? (i := 24) rfl)) (by decide) (by decide)) q92a q92c (g := (mkF m 134 #[.val (.int p1), .val (.int p2), .val (.int p3), .val (.int p4), .val (.int p5), .val (.int lt), .val (.int ((XT.ushr p5 (1 : Int32)) &&& (3 : Int32))), .val (.ref o70), .val (.ref os), .val (.ref op), .val (.int (0 : Int32))] [(.ref op)])) rfl (by rw [hml]; rfl) (Steps.refl _) (argsL := []) (rest := []) (lenOf own_pd8 rfl) rfl (by show 2 * 0 + _ ≤ _; exact Nat.le_of_eq rfl) (hb hby at_134) (fun _ _ => ⟨rfl, e91, (by decide : 4 + 0 ≤ _), (by decide : 11 + 0 ≤ _)⟩)
          dsimp only [Pt.U, Pt.locs, Pt.cells, Pt.slots] at X92 l92 y92 z92 st92 hQ92
          subst l92 y92 z92
          obtain ⟨rfl, Nq92, e92⟩ := hQ92
          refine Go.tr st92 ?_
          have N92 := Fr.app N91 Nq92
          show Go p e below _ (T92.setTop (mkF m 137 #[.val (.int p1), .val (.int p2), .val (.int p3), .val (.int p4), .val (.int p5), .val (.int lt), .val (.int ((XT.ushr p5 (1 : Int32)) &&& (3 : Int32))), .val (.ref o70), .val (.ref os), .val (.ref op), .val (.int (0 : Int32))] [(.int lt)]))
          refine g_iload X92 hx (hb hby at_137) 139 rfl (v := lt) rfl ?_
          refine g_icmp_ne X92 hx (hb hby at_139) 146 142 (by decide) (by decide) rfl (fun hc139 => False.elim (hc139 rfl)) (fun hc139 => ?_)
          refine g_iconst X92 hx (hb hby at_142) 143 rfl (1 : Int32) rfl ?_
          refine g_goto X92 hx (hb hby at_143) 147 (by decide) (by decide) ?_
          refine Go.retNS X92 hx hlk (t := .boolean) Bd.returns (by simp) (hb hby at_147) (by decide) (by decide) hS0 (by rw [e92]; exact hk89) (own_EW hw) hZ (by rw [hh, e92]; exact R89) ?_
          exact ⟨rfl, N92⟩
        · refine g_iconst X88 hx (hb hby at_115) 116 rfl (1 : Int32) rfl ?_
          refine g_goto X88 hx (hb hby at_116) 120 (by decide) (by decide) ?_
          refine g_istore X88 hx (hb hby at_120) 122 rfl #[.val (.int p1), .val (.int p2), .val (.int p3), .val (.int p4), .val (.int p5), .val (.int lt), .val (.int ((XT.ushr p5 (1 : Int32)) &&& (3 : Int32))), .val (.ref o70), .val (.ref os), .val (.ref op), .val (.int (1 : Int32))] rfl ?_
          refine g_aload X88 hx (hb hby at_122) 124 rfl (v := (.ref op)) rfl rfl ?_
          obtain ⟨cq93, kq93, q93a, q93b, q93c⟩ := isOf hZ rfl f88_0
          obtain ⟨_, _, ⟨T93, L93, k93, n93⟩, -, X93, ⟨Lc93, hQ93, l93, y93, z93⟩, st93⟩ := X88.virtualBack hx (y := (⟨"com/example/scrivenmoor/scrivenmoor/DatePattern$Part", "isField", "()Z"⟩ : MethodName)) (z := (⟨"com/example/scrivenmoor/scrivenmoor/DatePattern$Part", "isField", "()Z"⟩ : MethodName)) hown (mvT hZ (hw _ (List.mem_of_getElem? (i := 40) rfl))) (mvT hZ (hw _ (List.mem_of_getElem? (i := 41) rfl))) (notFace_of_selects (args := #[]) (mvT hZ (hw _ (List.mem_of_getElem? (i := 43) rfl)))) (mvT hZ (hw _ (List.mem_of_getElem? (i := 43) rfl))) (mvT hZ (hw _ (List.mem_of_getElem? (i := 42) rfl))) (by decide) (backOf (W := 0) (rm6 l Z a0 hw [] op lt T88.heap n0 Zs88 f88_1) hZ (hw _ (List.mem_of_getElem? (i := 44) rfl)) (hw _ (List.mem_of_getElem? (i := 24) rfl)) (by decide) (by decide)) q93a q93c (g := (mkF m 124 #[.val (.int p1), .val (.int p2), .val (.int p3), .val (.int p4), .val (.int p5), .val (.int lt), .val (.int ((XT.ushr p5 (1 : Int32)) &&& (3 : Int32))), .val (.ref o70), .val (.ref os), .val (.ref op), .val (.int (1 : Int32))] [(.ref op)])) rfl (by rw [hml]; rfl) (Steps.refl _) (argsL := []) (rest := []) (lenOf own_pd7 rfl) rfl (by show 2 * 0 + _ ≤ _; exact Nat.le_of_eq rfl) (hb hby at_124) (fun _ _ => ⟨rfl, rfl, (by decide : 4 + 0 ≤ _), (by decide : 11 + 0 ≤ _)⟩)
          dsimp only [Pt.U, Pt.locs, Pt.cells, Pt.slots] at X93 l93 y93 z93 st93 hQ93
          subst l93 y93 z93
          obtain ⟨r_93, rfl, Nq93, e93, p93_0⟩ := hQ93
          refine Go.tr st93 ?_
          have N93 := Fr.app N88 Nq93
          show Go p e below _ (T93.setTop (mkF m 127 #[.val (.int p1), .val (.int p2), .val (.int p3), .val (.int p4), .val (.int p5), .val (.int lt), .val (.int ((XT.ushr p5 (1 : Int32)) &&& (3 : Int32))), .val (.ref o70), .val (.ref os), .val (.ref op), .val (.int (1 : Int32))] [(.int r_93)]))
          refine g_iload X93 hx (hb hby at_127) 129 rfl (v := (1 : Int32)) rfl ?_
          refine g_icmp_ne X93 hx (hb hby at_129) 146 132 (by decide) (by decide) rfl (fun hc129 => False.elim (hc129 (p93_0.trans (if_neg hc112)))) (fun hc129 => ?_)
          refine g_aload X93 hx (hb hby at_132) 134 rfl (v := (.ref op)) rfl rfl ?_
          obtain ⟨cq94, kq94, q94a, q94b, q94c⟩ := isOf hZ e93 f88_0
          obtain ⟨_, _, ⟨T94, L94, k94, n94⟩, -, X94, ⟨Lc94, hQ94, l94, y94, z94⟩, st94⟩ := X93.virtualBack hx (y := (⟨"com/example/scrivenmoor/scrivenmoor/DatePattern$Part", "letter", "()C"⟩ : MethodName)) (z := (⟨"com/example/scrivenmoor/scrivenmoor/DatePattern$Part", "letter", "()C"⟩ : MethodName)) hown (mvT hZ (hw _ (List.mem_of_getElem? (i := 45) rfl))) (mvT hZ (hw _ (List.mem_of_getElem? (i := 46) rfl))) (notFace_of_selects (args := #[]) (mvT hZ (hw _ (List.mem_of_getElem? (i := 48) rfl)))) (mvT hZ (hw _ (List.mem_of_getElem? (i := 48) rfl))) (mvT hZ (hw _ (List.mem_of_getElem? (i := 47) rfl))) (by decide) (backOf (W := 0) (rm7 l Z a0 hw [] op lt T88.heap n0 Zs88 f88_1 n_lt) hZ (hw _ (List.mem_of_getElem? (i := 49) rfl)) (hw _ (List.mem_of_getElem? (i := 24) rfl)) (by decide) (by decide)) q94a q94c (g := (mkF m 134 #[.val (.int p1), .val (.int p2), .val (.int p3), .val (.int p4), .val (.int p5), .val (.int lt), .val (.int ((XT.ushr p5 (1 : Int32)) &&& (3 : Int32))), .val (.ref o70), .val (.ref os), .val (.ref op), .val (.int (1 : Int32))] [(.ref op)])) rfl (by rw [hml]; rfl) (Steps.refl _) (argsL := []) (rest := []) (lenOf own_pd8 rfl) rfl (by show 2 * 0 + _ ≤ _; exact Nat.le_of_eq rfl) (hb hby at_134) (fun _ _ => ⟨rfl, e93, (by decide : 4 + 0 ≤ _), (by decide : 11 + 0 ≤ _)⟩)
          dsimp only [Pt.U, Pt.locs, Pt.cells, Pt.slots] at X94 l94 y94 z94 st94 hQ94
          subst l94 y94 z94
          obtain ⟨rfl, Nq94, e94⟩ := hQ94
          refine Go.tr st94 ?_
          have N94 := Fr.app N93 Nq94
          show Go p e below _ (T94.setTop (mkF m 137 #[.val (.int p1), .val (.int p2), .val (.int p3), .val (.int p4), .val (.int p5), .val (.int lt), .val (.int ((XT.ushr p5 (1 : Int32)) &&& (3 : Int32))), .val (.ref o70), .val (.ref os), .val (.ref op), .val (.int (1 : Int32))] [(.int lt)]))
          refine g_iload X94 hx (hb hby at_137) 139 rfl (v := lt) rfl ?_
          refine g_icmp_ne X94 hx (hb hby at_139) 146 142 (by decide) (by decide) rfl (fun hc139 => False.elim (hc139 rfl)) (fun hc139 => ?_)
          refine g_iconst X94 hx (hb hby at_142) 143 rfl (1 : Int32) rfl ?_
          refine g_goto X94 hx (hb hby at_143) 147 (by decide) (by decide) ?_
          refine Go.retNS X94 hx hlk (t := .boolean) Bd.returns (by simp) (hb hby at_147) (by decide) (by decide) hS0 (by rw [e94]; exact hk89) (own_EW hw) hZ (by rw [hh, e94]; exact R89) ?_
          exact ⟨rfl, N94⟩
      · refine g_iconst X0 hx (hb hby at_42) 43 rfl (1 : Int32) rfl ?_
        obtain ⟨T95, h95, cA95, X95, e95, E95, A95, st95⟩ := newP X0 hx hZ (aty := .char) (hw _ (List.mem_of_getElem? (i := 0) rfl)) e0 (g := (mkF m 43 #[.val (.int p1), .val (.int p2), .val (.int p3), .val (.int p4), .val (.int p5), .val (.int lt), .val (.int ((XT.ushr p5 (1 : Int32)) &&& (3 : Int32))), .unset, .unset, .unset, .unset] [(.int (1 : Int32))])) rfl (hb hby at_43) rfl (by decide) (cap := 1) (by decide) (by decide) (by decide) (by decide)
        refine Go.st st95 ?_
        obtain ⟨o95, q95⟩ : ∃ z, z = h0.size := ⟨_, rfl⟩
        rw [← q95] at A95 ⊢
        have g_o95 : n0 ≤ o95 := Nat.le_trans Z0 (Nat.le_of_eq q95.symm)
        have Sf_o95 : Safe Z own_EL s.vm h0 o95 := Safe.new (Nat.le_of_eq q95.symm)
        have mh_o95 : h0.size ≤ o95 := Nat.le_trans K0.1 (Nat.le_of_eq q95.symm)
        have Sf_o95_96 : Safe Z own_EL s.vm h95 o95 := Safe.ext E95 R0.1 Sf_o95
        have R96 : CHr Z own_EL s.vm h0 s.vm h95 := CHr.trans R0 (CHr.ext E95 R0.1)
        have hk96 : _ ≤ h95.size := Nat.le_trans (Nat.zero_le _) (E95.1)
        have K95 : Keep h0 h95 [] := Keep.ext K0 E95
        have Zs95 : n0 ≤ h95.size := Nat.le_trans Z0 E95.1
        have Av_o95 : Arv Z h95 o95 cA95 .char (1 : Int32) ([(.int (0 : Int32))]) (.int (0 : Int32)) := Arv.pad (Arv.new A95 (by decide)) (pad_rep [] (.int (0 : Int32)) 1)
        show Go p e below _ (T95.setTop (mkF m 45 #[.val (.int p1), .val (.int p2), .val (.int p3), .val (.int p4), .val (.int p5), .val (.int lt), .val (.int ((XT.ushr p5 (1 : Int32)) &&& (3 : Int32))), .unset, .unset, .unset, .unset] [(.ref o95)]))
        refine g_astore X95 hx (hb hby at_45) 47 rfl rfl #[.val (.int p1), .val (.int p2), .val (.int p3), .val (.int p4), .val (.int p5), .val (.int lt), .val (.int ((XT.ushr p5 (1 : Int32)) &&& (3 : Int32))), .val (.ref o95), .unset, .unset, .unset] rfl ?_
        refine g_aload X95 hx (hb hby at_47) 49 rfl (v := (.ref o95)) rfl rfl ?_
        refine g_iconst X95 hx (hb hby at_49) 50 rfl (0 : Int32) rfl ?_
        refine g_iloadN X95 hx (hb hby at_50) 51 rfl (v := p3) rfl ?_
        refine g_sipush X95 hx (hb hby at_51) 54 rfl (255 : Int32) rfl ?_
        refine g_iand X95 hx (hb hby at_54) 55 rfl (p3 &&& (255 : Int32)) rfl ?_
        obtain ⟨ca, e_ca⟩ : ∃ z, (p3 &&& (255 : Int32)).toUInt32.toUInt16.toUInt32.toInt32 = z := ⟨_, rfl⟩
        refine g_i2c X95 hx (hb hby at_55) 56 rfl ca e_ca ?_
        obtain ⟨T98, h98, X98, e98, W98, B98, st98⟩ := g_castore X95 hx (hb hby at_56) hZ e95 Av_o95 (show ¬ (0 : Int32) < 0 ∧ (0 : Int32) < (1 : Int32) from by decide) (i := 0) (by decide) (by simp)  (L := #[.val (.int p1), .val (.int p2), .val (.int p3), .val (.int p4), .val (.int p5), .val (.int lt), .val (.int ((XT.ushr p5 (1 : Int32)) &&& (3 : Int32))), .val (.ref o95), .unset, .unset, .unset]) (S := [])
        refine Go.st st98 ?_
        have Sf_o95_99 : Safe Z own_EL s.vm h98 o95 := Safe.wr W98 Sf_o95_96 R96.1 Sf_o95_96
        have R99 : CHr Z own_EL s.vm h0 s.vm h98 := CHr.trans R96 (CHr.wr W98 Sf_o95_96 R96.1)
        have hk99 : _ ≤ h98.size := Nat.le_trans hk96 (Nat.le_of_eq W98.size.symm)
        have Av_o95_98 : Arv Z h98 o95 cA95 .char (1 : Int32) ([(.int ca)]) (.int (0 : Int32)) := (by have q := B98; rw [own_nc2 e_ca] at q; exact q)
        have K98 : Keep h0 h98 [] := Keep.wr K95 W98 (Or.inr mh_o95)
        have N98 := Fr.snoc X98 N0 g_o95
        have Zs98 : n0 ≤ h98.size := by rw [W98.size]; exact Zs95
        show Go p e below _ (T98.setTop (mkF m 57 #[.val (.int p1), .val (.int p2), .val (.int p3), .val (.int p4), .val (.int p5), .val (.int lt), .val (.int ((XT.ushr p5 (1 : Int32)) &&& (3 : Int32))), .val (.ref o95), .unset, .unset, .unset] []))
        refine g_goto X98 hx (hb hby at_57) 85 (by decide) (by decide) ?_
        obtain ⟨T101, h101, X101, e101, E101, A101, D101, -, st101⟩ := newO X98 hx hZ hown (hw _ (List.mem_of_getElem? (i := 1) rfl)) (hw _ (List.mem_of_getElem? (i := 2) rfl)) (hw _ (List.mem_of_getElem? (i := 3) rfl)) e98 (g := (mkF m 85 #[.val (.int p1), .val (.int p2), .val (.int p3), .val (.int p4), .val (.int p5), .val (.int lt), .val (.int ((XT.ushr p5 (1 : Int32)) &&& (3 : Int32))), .val (.ref o95), .unset, .unset, .unset] [])) rfl (hb hby at_85) (by decide) (by decide)
        refine Go.st st101 ?_
        obtain ⟨os, q101⟩ : ∃ z, z = h98.size := ⟨_, rfl⟩
        rw [← q101] at A101 D101 ⊢
        have ne_o95_os : o95 ≠ os := Nat.ne_of_lt (Nat.lt_of_lt_of_eq Av_o95_98.lt q101.symm)
        have g_os : n0 ≤ os := Nat.le_trans Zs98 (Nat.le_of_eq q101.symm)
        have Sf_os : Safe Z own_EL s.vm h98 os := Safe.new (Nat.le_of_eq q101.symm)
        have mh_os : h0.size ≤ os := Nat.le_trans K98.1 (Nat.le_of_eq q101.symm)
        have Sf_o95_102 : Safe Z own_EL s.vm h101 o95 := Safe.ext E101 R99.1 Sf_o95_99
        have Sf_os_102 : Safe Z own_EL s.vm h101 os := Safe.ext E101 R99.1 Sf_os
        have R102 : CHr Z own_EL s.vm h0 s.vm h101 := CHr.trans R99 (CHr.ext E101 R99.1)
        have hk102 : _ ≤ h101.size := Nat.le_trans hk99 (E101.1)
        have A_o95_103 : Arv Z h101 o95 cA95 .char (1 : Int32) ([(.int ca)]) (.int (0 : Int32)) := Arv.ext Av_o95_98 E101
        have F_value_101 : Fld Z h101 os "java/lang/String" "value" "[B" .null := D101 (Or.inr (hw _ (List.mem_of_getElem? (i := 16) rfl))) (ty := (.array .byte)) (by decide)
        have F_coder_101 : Fld Z h101 os "java/lang/String" "coder" "B" (.int (0 : Int32)) := D101 (Or.inr (hw _ (List.mem_of_getElem? (i := 17) rfl))) (ty := .byte) (by decide)
        have K101 : Keep h0 h101 [] := Keep.ext K98 E101
        have Zs101 : n0 ≤ h101.size := Nat.le_trans Zs98 E101.1
        show Go p e below _ (T101.setTop (mkF m 88 #[.val (.int p1), .val (.int p2), .val (.int p3), .val (.int p4), .val (.int p5), .val (.int lt), .val (.int ((XT.ushr p5 (1 : Int32)) &&& (3 : Int32))), .val (.ref o95), .unset, .unset, .unset] [(.ref os)]))
        refine g_dup X101 hx (hb hby at_88) 89 rfl rfl ?_
        refine g_aload X101 hx (hb hby at_89) 91 rfl (v := (.ref o95)) rfl rfl ?_
        obtain ⟨_, _, ⟨T104, L104, k104, n104⟩, -, X104, ⟨Lc104, hQ104, l104, y104, z104⟩, st104⟩ := X101.specialBack hx (y := (⟨"java/lang/String", "<init>", "([C)V"⟩ : MethodName)) rfl hown (mvT hZ (hw _ (List.mem_of_getElem? (i := 4) rfl))) (mvT hZ (hw _ (List.mem_of_getElem? (i := 5) rfl))) (mvT hZ (hw _ (List.mem_of_getElem? (i := 6) rfl))) (by decide) (backOf (W := 1) (rmsC1 l Z a0 hw [] os o95 s_COMPACT_STRINGS cA95 ca h101 n0 Zs101 (own_Sta_keep S_COMPACT_STRINGS K101 all0) A101 g_os F_value_101 F_coder_101 A_o95_103 (Ne.symm ne_o95_os) hz_s_COMPACT_STRINGS (e_ca ▸ own_ch _)) hZ (hw _ (List.mem_of_getElem? (i := 6) rfl)) (hw _ (List.mem_of_getElem? (i := 3) rfl)) (by decide) (by decide)) (g := (mkF m 91 #[.val (.int p1), .val (.int p2), .val (.int p3), .val (.int p4), .val (.int p5), .val (.int lt), .val (.int ((XT.ushr p5 (1 : Int32)) &&& (3 : Int32))), .val (.ref o95), .unset, .unset, .unset] [(.ref o95), (.ref os), (.ref os)])) rfl (by rw [hml]; rfl) (Steps.refl _) (a := os) (argsL := [(.ref o95)]) (rest := [(.ref os)]) (lenOf own_pd5 rfl) rfl (by show 2 * 0 + _ ≤ _; exact Nat.le_of_eq rfl) (hb hby at_91) (fun _ _ => ⟨rfl, e101, (by decide : 2 + 1 ≤ _), (by decide : 5 + 1 ≤ _)⟩)
        dsimp only [Pt.U, Pt.locs, Pt.cells, Pt.slots] at X104 l104 y104 z104 st104 hQ104
        subst l104 y104 z104
        obtain ⟨vb_104, kb_104, rfl, Nq104, Kq104, f104_0, f104_1, f104_2, f104_3, f104_4⟩ := hQ104
        refine Go.tr st104 ?_
        have N104 := Fr.app N98 Nq104
        have Sf_vb_104 : Safe Z own_EL s.vm h101 vb_104 := Safe.new f104_0
        have Sf_o95_105 : Safe Z own_EL s.vm T104.heap o95 := Safe.keep Kq104 (allS Sf_os_102 all0) R102.1 Sf_o95_102
        have Sf_os_105 : Safe Z own_EL s.vm T104.heap os := Safe.keep Kq104 (allS Sf_os_102 all0) R102.1 Sf_os_102
        have Sf_vb_104_105 : Safe Z own_EL s.vm T104.heap vb_104 := Safe.keep Kq104 (allS Sf_os_102 all0) R102.1 Sf_vb_104
        have R105 : CHr Z own_EL s.vm h0 s.vm T104.heap := CHr.trans R102 (CHr.keep Kq104 (allS Sf_os_102 all0) R102.1)
        have hk105 : _ ≤ T104.heap.size := Nat.le_trans hk102 (Kq104.1)
        have A_o95_106 : Arv Z T104.heap o95 cA95 .char (1 : Int32) ([(.int ca)]) (.int (0 : Int32)) := Arv.keep A_o95_103 Kq104 (ninS ne_o95_os nin0)
        have E_os_106 : Exa Z T104.heap os "java/lang/String" := Exa.keep A101 Kq104
        have ne_o95_vb_104 : o95 ≠ vb_104 := Nat.ne_of_lt (Nat.lt_of_lt_of_le A_o95_103.lt f104_0)
        have ne_os_vb_104 : os ≠ vb_104 := Nat.ne_of_lt (Nat.lt_of_lt_of_le A101.lt f104_0)
        have g_vb_104 : n0 ≤ vb_104 := Nat.le_trans Zs101 f104_0
        have mh_vb_104 : h0.size ≤ vb_104 := Nat.le_trans K101.1 f104_0
        have K104 : Keep h0 T104.heap [] := Keep.trans K101 Kq104 (allS (Or.inr mh_os) all0)
        have Zs104 : n0 ≤ T104.heap.size := Nat.le_trans Zs101 Kq104.1
        show Go p e below _ (T104.setTop (mkF m 94 #[.val (.int p1), .val (.int p2), .val (.int p3), .val (.int p4), .val (.int p5), .val (.int lt), .val (.int ((XT.ushr p5 (1 : Int32)) &&& (3 : Int32))), .val (.ref o95), .unset, .unset, .unset] [(.ref os)]))
        refine g_astore X104 hx (hb hby at_94) 96 rfl rfl #[.val (.int p1), .val (.int p2), .val (.int p3), .val (.int p4), .val (.int p5), .val (.int lt), .val (.int ((XT.ushr p5 (1 : Int32)) &&& (3 : Int32))), .val (.ref o95), .val (.ref os), .unset, .unset] rfl ?_
        obtain ⟨T107, h107, X107, e107, E107, A107, D107, -, st107⟩ := newO X104 hx hZ hown (hw _ (List.mem_of_getElem? (i := 22) rfl)) (hw _ (List.mem_of_getElem? (i := 23) rfl)) (hw _ (List.mem_of_getElem? (i := 24) rfl)) rfl (g := (mkF m 96 #[.val (.int p1), .val (.int p2), .val (.int p3), .val (.int p4), .val (.int p5), .val (.int lt), .val (.int ((XT.ushr p5 (1 : Int32)) &&& (3 : Int32))), .val (.ref o95), .val (.ref os), .unset, .unset] [])) rfl (hb hby at_96) (by decide) (by decide)
        refine Go.st st107 ?_
        obtain ⟨op, q107⟩ : ∃ z, z = T104.heap.size := ⟨_, rfl⟩
        rw [← q107] at A107 D107 ⊢
        have ne_o95_op : o95 ≠ op := Nat.ne_of_lt (Nat.lt_of_lt_of_eq A_o95_106.lt q107.symm)
        have ne_os_op : os ≠ op := Nat.ne_of_lt (Nat.lt_of_lt_of_eq f104_1.lt q107.symm)
        have ne_vb_104_op : vb_104 ≠ op := Nat.ne_of_lt (Nat.lt_of_lt_of_eq f104_4.lt q107.symm)
        have g_op : n0 ≤ op := Nat.le_trans Zs104 (Nat.le_of_eq q107.symm)
        have Sf_op : Safe Z own_EL s.vm T104.heap op := Safe.new (Nat.le_of_eq q107.symm)
        have mh_op : h0.size ≤ op := Nat.le_trans K104.1 (Nat.le_of_eq q107.symm)
        have Sf_o95_108 : Safe Z own_EL s.vm h107 o95 := Safe.ext E107 R105.1 Sf_o95_105
        have Sf_os_108 : Safe Z own_EL s.vm h107 os := Safe.ext E107 R105.1 Sf_os_105
        have Sf_vb_104_108 : Safe Z own_EL s.vm h107 vb_104 := Safe.ext E107 R105.1 Sf_vb_104_105
        have Sf_op_108 : Safe Z own_EL s.vm h107 op := Safe.ext E107 R105.1 Sf_op
        have R108 : CHr Z own_EL s.vm h0 s.vm h107 := CHr.trans R105 (CHr.ext E107 R105.1)
        have hk108 : _ ≤ h107.size := Nat.le_trans hk105 (E107.1)
        have A_o95_109 : Arv Z h107 o95 cA95 .char (1 : Int32) ([(.int ca)]) (.int (0 : Int32)) := Arv.ext A_o95_106 E107
        have E_os_109 : Exa Z h107 os "java/lang/String" := Exa.ext E107 f104_1
        have F_value_os_109 : Fld Z h107 os "java/lang/String" "value" "[B" (.ref vb_104) := Fld.ext E107 f104_2
        have F_coder_os_109 : Fld Z h107 os "java/lang/String" "coder" "B" (.int (0 : Int32)) := Fld.ext E107 f104_3
        have A_vb_104_109 : Arv Z h107 vb_104 kb_104 .byte (1 : Int32) ([(.int ca.toInt8.toInt32)]) (.int (0 : Int32)) := Arv.ext f104_4 E107
        have F_letter_107 : Fld Z h107 op "com/example/scrivenmoor/scrivenmoor/DatePattern$Part" "letter" "C" (.int (0 : Int32)) := D107 (Or.inr (hw _ (List.mem_of_getElem? (i := 35) rfl))) (ty := .char) (by decide)
        have F_count_107 : Fld Z h107 op "com/example/scrivenmoor/scrivenmoor/DatePattern$Part" "count" "I" (.int (0 : Int32)) := D107 (Or.inr (hw _ (List.mem_of_getElem? (i := 37) rfl))) (ty := .int) (by decide)
        have F_text_107 : Fld Z h107 op "com/example/scrivenmoor/scrivenmoor/DatePattern$Part" "text" "Ljava/lang/String;" .null := D107 (Or.inr (hw _ (List.mem_of_getElem? (i := 39) rfl))) (ty := (.object "java/lang/String")) (by decide)
        have K107 : Keep h0 h107 [] := Keep.ext K104 E107
        have Zs107 : n0 ≤ h107.size := Nat.le_trans Zs104 E107.1
        show Go p e below _ (T107.setTop (mkF m 99 #[.val (.int p1), .val (.int p2), .val (.int p3), .val (.int p4), .val (.int p5), .val (.int lt), .val (.int ((XT.ushr p5 (1 : Int32)) &&& (3 : Int32))), .val (.ref o95), .val (.ref os), .unset, .unset] [(.ref op)]))
        refine g_dup X107 hx (hb hby at_99) 100 rfl rfl ?_
        refine g_iload X107 hx (hb hby at_100) 102 rfl (v := lt) rfl ?_
        refine g_iloadN X107 hx (hb hby at_102) 103 rfl (v := p2) rfl ?_
        refine g_aload X107 hx (hb hby at_103) 105 rfl (v := (.ref os)) rfl rfl ?_
        obtain ⟨_, _, ⟨T110, L110, k110, n110⟩, -, X110, ⟨Lc110, hQ110, l110, y110, z110⟩, st110⟩ := X107.specialBack hx (y := (⟨"com/example/scrivenmoor/scrivenmoor/DatePattern$Part", "<init>", "(CILjava/lang/String;)V"⟩ : MethodName)) rfl hown (mvT hZ (hw _ (List.mem_of_getElem? (i := 25) rfl))) (mvT hZ (hw _ (List.mem_of_getElem? (i := 26) rfl))) (mvT hZ (hw _ (List.mem_of_getElem? (i := 27) rfl))) (by decide) (backOf (W := 1) (rm4 l Z a0 hw [] op lt p2 os (.int (0 : Int32)) (.int (0 : Int32)) .null h107 n0 Zs107 A107 g_op F_letter_107 F_count_107 F_text_107 h_lt) hZ (hw _ (List.mem_of_getElem? (i := 27) rfl)) (hw _ (List.mem_of_getElem? (i := 24) rfl)) (by decide) (by decide)) (g := (mkF m 105 #[.val (.int p1), .val (.int p2), .val (.int p3), .val (.int p4), .val (.int p5), .val (.int lt), .val (.int ((XT.ushr p5 (1 : Int32)) &&& (3 : Int32))), .val (.ref o95), .val (.ref os), .unset, .unset] [(.ref os), (.int p2), (.int lt), (.ref op), (.ref op)])) rfl (by rw [hml]; rfl) (Steps.refl _) (a := op) (argsL := [(.int lt), (.int p2), (.ref os)]) (rest := [(.ref op)]) (lenOf own_pd6 rfl) rfl (by show 2 * 0 + _ ≤ _; exact Nat.le_of_eq rfl) (hb hby at_105) (fun _ _ => ⟨rfl, e107, (by decide : 4 + 0 ≤ _), (by decide : 9 + 0 ≤ _)⟩)
        dsimp only [Pt.U, Pt.locs, Pt.cells, Pt.slots] at X110 l110 y110 z110 st110 hQ110
        subst l110 y110 z110
        obtain ⟨rfl, Nq110, Kq110, f110_0, f110_1, f110_2, f110_3⟩ := hQ110
        refine Go.tr st110 ?_
        have N110 := Fr.app N104 Nq110
        have Sf_o95_111 : Safe Z own_EL s.vm T110.heap o95 := Safe.keep Kq110 (allS Sf_op_108 all0) R108.1 Sf_o95_108
        have Sf_os_111 : Safe Z own_EL s.vm T110.heap os := Safe.keep Kq110 (allS Sf_op_108 all0) R108.1 Sf_os_108
        have Sf_vb_104_111 : Safe Z own_EL s.vm T110.heap vb_104 := Safe.keep Kq110 (allS Sf_op_108 all0) R108.1 Sf_vb_104_108
        have Sf_op_111 : Safe Z own_EL s.vm T110.heap op := Safe.keep Kq110 (allS Sf_op_108 all0) R108.1 Sf_op_108
        have R111 : CHr Z own_EL s.vm h0 s.vm T110.heap := CHr.trans R108 (CHr.keep Kq110 (allS Sf_op_108 all0) R108.1)
        have hk111 : _ ≤ T110.heap.size := Nat.le_trans hk108 (Kq110.1)
        have A_o95_112 : Arv Z T110.heap o95 cA95 .char (1 : Int32) ([(.int ca)]) (.int (0 : Int32)) := Arv.keep A_o95_109 Kq110 (ninS ne_o95_op nin0)
        have E_os_112 : Exa Z T110.heap os "java/lang/String" := Exa.keep E_os_109 Kq110
        have F_value_os_112 : Fld Z T110.heap os "java/lang/String" "value" "[B" (.ref vb_104) := Fld.keep F_value_os_109 Kq110 (ninS ne_os_op nin0)
        have F_coder_os_112 : Fld Z T110.heap os "java/lang/String" "coder" "B" (.int (0 : Int32)) := Fld.keep F_coder_os_109 Kq110 (ninS ne_os_op nin0)
        have A_vb_104_112 : Arv Z T110.heap vb_104 kb_104 .byte (1 : Int32) ([(.int ca.toInt8.toInt32)]) (.int (0 : Int32)) := Arv.keep A_vb_104_109 Kq110 (ninS ne_vb_104_op nin0)
        have E_op_112 : Exa Z T110.heap op "com/example/scrivenmoor/scrivenmoor/DatePattern$Part" := Exa.keep A107 Kq110
        have K110 : Keep h0 T110.heap [] := Keep.trans K107 Kq110 (allS (Or.inr mh_op) all0)
        have Zs110 : n0 ≤ T110.heap.size := Nat.le_trans Zs107 Kq110.1
        show Go p e below _ (T110.setTop (mkF m 108 #[.val (.int p1), .val (.int p2), .val (.int p3), .val (.int p4), .val (.int p5), .val (.int lt), .val (.int ((XT.ushr p5 (1 : Int32)) &&& (3 : Int32))), .val (.ref o95), .val (.ref os), .unset, .unset] [(.ref op)]))
        refine g_astore X110 hx (hb hby at_108) 110 rfl rfl #[.val (.int p1), .val (.int p2), .val (.int p3), .val (.int p4), .val (.int p5), .val (.int lt), .val (.int ((XT.ushr p5 (1 : Int32)) &&& (3 : Int32))), .val (.ref o95), .val (.ref os), .val (.ref op), .unset] rfl ?_
        refine g_iload X110 hx (hb hby at_110) 112 rfl (v := lt) rfl ?_
        refine g_if_eq X110 hx (hb hby at_112) 119 115 (by decide) (by decide) rfl (fun hc112 => ?_) (fun hc112 => ?_)
        · refine g_iconst X110 hx (hb hby at_119) 120 rfl (0 : Int32) rfl ?_
          refine g_istore X110 hx (hb hby at_120) 122 rfl #[.val (.int p1), .val (.int p2), .val (.int p3), .val (.int p4), .val (.int p5), .val (.int lt), .val (.int ((XT.ushr p5 (1 : Int32)) &&& (3 : Int32))), .val (.ref o95), .val (.ref os), .val (.ref op), .val (.int (0 : Int32))] rfl ?_
          refine g_aload X110 hx (hb hby at_122) 124 rfl (v := (.ref op)) rfl rfl ?_
          obtain ⟨cq113, kq113, q113a, q113b, q113c⟩ := isOf hZ rfl f110_0
          obtain ⟨_, _, ⟨T113, L113, k113, n113⟩, -, X113, ⟨Lc113, hQ113, l113, y113, z113⟩, st113⟩ := X110.virtualBack hx (y := (⟨"com/example/scrivenmoor/scrivenmoor/DatePattern$Part", "isField", "()Z"⟩ : MethodName)) (z := (⟨"com/example/scrivenmoor/scrivenmoor/DatePattern$Part", "isField", "()Z"⟩ : MethodName)) hown (mvT hZ (hw _ (List.mem_of_getElem? (i := 40) rfl))) (mvT hZ (hw _ (List.mem_of_getElem? (i := 41) rfl))) (notFace_of_selects (args := #[]) (mvT hZ (hw _ (List.mem_of_getElem? (i := 43) rfl)))) (mvT hZ (hw _ (List.mem_of_getElem? (i := 43) rfl))) (mvT hZ (hw _ (List.mem_of_getElem? (i := 42) rfl))) (by decide) (backOf (W := 0) (rm6 l Z a0 hw [] op lt T110.heap n0 Zs110 f110_1) hZ (hw _ (List.mem_of_getElem? (i := 44) rfl)) (hw _ (List.mem_of_getElem? (i := 24) rfl)) (by decide) (by decide)) q113a q113c (g := (mkF m 124 #[.val (.int p1), .val (.int p2), .val (.int p3), .val (.int p4), .val (.int p5), .val (.int lt), .val (.int ((XT.ushr p5 (1 : Int32)) &&& (3 : Int32))), .val (.ref o95), .val (.ref os), .val (.ref op), .val (.int (0 : Int32))] [(.ref op)])) rfl (by rw [hml]; rfl) (Steps.refl _) (argsL := []) (rest := []) (lenOf own_pd7 rfl) rfl (by show 2 * 0 + _ ≤ _; exact Nat.le_of_eq rfl) (hb hby at_124) (fun _ _ => ⟨rfl, rfl, (by decide : 4 + 0 ≤ _), (by decide : 9 + 0 ≤ _)⟩)
          dsimp only [Pt.U, Pt.locs, Pt.cells, Pt.slots] at X113 l113 y113 z113 st113 hQ113
          subst l113 y113 z113
          obtain ⟨r_113, rfl, Nq113, e113, p113_0⟩ := hQ113
          refine Go.tr st113 ?_
          have N113 := Fr.app N110 Nq113
          show Go p e below _ (T113.setTop (mkF m 127 #[.val (.int p1), .val (.int p2), .val (.int p3), .val (.int p4), .val (.int p5), .val (.int lt), .val (.int ((XT.ushr p5 (1 : Int32)) &&& (3 : Int32))), .val (.ref o95), .val (.ref os), .val (.ref op), .val (.int (0 : Int32))] [(.int r_113)]))
          refine g_iload X113 hx (hb hby at_127) 129 rfl (v := (0 : Int32)) rfl ?_
          refine g_icmp_ne X113 hx (hb hby at_129) 146 132 (by decide) (by decide) rfl (fun hc129 => False.elim (hc129 (p113_0.trans (if_pos hc112)))) (fun hc129 => ?_)
          refine g_aload X113 hx (hb hby at_132) 134 rfl (v := (.ref op)) rfl rfl ?_
          obtain ⟨cq114, kq114, q114a, q114b, q114c⟩ := isOf hZ e113 f110_0
          obtain ⟨_, _, ⟨T114, L114, k114, n114⟩, -, X114, ⟨Lc114, hQ114, l114, y114, z114⟩, st114⟩ := X113.virtualBack hx (y := (⟨"com/example/scrivenmoor/scrivenmoor/DatePattern$Part", "letter", "()C"⟩ : MethodName)) (z := (⟨"com/example/scrivenmoor/scrivenmoor/DatePattern$Part", "letter", "()C"⟩ : MethodName)) hown (mvT hZ (hw _ (List.mem_of_getElem? (i := 45) rfl))) (mvT hZ (hw _ (List.mem_of_getElem? (i := 46) rfl))) (notFace_of_selects (args := #[]) (mvT hZ (hw _ (List.mem_of_getElem? (i := 48) rfl)))) (mvT hZ (hw _ (List.mem_of_getElem? (i := 48) rfl))) (mvT hZ (hw _ (List.mem_of_getElem? (i := 47) rfl))) (by decide) (backOf (W := 0) (rm7 l Z a0 hw [] op lt T110.heap n0 Zs110 f110_1 n_lt) hZ (hw _ (List.mem_of_getElem? (i := 49) rfl)) (hw _ (List.mem_of_getElem? (i := 24) rfl)) (by decide) (by decide)) q114a q114c (g := (mkF m 134 #[.val (.int p1), .val (.int p2), .val (.int p3), .val (.int p4), .val (.int p5), .val (.int lt), .val (.int ((XT.ushr p5 (1 : Int32)) &&& (3 : Int32))), .val (.ref o95), .val (.ref os), .val (.ref op), .val (.int (0 : Int32))] [(.ref op)])) rfl (by rw [hml]; rfl) (Steps.refl _) (argsL := []) (rest := []) (lenOf own_pd8 rfl) rfl (by show 2 * 0 + _ ≤ _; exact Nat.le_of_eq rfl) (hb hby at_134) (fun _ _ => ⟨rfl, e113, (by decide : 4 + 0 ≤ _), (by decide : 9 + 0 ≤ _)⟩)
          dsimp only [Pt.U, Pt.locs, Pt.cells, Pt.slots] at X114 l114 y114 z114 st114 hQ114
          subst l114 y114 z114
          obtain ⟨rfl, Nq114, e114⟩ := hQ114
          refine Go.tr st114 ?_
          have N114 := Fr.app N113 Nq114
          show Go p e below _ (T114.setTop (mkF m 137 #[.val (.int p1), .val (.int p2), .val (.int p3), .val (.int p4), .val (.int p5), .val (.int lt), .val (.int ((XT.ushr p5 (1 : Int32)) &&& (3 : Int32))), .val (.ref o95), .val (.ref os), .val (.ref op), .val (.int (0 : Int32))] [(.int lt)]))
          refine g_iload X114 hx (hb hby at_137) 139 rfl (v := lt) rfl ?_
          refine g_icmp_ne X114 hx (hb hby at_139) 146 142 (by decide) (by decide) rfl (fun hc139 => False.elim (hc139 rfl)) (fun hc139 => ?_)
          refine g_iconst X114 hx (hb hby at_142) 143 rfl (1 : Int32) rfl ?_
          refine g_goto X114 hx (hb hby at_143) 147 (by decide) (by decide) ?_
          refine Go.retNS X114 hx hlk (t := .boolean) Bd.returns (by simp) (hb hby at_147) (by decide) (by decide) hS0 (by rw [e114]; exact hk111) (own_EW hw) hZ (by rw [hh, e114]; exact R111) ?_
          exact ⟨rfl, N114⟩
        · refine g_iconst X110 hx (hb hby at_115) 116 rfl (1 : Int32) rfl ?_
          refine g_goto X110 hx (hb hby at_116) 120 (by decide) (by decide) ?_
          refine g_istore X110 hx (hb hby at_120) 122 rfl #[.val (.int p1), .val (.int p2), .val (.int p3), .val (.int p4), .val (.int p5), .val (.int lt), .val (.int ((XT.ushr p5 (1 : Int32)) &&& (3 : Int32))), .val (.ref o95), .val (.ref os), .val (.ref op), .val (.int (1 : Int32))] rfl ?_
          refine g_aload X110 hx (hb hby at_122) 124 rfl (v := (.ref op)) rfl rfl ?_
          obtain ⟨cq115, kq115, q115a, q115b, q115c⟩ := isOf hZ rfl f110_0
          obtain ⟨_, _, ⟨T115, L115, k115, n115⟩, -, X115, ⟨Lc115, hQ115, l115, y115, z115⟩, st115⟩ := X110.virtualBack hx (y := (⟨"com/example/scrivenmoor/scrivenmoor/DatePattern$Part", "isField", "()Z"⟩ : MethodName)) (z := (⟨"com/example/scrivenmoor/scrivenmoor/DatePattern$Part", "isField", "()Z"⟩ : MethodName)) hown (mvT hZ (hw _ (List.mem_of_getElem? (i := 40) rfl))) (mvT hZ (hw _ (List.mem_of_getElem? (i := 41) rfl))) (notFace_of_selects (args := #[]) (mvT hZ (hw _ (List.mem_of_getElem? (i := 43) rfl)))) (mvT hZ (hw _ (List.mem_of_getElem? (i := 43) rfl))) (mvT hZ (hw _ (List.mem_of_getElem? (i := 42) rfl))) (by decide) (backOf (W := 0) (rm6 l Z a0 hw [] op lt T110.heap n0 Zs110 f110_1) hZ (hw _ (List.mem_of_getElem? (i := 44) rfl)) (hw _ (List.mem_of_getElem? (i := 24) rfl)) (by decide) (by decide)) q115a q115c (g := (mkF m 124 #[.val (.int p1), .val (.int p2), .val (.int p3), .val (.int p4), .val (.int p5), .val (.int lt), .val (.int ((XT.ushr p5 (1 : Int32)) &&& (3 : Int32))), .val (.ref o95), .val (.ref os), .val (.ref op), .val (.int (1 : Int32))] [(.ref op)])) rfl (by rw [hml]; rfl) (Steps.refl _) (argsL := []) (rest := []) (lenOf own_pd7 rfl) rfl (by show 2 * 0 + _ ≤ _; exact Nat.le_of_eq rfl) (hb hby at_124) (fun _ _ => ⟨rfl, rfl, (by decide : 4 + 0 ≤ _), (by decide : 9 + 0 ≤ _)⟩)
          dsimp only [Pt.U, Pt.locs, Pt.cells, Pt.slots] at X115 l115 y115 z115 st115 hQ115
          subst l115 y115 z115
          obtain ⟨r_115, rfl, Nq115, e115, p115_0⟩ := hQ115
          refine Go.tr st115 ?_
          have N115 := Fr.app N110 Nq115
          show Go p e below _ (T115.setTop (mkF m 127 #[.val (.int p1), .val (.int p2), .val (.int p3), .val (.int p4), .val (.int p5), .val (.int lt), .val (.int ((XT.ushr p5 (1 : Int32)) &&& (3 : Int32))), .val (.ref o95), .val (.ref os), .val (.ref op), .val (.int (1 : Int32))] [(.int r_115)]))
          refine g_iload X115 hx (hb hby at_127) 129 rfl (v := (1 : Int32)) rfl ?_
          refine g_icmp_ne X115 hx (hb hby at_129) 146 132 (by decide) (by decide) rfl (fun hc129 => False.elim (hc129 (p115_0.trans (if_neg hc112)))) (fun hc129 => ?_)
          refine g_aload X115 hx (hb hby at_132) 134 rfl (v := (.ref op)) rfl rfl ?_
          obtain ⟨cq116, kq116, q116a, q116b, q116c⟩ := isOf hZ e115 f110_0
          obtain ⟨_, _, ⟨T116, L116, k116, n116⟩, -, X116, ⟨Lc116, hQ116, l116, y116, z116⟩, st116⟩ := X115.virtualBack hx (y := (⟨"com/example/scrivenmoor/scrivenmoor/DatePattern$Part", "letter", "()C"⟩ : MethodName)) (z := (⟨"com/example/scrivenmoor/scrivenmoor/DatePattern$Part", "letter", "()C"⟩ : MethodName)) hown (mvT hZ (hw _ (List.mem_of_getElem? (i := 45) rfl))) (mvT hZ (hw _ (List.mem_of_getElem? (i := 46) rfl))) (notFace_of_selects (args := #[]) (mvT hZ (hw _ (List.mem_of_getElem? (i := 48) rfl)))) (mvT hZ (hw _ (List.mem_of_getElem? (i := 48) rfl))) (mvT hZ (hw _ (List.mem_of_getElem? (i := 47) rfl))) (by decide) (backOf (W := 0) (rm7 l Z a0 hw [] op lt T110.heap n0 Zs110 f110_1 n_lt) hZ (hw _ (List.mem_of_getElem? (i := 49) rfl)) (hw _ (List.mem_of_getElem? (i := 24) rfl)) (by decide) (by decide)) q116a q116c (g := (mkF m 134 #[.val (.int p1), .val (.int p2), .val (.int p3), .val (.int p4), .val (.int p5), .val (.int lt), .val (.int ((XT.ushr p5 (1 : Int32)) &&& (3 : Int32))), .val (.ref o95), .val (.ref os), .val (.ref op), .val (.int (1 : Int32))] [(.ref op)])) rfl (by rw [hml]; rfl) (Steps.refl _) (argsL := []) (rest := []) (lenOf own_pd8 rfl) rfl (by show 2 * 0 + _ ≤ _; exact Nat.le_of_eq rfl) (hb hby at_134) (fun _ _ => ⟨rfl, e115, (by decide : 4 + 0 ≤ _), (by decide : 9 + 0 ≤ _)⟩)
          dsimp only [Pt.U, Pt.locs, Pt.cells, Pt.slots] at X116 l116 y116 z116 st116 hQ116
          subst l116 y116 z116
          obtain ⟨rfl, Nq116, e116⟩ := hQ116
          refine Go.tr st116 ?_
          have N116 := Fr.app N115 Nq116
          show Go p e below _ (T116.setTop (mkF m 137 #[.val (.int p1), .val (.int p2), .val (.int p3), .val (.int p4), .val (.int p5), .val (.int lt), .val (.int ((XT.ushr p5 (1 : Int32)) &&& (3 : Int32))), .val (.ref o95), .val (.ref os), .val (.ref op), .val (.int (1 : Int32))] [(.int lt)]))
          refine g_iload X116 hx (hb hby at_137) 139 rfl (v := lt) rfl ?_
          refine g_icmp_ne X116 hx (hb hby at_139) 146 142 (by decide) (by decide) rfl (fun hc139 => False.elim (hc139 rfl)) (fun hc139 => ?_)
          refine g_iconst X116 hx (hb hby at_142) 143 rfl (1 : Int32) rfl ?_
          refine g_goto X116 hx (hb hby at_143) 147 (by decide) (by decide) ?_
          refine Go.retNS X116 hx hlk (t := .boolean) Bd.returns (by simp) (hb hby at_147) (by decide) (by decide) hS0 (by rw [e116]; exact hk111) (own_EW hw) hZ (by rw [hh, e116]; exact R111) ?_
          exact ⟨rfl, N116⟩
    · refine g_iconst X0 hx (hb hby at_28) 29 rfl (0 : Int32) rfl ?_
      obtain ⟨T117, h117, cA117, X117, e117, E117, A117, st117⟩ := newP X0 hx hZ (aty := .char) (hw _ (List.mem_of_getElem? (i := 0) rfl)) e0 (g := (mkF m 29 #[.val (.int p1), .val (.int p2), .val (.int p3), .val (.int p4), .val (.int p5), .val (.int lt), .val (.int ((XT.ushr p5 (1 : Int32)) &&& (3 : Int32))), .unset, .unset, .unset, .unset] [(.int (0 : Int32))])) rfl (hb hby at_29) rfl (by decide) (cap := 0) (by decide) (by decide) (by decide) (by decide)
      refine Go.st st117 ?_
      obtain ⟨o117, q117⟩ : ∃ z, z = h0.size := ⟨_, rfl⟩
      rw [← q117] at A117 ⊢
      have g_o117 : n0 ≤ o117 := Nat.le_trans Z0 (Nat.le_of_eq q117.symm)
      have Sf_o117 : Safe Z own_EL s.vm h0 o117 := Safe.new (Nat.le_of_eq q117.symm)
      have mh_o117 : h0.size ≤ o117 := Nat.le_trans K0.1 (Nat.le_of_eq q117.symm)
      have Sf_o117_118 : Safe Z own_EL s.vm h117 o117 := Safe.ext E117 R0.1 Sf_o117
      have R118 : CHr Z own_EL s.vm h0 s.vm h117 := CHr.trans R0 (CHr.ext E117 R0.1)
      have hk118 : _ ≤ h117.size := Nat.le_trans (Nat.zero_le _) (E117.1)
      have K117 : Keep h0 h117 [] := Keep.ext K0 E117
      have Zs117 : n0 ≤ h117.size := Nat.le_trans Z0 E117.1
      have Av_o117 : Arv Z h117 o117 cA117 .char (0 : Int32) [] (.int (0 : Int32)) := Arv.pad (Arv.new A117 (by decide)) (pad_rep [] (.int (0 : Int32)) 0)
      show Go p e below _ (T117.setTop (mkF m 31 #[.val (.int p1), .val (.int p2), .val (.int p3), .val (.int p4), .val (.int p5), .val (.int lt), .val (.int ((XT.ushr p5 (1 : Int32)) &&& (3 : Int32))), .unset, .unset, .unset, .unset] [(.ref o117)]))
      refine g_astore X117 hx (hb hby at_31) 33 rfl rfl #[.val (.int p1), .val (.int p2), .val (.int p3), .val (.int p4), .val (.int p5), .val (.int lt), .val (.int ((XT.ushr p5 (1 : Int32)) &&& (3 : Int32))), .val (.ref o117), .unset, .unset, .unset] rfl ?_
      refine g_goto X117 hx (hb hby at_33) 85 (by decide) (by decide) ?_
      obtain ⟨T120, h120, X120, e120, E120, A120, D120, -, st120⟩ := newO X117 hx hZ hown (hw _ (List.mem_of_getElem? (i := 1) rfl)) (hw _ (List.mem_of_getElem? (i := 2) rfl)) (hw _ (List.mem_of_getElem? (i := 3) rfl)) e117 (g := (mkF m 85 #[.val (.int p1), .val (.int p2), .val (.int p3), .val (.int p4), .val (.int p5), .val (.int lt), .val (.int ((XT.ushr p5 (1 : Int32)) &&& (3 : Int32))), .val (.ref o117), .unset, .unset, .unset] [])) rfl (hb hby at_85) (by decide) (by decide)
      refine Go.st st120 ?_
      obtain ⟨os, q120⟩ : ∃ z, z = h117.size := ⟨_, rfl⟩
      rw [← q120] at A120 D120 ⊢
      have ne_o117_os : o117 ≠ os := Nat.ne_of_lt (Nat.lt_of_lt_of_eq Av_o117.lt q120.symm)
      have g_os : n0 ≤ os := Nat.le_trans Zs117 (Nat.le_of_eq q120.symm)
      have Sf_os : Safe Z own_EL s.vm h117 os := Safe.new (Nat.le_of_eq q120.symm)
      have mh_os : h0.size ≤ os := Nat.le_trans K117.1 (Nat.le_of_eq q120.symm)
      have Sf_o117_121 : Safe Z own_EL s.vm h120 o117 := Safe.ext E120 R118.1 Sf_o117_118
      have Sf_os_121 : Safe Z own_EL s.vm h120 os := Safe.ext E120 R118.1 Sf_os
      have R121 : CHr Z own_EL s.vm h0 s.vm h120 := CHr.trans R118 (CHr.ext E120 R118.1)
      have hk121 : _ ≤ h120.size := Nat.le_trans hk118 (E120.1)
      have A_o117_122 : Arv Z h120 o117 cA117 .char (0 : Int32) [] (.int (0 : Int32)) := Arv.ext Av_o117 E120
      have F_value_120 : Fld Z h120 os "java/lang/String" "value" "[B" .null := D120 (Or.inr (hw _ (List.mem_of_getElem? (i := 16) rfl))) (ty := (.array .byte)) (by decide)
      have F_coder_120 : Fld Z h120 os "java/lang/String" "coder" "B" (.int (0 : Int32)) := D120 (Or.inr (hw _ (List.mem_of_getElem? (i := 17) rfl))) (ty := .byte) (by decide)
      have K120 : Keep h0 h120 [] := Keep.ext K117 E120
      have Zs120 : n0 ≤ h120.size := Nat.le_trans Zs117 E120.1
      show Go p e below _ (T120.setTop (mkF m 88 #[.val (.int p1), .val (.int p2), .val (.int p3), .val (.int p4), .val (.int p5), .val (.int lt), .val (.int ((XT.ushr p5 (1 : Int32)) &&& (3 : Int32))), .val (.ref o117), .unset, .unset, .unset] [(.ref os)]))
      refine g_dup X120 hx (hb hby at_88) 89 rfl rfl ?_
      refine g_aload X120 hx (hb hby at_89) 91 rfl (v := (.ref o117)) rfl rfl ?_
      obtain ⟨_, _, ⟨T123, L123, k123, n123⟩, -, X123, hS123, gr123, ⟨Lc123, hQ123, l123, y123, z123, C123⟩, st123⟩ := X120.specialBackS hx (y := (⟨"java/lang/String", "<init>", "([C)V"⟩ : MethodName)) rfl hown (mvT hZ (hw _ (List.mem_of_getElem? (i := 4) rfl))) (mvT hZ (hw _ (List.mem_of_getElem? (i := 5) rfl))) (mvT hZ (hw _ (List.mem_of_getElem? (i := 6) rfl))) (by decide) (backOfSH (W := 1) (rmsC0 l Z a0 hw [] os o117 cA117 h120 n0 Zs120 A120 g_os F_value_120 F_coder_120 A_o117_122 (Ne.symm ne_o117_os)) hZ (hw _ (List.mem_of_getElem? (i := 6) rfl)) (hw _ (List.mem_of_getElem? (i := 3) rfl)) (by decide) (by decide) (own_EW hw) R121.1) (g := (mkF m 91 #[.val (.int p1), .val (.int p2), .val (.int p3), .val (.int p4), .val (.int p5), .val (.int lt), .val (.int ((XT.ushr p5 (1 : Int32)) &&& (3 : Int32))), .val (.ref o117), .unset, .unset, .unset] [(.ref o117), (.ref os), (.ref os)])) rfl (by rw [hml]; rfl) (Steps.refl _) (a := os) (argsL := [(.ref o117)]) (rest := [(.ref os)]) (lenOf own_pd5 rfl) rfl (by show 2 * 0 + _ ≤ _; exact Nat.le_of_eq rfl) (hb hby at_91) (fun _ _ => ⟨rfl, e120, (by decide : 2 + 4 ≤ _), (by decide : 4 + 8 ≤ _)⟩)
      dsimp only [Pt.U, Pt.locs, Pt.cells, Pt.slots] at X123 l123 y123 z123 st123 hQ123 hS123 gr123 C123
      subst l123 y123 z123
      obtain ⟨vb_123, kb_123, rfl, Nq123, Kq123, f123_0, f123_1, f123_2, f123_3, f123_4⟩ := hQ123
      refine Go.tr st123 ?_
      obtain ⟨X123, hS123, hZ, hown⟩ := rebS hS0 (by rw [e120]; exact hk121) X123 hS123 gr123 hZ hown
      have Sf_o117_123 : Safe Z own_EL T123.vm T123.heap o117 := CHr.safe C123 A_o117_122.lt Sf_o117_121
      have Sf_os_123 : Safe Z own_EL T123.vm T123.heap os := CHr.safe C123 A120.lt Sf_os_121
      have R123 : CHr Z own_EL s.vm h0 T123.vm T123.heap := CHr.trans R121 C123
      have N123 := Fr.app N0 Nq123
      have A_o117_124 : Arv Z T123.heap o117 cA117 .char (0 : Int32) [] (.int (0 : Int32)) := Arv.keep A_o117_122 Kq123 (ninS ne_o117_os nin0)
      have E_os_124 : Exa Z T123.heap os "java/lang/String" := Exa.keep A120 Kq123
      have K123 : Keep h0 T123.heap [] := Keep.trans K120 Kq123 (allS (Or.inr mh_os) all0)
      have Zs123 : n0 ≤ T123.heap.size := Nat.le_trans Zs120 Kq123.1
      show Go p e below _ (T123.setTop (mkF m 94 #[.val (.int p1), .val (.int p2), .val (.int p3), .val (.int p4), .val (.int p5), .val (.int lt), .val (.int ((XT.ushr p5 (1 : Int32)) &&& (3 : Int32))), .val (.ref o117), .unset, .unset, .unset] [(.ref os)]))
      refine g_astore X123 hx (hb hby at_94) 96 rfl rfl #[.val (.int p1), .val (.int p2), .val (.int p3), .val (.int p4), .val (.int p5), .val (.int lt), .val (.int ((XT.ushr p5 (1 : Int32)) &&& (3 : Int32))), .val (.ref o117), .val (.ref os), .unset, .unset] rfl ?_
      obtain ⟨T125, h125, X125, e125, E125, A125, D125, -, st125⟩ := newO X123 hx hZ hown (hw _ (List.mem_of_getElem? (i := 22) rfl)) (hw _ (List.mem_of_getElem? (i := 23) rfl)) (hw _ (List.mem_of_getElem? (i := 24) rfl)) rfl (g := (mkF m 96 #[.val (.int p1), .val (.int p2), .val (.int p3), .val (.int p4), .val (.int p5), .val (.int lt), .val (.int ((XT.ushr p5 (1 : Int32)) &&& (3 : Int32))), .val (.ref o117), .val (.ref os), .unset, .unset] [])) rfl (hb hby at_96) (by decide) (by decide)
      refine Go.st st125 ?_
      obtain ⟨op, q125⟩ : ∃ z, z = T123.heap.size := ⟨_, rfl⟩
      rw [← q125] at A125 D125 ⊢
      have ne_o117_op : o117 ≠ op := Nat.ne_of_lt (Nat.lt_of_lt_of_eq A_o117_124.lt q125.symm)
      have ne_os_op : os ≠ op := Nat.ne_of_lt (Nat.lt_of_lt_of_eq f123_0.lt q125.symm)
      have ne_vb_123_op : vb_123 ≠ op := Nat.ne_of_lt (Nat.lt_of_lt_of_eq f123_3.lt q125.symm)
      have g_op : n0 ≤ op := Nat.le_trans Zs123 (Nat.le_of_eq q125.symm)
      have Sf_op : Safe Z own_EL T123.vm T123.heap op := Safe.new (Nat.le_of_eq q125.symm)
      have mh_op : h0.size ≤ op := Nat.le_trans K123.1 (Nat.le_of_eq q125.symm)
      have Sf_o117_126 : Safe Z own_EL T123.vm h125 o117 := Safe.ext E125 R123.1 Sf_o117_123
      have Sf_os_126 : Safe Z own_EL T123.vm h125 os := Safe.ext E125 R123.1 Sf_os_123
      have Sf_op_126 : Safe Z own_EL T123.vm h125 op := Safe.ext E125 R123.1 Sf_op
      have R126 : CHr Z own_EL s.vm h0 T123.vm h125 := CHr.trans R123 (CHr.ext E125 R123.1)
      have hk126 : _ ≤ h125.size := Nat.le_trans (Nat.le_refl _) (E125.1)
      have A_o117_127 : Arv Z h125 o117 cA117 .char (0 : Int32) [] (.int (0 : Int32)) := Arv.ext A_o117_124 E125
      have E_os_127 : Exa Z h125 os "java/lang/String" := Exa.ext E125 f123_0
      have F_value_os_127 : Fld Z h125 os "java/lang/String" "value" "[B" (.ref vb_123) := Fld.ext E125 f123_1
      have F_coder_os_127 : Fld Z h125 os "java/lang/String" "coder" "B" (.int (0 : Int32)) := Fld.ext E125 f123_2
      have A_vb_123_127 : Arv Z h125 vb_123 kb_123 .byte (0 : Int32) [] (.int (0 : Int32)) := Arv.ext f123_3 E125
      have F_letter_125 : Fld Z h125 op "com/example/scrivenmoor/scrivenmoor/DatePattern$Part" "letter" "C" (.int (0 : Int32)) := D125 (Or.inr (hw _ (List.mem_of_getElem? (i := 35) rfl))) (ty := .char) (by decide)
      have F_count_125 : Fld Z h125 op "com/example/scrivenmoor/scrivenmoor/DatePattern$Part" "count" "I" (.int (0 : Int32)) := D125 (Or.inr (hw _ (List.mem_of_getElem? (i := 37) rfl))) (ty := .int) (by decide)
      have F_text_125 : Fld Z h125 op "com/example/scrivenmoor/scrivenmoor/DatePattern$Part" "text" "Ljava/lang/String;" .null := D125 (Or.inr (hw _ (List.mem_of_getElem? (i := 39) rfl))) (ty := (.object "java/lang/String")) (by decide)
      have K125 : Keep h0 h125 [] := Keep.ext K123 E125
      have Zs125 : n0 ≤ h125.size := Nat.le_trans Zs123 E125.1
      show Go p e below _ (T125.setTop (mkF m 99 #[.val (.int p1), .val (.int p2), .val (.int p3), .val (.int p4), .val (.int p5), .val (.int lt), .val (.int ((XT.ushr p5 (1 : Int32)) &&& (3 : Int32))), .val (.ref o117), .val (.ref os), .unset, .unset] [(.ref op)]))
      refine g_dup X125 hx (hb hby at_99) 100 rfl rfl ?_
      refine g_iload X125 hx (hb hby at_100) 102 rfl (v := lt) rfl ?_
      refine g_iloadN X125 hx (hb hby at_102) 103 rfl (v := p2) rfl ?_
      refine g_aload X125 hx (hb hby at_103) 105 rfl (v := (.ref os)) rfl rfl ?_
      obtain ⟨_, _, ⟨T128, L128, k128, n128⟩, -, X128, ⟨Lc128, hQ128, l128, y128, z128⟩, st128⟩ := X125.specialBack hx (y := (⟨"com/example/scrivenmoor/scrivenmoor/DatePattern$Part", "<init>", "(CILjava/lang/String;)V"⟩ : MethodName)) rfl hown (mvT hZ (hw _ (List.mem_of_getElem? (i := 25) rfl))) (mvT hZ (hw _ (List.mem_of_getElem? (i := 26) rfl))) (mvT hZ (hw _ (List.mem_of_getElem? (i := 27) rfl))) (by decide) (backOf (W := 1) (rm4 l Z a0 hw [] op lt p2 os (.int (0 : Int32)) (.int (0 : Int32)) .null h125 n0 Zs125 A125 g_op F_letter_125 F_count_125 F_text_125 h_lt) hZ (hw _ (List.mem_of_getElem? (i := 27) rfl)) (hw _ (List.mem_of_getElem? (i := 24) rfl)) (by decide) (by decide)) (g := (mkF m 105 #[.val (.int p1), .val (.int p2), .val (.int p3), .val (.int p4), .val (.int p5), .val (.int lt), .val (.int ((XT.ushr p5 (1 : Int32)) &&& (3 : Int32))), .val (.ref o117), .val (.ref os), .unset, .unset] [(.ref os), (.int p2), (.int lt), (.ref op), (.ref op)])) rfl (by rw [hml]; rfl) (Steps.refl _) (a := op) (argsL := [(.int lt), (.int p2), (.ref os)]) (rest := [(.ref op)]) (lenOf own_pd6 rfl) rfl (by show 2 * 0 + _ ≤ _; exact Nat.le_of_eq rfl) (hb hby at_105) (fun _ _ => ⟨rfl, e125, (by decide : 7 + 0 ≤ _), (by decide : 15 + 0 ≤ _)⟩)
      dsimp only [Pt.U, Pt.locs, Pt.cells, Pt.slots] at X128 l128 y128 z128 st128 hQ128
      subst l128 y128 z128
      obtain ⟨rfl, Nq128, Kq128, f128_0, f128_1, f128_2, f128_3⟩ := hQ128
      refine Go.tr st128 ?_
      have N128 := Fr.app N123 Nq128
      have Sf_o117_129 : Safe Z own_EL T123.vm T128.heap o117 := Safe.keep Kq128 (allS Sf_op_126 all0) R126.1 Sf_o117_126
      have Sf_os_129 : Safe Z own_EL T123.vm T128.heap os := Safe.keep Kq128 (allS Sf_op_126 all0) R126.1 Sf_os_126
      have Sf_op_129 : Safe Z own_EL T123.vm T128.heap op := Safe.keep Kq128 (allS Sf_op_126 all0) R126.1 Sf_op_126
      have R129 : CHr Z own_EL s.vm h0 T123.vm T128.heap := CHr.trans R126 (CHr.keep Kq128 (allS Sf_op_126 all0) R126.1)
      have hk129 : _ ≤ T128.heap.size := Nat.le_trans hk126 (Kq128.1)
      have A_o117_130 : Arv Z T128.heap o117 cA117 .char (0 : Int32) [] (.int (0 : Int32)) := Arv.keep A_o117_127 Kq128 (ninS ne_o117_op nin0)
      have E_os_130 : Exa Z T128.heap os "java/lang/String" := Exa.keep E_os_127 Kq128
      have F_value_os_130 : Fld Z T128.heap os "java/lang/String" "value" "[B" (.ref vb_123) := Fld.keep F_value_os_127 Kq128 (ninS ne_os_op nin0)
      have F_coder_os_130 : Fld Z T128.heap os "java/lang/String" "coder" "B" (.int (0 : Int32)) := Fld.keep F_coder_os_127 Kq128 (ninS ne_os_op nin0)
      have A_vb_123_130 : Arv Z T128.heap vb_123 kb_123 .byte (0 : Int32) [] (.int (0 : Int32)) := Arv.keep A_vb_123_127 Kq128 (ninS ne_vb_123_op nin0)
      have E_op_130 : Exa Z T128.heap op "com/example/scrivenmoor/scrivenmoor/DatePattern$Part" := Exa.keep A125 Kq128
      have K128 : Keep h0 T128.heap [] := Keep.trans K125 Kq128 (allS (Or.inr mh_op) all0)
      have Zs128 : n0 ≤ T128.heap.size := Nat.le_trans Zs125 Kq128.1
      show Go p e below _ (T128.setTop (mkF m 108 #[.val (.int p1), .val (.int p2), .val (.int p3), .val (.int p4), .val (.int p5), .val (.int lt), .val (.int ((XT.ushr p5 (1 : Int32)) &&& (3 : Int32))), .val (.ref o117), .val (.ref os), .unset, .unset] [(.ref op)]))
      refine g_astore X128 hx (hb hby at_108) 110 rfl rfl #[.val (.int p1), .val (.int p2), .val (.int p3), .val (.int p4), .val (.int p5), .val (.int lt), .val (.int ((XT.ushr p5 (1 : Int32)) &&& (3 : Int32))), .val (.ref o117), .val (.ref os), .val (.ref op), .unset] rfl ?_
      refine g_iload X128 hx (hb hby at_110) 112 rfl (v := lt) rfl ?_
      refine g_if_eq X128 hx (hb hby at_112) 119 115 (by decide) (by decide) rfl (fun hc112 => ?_) (fun hc112 => ?_)
      · refine g_iconst X128 hx (hb hby at_119) 120 rfl (0 : Int32) rfl ?_
        refine g_istore X128 hx (hb hby at_120) 122 rfl #[.val (.int p1), .val (.int p2), .val (.int p3), .val (.int p4), .val (.int p5), .val (.int lt), .val (.int ((XT.ushr p5 (1 : Int32)) &&& (3 : Int32))), .val (.ref o117), .val (.ref os), .val (.ref op), .val (.int (0 : Int32))] rfl ?_
        refine g_aload X128 hx (hb hby at_122) 124 rfl (v := (.ref op)) rfl rfl ?_
        obtain ⟨cq131, kq131, q131a, q131b, q131c⟩ := isOf hZ rfl f128_0
        obtain ⟨_, _, ⟨T131, L131, k131, n131⟩, -, X131, ⟨Lc131, hQ131, l131, y131, z131⟩, st131⟩ := X128.virtualBack hx (y := (⟨"com/example/scrivenmoor/scrivenmoor/DatePattern$Part", "isField", "()Z"⟩ : MethodName)) (z := (⟨"com/example/scrivenmoor/scrivenmoor/DatePattern$Part", "isField", "()Z"⟩ : MethodName)) hown (mvT hZ (hw _ (List.mem_of_getElem? (i := 40) rfl))) (mvT hZ (hw _ (List.mem_of_getElem? (i := 41) rfl))) (notFace_of_selects (args := #[]) (mvT hZ (hw _ (List.mem_of_getElem? (i := 43) rfl)))) (mvT hZ (hw _ (List.mem_of_getElem? (i := 43) rfl))) (mvT hZ (hw _ (List.mem_of_getElem? (i := 42) rfl))) (by decide) (backOf (W := 0) (rm6 l Z a0 hw [] op lt T128.heap n0 Zs128 f128_1) hZ (hw _ (List.mem_of_getElem? (i := 44) rfl)) (hw _ (List.mem_of_getElem? (i := 24) rfl)) (by decide) (by decide)) q131a q131c (g := (mkF m 124 #[.val (.int p1), .val (.int p2), .val (.int p3), .val (.int p4), .val (.int p5), .val (.int lt), .val (.int ((XT.ushr p5 (1 : Int32)) &&& (3 : Int32))), .val (.ref o117), .val (.ref os), .val (.ref op), .val (.int (0 : Int32))] [(.ref op)])) rfl (by rw [hml]; rfl) (Steps.refl _) (argsL := []) (rest := []) (lenOf own_pd7 rfl) rfl (by show 2 * 0 + _ ≤ _; exact Nat.le_of_eq rfl) (hb hby at_124) (fun _ _ => ⟨rfl, rfl, (by decide : 7 + 0 ≤ _), (by decide : 15 + 0 ≤ _)⟩)
        dsimp only [Pt.U, Pt.locs, Pt.cells, Pt.slots] at X131 l131 y131 z131 st131 hQ131
        subst l131 y131 z131
        obtain ⟨r_131, rfl, Nq131, e131, p131_0⟩ := hQ131
        refine Go.tr st131 ?_
        have N131 := Fr.app N128 Nq131
        show Go p e below _ (T131.setTop (mkF m 127 #[.val (.int p1), .val (.int p2), .val (.int p3), .val (.int p4), .val (.int p5), .val (.int lt), .val (.int ((XT.ushr p5 (1 : Int32)) &&& (3 : Int32))), .val (.ref o117), .val (.ref os), .val (.ref op), .val (.int (0 : Int32))] [(.int r_131)]))
        refine g_iload X131 hx (hb hby at_127) 129 rfl (v := (0 : Int32)) rfl ?_
        refine g_icmp_ne X131 hx (hb hby at_129) 146 132 (by decide) (by decide) rfl (fun hc129 => False.elim (hc129 (p131_0.trans (if_pos hc112)))) (fun hc129 => ?_)
        refine g_aload X131 hx (hb hby at_132) 134 rfl (v := (.ref op)) rfl rfl ?_
        obtain ⟨cq132, kq132, q132a, q132b, q132c⟩ := isOf hZ e131 f128_0
        obtain ⟨_, _, ⟨T132, L132, k132, n132⟩, -, X132, ⟨Lc132, hQ132, l132, y132, z132⟩, st132⟩ := X131.virtualBack hx (y := (⟨"com/example/scrivenmoor/scrivenmoor/DatePattern$Part", "letter", "()C"⟩ : MethodName)) (z := (⟨"com/example/scrivenmoor/scrivenmoor/DatePattern$Part", "letter", "()C"⟩ : MethodName)) hown (mvT hZ (hw _ (List.mem_of_getElem? (i := 45) rfl))) (mvT hZ (hw _ (List.mem_of_getElem? (i := 46) rfl))) (notFace_of_selects (args := #[]) (mvT hZ (hw _ (List.mem_of_getElem? (i := 48) rfl)))) (mvT hZ (hw _ (List.mem_of_getElem? (i := 48) rfl))) (mvT hZ (hw _ (List.mem_of_getElem? (i := 47) rfl))) (by decide) (backOf (W := 0) (rm7 l Z a0 hw [] op lt T128.heap n0 Zs128 f128_1 n_lt) hZ (hw _ (List.mem_of_getElem? (i := 49) rfl)) (hw _ (List.mem_of_getElem? (i := 24) rfl)) (by decide) (by decide)) q132a q132c (g := (mkF m 134 #[.val (.int p1), .val (.int p2), .val (.int p3), .val (.int p4), .val (.int p5), .val (.int lt), .val (.int ((XT.ushr p5 (1 : Int32)) &&& (3 : Int32))), .val (.ref o117), .val (.ref os), .val (.ref op), .val (.int (0 : Int32))] [(.ref op)])) rfl (by rw [hml]; rfl) (Steps.refl _) (argsL := []) (rest := []) (lenOf own_pd8 rfl) rfl (by show 2 * 0 + _ ≤ _; exact Nat.le_of_eq rfl) (hb hby at_134) (fun _ _ => ⟨rfl, e131, (by decide : 7 + 0 ≤ _), (by decide : 15 + 0 ≤ _)⟩)
        dsimp only [Pt.U, Pt.locs, Pt.cells, Pt.slots] at X132 l132 y132 z132 st132 hQ132
        subst l132 y132 z132
        obtain ⟨rfl, Nq132, e132⟩ := hQ132
        refine Go.tr st132 ?_
        have N132 := Fr.app N131 Nq132
        show Go p e below _ (T132.setTop (mkF m 137 #[.val (.int p1), .val (.int p2), .val (.int p3), .val (.int p4), .val (.int p5), .val (.int lt), .val (.int ((XT.ushr p5 (1 : Int32)) &&& (3 : Int32))), .val (.ref o117), .val (.ref os), .val (.ref op), .val (.int (0 : Int32))] [(.int lt)]))
        refine g_iload X132 hx (hb hby at_137) 139 rfl (v := lt) rfl ?_
        refine g_icmp_ne X132 hx (hb hby at_139) 146 142 (by decide) (by decide) rfl (fun hc139 => False.elim (hc139 rfl)) (fun hc139 => ?_)
        refine g_iconst X132 hx (hb hby at_142) 143 rfl (1 : Int32) rfl ?_
        refine g_goto X132 hx (hb hby at_143) 147 (by decide) (by decide) ?_
        refine Go.retNS X132 hx hlk (t := .boolean) Bd.returns (by simp) (hb hby at_147) (by decide) (by decide) hS123 (by rw [e132]; exact hk129) (own_EW hw) hZ (by rw [hh, e132]; exact R129) ?_
        exact ⟨rfl, N132⟩
      · refine g_iconst X128 hx (hb hby at_115) 116 rfl (1 : Int32) rfl ?_
        refine g_goto X128 hx (hb hby at_116) 120 (by decide) (by decide) ?_
        refine g_istore X128 hx (hb hby at_120) 122 rfl #[.val (.int p1), .val (.int p2), .val (.int p3), .val (.int p4), .val (.int p5), .val (.int lt), .val (.int ((XT.ushr p5 (1 : Int32)) &&& (3 : Int32))), .val (.ref o117), .val (.ref os), .val (.ref op), .val (.int (1 : Int32))] rfl ?_
        refine g_aload X128 hx (hb hby at_122) 124 rfl (v := (.ref op)) rfl rfl ?_
        obtain ⟨cq133, kq133, q133a, q133b, q133c⟩ := isOf hZ rfl f128_0
        obtain ⟨_, _, ⟨T133, L133, k133, n133⟩, -, X133, ⟨Lc133, hQ133, l133, y133, z133⟩, st133⟩ := X128.virtualBack hx (y := (⟨"com/example/scrivenmoor/scrivenmoor/DatePattern$Part", "isField", "()Z"⟩ : MethodName)) (z := (⟨"com/example/scrivenmoor/scrivenmoor/DatePattern$Part", "isField", "()Z"⟩ : MethodName)) hown (mvT hZ (hw _ (List.mem_of_getElem? (i := 40) rfl))) (mvT hZ (hw _ (List.mem_of_getElem? (i := 41) rfl))) (notFace_of_selects (args := #[]) (mvT hZ (hw _ (List.mem_of_getElem? (i := 43) rfl)))) (mvT hZ (hw _ (List.mem_of_getElem? (i := 43) rfl))) (mvT hZ (hw _ (List.mem_of_getElem? (i := 42) rfl))) (by decide) (backOf (W := 0) (rm6 l Z a0 hw [] op lt T128.heap n0 Zs128 f128_1) hZ (hw _ (List.mem_of_getElem? (i := 44) rfl)) (hw _ (List.mem_of_getElem? (i := 24) rfl)) (by decide) (by decide)) q133a q133c (g := (mkF m 124 #[.val (.int p1), .val (.int p2), .val (.int p3), .val (.int p4), .val (.int p5), .val (.int lt), .val (.int ((XT.ushr p5 (1 : Int32)) &&& (3 : Int32))), .val (.ref o117), .val (.ref os), .val (.ref op), .val (.int (1 : Int32))] [(.ref op)])) rfl (by rw [hml]; rfl) (Steps.refl _) (argsL := []) (rest := []) (lenOf own_pd7 rfl) rfl (by show 2 * 0 + _ ≤ _; exact Nat.le_of_eq rfl) (hb hby at_124) (fun _ _ => ⟨rfl, rfl, (by decide : 7 + 0 ≤ _), (by decide : 15 + 0 ≤ _)⟩)
        dsimp only [Pt.U, Pt.locs, Pt.cells, Pt.slots] at X133 l133 y133 z133 st133 hQ133
        subst l133 y133 z133
        obtain ⟨r_133, rfl, Nq133, e133, p133_0⟩ := hQ133
        refine Go.tr st133 ?_
        have N133 := Fr.app N128 Nq133
        show Go p e below _ (T133.setTop (mkF m 127 #[.val (.int p1), .val (.int p2), .val (.int p3), .val (.int p4), .val (.int p5), .val (.int lt), .val (.int ((XT.ushr p5 (1 : Int32)) &&& (3 : Int32))), .val (.ref o117), .val (.ref os), .val (.ref op), .val (.int (1 : Int32))] [(.int r_133)]))
        refine g_iload X133 hx (hb hby at_127) 129 rfl (v := (1 : Int32)) rfl ?_
        refine g_icmp_ne X133 hx (hb hby at_129) 146 132 (by decide) (by decide) rfl (fun hc129 => False.elim (hc129 (p133_0.trans (if_neg hc112)))) (fun hc129 => ?_)
        refine g_aload X133 hx (hb hby at_132) 134 rfl (v := (.ref op)) rfl rfl ?_
        obtain ⟨cq134, kq134, q134a, q134b, q134c⟩ := isOf hZ e133 f128_0
        obtain ⟨_, _, ⟨T134, L134, k134, n134⟩, -, X134, ⟨Lc134, hQ134, l134, y134, z134⟩, st134⟩ := X133.virtualBack hx (y := (⟨"com/example/scrivenmoor/scrivenmoor/DatePattern$Part", "letter", "()C"⟩ : MethodName)) (z := (⟨"com/example/scrivenmoor/scrivenmoor/DatePattern$Part", "letter", "()C"⟩ : MethodName)) hown (mvT hZ (hw _ (List.mem_of_getElem? (i := 45) rfl))) (mvT hZ (hw _ (List.mem_of_getElem? (i := 46) rfl))) (notFace_of_selects (args := #[]) (mvT hZ (hw _ (List.mem_of_getElem? (i := 48) rfl)))) (mvT hZ (hw _ (List.mem_of_getElem? (i := 48) rfl))) (mvT hZ (hw _ (List.mem_of_getElem? (i := 47) rfl))) (by decide) (backOf (W := 0) (rm7 l Z a0 hw [] op lt T128.heap n0 Zs128 f128_1 n_lt) hZ (hw _ (List.mem_of_getElem? (i := 49) rfl)) (hw _ (List.mem_of_getElem? (i := 24) rfl)) (by decide) (by decide)) q134a q134c (g := (mkF m 134 #[.val (.int p1), .val (.int p2), .val (.int p3), .val (.int p4), .val (.int p5), .val (.int lt), .val (.int ((XT.ushr p5 (1 : Int32)) &&& (3 : Int32))), .val (.ref o117), .val (.ref os), .val (.ref op), .val (.int (1 : Int32))] [(.ref op)])) rfl (by rw [hml]; rfl) (Steps.refl _) (argsL := []) (rest := []) (lenOf own_pd8 rfl) rfl (by show 2 * 0 + _ ≤ _; exact Nat.le_of_eq rfl) (hb hby at_134) (fun _ _ => ⟨rfl, e133, (by decide : 7 + 0 ≤ _), (by decide : 15 + 0 ≤ _)⟩)
        dsimp only [Pt.U, Pt.locs, Pt.cells, Pt.slots] at X134 l134 y134 z134 st134 hQ134
        subst l134 y134 z134
        obtain ⟨rfl, Nq134, e134⟩ := hQ134
        refine Go.tr st134 ?_
        have N134 := Fr.app N133 Nq134
        show Go p e below _ (T134.setTop (mkF m 137 #[.val (.int p1), .val (.int p2), .val (.int p3), .val (.int p4), .val (.int p5), .val (.int lt), .val (.int ((XT.ushr p5 (1 : Int32)) &&& (3 : Int32))), .val (.ref o117), .val (.ref os), .val (.ref op), .val (.int (1 : Int32))] [(.int lt)]))
        refine g_iload X134 hx (hb hby at_137) 139 rfl (v := lt) rfl ?_
        refine g_icmp_ne X134 hx (hb hby at_139) 146 142 (by decide) (by decide) rfl (fun hc139 => False.elim (hc139 rfl)) (fun hc139 => ?_)
        refine g_iconst X134 hx (hb hby at_142) 143 rfl (1 : Int32) rfl ?_
        refine g_goto X134 hx (hb hby at_143) 147 (by decide) (by decide) ?_
        refine Go.retNS X134 hx hlk (t := .boolean) Bd.returns (by simp) (hb hby at_147) (by decide) (by decide) hS123 (by rw [e134]; exact hk129) (own_EW hw) hZ (by rw [hh, e134]; exact R129) ?_
        exact ⟨rfl, N134⟩
  refine g_iload X0 hx (hb hby at_0) 2 rfl (v := p5) rfl ?_
  refine g_iconst X0 hx (hb hby at_2) 3 rfl (1 : Int32) rfl ?_
  refine g_iand X0 hx (hb hby at_3) 4 rfl (p5 &&& (1 : Int32)) rfl ?_
  refine g_if_eq X0 hx (hb hby at_4) 11 7 (by decide) (by decide) rfl (fun hc4 => ?_) (fun hc4 => ?_)
  · refine g_iloadN X0 hx (hb hby at_11) 12 rfl (v := p1) rfl ?_
    obtain ⟨lc, e_lc⟩ : ∃ z, p1.toUInt32.toUInt16.toUInt32.toInt32 = z := ⟨_, rfl⟩
    refine g_i2c X0 hx (hb hby at_12) 13 rfl lc e_lc ?_
    refine g_istore X0 hx (hb hby at_13) 15 rfl #[.val (.int p1), .val (.int p2), .val (.int p3), .val (.int p4), .val (.int p5), .val (.int lc), .unset, .unset, .unset, .unset, .unset] rfl ?_
    exact tl lc (own_nch e_lc) (own_nc2 e_lc)
  · refine g_iconst X0 hx (hb hby at_7) 8 rfl (0 : Int32) rfl ?_
    refine g_goto X0 hx (hb hby at_8) 13 (by decide) (by decide) ?_
    refine g_istore X0 hx (hb hby at_13) 15 rfl #[.val (.int p1), .val (.int p2), .val (.int p3), .val (.int p4), .val (.int p5), .val (.int (0 : Int32)), .unset, .unset, .unset, .unset, .unset] rfl ?_
    exact tl (0 : Int32) ⟨rfl, rfl⟩ rfl
theorem own_held {s : State} {own : String} {i : Nat} (h : constHeld s own i) : Jvm.Lit.constHeld s own i := h
theorem own_cin : ∀ q ∈ own_EL, q ∈ consts_1 := by decide
set_option maxRecDepth 65536 in
set_option maxHeartbeats 40000000 in
theorem comes_1 {Post : Tables → Env → Array Value → State → Outcome → State → Prop} (hpost : ∀ tb e args s v u, (limb_1_1.after args s (.returned v) u = true ∧ limb_1_2.after args s (.returned v) u = true ∧ True) → ReturnedEndW s (.returned v) u (Jvm.fieldLocs frame_1_writes args s ++ Jvm.arrayLocs frame_1_arrays args s ++ Jvm.staticLocs frame_1_statics s) 24 1152 → Post tb e args s (.returned v) u) :
    ArmFor flags0 classFile x code maxLocals ret World_1 tables_1 room_1 Calls_1 rest_1 Pre_1 Post := by
  intro l hfl _ _ p e ha hc hk s m args below hf hA hF happ hP
  obtain ⟨hcalls, hrest, hpre⟩ := hP
  obtain ⟨-, -, -, hnamed, -, -, -, hat⟩ := (Spec.applies_iff hf).mp happ
  obtain ⟨hg, hn⟩ := and_e (Cond.before_iff.mp (show (Jvm.Cond.and given_1 narrow_1).before args s = true from hpre))
  obtain ⟨c0, r0⟩ := and_e hg
  obtain ⟨c1, r1⟩ := and_e r0
  obtain ⟨c2, r2⟩ := and_e r1
  obtain ⟨c3, r3⟩ := and_e r2
  obtain ⟨c4, r4⟩ := and_e r3
  obtain ⟨w0, w1, w2, w3, w4, rfl⟩ : ∃ w0 w1 w2 w3 w4 : Value, args = #[w0, w1, w2, w3, w4] := by
    have hs : args.size = 5 := by simpa [Cond.value, given_1] using c0
    obtain ⟨L⟩ := args
    match L, hs with
    | [w0, w1, w2, w3, w4], _ => exact ⟨w0, w1, w2, w3, w4, rfl⟩
  have hw := fun d (hd : d ∈ tables_1) => atoms_spec (ws := Jvm.Cond.code x code maxLocals ret :: tables_1) hat d (List.mem_cons_of_mem _ hd)
  have hfit : Fit s := fun {y c} hc i hi => by
    obtain ⟨ha, rfl⟩ := Array.getElem?_eq_some_iff.mp hc
    have q := List.all_eq_true.mp ((Array.all_eq_true_iff_forall_mem.mp hF) _ (Array.getElem_mem ha)) i (List.mem_range.mpr hi)
    simpa [Array.getElem?_eq_getElem hi] using q
  obtain ⟨i0, ei0⟩ := is_v c1
  obtain rfl : w0 = (.int i0) := Option.some.inj ei0
  obtain ⟨i1, ei1⟩ := is_v c2
  obtain rfl : w1 = (.int i1) := Option.some.inj ei1
  obtain ⟨i2, ei2⟩ := is_v c3
  obtain rfl : w2 = (.int i2) := Option.some.inj ei2
  obtain ⟨i3, ei3⟩ := is_v c4
  obtain rfl : w3 = (.int i3) := Option.some.inj ei3
  obtain ⟨i4, ei4⟩ := is_v r4
  obtain rfl : w4 = (.int i4) := Option.some.inj ei4
  obtain ⟨hsets, hown0⟩ := atoms_of _ (rest_1_c_eq ▸ (show rest_1_c.before _ s = true from hrest))
  obtain ⟨s_COMPACT_STRINGS, e_s_COMPACT_STRINGS⟩ := is_v (Cond.before_iff.mp (hsets _ (List.mem_of_getElem? (i := 1) rfl)))
  have S_COMPACT_STRINGS : Sta s s.heap "java/lang/String" "COMPACT_STRINGS" "Z" (.int s_COMPACT_STRINGS) := Sta.start e_s_COMPACT_STRINGS (Or.inl (hsets _ (List.mem_of_getElem? (i := 0) rfl)))
  obtain ⟨s_SIOOBE_FORMATTER, e_s_SIOOBE_FORMATTER, r_s_SIOOBE_FORMATTER⟩ := isR_v (Cond.before_iff.mp (hsets _ (List.mem_of_getElem? (i := 8) rfl)))
  have S_SIOOBE_FORMATTER : Sta s s.heap "jdk/internal/util/Preconditions" "SIOOBE_FORMATTER" "Ljava/util/function/BiFunction;" s_SIOOBE_FORMATTER := Sta.start e_s_SIOOBE_FORMATTER (Or.inl (hsets _ (List.mem_of_getElem? (i := 7) rfl)))
  have z_s_COMPACT_STRINGS : ¬ s_COMPACT_STRINGS = 0 := own_nz e_s_COMPACT_STRINGS (Cond.before_iff.mp (hsets _ (List.mem_of_getElem? (i := 2) rfl)))
  obtain ⟨n, o, h1, h2, h3, _, L, rfl, ⟨rfl, N⟩, -, hq⟩ := rm0 l s _ hw tables_1 i0 i1 i2 i3 i4 s_COMPACT_STRINGS s_SIOOBE_FORMATTER s.heap s.heap.size (Nat.le_refl _) S_COMPACT_STRINGS S_SIOOBE_FORMATTER rfl z_s_COMPACT_STRINGS r_s_SIOOBE_FORMATTER p e ha hc hk s m _ below hf ((Spec.applies_iff_loose hf).mp happ).1 ⟨rfl, State.Warmed39.refl s, rfl, (CHv.start (own_EW hw) (fun q hq => own_held (hcalls.1 q (own_cin q hq))) (hsets _ (List.mem_of_getElem? (i := 2) rfl)) (hw _ (List.mem_of_getElem? (i := 15) rfl)) (hw _ (List.mem_of_getElem? (i := 2) rfl)))⟩ trivial
  refine ⟨n, _, h1, h2, h3, hpost _ _ _ _ _ _ ⟨Cond.after_iff.mpr rfl, Cond.after_iff.mpr (eq_i res_at (Term.int_eval (1)) rfl), trivial⟩ ⟨hq.1, hq.2.1, hq.2.2.1, (hq.2.2.2.sift fun y hy => Or.inr (N y hy)).mono (by decide) (by decide)⟩⟩
theorem main_1_1 : Claimed_1_1 := comes_1 fun _ _ _ _ _ _ h hF => ⟨h.1, hF⟩
theorem main_1_2 : Claimed_1_2 := comes_1 fun _ _ _ _ _ _ h hF => ⟨h.2.1, hF⟩
end Jvm.Pilot.@@N@@
namespace Jvm.Pilot.@@N@@
open Jvm Jvm.ClassFile Sem Op Lib Jvm.Free Jvm.Stand Jvm.Pilot.@@N@@.Jvm.D
/-! MADE BY PROGRAM (witnessworld.py) out of the Statement's table words and the real class files: 21 classes; the members and pool entries that the words name. The judged class is class 1, her method 1. -/
namespace start1
open Jvm.ClassFile
def u (s : String) : CpInfo := .utf8 (stringToUtf16 s)
/-- a pool by its gaps: so many unusable entries, then the entry; so many at the end -/
def gap : Nat → List CpInfo → List CpInfo
  | 0, r => r
  | n + 1, r => .unusable :: gap n r
def poolList (es : List (Nat × CpInfo)) (last : Nat) : List CpInfo := es.foldr (fun e r => gap e.1 (e.2 :: r)) (gap last [])
def pool (es : List (Nat × CpInfo)) (last : Nat) : Array CpInfo := ⟨poolList es last⟩
def fileOf (pool : Array CpInfo) (this : Nat) (attrs : Array Attribute := #[]) (ms : Array MethodInfo := #[]) (fl : Nat := 33) (sup : Nat := 0) (ifs : Array Nat := #[]) (fds : Array FieldInfo := #[]) : ClassFile where
  minorVersion := 0
  majorVersion := 65
  constantPool := pool
  accessFlags := fl
  thisClass := this
  superClass := sup
  interfaces := ifs
  fields := fds
  methods := ms
  attributes := attrs
def plain (name : String) (sup : Option ClassId) : Class where
  name := name
  kind := .ordinary
  loader := none
  accessFlags := 33
  super := sup
  interfaces := #[]
  cf := none
  fields := #[]
  methods := #[]
  instanceTypes := #[]
  staticTypes := #[]
  resolved := #[]
  callSites := []
  init := .initialized
  statics := none
  mirror := none

def pool0 : Array CpInfo := pool [(5, u "<init>"), (0, u "()V"), (1, .class_ 10), (1, u "java/lang/Object")] 113

def k0c0 : Code := { maxStack := 0, maxLocals := 1, code := object_method_1_code, exceptionTable := #[], attributes := #[] }
def k0m0 : Method := { name := "<init>", desc := "()V", sig := { parameters := [], returnType := none }, accessFlags := 1, code := some k0c0 }
/-- java/lang/Object -/
def k0 : Class := { plain "java/lang/Object" none with
  accessFlags := 33
  interfaces := #[]
  cf := some (fileOf pool0 8 #[] #[{ accessFlags := 1, nameIndex := 5, descriptorIndex := 6, attributes := #[] }] 33 0 #[] #[])
  fields := #[]
  methods := #[k0m0]
  instanceTypes := #[]
  staticTypes := #[]
  resolved := Array.replicate 124 none
  statics := none }

def pool1 : Array CpInfo := pool [(2, .class_ 4), (1, u "java/lang/Object"), (0, u "<init>"), (0, u "()V"), (0, .class_ 8), (0, u "java/lang/String"), (0, .methodref 7 10), (0, .nameAndType 5 11), (0, u "([C)V"), (0, .class_ 13), (0, u "com/example/scrivenmoor/scrivenmoor/DatePattern$Part"), (0, .methodref 12 15), (0, .nameAndType 5 16), (0, u "(CILjava/lang/String;)V"), (0, .methodref 12 18), (0, .nameAndType 19 20), (0, u "isField"), (0, u "()Z"), (0, .methodref 12 22), (0, .nameAndType 23 24), (0, u "letter"), (0, u "()C"), (0, .class_ 26), (0, u "com/example/scrivenmoor/scrivenmoor/PartIsFieldPinLaw"), (2, u "law"), (0, u "(IIIII)Z")] 9

def k1m0 : Method := { name := "<init>", desc := "()V", sig := { parameters := [], returnType := none }, accessFlags := 2, code := none }
def k1c1 : Code := { maxStack := 5, maxLocals := 11, code := code, exceptionTable := #[], attributes := #[] }
def k1m1 : Method := { name := "law", desc := "(IIIII)Z", sig := { parameters := [.int, .int, .int, .int, .int], returnType := some .boolean }, accessFlags := 9, code := some k1c1 }
/-- com/example/scrivenmoor/scrivenmoor/PartIsFieldPinLaw -/
def k1 : Class := { plain "com/example/scrivenmoor/scrivenmoor/PartIsFieldPinLaw" (some 0) with
  accessFlags := 49
  interfaces := #[]
  cf := some (fileOf pool1 25 #[] #[{ accessFlags := 2, nameIndex := 5, descriptorIndex := 6, attributes := #[] }, { accessFlags := 9, nameIndex := 29, descriptorIndex := 30, attributes := #[] }] 49 2 #[] #[])
  fields := #[]
  methods := #[k1m0, k1m1]
  instanceTypes := #[]
  staticTypes := #[]
  resolved := Array.replicate 40 none
  statics := none }

def pool2 : Array CpInfo := pool [(1, .class_ 2), (0, u "java/io/Serializable"), (0, .class_ 4), (0, u "java/lang/Object")] 2

/-- java/io/Serializable -/
def k2 : Class := { plain "java/io/Serializable" (some 0) with
  accessFlags := 1537
  interfaces := #[]
  cf := some (fileOf pool2 1 #[] #[] 1537 3 #[] #[])
  fields := #[]
  methods := #[]
  instanceTypes := #[]
  staticTypes := #[]
  resolved := Array.replicate 7 none
  statics := none }

def pool3 : Array CpInfo := pool [(1, .class_ 2), (0, u "java/lang/Comparable"), (0, .class_ 4), (0, u "java/lang/Object")] 7

/-- java/lang/Comparable -/
def k3 : Class := { plain "java/lang/Comparable" (some 0) with
  accessFlags := 1537
  interfaces := #[]
  cf := some (fileOf pool3 1 #[] #[] 1537 3 #[] #[])
  fields := #[]
  methods := #[]
  instanceTypes := #[]
  staticTypes := #[]
  resolved := Array.replicate 12 none
  statics := none }

def pool4 : Array CpInfo := pool [(2, .class_ 4), (1, u "java/lang/CharSequence"), (42, .class_ 48), (0, u "java/lang/CharSequence$1CodePointIterator"), (10, .class_ 60), (0, u "java/lang/CharSequence$1CharIterator"), (5, .class_ 67), (0, u "java/lang/Object")] 63

/-- java/lang/CharSequence -/
def k4 : Class := { plain "java/lang/CharSequence" (some 0) with
  accessFlags := 1537
  interfaces := #[]
  cf := some (fileOf pool4 2 #[.nestMembers #[47, 59]] #[] 1537 66 #[] #[])
  fields := #[]
  methods := #[]
  instanceTypes := #[]
  staticTypes := #[]
  resolved := Array.replicate 131 none
  statics := none }

def pool5 : Array CpInfo := pool [(1, .class_ 2), (0, u "java/lang/constant/Constable"), (0, .class_ 4), (0, u "java/lang/Object")] 6

/-- java/lang/constant/Constable -/
def k5 : Class := { plain "java/lang/constant/Constable" (some 0) with
  accessFlags := 1537
  interfaces := #[]
  cf := some (fileOf pool5 1 #[] #[] 1537 3 #[] #[])
  fields := #[]
  methods := #[]
  instanceTypes := #[]
  staticTypes := #[]
  resolved := Array.replicate 11 none
  statics := none }

def pool6 : Array CpInfo := pool [(1, .class_ 2), (0, u "java/lang/constant/ConstantDesc"), (0, .class_ 4), (0, u "java/lang/Object")] 32

/-- java/lang/constant/ConstantDesc -/
def k6 : Class := { plain "java/lang/constant/ConstantDesc" (some 0) with
  accessFlags := 1537
  interfaces := #[]
  cf := some (fileOf pool6 1 #[] #[] 1537 3 #[] #[])
  fields := #[]
  methods := #[]
  instanceTypes := #[]
  staticTypes := #[]
  resolved := Array.replicate 37 none
  statics := none }

def pool7 : Array CpInfo := pool [(1, .methodref 2 3), (0, .class_ 4), (0, .nameAndType 5 6), (0, u "java/lang/Object"), (0, u "<init>"), (0, u "()V"), (0, .string 8), (0, u ""), (0, .fieldref 10 11), (0, .class_ 12), (0, .nameAndType 13 14), (0, u "java/lang/String"), (0, u "value"), (0, u "[B"), (0, .fieldref 10 16), (0, .nameAndType 17 18), (0, u "coder"), (0, u "B"), (2, u "hash"), (0, u "I"), (2, u "hashIsZero"), (0, u "Z"), (0, .methodref 10 28), (0, .nameAndType 5 29), (0, u "([CIILjava/lang/Void;)V"), (8, .fieldref 10 39), (0, .nameAndType 40 26), (0, u "COMPACT_STRINGS"), (1, .class_ 44), (1, u "java/lang/StringUTF16"), (0, u "compress"), (1, .methodref 42 48), (0, .nameAndType 49 50), (0, u "coderFromArrayLen"), (0, u "([BI)B"), (126, .methodref 42 178), (0, .nameAndType 45 179), (0, u "([CII)[B"), (395, .class_ 576), (0, u "java/lang/CharSequence"), (22, u "CASE_INSENSITIVE_ORDER"), (0, u "Ljava/util/Comparator;"), (409, u "([C)V"), (90, u "serialPersistentFields"), (0, u "[Ljava/io/ObjectStreamField;"), (0, .class_ 1104), (0, u "java/lang/String$CaseInsensitiveComparator"), (1, .class_ 1107), (0, u "java/io/Serializable"), (0, .class_ 1109), (0, u "java/lang/Comparable"), (0, .class_ 1111), (0, u "java/lang/constant/Constable"), (0, .class_ 1113), (0, u "java/lang/constant/ConstantDesc"), (2, u "serialVersionUID"), (0, u "J"), (3, u "REPL"), (0, u "C"), (2, u "LATIN1"), (1, u "UTF16")] 323

def k7m0 : Method := { name := "<init>", desc := "()V", sig := { parameters := [], returnType := none }, accessFlags := 1, code := none }
def k7c1 : Code := { maxStack := 5, maxLocals := 2, code := jdk_42_method_3_code, exceptionTable := #[], attributes := #[] }
def k7m1 : Method := { name := "<init>", desc := "([C)V", sig := { parameters := [(.array .char)], returnType := none }, accessFlags := 1, code := some k7c1 }
def k7c2 : Code := { maxStack := 4, maxLocals := 6, code := jdk_42_method_149_code, exceptionTable := #[], attributes := #[] }
def k7m2 : Method := { name := "<init>", desc := "([CIILjava/lang/Void;)V", sig := { parameters := [(.array .char), .int, .int, (.object "java/lang/Void")], returnType := none }, accessFlags := 2, code := some k7c2 }
/-- java/lang/String -/
def k7 : Class := { plain "java/lang/String" (some 0) with
  accessFlags := 49
  interfaces := #[2, 3, 4, 5, 6]
  cf := some (fileOf pool7 10 #[.nestMembers #[1103]] #[{ accessFlags := 1, nameIndex := 5, descriptorIndex := 6, attributes := #[] }, { accessFlags := 1, nameIndex := 5, descriptorIndex := 1010, attributes := #[] }, { accessFlags := 2, nameIndex := 5, descriptorIndex := 29, attributes := #[] }] 49 2 #[1106, 1108, 575, 1110, 1112] #[{ accessFlags := 18, nameIndex := 13, descriptorIndex := 14, attributes := #[] }, { accessFlags := 18, nameIndex := 17, descriptorIndex := 18, attributes := #[] }, { accessFlags := 2, nameIndex := 21, descriptorIndex := 22, attributes := #[] }, { accessFlags := 2, nameIndex := 25, descriptorIndex := 26, attributes := #[] }, { accessFlags := 26, nameIndex := 1116, descriptorIndex := 1117, attributes := #[] }, { accessFlags := 24, nameIndex := 40, descriptorIndex := 26, attributes := #[] }, { accessFlags := 26, nameIndex := 1101, descriptorIndex := 1102, attributes := #[] }, { accessFlags := 26, nameIndex := 1121, descriptorIndex := 1122, attributes := #[] }, { accessFlags := 25, nameIndex := 599, descriptorIndex := 600, attributes := #[] }, { accessFlags := 24, nameIndex := 1125, descriptorIndex := 18, attributes := #[] }, { accessFlags := 24, nameIndex := 1127, descriptorIndex := 18, attributes := #[] }])
  fields := #[{ name := "value", type := (.array .byte), accessFlags := 18, slot := 0, constantValue := 0 }, { name := "coder", type := .byte, accessFlags := 18, slot := 1, constantValue := 0 }, { name := "hash", type := .int, accessFlags := 2, slot := 2, constantValue := 0 }, { name := "hashIsZero", type := .boolean, accessFlags := 2, slot := 3, constantValue := 0 }, { name := "serialVersionUID", type := .long, accessFlags := 26, slot := 0, constantValue := 0 }, { name := "COMPACT_STRINGS", type := .boolean, accessFlags := 24, slot := 1, constantValue := 0 }, { name := "serialPersistentFields", type := (.array (.object "java/io/ObjectStreamField")), accessFlags := 26, slot := 2, constantValue := 0 }, { name := "REPL", type := .char, accessFlags := 26, slot := 3, constantValue := 0 }, { name := "CASE_INSENSITIVE_ORDER", type := (.object "java/util/Comparator"), accessFlags := 25, slot := 4, constantValue := 0 }, { name := "LATIN1", type := .byte, accessFlags := 24, slot := 5, constantValue := 0 }, { name := "UTF16", type := .byte, accessFlags := 24, slot := 6, constantValue := 0 }]
  methods := #[k7m0, k7m1, k7m2]
  instanceTypes := #[(.array .byte), .byte, .int, .boolean]
  staticTypes := #[.long, .boolean, (.array (.object "java/io/ObjectStreamField")), .char, (.object "java/util/Comparator"), .byte, .byte]
  resolved := Array.replicate 1451 none
  statics := some 0 }

def pool8 : Array CpInfo := pool [(1, .methodref 2 3), (0, .class_ 4), (0, .nameAndType 5 6), (0, u "java/lang/Object"), (0, u "<init>"), (0, u "()V"), (0, .class_ 8), (0, u "java/lang/Record")] 13

def k8c0 : Code := { maxStack := 1, maxLocals := 1, code := jdk_30_method_1_code, exceptionTable := #[], attributes := #[] }
def k8m0 : Method := { name := "<init>", desc := "()V", sig := { parameters := [], returnType := none }, accessFlags := 4, code := some k8c0 }
/-- java/lang/Record -/
def k8 : Class := { plain "java/lang/Record" (some 0) with
  accessFlags := 1057
  interfaces := #[]
  cf := some (fileOf pool8 7 #[] #[{ accessFlags := 4, nameIndex := 5, descriptorIndex := 6, attributes := #[] }] 1057 2 #[] #[])
  fields := #[]
  methods := #[k8m0]
  instanceTypes := #[]
  staticTypes := #[]
  resolved := Array.replicate 22 none
  statics := none }

def pool9 : Array CpInfo := pool [(1, .methodref 2 3), (0, .class_ 4), (0, .nameAndType 5 6), (0, u "java/lang/Record"), (0, u "<init>"), (0, u "()V"), (0, .fieldref 8 9), (0, .class_ 10), (0, .nameAndType 11 12), (0, u "com/example/scrivenmoor/scrivenmoor/DatePattern$Part"), (0, u "letter"), (0, u "C"), (0, .fieldref 8 14), (0, .nameAndType 15 16), (0, u "count"), (0, u "I"), (0, .fieldref 8 18), (0, .nameAndType 19 20), (0, u "text"), (0, u "Ljava/lang/String;"), (12, u "(CILjava/lang/String;)V"), (3, u "isField"), (0, u "()Z"), (4, u "()C"), (3, .class_ 48), (0, u "com/example/scrivenmoor/scrivenmoor/DatePattern")] 21

def k9c0 : Code := { maxStack := 2, maxLocals := 4, code := prog_19_method_1_code, exceptionTable := #[], attributes := #[] }
def k9m0 : Method := { name := "<init>", desc := "(CILjava/lang/String;)V", sig := { parameters := [.char, .int, (.object "java/lang/String")], returnType := none }, accessFlags := 0, code := some k9c0 }
def k9c1 : Code := { maxStack := 1, maxLocals := 1, code := prog_19_method_2_code, exceptionTable := #[], attributes := #[] }
def k9m1 : Method := { name := "isField", desc := "()Z", sig := { parameters := [], returnType := some .boolean }, accessFlags := 0, code := some k9c1 }
def k9c2 : Code := { maxStack := 1, maxLocals := 1, code := prog_19_method_6_code, exceptionTable := #[], attributes := #[] }
def k9m2 : Method := { name := "letter", desc := "()C", sig := { parameters := [], returnType := some .char }, accessFlags := 1, code := some k9c2 }
/-- com/example/scrivenmoor/scrivenmoor/DatePattern$Part -/
def k9 : Class := { plain "com/example/scrivenmoor/scrivenmoor/DatePattern$Part" (some 8) with
  accessFlags := 48
  interfaces := #[]
  cf := some (fileOf pool9 8 #[.nestHost 47] #[{ accessFlags := 0, nameIndex := 5, descriptorIndex := 33, attributes := #[] }, { accessFlags := 0, nameIndex := 37, descriptorIndex := 38, attributes := #[] }, { accessFlags := 1, nameIndex := 11, descriptorIndex := 43, attributes := #[] }] 48 2 #[] #[{ accessFlags := 18, nameIndex := 11, descriptorIndex := 12, attributes := #[] }, { accessFlags := 18, nameIndex := 15, descriptorIndex := 16, attributes := #[] }, { accessFlags := 18, nameIndex := 19, descriptorIndex := 20, attributes := #[] }])
  fields := #[{ name := "letter", type := .char, accessFlags := 18, slot := 0, constantValue := 0 }, { name := "count", type := .int, accessFlags := 18, slot := 1, constantValue := 0 }, { name := "text", type := (.object "java/lang/String"), accessFlags := 18, slot := 2, constantValue := 0 }]
  methods := #[k9m0, k9m1, k9m2]
  instanceTypes := #[.char, .int, (.object "java/lang/String")]
  staticTypes := #[]
  resolved := Array.replicate 70 none
  statics := none }

def pool10 : Array CpInfo := pool [(6, .class_ 8), (1, u "java/lang/Object"), (0, u "<init>"), (0, u "()V"), (1, .class_ 14), (1, u "java/lang/StringUTF16"), (31, u "$assertionsDisabled"), (0, u "Z"), (13, u "HI_BYTE_SHIFT"), (0, u "I"), (2, u "LO_BYTE_SHIFT"), (49, .methodref 12 116), (0, .nameAndType 117 118), (0, u "compress"), (0, u "([CI[BII)I"), (3, u "([CII)[B"), (138, u "coderFromArrayLen"), (0, u "([BI)B"), (106, .class_ 371), (1, u "java/lang/StringUTF16$LinesSpliterator"), (58, u "MAX_LENGTH"), (196, .class_ 628), (0, u "java/lang/StringUTF16$CodePointsSpliterator"), (0, .class_ 630), (0, u "java/lang/StringUTF16$CharsSpliterator")] 4

def k10m0 : Method := { name := "<init>", desc := "()V", sig := { parameters := [], returnType := none }, accessFlags := 0, code := none }
def k10c1 : Code := { maxStack := 2, maxLocals := 2, code := jdk_52_method_15_code, exceptionTable := #[], attributes := #[] }
def k10m1 : Method := { name := "coderFromArrayLen", desc := "([BI)B", sig := { parameters := [(.array .byte), .int], returnType := some .byte }, accessFlags := 8, code := some k10c1 }
def k10c2 : Code := { maxStack := 5, maxLocals := 6, code := jdk_52_method_16_code, exceptionTable := #[], attributes := #[] }
def k10m2 : Method := { name := "compress", desc := "([CII)[B", sig := { parameters := [(.array .char), .int, .int], returnType := some (.array .byte) }, accessFlags := 9, code := some k10c2 }
def k10c3 : Code := { maxStack := 3, maxLocals := 7, code := jdk_52_method_21_code, exceptionTable := #[], attributes := #[] }
def k10m3 : Method := { name := "compress", desc := "([CI[BII)I", sig := { parameters := [(.array .char), .int, (.array .byte), .int, .int], returnType := some .int }, accessFlags := 9, code := some k10c3 }
/-- java/lang/StringUTF16 -/
def k10 : Class := { plain "java/lang/StringUTF16" (some 0) with
  accessFlags := 48
  interfaces := #[]
  cf := some (fileOf pool10 12 #[.nestMembers #[627, 629, 369]] #[{ accessFlags := 0, nameIndex := 9, descriptorIndex := 10, attributes := #[] }, { accessFlags := 8, nameIndex := 261, descriptorIndex := 262, attributes := #[] }, { accessFlags := 9, nameIndex := 117, descriptorIndex := 122, attributes := #[] }, { accessFlags := 9, nameIndex := 117, descriptorIndex := 118, attributes := #[] }] 48 6 #[] #[{ accessFlags := 26, nameIndex := 61, descriptorIndex := 62, attributes := #[] }, { accessFlags := 26, nameIndex := 65, descriptorIndex := 62, attributes := #[] }, { accessFlags := 24, nameIndex := 430, descriptorIndex := 62, attributes := #[] }, { accessFlags := 4120, nameIndex := 46, descriptorIndex := 47, attributes := #[] }])
  fields := #[{ name := "HI_BYTE_SHIFT", type := .int, accessFlags := 26, slot := 0, constantValue := 0 }, { name := "LO_BYTE_SHIFT", type := .int, accessFlags := 26, slot := 1, constantValue := 0 }, { name := "MAX_LENGTH", type := .int, accessFlags := 24, slot := 2, constantValue := 0 }, { name := "$assertionsDisabled", type := .boolean, accessFlags := 4120, slot := 3, constantValue := 0 }]
  methods := #[k10m0, k10m1, k10m2, k10m3]
  instanceTypes := #[]
  staticTypes := #[.int, .int, .int, .boolean]
  resolved := Array.replicate 635 none
  statics := none }

def pool11 : Array CpInfo := pool [(4, .class_ 6), (1, u "java/lang/Object"), (0, u "<init>"), (0, u "()V"), (5, .class_ 16), (1, u "java/lang/StringLatin1"), (104, u "$assertionsDisabled"), (0, u "Z"), (98, .class_ 223), (1, u "java/lang/StringLatin1$LinesSpliterator"), (166, .class_ 391), (0, u "java/lang/StringLatin1$CharsSpliterator")] 3

def k11m0 : Method := { name := "<init>", desc := "()V", sig := { parameters := [], returnType := none }, accessFlags := 0, code := none }
/-- java/lang/StringLatin1 -/
def k11 : Class := { plain "java/lang/StringLatin1" (some 0) with
  accessFlags := 48
  interfaces := #[]
  cf := some (fileOf pool11 14 #[.nestMembers #[390, 221]] #[{ accessFlags := 0, nameIndex := 7, descriptorIndex := 8, attributes := #[] }] 48 4 #[] #[{ accessFlags := 4120, nameIndex := 121, descriptorIndex := 122, attributes := #[] }])
  fields := #[{ name := "$assertionsDisabled", type := .boolean, accessFlags := 4120, slot := 0, constantValue := 0 }]
  methods := #[k11m0]
  instanceTypes := #[]
  staticTypes := #[.boolean]
  resolved := Array.replicate 395 none
  statics := none }

def pool12 : Array CpInfo := pool [(2, .class_ 4), (1, u "java/lang/Object"), (0, u "<init>"), (0, u "()V"), (17, .class_ 26), (1, u "jdk/internal/util/Preconditions"), (28, .class_ 56), (0, u "jdk/internal/util/Preconditions$4"), (57, .class_ 115), (0, u "jdk/internal/util/Preconditions$1"), (7, u "SIOOBE_FORMATTER"), (0, u "Ljava/util/function/BiFunction;"), (0, .class_ 126), (0, u "jdk/internal/util/Preconditions$2"), (3, u "AIOOBE_FORMATTER"), (0, .class_ 132), (0, u "jdk/internal/util/Preconditions$3"), (3, u "IOOBE_FORMATTER")] 57

def k12m0 : Method := { name := "<init>", desc := "()V", sig := { parameters := [], returnType := none }, accessFlags := 1, code := none }
/-- jdk/internal/util/Preconditions -/
def k12 : Class := { plain "jdk/internal/util/Preconditions" (some 0) with
  accessFlags := 33
  interfaces := #[]
  cf := some (fileOf pool12 24 #[.nestMembers #[55, 131, 125, 114]] #[{ accessFlags := 1, nameIndex := 5, descriptorIndex := 6, attributes := #[] }] 33 2 #[] #[{ accessFlags := 25, nameIndex := 123, descriptorIndex := 124, attributes := #[] }, { accessFlags := 25, nameIndex := 130, descriptorIndex := 124, attributes := #[] }, { accessFlags := 25, nameIndex := 136, descriptorIndex := 124, attributes := #[] }])
  fields := #[{ name := "SIOOBE_FORMATTER", type := (.object "java/util/function/BiFunction"), accessFlags := 25, slot := 0, constantValue := 0 }, { name := "AIOOBE_FORMATTER", type := (.object "java/util/function/BiFunction"), accessFlags := 25, slot := 1, constantValue := 0 }, { name := "IOOBE_FORMATTER", type := (.object "java/util/function/BiFunction"), accessFlags := 25, slot := 2, constantValue := 0 }]
  methods := #[k12m0]
  instanceTypes := #[]
  staticTypes := #[(.object "java/util/function/BiFunction"), (.object "java/util/function/BiFunction"), (.object "java/util/function/BiFunction")]
  resolved := Array.replicate 194 none
  statics := some 1 }

def pool13 : Array CpInfo := pool [(9, u "<init>"), (6, .class_ 18), (1, u "java/lang/Object"), (0, u "()V"), (1, .class_ 23), (1, u "jdk/internal/util/ArraysSupport"), (0, u "LOG2_ARRAY_LONG_INDEX_SCALE"), (0, u "I"), (2, u "U"), (0, u "Ljdk/internal/misc/Unsafe;"), (8, u "BIG_ENDIAN"), (0, u "Z"), (8, u "LOG2_BYTE_BIT_SIZE"), (4, u "LOG2_ARRAY_INT_INDEX_SCALE"), (54, u "JLA"), (0, u "Ljdk/internal/access/JavaLangAccess;"), (11, u "LOG2_ARRAY_BOOLEAN_INDEX_SCALE"), (9, u "LOG2_ARRAY_BYTE_INDEX_SCALE"), (5, u "LOG2_ARRAY_CHAR_INDEX_SCALE"), (5, u "LOG2_ARRAY_SHORT_INDEX_SCALE"), (18, u "LOG2_ARRAY_FLOAT_INDEX_SCALE"), (24, u "LOG2_ARRAY_DOUBLE_INDEX_SCALE"), (89, u "T_BOOLEAN"), (2, u "T_CHAR"), (1, u "T_FLOAT"), (1, u "T_DOUBLE"), (1, u "T_BYTE"), (1, u "T_SHORT"), (1, u "T_INT"), (1, u "T_LONG"), (1, u "SOFT_MAX_ARRAY_LENGTH")] 83

def k13m0 : Method := { name := "<init>", desc := "()V", sig := { parameters := [], returnType := none }, accessFlags := 2, code := none }
/-- jdk/internal/util/ArraysSupport -/
def k13 : Class := { plain "jdk/internal/util/ArraysSupport" (some 0) with
  accessFlags := 33
  interfaces := #[]
  cf := some (fileOf pool13 21 #[] #[{ accessFlags := 2, nameIndex := 9, descriptorIndex := 19, attributes := #[] }] 33 16 #[] #[{ accessFlags := 24, nameIndex := 28, descriptorIndex := 29, attributes := #[] }, { accessFlags := 26, nameIndex := 38, descriptorIndex := 39, attributes := #[] }, { accessFlags := 25, nameIndex := 121, descriptorIndex := 25, attributes := #[] }, { accessFlags := 25, nameIndex := 131, descriptorIndex := 25, attributes := #[] }, { accessFlags := 25, nameIndex := 137, descriptorIndex := 25, attributes := #[] }, { accessFlags := 25, nameIndex := 143, descriptorIndex := 25, attributes := #[] }, { accessFlags := 25, nameIndex := 53, descriptorIndex := 25, attributes := #[] }, { accessFlags := 25, nameIndex := 24, descriptorIndex := 25, attributes := #[] }, { accessFlags := 25, nameIndex := 162, descriptorIndex := 25, attributes := #[] }, { accessFlags := 25, nameIndex := 187, descriptorIndex := 25, attributes := #[] }, { accessFlags := 26, nameIndex := 48, descriptorIndex := 25, attributes := #[] }, { accessFlags := 25, nameIndex := 277, descriptorIndex := 25, attributes := #[] }, { accessFlags := 25, nameIndex := 280, descriptorIndex := 25, attributes := #[] }, { accessFlags := 25, nameIndex := 282, descriptorIndex := 25, attributes := #[] }, { accessFlags := 25, nameIndex := 284, descriptorIndex := 25, attributes := #[] }, { accessFlags := 25, nameIndex := 286, descriptorIndex := 25, attributes := #[] }, { accessFlags := 25, nameIndex := 288, descriptorIndex := 25, attributes := #[] }, { accessFlags := 25, nameIndex := 290, descriptorIndex := 25, attributes := #[] }, { accessFlags := 25, nameIndex := 292, descriptorIndex := 25, attributes := #[] }, { accessFlags := 26, nameIndex := 108, descriptorIndex := 109, attributes := #[] }, { accessFlags := 25, nameIndex := 294, descriptorIndex := 25, attributes := #[] }])
  fields := #[{ name := "U", type := (.object "jdk/internal/misc/Unsafe"), accessFlags := 24, slot := 0, constantValue := 0 }, { name := "BIG_ENDIAN", type := .boolean, accessFlags := 26, slot := 1, constantValue := 0 }, { name := "LOG2_ARRAY_BOOLEAN_INDEX_SCALE", type := .int, accessFlags := 25, slot := 2, constantValue := 0 }, { name := "LOG2_ARRAY_BYTE_INDEX_SCALE", type := .int, accessFlags := 25, slot := 3, constantValue := 0 }, { name := "LOG2_ARRAY_CHAR_INDEX_SCALE", type := .int, accessFlags := 25, slot := 4, constantValue := 0 }, { name := "LOG2_ARRAY_SHORT_INDEX_SCALE", type := .int, accessFlags := 25, slot := 5, constantValue := 0 }, { name := "LOG2_ARRAY_INT_INDEX_SCALE", type := .int, accessFlags := 25, slot := 6, constantValue := 0 }, { name := "LOG2_ARRAY_LONG_INDEX_SCALE", type := .int, accessFlags := 25, slot := 7, constantValue := 0 }, { name := "LOG2_ARRAY_FLOAT_INDEX_SCALE", type := .int, accessFlags := 25, slot := 8, constantValue := 0 }, { name := "LOG2_ARRAY_DOUBLE_INDEX_SCALE", type := .int, accessFlags := 25, slot := 9, constantValue := 0 }, { name := "LOG2_BYTE_BIT_SIZE", type := .int, accessFlags := 26, slot := 10, constantValue := 0 }, { name := "T_BOOLEAN", type := .int, accessFlags := 25, slot := 11, constantValue := 0 }, { name := "T_CHAR", type := .int, accessFlags := 25, slot := 12, constantValue := 0 }, { name := "T_FLOAT", type := .int, accessFlags := 25, slot := 13, constantValue := 0 }, { name := "T_DOUBLE", type := .int, accessFlags := 25, slot := 14, constantValue := 0 }, { name := "T_BYTE", type := .int, accessFlags := 25, slot := 15, constantValue := 0 }, { name := "T_SHORT", type := .int, accessFlags := 25, slot := 16, constantValue := 0 }, { name := "T_INT", type := .int, accessFlags := 25, slot := 17, constantValue := 0 }, { name := "T_LONG", type := .int, accessFlags := 25, slot := 18, constantValue := 0 }, { name := "JLA", type := (.object "jdk/internal/access/JavaLangAccess"), accessFlags := 26, slot := 19, constantValue := 0 }, { name := "SOFT_MAX_ARRAY_LENGTH", type := .int, accessFlags := 25, slot := 20, constantValue := 0 }]
  methods := #[k13m0]
  instanceTypes := #[]
  staticTypes := #[(.object "jdk/internal/misc/Unsafe"), .boolean, .int, .int, .int, .int, .int, .int, .int, .int, .int, .int, .int, .int, .int, .int, .int, .int, .int, (.object "jdk/internal/access/JavaLangAccess"), .int]
  resolved := Array.replicate 378 none
  statics := none }

def pool14 : Array CpInfo := pool [(1, u "java/lang/Cloneable"), (0, .class_ 1), (0, u "java/lang/Object"), (0, .class_ 3)] 3

/-- java/lang/Cloneable -/
def k14 : Class := { plain "java/lang/Cloneable" (some 0) with
  accessFlags := 1537
  interfaces := #[]
  cf := some (fileOf pool14 2 #[] #[] 1537 4 #[] #[])
  fields := #[]
  methods := #[]
  instanceTypes := #[]
  staticTypes := #[]
  resolved := Array.replicate 8 none
  statics := none }

/-- the primitive byte -/
def k15 : Class := { plain "byte" none with kind := .primitive 'B', accessFlags := 0x411 }
/-- [B -/
def k16 : Class := { plain "[B" (some 0) with kind := .array 15 .byte, interfaces := #[14, 2], accessFlags := 1041 }

/-- the primitive char -/
def k17 : Class := { plain "char" none with kind := .primitive 'C', accessFlags := 0x411 }
/-- [C -/
def k18 : Class := { plain "[C" (some 0) with kind := .array 17 .char, interfaces := #[14, 2], accessFlags := 1041 }

/-- the primitive int -/
def k19 : Class := { plain "int" none with kind := .primitive 'I', accessFlags := 0x411 }
/-- [I -/
def k20 : Class := { plain "[I" (some 0) with kind := .array 19 .int, interfaces := #[14, 2], accessFlags := 1041 }

def heap : Heap := #[{ cls := 7, slots := #[.long 0, .int 1, .null, .int 0, .null, .int 0, .int 0], vm := .statics 7 },
  { cls := 12, slots := #[.null, .null, .null], vm := .statics 12 }]
def classes : Array Class := #[k0, k1, k2, k3, k4, k5, k6, k7, k8, k9, k10, k11, k12, k13, k14, k15, k16, k17, k18, k19, k20]
def interned : List (Array UInt16 × Addr) := []
def slotsUsed : Nat := 10
def theMethod : MethodId := ⟨1, 1⟩
def args0 : Array Value := #[.int 1, .int 2, .int 3, .int 4, .int 5]
def aboutOver (below : List Frame) : State where
  vm := { classes := classes, interned := interned.toArray }
  heap := heap
  slotsUsed := slotsUsed
  threads := #[{ frames := .invoking theMethod args0 :: below }]
def below0 : List Frame := [.native { method := ⟨0, 0⟩, args := #[] }]
def about1 : State := aboutOver below0
def p0 : Program := .bare "" "" ""
def e0 : Env := launch0.env 0 0 0
theorem w_frames : about1.frames = Frame.invoking theMethod args0 :: below0 := rfl
set_option maxRecDepth 65536 in
theorem w_args : argsFit about1.vm theMethod args0 = true := by decide +kernel
set_option maxRecDepth 65536 in
theorem w_heap : heapFits about1 = true := by decide +kernel
set_option maxRecDepth 65536 in
theorem w_runnable : about1.curStatus? = some .runnable := by decide +kernel
set_option maxRecDepth 65536 in
theorem w_alone : about1.alone = true := by decide +kernel
set_option maxRecDepth 65536 in
theorem w_named : about1.methodNamed? x = some theMethod := by decide +kernel
set_option maxRecDepth 65536 in
theorem w_hears : about1.hears theMethod below0 = true := by decide +kernel
set_option maxRecDepth 65536 in
theorem w_ripe : about1.ripe theMethod args0 below0 = true := by decide +kernel
theorem w_running : about1.status = .running := rfl
set_option maxRecDepth 65536 in
theorem w_room : about1.hasRoom e0.platform room_1 = true :=
  launch0.hasRoom_least _ room_1 (by decide +kernel) (by decide +kernel) (by decide +kernel) (by decide +kernel) (by decide +kernel) (by decide +kernel)
theorem allAtoms_all (ts : List Jvm.Cond) (a : Array Jvm.Value) (st : Jvm.State) : (allAtoms ts).before a st = ts.all (fun c => c.before a st) := by
  induction ts with
  | nil => rfl
  | cons c t ih =>
    show (Jvm.Cond.and c (allAtoms t)).before a st = _
    rw [Jvm.Cond.before_and, ih, List.all_cons]
def words1 : List Jvm.Cond := Jvm.Cond.code x code maxLocals ret :: tables_1
/-- a 'code' word, met by the world's own term for the bytes: nothing is compared byte by byte -/
theorem code_word {y : MethodName} {bytes : ByteArray} {mx : Nat} {rt : Option FieldType} {a : Array Value} {s : State} {m : MethodId} {meth : Method} {c : Code} (h1 : s.methodNamed? y = some m) (h2 : s.vm.method? m = some meth) (h3 : meth.code = some c) (h4 : c.code = bytes)
    (h5 : (c.maxLocals == mx && c.exceptionTable.isEmpty && decide (c.maxStack ≤ mostOperands) && decide (meth.sig.returnType = rt) && !meth.locks && decide (parseMethodDescriptor y.desc = some meth.sig)) = true) : (Jvm.Cond.code y bytes mx rt).before a s = true := by
  simp only [Bool.and_eq_true, beq_iff_eq, Bool.not_eq_true', decide_eq_true_eq] at h5
  obtain ⟨⟨⟨⟨⟨g1, g2⟩, g3⟩, g4⟩, g5⟩, g6⟩ := h5
  simp [Cond.before, Cond.holds, Cond.value, h1, h2, h3, h4, g1, g2, g3, g4, g5, g6]
def isCode : Jvm.Cond → Bool
  | .code _ _ _ _ => true
  | _ => false
theorem all_split {L : List Jvm.Cond} {P : Jvm.Cond → Bool} (h1 : L.all (fun c => isCode c || P c) = true) (h2 : ∀ c ∈ L.filter isCode, P c = true) : L.all P = true := by
  refine List.all_eq_true.mpr fun c hc => ?_
  have h := List.all_eq_true.mp h1 c hc
  rcases Bool.eq_false_or_eq_true (isCode c) with hi | hi
  · exact h2 c (List.mem_filter.mpr ⟨hc, hi⟩)
  · simpa [hi] using h
set_option maxRecDepth 65536 in
theorem w_c0 : (Jvm.Cond.code x code maxLocals ret).before args0 about1 = true := code_word (m := ⟨1, 1⟩) (meth := k1m1) (c := k1c1) (by decide +kernel) rfl rfl rfl (by decide +kernel)
set_option maxRecDepth 65536 in
theorem w_c1 : (Jvm.Cond.code ({ cls := "java/lang/String", name := "<init>", desc := "([C)V" } : Jvm.MethodName) jdk_42_method_3_code (2 : Nat) (Option.none : Option Jvm.ClassFile.FieldType)).before args0 about1 = true := code_word (m := ⟨7, 1⟩) (meth := k7m1) (c := k7c1) (by decide +kernel) rfl rfl rfl (by decide +kernel)
set_option maxRecDepth 65536 in
theorem w_c2 : (Jvm.Cond.code ({ cls := "java/lang/String", name := "<init>", desc := "([CIILjava/lang/Void;)V" } : Jvm.MethodName) jdk_42_method_149_code (6 : Nat) (Option.none : Option Jvm.ClassFile.FieldType)).before args0 about1 = true := code_word (m := ⟨7, 2⟩) (meth := k7m2) (c := k7c2) (by decide +kernel) rfl rfl rfl (by decide +kernel)
set_option maxRecDepth 65536 in
theorem w_c3 : (Jvm.Cond.code ({ cls := "java/lang/Object", name := "<init>", desc := "()V" } : Jvm.MethodName) object_method_1_code (1 : Nat) (Option.none : Option Jvm.ClassFile.FieldType)).before args0 about1 = true := code_word (m := ⟨0, 0⟩) (meth := k0m0) (c := k0c0) (by decide +kernel) rfl rfl rfl (by decide +kernel)
set_option maxRecDepth 65536 in
theorem w_c4 : (Jvm.Cond.code ({ cls := "com/example/scrivenmoor/scrivenmoor/DatePattern$Part", name := "<init>", desc := "(CILjava/lang/String;)V" } : Jvm.MethodName) prog_19_method_1_code (4 : Nat) (Option.none : Option Jvm.ClassFile.FieldType)).before args0 about1 = true := code_word (m := ⟨9, 0⟩) (meth := k9m0) (c := k9c0) (by decide +kernel) rfl rfl rfl (by decide +kernel)
set_option maxRecDepth 65536 in
theorem w_c5 : (Jvm.Cond.code ({ cls := "java/lang/Record", name := "<init>", desc := "()V" } : Jvm.MethodName) jdk_30_method_1_code (1 : Nat) (Option.none : Option Jvm.ClassFile.FieldType)).before args0 about1 = true := code_word (m := ⟨8, 0⟩) (meth := k8m0) (c := k8c0) (by decide +kernel) rfl rfl rfl (by decide +kernel)
set_option maxRecDepth 65536 in
theorem w_c6 : (Jvm.Cond.code ({ cls := "com/example/scrivenmoor/scrivenmoor/DatePattern$Part", name := "isField", desc := "()Z" } : Jvm.MethodName) prog_19_method_2_code (1 : Nat) (Option.some Jvm.ClassFile.FieldType.boolean)).before args0 about1 = true := code_word (m := ⟨9, 1⟩) (meth := k9m1) (c := k9c1) (by decide +kernel) rfl rfl rfl (by decide +kernel)
set_option maxRecDepth 65536 in
theorem w_c7 : (Jvm.Cond.code ({ cls := "com/example/scrivenmoor/scrivenmoor/DatePattern$Part", name := "letter", desc := "()C" } : Jvm.MethodName) prog_19_method_6_code (1 : Nat) (Option.some Jvm.ClassFile.FieldType.char)).before args0 about1 = true := code_word (m := ⟨9, 2⟩) (meth := k9m2) (c := k9c2) (by decide +kernel) rfl rfl rfl (by decide +kernel)
set_option maxRecDepth 65536 in
theorem w_c8 : (Jvm.Cond.code ({ cls := "java/lang/StringUTF16", name := "compress", desc := "([CII)[B" } : Jvm.MethodName) jdk_52_method_16_code (6 : Nat) (Option.some (Jvm.ClassFile.FieldType.array Jvm.ClassFile.FieldType.byte))).before args0 about1 = true := code_word (m := ⟨10, 2⟩) (meth := k10m2) (c := k10c2) (by decide +kernel) rfl rfl rfl (by decide +kernel)
set_option maxRecDepth 65536 in
theorem w_c9 : (Jvm.Cond.code ({ cls := "java/lang/StringUTF16", name := "compress", desc := "([CI[BII)I" } : Jvm.MethodName) jdk_52_method_21_code (7 : Nat) (Option.some Jvm.ClassFile.FieldType.int)).before args0 about1 = true := code_word (m := ⟨10, 3⟩) (meth := k10m3) (c := k10c3) (by decide +kernel) rfl rfl rfl (by decide +kernel)
set_option maxRecDepth 65536 in
theorem w_c10 : (Jvm.Cond.code ({ cls := "java/lang/StringUTF16", name := "coderFromArrayLen", desc := "([BI)B" } : Jvm.MethodName) jdk_52_method_15_code (2 : Nat) (Option.some Jvm.ClassFile.FieldType.byte)).before args0 about1 = true := code_word (m := ⟨10, 1⟩) (meth := k10m1) (c := k10c1) (by decide +kernel) rfl rfl rfl (by decide +kernel)
def codes1 : List Jvm.Cond := [Jvm.Cond.code x code maxLocals ret, Jvm.Cond.code ({ cls := "java/lang/String", name := "<init>", desc := "([C)V" } : Jvm.MethodName) jdk_42_method_3_code (2 : Nat) (Option.none : Option Jvm.ClassFile.FieldType), Jvm.Cond.code ({ cls := "java/lang/String", name := "<init>", desc := "([CIILjava/lang/Void;)V" } : Jvm.MethodName) jdk_42_method_149_code (6 : Nat) (Option.none : Option Jvm.ClassFile.FieldType), Jvm.Cond.code ({ cls := "java/lang/Object", name := "<init>", desc := "()V" } : Jvm.MethodName) object_method_1_code (1 : Nat) (Option.none : Option Jvm.ClassFile.FieldType), Jvm.Cond.code ({ cls := "com/example/scrivenmoor/scrivenmoor/DatePattern$Part", name := "<init>", desc := "(CILjava/lang/String;)V" } : Jvm.MethodName) prog_19_method_1_code (4 : Nat) (Option.none : Option Jvm.ClassFile.FieldType), Jvm.Cond.code ({ cls := "java/lang/Record", name := "<init>", desc := "()V" } : Jvm.MethodName) jdk_30_method_1_code (1 : Nat) (Option.none : Option Jvm.ClassFile.FieldType), Jvm.Cond.code ({ cls := "com/example/scrivenmoor/scrivenmoor/DatePattern$Part", name := "isField", desc := "()Z" } : Jvm.MethodName) prog_19_method_2_code (1 : Nat) (Option.some Jvm.ClassFile.FieldType.boolean), Jvm.Cond.code ({ cls := "com/example/scrivenmoor/scrivenmoor/DatePattern$Part", name := "letter", desc := "()C" } : Jvm.MethodName) prog_19_method_6_code (1 : Nat) (Option.some Jvm.ClassFile.FieldType.char), Jvm.Cond.code ({ cls := "java/lang/StringUTF16", name := "compress", desc := "([CII)[B" } : Jvm.MethodName) jdk_52_method_16_code (6 : Nat) (Option.some (Jvm.ClassFile.FieldType.array Jvm.ClassFile.FieldType.byte)), Jvm.Cond.code ({ cls := "java/lang/StringUTF16", name := "compress", desc := "([CI[BII)I" } : Jvm.MethodName) jdk_52_method_21_code (7 : Nat) (Option.some Jvm.ClassFile.FieldType.int), Jvm.Cond.code ({ cls := "java/lang/StringUTF16", name := "coderFromArrayLen", desc := "([BI)B" } : Jvm.MethodName) jdk_52_method_15_code (2 : Nat) (Option.some Jvm.ClassFile.FieldType.byte)]
set_option maxRecDepth 65536 in
theorem codes_eq : words1.filter isCode = codes1 := rfl
theorem w_codes : ∀ c ∈ words1.filter isCode, c.before args0 about1 = true := by
  rw [codes_eq]
  intro c hc
  simp only [codes1, List.mem_cons, List.not_mem_nil, or_false] at hc
  rcases hc with rfl | rfl | rfl | rfl | rfl | rfl | rfl | rfl | rfl | rfl | rfl
  · exact w_c0
  · exact w_c1
  · exact w_c2
  · exact w_c3
  · exact w_c4
  · exact w_c5
  · exact w_c6
  · exact w_c7
  · exact w_c8
  · exact w_c9
  · exact w_c10
set_option maxRecDepth 65536 in
theorem w_t1 : (words1.take 24).all (fun c => isCode c || c.before args0 about1) = true := by decide +kernel
set_option maxRecDepth 65536 in
theorem w_t2 : ((words1.drop 24).take 24).all (fun c => isCode c || c.before args0 about1) = true := by decide +kernel
set_option maxRecDepth 65536 in
theorem w_t3 : ((words1.drop 24).drop 24).all (fun c => isCode c || c.before args0 about1) = true := by decide +kernel
theorem w_tables : (allAtoms (Jvm.Cond.code x code maxLocals ret :: tables_1)).before args0 about1 = true := by
  rw [allAtoms_all]
  show words1.all (fun c => c.before args0 about1) = true
  refine all_split ?_ w_codes
  rw [← List.take_append_drop 24 words1, List.all_append, w_t1, ← List.take_append_drop 24 (words1.drop 24), List.all_append, w_t2, w_t3]
  rfl
set_option maxRecDepth 65536 in
theorem w_rest : rest_1_c.before args0 about1 = true := by decide +kernel
set_option maxRecDepth 65536 in
theorem w_case : (Jvm.Cond.and given_1 narrow_1).before args0 about1 = true := by decide +kernel
set_option maxRecDepth 65536 in
theorem w_consts : constsHeld consts_1 about1 := Jvm.Lit.constsHeldB_iff.mp (by decide +kernel)
theorem w_applies : (headSpec (Jvm.Cond.code x code maxLocals ret :: tables_1) room_1).applies x e0.platform about1 = true :=
  (Spec.applies_iff w_frames).mpr ⟨w_running, w_runnable, w_alone, w_named, w_hears, w_ripe, w_room, w_tables⟩
theorem atStart : AtStart classFile x code maxLocals ret World_1 tables_1 room_1 Calls_1 rest_1 Pre_1 launch0 p0 e0 about1 theMethod args0 below0 :=
  ⟨lists_1, trivial, launch0.admits_env _ _ _, launch0.least_env, fairChoices_fair.cas, fairChoices_fair.clock, w_frames, w_args, w_heap, w_applies, ⟨w_consts, trivial⟩, w_rest, w_case⟩
end start1
theorem witness_1 : WitnessClaimed_1 := ⟨start1.p0, start1.e0, start1.about1, start1.theMethod, start1.args0, start1.below0, start1.atStart⟩
end Jvm.Pilot.@@N@@
