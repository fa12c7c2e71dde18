import JvmDerived
import JvmDerived.Pilot.@@N@@Statement
import JvmDerived.Pilot.@@N@@Code
set_option linter.unusedVariables false
set_option linter.unusedSimpArgs false
namespace Jvm.Pilot.@@N@@
open Jvm Jvm.ClassFile Sem Op Lib Jvm.Free Jvm.Stand Jvm.LawKit Jvm.RoadKit Bundle Jvm.Pilot.@@N@@.Jvm.D
theorem own_selP {s : State} {args a : Array Value} {y : MethodName} {n : Nat} (wi : (Jvm.Cond.instantiable y.cls n).before a s = true) (hpriv : s.PrivateAt y) (hinst : (Jvm.Cond.instanceMethod y).before args s = true) (hy : y.cls ≠ "java/lang/invoke/MethodHandle" ∧ y.cls ≠ "java/lang/invoke/VarHandle") : (Jvm.Cond.selects y.cls y y).before args s = true := by
  obtain ⟨c, k, h1, h2, -, h4, -⟩ := Cond.instantiable_spec wi
  rw [Bool.or_eq_false_iff] at h4
  exact selects_self_of_private h1 h2 h4.1 hpriv hinst hy
theorem own_nz {args : Array Value} {s : State} {tm : Term} {z : Int32} (ev : tm.eval args s none [] s = some (.int z)) (h : (Jvm.Cond.not (Jvm.Cond.eq tm (Term.int 0))).value args s none s [] = some true) : ¬ z = 0 := by
  have h1 := not_v h
  have e2 : (Term.int 0).eval args s none [] s = some (.int 0) := Term.int_eval 0
  intro q
  subst q
  simp [Jvm.Cond.value, ev, e2] at h1
theorem own_ns {Z : State} {h : Heap} {a : Addr} {C : String} (F : Exa Z h a C) : ∃ c : Cell, h[a]? = some c ∧ c.vm.isStatics = false := by
  obtain ⟨c, k, h1, -, -, h4, -⟩ := F
  exact ⟨c, h1, h4⟩
theorem own_nsA {Z : State} {h : Heap} {a : Addr} {k : ClassId} {ty : FieldType} {z : Int32} {vs : List Value} {dv : Value} (F : Arv Z h a k ty z vs dv) : ∃ c : Cell, h[a]? = some c ∧ c.vm.isStatics = false := by
  obtain ⟨c, A, -⟩ := F
  exact ⟨c, A.1, A.plain⟩
theorem own_Sta_keep {Z : State} {h h' : Heap} {C n d : String} {v : Value} {ws : List Addr} (F : Sta Z h C n d v) (K : Keep h h' ws) (q : ∀ a ∈ ws, ∃ c : Cell, h[a]? = some c ∧ c.vm.isStatics = false) : Sta Z h' C n d v := by
  obtain ⟨cf, i, k, f, st, cell, h1, h2, h3, h4, h5, h6, h7⟩ := F
  refine ⟨cf, i, k, f, st, cell, h1, h2, h3, h4, K.2.1 st cell h5 (fun z => ?_), h6, h7⟩
  obtain ⟨c, e1, e2⟩ := q st z
  cases h5.symm.trans e1
  rw [e2] at h6
  cases h6
theorem own_cat {v : Value} (h : v.isRef = true) : v.category = 1 := by cases v <;> simp [Value.isRef, Value.category] at h ⊢
theorem own_fits_nar (t : FieldType) (x : Int32) (ht : t = .boolean ∨ t = .byte ∨ t = .char ∨ t = .short) : fits t (.int (nar t x)) = true := by
  rcases ht with rfl | rfl | rfl | rfl
  · exact fits_nar_bool x
  · exact fits_nar_byte x
  · exact fits_nar_char x
  · exact fits_nar_short x
section Layer
variable {p : Program} {l : Launch} {e : Env} {R : Room} {s : State} {m : MethodId} {args : Array Value} {below : List Frame} {meth : Method} {c : Code} {T : State} {locs : List Loc} {cells slots : Nat}
/-- the walk from σ comes to an end at which K holds -/
def Go (p : Program) (e : Env) (below : List Frame) (K : State → Outcome → Prop) (σ : State) : Prop := ∃ s₂ o, Steps p.tables e below σ s₂ ∧ K s₂ o
theorem Go.st {K : State → Outcome → Prop} {σ σ' : State} (h : ∀ t, Steps p.tables e below σ' t → Steps p.tables e below σ t) (k : Go p e below K σ') : Go p e below K σ := by
  obtain ⟨a, b, c, d⟩ := k
  exact ⟨a, b, h _ c, d⟩
theorem Go.tr {K : State → Outcome → Prop} {σ σ' : State} (h : Steps p.tables e below σ σ') (k : Go p e below K σ') : Go p e below K σ := Go.st (fun _ q => h.trans q) k
/-- what a contract asks of the end -/
def KQ (s : State) (below : List Frame) (Q : Option Value → Heap → List Loc → Prop) (C S : Nat) (s₂ : State) (o : Outcome) : Prop :=
  s₂.status = .running ∧ Ended s₂ below o ∧ ∃ v L, o = .returned v ∧ Q v s₂.heap L ∧ FrameEnd s o s₂ L C S
theorem Go.body {K : State → Outcome → Prop} {σ : State} {g g' : JFrame} (hg : g = g') (k : Go p e below K (T.setTop g')) : Go p e below K (T.setTop g) := hg ▸ k
/-- return of nothing -/
theorem Go.retV {Q : Option Value → Heap → List Loc → Prop} {C S : Nat} (X : Stand p l e R s m args below meth c T locs cells slots) (hx : p.tables.exec = Jvm.exec) (hlk : meth.locks = false) (hret : meth.sig.returnType = none) {pc : Nat} {Ls : Array Slot} (hd : decode c.code pc = .ok (.return_, 1)) (hC : cells ≤ C) (hS : slots ≤ S) (q : Q none T.heap locs) :
    Go p e below (KQ s below Q C S) (T.setTop (mkF m pc Ls [])) := by
  obtain ⟨fs, hr, hrun, hended, hW, hsame⟩ := X.leave (v := none) (fun _ => rfl)
  exact ⟨_, _, X.returnOut hx hret hd hr, hrun, hended, _, _, rfl, q, ⟨_, rfl⟩, hW, hsame.mono hC hS⟩
/-- return of an int -/
theorem Go.retI {Q : Option Value → Heap → List Loc → Prop} {C S : Nat} (X : Stand p l e R s m args below meth c T locs cells slots) (hx : p.tables.exec = Jvm.exec) (hlk : meth.locks = false) (hret : meth.sig.returnType = some .int) {pc : Nat} {Ls : Array Slot} {z : Int32} {rest : List Value} (hd : decode c.code pc = .ok (.ireturn, 1)) (hC : cells ≤ C) (hS : slots ≤ S) (q : Q (some (.int z)) T.heap locs) :
    Go p e below (KQ s below Q C S) (T.setTop (mkF m pc Ls (.int z :: rest))) := by
  obtain ⟨fs, hr, hrun, hended, hW, hsame⟩ := X.leave (v := some (.int z)) (fun h => by rw [hret] at h; cases h)
  exact ⟨_, _, retOut X hx hret rfl (Or.inl ⟨rfl, Or.inl rfl, _, rfl⟩) hd hr, hrun, hended, _, _, rfl, q, ⟨_, rfl⟩, hW, hsame.mono hC hS⟩
/-- return of a boolean, byte, char or short -/
theorem Go.retN {Q : Option Value → Heap → List Loc → Prop} {C S : Nat} (X : Stand p l e R s m args below meth c T locs cells slots) (hx : p.tables.exec = Jvm.exec) (hlk : meth.locks = false) {t : FieldType} (hret : meth.sig.returnType = some t) (ht : t = .boolean ∨ t = .byte ∨ t = .char ∨ t = .short) {pc : Nat} {Ls : Array Slot} {z : Int32} {rest : List Value} (hd : decode c.code pc = .ok (.ireturn, 1)) (hC : cells ≤ C) (hS : slots ≤ S) (q : Q (some (.int (nar t z))) T.heap locs) :
    Go p e below (KQ s below Q C S) (T.setTop (mkF m pc Ls (.int z :: rest))) := by
  obtain ⟨fs, hr, hrun, hended, hW, hsame⟩ := X.leave (v := some (.int (nar t z))) (fun h => by rw [hret] at h; cases h)
  exact ⟨_, _, RoadKit.retN X hx hret ht hd hr, hrun, hended, _, _, rfl, q, ⟨_, rfl⟩, hW, hsame.mono hC hS⟩
/-- return of a reference -/
theorem Go.retA {Q : Option Value → Heap → List Loc → Prop} {C S : Nat} (X : Stand p l e R s m args below meth c T locs cells slots) (hx : p.tables.exec = Jvm.exec) (hlk : meth.locks = false) {t : FieldType} (hret : meth.sig.returnType = some t) (ht : t.isReference = true) {pc : Nat} {Ls : Array Slot} {w : Value} (hw : w.isRef = true) {rest : List Value} (hd : decode c.code pc = .ok (.areturn, 1)) (hC : cells ≤ C) (hS : slots ≤ S) (q : Q (some w) T.heap locs) :
    Go p e below (KQ s below Q C S) (T.setTop (mkF m pc Ls (w :: rest))) := by
  obtain ⟨fs, hr, hrun, hended, hW, hsame⟩ := X.leave (v := some w) (fun h => by rw [hret] at h; cases h)
  exact ⟨_, _, retOut X hx hret (by cases t <;> cases w <;> simp_all [narrow, Value.isRef, FieldType.isReference]) (Or.inr (Or.inr (Or.inr (Or.inr ⟨rfl, ht, hw⟩)))) hd hr, hrun, hended, _, _, rfl, q, ⟨_, rfl⟩, hW, hsame.mono hC hS⟩
/-- return of a long -/
theorem Go.retJ {Q : Option Value → Heap → List Loc → Prop} {C S : Nat} (X : Stand p l e R s m args below meth c T locs cells slots) (hx : p.tables.exec = Jvm.exec) (hlk : meth.locks = false) (hret : meth.sig.returnType = some .long) {pc : Nat} {Ls : Array Slot} {z : Int64} {rest : List Value} (hd : decode c.code pc = .ok (.lreturn, 1)) (hC : cells ≤ C) (hS : slots ≤ S) (q : Q (some (.long z)) T.heap locs) :
    Go p e below (KQ s below Q C S) (T.setTop (mkF m pc Ls (.long z :: rest))) := by
  obtain ⟨fs, hr, hrun, hended, hW, hsame⟩ := X.leave (v := some (.long z)) (fun h => by rw [hret] at h; cases h)
  exact ⟨_, _, retOut X hx hret rfl (Or.inr (Or.inl ⟨rfl, rfl, _, rfl⟩)) hd hr, hrun, hended, _, _, rfl, q, ⟨_, rfl⟩, hW, hsame.mono hC hS⟩
/-- return of a double -/
theorem Go.retD {Q : Option Value → Heap → List Loc → Prop} {C S : Nat} (X : Stand p l e R s m args below meth c T locs cells slots) (hx : p.tables.exec = Jvm.exec) (hlk : meth.locks = false) (hret : meth.sig.returnType = some .double) {pc : Nat} {Ls : Array Slot} {z : UInt64} {rest : List Value} (hd : decode c.code pc = .ok (.dreturn, 1)) (hC : cells ≤ C) (hS : slots ≤ S) (q : Q (some (.double z)) T.heap locs) :
    Go p e below (KQ s below Q C S) (T.setTop (mkF m pc Ls (.double z :: rest))) := by
  obtain ⟨fs, hr, hrun, hended, hW, hsame⟩ := X.leave (v := some (.double z)) (fun h => by rw [hret] at h; cases h)
  exact ⟨_, _, retOut X hx hret rfl (Or.inr (Or.inr (Or.inl ⟨rfl, rfl, _, rfl⟩))) hd hr, hrun, hended, _, _, rfl, q, ⟨_, rfl⟩, hW, hsame.mono hC hS⟩
theorem g_iloadN {K : State → Outcome → Prop} (X : Stand p l e R s m args below meth c T locs cells slots) (hx : p.tables.exec = Jvm.exec) {pc : Nat} {L : Array Slot} {S : List Value} {k : Fin 4} {v : Int32} (hd : decode c.code pc = .ok (.iload_n k, 1)) (pc' : Nat) (hp : pc + 1 = pc') (hl : L[k.val]? = some (.val (.int v))) (r : Go p e below K (T.setTop (mkF m pc' L (.int v :: S)))) : Go p e below K (T.setTop (mkF m pc L S)) := by
  subst hp
  exact Go.st (fun _ => XS.iloadN X.here hx rfl hd hl) r
theorem g_iload {K : State → Outcome → Prop} (X : Stand p l e R s m args below meth c T locs cells slots) (hx : p.tables.exec = Jvm.exec) {pc : Nat} {L : Array Slot} {S : List Value} {k : Nat} {v : Int32} (hd : decode c.code pc = .ok (.iload k, 2)) (pc' : Nat) (hp : pc + 2 = pc') (hl : L[k]? = some (.val (.int v))) (r : Go p e below K (T.setTop (mkF m pc' L (.int v :: S)))) : Go p e below K (T.setTop (mkF m pc L S)) := by
  subst hp
  exact Go.st (fun _ => XS.iload X.here hx rfl hd hl) r
theorem g_aloadN {K : State → Outcome → Prop} (X : Stand p l e R s m args below meth c T locs cells slots) (hx : p.tables.exec = Jvm.exec) {pc : Nat} {L : Array Slot} {S : List Value} {k : Fin 4} {v : Value} (hd : decode c.code pc = .ok (.aload_n k, 1)) (pc' : Nat) (hp : pc + 1 = pc') (hl : L[k.val]? = some (.val v)) (hv : v.isRef = true) (r : Go p e below K (T.setTop (mkF m pc' L (v :: S)))) : Go p e below K (T.setTop (mkF m pc L S)) := by
  subst hp
  exact Go.st (fun _ => XS.aloadN X.here hx rfl hd hl hv) r
theorem g_aload {K : State → Outcome → Prop} (X : Stand p l e R s m args below meth c T locs cells slots) (hx : p.tables.exec = Jvm.exec) {pc : Nat} {L : Array Slot} {S : List Value} {k : Nat} {v : Value} (hd : decode c.code pc = .ok (.aload k, 2)) (pc' : Nat) (hp : pc + 2 = pc') (hl : L[k]? = some (.val v)) (hv : v.isRef = true) (r : Go p e below K (T.setTop (mkF m pc' L (v :: S)))) : Go p e below K (T.setTop (mkF m pc L S)) := by
  subst hp
  exact Go.st (fun _ => XS.aload X.here hx rfl hd hl hv) r
theorem g_istoreN {K : State → Outcome → Prop} (X : Stand p l e R s m args below meth c T locs cells slots) (hx : p.tables.exec = Jvm.exec) {pc : Nat} {L : Array Slot} {S : List Value} {k : Fin 4} {v : Int32} (hd : decode c.code pc = .ok (.istore_n k, 1)) (pc' : Nat) (hp : pc + 1 = pc') (L' : Array Slot) (hl : storeLocals L k.val (.int v) = some L') (r : Go p e below K (T.setTop (mkF m pc' L' S))) : Go p e below K (T.setTop (mkF m pc L (.int v :: S))) := by
  subst hp
  exact Go.st (fun _ => XS.istoreN X.here hx rfl hd rfl hl) r
theorem g_istore {K : State → Outcome → Prop} (X : Stand p l e R s m args below meth c T locs cells slots) (hx : p.tables.exec = Jvm.exec) {pc : Nat} {L : Array Slot} {S : List Value} {k : Nat} {v : Int32} (hd : decode c.code pc = .ok (.istore k, 2)) (pc' : Nat) (hp : pc + 2 = pc') (L' : Array Slot) (hl : storeLocals L k (.int v) = some L') (r : Go p e below K (T.setTop (mkF m pc' L' S))) : Go p e below K (T.setTop (mkF m pc L (.int v :: S))) := by
  subst hp
  exact Go.st (fun _ => XS.istore X.here hx rfl hd rfl hl) r
theorem g_astoreN {K : State → Outcome → Prop} (X : Stand p l e R s m args below meth c T locs cells slots) (hx : p.tables.exec = Jvm.exec) {pc : Nat} {L : Array Slot} {S : List Value} {k : Fin 4} {v : Value} (hd : decode c.code pc = .ok (.astore_n k, 1)) (pc' : Nat) (hp : pc + 1 = pc') (hv : v.isRef = true) (L' : Array Slot) (hl : storeLocals L k.val v = some L') (r : Go p e below K (T.setTop (mkF m pc' L' S))) : Go p e below K (T.setTop (mkF m pc L (v :: S))) := by
  subst hp
  exact Go.st (fun _ => XS.astoreN X.here hx rfl hd rfl hv hl) r
theorem g_astore {K : State → Outcome → Prop} (X : Stand p l e R s m args below meth c T locs cells slots) (hx : p.tables.exec = Jvm.exec) {pc : Nat} {L : Array Slot} {S : List Value} {k : Nat} {v : Value} (hd : decode c.code pc = .ok (.astore k, 2)) (pc' : Nat) (hp : pc + 2 = pc') (hv : v.isRef = true) (L' : Array Slot) (hl : storeLocals L k v = some L') (r : Go p e below K (T.setTop (mkF m pc' L' S))) : Go p e below K (T.setTop (mkF m pc L (v :: S))) := by
  subst hp
  exact Go.st (fun _ => XS.astore X.here hx rfl hd rfl hv hl) r
theorem g_iconst {K : State → Outcome → Prop} (X : Stand p l e R s m args below meth c T locs cells slots) (hx : p.tables.exec = Jvm.exec) {pc : Nat} {L : Array Slot} {S : List Value} {i : Int} (hd : decode c.code pc = .ok (.iconst i, 1)) (pc' : Nat) (hp : pc + 1 = pc') (z : Int32) (hz : Int32.ofInt i = z) (r : Go p e below K (T.setTop (mkF m pc' L (.int z :: S)))) : Go p e below K (T.setTop (mkF m pc L S)) := by
  subst hp; subst hz
  exact Go.st (fun _ => XS.iconst X.here hx rfl hd) r
theorem g_bipush {K : State → Outcome → Prop} (X : Stand p l e R s m args below meth c T locs cells slots) (hx : p.tables.exec = Jvm.exec) {pc : Nat} {L : Array Slot} {S : List Value} {i : Int} (hd : decode c.code pc = .ok (.bipush i, 2)) (pc' : Nat) (hp : pc + 2 = pc') (z : Int32) (hz : (Int8.ofInt i).toInt32 = z) (r : Go p e below K (T.setTop (mkF m pc' L (.int z :: S)))) : Go p e below K (T.setTop (mkF m pc L S)) := by
  subst hp; subst hz
  exact Go.st (fun _ => XS.bipush X.here hx rfl hd) r
theorem g_sipush {K : State → Outcome → Prop} (X : Stand p l e R s m args below meth c T locs cells slots) (hx : p.tables.exec = Jvm.exec) {pc : Nat} {L : Array Slot} {S : List Value} {i : Int} (hd : decode c.code pc = .ok (.sipush i, 3)) (pc' : Nat) (hp : pc + 3 = pc') (z : Int32) (hz : (Int16.ofInt i).toInt32 = z) (r : Go p e below K (T.setTop (mkF m pc' L (.int z :: S)))) : Go p e below K (T.setTop (mkF m pc L S)) := by
  subst hp; subst hz
  exact Go.st (fun _ => XS.sipush X.here hx rfl hd) r
theorem g_iadd {K : State → Outcome → Prop} (X : Stand p l e R s m args below meth c T locs cells slots) (hx : p.tables.exec = Jvm.exec) {pc : Nat} {L : Array Slot} {S : List Value} {x y : Int32} (hd : decode c.code pc = .ok (.iadd, 1)) (pc' : Nat) (hp : pc + 1 = pc') (z : Int32) (hz : x + y = z) (r : Go p e below K (T.setTop (mkF m pc' L (.int z :: S)))) : Go p e below K (T.setTop (mkF m pc L (.int y :: .int x :: S))) := by
  subst hp; subst hz
  exact Go.st (fun _ => XS.iadd X.here hx rfl hd rfl) r
theorem g_imul {K : State → Outcome → Prop} (X : Stand p l e R s m args below meth c T locs cells slots) (hx : p.tables.exec = Jvm.exec) {pc : Nat} {L : Array Slot} {S : List Value} {x y : Int32} (hd : decode c.code pc = .ok (.imul, 1)) (pc' : Nat) (hp : pc + 1 = pc') (z : Int32) (hz : x * y = z) (r : Go p e below K (T.setTop (mkF m pc' L (.int z :: S)))) : Go p e below K (T.setTop (mkF m pc L (.int y :: .int x :: S))) := by
  subst hp; subst hz
  exact Go.st (fun _ => XS.imul X.here hx rfl hd rfl) r
theorem g_iand {K : State → Outcome → Prop} (X : Stand p l e R s m args below meth c T locs cells slots) (hx : p.tables.exec = Jvm.exec) {pc : Nat} {L : Array Slot} {S : List Value} {x y : Int32} (hd : decode c.code pc = .ok (.iand, 1)) (pc' : Nat) (hp : pc + 1 = pc') (z : Int32) (hz : x &&& y = z) (r : Go p e below K (T.setTop (mkF m pc' L (.int z :: S)))) : Go p e below K (T.setTop (mkF m pc L (.int y :: .int x :: S))) := by
  subst hp; subst hz
  exact Go.st (fun _ => XS.iand X.here hx rfl hd rfl) r
theorem g_ixor {K : State → Outcome → Prop} (X : Stand p l e R s m args below meth c T locs cells slots) (hx : p.tables.exec = Jvm.exec) {pc : Nat} {L : Array Slot} {S : List Value} {x y : Int32} (hd : decode c.code pc = .ok (.ixor, 1)) (pc' : Nat) (hp : pc + 1 = pc') (z : Int32) (hz : x ^^^ y = z) (r : Go p e below K (T.setTop (mkF m pc' L (.int z :: S)))) : Go p e below K (T.setTop (mkF m pc L (.int y :: .int x :: S))) := by
  subst hp; subst hz
  exact Go.st (fun _ => XT.ixor X.here hx rfl hd rfl) r
theorem g_ishr {K : State → Outcome → Prop} (X : Stand p l e R s m args below meth c T locs cells slots) (hx : p.tables.exec = Jvm.exec) {pc : Nat} {L : Array Slot} {S : List Value} {x y : Int32} (hd : decode c.code pc = .ok (.ishr, 1)) (pc' : Nat) (hp : pc + 1 = pc') (z : Int32) (hz : x >>> (y &&& 31) = z) (r : Go p e below K (T.setTop (mkF m pc' L (.int z :: S)))) : Go p e below K (T.setTop (mkF m pc L (.int y :: .int x :: S))) := by
  subst hp; subst hz
  exact Go.st (fun _ => XT.ishr X.here hx rfl hd rfl) r
theorem g_i2b {K : State → Outcome → Prop} (X : Stand p l e R s m args below meth c T locs cells slots) (hx : p.tables.exec = Jvm.exec) {pc : Nat} {L : Array Slot} {S : List Value} {x : Int32} (hd : decode c.code pc = .ok (.i2b, 1)) (pc' : Nat) (hp : pc + 1 = pc') (z : Int32) (hz : x.toInt8.toInt32 = z) (r : Go p e below K (T.setTop (mkF m pc' L (.int z :: S)))) : Go p e below K (T.setTop (mkF m pc L (.int x :: S))) := by
  subst hp; subst hz
  exact Go.st (fun _ => XT.i2b X.here hx rfl hd rfl) r
theorem g_i2c {K : State → Outcome → Prop} (X : Stand p l e R s m args below meth c T locs cells slots) (hx : p.tables.exec = Jvm.exec) {pc : Nat} {L : Array Slot} {S : List Value} {x : Int32} (hd : decode c.code pc = .ok (.i2c, 1)) (pc' : Nat) (hp : pc + 1 = pc') (z : Int32) (hz : x.toUInt32.toUInt16.toUInt32.toInt32 = z) (r : Go p e below K (T.setTop (mkF m pc' L (.int z :: S)))) : Go p e below K (T.setTop (mkF m pc L (.int x :: S))) := by
  subst hp; subst hz
  exact Go.st (fun _ => XT.i2c X.here hx rfl hd rfl) r
theorem g_iinc {K : State → Outcome → Prop} (X : Stand p l e R s m args below meth c T locs cells slots) (hx : p.tables.exec = Jvm.exec) {pc : Nat} {L : Array Slot} {S : List Value} {k : Nat} {i : Int} {x : Int32} (hd : decode c.code pc = .ok (.iinc k i, 3)) (pc' : Nat) (hp : pc + 3 = pc') (hl : L[k]? = some (.val (.int x))) (z : Int32) (hz : x + Int32.ofInt i = z) (L' : Array Slot) (hl' : storeLocals L k (.int z) = some L') (r : Go p e below K (T.setTop (mkF m pc' L' S))) : Go p e below K (T.setTop (mkF m pc L S)) := by
  subst hp; subst hz
  exact Go.st (fun _ => XS.iinc X.here hx rfl hd hl hl') r
theorem g_dup {K : State → Outcome → Prop} (X : Stand p l e R s m args below meth c T locs cells slots) (hx : p.tables.exec = Jvm.exec) {pc : Nat} {L : Array Slot} {S : List Value} {x : Value} (hd : decode c.code pc = .ok (.dup, 1)) (pc' : Nat) (hp : pc + 1 = pc') (hc : x.category = 1) (r : Go p e below K (T.setTop (mkF m pc' L (x :: x :: S)))) : Go p e below K (T.setTop (mkF m pc L (x :: S))) := by
  subst hp
  exact Go.st (fun _ => XS.dup X.here hx rfl hd rfl hc) r
theorem g_pop {K : State → Outcome → Prop} (X : Stand p l e R s m args below meth c T locs cells slots) (hx : p.tables.exec = Jvm.exec) {pc : Nat} {L : Array Slot} {S : List Value} {x : Value} (hd : decode c.code pc = .ok (.pop, 1)) (pc' : Nat) (hp : pc + 1 = pc') (hc : x.category = 1) (r : Go p e below K (T.setTop (mkF m pc' L S))) : Go p e below K (T.setTop (mkF m pc L (x :: S))) := by
  subst hp
  exact Go.st (fun _ => XT.pop X.here hx rfl hd rfl hc) r
theorem g_dupx1 {K : State → Outcome → Prop} (X : Stand p l e R s m args below meth c T locs cells slots) (hx : p.tables.exec = Jvm.exec) {pc : Nat} {L : Array Slot} {S : List Value} {x y : Value} (hd : decode c.code pc = .ok (.dup_x1, 1)) (pc' : Nat) (hp : pc + 1 = pc') (hc : x.category = 1) (hc' : y.category = 1) (r : Go p e below K (T.setTop (mkF m pc' L (x :: y :: x :: S)))) : Go p e below K (T.setTop (mkF m pc L (x :: y :: S))) := by
  subst hp
  exact Go.st (fun _ => XT.dupX1 X.here hx rfl hd rfl hc hc') r
theorem g_goto {K : State → Outcome → Prop} (X : Stand p l e R s m args below meth c T locs cells slots) (hx : p.tables.exec = Jvm.exec) {pc : Nat} {L : Array Slot} {S : List Value} {o : Int} (hd : decode c.code pc = .ok (.goto o, 3)) (pc' : Nat) (h0 : 0 ≤ (pc : Int) + o) (hp : ((pc : Int) + o).toNat = pc') (r : Go p e below K (T.setTop (mkF m pc' L S))) : Go p e below K (T.setTop (mkF m pc L S)) :=
  Go.st (fun _ => XS.goto X.here hx rfl (pc0 := pc) rfl hd h0 hp) r
theorem g_icmp {K : State → Outcome → Prop} (X : Stand p l e R s m args below meth c T locs cells slots) (hx : p.tables.exec = Jvm.exec) {pc : Nat} {L : Array Slot} {S : List Value} {cd : ClassFile.Cond} {o : Int} {x y : Int32} (hd : decode c.code pc = .ok (.if_icmp cd o, 3)) (pc1 pc2 : Nat) (h0 : 0 ≤ (pc : Int) + o) (h1 : ((pc : Int) + o).toNat = pc1) (h2 : pc + 3 = pc2) (yes : if_icmp.holds cd x y = true → Go p e below K (T.setTop (mkF m pc1 L S))) (no : if_icmp.holds cd x y = false → Go p e below K (T.setTop (mkF m pc2 L S))) : Go p e below K (T.setTop (mkF m pc L (.int y :: .int x :: S))) := by
  subst h2
  cases hc : if_icmp.holds cd x y with
  | true => exact Go.st (fun _ => XS.icmpYes X.here hx rfl (pc0 := pc) rfl hd rfl hc h0 h1) (yes hc)
  | false => exact Go.st (fun _ => XS.icmpNo X.here hx rfl hd rfl hc) (no hc)
theorem g_if {K : State → Outcome → Prop} (X : Stand p l e R s m args below meth c T locs cells slots) (hx : p.tables.exec = Jvm.exec) {pc : Nat} {L : Array Slot} {S : List Value} {cd : ClassFile.Cond} {o : Int} {x : Int32} (hd : decode c.code pc = .ok (.ifCond cd o, 3)) (pc1 pc2 : Nat) (h0 : 0 ≤ (pc : Int) + o) (h1 : ((pc : Int) + o).toNat = pc1) (h2 : pc + 3 = pc2) (yes : if_icmp.holds cd x 0 = true → Go p e below K (T.setTop (mkF m pc1 L S))) (no : if_icmp.holds cd x 0 = false → Go p e below K (T.setTop (mkF m pc2 L S))) : Go p e below K (T.setTop (mkF m pc L (.int x :: S))) := by
  subst h2
  cases hc : if_icmp.holds cd x 0 with
  | true => exact Go.st (fun _ => XS.ifYes X.here hx rfl (pc0 := pc) rfl hd rfl ((if0 cd x).trans hc) h0 h1) (yes hc)
  | false => exact Go.st (fun _ => XS.ifNo X.here hx rfl hd rfl ((if0 cd x).trans hc)) (no hc)
theorem g_if_eq {K : State → Outcome → Prop} (X : Stand p l e R s m args below meth c T locs cells slots) (hx : p.tables.exec = Jvm.exec) {pc : Nat} {L : Array Slot} {S : List Value} {o : Int} {x : Int32} (hd : decode c.code pc = .ok (.ifCond .eq o, 3)) (pc1 pc2 : Nat) (h0 : 0 ≤ (pc : Int) + o) (h1 : ((pc : Int) + o).toNat = pc1) (h2 : pc + 3 = pc2) (yes : x = (0 : Int32) → Go p e below K (T.setTop (mkF m pc1 L S))) (no : ¬ x = (0 : Int32) → Go p e below K (T.setTop (mkF m pc2 L S))) : Go p e below K (T.setTop (mkF m pc L (.int x :: S))) := by
  refine g_if X hx hd pc1 pc2 h0 h1 h2 (fun hc => ?_) (fun hc => ?_)
  · by_cases q : x = (0 : Int32)
    · exact yes q
    · rw [(feq q).1] at hc; cases hc
  · by_cases q : x = (0 : Int32)
    · rw [(teq q).1] at hc; cases hc
    · exact no q
theorem g_icmp_ne {K : State → Outcome → Prop} (X : Stand p l e R s m args below meth c T locs cells slots) (hx : p.tables.exec = Jvm.exec) {pc : Nat} {L : Array Slot} {S : List Value} {o : Int} {x y : Int32} (hd : decode c.code pc = .ok (.if_icmp .ne o, 3)) (pc1 pc2 : Nat) (h0 : 0 ≤ (pc : Int) + o) (h1 : ((pc : Int) + o).toNat = pc1) (h2 : pc + 3 = pc2) (yes : ¬ x = y → Go p e below K (T.setTop (mkF m pc1 L S))) (no : x = y → Go p e below K (T.setTop (mkF m pc2 L S))) : Go p e below K (T.setTop (mkF m pc L (.int y :: .int x :: S))) := by
  refine g_icmp X hx hd pc1 pc2 h0 h1 h2 (fun hc => ?_) (fun hc => ?_)
  · by_cases q : x = y
    · rw [(teq q).2] at hc; cases hc
    · exact yes q
  · by_cases q : x = y
    · exact no q
    · rw [(feq q).2] at hc; cases hc
theorem g_if_ne {K : State → Outcome → Prop} (X : Stand p l e R s m args below meth c T locs cells slots) (hx : p.tables.exec = Jvm.exec) {pc : Nat} {L : Array Slot} {S : List Value} {o : Int} {x : Int32} (hd : decode c.code pc = .ok (.ifCond .ne o, 3)) (pc1 pc2 : Nat) (h0 : 0 ≤ (pc : Int) + o) (h1 : ((pc : Int) + o).toNat = pc1) (h2 : pc + 3 = pc2) (yes : ¬ x = (0 : Int32) → Go p e below K (T.setTop (mkF m pc1 L S))) (no : x = (0 : Int32) → Go p e below K (T.setTop (mkF m pc2 L S))) : Go p e below K (T.setTop (mkF m pc L (.int x :: S))) := by
  refine g_if X hx hd pc1 pc2 h0 h1 h2 (fun hc => ?_) (fun hc => ?_)
  · by_cases q : x = (0 : Int32)
    · rw [(teq q).2] at hc; cases hc
    · exact yes q
  · by_cases q : x = (0 : Int32)
    · exact no q
    · rw [(feq q).2] at hc; cases hc
theorem g_icmp_lt {K : State → Outcome → Prop} (X : Stand p l e R s m args below meth c T locs cells slots) (hx : p.tables.exec = Jvm.exec) {pc : Nat} {L : Array Slot} {S : List Value} {o : Int} {x y : Int32} (hd : decode c.code pc = .ok (.if_icmp .lt o, 3)) (pc1 pc2 : Nat) (h0 : 0 ≤ (pc : Int) + o) (h1 : ((pc : Int) + o).toNat = pc1) (h2 : pc + 3 = pc2) (yes : x < y → Go p e below K (T.setTop (mkF m pc1 L S))) (no : ¬ x < y → Go p e below K (T.setTop (mkF m pc2 L S))) : Go p e below K (T.setTop (mkF m pc L (.int y :: .int x :: S))) := by
  refine g_icmp X hx hd pc1 pc2 h0 h1 h2 (fun hc => ?_) (fun hc => ?_)
  · by_cases q : x < y
    · exact yes q
    · rw [(flt q).1] at hc; cases hc
  · by_cases q : x < y
    · rw [(tlt q).1] at hc; cases hc
    · exact no q
theorem g_if_lt {K : State → Outcome → Prop} (X : Stand p l e R s m args below meth c T locs cells slots) (hx : p.tables.exec = Jvm.exec) {pc : Nat} {L : Array Slot} {S : List Value} {o : Int} {x : Int32} (hd : decode c.code pc = .ok (.ifCond .lt o, 3)) (pc1 pc2 : Nat) (h0 : 0 ≤ (pc : Int) + o) (h1 : ((pc : Int) + o).toNat = pc1) (h2 : pc + 3 = pc2) (yes : x < (0 : Int32) → Go p e below K (T.setTop (mkF m pc1 L S))) (no : ¬ x < (0 : Int32) → Go p e below K (T.setTop (mkF m pc2 L S))) : Go p e below K (T.setTop (mkF m pc L (.int x :: S))) := by
  refine g_if X hx hd pc1 pc2 h0 h1 h2 (fun hc => ?_) (fun hc => ?_)
  · by_cases q : x < (0 : Int32)
    · exact yes q
    · rw [(flt q).1] at hc; cases hc
  · by_cases q : x < (0 : Int32)
    · rw [(tlt q).1] at hc; cases hc
    · exact no q
theorem g_icmp_ge {K : State → Outcome → Prop} (X : Stand p l e R s m args below meth c T locs cells slots) (hx : p.tables.exec = Jvm.exec) {pc : Nat} {L : Array Slot} {S : List Value} {o : Int} {x y : Int32} (hd : decode c.code pc = .ok (.if_icmp .ge o, 3)) (pc1 pc2 : Nat) (h0 : 0 ≤ (pc : Int) + o) (h1 : ((pc : Int) + o).toNat = pc1) (h2 : pc + 3 = pc2) (yes : ¬ x < y → Go p e below K (T.setTop (mkF m pc1 L S))) (no : x < y → Go p e below K (T.setTop (mkF m pc2 L S))) : Go p e below K (T.setTop (mkF m pc L (.int y :: .int x :: S))) := by
  refine g_icmp X hx hd pc1 pc2 h0 h1 h2 (fun hc => ?_) (fun hc => ?_)
  · by_cases q : x < y
    · rw [(tlt q).2.1] at hc; cases hc
    · exact yes q
  · by_cases q : x < y
    · exact no q
    · rw [(flt q).2.1] at hc; cases hc
theorem g_icmp_gt {K : State → Outcome → Prop} (X : Stand p l e R s m args below meth c T locs cells slots) (hx : p.tables.exec = Jvm.exec) {pc : Nat} {L : Array Slot} {S : List Value} {o : Int} {x y : Int32} (hd : decode c.code pc = .ok (.if_icmp .gt o, 3)) (pc1 pc2 : Nat) (h0 : 0 ≤ (pc : Int) + o) (h1 : ((pc : Int) + o).toNat = pc1) (h2 : pc + 3 = pc2) (yes : y < x → Go p e below K (T.setTop (mkF m pc1 L S))) (no : ¬ y < x → Go p e below K (T.setTop (mkF m pc2 L S))) : Go p e below K (T.setTop (mkF m pc L (.int y :: .int x :: S))) := by
  refine g_icmp X hx hd pc1 pc2 h0 h1 h2 (fun hc => ?_) (fun hc => ?_)
  · by_cases q : y < x
    · exact yes q
    · rw [(flt q).2.2.1] at hc; cases hc
  · by_cases q : y < x
    · rw [(tlt q).2.2.1] at hc; cases hc
    · exact no q
theorem g_icmp_le {K : State → Outcome → Prop} (X : Stand p l e R s m args below meth c T locs cells slots) (hx : p.tables.exec = Jvm.exec) {pc : Nat} {L : Array Slot} {S : List Value} {o : Int} {x y : Int32} (hd : decode c.code pc = .ok (.if_icmp .le o, 3)) (pc1 pc2 : Nat) (h0 : 0 ≤ (pc : Int) + o) (h1 : ((pc : Int) + o).toNat = pc1) (h2 : pc + 3 = pc2) (yes : ¬ y < x → Go p e below K (T.setTop (mkF m pc1 L S))) (no : y < x → Go p e below K (T.setTop (mkF m pc2 L S))) : Go p e below K (T.setTop (mkF m pc L (.int y :: .int x :: S))) := by
  refine g_icmp X hx hd pc1 pc2 h0 h1 h2 (fun hc => ?_) (fun hc => ?_)
  · by_cases q : y < x
    · rw [(tlt q).2.2.2] at hc; cases hc
    · exact yes q
  · by_cases q : y < x
    · exact no q
    · rw [(flt q).2.2.2] at hc; cases hc
theorem g_acmp_eq {K : State → Outcome → Prop} (X : Stand p l e R s m args below meth c T locs cells slots) (hx : p.tables.exec = Jvm.exec) {pc : Nat} {L : Array Slot} {S : List Value} {o : Int} {x y : Value} (hd : decode c.code pc = .ok (.if_acmp .eq o, 3)) (pc1 pc2 : Nat) (h0 : 0 ≤ (pc : Int) + o) (h1 : ((pc : Int) + o).toNat = pc1) (h2 : pc + 3 = pc2) (hx' : x.isRef = true) (hy' : y.isRef = true) (yes : x = y → Go p e below K (T.setTop (mkF m pc1 L S))) (no : ¬ x = y → Go p e below K (T.setTop (mkF m pc2 L S))) : Go p e below K (T.setTop (mkF m pc L (y :: x :: S))) := by
  subst h2
  by_cases q : x = y
  · exact Go.st (fun _ => XT.acmpYes X.here hx rfl (pc0 := pc) rfl hd rfl hx' hy' (by simp [XT.acmp, q]) h0 h1) (yes q)
  · exact Go.st (fun _ => XT.acmpNo X.here hx rfl hd rfl hx' hy' (by simp [XT.acmp, q])) (no q)
theorem g_alen {K : State → Outcome → Prop} {Z : State} {h : Heap} {a : Addr} {k : ClassId} {ty : FieldType} {z : Int32} {vs : List Value} {dv : Value} (X : Stand p l e R s m args below meth c T locs cells slots) (hx : p.tables.exec = Jvm.exec) {pc : Nat} {L : Array Slot} {S : List Value} (hd : decode c.code pc = .ok (.arraylength, 1)) (pc' : Nat) (hp : pc + 1 = pc') (hZ : Z.Warmed39 s.vm) (eT : T.heap = h) (F : Arv Z h a k ty z vs dv) (r : Go p e below K (T.setTop (mkF m pc' L (.int z :: S)))) : Go p e below K (T.setTop (mkF m pc L (.ref a :: S))) := by
  subst hp
  obtain ⟨cl, A, r1, r2, r3, Hh, Gg⟩ := F
  refine Go.st (X.arraylength hx (by rw [eT]; exact A.1) (State.isArrayOf_alike hZ.alike A.2.1) (g := mkF m pc L (.ref a :: S)) rfl rfl hd) ?_
  rw [len_of r2 r3]
  exact r
theorem g_baload {K : State → Outcome → Prop} {Z : State} {h : Heap} {a : Addr} {k : ClassId} {z : Int32} {vs : List Value} {dv : Value} (X : Stand p l e R s m args below meth c T locs cells slots) (hx : p.tables.exec = Jvm.exec) {pc : Nat} {L : Array Slot} {S : List Value} {j : Int32} (hd : decode c.code pc = .ok (.baload, 1)) (pc' : Nat) (hp : pc + 1 = pc') (hZ : Z.Warmed39 s.vm) (eT : T.heap = h) (F : Arv Z h a k .byte z vs dv) (q : ¬ j < 0 ∧ j < z) (v : Value) (u : vs.getD j.toNatClampNeg dv = v) (r : Go p e below K (T.setTop (mkF m pc' L (v :: S)))) : Go p e below K (T.setTop (mkF m pc L (.int j :: .ref a :: S))) := by
  subst hp
  obtain ⟨cl, A, r1, r2, r3, Hh, Gg⟩ := F
  exact Go.st (X.baloadBytes hx (by rw [eT]; exact A.1) (State.isArrayOf_alike hZ.alike A.2.1) A.2.2 (inb_of r2 q) (Hh.at (inb_of r2 q) u) (g := mkF m pc L (.int j :: .ref a :: S)) rfl rfl hd) r
theorem g_bastore {Z : State} {h : Heap} {a : Addr} {k : ClassId} {z : Int32} {vs : List Value} {dv : Value} (X : Stand p l e R s m args below meth c T locs cells slots) (hx : p.tables.exec = Jvm.exec) {pc : Nat} {L : Array Slot} {S : List Value} {j : Int32} {x : Int32} (hd : decode c.code pc = .ok (.bastore, 1)) (hZ : Z.Warmed39 s.vm) (eT : T.heap = h) (F : Arv Z h a k .byte z vs dv) (q : ¬ j < 0 ∧ j < z) {i : Nat} (hj : j.toNatClampNeg = i) (hi : i < vs.length) :
    ∃ T' h', Stand p l e R s m args below meth c T' (locs ++ [⟨a, j.toNatClampNeg⟩]) cells slots ∧ T'.heap = h' ∧ Wr h h' a j.toNatClampNeg (.int (nar .byte x)) ∧ Arv Z h' a k .byte z (vs.set i (.int (nar .byte x))) dv ∧ ∀ target, Steps p.tables e below (T'.setTop (mkF m (pc + 1) L S)) target → Steps p.tables e below (T.setTop (mkF m pc L (.int x :: .int j :: .ref a :: S))) target := by
  obtain ⟨cl, A, r1, r2, r3, Hh, Gg⟩ := F
  obtain ⟨T', h', X', e', W', st⟩ := stB X hx hZ eT A (inb_of r2 q) (g := mkF m pc L (.int x :: .int j :: .ref a :: S)) rfl rfl hd
  exact ⟨T', h', X', e', W', Arv.set A r1 r2 r3 Hh Gg (own_fits_nar .byte x (by simp)) W' i hj hi, st⟩
end Layer
theorem own_i2b (x : Int32) : nar .byte x.toInt8.toInt32 = x.toInt8.toInt32 := by
  show x.toInt8.toInt32.toInt8.toInt32 = x.toInt8.toInt32
  rw [Int8.toInt8_toInt32]
theorem own_ch (x : Int32) : ¬ (255 : Int32) < (x &&& (255 : Int32)).toUInt32.toUInt16.toUInt32.toInt32 := by
  have h1 := c_and x (255 : Int32) (by decide)
  have h2 := c_i2c (x &&& (255 : Int32))
  have e1 : (255 : Int32).toInt = 255 := by decide
  rw [Int32.lt_iff_toInt_lt, e1]
  omega
theorem own_shr0 (z : Int32) : z >>> ((0 : Int32) &&& 31) = z := by
  have h := c_ishr z (0 : Int32) 0 (by decide)
  rw [← Int32.toInt_inj, h]
  omega
theorem own_chr (x : Int32) : nar .char (x &&& (255 : Int32)).toUInt32.toUInt16.toUInt32.toInt32 = x &&& (255 : Int32) := by
  show (x &&& (255 : Int32)).toUInt32.toUInt16.toUInt32.toInt32.toUInt32.toUInt16.toUInt32.toInt32 = _
  have h1 := c_and x (255 : Int32) (by decide)
  have h2 := c_i2c (x &&& (255 : Int32))
  have h3 := c_i2c ((x &&& (255 : Int32)).toUInt32.toUInt16.toUInt32.toInt32)
  have e1 : (255 : Int32).toInt = 255 := by decide
  rw [← Int32.toInt_inj]
  omega
theorem own_nc (x : Int32) : nar .char (x &&& (255 : Int32)) = x &&& (255 : Int32) := by
  show (x &&& (255 : Int32)).toUInt32.toUInt16.toUInt32.toInt32 = _
  have h1 := c_and x (255 : Int32) (by decide)
  have h2 := c_i2c (x &&& (255 : Int32))
  have e1 : (255 : Int32).toInt = 255 := by decide
  rw [← Int32.toInt_inj]
  omega
theorem own_ofNat {n : Nat} (h : n < 2147483648) : (Int32.ofNat n).toInt = n := Int32.toInt_ofNat_small h
theorem own_clamp (x : Int32) (h : 0 ≤ x.toInt) : (x.toNatClampNeg : Int) = x.toInt := by
  show ((x.toInt).toNat : Int) = x.toInt
  omega
theorem own_cl {n : Nat} (h : n < 2147483648) : (Int32.ofNat n).toNatClampNeg = n := by
  have h1 := own_ofNat h
  have h2 := own_clamp (Int32.ofNat n) (by omega)
  omega
theorem own_in {j N : Nat} (hN : N < 2147483648) (h : j < N) : ¬ Int32.ofNat j < 0 ∧ Int32.ofNat j < Int32.ofNat N := by
  rw [Int32.lt_iff_toInt_lt, Int32.lt_iff_toInt_lt, own_ofNat hN, own_ofNat (by omega)]
  have e0 : (0 : Int32).toInt = 0 := by decide
  omega
theorem own_lt {j N : Nat} (hj : j < 2147483648) (hN : N < 2147483648) (h : Int32.ofNat j < Int32.ofNat N) : j < N := by
  rw [Int32.lt_iff_toInt_lt, own_ofNat hN, own_ofNat hj] at h
  omega
theorem own_eqn {i j : Nat} (hi : i < 2147483648) (hj : j < 2147483648) (h : Int32.ofNat i = Int32.ofNat j) : i = j := by
  rw [← Int32.toInt_inj, own_ofNat hi, own_ofNat hj] at h
  omega
theorem own_up (N : Nat) : Int32.ofNat N + (1 : Int32) = Int32.ofNat (N + 1) := (Int32.ofNat_add N 1).symm
theorem own_nf {N c B : Nat} {p : Int32} (hc : (6 : Int32) * p = Int32.ofNat c) (h : N + c ≤ B) (hB : B < 2147483648) : ¬ Int32.ofNat B < Int32.ofNat N + (6 : Int32) * p := by
  rw [hc, ← Int32.ofNat_add]
  intro z
  have := own_lt (by omega) (by omega) z
  omega
theorem own_snoc {vs : List Value} {N : Nat} (h : vs.length = N) (d v : Value) : (vs ++ List.replicate 1 d).set N v = vs ++ [v] := by
  subst h
  simp [List.set_append_right]
theorem own_take (M n : Nat) (d : Value) (us : List Value) : (List.replicate M d).take 0 ++ us ++ (List.replicate M d).drop (0 + n) = us ++ List.replicate (M - n) d := by simp
theorem own_cpv {vs : List Value} {N : Nat} (d : Value) (h : vs.length = N) (i : Nat) : vs.getD i d = ((List.range N).map (fun i => vs.getD (0 + i) d) ++ List.replicate (N - N) d).getD i d := by
  subst h
  rw [Nat.sub_self, List.replicate_zero, List.append_nil]
  by_cases q : i < vs.length
  · simp [List.getD, q]
  · simp [List.getD, q]
theorem own_len {vs : List Value} {N : Nat} (h : vs.length = N) (v : Value) : (vs ++ [v]).length = N + 1 := by simp [h]
theorem own_b2 (c : Int32) : nar .byte ((c.toInt8.toInt32 &&& (255 : Int32)).toInt8.toInt32) = c.toInt8.toInt32 := by
  show (c.toInt8.toInt32 &&& (255 : Int32)).toInt8.toInt32.toInt8.toInt32 = c.toInt8.toInt32
  have h1 := c_i2b c
  have h2 := c_mask c.toInt8.toInt32 (255 : Int32) 8 (by decide) (by decide)
  have h3 := c_i2b (c.toInt8.toInt32 &&& (255 : Int32))
  have h4 := c_i2b (c.toInt8.toInt32 &&& (255 : Int32)).toInt8.toInt32
  rw [← Int32.toInt_inj]
  omega
theorem own_kn {N k : Nat} {p : Int32} (hn : p = Int32.ofNat N) (hN : N ≤ 7) (hk : k < 100) (h : ¬ p < Int32.ofNat k) : k ≤ N := by
  subst hn
  rcases Nat.lt_or_ge N k with q | q
  · exact absurd (own_in (by omega) q).2 h
  · exact q
theorem own_ch7 (x : Int32) : ¬ (255 : Int32) < (x &&& (127 : Int32)).toUInt32.toUInt16.toUInt32.toInt32 := by
  have h1 := c_and x (127 : Int32) (by decide)
  have h2 := c_i2c (x &&& (127 : Int32))
  have e1 : (255 : Int32).toInt = 255 := by decide
  have e2 : (127 : Int32).toInt = 127 := by decide
  rw [Int32.lt_iff_toInt_lt, e1]
  omega

theorem own_pn_java_lang_StringLatin1 : plainName "java/lang/StringLatin1" = true := by first | (simp [plainName, overriddenIn]; done) | decide +kernel
theorem ef_2 (m : MethodId) (x0 : Int32) : entryFrame m #[(.int x0)] 1 = mkF m 0 #[.val (.int x0)] [] := by first | (simp [entryFrame, mkF, argsToLocals, Value.category]; done) | rfl
theorem d2_0 : decode jdk_43_method_3_code 0 = .ok (.iload_n 0, 1) := by decide +kernel
theorem d2_1 : decode jdk_43_method_3_code 1 = .ok (.sipush 255, 3) := by decide +kernel
theorem d2_4 : decode jdk_43_method_3_code 4 = .ok (.if_icmp .gt 7, 3) := by decide +kernel
theorem d2_7 : decode jdk_43_method_3_code 7 = .ok (.iconst 1, 1) := by decide +kernel
theorem d2_8 : decode jdk_43_method_3_code 8 = .ok (.goto 4, 3) := by decide +kernel
theorem d2_12 : decode jdk_43_method_3_code 12 = .ok (.ireturn, 1) := by decide +kernel
def Q2 (Z : State) (p1 : Int32) (h0 : Heap) (n0 : Nat) (v : Option Value) (h : Heap) (L : List Loc) : Prop := v = some (.int (1 : Int32)) ∧ Fr n0 L ∧ h = h0
set_option maxRecDepth 65536 in
set_option maxHeartbeats 40000000 in
theorem rm2 (l : Launch) (Z : State) (a0 : Array Value) (hw : ∀ d ∈ tables_1, d.before a0 Z = true) (ws : List Jvm.Cond) (p1 : Int32) (h0 : Heap) (n0 : Nat) (Z0 : n0 ≤ h0.size) (hp : ¬ (255 : Int32) < p1) :
    MetFree l (⟨"java/lang/StringLatin1", "canEncode", "(C)Z"⟩ : MethodName) (head1 (Jvm.Cond.code (⟨"java/lang/StringLatin1", "canEncode", "(C)Z"⟩ : MethodName) jdk_43_method_3_code 1 (some .boolean) :: ws) ({ frames := 0, cells := 0, slots := 0, locals := 0 } : Room)) (fun a U => a = #[(.int p1)] ∧ Z.Warmed39 U.vm ∧ U.heap = h0) (fun _ _ _ _ _ => True) (fun _ U o U' => ∃ v L, o = .returned v ∧ Q2 Z p1 h0 n0 v U'.heap L ∧ FrameEnd U o U' L ({ frames := 0, cells := 0, slots := 0, locals := 0 } : Room).cells ({ frames := 0, cells := 0, slots := 0, locals := 0 } : Room).slots) := by
  refine MetFree.of_bodySF (plainFor_of_name own_pn_java_lang_StringLatin1) hisR ?_
  intro p e s m args below meth c s₁ Bd hml0 hP hK
  obtain ⟨rfl, hZ, hh⟩ := hP
  have hx := Bd.exec
  have hby := Bd.bytes
  have hlk := Bd.notSynchronized
  have hml : c.maxLocals = 1 := hml0
  have hown : s.vm.findClass "java/lang/StringLatin1" = some m.cls := findClass_of_methodNamed Bd.named
  have hnm := (name_of_methodNamed Bd.named Bd.method).1
  have X0 : Stand p l e ({ frames := 0, cells := 0, slots := 0, locals := 0 } : Room) s m #[(.int p1)] below meth c s₁ [] 0 0 := Stand.of_body Bd
  have e0 : s₁.heap = h0 := by rw [← hh, Bd.state]; rfl
  have N0 := Fr.nil n0
  show Go p e below (KQ s below (Q2 Z p1 h0 n0) ({ frames := 0, cells := 0, slots := 0, locals := 0 } : Room).cells ({ frames := 0, cells := 0, slots := 0, locals := 0 } : Room).slots) _
  refine Go.body (T := s₁) (σ := s₁) (g' := (mkF m 0 #[.val (.int p1)] [])) (ef_2 m p1) ?_
  refine g_iloadN X0 hx (hb hby d2_0) 1 rfl (v := p1) rfl ?_
  refine g_sipush X0 hx (hb hby d2_1) 4 rfl (255 : Int32) rfl ?_
  refine g_icmp_gt X0 hx (hb hby d2_4) 11 7 (by decide) (by decide) rfl (fun hc4 => False.elim (hp hc4)) (fun hc4 => ?_)
  refine g_iconst X0 hx (hb hby d2_7) 8 rfl (1 : Int32) rfl ?_
  refine g_goto X0 hx (hb hby d2_8) 12 (by decide) (by decide) ?_
  refine Go.retN X0 hx hlk (t := .boolean) Bd.returns (by simp) (hb hby d2_12) (by decide) (by decide) ?_
  show Q2 Z p1 h0 n0 _ s₁.heap _
  rw [e0]
  exact ⟨rfl, N0, rfl⟩
theorem ef_3 (m : MethodId) (x0 : Int32) : entryFrame m #[(.int x0)] 1 = mkF m 0 #[.val (.int x0)] [] := by first | (simp [entryFrame, mkF, argsToLocals, Value.category]; done) | rfl
theorem d3_0 : decode jdk_43_method_46_code 0 = .ok (.iconst 1, 1) := by decide +kernel
theorem d3_1 : decode jdk_43_method_46_code 1 = .ok (.newarray .byte, 2) := by decide +kernel
theorem d3_3 : decode jdk_43_method_46_code 3 = .ok (.dup, 1) := by decide +kernel
theorem d3_4 : decode jdk_43_method_46_code 4 = .ok (.iconst 0, 1) := by decide +kernel
theorem d3_5 : decode jdk_43_method_46_code 5 = .ok (.iload_n 0, 1) := by decide +kernel
theorem d3_6 : decode jdk_43_method_46_code 6 = .ok (.i2b, 1) := by decide +kernel
theorem d3_7 : decode jdk_43_method_46_code 7 = .ok (.bastore, 1) := by decide +kernel
theorem d3_8 : decode jdk_43_method_46_code 8 = .ok (.areturn, 1) := by decide +kernel
def Q3 (Z : State) (p1 : Int32) (h0 : Heap) (n0 : Nat) (v : Option Value) (h : Heap) (L : List Loc) : Prop := ∃ b : Addr, ∃ kb : ClassId, v = some (.ref b) ∧ Fr n0 L ∧ Keep h0 h [] ∧ h0.size ≤ b ∧ (Arv Z h b kb .byte (1 : Int32) ([(.int p1.toInt8.toInt32)]) (.int (0 : Int32)))
set_option maxRecDepth 65536 in
set_option maxHeartbeats 40000000 in
theorem rm3 (l : Launch) (Z : State) (a0 : Array Value) (hw : ∀ d ∈ tables_1, d.before a0 Z = true) (ws : List Jvm.Cond) (p1 : Int32) (h0 : Heap) (n0 : Nat) (Z0 : n0 ≤ h0.size)  :
    MetFree l (⟨"java/lang/StringLatin1", "toBytes", "(C)[B"⟩ : MethodName) (head1 (Jvm.Cond.code (⟨"java/lang/StringLatin1", "toBytes", "(C)[B"⟩ : MethodName) jdk_43_method_46_code 1 (some (.array .byte)) :: ws) ({ frames := 0, cells := 1, slots := 1, locals := 0 } : Room)) (fun a U => a = #[(.int p1)] ∧ Z.Warmed39 U.vm ∧ U.heap = h0) (fun _ _ _ _ _ => True) (fun _ U o U' => ∃ v L, o = .returned v ∧ Q3 Z p1 h0 n0 v U'.heap L ∧ FrameEnd U o U' L ({ frames := 0, cells := 1, slots := 1, locals := 0 } : Room).cells ({ frames := 0, cells := 1, slots := 1, locals := 0 } : Room).slots) := by
  refine MetFree.of_bodySF (plainFor_of_name own_pn_java_lang_StringLatin1) hisR ?_
  intro p e s m args below meth c s₁ Bd hml0 hP hK
  obtain ⟨rfl, hZ, hh⟩ := hP
  have hx := Bd.exec
  have hby := Bd.bytes
  have hlk := Bd.notSynchronized
  have hml : c.maxLocals = 1 := hml0
  have hown : s.vm.findClass "java/lang/StringLatin1" = some m.cls := findClass_of_methodNamed Bd.named
  have hnm := (name_of_methodNamed Bd.named Bd.method).1
  have X0 : Stand p l e ({ frames := 0, cells := 1, slots := 1, locals := 0 } : Room) s m #[(.int p1)] below meth c s₁ [] 0 0 := Stand.of_body Bd
  have e0 : s₁.heap = h0 := by rw [← hh, Bd.state]; rfl
  have N0 := Fr.nil n0
  have K0 : Keep h0 h0 [] := Keep.refl _ _
  show Go p e below (KQ s below (Q3 Z p1 h0 n0) ({ frames := 0, cells := 1, slots := 1, locals := 0 } : Room).cells ({ frames := 0, cells := 1, slots := 1, locals := 0 } : Room).slots) _
  refine Go.body (T := s₁) (σ := s₁) (g' := (mkF m 0 #[.val (.int p1)] [])) (ef_3 m p1) ?_
  refine g_iconst X0 hx (hb hby d3_0) 1 rfl (1 : Int32) rfl ?_
  obtain ⟨T1, h1, cA1, X1, e1, E1, A1, st1⟩ := newP X0 hx hZ (aty := .byte) (hw _ (List.mem_of_getElem? (i := 14) rfl)) e0 (g := (mkF m 1 #[.val (.int p1)] [(.int (1 : Int32))])) rfl (hb hby d3_1) rfl (by decide) (cap := 1) (by decide) (by decide) (by decide) (by decide)
  refine Go.st st1 ?_
  obtain ⟨ob, q1⟩ : ∃ z, z = h0.size := ⟨_, rfl⟩
  rw [← q1] at A1 ⊢
  have g_ob : n0 ≤ ob := Nat.le_trans Z0 (Nat.le_of_eq q1.symm)
  have mh_ob : h0.size ≤ ob := Nat.le_trans K0.1 (Nat.le_of_eq q1.symm)
  have K1 : Keep h0 h1 [] := Keep.ext K0 E1
  have Zs1 : n0 ≤ h1.size := Nat.le_trans Z0 E1.1
  have Av_ob : Arv Z h1 ob cA1 .byte (1 : Int32) ([(.int (0 : Int32))]) (.int (0 : Int32)) := Arv.pad (Arv.new A1 (by decide)) (pad_rep [] (.int (0 : Int32)) 1)
  show Go p e below _ (T1.setTop (mkF m 3 #[.val (.int p1)] [(.ref ob)]))
  refine g_dup X1 hx (hb hby d3_3) 4 rfl rfl ?_
  refine g_iconst X1 hx (hb hby d3_4) 5 rfl (0 : Int32) rfl ?_
  refine g_iloadN X1 hx (hb hby d3_5) 6 rfl (v := p1) rfl ?_
  refine g_i2b X1 hx (hb hby d3_6) 7 rfl p1.toInt8.toInt32 rfl ?_
  obtain ⟨T3, h3, X3, e3, W3, B3, st3⟩ := g_bastore X1 hx (hb hby d3_7) hZ e1 Av_ob (show ¬ (0 : Int32) < 0 ∧ (0 : Int32) < (1 : Int32) from by decide) (i := 0) rfl (by simp)  (L := #[.val (.int p1)]) (S := [(.ref ob)])
  refine Go.st st3 ?_
  have Av_ob_3 : Arv Z h3 ob cA1 .byte (1 : Int32) ([(.int p1.toInt8.toInt32)]) (.int (0 : Int32)) := (own_i2b p1 ▸ B3)
  have K3 : Keep h0 h3 [] := Keep.wr K1 W3 (Or.inr mh_ob)
  have N3 := Fr.snoc X3 N0 g_ob
  have Zs3 : n0 ≤ h3.size := by rw [W3.size]; exact Zs1
  show Go p e below _ (T3.setTop (mkF m 8 #[.val (.int p1)] [(.ref ob)]))
  refine Go.retA X3 hx hlk Bd.returns rfl rfl (hb hby d3_8) (by decide) (by decide) ?_
  show Q3 Z p1 h0 n0 _ T3.heap _
  rw [e3]
  exact ⟨ob, cA1, rfl, N3, K3, mh_ob, Av_ob_3⟩
theorem own_pn_java_lang_String : plainName "java/lang/String" = true := by first | (simp [plainName, overriddenIn]; done) | decide +kernel
theorem ef_4 (m : MethodId) (x0 : Addr) (x1 : Addr) (x2 : Int32) : entryFrame m #[(.ref x0), (.ref x1), (.int x2)] 3 = mkF m 0 #[.val (.ref x0), .val (.ref x1), .val (.int x2)] [] := by first | (simp [entryFrame, mkF, argsToLocals, Value.category]; done) | rfl
theorem d4_0 : decode jdk_42_method_151_code 0 = .ok (.aload_n 0, 1) := by decide +kernel
theorem d4_1 : decode jdk_42_method_151_code 1 = .ok (.invokespecial 1, 3) := by decide +kernel
theorem d4_4 : decode jdk_42_method_151_code 4 = .ok (.aload_n 0, 1) := by decide +kernel
theorem d4_5 : decode jdk_42_method_151_code 5 = .ok (.aload_n 1, 1) := by decide +kernel
theorem d4_6 : decode jdk_42_method_151_code 6 = .ok (.putfield 9, 3) := by decide +kernel
theorem d4_9 : decode jdk_42_method_151_code 9 = .ok (.aload_n 0, 1) := by decide +kernel
theorem d4_10 : decode jdk_42_method_151_code 10 = .ok (.iload_n 2, 1) := by decide +kernel
theorem d4_11 : decode jdk_42_method_151_code 11 = .ok (.putfield 15, 3) := by decide +kernel
theorem d4_14 : decode jdk_42_method_151_code 14 = .ok (.return_, 1) := by decide +kernel
def Q4 (Z : State) (a1 : Addr) (a2 : Addr) (u1 : Value) (u2 : Value) (h0 : Heap) (n0 : Nat) (v : Option Value) (h : Heap) (L : List Loc) : Prop := v = none ∧ Fr n0 L ∧ Keep h0 h [a1] ∧ (Exa Z h a1 "java/lang/String") ∧ (Fld Z h a1 "java/lang/String" "value" "[B" (.ref a2)) ∧ (Fld Z h a1 "java/lang/String" "coder" "B" (.int (0 : Int32)))
set_option maxRecDepth 65536 in
set_option maxHeartbeats 40000000 in
theorem rm4 (l : Launch) (Z : State) (a0 : Array Value) (hw : ∀ d ∈ tables_1, d.before a0 Z = true) (ws : List Jvm.Cond) (a1 : Addr) (a2 : Addr) (u1 : Value) (u2 : Value) (h0 : Heap) (n0 : Nat) (Z0 : n0 ≤ h0.size) (E_a1 : Exa Z h0 a1 "java/lang/String") (g_a1 : n0 ≤ a1) (F_value_a1 : Fld Z h0 a1 "java/lang/String" "value" "[B" u1) (F_coder_a1 : Fld Z h0 a1 "java/lang/String" "coder" "B" u2) :
    MetFree l (⟨"java/lang/String", "<init>", "([BB)V"⟩ : MethodName) (head1 (Jvm.Cond.code (⟨"java/lang/String", "<init>", "([BB)V"⟩ : MethodName) jdk_42_method_151_code 3 none :: ws) ({ frames := 1, cells := 0, slots := 0, locals := 12 } : Room)) (fun a U => a = #[(.ref a1), (.ref a2), (.int (0 : Int32))] ∧ Z.Warmed39 U.vm ∧ U.heap = h0) (fun _ _ _ _ _ => True) (fun _ U o U' => ∃ v L, o = .returned v ∧ Q4 Z a1 a2 u1 u2 h0 n0 v U'.heap L ∧ FrameEnd U o U' L ({ frames := 1, cells := 0, slots := 0, locals := 12 } : Room).cells ({ frames := 1, cells := 0, slots := 0, locals := 12 } : Room).slots) := by
  refine MetFree.of_bodySF (plainFor_of_name own_pn_java_lang_String) hisR ?_
  intro p e s m args below meth c s₁ Bd hml0 hP hK
  obtain ⟨rfl, hZ, hh⟩ := hP
  have hx := Bd.exec
  have hby := Bd.bytes
  have hlk := Bd.notSynchronized
  have hml : c.maxLocals = 3 := hml0
  have hown : s.vm.findClass "java/lang/String" = some m.cls := findClass_of_methodNamed Bd.named
  have hnm := (name_of_methodNamed Bd.named Bd.method).1
  have X0 : Stand p l e ({ frames := 1, cells := 0, slots := 0, locals := 12 } : Room) s m #[(.ref a1), (.ref a2), (.int (0 : Int32))] below meth c s₁ [] 0 0 := Stand.of_body Bd
  have e0 : s₁.heap = h0 := by rw [← hh, Bd.state]; rfl
  have N0 := Fr.nil n0
  have K0 : Keep h0 h0 [a1] := Keep.refl _ _
  show Go p e below (KQ s below (Q4 Z a1 a2 u1 u2 h0 n0) ({ frames := 1, cells := 0, slots := 0, locals := 12 } : Room).cells ({ frames := 1, cells := 0, slots := 0, locals := 12 } : Room).slots) _
  refine Go.body (T := s₁) (σ := s₁) (g' := (mkF m 0 #[.val (.ref a1), .val (.ref a2), .val (.int (0 : Int32))] [])) (ef_4 m a1 a2 (0 : Int32)) ?_
  refine g_aloadN X0 hx (hb hby d4_0) 1 rfl (v := (.ref a1)) rfl rfl ?_
  obtain ⟨T5, X5, e5, st5⟩ := initO X0 hx hZ hown (hw _ (List.mem_of_getElem? (i := 19) rfl)) (hw _ (List.mem_of_getElem? (i := 20) rfl)) (hw _ (List.mem_of_getElem? (i := 21) rfl)) e0 (g := (mkF m 1 #[.val (.ref a1), .val (.ref a2), .val (.int (0 : Int32))] [(.ref a1)])) rfl (by rw [hml]; rfl) rfl (hb hby d4_1) (by decide) (W := 0) (by show 2 * 0 + _ ≤ _; exact Nat.le_of_eq rfl) (by decide)
  refine Go.st st5 ?_
  show Go p e below _ (T5.setTop (mkF m 4 #[.val (.ref a1), .val (.ref a2), .val (.int (0 : Int32))] []))
  refine g_aloadN X5 hx (hb hby d4_4) 5 rfl (v := (.ref a1)) rfl rfl ?_
  refine g_aloadN X5 hx (hb hby d4_5) 6 rfl (v := (.ref a2)) rfl rfl ?_
  obtain ⟨T6, h6, X6, e6, W6, st6⟩ := putF X5 hx hZ hown (host := "") (Or.inl (hw _ (List.mem_of_getElem? (i := 22) rfl))) Via.refl e5 F_value_a1 E_a1 (Or.inr ⟨(hw _ (List.mem_of_getElem? (i := 23) rfl)), rfl, hnm⟩) (hw _ (List.mem_of_getElem? (i := 10) rfl)) (ty := (.array .byte)) (by decide) rfl rfl (g := (mkF m 6 #[.val (.ref a1), .val (.ref a2), .val (.int (0 : Int32))] [(.ref a2), (.ref a1)])) rfl rfl (hb hby d4_6)
  refine Go.st st6 ?_
  have E_a1_7 : Exa Z h6 a1 "java/lang/String" := Exa.wr W6 E_a1
  have F_coder_a1_7 : Fld Z h6 a1 "java/lang/String" "coder" "B" u2 := Fld.other W6 F_coder_a1 (Or.inr (slot_ne (Or.inr (hw _ (List.mem_of_getElem? (i := 25) rfl))) (Or.inr (hw _ (List.mem_of_getElem? (i := 23) rfl))) (by decide) (t := .byte) (t' := (.array .byte)) (by decide) (by decide)))
  have F_value_a1_6w : Fld Z h6 a1 "java/lang/String" "value" "[B" (.ref a2) := Fld.same W6 F_value_a1
  have K6 : Keep h0 h6 [a1] := Keep.wr K0 W6 (Or.inl (List.mem_of_getElem? (i := 0) rfl))
  have N6 := Fr.snoc X6 N0 g_a1
  have Zs6 : n0 ≤ h6.size := by rw [W6.size]; exact Z0
  show Go p e below _ (T6.setTop (mkF m 9 #[.val (.ref a1), .val (.ref a2), .val (.int (0 : Int32))] []))
  refine g_aloadN X6 hx (hb hby d4_9) 10 rfl (v := (.ref a1)) rfl rfl ?_
  refine g_iloadN X6 hx (hb hby d4_10) 11 rfl (v := (0 : Int32)) rfl ?_
  obtain ⟨T8, h8, X8, e8, W8, st8⟩ := putF X6 hx hZ hown (host := "") (Or.inl (hw _ (List.mem_of_getElem? (i := 24) rfl))) Via.refl e6 F_coder_a1_7 E_a1_7 (Or.inr ⟨(hw _ (List.mem_of_getElem? (i := 25) rfl)), rfl, hnm⟩) (hw _ (List.mem_of_getElem? (i := 10) rfl)) (ty := .byte) (by decide) rfl rfl (g := (mkF m 11 #[.val (.ref a1), .val (.ref a2), .val (.int (0 : Int32))] [(.int (0 : Int32)), (.ref a1)])) rfl rfl (hb hby d4_11)
  refine Go.st st8 ?_
  have E_a1_9 : Exa Z h8 a1 "java/lang/String" := Exa.wr W8 E_a1_7
  have F_value_a1_9 : Fld Z h8 a1 "java/lang/String" "value" "[B" (.ref a2) := Fld.other W8 F_value_a1_6w (Or.inr (slot_ne (Or.inr (hw _ (List.mem_of_getElem? (i := 23) rfl))) (Or.inr (hw _ (List.mem_of_getElem? (i := 25) rfl))) (by decide) (t := (.array .byte)) (t' := .byte) (by decide) (by decide)))
  have F_coder_a1_8w : Fld Z h8 a1 "java/lang/String" "coder" "B" (.int (0 : Int32)) := Fld.same W8 F_coder_a1_7
  have K8 : Keep h0 h8 [a1] := Keep.wr K6 W8 (Or.inl (List.mem_of_getElem? (i := 0) rfl))
  have N8 := Fr.snoc X8 N6 g_a1
  have Zs8 : n0 ≤ h8.size := by rw [W8.size]; exact Zs6
  show Go p e below _ (T8.setTop (mkF m 14 #[.val (.ref a1), .val (.ref a2), .val (.int (0 : Int32))] []))
  refine Go.retV X8 hx hlk Bd.returns (hb hby d4_14) (by decide) (by decide) ?_
  show Q4 Z a1 a2 u1 u2 h0 n0 _ T8.heap _
  rw [e8]
  exact ⟨rfl, N8, K8, E_a1_9, F_value_a1_9, F_coder_a1_8w⟩
theorem ef_1 (m : MethodId) (x0 : Int32) : entryFrame m #[(.int x0)] 1 = mkF m 0 #[.val (.int x0)] [] := by first | (simp [entryFrame, mkF, argsToLocals, Value.category]; done) | rfl
theorem d1_0 : decode jdk_42_method_139_code 0 = .ok (.getstatic 38, 3) := by decide +kernel
theorem d1_3 : decode jdk_42_method_139_code 3 = .ok (.ifCond .eq 23, 3) := by decide +kernel
theorem d1_6 : decode jdk_42_method_139_code 6 = .ok (.iload_n 0, 1) := by decide +kernel
theorem own_pd0 : parseMethodDescriptor "(C)Z" = some ⟨[.char], some .boolean⟩ := by decide +kernel
theorem d1_7 : decode jdk_42_method_139_code 7 = .ok (.invokestatic 1015, 3) := by decide +kernel
theorem d1_10 : decode jdk_42_method_139_code 10 = .ok (.ifCond .eq 16, 3) := by decide +kernel
theorem d1_13 : decode jdk_42_method_139_code 13 = .ok (.new 10, 3) := by decide +kernel
theorem d1_16 : decode jdk_42_method_139_code 16 = .ok (.dup, 1) := by decide +kernel
theorem d1_17 : decode jdk_42_method_139_code 17 = .ok (.iload_n 0, 1) := by decide +kernel
theorem own_pd1 : parseMethodDescriptor "(C)[B" = some ⟨[.char], some (.array .byte)⟩ := by decide +kernel
theorem d1_18 : decode jdk_42_method_139_code 18 = .ok (.invokestatic 1018, 3) := by decide +kernel
theorem d1_21 : decode jdk_42_method_139_code 21 = .ok (.iconst 0, 1) := by decide +kernel
theorem own_pd2 : parseMethodDescriptor "([BB)V" = some ⟨[(.array .byte), .byte], none⟩ := by decide +kernel
theorem d1_22 : decode jdk_42_method_139_code 22 = .ok (.invokespecial 209, 3) := by decide +kernel
theorem d1_25 : decode jdk_42_method_139_code 25 = .ok (.areturn, 1) := by decide +kernel
def Q1 (Z : State) (p1 : Int32) (cs : Int32) (h0 : Heap) (n0 : Nat) (v : Option Value) (h : Heap) (L : List Loc) : Prop := ∃ b : Addr, ∃ vb : Addr, ∃ kb : ClassId, v = some (.ref b) ∧ Fr n0 L ∧ Keep h0 h [] ∧ h0.size ≤ b ∧ h0.size ≤ vb ∧ (b ≠ vb) ∧ (Exa Z h b "java/lang/String") ∧ (Fld Z h b "java/lang/String" "value" "[B" (.ref vb)) ∧ (Fld Z h b "java/lang/String" "coder" "B" (.int (0 : Int32))) ∧ (Arv Z h vb kb .byte (1 : Int32) ([(.int p1.toInt8.toInt32)]) (.int (0 : Int32)))
set_option maxRecDepth 65536 in
set_option maxHeartbeats 40000000 in
theorem rm1 (l : Launch) (Z : State) (a0 : Array Value) (hw : ∀ d ∈ tables_1, d.before a0 Z = true) (ws : List Jvm.Cond) (p1 : Int32) (cs : Int32) (h0 : Heap) (n0 : Nat) (Z0 : n0 ≤ h0.size) (S_COMPACT_STRINGS : Sta Z h0 "java/lang/String" "COMPACT_STRINGS" "Z" (.int cs)) (hcs : ¬ cs = 0) (hp : ¬ (255 : Int32) < p1) :
    MetFree l (⟨"java/lang/String", "valueOf", "(C)Ljava/lang/String;"⟩ : MethodName) (head1 (Jvm.Cond.code (⟨"java/lang/String", "valueOf", "(C)Ljava/lang/String;"⟩ : MethodName) jdk_42_method_139_code 1 (some (.object "java/lang/String")) :: ws) ({ frames := 2, cells := 2, slots := 5, locals := 27 } : Room)) (fun a U => a = #[(.int p1)] ∧ Z.Warmed39 U.vm ∧ U.heap = h0) (fun _ _ _ _ _ => True) (fun _ U o U' => ∃ v L, o = .returned v ∧ Q1 Z p1 cs h0 n0 v U'.heap L ∧ FrameEnd U o U' L ({ frames := 2, cells := 2, slots := 5, locals := 27 } : Room).cells ({ frames := 2, cells := 2, slots := 5, locals := 27 } : Room).slots) := by
  refine MetFree.of_bodySF (plainFor_of_name own_pn_java_lang_String) hisR ?_
  intro p e s m args below meth c s₁ Bd hml0 hP hK
  obtain ⟨rfl, hZ, hh⟩ := hP
  have hx := Bd.exec
  have hby := Bd.bytes
  have hlk := Bd.notSynchronized
  have hml : c.maxLocals = 1 := hml0
  have hown : s.vm.findClass "java/lang/String" = some m.cls := findClass_of_methodNamed Bd.named
  have hnm := (name_of_methodNamed Bd.named Bd.method).1
  have X0 : Stand p l e ({ frames := 2, cells := 2, slots := 5, locals := 27 } : Room) s m #[(.int p1)] below meth c s₁ [] 0 0 := Stand.of_body Bd
  have e0 : s₁.heap = h0 := by rw [← hh, Bd.state]; rfl
  have N0 := Fr.nil n0
  have K0 : Keep h0 h0 [] := Keep.refl _ _
  show Go p e below (KQ s below (Q1 Z p1 cs h0 n0) ({ frames := 2, cells := 2, slots := 5, locals := 27 } : Room).cells ({ frames := 2, cells := 2, slots := 5, locals := 27 } : Room).slots) _
  refine Go.body (T := s₁) (σ := s₁) (g' := (mkF m 0 #[.val (.int p1)] [])) (ef_1 m p1) ?_
  obtain ⟨T10, X10, e10, st10⟩ := getS2 X0 hx hZ hown (host := "") (Or.inl (hw _ (List.mem_of_getElem? (i := 4) rfl))) Via.refl e0 S_COMPACT_STRINGS (g := (mkF m 0 #[.val (.int p1)] [])) rfl (hb hby d1_0)
  refine Go.st st10 ?_
  show Go p e below _ (T10.setTop (mkF m 3 #[.val (.int p1)] [(.int cs)]))
  refine g_if_eq X10 hx (hb hby d1_3) 26 6 (by decide) (by decide) rfl (fun hc3 => False.elim (hcs hc3)) (fun hc3 => ?_)
  refine g_iloadN X10 hx (hb hby d1_6) 7 rfl (v := p1) rfl ?_
  obtain ⟨_, _, ⟨T11, L11, k11, n11⟩, -, X11, ⟨Lc11, hQ11, l11, y11, z11⟩, st11⟩ := Jvm.LawKit.callS X10 hx (y := (⟨"java/lang/StringLatin1", "canEncode", "(C)Z"⟩ : MethodName)) hown (mvT hZ (hw _ (List.mem_of_getElem? (i := 5) rfl))) (mvT hZ (hw _ (List.mem_of_getElem? (i := 6) rfl))) (mvT hZ (hw _ (List.mem_of_getElem? (i := 7) rfl))) (mvT hZ (hw _ (List.mem_of_getElem? (i := 8) rfl))) (by decide) (backOf (W := 0) (rm2 l Z a0 hw [] p1 h0 n0 Z0 hp) hZ (hw _ (List.mem_of_getElem? (i := 8) rfl)) (hw _ (List.mem_of_getElem? (i := 7) rfl)) (by decide) (by decide)) (g := (mkF m 7 #[.val (.int p1)] [(.int p1)])) rfl (by rw [hml]; rfl) (argsL := [(.int p1)]) (rest := []) (lenOf own_pd0 rfl) rfl (by show 2 * 0 + _ ≤ _; exact Nat.le_of_eq rfl) (hb hby d1_7) (fun _ _ => ⟨rfl, e10, (by decide : 0 + 0 ≤ _), (by decide : 0 + 0 ≤ _)⟩)
  dsimp only [Pt.U, Pt.locs, Pt.cells, Pt.slots] at X11 l11 y11 z11 st11 hQ11
  subst l11 y11 z11
  obtain ⟨rfl, Nq11, e11⟩ := hQ11
  refine Go.st st11 ?_
  have N11 := Fr.app N0 Nq11
  show Go p e below _ (T11.setTop (mkF m 10 #[.val (.int p1)] [(.int (1 : Int32))]))
  refine g_if_eq X11 hx (hb hby d1_10) 26 13 (by decide) (by decide) rfl (fun hc10 => False.elim (absurd hc10 (by decide))) (fun hc10 => ?_)
  obtain ⟨T12, h12, X12, e12, E12, A12, D12, -, st12⟩ := newO X11 hx hZ hown (hw _ (List.mem_of_getElem? (i := 9) rfl)) (hw _ (List.mem_of_getElem? (i := 10) rfl)) (hw _ (List.mem_of_getElem? (i := 2) rfl)) e11 (g := (mkF m 13 #[.val (.int p1)] [])) rfl (hb hby d1_13) (by decide) (by decide)
  refine Go.st st12 ?_
  obtain ⟨ob, q12⟩ : ∃ z, z = h0.size := ⟨_, rfl⟩
  rw [← q12] at A12 D12 ⊢
  have g_ob : n0 ≤ ob := Nat.le_trans Z0 (Nat.le_of_eq q12.symm)
  have mh_ob : h0.size ≤ ob := Nat.le_trans K0.1 (Nat.le_of_eq q12.symm)
  have F_value_12 : Fld Z h12 ob "java/lang/String" "value" "[B" .null := D12 (Or.inr (hw _ (List.mem_of_getElem? (i := 23) rfl))) (ty := (.array .byte)) (by decide)
  have F_coder_12 : Fld Z h12 ob "java/lang/String" "coder" "B" (.int (0 : Int32)) := D12 (Or.inr (hw _ (List.mem_of_getElem? (i := 25) rfl))) (ty := .byte) (by decide)
  have K12 : Keep h0 h12 [] := Keep.ext K0 E12
  have Zs12 : n0 ≤ h12.size := Nat.le_trans Z0 E12.1
  show Go p e below _ (T12.setTop (mkF m 16 #[.val (.int p1)] [(.ref ob)]))
  refine g_dup X12 hx (hb hby d1_16) 17 rfl rfl ?_
  refine g_iloadN X12 hx (hb hby d1_17) 18 rfl (v := p1) rfl ?_
  obtain ⟨_, _, ⟨T14, L14, k14, n14⟩, -, X14, ⟨Lc14, hQ14, l14, y14, z14⟩, st14⟩ := Jvm.LawKit.callS X12 hx (y := (⟨"java/lang/StringLatin1", "toBytes", "(C)[B"⟩ : MethodName)) hown (mvT hZ (hw _ (List.mem_of_getElem? (i := 11) rfl))) (mvT hZ (hw _ (List.mem_of_getElem? (i := 12) rfl))) (mvT hZ (hw _ (List.mem_of_getElem? (i := 7) rfl))) (mvT hZ (hw _ (List.mem_of_getElem? (i := 13) rfl))) (by decide) (backOf (W := 2) (rm3 l Z a0 hw [] p1 h12 n0 Zs12 ) hZ (hw _ (List.mem_of_getElem? (i := 13) rfl)) (hw _ (List.mem_of_getElem? (i := 7) rfl)) (by decide) (by decide)) (g := (mkF m 18 #[.val (.int p1)] [(.int p1), (.ref ob), (.ref ob)])) rfl (by rw [hml]; rfl) (argsL := [(.int p1)]) (rest := [(.ref ob), (.ref ob)]) (lenOf own_pd1 rfl) rfl (by show 2 * 0 + _ ≤ _; exact Nat.le_of_eq rfl) (hb hby d1_18) (fun _ _ => ⟨rfl, e12, (by decide : 1 + 1 ≤ _), (by decide : 4 + 1 ≤ _)⟩)
  dsimp only [Pt.U, Pt.locs, Pt.cells, Pt.slots] at X14 l14 y14 z14 st14 hQ14
  subst l14 y14 z14
  obtain ⟨ovb, okb, rfl, Nq14, Kq14, f14_0, f14_1⟩ := hQ14
  refine Go.st st14 ?_
  have N14 := Fr.app N11 Nq14
  have E_ob_15 : Exa Z T14.heap ob "java/lang/String" := Exa.keep A12 Kq14
  have F_value_ob_15 : Fld Z T14.heap ob "java/lang/String" "value" "[B" .null := Fld.keep F_value_12 Kq14 nin0
  have F_coder_ob_15 : Fld Z T14.heap ob "java/lang/String" "coder" "B" (.int (0 : Int32)) := Fld.keep F_coder_12 Kq14 nin0
  have ne_ob_ovb : ob ≠ ovb := Nat.ne_of_lt (Nat.lt_of_lt_of_le A12.lt f14_0)
  have g_ovb : n0 ≤ ovb := Nat.le_trans Zs12 f14_0
  have mh_ovb : h0.size ≤ ovb := Nat.le_trans K12.1 f14_0
  have K14 : Keep h0 T14.heap [] := Keep.trans K12 Kq14 all0
  have Zs14 : n0 ≤ T14.heap.size := Nat.le_trans Zs12 Kq14.1
  show Go p e below _ (T14.setTop (mkF m 21 #[.val (.int p1)] [(.ref ovb), (.ref ob), (.ref ob)]))
  refine g_iconst X14 hx (hb hby d1_21) 22 rfl (0 : Int32) rfl ?_
  obtain ⟨_, _, ⟨T16, L16, k16, n16⟩, -, X16, ⟨Lc16, hQ16, l16, y16, z16⟩, st16⟩ := X14.specialBack hx (y := (⟨"java/lang/String", "<init>", "([BB)V"⟩ : MethodName)) rfl hown (mvT hZ (hw _ (List.mem_of_getElem? (i := 15) rfl))) (mvT hZ (hw _ (List.mem_of_getElem? (i := 16) rfl))) (mvT hZ (hw _ (List.mem_of_getElem? (i := 18) rfl))) (by decide) (backOf (W := 1) (rm4 l Z a0 hw [] ob ovb .null (.int (0 : Int32)) T14.heap n0 Zs14 E_ob_15 g_ob F_value_ob_15 F_coder_ob_15) hZ (hw _ (List.mem_of_getElem? (i := 18) rfl)) (hw _ (List.mem_of_getElem? (i := 2) rfl)) (by decide) (by decide)) (g := (mkF m 22 #[.val (.int p1)] [(.int (0 : Int32)), (.ref ovb), (.ref ob), (.ref ob)])) rfl (by rw [hml]; rfl) (Steps.refl _) (a := ob) (argsL := [(.ref ovb), (.int (0 : Int32))]) (rest := [(.ref ob)]) (lenOf own_pd2 rfl) rfl (by show 2 * 0 + _ ≤ _; exact Nat.le_of_eq rfl) (hb hby d1_22) (fun _ _ => ⟨rfl, rfl, (by decide : 2 + 0 ≤ _), (by decide : 5 + 0 ≤ _)⟩)
  dsimp only [Pt.U, Pt.locs, Pt.cells, Pt.slots] at X16 l16 y16 z16 st16 hQ16
  subst l16 y16 z16
  obtain ⟨rfl, Nq16, Kq16, f16_0, f16_1, f16_2⟩ := hQ16
  refine Go.tr st16 ?_
  have N16 := Fr.app N14 Nq16
  have E_ob_17 : Exa Z T16.heap ob "java/lang/String" := Exa.keep E_ob_15 Kq16
  have A_ovb_17 : Arv Z T16.heap ovb okb .byte (1 : Int32) ([(.int p1.toInt8.toInt32)]) (.int (0 : Int32)) := Arv.keep f14_1 Kq16 (ninS (Ne.symm ne_ob_ovb) nin0)
  have K16 : Keep h0 T16.heap [] := Keep.trans K14 Kq16 (allS (Or.inr mh_ob) all0)
  have Zs16 : n0 ≤ T16.heap.size := Nat.le_trans Zs14 Kq16.1
  show Go p e below _ (T16.setTop (mkF m 25 #[.val (.int p1)] [(.ref ob)]))
  refine Go.retA X16 hx hlk Bd.returns rfl rfl (hb hby d1_25) (by decide) (by decide) ?_
  show Q1 Z p1 cs h0 n0 _ T16.heap _
  exact ⟨ob, ovb, okb, rfl, N16, K16, mh_ob, mh_ovb, ne_ob_ovb, f16_0, f16_1, f16_2, A_ovb_17⟩
theorem ef_15 (m : MethodId) (x0 : Addr) : entryFrame m #[(.ref x0)] 1 = mkF m 0 #[.val (.ref x0)] [] := by first | (simp [entryFrame, mkF, argsToLocals, Value.category]; done) | rfl
theorem d15_0 : decode jdk_42_method_152_code 0 = .ok (.getstatic 38, 3) := by decide +kernel
theorem d15_3 : decode jdk_42_method_152_code 3 = .ok (.ifCond .eq 10, 3) := by decide +kernel
theorem d15_6 : decode jdk_42_method_152_code 6 = .ok (.aload_n 0, 1) := by decide +kernel
theorem d15_7 : decode jdk_42_method_152_code 7 = .ok (.getfield 15, 3) := by decide +kernel
theorem d15_10 : decode jdk_42_method_152_code 10 = .ok (.goto 4, 3) := by decide +kernel
theorem d15_14 : decode jdk_42_method_152_code 14 = .ok (.ireturn, 1) := by decide +kernel
def Q15 (Z : State) (a1 : Addr) (cs : Int32) (h0 : Heap) (n0 : Nat) (v : Option Value) (h : Heap) (L : List Loc) : Prop := v = some (.int (0 : Int32)) ∧ Fr n0 L ∧ h = h0
set_option maxRecDepth 65536 in
set_option maxHeartbeats 40000000 in
theorem rm15 (l : Launch) (Z : State) (a0 : Array Value) (hw : ∀ d ∈ tables_1, d.before a0 Z = true) (ws : List Jvm.Cond) (a1 : Addr) (cs : Int32) (h0 : Heap) (n0 : Nat) (Z0 : n0 ≤ h0.size) (S_COMPACT_STRINGS : Sta Z h0 "java/lang/String" "COMPACT_STRINGS" "Z" (.int cs)) (F_coder_a1 : Fld Z h0 a1 "java/lang/String" "coder" "B" (.int (0 : Int32))) (hcs : ¬ cs = 0) :
    MetFree l (⟨"java/lang/String", "coder", "()B"⟩ : MethodName) (head1 (Jvm.Cond.code (⟨"java/lang/String", "coder", "()B"⟩ : MethodName) jdk_42_method_152_code 1 (some .byte) :: ws) ({ frames := 0, cells := 0, slots := 0, locals := 0 } : Room)) (fun a U => a = #[(.ref a1)] ∧ Z.Warmed39 U.vm ∧ U.heap = h0) (fun _ _ _ _ _ => True) (fun _ U o U' => ∃ v L, o = .returned v ∧ Q15 Z a1 cs h0 n0 v U'.heap L ∧ FrameEnd U o U' L ({ frames := 0, cells := 0, slots := 0, locals := 0 } : Room).cells ({ frames := 0, cells := 0, slots := 0, locals := 0 } : Room).slots) := by
  refine MetFree.of_bodySF (plainFor_of_name own_pn_java_lang_String) hisR ?_
  intro p e s m args below meth c s₁ Bd hml0 hP hK
  obtain ⟨rfl, hZ, hh⟩ := hP
  have hx := Bd.exec
  have hby := Bd.bytes
  have hlk := Bd.notSynchronized
  have hml : c.maxLocals = 1 := hml0
  have hown : s.vm.findClass "java/lang/String" = some m.cls := findClass_of_methodNamed Bd.named
  have hnm := (name_of_methodNamed Bd.named Bd.method).1
  have X0 : Stand p l e ({ frames := 0, cells := 0, slots := 0, locals := 0 } : Room) s m #[(.ref a1)] below meth c s₁ [] 0 0 := Stand.of_body Bd
  have e0 : s₁.heap = h0 := by rw [← hh, Bd.state]; rfl
  have N0 := Fr.nil n0
  show Go p e below (KQ s below (Q15 Z a1 cs h0 n0) ({ frames := 0, cells := 0, slots := 0, locals := 0 } : Room).cells ({ frames := 0, cells := 0, slots := 0, locals := 0 } : Room).slots) _
  refine Go.body (T := s₁) (σ := s₁) (g' := (mkF m 0 #[.val (.ref a1)] [])) (ef_15 m a1) ?_
  obtain ⟨T18, X18, e18, st18⟩ := getS2 X0 hx hZ hown (host := "") (Or.inl (hw _ (List.mem_of_getElem? (i := 4) rfl))) Via.refl e0 S_COMPACT_STRINGS (g := (mkF m 0 #[.val (.ref a1)] [])) rfl (hb hby d15_0)
  refine Go.st st18 ?_
  show Go p e below _ (T18.setTop (mkF m 3 #[.val (.ref a1)] [(.int cs)]))
  refine g_if_eq X18 hx (hb hby d15_3) 13 6 (by decide) (by decide) rfl (fun hc3 => False.elim (hcs hc3)) (fun hc3 => ?_)
  refine g_aloadN X18 hx (hb hby d15_6) 7 rfl (v := (.ref a1)) rfl rfl ?_
  obtain ⟨T19, X19, e19, st19⟩ := getF X18 hx hZ hown (host := "") (Or.inl (hw _ (List.mem_of_getElem? (i := 24) rfl))) Via.refl e18 F_coder_a1 (g := (mkF m 7 #[.val (.ref a1)] [(.ref a1)])) rfl rfl (hb hby d15_7)
  refine Go.st st19 ?_
  show Go p e below _ (T19.setTop (mkF m 10 #[.val (.ref a1)] [(.int (0 : Int32))]))
  refine g_goto X19 hx (hb hby d15_10) 14 (by decide) (by decide) ?_
  refine Go.retN X19 hx hlk (t := .byte) Bd.returns (by simp) (hb hby d15_14) (by decide) (by decide) ?_
  show Q15 Z a1 cs h0 n0 _ T19.heap _
  rw [e19]
  exact ⟨rfl, N0, rfl⟩
theorem ef_14 (m : MethodId) (x0 : Addr) : entryFrame m #[(.ref x0)] 1 = mkF m 0 #[.val (.ref x0)] [] := by first | (simp [entryFrame, mkF, argsToLocals, Value.category]; done) | rfl
theorem d14_0 : decode jdk_42_method_54_code 0 = .ok (.aload_n 0, 1) := by decide +kernel
theorem d14_1 : decode jdk_42_method_54_code 1 = .ok (.getfield 9, 3) := by decide +kernel
theorem d14_4 : decode jdk_42_method_54_code 4 = .ok (.arraylength, 1) := by decide +kernel
theorem d14_5 : decode jdk_42_method_54_code 5 = .ok (.aload_n 0, 1) := by decide +kernel
theorem own_pd3 : parseMethodDescriptor "()B" = some ⟨[], some .byte⟩ := by decide +kernel
theorem d14_6 : decode jdk_42_method_54_code 6 = .ok (.invokevirtual 335, 3) := by decide +kernel
theorem d14_9 : decode jdk_42_method_54_code 9 = .ok (.ishr, 1) := by decide +kernel
theorem d14_10 : decode jdk_42_method_54_code 10 = .ok (.ireturn, 1) := by decide +kernel
def Q14 (Z : State) (a1 : Addr) (cs : Int32) (vb : Addr) (kb : ClassId) (z : Int32) (vs : List Value) (h0 : Heap) (n0 : Nat) (v : Option Value) (h : Heap) (L : List Loc) : Prop := v = some (.int z) ∧ Fr n0 L ∧ h = h0
set_option maxRecDepth 65536 in
set_option maxHeartbeats 40000000 in
theorem rm14 (l : Launch) (Z : State) (a0 : Array Value) (hw : ∀ d ∈ tables_1, d.before a0 Z = true) (ws : List Jvm.Cond) (a1 : Addr) (cs : Int32) (vb : Addr) (kb : ClassId) (z : Int32) (vs : List Value) (h0 : Heap) (n0 : Nat) (Z0 : n0 ≤ h0.size) (S_COMPACT_STRINGS : Sta Z h0 "java/lang/String" "COMPACT_STRINGS" "Z" (.int cs)) (E_a1 : Exa Z h0 a1 "java/lang/String") (F_value_a1 : Fld Z h0 a1 "java/lang/String" "value" "[B" (.ref vb)) (F_coder_a1 : Fld Z h0 a1 "java/lang/String" "coder" "B" (.int (0 : Int32))) (A_vb : Arv Z h0 vb kb .byte z vs (.int (0 : Int32))) (hcs : ¬ cs = 0) :
    MetFree l (⟨"java/lang/String", "length", "()I"⟩ : MethodName) (head1 (Jvm.Cond.code (⟨"java/lang/String", "length", "()I"⟩ : MethodName) jdk_42_method_54_code 1 (some .int) :: ws) ({ frames := 1, cells := 0, slots := 0, locals := 13 } : Room)) (fun a U => a = #[(.ref a1)] ∧ Z.Warmed39 U.vm ∧ U.heap = h0) (fun _ _ _ _ _ => True) (fun _ U o U' => ∃ v L, o = .returned v ∧ Q14 Z a1 cs vb kb z vs h0 n0 v U'.heap L ∧ FrameEnd U o U' L ({ frames := 1, cells := 0, slots := 0, locals := 13 } : Room).cells ({ frames := 1, cells := 0, slots := 0, locals := 13 } : Room).slots) := by
  refine MetFree.of_bodySF (plainFor_of_name own_pn_java_lang_String) hisR ?_
  intro p e s m args below meth c s₁ Bd hml0 hP hK
  obtain ⟨rfl, hZ, hh⟩ := hP
  have hx := Bd.exec
  have hby := Bd.bytes
  have hlk := Bd.notSynchronized
  have hml : c.maxLocals = 1 := hml0
  have hown : s.vm.findClass "java/lang/String" = some m.cls := findClass_of_methodNamed Bd.named
  have hnm := (name_of_methodNamed Bd.named Bd.method).1
  have X0 : Stand p l e ({ frames := 1, cells := 0, slots := 0, locals := 13 } : Room) s m #[(.ref a1)] below meth c s₁ [] 0 0 := Stand.of_body Bd
  have e0 : s₁.heap = h0 := by rw [← hh, Bd.state]; rfl
  have N0 := Fr.nil n0
  show Go p e below (KQ s below (Q14 Z a1 cs vb kb z vs h0 n0) ({ frames := 1, cells := 0, slots := 0, locals := 13 } : Room).cells ({ frames := 1, cells := 0, slots := 0, locals := 13 } : Room).slots) _
  refine Go.body (T := s₁) (σ := s₁) (g' := (mkF m 0 #[.val (.ref a1)] [])) (ef_14 m a1) ?_
  refine g_aloadN X0 hx (hb hby d14_0) 1 rfl (v := (.ref a1)) rfl rfl ?_
  obtain ⟨T20, X20, e20, st20⟩ := getF X0 hx hZ hown (host := "") (Or.inl (hw _ (List.mem_of_getElem? (i := 22) rfl))) Via.refl e0 F_value_a1 (g := (mkF m 1 #[.val (.ref a1)] [(.ref a1)])) rfl rfl (hb hby d14_1)
  refine Go.st st20 ?_
  show Go p e below _ (T20.setTop (mkF m 4 #[.val (.ref a1)] [(.ref vb)]))
  refine g_alen X20 hx (hb hby d14_4) 5 rfl hZ e20 A_vb ?_
  refine g_aloadN X20 hx (hb hby d14_5) 6 rfl (v := (.ref a1)) rfl rfl ?_
  obtain ⟨cq22, kq22, q22a, q22b, q22c⟩ := isOf hZ e20 E_a1
  obtain ⟨_, _, ⟨T22, L22, k22, n22⟩, -, X22, ⟨Lc22, hQ22, l22, y22, z22⟩, st22⟩ := X20.virtualBack hx (y := (⟨"java/lang/String", "coder", "()B"⟩ : MethodName)) (z := (⟨"java/lang/String", "coder", "()B"⟩ : MethodName)) hown (mvT hZ (hw _ (List.mem_of_getElem? (i := 77) rfl))) (mvT hZ (hw _ (List.mem_of_getElem? (i := 78) rfl))) (notFace_of_selects (args := #[]) (mvT hZ (hw _ (List.mem_of_getElem? (i := 80) rfl)))) (mvT hZ (hw _ (List.mem_of_getElem? (i := 80) rfl))) (mvT hZ (hw _ (List.mem_of_getElem? (i := 79) rfl))) (by decide) (backOf (W := 1) (rm15 l Z a0 hw [] a1 cs h0 n0 Z0 S_COMPACT_STRINGS F_coder_a1 hcs) hZ (hw _ (List.mem_of_getElem? (i := 81) rfl)) (hw _ (List.mem_of_getElem? (i := 2) rfl)) (by decide) (by decide)) q22a q22c (g := (mkF m 6 #[.val (.ref a1)] [(.ref a1), (.int z)])) rfl (by rw [hml]; rfl) (Steps.refl _) (argsL := []) (rest := [(.int z)]) (lenOf own_pd3 rfl) rfl (by show 2 * 0 + _ ≤ _; exact Nat.le_of_eq rfl) (hb hby d14_6) (fun _ _ => ⟨rfl, e20, (by decide : 0 + 0 ≤ _), (by decide : 0 + 0 ≤ _)⟩)
  dsimp only [Pt.U, Pt.locs, Pt.cells, Pt.slots] at X22 l22 y22 z22 st22 hQ22
  subst l22 y22 z22
  obtain ⟨rfl, Nq22, e22⟩ := hQ22
  refine Go.tr st22 ?_
  have N22 := Fr.app N0 Nq22
  show Go p e below _ (T22.setTop (mkF m 9 #[.val (.ref a1)] [(.int (0 : Int32)), (.int z)]))
  refine g_ishr X22 hx (hb hby d14_9) 10 rfl z (own_shr0 z) ?_
  refine Go.retI X22 hx hlk Bd.returns (hb hby d14_10) (by decide) (by decide) ?_
  show Q14 Z a1 cs vb kb z vs h0 n0 _ T22.heap _
  rw [e22]
  exact ⟨rfl, N22, rfl⟩
theorem own_pn_jdk_internal_util_Preconditions : plainName "jdk/internal/util/Preconditions" = true := by first | (simp [plainName, overriddenIn]; done) | decide +kernel
theorem ef_21 (m : MethodId) (x0 : Int32) (x1 : Int32) (x2 : Value) (c2 : x2.category = 1) : entryFrame m #[(.int x0), (.int x1), x2] 3 = mkF m 0 #[.val (.int x0), .val (.int x1), .val x2] [] := by cases x2 <;> simp [entryFrame, mkF, argsToLocals, Value.category] at c2 ⊢
theorem d21_0 : decode jdk_41_method_11_code 0 = .ok (.iload_n 0, 1) := by decide +kernel
theorem d21_1 : decode jdk_41_method_11_code 1 = .ok (.ifCond .lt 8, 3) := by decide +kernel
theorem d21_4 : decode jdk_41_method_11_code 4 = .ok (.iload_n 0, 1) := by decide +kernel
theorem d21_5 : decode jdk_41_method_11_code 5 = .ok (.iload_n 1, 1) := by decide +kernel
theorem d21_6 : decode jdk_41_method_11_code 6 = .ok (.if_icmp .lt 10, 3) := by decide +kernel
theorem d21_16 : decode jdk_41_method_11_code 16 = .ok (.iload_n 0, 1) := by decide +kernel
theorem d21_17 : decode jdk_41_method_11_code 17 = .ok (.ireturn, 1) := by decide +kernel
def Q21 (Z : State) (p1 : Int32) (p2 : Int32) (sf : Value) (h0 : Heap) (n0 : Nat) (v : Option Value) (h : Heap) (L : List Loc) : Prop := v = some (.int p1) ∧ Fr n0 L ∧ h = h0
set_option maxRecDepth 65536 in
set_option maxHeartbeats 40000000 in
theorem rm21 (l : Launch) (Z : State) (a0 : Array Value) (hw : ∀ d ∈ tables_1, d.before a0 Z = true) (ws : List Jvm.Cond) (p1 : Int32) (p2 : Int32) (sf : Value) (h0 : Heap) (n0 : Nat) (Z0 : n0 ≤ h0.size) (hsf : sf.isRef = true) (hp : ¬ p1 < 0 ∧ p1 < p2) :
    MetFree l (⟨"jdk/internal/util/Preconditions", "checkIndex", "(IILjava/util/function/BiFunction;)I"⟩ : MethodName) (head1 (Jvm.Cond.code (⟨"jdk/internal/util/Preconditions", "checkIndex", "(IILjava/util/function/BiFunction;)I"⟩ : MethodName) jdk_41_method_11_code 3 (some .int) :: ws) ({ frames := 0, cells := 0, slots := 0, locals := 0 } : Room)) (fun a U => a = #[(.int p1), (.int p2), sf] ∧ Z.Warmed39 U.vm ∧ U.heap = h0) (fun _ _ _ _ _ => True) (fun _ U o U' => ∃ v L, o = .returned v ∧ Q21 Z p1 p2 sf h0 n0 v U'.heap L ∧ FrameEnd U o U' L ({ frames := 0, cells := 0, slots := 0, locals := 0 } : Room).cells ({ frames := 0, cells := 0, slots := 0, locals := 0 } : Room).slots) := by
  refine MetFree.of_bodySF (plainFor_of_name own_pn_jdk_internal_util_Preconditions) hisR ?_
  intro p e s m args below meth c s₁ Bd hml0 hP hK
  obtain ⟨rfl, hZ, hh⟩ := hP
  have hx := Bd.exec
  have hby := Bd.bytes
  have hlk := Bd.notSynchronized
  have hml : c.maxLocals = 3 := hml0
  have hown : s.vm.findClass "jdk/internal/util/Preconditions" = some m.cls := findClass_of_methodNamed Bd.named
  have hnm := (name_of_methodNamed Bd.named Bd.method).1
  have X0 : Stand p l e ({ frames := 0, cells := 0, slots := 0, locals := 0 } : Room) s m #[(.int p1), (.int p2), sf] below meth c s₁ [] 0 0 := Stand.of_body Bd
  have e0 : s₁.heap = h0 := by rw [← hh, Bd.state]; rfl
  have N0 := Fr.nil n0
  show Go p e below (KQ s below (Q21 Z p1 p2 sf h0 n0) ({ frames := 0, cells := 0, slots := 0, locals := 0 } : Room).cells ({ frames := 0, cells := 0, slots := 0, locals := 0 } : Room).slots) _
  refine Go.body (T := s₁) (σ := s₁) (g' := (mkF m 0 #[.val (.int p1), .val (.int p2), .val sf] [])) (ef_21 m p1 p2 sf (own_cat hsf)) ?_
  refine g_iloadN X0 hx (hb hby d21_0) 1 rfl (v := p1) rfl ?_
  refine g_if_lt X0 hx (hb hby d21_1) 9 4 (by decide) (by decide) rfl (fun hc1 => False.elim (hp.1 hc1)) (fun hc1 => ?_)
  refine g_iloadN X0 hx (hb hby d21_4) 5 rfl (v := p1) rfl ?_
  refine g_iloadN X0 hx (hb hby d21_5) 6 rfl (v := p2) rfl ?_
  refine g_icmp_lt X0 hx (hb hby d21_6) 16 9 (by decide) (by decide) rfl (fun hc6 => ?_) (fun hc6 => False.elim (hc6 hp.2))
  refine g_iloadN X0 hx (hb hby d21_16) 17 rfl (v := p1) rfl ?_
  refine Go.retI X0 hx hlk Bd.returns (hb hby d21_17) (by decide) (by decide) ?_
  show Q21 Z p1 p2 sf h0 n0 _ s₁.heap _
  rw [e0]
  exact ⟨rfl, N0, rfl⟩
theorem ef_20 (m : MethodId) (x0 : Int32) (x1 : Int32) : entryFrame m #[(.int x0), (.int x1)] 2 = mkF m 0 #[.val (.int x0), .val (.int x1)] [] := by first | (simp [entryFrame, mkF, argsToLocals, Value.category]; done) | rfl
theorem d20_0 : decode jdk_42_method_155_code 0 = .ok (.iload_n 0, 1) := by decide +kernel
theorem d20_1 : decode jdk_42_method_155_code 1 = .ok (.iload_n 1, 1) := by decide +kernel
theorem d20_2 : decode jdk_42_method_155_code 2 = .ok (.getstatic 1053, 3) := by decide +kernel
theorem own_pd4 : parseMethodDescriptor "(IILjava/util/function/BiFunction;)I" = some ⟨[.int, .int, (.object "java/util/function/BiFunction")], some .int⟩ := by decide +kernel
theorem d20_5 : decode jdk_42_method_155_code 5 = .ok (.invokestatic 1059, 3) := by decide +kernel
theorem d20_8 : decode jdk_42_method_155_code 8 = .ok (.pop, 1) := by decide +kernel
theorem d20_9 : decode jdk_42_method_155_code 9 = .ok (.return_, 1) := by decide +kernel
def Q20 (Z : State) (p1 : Int32) (p2 : Int32) (sf : Value) (h0 : Heap) (n0 : Nat) (v : Option Value) (h : Heap) (L : List Loc) : Prop := v = none ∧ Fr n0 L ∧ h = h0
set_option maxRecDepth 65536 in
set_option maxHeartbeats 40000000 in
theorem rm20 (l : Launch) (Z : State) (a0 : Array Value) (hw : ∀ d ∈ tables_1, d.before a0 Z = true) (ws : List Jvm.Cond) (p1 : Int32) (p2 : Int32) (sf : Value) (h0 : Heap) (n0 : Nat) (Z0 : n0 ≤ h0.size) (S_SIOOBE_FORMATTER : Sta Z h0 "jdk/internal/util/Preconditions" "SIOOBE_FORMATTER" "Ljava/util/function/BiFunction;" sf) (hsf : sf.isRef = true) (hp : ¬ p1 < 0 ∧ p1 < p2) :
    MetFree l (⟨"java/lang/String", "checkIndex", "(II)V"⟩ : MethodName) (head1 (Jvm.Cond.code (⟨"java/lang/String", "checkIndex", "(II)V"⟩ : MethodName) jdk_42_method_155_code 2 none :: ws) ({ frames := 1, cells := 0, slots := 0, locals := 14 } : Room)) (fun a U => a = #[(.int p1), (.int p2)] ∧ Z.Warmed39 U.vm ∧ U.heap = h0) (fun _ _ _ _ _ => True) (fun _ U o U' => ∃ v L, o = .returned v ∧ Q20 Z p1 p2 sf h0 n0 v U'.heap L ∧ FrameEnd U o U' L ({ frames := 1, cells := 0, slots := 0, locals := 14 } : Room).cells ({ frames := 1, cells := 0, slots := 0, locals := 14 } : Room).slots) := by
  refine MetFree.of_bodySF (plainFor_of_name own_pn_java_lang_String) hisR ?_
  intro p e s m args below meth c s₁ Bd hml0 hP hK
  obtain ⟨rfl, hZ, hh⟩ := hP
  have hx := Bd.exec
  have hby := Bd.bytes
  have hlk := Bd.notSynchronized
  have hml : c.maxLocals = 2 := hml0
  have hown : s.vm.findClass "java/lang/String" = some m.cls := findClass_of_methodNamed Bd.named
  have hnm := (name_of_methodNamed Bd.named Bd.method).1
  have X0 : Stand p l e ({ frames := 1, cells := 0, slots := 0, locals := 14 } : Room) s m #[(.int p1), (.int p2)] below meth c s₁ [] 0 0 := Stand.of_body Bd
  have e0 : s₁.heap = h0 := by rw [← hh, Bd.state]; rfl
  have N0 := Fr.nil n0
  show Go p e below (KQ s below (Q20 Z p1 p2 sf h0 n0) ({ frames := 1, cells := 0, slots := 0, locals := 14 } : Room).cells ({ frames := 1, cells := 0, slots := 0, locals := 14 } : Room).slots) _
  refine Go.body (T := s₁) (σ := s₁) (g' := (mkF m 0 #[.val (.int p1), .val (.int p2)] [])) (ef_20 m p1 p2) ?_
  refine g_iloadN X0 hx (hb hby d20_0) 1 rfl (v := p1) rfl ?_
  refine g_iloadN X0 hx (hb hby d20_1) 2 rfl (v := p2) rfl ?_
  obtain ⟨T23, X23, e23, st23⟩ := getS2 X0 hx hZ hown (host := "") (Or.inl (hw _ (List.mem_of_getElem? (i := 102) rfl))) Via.refl e0 S_SIOOBE_FORMATTER (g := (mkF m 2 #[.val (.int p1), .val (.int p2)] [(.int p2), (.int p1)])) rfl (hb hby d20_2)
  refine Go.st st23 ?_
  show Go p e below _ (T23.setTop (mkF m 5 #[.val (.int p1), .val (.int p2)] [sf, (.int p2), (.int p1)]))
  obtain ⟨_, _, ⟨T24, L24, k24, n24⟩, -, X24, ⟨Lc24, hQ24, l24, y24, z24⟩, st24⟩ := Jvm.LawKit.callS X23 hx (y := (⟨"jdk/internal/util/Preconditions", "checkIndex", "(IILjava/util/function/BiFunction;)I"⟩ : MethodName)) hown (mvT hZ (hw _ (List.mem_of_getElem? (i := 104) rfl))) (mvT hZ (hw _ (List.mem_of_getElem? (i := 105) rfl))) (mvT hZ (hw _ (List.mem_of_getElem? (i := 103) rfl))) (mvT hZ (hw _ (List.mem_of_getElem? (i := 106) rfl))) (by decide) (backOf (W := 0) (rm21 l Z a0 hw [] p1 p2 sf h0 n0 Z0 hsf hp) hZ (hw _ (List.mem_of_getElem? (i := 106) rfl)) (hw _ (List.mem_of_getElem? (i := 103) rfl)) (by decide) (by decide)) (g := (mkF m 5 #[.val (.int p1), .val (.int p2)] [sf, (.int p2), (.int p1)])) rfl (by rw [hml]; rfl) (argsL := [(.int p1), (.int p2), sf]) (rest := []) (lenOf own_pd4 rfl) rfl (by show 2 * 0 + _ ≤ _; exact Nat.le_of_eq rfl) (hb hby d20_5) (fun _ _ => ⟨rfl, e23, (by decide : 0 + 0 ≤ _), (by decide : 0 + 0 ≤ _)⟩)
  dsimp only [Pt.U, Pt.locs, Pt.cells, Pt.slots] at X24 l24 y24 z24 st24 hQ24
  subst l24 y24 z24
  obtain ⟨rfl, Nq24, e24⟩ := hQ24
  refine Go.st st24 ?_
  have N24 := Fr.app N0 Nq24
  show Go p e below _ (T24.setTop (mkF m 8 #[.val (.int p1), .val (.int p2)] [(.int p1)]))
  refine g_pop X24 hx (hb hby d20_8) 9 rfl rfl ?_
  refine Go.retV X24 hx hlk Bd.returns (hb hby d20_9) (by decide) (by decide) ?_
  show Q20 Z p1 p2 sf h0 n0 _ T24.heap _
  rw [e24]
  exact ⟨rfl, N24, rfl⟩
theorem ef_19 (m : MethodId) (x0 : Addr) (x1 : Int32) : entryFrame m #[(.ref x0), (.int x1)] 2 = mkF m 0 #[.val (.ref x0), .val (.int x1)] [] := by first | (simp [entryFrame, mkF, argsToLocals, Value.category]; done) | rfl
theorem d19_0 : decode jdk_43_method_2_code 0 = .ok (.iload_n 1, 1) := by decide +kernel
theorem d19_1 : decode jdk_43_method_2_code 1 = .ok (.aload_n 0, 1) := by decide +kernel
theorem d19_2 : decode jdk_43_method_2_code 2 = .ok (.arraylength, 1) := by decide +kernel
theorem own_pd5 : parseMethodDescriptor "(II)V" = some ⟨[.int, .int], none⟩ := by decide +kernel
theorem d19_3 : decode jdk_43_method_2_code 3 = .ok (.invokestatic 9, 3) := by decide +kernel
theorem d19_6 : decode jdk_43_method_2_code 6 = .ok (.aload_n 0, 1) := by decide +kernel
theorem d19_7 : decode jdk_43_method_2_code 7 = .ok (.iload_n 1, 1) := by decide +kernel
theorem d19_8 : decode jdk_43_method_2_code 8 = .ok (.baload, 1) := by decide +kernel
theorem d19_9 : decode jdk_43_method_2_code 9 = .ok (.sipush 255, 3) := by decide +kernel
theorem d19_12 : decode jdk_43_method_2_code 12 = .ok (.iand, 1) := by decide +kernel
theorem d19_13 : decode jdk_43_method_2_code 13 = .ok (.i2c, 1) := by decide +kernel
theorem d19_14 : decode jdk_43_method_2_code 14 = .ok (.ireturn, 1) := by decide +kernel
def Q19 (Z : State) (a1 : Addr) (p2 : Int32) (sf : Value) (kb : ClassId) (z : Int32) (vs : List Value) (x : Int32) (h0 : Heap) (n0 : Nat) (v : Option Value) (h : Heap) (L : List Loc) : Prop := v = some (.int (x &&& (255 : Int32))) ∧ Fr n0 L ∧ h = h0
set_option maxRecDepth 65536 in
set_option maxHeartbeats 40000000 in
theorem rm19 (l : Launch) (Z : State) (a0 : Array Value) (hw : ∀ d ∈ tables_1, d.before a0 Z = true) (ws : List Jvm.Cond) (a1 : Addr) (p2 : Int32) (sf : Value) (kb : ClassId) (z : Int32) (vs : List Value) (x : Int32) (h0 : Heap) (n0 : Nat) (Z0 : n0 ≤ h0.size) (S_SIOOBE_FORMATTER : Sta Z h0 "jdk/internal/util/Preconditions" "SIOOBE_FORMATTER" "Ljava/util/function/BiFunction;" sf) (A_a1 : Arv Z h0 a1 kb .byte z vs (.int (0 : Int32))) (hsf : sf.isRef = true) (hp : ¬ p2 < 0 ∧ p2 < z) (hu : vs.getD p2.toNatClampNeg (.int (0 : Int32)) = .int x) :
    MetFree l (⟨"java/lang/StringLatin1", "charAt", "([BI)C"⟩ : MethodName) (head1 (Jvm.Cond.code (⟨"java/lang/StringLatin1", "charAt", "([BI)C"⟩ : MethodName) jdk_43_method_2_code 2 (some .char) :: ws) ({ frames := 2, cells := 0, slots := 0, locals := 27 } : Room)) (fun a U => a = #[(.ref a1), (.int p2)] ∧ Z.Warmed39 U.vm ∧ U.heap = h0) (fun _ _ _ _ _ => True) (fun _ U o U' => ∃ v L, o = .returned v ∧ Q19 Z a1 p2 sf kb z vs x h0 n0 v U'.heap L ∧ FrameEnd U o U' L ({ frames := 2, cells := 0, slots := 0, locals := 27 } : Room).cells ({ frames := 2, cells := 0, slots := 0, locals := 27 } : Room).slots) := by
  refine MetFree.of_bodySF (plainFor_of_name own_pn_java_lang_StringLatin1) hisR ?_
  intro p e s m args below meth c s₁ Bd hml0 hP hK
  obtain ⟨rfl, hZ, hh⟩ := hP
  have hx := Bd.exec
  have hby := Bd.bytes
  have hlk := Bd.notSynchronized
  have hml : c.maxLocals = 2 := hml0
  have hown : s.vm.findClass "java/lang/StringLatin1" = some m.cls := findClass_of_methodNamed Bd.named
  have hnm := (name_of_methodNamed Bd.named Bd.method).1
  have X0 : Stand p l e ({ frames := 2, cells := 0, slots := 0, locals := 27 } : Room) s m #[(.ref a1), (.int p2)] below meth c s₁ [] 0 0 := Stand.of_body Bd
  have e0 : s₁.heap = h0 := by rw [← hh, Bd.state]; rfl
  have N0 := Fr.nil n0
  show Go p e below (KQ s below (Q19 Z a1 p2 sf kb z vs x h0 n0) ({ frames := 2, cells := 0, slots := 0, locals := 27 } : Room).cells ({ frames := 2, cells := 0, slots := 0, locals := 27 } : Room).slots) _
  refine Go.body (T := s₁) (σ := s₁) (g' := (mkF m 0 #[.val (.ref a1), .val (.int p2)] [])) (ef_19 m a1 p2) ?_
  refine g_iloadN X0 hx (hb hby d19_0) 1 rfl (v := p2) rfl ?_
  refine g_aloadN X0 hx (hb hby d19_1) 2 rfl (v := (.ref a1)) rfl rfl ?_
  refine g_alen X0 hx (hb hby d19_2) 3 rfl hZ e0 A_a1 ?_
  obtain ⟨_, _, ⟨T26, L26, k26, n26⟩, -, X26, ⟨Lc26, hQ26, l26, y26, z26⟩, st26⟩ := Jvm.LawKit.callS X0 hx (y := (⟨"java/lang/String", "checkIndex", "(II)V"⟩ : MethodName)) hown (mvT hZ (hw _ (List.mem_of_getElem? (i := 99) rfl))) (mvT hZ (hw _ (List.mem_of_getElem? (i := 100) rfl))) (mvT hZ (hw _ (List.mem_of_getElem? (i := 2) rfl))) (mvT hZ (hw _ (List.mem_of_getElem? (i := 101) rfl))) (by decide) (backOf (W := 0) (rm20 l Z a0 hw [] p2 z sf h0 n0 Z0 S_SIOOBE_FORMATTER hsf hp) hZ (hw _ (List.mem_of_getElem? (i := 101) rfl)) (hw _ (List.mem_of_getElem? (i := 2) rfl)) (by decide) (by decide)) (g := (mkF m 3 #[.val (.ref a1), .val (.int p2)] [(.int z), (.int p2)])) rfl (by rw [hml]; rfl) (argsL := [(.int p2), (.int z)]) (rest := []) (lenOf own_pd5 rfl) rfl (by show 2 * 0 + _ ≤ _; exact Nat.le_of_eq rfl) (hb hby d19_3) (fun _ _ => ⟨rfl, e0, (by decide : 0 + 0 ≤ _), (by decide : 0 + 0 ≤ _)⟩)
  dsimp only [Pt.U, Pt.locs, Pt.cells, Pt.slots] at X26 l26 y26 z26 st26 hQ26
  subst l26 y26 z26
  obtain ⟨rfl, Nq26, e26⟩ := hQ26
  refine Go.st st26 ?_
  have N26 := Fr.app N0 Nq26
  show Go p e below _ (T26.setTop (mkF m 6 #[.val (.ref a1), .val (.int p2)] []))
  refine g_aloadN X26 hx (hb hby d19_6) 7 rfl (v := (.ref a1)) rfl rfl ?_
  refine g_iloadN X26 hx (hb hby d19_7) 8 rfl (v := p2) rfl ?_
  refine g_baload X26 hx (hb hby d19_8) 9 rfl hZ e26 A_a1 hp (.int x) hu ?_
  refine g_sipush X26 hx (hb hby d19_9) 12 rfl (255 : Int32) rfl ?_
  refine g_iand X26 hx (hb hby d19_12) 13 rfl (x &&& (255 : Int32)) rfl ?_
  refine g_i2c X26 hx (hb hby d19_13) 14 rfl (x &&& (255 : Int32)).toUInt32.toUInt16.toUInt32.toInt32 rfl ?_
  refine Go.retN X26 hx hlk (t := .char) Bd.returns (by simp) (hb hby d19_14) (by decide) (by decide) ?_
  show Q19 Z a1 p2 sf kb z vs x h0 n0 _ T26.heap _
  rw [e26]
  exact ⟨(by rw [own_chr]), N26, rfl⟩
theorem ef_18 (m : MethodId) (x0 : Addr) : entryFrame m #[(.ref x0)] 1 = mkF m 0 #[.val (.ref x0)] [] := by first | (simp [entryFrame, mkF, argsToLocals, Value.category]; done) | rfl
theorem d18_0 : decode jdk_42_method_154_code 0 = .ok (.getstatic 38, 3) := by decide +kernel
theorem d18_3 : decode jdk_42_method_154_code 3 = .ok (.ifCond .eq 14, 3) := by decide +kernel
theorem d18_6 : decode jdk_42_method_154_code 6 = .ok (.aload_n 0, 1) := by decide +kernel
theorem d18_7 : decode jdk_42_method_154_code 7 = .ok (.getfield 15, 3) := by decide +kernel
theorem d18_10 : decode jdk_42_method_154_code 10 = .ok (.ifCond .ne 7, 3) := by decide +kernel
theorem d18_13 : decode jdk_42_method_154_code 13 = .ok (.iconst 1, 1) := by decide +kernel
theorem d18_14 : decode jdk_42_method_154_code 14 = .ok (.goto 4, 3) := by decide +kernel
theorem d18_18 : decode jdk_42_method_154_code 18 = .ok (.ireturn, 1) := by decide +kernel
def Q18 (Z : State) (a1 : Addr) (cs : Int32) (h0 : Heap) (n0 : Nat) (v : Option Value) (h : Heap) (L : List Loc) : Prop := v = some (.int (1 : Int32)) ∧ Fr n0 L ∧ h = h0
set_option maxRecDepth 65536 in
set_option maxHeartbeats 40000000 in
theorem rm18 (l : Launch) (Z : State) (a0 : Array Value) (hw : ∀ d ∈ tables_1, d.before a0 Z = true) (ws : List Jvm.Cond) (a1 : Addr) (cs : Int32) (h0 : Heap) (n0 : Nat) (Z0 : n0 ≤ h0.size) (S_COMPACT_STRINGS : Sta Z h0 "java/lang/String" "COMPACT_STRINGS" "Z" (.int cs)) (F_coder_a1 : Fld Z h0 a1 "java/lang/String" "coder" "B" (.int (0 : Int32))) (hcs : ¬ cs = 0) :
    MetFree l (⟨"java/lang/String", "isLatin1", "()Z"⟩ : MethodName) (head1 (Jvm.Cond.code (⟨"java/lang/String", "isLatin1", "()Z"⟩ : MethodName) jdk_42_method_154_code 1 (some .boolean) :: ws) ({ frames := 0, cells := 0, slots := 0, locals := 0 } : Room)) (fun a U => a = #[(.ref a1)] ∧ Z.Warmed39 U.vm ∧ U.heap = h0) (fun _ _ _ _ _ => True) (fun _ U o U' => ∃ v L, o = .returned v ∧ Q18 Z a1 cs h0 n0 v U'.heap L ∧ FrameEnd U o U' L ({ frames := 0, cells := 0, slots := 0, locals := 0 } : Room).cells ({ frames := 0, cells := 0, slots := 0, locals := 0 } : Room).slots) := by
  refine MetFree.of_bodySF (plainFor_of_name own_pn_java_lang_String) hisR ?_
  intro p e s m args below meth c s₁ Bd hml0 hP hK
  obtain ⟨rfl, hZ, hh⟩ := hP
  have hx := Bd.exec
  have hby := Bd.bytes
  have hlk := Bd.notSynchronized
  have hml : c.maxLocals = 1 := hml0
  have hown : s.vm.findClass "java/lang/String" = some m.cls := findClass_of_methodNamed Bd.named
  have hnm := (name_of_methodNamed Bd.named Bd.method).1
  have X0 : Stand p l e ({ frames := 0, cells := 0, slots := 0, locals := 0 } : Room) s m #[(.ref a1)] below meth c s₁ [] 0 0 := Stand.of_body Bd
  have e0 : s₁.heap = h0 := by rw [← hh, Bd.state]; rfl
  have N0 := Fr.nil n0
  show Go p e below (KQ s below (Q18 Z a1 cs h0 n0) ({ frames := 0, cells := 0, slots := 0, locals := 0 } : Room).cells ({ frames := 0, cells := 0, slots := 0, locals := 0 } : Room).slots) _
  refine Go.body (T := s₁) (σ := s₁) (g' := (mkF m 0 #[.val (.ref a1)] [])) (ef_18 m a1) ?_
  obtain ⟨T28, X28, e28, st28⟩ := getS2 X0 hx hZ hown (host := "") (Or.inl (hw _ (List.mem_of_getElem? (i := 4) rfl))) Via.refl e0 S_COMPACT_STRINGS (g := (mkF m 0 #[.val (.ref a1)] [])) rfl (hb hby d18_0)
  refine Go.st st28 ?_
  show Go p e below _ (T28.setTop (mkF m 3 #[.val (.ref a1)] [(.int cs)]))
  refine g_if_eq X28 hx (hb hby d18_3) 17 6 (by decide) (by decide) rfl (fun hc3 => False.elim (hcs hc3)) (fun hc3 => ?_)
  refine g_aloadN X28 hx (hb hby d18_6) 7 rfl (v := (.ref a1)) rfl rfl ?_
  obtain ⟨T29, X29, e29, st29⟩ := getF X28 hx hZ hown (host := "") (Or.inl (hw _ (List.mem_of_getElem? (i := 24) rfl))) Via.refl e28 F_coder_a1 (g := (mkF m 7 #[.val (.ref a1)] [(.ref a1)])) rfl rfl (hb hby d18_7)
  refine Go.st st29 ?_
  show Go p e below _ (T29.setTop (mkF m 10 #[.val (.ref a1)] [(.int (0 : Int32))]))
  refine g_if_ne X29 hx (hb hby d18_10) 17 13 (by decide) (by decide) rfl (fun hc10 => False.elim (absurd rfl hc10)) (fun hc10 => ?_)
  refine g_iconst X29 hx (hb hby d18_13) 14 rfl (1 : Int32) rfl ?_
  refine g_goto X29 hx (hb hby d18_14) 18 (by decide) (by decide) ?_
  refine Go.retN X29 hx hlk (t := .boolean) Bd.returns (by simp) (hb hby d18_18) (by decide) (by decide) ?_
  show Q18 Z a1 cs h0 n0 _ T29.heap _
  rw [e29]
  exact ⟨rfl, N0, rfl⟩
theorem ef_17 (m : MethodId) (x0 : Addr) (x1 : Int32) : entryFrame m #[(.ref x0), (.int x1)] 2 = mkF m 0 #[.val (.ref x0), .val (.int x1)] [] := by first | (simp [entryFrame, mkF, argsToLocals, Value.category]; done) | rfl
theorem d17_0 : decode jdk_42_method_56_code 0 = .ok (.aload_n 0, 1) := by decide +kernel
theorem own_pd6 : parseMethodDescriptor "()Z" = some ⟨[], some .boolean⟩ := by decide +kernel
theorem d17_1 : decode jdk_42_method_56_code 1 = .ok (.invokevirtual 492, 3) := by decide +kernel
theorem d17_4 : decode jdk_42_method_56_code 4 = .ok (.ifCond .eq 12, 3) := by decide +kernel
theorem d17_7 : decode jdk_42_method_56_code 7 = .ok (.aload_n 0, 1) := by decide +kernel
theorem d17_8 : decode jdk_42_method_56_code 8 = .ok (.getfield 9, 3) := by decide +kernel
theorem d17_11 : decode jdk_42_method_56_code 11 = .ok (.iload_n 1, 1) := by decide +kernel
theorem own_pd7 : parseMethodDescriptor "([BI)C" = some ⟨[(.array .byte), .int], some .char⟩ := by decide +kernel
theorem d17_12 : decode jdk_42_method_56_code 12 = .ok (.invokestatic 495, 3) := by decide +kernel
theorem d17_15 : decode jdk_42_method_56_code 15 = .ok (.ireturn, 1) := by decide +kernel
def Q17 (Z : State) (a1 : Addr) (p2 : Int32) (cs : Int32) (sf : Value) (vb : Addr) (kb : ClassId) (z : Int32) (vs : List Value) (x : Int32) (h0 : Heap) (n0 : Nat) (v : Option Value) (h : Heap) (L : List Loc) : Prop := v = some (.int (x &&& (255 : Int32))) ∧ Fr n0 L ∧ h = h0
set_option maxRecDepth 65536 in
set_option maxHeartbeats 40000000 in
theorem rm17 (l : Launch) (Z : State) (a0 : Array Value) (hw : ∀ d ∈ tables_1, d.before a0 Z = true) (ws : List Jvm.Cond) (a1 : Addr) (p2 : Int32) (cs : Int32) (sf : Value) (vb : Addr) (kb : ClassId) (z : Int32) (vs : List Value) (x : Int32) (h0 : Heap) (n0 : Nat) (Z0 : n0 ≤ h0.size) (S_COMPACT_STRINGS : Sta Z h0 "java/lang/String" "COMPACT_STRINGS" "Z" (.int cs)) (S_SIOOBE_FORMATTER : Sta Z h0 "jdk/internal/util/Preconditions" "SIOOBE_FORMATTER" "Ljava/util/function/BiFunction;" sf) (E_a1 : Exa Z h0 a1 "java/lang/String") (F_value_a1 : Fld Z h0 a1 "java/lang/String" "value" "[B" (.ref vb)) (F_coder_a1 : Fld Z h0 a1 "java/lang/String" "coder" "B" (.int (0 : Int32))) (A_vb : Arv Z h0 vb kb .byte z vs (.int (0 : Int32))) (hcs : ¬ cs = 0) (hsf : sf.isRef = true) (hp : ¬ p2 < 0 ∧ p2 < z) (hu : vs.getD p2.toNatClampNeg (.int (0 : Int32)) = .int x) :
    MetFree l (⟨"java/lang/String", "charAt", "(I)C"⟩ : MethodName) (head1 (Jvm.Cond.code (⟨"java/lang/String", "charAt", "(I)C"⟩ : MethodName) jdk_42_method_56_code 2 (some .char) :: ws) ({ frames := 3, cells := 0, slots := 0, locals := 40 } : Room)) (fun a U => a = #[(.ref a1), (.int p2)] ∧ Z.Warmed39 U.vm ∧ U.heap = h0) (fun _ _ _ _ _ => True) (fun _ U o U' => ∃ v L, o = .returned v ∧ Q17 Z a1 p2 cs sf vb kb z vs x h0 n0 v U'.heap L ∧ FrameEnd U o U' L ({ frames := 3, cells := 0, slots := 0, locals := 40 } : Room).cells ({ frames := 3, cells := 0, slots := 0, locals := 40 } : Room).slots) := by
  refine MetFree.of_bodySF (plainFor_of_name own_pn_java_lang_String) hisR ?_
  intro p e s m args below meth c s₁ Bd hml0 hP hK
  obtain ⟨rfl, hZ, hh⟩ := hP
  have hx := Bd.exec
  have hby := Bd.bytes
  have hlk := Bd.notSynchronized
  have hml : c.maxLocals = 2 := hml0
  have hown : s.vm.findClass "java/lang/String" = some m.cls := findClass_of_methodNamed Bd.named
  have hnm := (name_of_methodNamed Bd.named Bd.method).1
  have X0 : Stand p l e ({ frames := 3, cells := 0, slots := 0, locals := 40 } : Room) s m #[(.ref a1), (.int p2)] below meth c s₁ [] 0 0 := Stand.of_body Bd
  have e0 : s₁.heap = h0 := by rw [← hh, Bd.state]; rfl
  have N0 := Fr.nil n0
  show Go p e below (KQ s below (Q17 Z a1 p2 cs sf vb kb z vs x h0 n0) ({ frames := 3, cells := 0, slots := 0, locals := 40 } : Room).cells ({ frames := 3, cells := 0, slots := 0, locals := 40 } : Room).slots) _
  refine Go.body (T := s₁) (σ := s₁) (g' := (mkF m 0 #[.val (.ref a1), .val (.int p2)] [])) (ef_17 m a1 p2) ?_
  refine g_aloadN X0 hx (hb hby d17_0) 1 rfl (v := (.ref a1)) rfl rfl ?_
  obtain ⟨cq30, kq30, q30a, q30b, q30c⟩ := isOf hZ e0 E_a1
  obtain ⟨_, _, ⟨T30, L30, k30, n30⟩, -, X30, ⟨Lc30, hQ30, l30, y30, z30⟩, st30⟩ := X0.virtualBack hx (y := (⟨"java/lang/String", "isLatin1", "()Z"⟩ : MethodName)) (z := (⟨"java/lang/String", "isLatin1", "()Z"⟩ : MethodName)) hown (mvT hZ (hw _ (List.mem_of_getElem? (i := 91) rfl))) (mvT hZ (hw _ (List.mem_of_getElem? (i := 92) rfl))) (notFace_of_selects (args := #[]) (mvT hZ (hw _ (List.mem_of_getElem? (i := 94) rfl)))) (mvT hZ (hw _ (List.mem_of_getElem? (i := 94) rfl))) (mvT hZ (hw _ (List.mem_of_getElem? (i := 93) rfl))) (by decide) (backOf (W := 0) (rm18 l Z a0 hw [] a1 cs h0 n0 Z0 S_COMPACT_STRINGS F_coder_a1 hcs) hZ (hw _ (List.mem_of_getElem? (i := 95) rfl)) (hw _ (List.mem_of_getElem? (i := 2) rfl)) (by decide) (by decide)) q30a q30c (g := (mkF m 1 #[.val (.ref a1), .val (.int p2)] [(.ref a1)])) rfl (by rw [hml]; rfl) (Steps.refl _) (argsL := []) (rest := []) (lenOf own_pd6 rfl) rfl (by show 2 * 0 + _ ≤ _; exact Nat.le_of_eq rfl) (hb hby d17_1) (fun _ _ => ⟨rfl, e0, (by decide : 0 + 0 ≤ _), (by decide : 0 + 0 ≤ _)⟩)
  dsimp only [Pt.U, Pt.locs, Pt.cells, Pt.slots] at X30 l30 y30 z30 st30 hQ30
  subst l30 y30 z30
  obtain ⟨rfl, Nq30, e30⟩ := hQ30
  refine Go.tr st30 ?_
  have N30 := Fr.app N0 Nq30
  show Go p e below _ (T30.setTop (mkF m 4 #[.val (.ref a1), .val (.int p2)] [(.int (1 : Int32))]))
  refine g_if_eq X30 hx (hb hby d17_4) 16 7 (by decide) (by decide) rfl (fun hc4 => False.elim (absurd hc4 (by decide))) (fun hc4 => ?_)
  refine g_aloadN X30 hx (hb hby d17_7) 8 rfl (v := (.ref a1)) rfl rfl ?_
  obtain ⟨T31, X31, e31, st31⟩ := getF X30 hx hZ hown (host := "") (Or.inl (hw _ (List.mem_of_getElem? (i := 22) rfl))) Via.refl e30 F_value_a1 (g := (mkF m 8 #[.val (.ref a1), .val (.int p2)] [(.ref a1)])) rfl rfl (hb hby d17_8)
  refine Go.st st31 ?_
  show Go p e below _ (T31.setTop (mkF m 11 #[.val (.ref a1), .val (.int p2)] [(.ref vb)]))
  refine g_iloadN X31 hx (hb hby d17_11) 12 rfl (v := p2) rfl ?_
  obtain ⟨_, _, ⟨T32, L32, k32, n32⟩, -, X32, ⟨Lc32, hQ32, l32, y32, z32⟩, st32⟩ := Jvm.LawKit.callS X31 hx (y := (⟨"java/lang/StringLatin1", "charAt", "([BI)C"⟩ : MethodName)) hown (mvT hZ (hw _ (List.mem_of_getElem? (i := 96) rfl))) (mvT hZ (hw _ (List.mem_of_getElem? (i := 97) rfl))) (mvT hZ (hw _ (List.mem_of_getElem? (i := 7) rfl))) (mvT hZ (hw _ (List.mem_of_getElem? (i := 98) rfl))) (by decide) (backOf (W := 0) (rm19 l Z a0 hw [] vb p2 sf kb z vs x h0 n0 Z0 S_SIOOBE_FORMATTER A_vb hsf hp hu) hZ (hw _ (List.mem_of_getElem? (i := 98) rfl)) (hw _ (List.mem_of_getElem? (i := 7) rfl)) (by decide) (by decide)) (g := (mkF m 12 #[.val (.ref a1), .val (.int p2)] [(.int p2), (.ref vb)])) rfl (by rw [hml]; rfl) (argsL := [(.ref vb), (.int p2)]) (rest := []) (lenOf own_pd7 rfl) rfl (by show 2 * 0 + _ ≤ _; exact Nat.le_of_eq rfl) (hb hby d17_12) (fun _ _ => ⟨rfl, e31, (by decide : 0 + 0 ≤ _), (by decide : 0 + 0 ≤ _)⟩)
  dsimp only [Pt.U, Pt.locs, Pt.cells, Pt.slots] at X32 l32 y32 z32 st32 hQ32
  subst l32 y32 z32
  obtain ⟨rfl, Nq32, e32⟩ := hQ32
  refine Go.st st32 ?_
  have N32 := Fr.app N30 Nq32
  show Go p e below _ (T32.setTop (mkF m 15 #[.val (.ref a1), .val (.int p2)] [(.int (x &&& (255 : Int32)))]))
  refine Go.retN X32 hx hlk (t := .char) Bd.returns (by simp) (hb hby d17_15) (by decide) (by decide) ?_
  show Q17 Z a1 p2 cs sf vb kb z vs x h0 n0 _ T32.heap _
  rw [e32]
  exact ⟨(by rw [own_nc]), N32, rfl⟩
theorem own_pn_com_example_anagrafe_anagrafe_atom_Markup : plainName "com/example/anagrafe/anagrafe/atom/Markup" = true := by first | (simp [plainName, overriddenIn]; done) | decide +kernel
theorem ef_6 (m : MethodId) (x0 : Addr) : entryFrame m #[(.ref x0)] 1 = mkF m 0 #[.val (.ref x0)] [] := by first | (simp [entryFrame, mkF, argsToLocals, Value.category]; done) | rfl
theorem d6_0 : decode prog_9_method_1_code 0 = .ok (.aload_n 0, 1) := by decide +kernel
theorem d6_1 : decode prog_9_method_1_code 1 = .ok (.invokespecial 1, 3) := by decide +kernel
theorem d6_4 : decode prog_9_method_1_code 4 = .ok (.aload_n 0, 1) := by decide +kernel
theorem d6_5 : decode prog_9_method_1_code 5 = .ok (.sipush 16384, 3) := by decide +kernel
theorem d6_8 : decode prog_9_method_1_code 8 = .ok (.newarray .byte, 2) := by decide +kernel
theorem d6_10 : decode prog_9_method_1_code 10 = .ok (.putfield 9, 3) := by decide +kernel
theorem d6_13 : decode prog_9_method_1_code 13 = .ok (.return_, 1) := by decide +kernel
def Q6 (Z : State) (a1 : Addr) (u : Value) (h0 : Heap) (n0 : Nat) (v : Option Value) (h : Heap) (L : List Loc) : Prop := ∃ wq : Addr, ∃ kq : ClassId, v = none ∧ Fr n0 L ∧ Keep h0 h [a1] ∧ h0.size ≤ wq ∧ (Exa Z h a1 "com/example/anagrafe/anagrafe/atom/Markup") ∧ (Fld Z h a1 "com/example/anagrafe/anagrafe/atom/Markup" "bytes" "[B" (.ref wq)) ∧ (Fld Z h a1 "com/example/anagrafe/anagrafe/atom/Markup" "size" "I" (.int (Int32.ofNat 0))) ∧ (Arv Z h wq kq .byte (Int32.ofNat 16384) [] (.int (0 : Int32)))
set_option maxRecDepth 65536 in
set_option maxHeartbeats 40000000 in
theorem rm6 (l : Launch) (Z : State) (a0 : Array Value) (hw : ∀ d ∈ tables_1, d.before a0 Z = true) (ws : List Jvm.Cond) (a1 : Addr) (u : Value) (h0 : Heap) (n0 : Nat) (Z0 : n0 ≤ h0.size) (E_a1 : Exa Z h0 a1 "com/example/anagrafe/anagrafe/atom/Markup") (g_a1 : n0 ≤ a1) (F_bytes_a1 : Fld Z h0 a1 "com/example/anagrafe/anagrafe/atom/Markup" "bytes" "[B" u) (F_size_a1 : Fld Z h0 a1 "com/example/anagrafe/anagrafe/atom/Markup" "size" "I" (.int (0 : Int32))) :
    MetFree l (⟨"com/example/anagrafe/anagrafe/atom/Markup", "<init>", "()V"⟩ : MethodName) (head1 (Jvm.Cond.code (⟨"com/example/anagrafe/anagrafe/atom/Markup", "<init>", "()V"⟩ : MethodName) prog_9_method_1_code 1 none :: ws) ({ frames := 1, cells := 1, slots := 16384, locals := 12 } : Room)) (fun a U => a = #[(.ref a1)] ∧ Z.Warmed39 U.vm ∧ U.heap = h0) (fun _ _ _ _ _ => True) (fun _ U o U' => ∃ v L, o = .returned v ∧ Q6 Z a1 u h0 n0 v U'.heap L ∧ FrameEnd U o U' L ({ frames := 1, cells := 1, slots := 16384, locals := 12 } : Room).cells ({ frames := 1, cells := 1, slots := 16384, locals := 12 } : Room).slots) := by
  refine MetFree.of_bodySF (plainFor_of_name own_pn_com_example_anagrafe_anagrafe_atom_Markup) hisR ?_
  intro p e s m args below meth c s₁ Bd hml0 hP hK
  obtain ⟨rfl, hZ, hh⟩ := hP
  have hx := Bd.exec
  have hby := Bd.bytes
  have hlk := Bd.notSynchronized
  have hml : c.maxLocals = 1 := hml0
  have hown : s.vm.findClass "com/example/anagrafe/anagrafe/atom/Markup" = some m.cls := findClass_of_methodNamed Bd.named
  have hnm := (name_of_methodNamed Bd.named Bd.method).1
  have X0 : Stand p l e ({ frames := 1, cells := 1, slots := 16384, locals := 12 } : Room) s m #[(.ref a1)] below meth c s₁ [] 0 0 := Stand.of_body Bd
  have e0 : s₁.heap = h0 := by rw [← hh, Bd.state]; rfl
  have N0 := Fr.nil n0
  have K0 : Keep h0 h0 [a1] := Keep.refl _ _
  show Go p e below (KQ s below (Q6 Z a1 u h0 n0) ({ frames := 1, cells := 1, slots := 16384, locals := 12 } : Room).cells ({ frames := 1, cells := 1, slots := 16384, locals := 12 } : Room).slots) _
  refine Go.body (T := s₁) (σ := s₁) (g' := (mkF m 0 #[.val (.ref a1)] [])) (ef_6 m a1) ?_
  refine g_aloadN X0 hx (hb hby d6_0) 1 rfl (v := (.ref a1)) rfl rfl ?_
  obtain ⟨T33, X33, e33, st33⟩ := initO X0 hx hZ hown (hw _ (List.mem_of_getElem? (i := 32) rfl)) (hw _ (List.mem_of_getElem? (i := 20) rfl)) (hw _ (List.mem_of_getElem? (i := 21) rfl)) e0 (g := (mkF m 1 #[.val (.ref a1)] [(.ref a1)])) rfl (by rw [hml]; rfl) rfl (hb hby d6_1) (by decide) (W := 0) (by show 2 * 0 + _ ≤ _; exact Nat.le_of_eq rfl) (by decide)
  refine Go.st st33 ?_
  show Go p e below _ (T33.setTop (mkF m 4 #[.val (.ref a1)] []))
  refine g_aloadN X33 hx (hb hby d6_4) 5 rfl (v := (.ref a1)) rfl rfl ?_
  refine g_sipush X33 hx (hb hby d6_5) 8 rfl (16384 : Int32) rfl ?_
  obtain ⟨T34, h34, cA34, X34, e34, E34, A34, st34⟩ := newP X33 hx hZ (aty := .byte) (hw _ (List.mem_of_getElem? (i := 14) rfl)) e33 (g := (mkF m 8 #[.val (.ref a1)] [(.int (16384 : Int32)), (.ref a1)])) rfl (hb hby d6_8) rfl (by decide) (cap := 16384) (by decide) (by decide) (by decide) (by decide)
  refine Go.st st34 ?_
  obtain ⟨ow, q34⟩ : ∃ z, z = h0.size := ⟨_, rfl⟩
  rw [← q34] at A34 ⊢
  have ne_a1_ow : a1 ≠ ow := Nat.ne_of_lt (Nat.lt_of_lt_of_eq E_a1.lt q34.symm)
  have g_ow : n0 ≤ ow := Nat.le_trans Z0 (Nat.le_of_eq q34.symm)
  have mh_ow : h0.size ≤ ow := Nat.le_trans K0.1 (Nat.le_of_eq q34.symm)
  have E_a1_35 : Exa Z h34 a1 "com/example/anagrafe/anagrafe/atom/Markup" := Exa.ext E34 E_a1
  have F_bytes_a1_35 : Fld Z h34 a1 "com/example/anagrafe/anagrafe/atom/Markup" "bytes" "[B" u := Fld.ext E34 F_bytes_a1
  have F_size_a1_35 : Fld Z h34 a1 "com/example/anagrafe/anagrafe/atom/Markup" "size" "I" (.int (0 : Int32)) := Fld.ext E34 F_size_a1
  have K34 : Keep h0 h34 [a1] := Keep.ext K0 E34
  have Zs34 : n0 ≤ h34.size := Nat.le_trans Z0 E34.1
  have Av_ow : Arv Z h34 ow cA34 .byte (16384 : Int32) [] (.int (0 : Int32)) := Arv.new A34 (by decide)
  show Go p e below _ (T34.setTop (mkF m 10 #[.val (.ref a1)] [(.ref ow), (.ref a1)]))
  obtain ⟨T36, h36, X36, e36, W36, st36⟩ := putF X34 hx hZ hown (host := "") (Or.inl (hw _ (List.mem_of_getElem? (i := 33) rfl))) Via.refl e34 F_bytes_a1_35 E_a1_35 (Or.inl (hw _ (List.mem_of_getElem? (i := 34) rfl))) (hw _ (List.mem_of_getElem? (i := 27) rfl)) (ty := (.array .byte)) (by decide) rfl rfl (g := (mkF m 10 #[.val (.ref a1)] [(.ref ow), (.ref a1)])) rfl rfl (hb hby d6_10)
  refine Go.st st36 ?_
  have E_a1_37 : Exa Z h36 a1 "com/example/anagrafe/anagrafe/atom/Markup" := Exa.wr W36 E_a1_35
  have F_size_a1_37 : Fld Z h36 a1 "com/example/anagrafe/anagrafe/atom/Markup" "size" "I" (.int (0 : Int32)) := Fld.other W36 F_size_a1_35 (Or.inr (slot_ne (Or.inl (hw _ (List.mem_of_getElem? (i := 41) rfl))) (Or.inl (hw _ (List.mem_of_getElem? (i := 34) rfl))) (by decide) (t := .int) (t' := (.array .byte)) (by decide) (by decide)))
  have A_ow_37 : Arv Z h36 ow cA34 .byte (16384 : Int32) [] (.int (0 : Int32)) := Arv.other Av_ow W36 (Ne.symm ne_a1_ow)
  have F_bytes_a1_36w : Fld Z h36 a1 "com/example/anagrafe/anagrafe/atom/Markup" "bytes" "[B" (.ref ow) := Fld.same W36 F_bytes_a1_35
  have K36 : Keep h0 h36 [a1] := Keep.wr K34 W36 (Or.inl (List.mem_of_getElem? (i := 0) rfl))
  have N36 := Fr.snoc X36 N0 g_a1
  have Zs36 : n0 ≤ h36.size := by rw [W36.size]; exact Zs34
  show Go p e below _ (T36.setTop (mkF m 13 #[.val (.ref a1)] []))
  refine Go.retV X36 hx hlk Bd.returns (hb hby d6_13) (by decide) (by decide) ?_
  show Q6 Z a1 u h0 n0 _ T36.heap _
  rw [e36]
  exact ⟨ow, cA34, rfl, N36, K36, mh_ow, E_a1_37, F_bytes_a1_36w, F_size_a1_37, A_ow_37⟩
theorem ef_11 (m : MethodId) (x0 : Addr) (x1 : Int32) : entryFrame m #[(.ref x0), (.int x1)] 3 = mkF m 0 #[.val (.ref x0), .val (.int x1), .unset] [] := by first | (simp [entryFrame, mkF, argsToLocals, Value.category]; done) | rfl
theorem d11_0 : decode prog_9_method_10_code 0 = .ok (.aload_n 0, 1) := by decide +kernel
theorem d11_1 : decode prog_9_method_10_code 1 = .ok (.getfield 29, 3) := by decide +kernel
theorem d11_4 : decode prog_9_method_10_code 4 = .ok (.bipush 6, 2) := by decide +kernel
theorem d11_6 : decode prog_9_method_10_code 6 = .ok (.iload_n 1, 1) := by decide +kernel
theorem d11_7 : decode prog_9_method_10_code 7 = .ok (.imul, 1) := by decide +kernel
theorem d11_8 : decode prog_9_method_10_code 8 = .ok (.iadd, 1) := by decide +kernel
theorem d11_9 : decode prog_9_method_10_code 9 = .ok (.istore_n 2, 1) := by decide +kernel
theorem d11_10 : decode prog_9_method_10_code 10 = .ok (.iload_n 2, 1) := by decide +kernel
theorem d11_11 : decode prog_9_method_10_code 11 = .ok (.aload_n 0, 1) := by decide +kernel
theorem d11_12 : decode prog_9_method_10_code 12 = .ok (.getfield 9, 3) := by decide +kernel
theorem d11_15 : decode prog_9_method_10_code 15 = .ok (.arraylength, 1) := by decide +kernel
theorem d11_16 : decode prog_9_method_10_code 16 = .ok (.if_icmp .le 25, 3) := by decide +kernel
theorem d11_41 : decode prog_9_method_10_code 41 = .ok (.return_, 1) := by decide +kernel
def Q11 (Z : State) (a1 : Addr) (p1 : Int32) (wb : Addr) (kb : ClassId) (N : Nat) (vs : List Value) (h0 : Heap) (n0 : Nat) (v : Option Value) (h : Heap) (L : List Loc) : Prop := v = none ∧ Fr n0 L ∧ h = h0
set_option maxRecDepth 65536 in
set_option maxHeartbeats 40000000 in
theorem rm11 (l : Launch) (Z : State) (a0 : Array Value) (hw : ∀ d ∈ tables_1, d.before a0 Z = true) (ws : List Jvm.Cond) (a1 : Addr) (p1 : Int32) (wb : Addr) (kb : ClassId) (N : Nat) (vs : List Value) (h0 : Heap) (n0 : Nat) (Z0 : n0 ≤ h0.size) (E_a1 : Exa Z h0 a1 "com/example/anagrafe/anagrafe/atom/Markup") (F_bytes_a1 : Fld Z h0 a1 "com/example/anagrafe/anagrafe/atom/Markup" "bytes" "[B" (.ref wb)) (F_size_a1 : Fld Z h0 a1 "com/example/anagrafe/anagrafe/atom/Markup" "size" "I" (.int (Int32.ofNat N))) (A_wb : Arv Z h0 wb kb .byte (Int32.ofNat 16384) vs (.int (0 : Int32))) (hr : ¬ Int32.ofNat 16384 < Int32.ofNat N + (6 : Int32) * p1) :
    MetFree l (⟨"com/example/anagrafe/anagrafe/atom/Markup", "room", "(I)V"⟩ : MethodName) (head1 (Jvm.Cond.code (⟨"com/example/anagrafe/anagrafe/atom/Markup", "room", "(I)V"⟩ : MethodName) prog_9_method_10_code 3 none :: ws) ({ frames := 0, cells := 0, slots := 0, locals := 0 } : Room)) (fun a U => a = #[(.ref a1), (.int p1)] ∧ Z.Warmed39 U.vm ∧ U.heap = h0) (fun _ _ _ _ _ => True) (fun _ U o U' => ∃ v L, o = .returned v ∧ Q11 Z a1 p1 wb kb N vs h0 n0 v U'.heap L ∧ FrameEnd U o U' L ({ frames := 0, cells := 0, slots := 0, locals := 0 } : Room).cells ({ frames := 0, cells := 0, slots := 0, locals := 0 } : Room).slots) := by
  refine MetFree.of_bodySF (plainFor_of_name own_pn_com_example_anagrafe_anagrafe_atom_Markup) hisR ?_
  intro p e s m args below meth c s₁ Bd hml0 hP hK
  obtain ⟨rfl, hZ, hh⟩ := hP
  have hx := Bd.exec
  have hby := Bd.bytes
  have hlk := Bd.notSynchronized
  have hml : c.maxLocals = 3 := hml0
  have hown : s.vm.findClass "com/example/anagrafe/anagrafe/atom/Markup" = some m.cls := findClass_of_methodNamed Bd.named
  have hnm := (name_of_methodNamed Bd.named Bd.method).1
  have X0 : Stand p l e ({ frames := 0, cells := 0, slots := 0, locals := 0 } : Room) s m #[(.ref a1), (.int p1)] below meth c s₁ [] 0 0 := Stand.of_body Bd
  have e0 : s₁.heap = h0 := by rw [← hh, Bd.state]; rfl
  have N0 := Fr.nil n0
  show Go p e below (KQ s below (Q11 Z a1 p1 wb kb N vs h0 n0) ({ frames := 0, cells := 0, slots := 0, locals := 0 } : Room).cells ({ frames := 0, cells := 0, slots := 0, locals := 0 } : Room).slots) _
  refine Go.body (T := s₁) (σ := s₁) (g' := (mkF m 0 #[.val (.ref a1), .val (.int p1), .unset] [])) (ef_11 m a1 p1) ?_
  refine g_aloadN X0 hx (hb hby d11_0) 1 rfl (v := (.ref a1)) rfl rfl ?_
  obtain ⟨T38, X38, e38, st38⟩ := getF X0 hx hZ hown (host := "") (Or.inl (hw _ (List.mem_of_getElem? (i := 40) rfl))) Via.refl e0 F_size_a1 (g := (mkF m 1 #[.val (.ref a1), .val (.int p1), .unset] [(.ref a1)])) rfl rfl (hb hby d11_1)
  refine Go.st st38 ?_
  show Go p e below _ (T38.setTop (mkF m 4 #[.val (.ref a1), .val (.int p1), .unset] [(.int (Int32.ofNat N))]))
  refine g_bipush X38 hx (hb hby d11_4) 6 rfl (6 : Int32) rfl ?_
  refine g_iloadN X38 hx (hb hby d11_6) 7 rfl (v := p1) rfl ?_
  refine g_imul X38 hx (hb hby d11_7) 8 rfl ((6 : Int32) * p1) rfl ?_
  refine g_iadd X38 hx (hb hby d11_8) 9 rfl ((Int32.ofNat N) + ((6 : Int32) * p1)) rfl ?_
  refine g_istoreN X38 hx (hb hby d11_9) 10 rfl #[.val (.ref a1), .val (.int p1), .val (.int ((Int32.ofNat N) + ((6 : Int32) * p1)))] rfl ?_
  refine g_iloadN X38 hx (hb hby d11_10) 11 rfl (v := ((Int32.ofNat N) + ((6 : Int32) * p1))) rfl ?_
  refine g_aloadN X38 hx (hb hby d11_11) 12 rfl (v := (.ref a1)) rfl rfl ?_
  obtain ⟨T39, X39, e39, st39⟩ := getF X38 hx hZ hown (host := "") (Or.inl (hw _ (List.mem_of_getElem? (i := 33) rfl))) Via.refl e38 F_bytes_a1 (g := (mkF m 12 #[.val (.ref a1), .val (.int p1), .val (.int ((Int32.ofNat N) + ((6 : Int32) * p1)))] [(.ref a1), (.int ((Int32.ofNat N) + ((6 : Int32) * p1)))])) rfl rfl (hb hby d11_12)
  refine Go.st st39 ?_
  show Go p e below _ (T39.setTop (mkF m 15 #[.val (.ref a1), .val (.int p1), .val (.int ((Int32.ofNat N) + ((6 : Int32) * p1)))] [(.ref wb), (.int ((Int32.ofNat N) + ((6 : Int32) * p1)))]))
  refine g_alen X39 hx (hb hby d11_15) 16 rfl hZ e39 A_wb ?_
  refine g_icmp_le X39 hx (hb hby d11_16) 41 19 (by decide) (by decide) rfl (fun hc16 => ?_) (fun hc16 => False.elim (hr hc16))
  refine Go.retV X39 hx hlk Bd.returns (hb hby d11_41) (by decide) (by decide) ?_
  show Q11 Z a1 p1 wb kb N vs h0 n0 _ T39.heap _
  rw [e39]
  exact ⟨rfl, N0, rfl⟩
theorem ef_9 (m : MethodId) (x0 : Int32) (x1 : Int32) : entryFrame m #[(.int x0), (.int x1)] 2 = mkF m 0 #[.val (.int x0), .val (.int x1)] [] := by first | (simp [entryFrame, mkF, argsToLocals, Value.category]; done) | rfl
theorem d9_0 : decode jdk_29_method_69_code 0 = .ok (.iload_n 0, 1) := by decide +kernel
theorem d9_1 : decode jdk_29_method_69_code 1 = .ok (.iload_n 1, 1) := by decide +kernel
theorem d9_2 : decode jdk_29_method_69_code 2 = .ok (.if_icmp .gt 7, 3) := by decide +kernel
theorem d9_9 : decode jdk_29_method_69_code 9 = .ok (.iload_n 1, 1) := by decide +kernel
theorem d9_10 : decode jdk_29_method_69_code 10 = .ok (.ireturn, 1) := by decide +kernel
theorem d9_5 : decode jdk_29_method_69_code 5 = .ok (.iload_n 0, 1) := by decide +kernel
theorem d9_6 : decode jdk_29_method_69_code 6 = .ok (.goto 4, 3) := by decide +kernel
def Q9 (Z : State) (p1 : Int32) (p2 : Int32) (h0 : Heap) (n0 : Nat) (v : Option Value) (h : Heap) (L : List Loc) : Prop := ∃ r : Int32, v = some (.int r) ∧ Fr n0 L ∧ h = h0 ∧ (r = if p2 < p1 then p2 else p1)
set_option maxRecDepth 65536 in
set_option maxHeartbeats 40000000 in
theorem rm9 (l : Launch) (Z : State) (a0 : Array Value) (hw : ∀ d ∈ tables_1, d.before a0 Z = true) (ws : List Jvm.Cond) (p1 : Int32) (p2 : Int32) (h0 : Heap) (n0 : Nat) (Z0 : n0 ≤ h0.size)  :
    MetFree l (⟨"java/lang/Math", "min", "(II)I"⟩ : MethodName) (head1 (Jvm.Cond.code (⟨"java/lang/Math", "min", "(II)I"⟩ : MethodName) jdk_29_method_69_code 2 (some .int) :: ws) ({ frames := 0, cells := 0, slots := 0, locals := 0 } : Room)) (fun a U => a = #[(.int p1), (.int p2)] ∧ Z.Warmed39 U.vm ∧ U.heap = h0) (fun _ _ _ _ _ => True) (fun _ U o U' => ∃ v L, o = .returned v ∧ Q9 Z p1 p2 h0 n0 v U'.heap L ∧ FrameEnd U o U' L ({ frames := 0, cells := 0, slots := 0, locals := 0 } : Room).cells ({ frames := 0, cells := 0, slots := 0, locals := 0 } : Room).slots) := by
  refine MetFree.of_bodySF (Jvm.Free.JP.mathPlain rfl (by decide +kernel)) hisR ?_
  intro p e s m args below meth c s₁ Bd hml0 hP hK
  obtain ⟨rfl, hZ, hh⟩ := hP
  have hx := Bd.exec
  have hby := Bd.bytes
  have hlk := Bd.notSynchronized
  have hml : c.maxLocals = 2 := hml0
  have hown : s.vm.findClass "java/lang/Math" = some m.cls := findClass_of_methodNamed Bd.named
  have hnm := (name_of_methodNamed Bd.named Bd.method).1
  have X0 : Stand p l e ({ frames := 0, cells := 0, slots := 0, locals := 0 } : Room) s m #[(.int p1), (.int p2)] below meth c s₁ [] 0 0 := Stand.of_body Bd
  have e0 : s₁.heap = h0 := by rw [← hh, Bd.state]; rfl
  have N0 := Fr.nil n0
  show Go p e below (KQ s below (Q9 Z p1 p2 h0 n0) ({ frames := 0, cells := 0, slots := 0, locals := 0 } : Room).cells ({ frames := 0, cells := 0, slots := 0, locals := 0 } : Room).slots) _
  refine Go.body (T := s₁) (σ := s₁) (g' := (mkF m 0 #[.val (.int p1), .val (.int p2)] [])) (ef_9 m p1 p2) ?_
  refine g_iloadN X0 hx (hb hby d9_0) 1 rfl (v := p1) rfl ?_
  refine g_iloadN X0 hx (hb hby d9_1) 2 rfl (v := p2) rfl ?_
  refine g_icmp_gt X0 hx (hb hby d9_2) 9 5 (by decide) (by decide) rfl (fun hc2 => ?_) (fun hc2 => ?_)
  · refine g_iloadN X0 hx (hb hby d9_9) 10 rfl (v := p2) rfl ?_
    refine Go.retI X0 hx hlk Bd.returns (hb hby d9_10) (by decide) (by decide) ?_
    show Q9 Z p1 p2 h0 n0 _ s₁.heap _
    rw [e0]
    exact ⟨p2, rfl, N0, rfl, (by simp [hc2])⟩
  · refine g_iloadN X0 hx (hb hby d9_5) 6 rfl (v := p1) rfl ?_
    refine g_goto X0 hx (hb hby d9_6) 10 (by decide) (by decide) ?_
    refine Go.retI X0 hx hlk Bd.returns (hb hby d9_10) (by decide) (by decide) ?_
    show Q9 Z p1 p2 h0 n0 _ s₁.heap _
    rw [e0]
    exact ⟨p1, rfl, N0, rfl, (by simp [hc2])⟩
theorem own_pn_java_util_Arrays : plainName "java/util/Arrays" = true := by first | (simp [plainName, overriddenIn]; done) | decide +kernel
theorem ef_8 (m : MethodId) (x0 : Addr) (x1 : Int32) : entryFrame m #[(.ref x0), (.int x1)] 3 = mkF m 0 #[.val (.ref x0), .val (.int x1), .unset] [] := by first | (simp [entryFrame, mkF, argsToLocals, Value.category]; done) | rfl
theorem d8_0 : decode jdk_65_method_121_code 0 = .ok (.iload_n 1, 1) := by decide +kernel
theorem d8_1 : decode jdk_65_method_121_code 1 = .ok (.aload_n 0, 1) := by decide +kernel
theorem d8_2 : decode jdk_65_method_121_code 2 = .ok (.arraylength, 1) := by decide +kernel
theorem d8_3 : decode jdk_65_method_121_code 3 = .ok (.if_icmp .ne 11, 3) := by decide +kernel
theorem d8_14 : decode jdk_65_method_121_code 14 = .ok (.iload_n 1, 1) := by decide +kernel
theorem d8_15 : decode jdk_65_method_121_code 15 = .ok (.newarray .byte, 2) := by decide +kernel
theorem d8_17 : decode jdk_65_method_121_code 17 = .ok (.astore_n 2, 1) := by decide +kernel
theorem d8_18 : decode jdk_65_method_121_code 18 = .ok (.aload_n 0, 1) := by decide +kernel
theorem d8_19 : decode jdk_65_method_121_code 19 = .ok (.iconst 0, 1) := by decide +kernel
theorem d8_20 : decode jdk_65_method_121_code 20 = .ok (.aload_n 2, 1) := by decide +kernel
theorem d8_21 : decode jdk_65_method_121_code 21 = .ok (.iconst 0, 1) := by decide +kernel
theorem d8_22 : decode jdk_65_method_121_code 22 = .ok (.aload_n 0, 1) := by decide +kernel
theorem d8_23 : decode jdk_65_method_121_code 23 = .ok (.arraylength, 1) := by decide +kernel
theorem d8_24 : decode jdk_65_method_121_code 24 = .ok (.iload_n 1, 1) := by decide +kernel
theorem own_pd8 : parseMethodDescriptor "(II)I" = some ⟨[.int, .int], some .int⟩ := by decide +kernel
theorem d8_25 : decode jdk_65_method_121_code 25 = .ok (.invokestatic 304, 3) := by decide +kernel
theorem d8_28 : decode jdk_65_method_121_code 28 = .ok (.invokestatic 150, 3) := by decide +kernel
theorem d8_31 : decode jdk_65_method_121_code 31 = .ok (.aload_n 2, 1) := by decide +kernel
theorem d8_32 : decode jdk_65_method_121_code 32 = .ok (.areturn, 1) := by decide +kernel
def Q8 (Z : State) (a1 : Addr) (k : ClassId) (vs : List Value) (N : Nat) (h0 : Heap) (n0 : Nat) (v : Option Value) (h : Heap) (L : List Loc) : Prop := ∃ b : Addr, ∃ kq : ClassId, v = some (.ref b) ∧ Fr n0 L ∧ Keep h0 h [] ∧ h0.size ≤ b ∧ (Arv Z h b kq .byte (Int32.ofNat N) vs (.int (0 : Int32)))
set_option maxRecDepth 65536 in
set_option maxHeartbeats 40000000 in
theorem rm8 (l : Launch) (Z : State) (a0 : Array Value) (hw : ∀ d ∈ tables_1, d.before a0 Z = true) (ws : List Jvm.Cond) (a1 : Addr) (k : ClassId) (vs : List Value) (N : Nat) (h0 : Heap) (n0 : Nat) (Z0 : n0 ≤ h0.size) (A_a1 : Arv Z h0 a1 k .byte (Int32.ofNat 16384) vs (.int (0 : Int32))) (hN : vs.length = N) (hM : N ≤ 8) :
    MetFree l (⟨"java/util/Arrays", "copyOf", "([BI)[B"⟩ : MethodName) (head1 (Jvm.Cond.code (⟨"java/util/Arrays", "copyOf", "([BI)[B"⟩ : MethodName) jdk_65_method_121_code 3 (some (.array .byte)) :: ws) ({ frames := 1, cells := 1, slots := 8, locals := 18 } : Room)) (fun a U => a = #[(.ref a1), (.int (Int32.ofNat N))] ∧ Z.Warmed39 U.vm ∧ U.heap = h0) (fun _ _ _ _ _ => True) (fun _ U o U' => ∃ v L, o = .returned v ∧ Q8 Z a1 k vs N h0 n0 v U'.heap L ∧ FrameEnd U o U' L ({ frames := 1, cells := 1, slots := 8, locals := 18 } : Room).cells ({ frames := 1, cells := 1, slots := 8, locals := 18 } : Room).slots) := by
  refine MetFree.of_bodySF (plainFor_of_name own_pn_java_util_Arrays) hisR ?_
  intro p e s m args below meth c s₁ Bd hml0 hP hK
  obtain ⟨rfl, hZ, hh⟩ := hP
  have hx := Bd.exec
  have hby := Bd.bytes
  have hlk := Bd.notSynchronized
  have hml : c.maxLocals = 3 := hml0
  have hown : s.vm.findClass "java/util/Arrays" = some m.cls := findClass_of_methodNamed Bd.named
  have hnm := (name_of_methodNamed Bd.named Bd.method).1
  have X0 : Stand p l e ({ frames := 1, cells := 1, slots := 8, locals := 18 } : Room) s m #[(.ref a1), (.int (Int32.ofNat N))] below meth c s₁ [] 0 0 := Stand.of_body Bd
  have e0 : s₁.heap = h0 := by rw [← hh, Bd.state]; rfl
  have N0 := Fr.nil n0
  have K0 : Keep h0 h0 [] := Keep.refl _ _
  show Go p e below (KQ s below (Q8 Z a1 k vs N h0 n0) ({ frames := 1, cells := 1, slots := 8, locals := 18 } : Room).cells ({ frames := 1, cells := 1, slots := 8, locals := 18 } : Room).slots) _
  refine Go.body (T := s₁) (σ := s₁) (g' := (mkF m 0 #[.val (.ref a1), .val (.int (Int32.ofNat N)), .unset] [])) (ef_8 m a1 (Int32.ofNat N)) ?_
  refine g_iloadN X0 hx (hb hby d8_0) 1 rfl (v := (Int32.ofNat N)) rfl ?_
  refine g_aloadN X0 hx (hb hby d8_1) 2 rfl (v := (.ref a1)) rfl rfl ?_
  refine g_alen X0 hx (hb hby d8_2) 3 rfl hZ e0 A_a1 ?_
  refine g_icmp_ne X0 hx (hb hby d8_3) 14 6 (by decide) (by decide) rfl (fun hc3 => ?_) (fun hc3 => False.elim (absurd (own_eqn (by omega) (by omega) hc3) (by omega)))
  refine g_iloadN X0 hx (hb hby d8_14) 15 rfl (v := (Int32.ofNat N)) rfl ?_
  obtain ⟨T42, h42, cA42, X42, e42, E42, A42, st42⟩ := newP X0 hx hZ (aty := .byte) (hw _ (List.mem_of_getElem? (i := 14) rfl)) e0 (g := (mkF m 15 #[.val (.ref a1), .val (.int (Int32.ofNat N)), .unset] [(.int (Int32.ofNat N))])) rfl (hb hby d8_15) rfl (own_in (N := N + 1) (by omega) (by omega)).1 (cap := 8) (by rw [own_cl (by omega)]; exact hM) (by decide) (by decide) (by decide)
  refine Go.st st42 ?_
  obtain ⟨ob, q42⟩ : ∃ z, z = h0.size := ⟨_, rfl⟩
  rw [← q42] at A42 ⊢
  have g_ob : n0 ≤ ob := Nat.le_trans Z0 (Nat.le_of_eq q42.symm)
  have mh_ob : h0.size ≤ ob := Nat.le_trans K0.1 (Nat.le_of_eq q42.symm)
  have K42 : Keep h0 h42 [] := Keep.ext K0 E42
  have Zs42 : n0 ≤ h42.size := Nat.le_trans Z0 E42.1
  have Av_ob : Arv Z h42 ob cA42 .byte (Int32.ofNat N) (List.replicate N (.int (0 : Int32))) (.int (0 : Int32)) := Arv.pad (Arv.new A42 (own_in (N := N + 1) (by omega) (by omega)).1) (pad_rep [] (.int (0 : Int32)) N)
  show Go p e below _ (T42.setTop (mkF m 17 #[.val (.ref a1), .val (.int (Int32.ofNat N)), .unset] [(.ref ob)]))
  refine g_astoreN X42 hx (hb hby d8_17) 18 rfl rfl #[.val (.ref a1), .val (.int (Int32.ofNat N)), .val (.ref ob)] rfl ?_
  refine g_aloadN X42 hx (hb hby d8_18) 19 rfl (v := (.ref a1)) rfl rfl ?_
  refine g_iconst X42 hx (hb hby d8_19) 20 rfl (0 : Int32) rfl ?_
  refine g_aloadN X42 hx (hb hby d8_20) 21 rfl (v := (.ref ob)) rfl rfl ?_
  refine g_iconst X42 hx (hb hby d8_21) 22 rfl (0 : Int32) rfl ?_
  refine g_aloadN X42 hx (hb hby d8_22) 23 rfl (v := (.ref a1)) rfl rfl ?_
  refine g_alen X42 hx (hb hby d8_23) 24 rfl hZ e42 (Arv.keep A_a1 K42 nin0) ?_
  refine g_iloadN X42 hx (hb hby d8_24) 25 rfl (v := (Int32.ofNat N)) rfl ?_
  obtain ⟨_, _, ⟨T45, L45, k45, n45⟩, -, X45, ⟨Lc45, hQ45, l45, y45, z45⟩, st45⟩ := Jvm.LawKit.callS X42 hx (y := (⟨"java/lang/Math", "min", "(II)I"⟩ : MethodName)) hown (mvT hZ (hw _ (List.mem_of_getElem? (i := 46) rfl))) (mvT hZ (hw _ (List.mem_of_getElem? (i := 47) rfl))) (mvT hZ (hw _ (List.mem_of_getElem? (i := 48) rfl))) (mvT hZ (hw _ (List.mem_of_getElem? (i := 49) rfl))) (by decide) (backOf (W := 4) (rm9 l Z a0 hw [] (Int32.ofNat 16384) (Int32.ofNat N) h42 n0 Zs42 ) hZ (hw _ (List.mem_of_getElem? (i := 49) rfl)) (hw _ (List.mem_of_getElem? (i := 48) rfl)) (by decide) (by decide)) (g := (mkF m 25 #[.val (.ref a1), .val (.int (Int32.ofNat N)), .val (.ref ob)] [(.int (Int32.ofNat N)), (.int (Int32.ofNat 16384)), (.int (0 : Int32)), (.ref ob), (.int (0 : Int32)), (.ref a1)])) rfl (by rw [hml]; rfl) (argsL := [(.int (Int32.ofNat 16384)), (.int (Int32.ofNat N))]) (rest := [(.int (0 : Int32)), (.ref ob), (.int (0 : Int32)), (.ref a1)]) (lenOf own_pd8 rfl) rfl (by show 2 * 0 + _ ≤ _; exact Nat.le_of_eq rfl) (hb hby d8_25) (fun _ _ => ⟨rfl, e42, (by decide : 1 + 0 ≤ _), (by decide : 8 + 0 ≤ _)⟩)
  dsimp only [Pt.U, Pt.locs, Pt.cells, Pt.slots] at X45 l45 y45 z45 st45 hQ45
  subst l45 y45 z45
  obtain ⟨r_45, rfl, Nq45, e45, p45_0⟩ := hQ45
  refine Go.st st45 ?_
  have N45 := Fr.app N0 Nq45
  show Go p e below _ (T45.setTop (mkF m 28 #[.val (.ref a1), .val (.int (Int32.ofNat N)), .val (.ref ob)] [(.int r_45), (.int (0 : Int32)), (.ref ob), (.int (0 : Int32)), (.ref a1)]))
  have er : r_45 = Int32.ofNat N := by rw [p45_0]; exact if_pos (own_in (by omega) (by omega)).2
  subst er
  have hnn : (Int32.ofNat N).toNatClampNeg = N := own_cl (by omega)
  have hmm : (Int32.ofNat 16384).toNatClampNeg = 16384 := own_cl (by omega)
  have hz0 : (0 : Int32).toNatClampNeg = 0 := by decide
  have hn0 : ¬ Int32.ofNat N < 0 := (own_in (N := N + 1) (by omega) (by omega)).1
  have hle : (0 : Int32).toNatClampNeg + (Int32.ofNat N).toNatClampNeg ≤ (Int32.ofNat 16384).toNatClampNeg := by omega
  have hle' : (0 : Int32).toNatClampNeg + (Int32.ofNat N).toNatClampNeg ≤ (Int32.ofNat N).toNatClampNeg := by omega
  obtain ⟨T46, h46, L46, X46, e46, N46, Kq46, B46, st46⟩ := cpA X45 hx hZ hown (hw _ (List.mem_of_getElem? (i := 50) rfl)) (hw _ (List.mem_of_getElem? (i := 53) rfl)) (hw _ (List.mem_of_getElem? (i := 51) rfl)) (hw _ (List.mem_of_getElem? (i := 52) rfl)) e45 (Arv.keep A_a1 K42 nin0) Av_ob (Or.inl ⟨rfl, rfl⟩) (by decide) (by decide) hn0 hle hle' rfl (by rw [List.length_replicate]; omega) N45 g_ob (g := (mkF m 28 #[.val (.ref a1), .val (.int (Int32.ofNat N)), .val (.ref ob)] [(.int (Int32.ofNat N)), (.int (0 : Int32)), (.ref ob), (.int (0 : Int32)), (.ref a1)])) rfl (by rw [hml]; rfl) rfl (hb hby d8_28) (by decide) (W := 0) (by show 2 * 0 + _ ≤ _; exact Nat.le_of_eq rfl) (by decide)
  refine Go.st st46 ?_
  have Av_ob_46 : Arv Z h46 ob cA42 .byte (Int32.ofNat N) vs (.int (0 : Int32)) := (by have q := B46; rw [show (0 : Int32).toNatClampNeg = 0 from rfl, own_take, hnn] at q; exact Arv.pad q (own_cpv _ hN))
  have K46 : Keep h0 h46 [] := Keep.trans K42 Kq46 (allS (Or.inr mh_ob) all0)
  have Zs46 : n0 ≤ h46.size := Nat.le_trans Zs42 Kq46.1
  show Go p e below _ (T46.setTop (mkF m 31 #[.val (.ref a1), .val (.int (Int32.ofNat N)), .val (.ref ob)] []))
  refine g_aloadN X46 hx (hb hby d8_31) 32 rfl (v := (.ref ob)) rfl rfl ?_
  refine Go.retA X46 hx hlk Bd.returns rfl rfl (hb hby d8_32) (by decide) (by decide) ?_
  show Q8 Z a1 k vs N h0 n0 _ T46.heap _
  rw [e46]
  exact ⟨ob, cA42, rfl, N46, K46, mh_ob, Av_ob_46⟩
theorem ef_7 (m : MethodId) (x0 : Addr) : entryFrame m #[(.ref x0)] 1 = mkF m 0 #[.val (.ref x0)] [] := by first | (simp [entryFrame, mkF, argsToLocals, Value.category]; done) | rfl
theorem d7_0 : decode prog_9_method_9_code 0 = .ok (.aload_n 0, 1) := by decide +kernel
theorem d7_1 : decode prog_9_method_9_code 1 = .ok (.getfield 9, 3) := by decide +kernel
theorem d7_4 : decode prog_9_method_9_code 4 = .ok (.aload_n 0, 1) := by decide +kernel
theorem d7_5 : decode prog_9_method_9_code 5 = .ok (.getfield 29, 3) := by decide +kernel
theorem own_pd9 : parseMethodDescriptor "([BI)[B" = some ⟨[(.array .byte), .int], some (.array .byte)⟩ := by decide +kernel
theorem d7_8 : decode prog_9_method_9_code 8 = .ok (.invokestatic 46, 3) := by decide +kernel
theorem d7_11 : decode prog_9_method_9_code 11 = .ok (.areturn, 1) := by decide +kernel
def Q7 (Z : State) (a1 : Addr) (wb : Addr) (kb : ClassId) (N : Nat) (vs : List Value) (h0 : Heap) (n0 : Nat) (v : Option Value) (h : Heap) (L : List Loc) : Prop := ∃ b : Addr, ∃ kq : ClassId, v = some (.ref b) ∧ Fr n0 L ∧ Keep h0 h [] ∧ h0.size ≤ b ∧ (Arv Z h b kq .byte (Int32.ofNat N) vs (.int (0 : Int32)))
set_option maxRecDepth 65536 in
set_option maxHeartbeats 40000000 in
theorem rm7 (l : Launch) (Z : State) (a0 : Array Value) (hw : ∀ d ∈ tables_1, d.before a0 Z = true) (ws : List Jvm.Cond) (a1 : Addr) (wb : Addr) (kb : ClassId) (N : Nat) (vs : List Value) (h0 : Heap) (n0 : Nat) (Z0 : n0 ≤ h0.size) (E_a1 : Exa Z h0 a1 "com/example/anagrafe/anagrafe/atom/Markup") (F_bytes_a1 : Fld Z h0 a1 "com/example/anagrafe/anagrafe/atom/Markup" "bytes" "[B" (.ref wb)) (F_size_a1 : Fld Z h0 a1 "com/example/anagrafe/anagrafe/atom/Markup" "size" "I" (.int (Int32.ofNat N))) (A_wb : Arv Z h0 wb kb .byte (Int32.ofNat 16384) vs (.int (0 : Int32))) (hN : vs.length = N) (hM : N ≤ 8) :
    MetFree l (⟨"com/example/anagrafe/anagrafe/atom/Markup", "toByteArray", "()[B"⟩ : MethodName) (head1 (Jvm.Cond.code (⟨"com/example/anagrafe/anagrafe/atom/Markup", "toByteArray", "()[B"⟩ : MethodName) prog_9_method_9_code 1 (some (.array .byte)) :: ws) ({ frames := 2, cells := 1, slots := 8, locals := 32 } : Room)) (fun a U => a = #[(.ref a1)] ∧ Z.Warmed39 U.vm ∧ U.heap = h0) (fun _ _ _ _ _ => True) (fun _ U o U' => ∃ v L, o = .returned v ∧ Q7 Z a1 wb kb N vs h0 n0 v U'.heap L ∧ FrameEnd U o U' L ({ frames := 2, cells := 1, slots := 8, locals := 32 } : Room).cells ({ frames := 2, cells := 1, slots := 8, locals := 32 } : Room).slots) := by
  refine MetFree.of_bodySF (plainFor_of_name own_pn_com_example_anagrafe_anagrafe_atom_Markup) hisR ?_
  intro p e s m args below meth c s₁ Bd hml0 hP hK
  obtain ⟨rfl, hZ, hh⟩ := hP
  have hx := Bd.exec
  have hby := Bd.bytes
  have hlk := Bd.notSynchronized
  have hml : c.maxLocals = 1 := hml0
  have hown : s.vm.findClass "com/example/anagrafe/anagrafe/atom/Markup" = some m.cls := findClass_of_methodNamed Bd.named
  have hnm := (name_of_methodNamed Bd.named Bd.method).1
  have X0 : Stand p l e ({ frames := 2, cells := 1, slots := 8, locals := 32 } : Room) s m #[(.ref a1)] below meth c s₁ [] 0 0 := Stand.of_body Bd
  have e0 : s₁.heap = h0 := by rw [← hh, Bd.state]; rfl
  have N0 := Fr.nil n0
  have K0 : Keep h0 h0 [] := Keep.refl _ _
  show Go p e below (KQ s below (Q7 Z a1 wb kb N vs h0 n0) ({ frames := 2, cells := 1, slots := 8, locals := 32 } : Room).cells ({ frames := 2, cells := 1, slots := 8, locals := 32 } : Room).slots) _
  refine Go.body (T := s₁) (σ := s₁) (g' := (mkF m 0 #[.val (.ref a1)] [])) (ef_7 m a1) ?_
  refine g_aloadN X0 hx (hb hby d7_0) 1 rfl (v := (.ref a1)) rfl rfl ?_
  obtain ⟨T48, X48, e48, st48⟩ := getF X0 hx hZ hown (host := "") (Or.inl (hw _ (List.mem_of_getElem? (i := 33) rfl))) Via.refl e0 F_bytes_a1 (g := (mkF m 1 #[.val (.ref a1)] [(.ref a1)])) rfl rfl (hb hby d7_1)
  refine Go.st st48 ?_
  show Go p e below _ (T48.setTop (mkF m 4 #[.val (.ref a1)] [(.ref wb)]))
  refine g_aloadN X48 hx (hb hby d7_4) 5 rfl (v := (.ref a1)) rfl rfl ?_
  obtain ⟨T49, X49, e49, st49⟩ := getF X48 hx hZ hown (host := "") (Or.inl (hw _ (List.mem_of_getElem? (i := 40) rfl))) Via.refl e48 F_size_a1 (g := (mkF m 5 #[.val (.ref a1)] [(.ref a1), (.ref wb)])) rfl rfl (hb hby d7_5)
  refine Go.st st49 ?_
  show Go p e below _ (T49.setTop (mkF m 8 #[.val (.ref a1)] [(.int (Int32.ofNat N)), (.ref wb)]))
  obtain ⟨_, _, ⟨T50, L50, k50, n50⟩, -, X50, ⟨Lc50, hQ50, l50, y50, z50⟩, st50⟩ := Jvm.LawKit.callS X49 hx (y := (⟨"java/util/Arrays", "copyOf", "([BI)[B"⟩ : MethodName)) hown (mvT hZ (hw _ (List.mem_of_getElem? (i := 42) rfl))) (mvT hZ (hw _ (List.mem_of_getElem? (i := 43) rfl))) (mvT hZ (hw _ (List.mem_of_getElem? (i := 44) rfl))) (mvT hZ (hw _ (List.mem_of_getElem? (i := 45) rfl))) (by decide) (backOf (W := 0) (rm8 l Z a0 hw [] wb kb vs N h0 n0 Z0 A_wb hN hM) hZ (hw _ (List.mem_of_getElem? (i := 45) rfl)) (hw _ (List.mem_of_getElem? (i := 44) rfl)) (by decide) (by decide)) (g := (mkF m 8 #[.val (.ref a1)] [(.int (Int32.ofNat N)), (.ref wb)])) rfl (by rw [hml]; rfl) (argsL := [(.ref wb), (.int (Int32.ofNat N))]) (rest := []) (lenOf own_pd9 rfl) rfl (by show 2 * 0 + _ ≤ _; exact Nat.le_of_eq rfl) (hb hby d7_8) (fun _ _ => ⟨rfl, e49, (by decide : 0 + 1 ≤ _), (by decide : 0 + 8 ≤ _)⟩)
  dsimp only [Pt.U, Pt.locs, Pt.cells, Pt.slots] at X50 l50 y50 z50 st50 hQ50
  subst l50 y50 z50
  obtain ⟨ob, okq, rfl, Nq50, Kq50, f50_0, f50_1⟩ := hQ50
  refine Go.st st50 ?_
  have N50 := Fr.app N0 Nq50
  have g_ob : n0 ≤ ob := Nat.le_trans Z0 f50_0
  have mh_ob : h0.size ≤ ob := Nat.le_trans K0.1 f50_0
  have K50 : Keep h0 T50.heap [] := Keep.trans K0 Kq50 all0
  have Zs50 : n0 ≤ T50.heap.size := Nat.le_trans Z0 Kq50.1
  show Go p e below _ (T50.setTop (mkF m 11 #[.val (.ref a1)] [(.ref ob)]))
  refine Go.retA X50 hx hlk Bd.returns rfl rfl (hb hby d7_11) (by decide) (by decide) ?_
  show Q7 Z a1 wb kb N vs h0 n0 _ T50.heap _
  exact ⟨ob, okq, rfl, N50, K50, mh_ob, f50_1⟩
theorem ef_10 (m : MethodId) (x0 : Addr) : entryFrame m #[(.ref x0)] 1 = mkF m 0 #[.val (.ref x0)] [] := by first | (simp [entryFrame, mkF, argsToLocals, Value.category]; done) | rfl
theorem d10_0 : decode prog_9_method_5_code 0 = .ok (.aload_n 0, 1) := by decide +kernel
theorem d10_1 : decode prog_9_method_5_code 1 = .ok (.iconst 1, 1) := by decide +kernel
theorem own_pd10 : parseMethodDescriptor "(I)V" = some ⟨[.int], none⟩ := by decide +kernel
theorem d10_2 : decode prog_9_method_5_code 2 = .ok (.invokevirtual 21, 3) := by decide +kernel
theorem d10_5 : decode prog_9_method_5_code 5 = .ok (.aload_n 0, 1) := by decide +kernel
theorem d10_6 : decode prog_9_method_5_code 6 = .ok (.getfield 9, 3) := by decide +kernel
theorem d10_9 : decode prog_9_method_5_code 9 = .ok (.aload_n 0, 1) := by decide +kernel
theorem d10_10 : decode prog_9_method_5_code 10 = .ok (.dup, 1) := by decide +kernel
theorem d10_11 : decode prog_9_method_5_code 11 = .ok (.getfield 29, 3) := by decide +kernel
theorem d10_14 : decode prog_9_method_5_code 14 = .ok (.dup_x1, 1) := by decide +kernel
theorem d10_15 : decode prog_9_method_5_code 15 = .ok (.iconst 1, 1) := by decide +kernel
theorem d10_16 : decode prog_9_method_5_code 16 = .ok (.iadd, 1) := by decide +kernel
theorem d10_17 : decode prog_9_method_5_code 17 = .ok (.putfield 29, 3) := by decide +kernel
theorem d10_20 : decode prog_9_method_5_code 20 = .ok (.bipush 62, 2) := by decide +kernel
theorem d10_22 : decode prog_9_method_5_code 22 = .ok (.bastore, 1) := by decide +kernel
theorem d10_23 : decode prog_9_method_5_code 23 = .ok (.return_, 1) := by decide +kernel
def Q10 (Z : State) (a1 : Addr) (wb : Addr) (kb : ClassId) (N : Nat) (vs : List Value) (h0 : Heap) (n0 : Nat) (v : Option Value) (h : Heap) (L : List Loc) : Prop := v = none ∧ Fr n0 L ∧ Keep h0 h [a1, wb] ∧ (Exa Z h a1 "com/example/anagrafe/anagrafe/atom/Markup") ∧ (Fld Z h a1 "com/example/anagrafe/anagrafe/atom/Markup" "bytes" "[B" (.ref wb)) ∧ (Fld Z h a1 "com/example/anagrafe/anagrafe/atom/Markup" "size" "I" (.int (Int32.ofNat (N + 1)))) ∧ (Arv Z h wb kb .byte (Int32.ofNat 16384) (vs ++ [(.int (62 : Int32))]) (.int (0 : Int32)))
set_option maxRecDepth 65536 in
set_option maxHeartbeats 40000000 in
theorem rm10 (l : Launch) (Z : State) (a0 : Array Value) (hw : ∀ d ∈ tables_1, d.before a0 Z = true) (ws : List Jvm.Cond) (a1 : Addr) (wb : Addr) (kb : ClassId) (N : Nat) (vs : List Value) (h0 : Heap) (n0 : Nat) (Z0 : n0 ≤ h0.size) (E_a1 : Exa Z h0 a1 "com/example/anagrafe/anagrafe/atom/Markup") (F_bytes_a1 : Fld Z h0 a1 "com/example/anagrafe/anagrafe/atom/Markup" "bytes" "[B" (.ref wb)) (F_size_a1 : Fld Z h0 a1 "com/example/anagrafe/anagrafe/atom/Markup" "size" "I" (.int (Int32.ofNat N))) (A_wb : Arv Z h0 wb kb .byte (Int32.ofNat 16384) vs (.int (0 : Int32))) (g_a1 : n0 ≤ a1) (g_wb : n0 ≤ wb) (ne_a1_wb : a1 ≠ wb) (hN : vs.length = N) (hM : N ≤ 10000) :
    MetFree l (⟨"com/example/anagrafe/anagrafe/atom/Markup", "endStart", "()V"⟩ : MethodName) (head1 (Jvm.Cond.code (⟨"com/example/anagrafe/anagrafe/atom/Markup", "endStart", "()V"⟩ : MethodName) prog_9_method_5_code 1 none :: ws) ({ frames := 1, cells := 0, slots := 0, locals := 14 } : Room)) (fun a U => a = #[(.ref a1)] ∧ Z.Warmed39 U.vm ∧ U.heap = h0) (fun _ _ _ _ _ => True) (fun _ U o U' => ∃ v L, o = .returned v ∧ Q10 Z a1 wb kb N vs h0 n0 v U'.heap L ∧ FrameEnd U o U' L ({ frames := 1, cells := 0, slots := 0, locals := 14 } : Room).cells ({ frames := 1, cells := 0, slots := 0, locals := 14 } : Room).slots) := by
  refine MetFree.of_bodySF (plainFor_of_name own_pn_com_example_anagrafe_anagrafe_atom_Markup) hisR ?_
  intro p e s m args below meth c s₁ Bd hml0 hP hK
  obtain ⟨rfl, hZ, hh⟩ := hP
  have hx := Bd.exec
  have hby := Bd.bytes
  have hlk := Bd.notSynchronized
  have hml : c.maxLocals = 1 := hml0
  have hown : s.vm.findClass "com/example/anagrafe/anagrafe/atom/Markup" = some m.cls := findClass_of_methodNamed Bd.named
  have hnm := (name_of_methodNamed Bd.named Bd.method).1
  have X0 : Stand p l e ({ frames := 1, cells := 0, slots := 0, locals := 14 } : Room) s m #[(.ref a1)] below meth c s₁ [] 0 0 := Stand.of_body Bd
  have e0 : s₁.heap = h0 := by rw [← hh, Bd.state]; rfl
  have N0 := Fr.nil n0
  have K0 : Keep h0 h0 [a1, wb] := Keep.refl _ _
  show Go p e below (KQ s below (Q10 Z a1 wb kb N vs h0 n0) ({ frames := 1, cells := 0, slots := 0, locals := 14 } : Room).cells ({ frames := 1, cells := 0, slots := 0, locals := 14 } : Room).slots) _
  refine Go.body (T := s₁) (σ := s₁) (g' := (mkF m 0 #[.val (.ref a1)] [])) (ef_10 m a1) ?_
  refine g_aloadN X0 hx (hb hby d10_0) 1 rfl (v := (.ref a1)) rfl rfl ?_
  refine g_iconst X0 hx (hb hby d10_1) 2 rfl (1 : Int32) rfl ?_
  obtain ⟨cq52, q52, q52'⟩ := Exa.cell E_a1
  obtain ⟨_, _, ⟨T52, L52, k52, n52⟩, -, X52, ⟨Lc52, hQ52, l52, y52, z52⟩, st52⟩ := X0.privateBack hx (y := (⟨"com/example/anagrafe/anagrafe/atom/Markup", "room", "(I)V"⟩ : MethodName)) hown (mvT hZ (hw _ (List.mem_of_getElem? (i := 59) rfl))) (mvT hZ (hw _ (List.mem_of_getElem? (i := 60) rfl))) (own_selP (mvT hZ (hw _ (List.mem_of_getElem? (i := 27) rfl)) (args := #[])) (Cond.privateMethod_at (mvP hZ (hw _ (List.mem_of_getElem? (i := 61) rfl)) (args := #[]))) (mvT hZ (hw _ (List.mem_of_getElem? (i := 60) rfl))) (by decide)) (Cond.privateMethod_at (mvP hZ (hw _ (List.mem_of_getElem? (i := 61) rfl)) (args := #[]))) (mvT hZ (hw _ (List.mem_of_getElem? (i := 62) rfl))) (by decide) (backOf (W := 0) (rm11 l Z a0 hw [] a1 (1 : Int32) wb kb N vs h0 n0 Z0 E_a1 F_bytes_a1 F_size_a1 A_wb (own_nf (c := 6) (by decide) (by omega) (by omega))) hZ (hw _ (List.mem_of_getElem? (i := 62) rfl)) (hw _ (List.mem_of_getElem? (i := 28) rfl)) (by decide) (by decide)) (g := (mkF m 2 #[.val (.ref a1)] [(.int (1 : Int32)), (.ref a1)])) rfl (by rw [hml]; rfl) (Steps.refl _) (a := a1) (by rw [e0]; exact q52) q52' (argsL := [(.int (1 : Int32))]) (rest := []) (lenOf own_pd10 rfl) rfl (by show 2 * 0 + _ ≤ _; exact Nat.le_of_eq rfl) (hb hby d10_2) (fun _ _ => ⟨rfl, e0, (by decide : 0 + 0 ≤ _), (by decide : 0 + 0 ≤ _)⟩)
  dsimp only [Pt.U, Pt.locs, Pt.cells, Pt.slots] at X52 l52 y52 z52 st52 hQ52
  subst l52 y52 z52
  obtain ⟨rfl, Nq52, e52⟩ := hQ52
  refine Go.tr st52 ?_
  have N52 := Fr.app N0 Nq52
  show Go p e below _ (T52.setTop (mkF m 5 #[.val (.ref a1)] []))
  refine g_aloadN X52 hx (hb hby d10_5) 6 rfl (v := (.ref a1)) rfl rfl ?_
  obtain ⟨T53, X53, e53, st53⟩ := getF X52 hx hZ hown (host := "") (Or.inl (hw _ (List.mem_of_getElem? (i := 33) rfl))) Via.refl e52 F_bytes_a1 (g := (mkF m 6 #[.val (.ref a1)] [(.ref a1)])) rfl rfl (hb hby d10_6)
  refine Go.st st53 ?_
  show Go p e below _ (T53.setTop (mkF m 9 #[.val (.ref a1)] [(.ref wb)]))
  refine g_aloadN X53 hx (hb hby d10_9) 10 rfl (v := (.ref a1)) rfl rfl ?_
  refine g_dup X53 hx (hb hby d10_10) 11 rfl rfl ?_
  obtain ⟨T54, X54, e54, st54⟩ := getF X53 hx hZ hown (host := "") (Or.inl (hw _ (List.mem_of_getElem? (i := 40) rfl))) Via.refl e53 F_size_a1 (g := (mkF m 11 #[.val (.ref a1)] [(.ref a1), (.ref a1), (.ref wb)])) rfl rfl (hb hby d10_11)
  refine Go.st st54 ?_
  show Go p e below _ (T54.setTop (mkF m 14 #[.val (.ref a1)] [(.int (Int32.ofNat N)), (.ref a1), (.ref wb)]))
  refine g_dupx1 X54 hx (hb hby d10_14) 15 rfl rfl rfl ?_
  refine g_iconst X54 hx (hb hby d10_15) 16 rfl (1 : Int32) rfl ?_
  refine g_iadd X54 hx (hb hby d10_16) 17 rfl (Int32.ofNat (N + 1)) (own_up N) ?_
  obtain ⟨T55, h55, X55, e55, W55, st55⟩ := putF X54 hx hZ hown (host := "") (Or.inl (hw _ (List.mem_of_getElem? (i := 40) rfl))) Via.refl e54 F_size_a1 E_a1 (Or.inl (hw _ (List.mem_of_getElem? (i := 41) rfl))) (hw _ (List.mem_of_getElem? (i := 27) rfl)) (ty := .int) (by decide) rfl rfl (g := (mkF m 17 #[.val (.ref a1)] [(.int (Int32.ofNat (N + 1))), (.ref a1), (.int (Int32.ofNat N)), (.ref wb)])) rfl rfl (hb hby d10_17)
  refine Go.st st55 ?_
  have E_a1_56 : Exa Z h55 a1 "com/example/anagrafe/anagrafe/atom/Markup" := Exa.wr W55 E_a1
  have F_bytes_a1_56 : Fld Z h55 a1 "com/example/anagrafe/anagrafe/atom/Markup" "bytes" "[B" (.ref wb) := Fld.other W55 F_bytes_a1 (Or.inr (slot_ne (Or.inl (hw _ (List.mem_of_getElem? (i := 34) rfl))) (Or.inl (hw _ (List.mem_of_getElem? (i := 41) rfl))) (by decide) (t := (.array .byte)) (t' := .int) (by decide) (by decide)))
  have A_wb_56 : Arv Z h55 wb kb .byte (Int32.ofNat 16384) vs (.int (0 : Int32)) := Arv.other A_wb W55 (Ne.symm ne_a1_wb)
  have F_size_a1_55w : Fld Z h55 a1 "com/example/anagrafe/anagrafe/atom/Markup" "size" "I" (.int (Int32.ofNat (N + 1))) := Fld.same W55 F_size_a1
  have K55 : Keep h0 h55 [a1, wb] := Keep.wr K0 W55 (Or.inl (List.mem_of_getElem? (i := 0) rfl))
  have N55 := Fr.snoc X55 N52 g_a1
  have Zs55 : n0 ≤ h55.size := by rw [W55.size]; exact Z0
  show Go p e below _ (T55.setTop (mkF m 20 #[.val (.ref a1)] [(.int (Int32.ofNat N)), (.ref wb)]))
  refine g_bipush X55 hx (hb hby d10_20) 22 rfl (62 : Int32) rfl ?_
  have Ap58 := Arv.pad A_wb_56 (pad_rep vs (.int (0 : Int32)) 1)
  obtain ⟨T57, h57, X57, e57, W57, B57, st57⟩ := g_bastore X55 hx (hb hby d10_22) hZ e55 Ap58 (own_in (by omega) (by omega)) (i := (N)) (own_cl (by omega)) (by rw [List.length_append, hN, List.length_replicate]; omega)  (L := #[.val (.ref a1)]) (S := [])
  refine Go.st st57 ?_
  have E_a1_59 : Exa Z h57 a1 "com/example/anagrafe/anagrafe/atom/Markup" := Exa.wr W57 E_a1_56
  have F_bytes_a1_59 : Fld Z h57 a1 "com/example/anagrafe/anagrafe/atom/Markup" "bytes" "[B" (.ref wb) := Fld.other W57 F_bytes_a1_56 (Or.inl ne_a1_wb)
  have F_size_a1_59 : Fld Z h57 a1 "com/example/anagrafe/anagrafe/atom/Markup" "size" "I" (.int (Int32.ofNat (N + 1))) := Fld.other W57 F_size_a1_55w (Or.inl ne_a1_wb)
  have Av_wb_57 : Arv Z h57 wb kb .byte (Int32.ofNat 16384) (vs ++ [(.int (62 : Int32))]) (.int (0 : Int32)) := (by have q := B57; rw [own_snoc hN (.int (0 : Int32)) _] at q; exact q)
  have K57 : Keep h0 h57 [a1, wb] := Keep.wr K55 W57 (Or.inl (List.mem_of_getElem? (i := 1) rfl))
  have N57 := Fr.snoc X57 N55 g_wb
  have Zs57 : n0 ≤ h57.size := by rw [W57.size]; exact Zs55
  show Go p e below _ (T57.setTop (mkF m 23 #[.val (.ref a1)] []))
  refine Go.retV X57 hx hlk Bd.returns (hb hby d10_23) (by decide) (by decide) ?_
  show Q10 Z a1 wb kb N vs h0 n0 _ T57.heap _
  rw [e57]
  exact ⟨rfl, N57, K57, E_a1_59, F_bytes_a1_59, F_size_a1_59, Av_wb_57⟩
theorem ef_22 (m : MethodId) (x0 : Addr) : entryFrame m #[(.ref x0)] 1 = mkF m 0 #[.val (.ref x0)] [] := by first | (simp [entryFrame, mkF, argsToLocals, Value.category]; done) | rfl
theorem d22_0 : decode prog_9_method_6_code 0 = .ok (.aload_n 0, 1) := by decide +kernel
theorem d22_1 : decode prog_9_method_6_code 1 = .ok (.iconst 2, 1) := by decide +kernel
theorem d22_2 : decode prog_9_method_6_code 2 = .ok (.invokevirtual 21, 3) := by decide +kernel
theorem d22_5 : decode prog_9_method_6_code 5 = .ok (.aload_n 0, 1) := by decide +kernel
theorem d22_6 : decode prog_9_method_6_code 6 = .ok (.getfield 9, 3) := by decide +kernel
theorem d22_9 : decode prog_9_method_6_code 9 = .ok (.aload_n 0, 1) := by decide +kernel
theorem d22_10 : decode prog_9_method_6_code 10 = .ok (.dup, 1) := by decide +kernel
theorem d22_11 : decode prog_9_method_6_code 11 = .ok (.getfield 29, 3) := by decide +kernel
theorem d22_14 : decode prog_9_method_6_code 14 = .ok (.dup_x1, 1) := by decide +kernel
theorem d22_15 : decode prog_9_method_6_code 15 = .ok (.iconst 1, 1) := by decide +kernel
theorem d22_16 : decode prog_9_method_6_code 16 = .ok (.iadd, 1) := by decide +kernel
theorem d22_17 : decode prog_9_method_6_code 17 = .ok (.putfield 29, 3) := by decide +kernel
theorem d22_20 : decode prog_9_method_6_code 20 = .ok (.bipush 47, 2) := by decide +kernel
theorem d22_22 : decode prog_9_method_6_code 22 = .ok (.bastore, 1) := by decide +kernel
theorem d22_23 : decode prog_9_method_6_code 23 = .ok (.aload_n 0, 1) := by decide +kernel
theorem d22_24 : decode prog_9_method_6_code 24 = .ok (.getfield 9, 3) := by decide +kernel
theorem d22_27 : decode prog_9_method_6_code 27 = .ok (.aload_n 0, 1) := by decide +kernel
theorem d22_28 : decode prog_9_method_6_code 28 = .ok (.dup, 1) := by decide +kernel
theorem d22_29 : decode prog_9_method_6_code 29 = .ok (.getfield 29, 3) := by decide +kernel
theorem d22_32 : decode prog_9_method_6_code 32 = .ok (.dup_x1, 1) := by decide +kernel
theorem d22_33 : decode prog_9_method_6_code 33 = .ok (.iconst 1, 1) := by decide +kernel
theorem d22_34 : decode prog_9_method_6_code 34 = .ok (.iadd, 1) := by decide +kernel
theorem d22_35 : decode prog_9_method_6_code 35 = .ok (.putfield 29, 3) := by decide +kernel
theorem d22_38 : decode prog_9_method_6_code 38 = .ok (.bipush 62, 2) := by decide +kernel
theorem d22_40 : decode prog_9_method_6_code 40 = .ok (.bastore, 1) := by decide +kernel
theorem d22_41 : decode prog_9_method_6_code 41 = .ok (.return_, 1) := by decide +kernel
def Q22 (Z : State) (a1 : Addr) (wb : Addr) (kb : ClassId) (N : Nat) (vs : List Value) (h0 : Heap) (n0 : Nat) (v : Option Value) (h : Heap) (L : List Loc) : Prop := v = none ∧ Fr n0 L ∧ Keep h0 h [a1, wb] ∧ (Exa Z h a1 "com/example/anagrafe/anagrafe/atom/Markup") ∧ (Fld Z h a1 "com/example/anagrafe/anagrafe/atom/Markup" "bytes" "[B" (.ref wb)) ∧ (Fld Z h a1 "com/example/anagrafe/anagrafe/atom/Markup" "size" "I" (.int (Int32.ofNat (N + 2)))) ∧ (Arv Z h wb kb .byte (Int32.ofNat 16384) ((vs ++ [(.int (47 : Int32))]) ++ [(.int (62 : Int32))]) (.int (0 : Int32)))
set_option maxRecDepth 65536 in
set_option maxHeartbeats 40000000 in
theorem rm22 (l : Launch) (Z : State) (a0 : Array Value) (hw : ∀ d ∈ tables_1, d.before a0 Z = true) (ws : List Jvm.Cond) (a1 : Addr) (wb : Addr) (kb : ClassId) (N : Nat) (vs : List Value) (h0 : Heap) (n0 : Nat) (Z0 : n0 ≤ h0.size) (E_a1 : Exa Z h0 a1 "com/example/anagrafe/anagrafe/atom/Markup") (F_bytes_a1 : Fld Z h0 a1 "com/example/anagrafe/anagrafe/atom/Markup" "bytes" "[B" (.ref wb)) (F_size_a1 : Fld Z h0 a1 "com/example/anagrafe/anagrafe/atom/Markup" "size" "I" (.int (Int32.ofNat N))) (A_wb : Arv Z h0 wb kb .byte (Int32.ofNat 16384) vs (.int (0 : Int32))) (g_a1 : n0 ≤ a1) (g_wb : n0 ≤ wb) (ne_a1_wb : a1 ≠ wb) (hN : vs.length = N) (hM : N ≤ 10000) :
    MetFree l (⟨"com/example/anagrafe/anagrafe/atom/Markup", "endEmpty", "()V"⟩ : MethodName) (head1 (Jvm.Cond.code (⟨"com/example/anagrafe/anagrafe/atom/Markup", "endEmpty", "()V"⟩ : MethodName) prog_9_method_6_code 1 none :: ws) ({ frames := 1, cells := 0, slots := 0, locals := 14 } : Room)) (fun a U => a = #[(.ref a1)] ∧ Z.Warmed39 U.vm ∧ U.heap = h0) (fun _ _ _ _ _ => True) (fun _ U o U' => ∃ v L, o = .returned v ∧ Q22 Z a1 wb kb N vs h0 n0 v U'.heap L ∧ FrameEnd U o U' L ({ frames := 1, cells := 0, slots := 0, locals := 14 } : Room).cells ({ frames := 1, cells := 0, slots := 0, locals := 14 } : Room).slots) := by
  refine MetFree.of_bodySF (plainFor_of_name own_pn_com_example_anagrafe_anagrafe_atom_Markup) hisR ?_
  intro p e s m args below meth c s₁ Bd hml0 hP hK
  obtain ⟨rfl, hZ, hh⟩ := hP
  have hx := Bd.exec
  have hby := Bd.bytes
  have hlk := Bd.notSynchronized
  have hml : c.maxLocals = 1 := hml0
  have hown : s.vm.findClass "com/example/anagrafe/anagrafe/atom/Markup" = some m.cls := findClass_of_methodNamed Bd.named
  have hnm := (name_of_methodNamed Bd.named Bd.method).1
  have X0 : Stand p l e ({ frames := 1, cells := 0, slots := 0, locals := 14 } : Room) s m #[(.ref a1)] below meth c s₁ [] 0 0 := Stand.of_body Bd
  have e0 : s₁.heap = h0 := by rw [← hh, Bd.state]; rfl
  have N0 := Fr.nil n0
  have K0 : Keep h0 h0 [a1, wb] := Keep.refl _ _
  show Go p e below (KQ s below (Q22 Z a1 wb kb N vs h0 n0) ({ frames := 1, cells := 0, slots := 0, locals := 14 } : Room).cells ({ frames := 1, cells := 0, slots := 0, locals := 14 } : Room).slots) _
  refine Go.body (T := s₁) (σ := s₁) (g' := (mkF m 0 #[.val (.ref a1)] [])) (ef_22 m a1) ?_
  refine g_aloadN X0 hx (hb hby d22_0) 1 rfl (v := (.ref a1)) rfl rfl ?_
  refine g_iconst X0 hx (hb hby d22_1) 2 rfl (2 : Int32) rfl ?_
  obtain ⟨cq60, q60, q60'⟩ := Exa.cell E_a1
  obtain ⟨_, _, ⟨T60, L60, k60, n60⟩, -, X60, ⟨Lc60, hQ60, l60, y60, z60⟩, st60⟩ := X0.privateBack hx (y := (⟨"com/example/anagrafe/anagrafe/atom/Markup", "room", "(I)V"⟩ : MethodName)) hown (mvT hZ (hw _ (List.mem_of_getElem? (i := 59) rfl))) (mvT hZ (hw _ (List.mem_of_getElem? (i := 60) rfl))) (own_selP (mvT hZ (hw _ (List.mem_of_getElem? (i := 27) rfl)) (args := #[])) (Cond.privateMethod_at (mvP hZ (hw _ (List.mem_of_getElem? (i := 61) rfl)) (args := #[]))) (mvT hZ (hw _ (List.mem_of_getElem? (i := 60) rfl))) (by decide)) (Cond.privateMethod_at (mvP hZ (hw _ (List.mem_of_getElem? (i := 61) rfl)) (args := #[]))) (mvT hZ (hw _ (List.mem_of_getElem? (i := 62) rfl))) (by decide) (backOf (W := 0) (rm11 l Z a0 hw [] a1 (2 : Int32) wb kb N vs h0 n0 Z0 E_a1 F_bytes_a1 F_size_a1 A_wb (own_nf (c := 12) (by decide) (by omega) (by omega))) hZ (hw _ (List.mem_of_getElem? (i := 62) rfl)) (hw _ (List.mem_of_getElem? (i := 28) rfl)) (by decide) (by decide)) (g := (mkF m 2 #[.val (.ref a1)] [(.int (2 : Int32)), (.ref a1)])) rfl (by rw [hml]; rfl) (Steps.refl _) (a := a1) (by rw [e0]; exact q60) q60' (argsL := [(.int (2 : Int32))]) (rest := []) (lenOf own_pd10 rfl) rfl (by show 2 * 0 + _ ≤ _; exact Nat.le_of_eq rfl) (hb hby d22_2) (fun _ _ => ⟨rfl, e0, (by decide : 0 + 0 ≤ _), (by decide : 0 + 0 ≤ _)⟩)
  dsimp only [Pt.U, Pt.locs, Pt.cells, Pt.slots] at X60 l60 y60 z60 st60 hQ60
  subst l60 y60 z60
  obtain ⟨rfl, Nq60, e60⟩ := hQ60
  refine Go.tr st60 ?_
  have N60 := Fr.app N0 Nq60
  show Go p e below _ (T60.setTop (mkF m 5 #[.val (.ref a1)] []))
  refine g_aloadN X60 hx (hb hby d22_5) 6 rfl (v := (.ref a1)) rfl rfl ?_
  obtain ⟨T61, X61, e61, st61⟩ := getF X60 hx hZ hown (host := "") (Or.inl (hw _ (List.mem_of_getElem? (i := 33) rfl))) Via.refl e60 F_bytes_a1 (g := (mkF m 6 #[.val (.ref a1)] [(.ref a1)])) rfl rfl (hb hby d22_6)
  refine Go.st st61 ?_
  show Go p e below _ (T61.setTop (mkF m 9 #[.val (.ref a1)] [(.ref wb)]))
  refine g_aloadN X61 hx (hb hby d22_9) 10 rfl (v := (.ref a1)) rfl rfl ?_
  refine g_dup X61 hx (hb hby d22_10) 11 rfl rfl ?_
  obtain ⟨T62, X62, e62, st62⟩ := getF X61 hx hZ hown (host := "") (Or.inl (hw _ (List.mem_of_getElem? (i := 40) rfl))) Via.refl e61 F_size_a1 (g := (mkF m 11 #[.val (.ref a1)] [(.ref a1), (.ref a1), (.ref wb)])) rfl rfl (hb hby d22_11)
  refine Go.st st62 ?_
  show Go p e below _ (T62.setTop (mkF m 14 #[.val (.ref a1)] [(.int (Int32.ofNat N)), (.ref a1), (.ref wb)]))
  refine g_dupx1 X62 hx (hb hby d22_14) 15 rfl rfl rfl ?_
  refine g_iconst X62 hx (hb hby d22_15) 16 rfl (1 : Int32) rfl ?_
  refine g_iadd X62 hx (hb hby d22_16) 17 rfl (Int32.ofNat (N + 1)) (own_up N) ?_
  obtain ⟨T63, h63, X63, e63, W63, st63⟩ := putF X62 hx hZ hown (host := "") (Or.inl (hw _ (List.mem_of_getElem? (i := 40) rfl))) Via.refl e62 F_size_a1 E_a1 (Or.inl (hw _ (List.mem_of_getElem? (i := 41) rfl))) (hw _ (List.mem_of_getElem? (i := 27) rfl)) (ty := .int) (by decide) rfl rfl (g := (mkF m 17 #[.val (.ref a1)] [(.int (Int32.ofNat (N + 1))), (.ref a1), (.int (Int32.ofNat N)), (.ref wb)])) rfl rfl (hb hby d22_17)
  refine Go.st st63 ?_
  have E_a1_64 : Exa Z h63 a1 "com/example/anagrafe/anagrafe/atom/Markup" := Exa.wr W63 E_a1
  have F_bytes_a1_64 : Fld Z h63 a1 "com/example/anagrafe/anagrafe/atom/Markup" "bytes" "[B" (.ref wb) := Fld.other W63 F_bytes_a1 (Or.inr (slot_ne (Or.inl (hw _ (List.mem_of_getElem? (i := 34) rfl))) (Or.inl (hw _ (List.mem_of_getElem? (i := 41) rfl))) (by decide) (t := (.array .byte)) (t' := .int) (by decide) (by decide)))
  have A_wb_64 : Arv Z h63 wb kb .byte (Int32.ofNat 16384) vs (.int (0 : Int32)) := Arv.other A_wb W63 (Ne.symm ne_a1_wb)
  have F_size_a1_63w : Fld Z h63 a1 "com/example/anagrafe/anagrafe/atom/Markup" "size" "I" (.int (Int32.ofNat (N + 1))) := Fld.same W63 F_size_a1
  have K63 : Keep h0 h63 [a1, wb] := Keep.wr K0 W63 (Or.inl (List.mem_of_getElem? (i := 0) rfl))
  have N63 := Fr.snoc X63 N60 g_a1
  have Zs63 : n0 ≤ h63.size := by rw [W63.size]; exact Z0
  show Go p e below _ (T63.setTop (mkF m 20 #[.val (.ref a1)] [(.int (Int32.ofNat N)), (.ref wb)]))
  refine g_bipush X63 hx (hb hby d22_20) 22 rfl (47 : Int32) rfl ?_
  have Ap66 := Arv.pad A_wb_64 (pad_rep vs (.int (0 : Int32)) 1)
  obtain ⟨T65, h65, X65, e65, W65, B65, st65⟩ := g_bastore X63 hx (hb hby d22_22) hZ e63 Ap66 (own_in (by omega) (by omega)) (i := (N)) (own_cl (by omega)) (by rw [List.length_append, hN, List.length_replicate]; omega)  (L := #[.val (.ref a1)]) (S := [])
  refine Go.st st65 ?_
  have E_a1_67 : Exa Z h65 a1 "com/example/anagrafe/anagrafe/atom/Markup" := Exa.wr W65 E_a1_64
  have F_bytes_a1_67 : Fld Z h65 a1 "com/example/anagrafe/anagrafe/atom/Markup" "bytes" "[B" (.ref wb) := Fld.other W65 F_bytes_a1_64 (Or.inl ne_a1_wb)
  have F_size_a1_67 : Fld Z h65 a1 "com/example/anagrafe/anagrafe/atom/Markup" "size" "I" (.int (Int32.ofNat (N + 1))) := Fld.other W65 F_size_a1_63w (Or.inl ne_a1_wb)
  have Av_wb_65 : Arv Z h65 wb kb .byte (Int32.ofNat 16384) (vs ++ [(.int (47 : Int32))]) (.int (0 : Int32)) := (by have q := B65; rw [own_snoc hN (.int (0 : Int32)) _] at q; exact q)
  have K65 : Keep h0 h65 [a1, wb] := Keep.wr K63 W65 (Or.inl (List.mem_of_getElem? (i := 1) rfl))
  have N65 := Fr.snoc X65 N63 g_wb
  have Zs65 : n0 ≤ h65.size := by rw [W65.size]; exact Zs63
  show Go p e below _ (T65.setTop (mkF m 23 #[.val (.ref a1)] []))
  refine g_aloadN X65 hx (hb hby d22_23) 24 rfl (v := (.ref a1)) rfl rfl ?_
  obtain ⟨T68, X68, e68, st68⟩ := getF X65 hx hZ hown (host := "") (Or.inl (hw _ (List.mem_of_getElem? (i := 33) rfl))) Via.refl e65 F_bytes_a1_67 (g := (mkF m 24 #[.val (.ref a1)] [(.ref a1)])) rfl rfl (hb hby d22_24)
  refine Go.st st68 ?_
  show Go p e below _ (T68.setTop (mkF m 27 #[.val (.ref a1)] [(.ref wb)]))
  refine g_aloadN X68 hx (hb hby d22_27) 28 rfl (v := (.ref a1)) rfl rfl ?_
  refine g_dup X68 hx (hb hby d22_28) 29 rfl rfl ?_
  obtain ⟨T69, X69, e69, st69⟩ := getF X68 hx hZ hown (host := "") (Or.inl (hw _ (List.mem_of_getElem? (i := 40) rfl))) Via.refl e68 F_size_a1_67 (g := (mkF m 29 #[.val (.ref a1)] [(.ref a1), (.ref a1), (.ref wb)])) rfl rfl (hb hby d22_29)
  refine Go.st st69 ?_
  show Go p e below _ (T69.setTop (mkF m 32 #[.val (.ref a1)] [(.int (Int32.ofNat (N + 1))), (.ref a1), (.ref wb)]))
  refine g_dupx1 X69 hx (hb hby d22_32) 33 rfl rfl rfl ?_
  refine g_iconst X69 hx (hb hby d22_33) 34 rfl (1 : Int32) rfl ?_
  refine g_iadd X69 hx (hb hby d22_34) 35 rfl (Int32.ofNat (N + 2)) (own_up (N + 1)) ?_
  obtain ⟨T70, h70, X70, e70, W70, st70⟩ := putF X69 hx hZ hown (host := "") (Or.inl (hw _ (List.mem_of_getElem? (i := 40) rfl))) Via.refl e69 F_size_a1_67 E_a1_67 (Or.inl (hw _ (List.mem_of_getElem? (i := 41) rfl))) (hw _ (List.mem_of_getElem? (i := 27) rfl)) (ty := .int) (by decide) rfl rfl (g := (mkF m 35 #[.val (.ref a1)] [(.int (Int32.ofNat (N + 2))), (.ref a1), (.int (Int32.ofNat (N + 1))), (.ref wb)])) rfl rfl (hb hby d22_35)
  refine Go.st st70 ?_
  have E_a1_71 : Exa Z h70 a1 "com/example/anagrafe/anagrafe/atom/Markup" := Exa.wr W70 E_a1_67
  have F_bytes_a1_71 : Fld Z h70 a1 "com/example/anagrafe/anagrafe/atom/Markup" "bytes" "[B" (.ref wb) := Fld.other W70 F_bytes_a1_67 (Or.inr (slot_ne (Or.inl (hw _ (List.mem_of_getElem? (i := 34) rfl))) (Or.inl (hw _ (List.mem_of_getElem? (i := 41) rfl))) (by decide) (t := (.array .byte)) (t' := .int) (by decide) (by decide)))
  have A_wb_71 : Arv Z h70 wb kb .byte (Int32.ofNat 16384) (vs ++ [(.int (47 : Int32))]) (.int (0 : Int32)) := Arv.other Av_wb_65 W70 (Ne.symm ne_a1_wb)
  have F_size_a1_70w : Fld Z h70 a1 "com/example/anagrafe/anagrafe/atom/Markup" "size" "I" (.int (Int32.ofNat (N + 2))) := Fld.same W70 F_size_a1_67
  have K70 : Keep h0 h70 [a1, wb] := Keep.wr K65 W70 (Or.inl (List.mem_of_getElem? (i := 0) rfl))
  have N70 := Fr.snoc X70 N65 g_a1
  have Zs70 : n0 ≤ h70.size := by rw [W70.size]; exact Zs65
  show Go p e below _ (T70.setTop (mkF m 38 #[.val (.ref a1)] [(.int (Int32.ofNat (N + 1))), (.ref wb)]))
  refine g_bipush X70 hx (hb hby d22_38) 40 rfl (62 : Int32) rfl ?_
  have Ap73 := Arv.pad A_wb_71 (pad_rep (vs ++ [(.int (47 : Int32))]) (.int (0 : Int32)) 1)
  obtain ⟨T72, h72, X72, e72, W72, B72, st72⟩ := g_bastore X70 hx (hb hby d22_40) hZ e70 Ap73 (own_in (by omega) (by omega)) (i := (N + 1)) (own_cl (by omega)) (by rw [List.length_append, (own_len hN _), List.length_replicate]; omega)  (L := #[.val (.ref a1)]) (S := [])
  refine Go.st st72 ?_
  have E_a1_74 : Exa Z h72 a1 "com/example/anagrafe/anagrafe/atom/Markup" := Exa.wr W72 E_a1_71
  have F_bytes_a1_74 : Fld Z h72 a1 "com/example/anagrafe/anagrafe/atom/Markup" "bytes" "[B" (.ref wb) := Fld.other W72 F_bytes_a1_71 (Or.inl ne_a1_wb)
  have F_size_a1_74 : Fld Z h72 a1 "com/example/anagrafe/anagrafe/atom/Markup" "size" "I" (.int (Int32.ofNat (N + 2))) := Fld.other W72 F_size_a1_70w (Or.inl ne_a1_wb)
  have Av_wb_72 : Arv Z h72 wb kb .byte (Int32.ofNat 16384) ((vs ++ [(.int (47 : Int32))]) ++ [(.int (62 : Int32))]) (.int (0 : Int32)) := (by have q := B72; rw [own_snoc (own_len hN _) (.int (0 : Int32)) _] at q; exact q)
  have K72 : Keep h0 h72 [a1, wb] := Keep.wr K70 W72 (Or.inl (List.mem_of_getElem? (i := 1) rfl))
  have N72 := Fr.snoc X72 N70 g_wb
  have Zs72 : n0 ≤ h72.size := by rw [W72.size]; exact Zs70
  show Go p e below _ (T72.setTop (mkF m 41 #[.val (.ref a1)] []))
  refine Go.retV X72 hx hlk Bd.returns (hb hby d22_41) (by decide) (by decide) ?_
  show Q22 Z a1 wb kb N vs h0 n0 _ T72.heap _
  rw [e72]
  exact ⟨rfl, N72, K72, E_a1_74, F_bytes_a1_74, F_size_a1_74, Av_wb_72⟩
theorem ef_16 (m : MethodId) (x0 : Addr) (x1 : Addr) : entryFrame m #[(.ref x0), (.ref x1)] 5 = mkF m 0 #[.val (.ref x0), .val (.ref x1), .unset, .unset, .unset] [] := by first | (simp [entryFrame, mkF, argsToLocals, Value.category]; done) | rfl
theorem d16_0 : decode prog_9_method_11_code 0 = .ok (.aload_n 0, 1) := by decide +kernel
theorem d16_1 : decode prog_9_method_11_code 1 = .ok (.getfield 9, 3) := by decide +kernel
theorem d16_4 : decode prog_9_method_11_code 4 = .ok (.astore_n 2, 1) := by decide +kernel
theorem d16_5 : decode prog_9_method_11_code 5 = .ok (.aload_n 0, 1) := by decide +kernel
theorem d16_6 : decode prog_9_method_11_code 6 = .ok (.getfield 29, 3) := by decide +kernel
theorem d16_9 : decode prog_9_method_11_code 9 = .ok (.istore_n 3, 1) := by decide +kernel
theorem d16_10 : decode prog_9_method_11_code 10 = .ok (.iconst 0, 1) := by decide +kernel
theorem d16_11 : decode prog_9_method_11_code 11 = .ok (.istore 4, 2) := by decide +kernel
theorem d16_13 : decode prog_9_method_11_code 13 = .ok (.iload 4, 2) := by decide +kernel
theorem d16_15 : decode prog_9_method_11_code 15 = .ok (.aload_n 1, 1) := by decide +kernel
theorem own_pd11 : parseMethodDescriptor "()I" = some ⟨[], some .int⟩ := by decide +kernel
theorem d16_16 : decode prog_9_method_11_code 16 = .ok (.invokevirtual 15, 3) := by decide +kernel
theorem d16_19 : decode prog_9_method_11_code 19 = .ok (.if_icmp .ge 22, 3) := by decide +kernel
theorem d16_22 : decode prog_9_method_11_code 22 = .ok (.aload_n 2, 1) := by decide +kernel
theorem d16_23 : decode prog_9_method_11_code 23 = .ok (.iload_n 3, 1) := by decide +kernel
theorem d16_24 : decode prog_9_method_11_code 24 = .ok (.iinc 3 1, 3) := by decide +kernel
theorem d16_27 : decode prog_9_method_11_code 27 = .ok (.aload_n 1, 1) := by decide +kernel
theorem d16_28 : decode prog_9_method_11_code 28 = .ok (.iload 4, 2) := by decide +kernel
theorem own_pd12 : parseMethodDescriptor "(I)C" = some ⟨[.int], some .char⟩ := by decide +kernel
theorem d16_30 : decode prog_9_method_11_code 30 = .ok (.invokevirtual 58, 3) := by decide +kernel
theorem d16_33 : decode prog_9_method_11_code 33 = .ok (.i2b, 1) := by decide +kernel
theorem d16_34 : decode prog_9_method_11_code 34 = .ok (.bastore, 1) := by decide +kernel
theorem d16_35 : decode prog_9_method_11_code 35 = .ok (.iinc 4 1, 3) := by decide +kernel
theorem d16_38 : decode prog_9_method_11_code 38 = .ok (.goto (-25), 3) := by decide +kernel
theorem d16_41 : decode prog_9_method_11_code 41 = .ok (.aload_n 0, 1) := by decide +kernel
theorem d16_42 : decode prog_9_method_11_code 42 = .ok (.iload_n 3, 1) := by decide +kernel
theorem d16_43 : decode prog_9_method_11_code 43 = .ok (.putfield 29, 3) := by decide +kernel
theorem d16_46 : decode prog_9_method_11_code 46 = .ok (.return_, 1) := by decide +kernel
def Q16 (Z : State) (a1 : Addr) (a2 : Addr) (wb : Addr) (kb : ClassId) (N : Nat) (vs : List Value) (cs : Int32) (sf : Value) (sb : Addr) (ks : ClassId) (c1 : Int32) (h0 : Heap) (n0 : Nat) (v : Option Value) (h : Heap) (L : List Loc) : Prop := v = none ∧ Fr n0 L ∧ Keep h0 h [a1, wb] ∧ (Exa Z h a1 "com/example/anagrafe/anagrafe/atom/Markup") ∧ (Fld Z h a1 "com/example/anagrafe/anagrafe/atom/Markup" "bytes" "[B" (.ref wb)) ∧ (Fld Z h a1 "com/example/anagrafe/anagrafe/atom/Markup" "size" "I" (.int (Int32.ofNat (N + 1)))) ∧ (Arv Z h wb kb .byte (Int32.ofNat 16384) (vs ++ [(.int c1.toInt8.toInt32)]) (.int (0 : Int32)))
set_option maxRecDepth 65536 in
set_option maxHeartbeats 40000000 in
theorem rm16 (l : Launch) (Z : State) (a0 : Array Value) (hw : ∀ d ∈ tables_1, d.before a0 Z = true) (ws : List Jvm.Cond) (a1 : Addr) (a2 : Addr) (wb : Addr) (kb : ClassId) (N : Nat) (vs : List Value) (cs : Int32) (sf : Value) (sb : Addr) (ks : ClassId) (c1 : Int32) (h0 : Heap) (n0 : Nat) (Z0 : n0 ≤ h0.size) (S_COMPACT_STRINGS : Sta Z h0 "java/lang/String" "COMPACT_STRINGS" "Z" (.int cs)) (S_SIOOBE_FORMATTER : Sta Z h0 "jdk/internal/util/Preconditions" "SIOOBE_FORMATTER" "Ljava/util/function/BiFunction;" sf) (E_a1 : Exa Z h0 a1 "com/example/anagrafe/anagrafe/atom/Markup") (F_bytes_a1 : Fld Z h0 a1 "com/example/anagrafe/anagrafe/atom/Markup" "bytes" "[B" (.ref wb)) (F_size_a1 : Fld Z h0 a1 "com/example/anagrafe/anagrafe/atom/Markup" "size" "I" (.int (Int32.ofNat N))) (A_wb : Arv Z h0 wb kb .byte (Int32.ofNat 16384) vs (.int (0 : Int32))) (g_a1 : n0 ≤ a1) (g_wb : n0 ≤ wb) (ne_a1_wb : a1 ≠ wb) (E_a2 : Exa Z h0 a2 "java/lang/String") (F_value_a2 : Fld Z h0 a2 "java/lang/String" "value" "[B" (.ref sb)) (F_coder_a2 : Fld Z h0 a2 "java/lang/String" "coder" "B" (.int (0 : Int32))) (A_sb : Arv Z h0 sb ks .byte (1 : Int32) ([(.int c1.toInt8.toInt32)]) (.int (0 : Int32))) (ne_a1_a2 : a1 ≠ a2) (ne_a1_sb : a1 ≠ sb) (ne_wb_a2 : wb ≠ a2) (ne_wb_sb : wb ≠ sb) (hcs : ¬ cs = 0) (hsf : sf.isRef = true) (hN : vs.length = N) (hM : N ≤ 10000) :
    MetFree l (⟨"com/example/anagrafe/anagrafe/atom/Markup", "ascii", "(Ljava/lang/String;)V"⟩ : MethodName) (head1 (Jvm.Cond.code (⟨"com/example/anagrafe/anagrafe/atom/Markup", "ascii", "(Ljava/lang/String;)V"⟩ : MethodName) prog_9_method_11_code 5 none :: ws) ({ frames := 4, cells := 0, slots := 0, locals := 55 } : Room)) (fun a U => a = #[(.ref a1), (.ref a2)] ∧ Z.Warmed39 U.vm ∧ U.heap = h0) (fun _ _ _ _ _ => True) (fun _ U o U' => ∃ v L, o = .returned v ∧ Q16 Z a1 a2 wb kb N vs cs sf sb ks c1 h0 n0 v U'.heap L ∧ FrameEnd U o U' L ({ frames := 4, cells := 0, slots := 0, locals := 55 } : Room).cells ({ frames := 4, cells := 0, slots := 0, locals := 55 } : Room).slots) := by
  refine MetFree.of_bodySF (plainFor_of_name own_pn_com_example_anagrafe_anagrafe_atom_Markup) hisR ?_
  intro p e s m args below meth c s₁ Bd hml0 hP hK
  obtain ⟨rfl, hZ, hh⟩ := hP
  have hx := Bd.exec
  have hby := Bd.bytes
  have hlk := Bd.notSynchronized
  have hml : c.maxLocals = 5 := hml0
  have hown : s.vm.findClass "com/example/anagrafe/anagrafe/atom/Markup" = some m.cls := findClass_of_methodNamed Bd.named
  have hnm := (name_of_methodNamed Bd.named Bd.method).1
  have X0 : Stand p l e ({ frames := 4, cells := 0, slots := 0, locals := 55 } : Room) s m #[(.ref a1), (.ref a2)] below meth c s₁ [] 0 0 := Stand.of_body Bd
  have e0 : s₁.heap = h0 := by rw [← hh, Bd.state]; rfl
  have N0 := Fr.nil n0
  have K0 : Keep h0 h0 [a1, wb] := Keep.refl _ _
  show Go p e below (KQ s below (Q16 Z a1 a2 wb kb N vs cs sf sb ks c1 h0 n0) ({ frames := 4, cells := 0, slots := 0, locals := 55 } : Room).cells ({ frames := 4, cells := 0, slots := 0, locals := 55 } : Room).slots) _
  refine Go.body (T := s₁) (σ := s₁) (g' := (mkF m 0 #[.val (.ref a1), .val (.ref a2), .unset, .unset, .unset] [])) (ef_16 m a1 a2) ?_
  refine g_aloadN X0 hx (hb hby d16_0) 1 rfl (v := (.ref a1)) rfl rfl ?_
  obtain ⟨T75, X75, e75, st75⟩ := getF X0 hx hZ hown (host := "") (Or.inl (hw _ (List.mem_of_getElem? (i := 33) rfl))) Via.refl e0 F_bytes_a1 (g := (mkF m 1 #[.val (.ref a1), .val (.ref a2), .unset, .unset, .unset] [(.ref a1)])) rfl rfl (hb hby d16_1)
  refine Go.st st75 ?_
  show Go p e below _ (T75.setTop (mkF m 4 #[.val (.ref a1), .val (.ref a2), .unset, .unset, .unset] [(.ref wb)]))
  refine g_astoreN X75 hx (hb hby d16_4) 5 rfl rfl #[.val (.ref a1), .val (.ref a2), .val (.ref wb), .unset, .unset] rfl ?_
  refine g_aloadN X75 hx (hb hby d16_5) 6 rfl (v := (.ref a1)) rfl rfl ?_
  obtain ⟨T76, X76, e76, st76⟩ := getF X75 hx hZ hown (host := "") (Or.inl (hw _ (List.mem_of_getElem? (i := 40) rfl))) Via.refl e75 F_size_a1 (g := (mkF m 6 #[.val (.ref a1), .val (.ref a2), .val (.ref wb), .unset, .unset] [(.ref a1)])) rfl rfl (hb hby d16_6)
  refine Go.st st76 ?_
  show Go p e below _ (T76.setTop (mkF m 9 #[.val (.ref a1), .val (.ref a2), .val (.ref wb), .unset, .unset] [(.int (Int32.ofNat N))]))
  refine g_istoreN X76 hx (hb hby d16_9) 10 rfl #[.val (.ref a1), .val (.ref a2), .val (.ref wb), .val (.int (Int32.ofNat N)), .unset] rfl ?_
  refine g_iconst X76 hx (hb hby d16_10) 11 rfl (0 : Int32) rfl ?_
  refine g_istore X76 hx (hb hby d16_11) 13 rfl #[.val (.ref a1), .val (.ref a2), .val (.ref wb), .val (.int (Int32.ofNat N)), .val (.int (0 : Int32))] rfl ?_
  refine g_iload X76 hx (hb hby d16_13) 15 rfl (v := (0 : Int32)) rfl ?_
  refine g_aloadN X76 hx (hb hby d16_15) 16 rfl (v := (.ref a2)) rfl rfl ?_
  obtain ⟨cq77, kq77, q77a, q77b, q77c⟩ := isOf hZ e76 E_a2
  obtain ⟨_, _, ⟨T77, L77, k77, n77⟩, -, X77, ⟨Lc77, hQ77, l77, y77, z77⟩, st77⟩ := X76.virtualBack hx (y := (⟨"java/lang/String", "length", "()I"⟩ : MethodName)) (z := (⟨"java/lang/String", "length", "()I"⟩ : MethodName)) hown (mvT hZ (hw _ (List.mem_of_getElem? (i := 72) rfl))) (mvT hZ (hw _ (List.mem_of_getElem? (i := 73) rfl))) (notFace_of_selects (args := #[]) (mvT hZ (hw _ (List.mem_of_getElem? (i := 75) rfl)))) (mvT hZ (hw _ (List.mem_of_getElem? (i := 75) rfl))) (mvT hZ (hw _ (List.mem_of_getElem? (i := 74) rfl))) (by decide) (backOf (W := 1) (rm14 l Z a0 hw [] a2 cs sb ks (1 : Int32) ([(.int c1.toInt8.toInt32)]) h0 n0 Z0 S_COMPACT_STRINGS E_a2 F_value_a2 F_coder_a2 A_sb hcs) hZ (hw _ (List.mem_of_getElem? (i := 76) rfl)) (hw _ (List.mem_of_getElem? (i := 2) rfl)) (by decide) (by decide)) q77a q77c (g := (mkF m 16 #[.val (.ref a1), .val (.ref a2), .val (.ref wb), .val (.int (Int32.ofNat N)), .val (.int (0 : Int32))] [(.ref a2), (.int (0 : Int32))])) rfl (by rw [hml]; rfl) (Steps.refl _) (argsL := []) (rest := [(.int (0 : Int32))]) (lenOf own_pd11 rfl) rfl (by show 2 * 0 + _ ≤ _; exact Nat.le_of_eq rfl) (hb hby d16_16) (fun _ _ => ⟨rfl, e76, (by decide : 0 + 0 ≤ _), (by decide : 0 + 0 ≤ _)⟩)
  dsimp only [Pt.U, Pt.locs, Pt.cells, Pt.slots] at X77 l77 y77 z77 st77 hQ77
  subst l77 y77 z77
  obtain ⟨rfl, Nq77, e77⟩ := hQ77
  refine Go.tr st77 ?_
  have N77 := Fr.app N0 Nq77
  show Go p e below _ (T77.setTop (mkF m 19 #[.val (.ref a1), .val (.ref a2), .val (.ref wb), .val (.int (Int32.ofNat N)), .val (.int (0 : Int32))] [(.int (1 : Int32)), (.int (0 : Int32))]))
  refine g_icmp_ge X77 hx (hb hby d16_19) 41 22 (by decide) (by decide) rfl (fun hc19 => False.elim (absurd (by decide) hc19)) (fun hc19 => ?_)
  refine g_aloadN X77 hx (hb hby d16_22) 23 rfl (v := (.ref wb)) rfl rfl ?_
  refine g_iloadN X77 hx (hb hby d16_23) 24 rfl (v := (Int32.ofNat N)) rfl ?_
  refine g_iinc X77 hx (hb hby d16_24) 27 rfl (x := (Int32.ofNat N)) rfl (Int32.ofNat (N + 1)) (own_up N) #[.val (.ref a1), .val (.ref a2), .val (.ref wb), .val (.int (Int32.ofNat (N + 1))), .val (.int (0 : Int32))] rfl ?_
  refine g_aloadN X77 hx (hb hby d16_27) 28 rfl (v := (.ref a2)) rfl rfl ?_
  refine g_iload X77 hx (hb hby d16_28) 30 rfl (v := (0 : Int32)) rfl ?_
  obtain ⟨cq78, kq78, q78a, q78b, q78c⟩ := isOf hZ e77 E_a2
  obtain ⟨_, _, ⟨T78, L78, k78, n78⟩, -, X78, ⟨Lc78, hQ78, l78, y78, z78⟩, st78⟩ := X77.virtualBack hx (y := (⟨"java/lang/String", "charAt", "(I)C"⟩ : MethodName)) (z := (⟨"java/lang/String", "charAt", "(I)C"⟩ : MethodName)) hown (mvT hZ (hw _ (List.mem_of_getElem? (i := 86) rfl))) (mvT hZ (hw _ (List.mem_of_getElem? (i := 87) rfl))) (notFace_of_selects (args := #[]) (mvT hZ (hw _ (List.mem_of_getElem? (i := 89) rfl)))) (mvT hZ (hw _ (List.mem_of_getElem? (i := 89) rfl))) (mvT hZ (hw _ (List.mem_of_getElem? (i := 88) rfl))) (by decide) (backOf (W := 2) (rm17 l Z a0 hw [] a2 (0 : Int32) cs sf sb ks (1 : Int32) ([(.int c1.toInt8.toInt32)]) c1.toInt8.toInt32 h0 n0 Z0 S_COMPACT_STRINGS S_SIOOBE_FORMATTER E_a2 F_value_a2 F_coder_a2 A_sb hcs hsf (by decide) rfl) hZ (hw _ (List.mem_of_getElem? (i := 90) rfl)) (hw _ (List.mem_of_getElem? (i := 2) rfl)) (by decide) (by decide)) q78a q78c (g := (mkF m 30 #[.val (.ref a1), .val (.ref a2), .val (.ref wb), .val (.int (Int32.ofNat (N + 1))), .val (.int (0 : Int32))] [(.int (0 : Int32)), (.ref a2), (.int (Int32.ofNat N)), (.ref wb)])) rfl (by rw [hml]; rfl) (Steps.refl _) (argsL := [(.int (0 : Int32))]) (rest := [(.int (Int32.ofNat N)), (.ref wb)]) (lenOf own_pd12 rfl) rfl (by show 2 * 0 + _ ≤ _; exact Nat.le_of_eq rfl) (hb hby d16_30) (fun _ _ => ⟨rfl, e77, (by decide : 0 + 0 ≤ _), (by decide : 0 + 0 ≤ _)⟩)
  dsimp only [Pt.U, Pt.locs, Pt.cells, Pt.slots] at X78 l78 y78 z78 st78 hQ78
  subst l78 y78 z78
  obtain ⟨rfl, Nq78, e78⟩ := hQ78
  refine Go.tr st78 ?_
  have N78 := Fr.app N77 Nq78
  show Go p e below _ (T78.setTop (mkF m 33 #[.val (.ref a1), .val (.ref a2), .val (.ref wb), .val (.int (Int32.ofNat (N + 1))), .val (.int (0 : Int32))] [(.int (c1.toInt8.toInt32 &&& (255 : Int32))), (.int (Int32.ofNat N)), (.ref wb)]))
  refine g_i2b X78 hx (hb hby d16_33) 34 rfl (c1.toInt8.toInt32 &&& (255 : Int32)).toInt8.toInt32 rfl ?_
  have Ap80 := Arv.pad A_wb (pad_rep vs (.int (0 : Int32)) 1)
  obtain ⟨T79, h79, X79, e79, W79, B79, st79⟩ := g_bastore X78 hx (hb hby d16_34) hZ e78 Ap80 (own_in (by omega) (by omega)) (i := (N)) (own_cl (by omega)) (by rw [List.length_append, hN, List.length_replicate]; omega)  (L := #[.val (.ref a1), .val (.ref a2), .val (.ref wb), .val (.int (Int32.ofNat (N + 1))), .val (.int (0 : Int32))]) (S := [])
  refine Go.st st79 ?_
  have S_COMPACT_STRINGS_81 : Sta Z h79 "java/lang/String" "COMPACT_STRINGS" "Z" (.int cs) := Sta.wr W79 S_COMPACT_STRINGS
  have S_SIOOBE_FORMATTER_81 : Sta Z h79 "jdk/internal/util/Preconditions" "SIOOBE_FORMATTER" "Ljava/util/function/BiFunction;" sf := Sta.wr W79 S_SIOOBE_FORMATTER
  have E_a1_81 : Exa Z h79 a1 "com/example/anagrafe/anagrafe/atom/Markup" := Exa.wr W79 E_a1
  have F_bytes_a1_81 : Fld Z h79 a1 "com/example/anagrafe/anagrafe/atom/Markup" "bytes" "[B" (.ref wb) := Fld.other W79 F_bytes_a1 (Or.inl ne_a1_wb)
  have F_size_a1_81 : Fld Z h79 a1 "com/example/anagrafe/anagrafe/atom/Markup" "size" "I" (.int (Int32.ofNat N)) := Fld.other W79 F_size_a1 (Or.inl ne_a1_wb)
  have Av_wb_79 : Arv Z h79 wb kb .byte (Int32.ofNat 16384) (vs ++ [(.int c1.toInt8.toInt32)]) (.int (0 : Int32)) := (by have q := B79; rw [own_snoc hN (.int (0 : Int32)) _, own_b2] at q; exact q)
  have K79 : Keep h0 h79 [a1, wb] := Keep.wr K0 W79 (Or.inl (List.mem_of_getElem? (i := 1) rfl))
  have N79 := Fr.snoc X79 N78 g_wb
  have Zs79 : n0 ≤ h79.size := by rw [W79.size]; exact Z0
  show Go p e below _ (T79.setTop (mkF m 35 #[.val (.ref a1), .val (.ref a2), .val (.ref wb), .val (.int (Int32.ofNat (N + 1))), .val (.int (0 : Int32))] []))
  refine g_iinc X79 hx (hb hby d16_35) 38 rfl (x := (0 : Int32)) rfl ((0 : Int32) + (1 : Int32)) rfl #[.val (.ref a1), .val (.ref a2), .val (.ref wb), .val (.int (Int32.ofNat (N + 1))), .val (.int ((0 : Int32) + (1 : Int32)))] rfl ?_
  refine g_goto X79 hx (hb hby d16_38) 13 (by decide) (by decide) ?_
  refine g_iload X79 hx (hb hby d16_13) 15 rfl (v := ((0 : Int32) + (1 : Int32))) rfl ?_
  refine g_aloadN X79 hx (hb hby d16_15) 16 rfl (v := (.ref a2)) rfl rfl ?_
  obtain ⟨cq82, kq82, q82a, q82b, q82c⟩ := isOf hZ e79 (Exa.keep E_a2 K79)
  obtain ⟨_, _, ⟨T82, L82, k82, n82⟩, -, X82, ⟨Lc82, hQ82, l82, y82, z82⟩, st82⟩ := X79.virtualBack hx (y := (⟨"java/lang/String", "length", "()I"⟩ : MethodName)) (z := (⟨"java/lang/String", "length", "()I"⟩ : MethodName)) hown (mvT hZ (hw _ (List.mem_of_getElem? (i := 72) rfl))) (mvT hZ (hw _ (List.mem_of_getElem? (i := 73) rfl))) (notFace_of_selects (args := #[]) (mvT hZ (hw _ (List.mem_of_getElem? (i := 75) rfl)))) (mvT hZ (hw _ (List.mem_of_getElem? (i := 75) rfl))) (mvT hZ (hw _ (List.mem_of_getElem? (i := 74) rfl))) (by decide) (backOf (W := 1) (rm14 l Z a0 hw [] a2 cs sb ks (1 : Int32) ([(.int c1.toInt8.toInt32)]) h79 n0 Zs79 S_COMPACT_STRINGS_81 (Exa.keep E_a2 K79) (Fld.keep F_value_a2 K79 (ninS (Ne.symm ne_a1_a2) (ninS (Ne.symm ne_wb_a2) nin0))) (Fld.keep F_coder_a2 K79 (ninS (Ne.symm ne_a1_a2) (ninS (Ne.symm ne_wb_a2) nin0))) (Arv.keep A_sb K79 (ninS (Ne.symm ne_a1_sb) (ninS (Ne.symm ne_wb_sb) nin0))) hcs) hZ (hw _ (List.mem_of_getElem? (i := 76) rfl)) (hw _ (List.mem_of_getElem? (i := 2) rfl)) (by decide) (by decide)) q82a q82c (g := (mkF m 16 #[.val (.ref a1), .val (.ref a2), .val (.ref wb), .val (.int (Int32.ofNat (N + 1))), .val (.int ((0 : Int32) + (1 : Int32)))] [(.ref a2), (.int ((0 : Int32) + (1 : Int32)))])) rfl (by rw [hml]; rfl) (Steps.refl _) (argsL := []) (rest := [(.int ((0 : Int32) + (1 : Int32)))]) (lenOf own_pd11 rfl) rfl (by show 2 * 0 + _ ≤ _; exact Nat.le_of_eq rfl) (hb hby d16_16) (fun _ _ => ⟨rfl, e79, (by decide : 0 + 0 ≤ _), (by decide : 0 + 0 ≤ _)⟩)
  dsimp only [Pt.U, Pt.locs, Pt.cells, Pt.slots] at X82 l82 y82 z82 st82 hQ82
  subst l82 y82 z82
  obtain ⟨rfl, Nq82, e82⟩ := hQ82
  refine Go.tr st82 ?_
  have N82 := Fr.app N79 Nq82
  show Go p e below _ (T82.setTop (mkF m 19 #[.val (.ref a1), .val (.ref a2), .val (.ref wb), .val (.int (Int32.ofNat (N + 1))), .val (.int ((0 : Int32) + (1 : Int32)))] [(.int (1 : Int32)), (.int ((0 : Int32) + (1 : Int32)))]))
  refine g_icmp_ge X82 hx (hb hby d16_19) 41 22 (by decide) (by decide) rfl (fun hc19 => ?_) (fun hc19 => False.elim (absurd hc19 (by decide)))
  refine g_aloadN X82 hx (hb hby d16_41) 42 rfl (v := (.ref a1)) rfl rfl ?_
  refine g_iloadN X82 hx (hb hby d16_42) 43 rfl (v := (Int32.ofNat (N + 1))) rfl ?_
  obtain ⟨T83, h83, X83, e83, W83, st83⟩ := putF X82 hx hZ hown (host := "") (Or.inl (hw _ (List.mem_of_getElem? (i := 40) rfl))) Via.refl e82 F_size_a1_81 E_a1_81 (Or.inl (hw _ (List.mem_of_getElem? (i := 41) rfl))) (hw _ (List.mem_of_getElem? (i := 27) rfl)) (ty := .int) (by decide) rfl rfl (g := (mkF m 43 #[.val (.ref a1), .val (.ref a2), .val (.ref wb), .val (.int (Int32.ofNat (N + 1))), .val (.int ((0 : Int32) + (1 : Int32)))] [(.int (Int32.ofNat (N + 1))), (.ref a1)])) rfl rfl (hb hby d16_43)
  refine Go.st st83 ?_
  have S_COMPACT_STRINGS_84 : Sta Z h83 "java/lang/String" "COMPACT_STRINGS" "Z" (.int cs) := Sta.wr W83 S_COMPACT_STRINGS_81
  have S_SIOOBE_FORMATTER_84 : Sta Z h83 "jdk/internal/util/Preconditions" "SIOOBE_FORMATTER" "Ljava/util/function/BiFunction;" sf := Sta.wr W83 S_SIOOBE_FORMATTER_81
  have E_a1_84 : Exa Z h83 a1 "com/example/anagrafe/anagrafe/atom/Markup" := Exa.wr W83 E_a1_81
  have F_bytes_a1_84 : Fld Z h83 a1 "com/example/anagrafe/anagrafe/atom/Markup" "bytes" "[B" (.ref wb) := Fld.other W83 F_bytes_a1_81 (Or.inr (slot_ne (Or.inl (hw _ (List.mem_of_getElem? (i := 34) rfl))) (Or.inl (hw _ (List.mem_of_getElem? (i := 41) rfl))) (by decide) (t := (.array .byte)) (t' := .int) (by decide) (by decide)))
  have A_wb_84 : Arv Z h83 wb kb .byte (Int32.ofNat 16384) (vs ++ [(.int c1.toInt8.toInt32)]) (.int (0 : Int32)) := Arv.other Av_wb_79 W83 (Ne.symm ne_a1_wb)
  have F_size_a1_83w : Fld Z h83 a1 "com/example/anagrafe/anagrafe/atom/Markup" "size" "I" (.int (Int32.ofNat (N + 1))) := Fld.same W83 F_size_a1_81
  have K83 : Keep h0 h83 [a1, wb] := Keep.wr K79 W83 (Or.inl (List.mem_of_getElem? (i := 0) rfl))
  have N83 := Fr.snoc X83 N82 g_a1
  have Zs83 : n0 ≤ h83.size := by rw [W83.size]; exact Zs79
  show Go p e below _ (T83.setTop (mkF m 46 #[.val (.ref a1), .val (.ref a2), .val (.ref wb), .val (.int (Int32.ofNat (N + 1))), .val (.int ((0 : Int32) + (1 : Int32)))] []))
  refine Go.retV X83 hx hlk Bd.returns (hb hby d16_46) (by decide) (by decide) ?_
  show Q16 Z a1 a2 wb kb N vs cs sf sb ks c1 h0 n0 _ T83.heap _
  rw [e83]
  exact ⟨rfl, N83, K83, E_a1_84, F_bytes_a1_84, F_size_a1_83w, A_wb_84⟩
theorem ef_13 (m : MethodId) (x0 : Addr) (x1 : Addr) (x2 : Addr) : entryFrame m #[(.ref x0), (.ref x1), (.ref x2)] 3 = mkF m 0 #[.val (.ref x0), .val (.ref x1), .val (.ref x2)] [] := by first | (simp [entryFrame, mkF, argsToLocals, Value.category]; done) | rfl
theorem d13_0 : decode prog_9_method_3_code 0 = .ok (.aload_n 0, 1) := by decide +kernel
theorem d13_1 : decode prog_9_method_3_code 1 = .ok (.iconst 2, 1) := by decide +kernel
theorem d13_2 : decode prog_9_method_3_code 2 = .ok (.aload_n 1, 1) := by decide +kernel
theorem d13_3 : decode prog_9_method_3_code 3 = .ok (.invokevirtual 15, 3) := by decide +kernel
theorem d13_6 : decode prog_9_method_3_code 6 = .ok (.iadd, 1) := by decide +kernel
theorem d13_7 : decode prog_9_method_3_code 7 = .ok (.aload_n 2, 1) := by decide +kernel
theorem d13_8 : decode prog_9_method_3_code 8 = .ok (.invokevirtual 15, 3) := by decide +kernel
theorem d13_11 : decode prog_9_method_3_code 11 = .ok (.iadd, 1) := by decide +kernel
theorem d13_12 : decode prog_9_method_3_code 12 = .ok (.invokevirtual 21, 3) := by decide +kernel
theorem d13_15 : decode prog_9_method_3_code 15 = .ok (.aload_n 0, 1) := by decide +kernel
theorem d13_16 : decode prog_9_method_3_code 16 = .ok (.getfield 9, 3) := by decide +kernel
theorem d13_19 : decode prog_9_method_3_code 19 = .ok (.aload_n 0, 1) := by decide +kernel
theorem d13_20 : decode prog_9_method_3_code 20 = .ok (.dup, 1) := by decide +kernel
theorem d13_21 : decode prog_9_method_3_code 21 = .ok (.getfield 29, 3) := by decide +kernel
theorem d13_24 : decode prog_9_method_3_code 24 = .ok (.dup_x1, 1) := by decide +kernel
theorem d13_25 : decode prog_9_method_3_code 25 = .ok (.iconst 1, 1) := by decide +kernel
theorem d13_26 : decode prog_9_method_3_code 26 = .ok (.iadd, 1) := by decide +kernel
theorem d13_27 : decode prog_9_method_3_code 27 = .ok (.putfield 29, 3) := by decide +kernel
theorem d13_30 : decode prog_9_method_3_code 30 = .ok (.bipush 60, 2) := by decide +kernel
theorem d13_32 : decode prog_9_method_3_code 32 = .ok (.bastore, 1) := by decide +kernel
theorem d13_33 : decode prog_9_method_3_code 33 = .ok (.aload_n 0, 1) := by decide +kernel
theorem d13_34 : decode prog_9_method_3_code 34 = .ok (.aload_n 1, 1) := by decide +kernel
theorem own_pd13 : parseMethodDescriptor "(Ljava/lang/String;)V" = some ⟨[(.object "java/lang/String")], none⟩ := by decide +kernel
theorem d13_35 : decode prog_9_method_3_code 35 = .ok (.invokevirtual 25, 3) := by decide +kernel
theorem d13_38 : decode prog_9_method_3_code 38 = .ok (.aload_n 0, 1) := by decide +kernel
theorem d13_39 : decode prog_9_method_3_code 39 = .ok (.getfield 9, 3) := by decide +kernel
theorem d13_42 : decode prog_9_method_3_code 42 = .ok (.aload_n 0, 1) := by decide +kernel
theorem d13_43 : decode prog_9_method_3_code 43 = .ok (.dup, 1) := by decide +kernel
theorem d13_44 : decode prog_9_method_3_code 44 = .ok (.getfield 29, 3) := by decide +kernel
theorem d13_47 : decode prog_9_method_3_code 47 = .ok (.dup_x1, 1) := by decide +kernel
theorem d13_48 : decode prog_9_method_3_code 48 = .ok (.iconst 1, 1) := by decide +kernel
theorem d13_49 : decode prog_9_method_3_code 49 = .ok (.iadd, 1) := by decide +kernel
theorem d13_50 : decode prog_9_method_3_code 50 = .ok (.putfield 29, 3) := by decide +kernel
theorem d13_53 : decode prog_9_method_3_code 53 = .ok (.bipush 58, 2) := by decide +kernel
theorem d13_55 : decode prog_9_method_3_code 55 = .ok (.bastore, 1) := by decide +kernel
theorem d13_56 : decode prog_9_method_3_code 56 = .ok (.aload_n 0, 1) := by decide +kernel
theorem d13_57 : decode prog_9_method_3_code 57 = .ok (.aload_n 2, 1) := by decide +kernel
theorem d13_58 : decode prog_9_method_3_code 58 = .ok (.invokevirtual 25, 3) := by decide +kernel
theorem d13_61 : decode prog_9_method_3_code 61 = .ok (.return_, 1) := by decide +kernel
def Q13 (Z : State) (a1 : Addr) (a2 : Addr) (a3 : Addr) (wb : Addr) (kb : ClassId) (N : Nat) (vs : List Value) (cs : Int32) (sf : Value) (sb : Addr) (ks : ClassId) (c1 : Int32) (tb : Addr) (kt : ClassId) (c2 : Int32) (h0 : Heap) (n0 : Nat) (v : Option Value) (h : Heap) (L : List Loc) : Prop := v = none ∧ Fr n0 L ∧ Keep h0 h [a1, wb] ∧ (Exa Z h a1 "com/example/anagrafe/anagrafe/atom/Markup") ∧ (Fld Z h a1 "com/example/anagrafe/anagrafe/atom/Markup" "bytes" "[B" (.ref wb)) ∧ (Fld Z h a1 "com/example/anagrafe/anagrafe/atom/Markup" "size" "I" (.int (Int32.ofNat (N + 1 + 1 + 1 + 1)))) ∧ (Arv Z h wb kb .byte (Int32.ofNat 16384) ((((vs ++ [(.int (60 : Int32))]) ++ [(.int c1.toInt8.toInt32)]) ++ [(.int (58 : Int32))]) ++ [(.int c2.toInt8.toInt32)]) (.int (0 : Int32)))
set_option maxRecDepth 65536 in
set_option maxHeartbeats 40000000 in
theorem rm13 (l : Launch) (Z : State) (a0 : Array Value) (hw : ∀ d ∈ tables_1, d.before a0 Z = true) (ws : List Jvm.Cond) (a1 : Addr) (a2 : Addr) (a3 : Addr) (wb : Addr) (kb : ClassId) (N : Nat) (vs : List Value) (cs : Int32) (sf : Value) (sb : Addr) (ks : ClassId) (c1 : Int32) (tb : Addr) (kt : ClassId) (c2 : Int32) (h0 : Heap) (n0 : Nat) (Z0 : n0 ≤ h0.size) (S_COMPACT_STRINGS : Sta Z h0 "java/lang/String" "COMPACT_STRINGS" "Z" (.int cs)) (S_SIOOBE_FORMATTER : Sta Z h0 "jdk/internal/util/Preconditions" "SIOOBE_FORMATTER" "Ljava/util/function/BiFunction;" sf) (E_a1 : Exa Z h0 a1 "com/example/anagrafe/anagrafe/atom/Markup") (F_bytes_a1 : Fld Z h0 a1 "com/example/anagrafe/anagrafe/atom/Markup" "bytes" "[B" (.ref wb)) (F_size_a1 : Fld Z h0 a1 "com/example/anagrafe/anagrafe/atom/Markup" "size" "I" (.int (Int32.ofNat N))) (A_wb : Arv Z h0 wb kb .byte (Int32.ofNat 16384) vs (.int (0 : Int32))) (g_a1 : n0 ≤ a1) (g_wb : n0 ≤ wb) (ne_a1_wb : a1 ≠ wb) (E_a2 : Exa Z h0 a2 "java/lang/String") (F_value_a2 : Fld Z h0 a2 "java/lang/String" "value" "[B" (.ref sb)) (F_coder_a2 : Fld Z h0 a2 "java/lang/String" "coder" "B" (.int (0 : Int32))) (A_sb : Arv Z h0 sb ks .byte (1 : Int32) ([(.int c1.toInt8.toInt32)]) (.int (0 : Int32))) (E_a3 : Exa Z h0 a3 "java/lang/String") (F_value_a3 : Fld Z h0 a3 "java/lang/String" "value" "[B" (.ref tb)) (F_coder_a3 : Fld Z h0 a3 "java/lang/String" "coder" "B" (.int (0 : Int32))) (A_tb : Arv Z h0 tb kt .byte (1 : Int32) ([(.int c2.toInt8.toInt32)]) (.int (0 : Int32))) (ne_a1_a2 : a1 ≠ a2) (ne_a1_sb : a1 ≠ sb) (ne_a1_a3 : a1 ≠ a3) (ne_a1_tb : a1 ≠ tb) (ne_wb_a2 : wb ≠ a2) (ne_wb_sb : wb ≠ sb) (ne_wb_a3 : wb ≠ a3) (ne_wb_tb : wb ≠ tb) (hcs : ¬ cs = 0) (hsf : sf.isRef = true) (hN : vs.length = N) (hM : N ≤ 9000) :
    MetFree l (⟨"com/example/anagrafe/anagrafe/atom/Markup", "open", "(Ljava/lang/String;Ljava/lang/String;)V"⟩ : MethodName) (head1 (Jvm.Cond.code (⟨"com/example/anagrafe/anagrafe/atom/Markup", "open", "(Ljava/lang/String;Ljava/lang/String;)V"⟩ : MethodName) prog_9_method_3_code 3 none :: ws) ({ frames := 5, cells := 0, slots := 0, locals := 71 } : Room)) (fun a U => a = #[(.ref a1), (.ref a2), (.ref a3)] ∧ Z.Warmed39 U.vm ∧ U.heap = h0) (fun _ _ _ _ _ => True) (fun _ U o U' => ∃ v L, o = .returned v ∧ Q13 Z a1 a2 a3 wb kb N vs cs sf sb ks c1 tb kt c2 h0 n0 v U'.heap L ∧ FrameEnd U o U' L ({ frames := 5, cells := 0, slots := 0, locals := 71 } : Room).cells ({ frames := 5, cells := 0, slots := 0, locals := 71 } : Room).slots) := by
  refine MetFree.of_bodySF (plainFor_of_name own_pn_com_example_anagrafe_anagrafe_atom_Markup) hisR ?_
  intro p e s m args below meth c s₁ Bd hml0 hP hK
  obtain ⟨rfl, hZ, hh⟩ := hP
  have hx := Bd.exec
  have hby := Bd.bytes
  have hlk := Bd.notSynchronized
  have hml : c.maxLocals = 3 := hml0
  have hown : s.vm.findClass "com/example/anagrafe/anagrafe/atom/Markup" = some m.cls := findClass_of_methodNamed Bd.named
  have hnm := (name_of_methodNamed Bd.named Bd.method).1
  have X0 : Stand p l e ({ frames := 5, cells := 0, slots := 0, locals := 71 } : Room) s m #[(.ref a1), (.ref a2), (.ref a3)] below meth c s₁ [] 0 0 := Stand.of_body Bd
  have e0 : s₁.heap = h0 := by rw [← hh, Bd.state]; rfl
  have N0 := Fr.nil n0
  have K0 : Keep h0 h0 [a1, wb] := Keep.refl _ _
  show Go p e below (KQ s below (Q13 Z a1 a2 a3 wb kb N vs cs sf sb ks c1 tb kt c2 h0 n0) ({ frames := 5, cells := 0, slots := 0, locals := 71 } : Room).cells ({ frames := 5, cells := 0, slots := 0, locals := 71 } : Room).slots) _
  refine Go.body (T := s₁) (σ := s₁) (g' := (mkF m 0 #[.val (.ref a1), .val (.ref a2), .val (.ref a3)] [])) (ef_13 m a1 a2 a3) ?_
  refine g_aloadN X0 hx (hb hby d13_0) 1 rfl (v := (.ref a1)) rfl rfl ?_
  refine g_iconst X0 hx (hb hby d13_1) 2 rfl (2 : Int32) rfl ?_
  refine g_aloadN X0 hx (hb hby d13_2) 3 rfl (v := (.ref a2)) rfl rfl ?_
  obtain ⟨cq85, kq85, q85a, q85b, q85c⟩ := isOf hZ e0 E_a2
  obtain ⟨_, _, ⟨T85, L85, k85, n85⟩, -, X85, ⟨Lc85, hQ85, l85, y85, z85⟩, st85⟩ := X0.virtualBack hx (y := (⟨"java/lang/String", "length", "()I"⟩ : MethodName)) (z := (⟨"java/lang/String", "length", "()I"⟩ : MethodName)) hown (mvT hZ (hw _ (List.mem_of_getElem? (i := 72) rfl))) (mvT hZ (hw _ (List.mem_of_getElem? (i := 73) rfl))) (notFace_of_selects (args := #[]) (mvT hZ (hw _ (List.mem_of_getElem? (i := 75) rfl)))) (mvT hZ (hw _ (List.mem_of_getElem? (i := 75) rfl))) (mvT hZ (hw _ (List.mem_of_getElem? (i := 74) rfl))) (by decide) (backOf (W := 2) (rm14 l Z a0 hw [] a2 cs sb ks (1 : Int32) ([(.int c1.toInt8.toInt32)]) h0 n0 Z0 S_COMPACT_STRINGS E_a2 F_value_a2 F_coder_a2 A_sb hcs) hZ (hw _ (List.mem_of_getElem? (i := 76) rfl)) (hw _ (List.mem_of_getElem? (i := 2) rfl)) (by decide) (by decide)) q85a q85c (g := (mkF m 3 #[.val (.ref a1), .val (.ref a2), .val (.ref a3)] [(.ref a2), (.int (2 : Int32)), (.ref a1)])) rfl (by rw [hml]; rfl) (Steps.refl _) (argsL := []) (rest := [(.int (2 : Int32)), (.ref a1)]) (lenOf own_pd11 rfl) rfl (by show 2 * 0 + _ ≤ _; exact Nat.le_of_eq rfl) (hb hby d13_3) (fun _ _ => ⟨rfl, e0, (by decide : 0 + 0 ≤ _), (by decide : 0 + 0 ≤ _)⟩)
  dsimp only [Pt.U, Pt.locs, Pt.cells, Pt.slots] at X85 l85 y85 z85 st85 hQ85
  subst l85 y85 z85
  obtain ⟨rfl, Nq85, e85⟩ := hQ85
  refine Go.tr st85 ?_
  have N85 := Fr.app N0 Nq85
  show Go p e below _ (T85.setTop (mkF m 6 #[.val (.ref a1), .val (.ref a2), .val (.ref a3)] [(.int (1 : Int32)), (.int (2 : Int32)), (.ref a1)]))
  refine g_iadd X85 hx (hb hby d13_6) 7 rfl ((2 : Int32) + (1 : Int32)) rfl ?_
  refine g_aloadN X85 hx (hb hby d13_7) 8 rfl (v := (.ref a3)) rfl rfl ?_
  obtain ⟨cq86, kq86, q86a, q86b, q86c⟩ := isOf hZ e85 E_a3
  obtain ⟨_, _, ⟨T86, L86, k86, n86⟩, -, X86, ⟨Lc86, hQ86, l86, y86, z86⟩, st86⟩ := X85.virtualBack hx (y := (⟨"java/lang/String", "length", "()I"⟩ : MethodName)) (z := (⟨"java/lang/String", "length", "()I"⟩ : MethodName)) hown (mvT hZ (hw _ (List.mem_of_getElem? (i := 72) rfl))) (mvT hZ (hw _ (List.mem_of_getElem? (i := 73) rfl))) (notFace_of_selects (args := #[]) (mvT hZ (hw _ (List.mem_of_getElem? (i := 75) rfl)))) (mvT hZ (hw _ (List.mem_of_getElem? (i := 75) rfl))) (mvT hZ (hw _ (List.mem_of_getElem? (i := 74) rfl))) (by decide) (backOf (W := 2) (rm14 l Z a0 hw [] a3 cs tb kt (1 : Int32) ([(.int c2.toInt8.toInt32)]) h0 n0 Z0 S_COMPACT_STRINGS E_a3 F_value_a3 F_coder_a3 A_tb hcs) hZ (hw _ (List.mem_of_getElem? (i := 76) rfl)) (hw _ (List.mem_of_getElem? (i := 2) rfl)) (by decide) (by decide)) q86a q86c (g := (mkF m 8 #[.val (.ref a1), .val (.ref a2), .val (.ref a3)] [(.ref a3), (.int ((2 : Int32) + (1 : Int32))), (.ref a1)])) rfl (by rw [hml]; rfl) (Steps.refl _) (argsL := []) (rest := [(.int ((2 : Int32) + (1 : Int32))), (.ref a1)]) (lenOf own_pd11 rfl) rfl (by show 2 * 0 + _ ≤ _; exact Nat.le_of_eq rfl) (hb hby d13_8) (fun _ _ => ⟨rfl, e85, (by decide : 0 + 0 ≤ _), (by decide : 0 + 0 ≤ _)⟩)
  dsimp only [Pt.U, Pt.locs, Pt.cells, Pt.slots] at X86 l86 y86 z86 st86 hQ86
  subst l86 y86 z86
  obtain ⟨rfl, Nq86, e86⟩ := hQ86
  refine Go.tr st86 ?_
  have N86 := Fr.app N85 Nq86
  show Go p e below _ (T86.setTop (mkF m 11 #[.val (.ref a1), .val (.ref a2), .val (.ref a3)] [(.int (1 : Int32)), (.int ((2 : Int32) + (1 : Int32))), (.ref a1)]))
  refine g_iadd X86 hx (hb hby d13_11) 12 rfl (((2 : Int32) + (1 : Int32)) + (1 : Int32)) rfl ?_
  obtain ⟨cq87, q87, q87'⟩ := Exa.cell E_a1
  obtain ⟨_, _, ⟨T87, L87, k87, n87⟩, -, X87, ⟨Lc87, hQ87, l87, y87, z87⟩, st87⟩ := X86.privateBack hx (y := (⟨"com/example/anagrafe/anagrafe/atom/Markup", "room", "(I)V"⟩ : MethodName)) hown (mvT hZ (hw _ (List.mem_of_getElem? (i := 59) rfl))) (mvT hZ (hw _ (List.mem_of_getElem? (i := 60) rfl))) (own_selP (mvT hZ (hw _ (List.mem_of_getElem? (i := 27) rfl)) (args := #[])) (Cond.privateMethod_at (mvP hZ (hw _ (List.mem_of_getElem? (i := 61) rfl)) (args := #[]))) (mvT hZ (hw _ (List.mem_of_getElem? (i := 60) rfl))) (by decide)) (Cond.privateMethod_at (mvP hZ (hw _ (List.mem_of_getElem? (i := 61) rfl)) (args := #[]))) (mvT hZ (hw _ (List.mem_of_getElem? (i := 62) rfl))) (by decide) (backOf (W := 0) (rm11 l Z a0 hw [] a1 (((2 : Int32) + (1 : Int32)) + (1 : Int32)) wb kb N vs h0 n0 Z0 E_a1 F_bytes_a1 F_size_a1 A_wb (own_nf (c := 24) (by decide) (by omega) (by omega))) hZ (hw _ (List.mem_of_getElem? (i := 62) rfl)) (hw _ (List.mem_of_getElem? (i := 28) rfl)) (by decide) (by decide)) (g := (mkF m 12 #[.val (.ref a1), .val (.ref a2), .val (.ref a3)] [(.int (((2 : Int32) + (1 : Int32)) + (1 : Int32))), (.ref a1)])) rfl (by rw [hml]; rfl) (Steps.refl _) (a := a1) (by rw [e86]; exact q87) q87' (argsL := [(.int (((2 : Int32) + (1 : Int32)) + (1 : Int32)))]) (rest := []) (lenOf own_pd10 rfl) rfl (by show 2 * 0 + _ ≤ _; exact Nat.le_of_eq rfl) (hb hby d13_12) (fun _ _ => ⟨rfl, e86, (by decide : 0 + 0 ≤ _), (by decide : 0 + 0 ≤ _)⟩)
  dsimp only [Pt.U, Pt.locs, Pt.cells, Pt.slots] at X87 l87 y87 z87 st87 hQ87
  subst l87 y87 z87
  obtain ⟨rfl, Nq87, e87⟩ := hQ87
  refine Go.tr st87 ?_
  have N87 := Fr.app N86 Nq87
  show Go p e below _ (T87.setTop (mkF m 15 #[.val (.ref a1), .val (.ref a2), .val (.ref a3)] []))
  refine g_aloadN X87 hx (hb hby d13_15) 16 rfl (v := (.ref a1)) rfl rfl ?_
  obtain ⟨T88, X88, e88, st88⟩ := getF X87 hx hZ hown (host := "") (Or.inl (hw _ (List.mem_of_getElem? (i := 33) rfl))) Via.refl e87 F_bytes_a1 (g := (mkF m 16 #[.val (.ref a1), .val (.ref a2), .val (.ref a3)] [(.ref a1)])) rfl rfl (hb hby d13_16)
  refine Go.st st88 ?_
  show Go p e below _ (T88.setTop (mkF m 19 #[.val (.ref a1), .val (.ref a2), .val (.ref a3)] [(.ref wb)]))
  refine g_aloadN X88 hx (hb hby d13_19) 20 rfl (v := (.ref a1)) rfl rfl ?_
  refine g_dup X88 hx (hb hby d13_20) 21 rfl rfl ?_
  obtain ⟨T89, X89, e89, st89⟩ := getF X88 hx hZ hown (host := "") (Or.inl (hw _ (List.mem_of_getElem? (i := 40) rfl))) Via.refl e88 F_size_a1 (g := (mkF m 21 #[.val (.ref a1), .val (.ref a2), .val (.ref a3)] [(.ref a1), (.ref a1), (.ref wb)])) rfl rfl (hb hby d13_21)
  refine Go.st st89 ?_
  show Go p e below _ (T89.setTop (mkF m 24 #[.val (.ref a1), .val (.ref a2), .val (.ref a3)] [(.int (Int32.ofNat N)), (.ref a1), (.ref wb)]))
  refine g_dupx1 X89 hx (hb hby d13_24) 25 rfl rfl rfl ?_
  refine g_iconst X89 hx (hb hby d13_25) 26 rfl (1 : Int32) rfl ?_
  refine g_iadd X89 hx (hb hby d13_26) 27 rfl (Int32.ofNat (N + 1)) (own_up N) ?_
  obtain ⟨T90, h90, X90, e90, W90, st90⟩ := putF X89 hx hZ hown (host := "") (Or.inl (hw _ (List.mem_of_getElem? (i := 40) rfl))) Via.refl e89 F_size_a1 E_a1 (Or.inl (hw _ (List.mem_of_getElem? (i := 41) rfl))) (hw _ (List.mem_of_getElem? (i := 27) rfl)) (ty := .int) (by decide) rfl rfl (g := (mkF m 27 #[.val (.ref a1), .val (.ref a2), .val (.ref a3)] [(.int (Int32.ofNat (N + 1))), (.ref a1), (.int (Int32.ofNat N)), (.ref wb)])) rfl rfl (hb hby d13_27)
  refine Go.st st90 ?_
  have S_COMPACT_STRINGS_91 : Sta Z h90 "java/lang/String" "COMPACT_STRINGS" "Z" (.int cs) := Sta.wr W90 S_COMPACT_STRINGS
  have S_SIOOBE_FORMATTER_91 : Sta Z h90 "jdk/internal/util/Preconditions" "SIOOBE_FORMATTER" "Ljava/util/function/BiFunction;" sf := Sta.wr W90 S_SIOOBE_FORMATTER
  have E_a1_91 : Exa Z h90 a1 "com/example/anagrafe/anagrafe/atom/Markup" := Exa.wr W90 E_a1
  have F_bytes_a1_91 : Fld Z h90 a1 "com/example/anagrafe/anagrafe/atom/Markup" "bytes" "[B" (.ref wb) := Fld.other W90 F_bytes_a1 (Or.inr (slot_ne (Or.inl (hw _ (List.mem_of_getElem? (i := 34) rfl))) (Or.inl (hw _ (List.mem_of_getElem? (i := 41) rfl))) (by decide) (t := (.array .byte)) (t' := .int) (by decide) (by decide)))
  have A_wb_91 : Arv Z h90 wb kb .byte (Int32.ofNat 16384) vs (.int (0 : Int32)) := Arv.other A_wb W90 (Ne.symm ne_a1_wb)
  have F_size_a1_90w : Fld Z h90 a1 "com/example/anagrafe/anagrafe/atom/Markup" "size" "I" (.int (Int32.ofNat (N + 1))) := Fld.same W90 F_size_a1
  have K90 : Keep h0 h90 [a1, wb] := Keep.wr K0 W90 (Or.inl (List.mem_of_getElem? (i := 0) rfl))
  have N90 := Fr.snoc X90 N87 g_a1
  have Zs90 : n0 ≤ h90.size := by rw [W90.size]; exact Z0
  show Go p e below _ (T90.setTop (mkF m 30 #[.val (.ref a1), .val (.ref a2), .val (.ref a3)] [(.int (Int32.ofNat N)), (.ref wb)]))
  refine g_bipush X90 hx (hb hby d13_30) 32 rfl (60 : Int32) rfl ?_
  have Ap93 := Arv.pad A_wb_91 (pad_rep vs (.int (0 : Int32)) 1)
  obtain ⟨T92, h92, X92, e92, W92, B92, st92⟩ := g_bastore X90 hx (hb hby d13_32) hZ e90 Ap93 (own_in (by omega) (by omega)) (i := (N)) (own_cl (by omega)) (by rw [List.length_append, hN, List.length_replicate]; omega)  (L := #[.val (.ref a1), .val (.ref a2), .val (.ref a3)]) (S := [])
  refine Go.st st92 ?_
  have S_COMPACT_STRINGS_94 : Sta Z h92 "java/lang/String" "COMPACT_STRINGS" "Z" (.int cs) := Sta.wr W92 S_COMPACT_STRINGS_91
  have S_SIOOBE_FORMATTER_94 : Sta Z h92 "jdk/internal/util/Preconditions" "SIOOBE_FORMATTER" "Ljava/util/function/BiFunction;" sf := Sta.wr W92 S_SIOOBE_FORMATTER_91
  have E_a1_94 : Exa Z h92 a1 "com/example/anagrafe/anagrafe/atom/Markup" := Exa.wr W92 E_a1_91
  have F_bytes_a1_94 : Fld Z h92 a1 "com/example/anagrafe/anagrafe/atom/Markup" "bytes" "[B" (.ref wb) := Fld.other W92 F_bytes_a1_91 (Or.inl ne_a1_wb)
  have F_size_a1_94 : Fld Z h92 a1 "com/example/anagrafe/anagrafe/atom/Markup" "size" "I" (.int (Int32.ofNat (N + 1))) := Fld.other W92 F_size_a1_90w (Or.inl ne_a1_wb)
  have Av_wb_92 : Arv Z h92 wb kb .byte (Int32.ofNat 16384) (vs ++ [(.int (60 : Int32))]) (.int (0 : Int32)) := (by have q := B92; rw [own_snoc hN (.int (0 : Int32)) _] at q; exact q)
  have K92 : Keep h0 h92 [a1, wb] := Keep.wr K90 W92 (Or.inl (List.mem_of_getElem? (i := 1) rfl))
  have N92 := Fr.snoc X92 N90 g_wb
  have Zs92 : n0 ≤ h92.size := by rw [W92.size]; exact Zs90
  show Go p e below _ (T92.setTop (mkF m 33 #[.val (.ref a1), .val (.ref a2), .val (.ref a3)] []))
  refine g_aloadN X92 hx (hb hby d13_33) 34 rfl (v := (.ref a1)) rfl rfl ?_
  refine g_aloadN X92 hx (hb hby d13_34) 35 rfl (v := (.ref a2)) rfl rfl ?_
  obtain ⟨cq95, q95, q95'⟩ := Exa.cell E_a1_94
  obtain ⟨_, _, ⟨T95, L95, k95, n95⟩, -, X95, ⟨Lc95, hQ95, l95, y95, z95⟩, st95⟩ := X92.privateBack hx (y := (⟨"com/example/anagrafe/anagrafe/atom/Markup", "ascii", "(Ljava/lang/String;)V"⟩ : MethodName)) hown (mvT hZ (hw _ (List.mem_of_getElem? (i := 82) rfl))) (mvT hZ (hw _ (List.mem_of_getElem? (i := 83) rfl))) (own_selP (mvT hZ (hw _ (List.mem_of_getElem? (i := 27) rfl)) (args := #[])) (Cond.privateMethod_at (mvP hZ (hw _ (List.mem_of_getElem? (i := 84) rfl)) (args := #[]))) (mvT hZ (hw _ (List.mem_of_getElem? (i := 83) rfl))) (by decide)) (Cond.privateMethod_at (mvP hZ (hw _ (List.mem_of_getElem? (i := 84) rfl)) (args := #[]))) (mvT hZ (hw _ (List.mem_of_getElem? (i := 85) rfl))) (by decide) (backOf (W := 0) (rm16 l Z a0 hw [] a1 a2 wb kb (N + 1) (vs ++ [(.int (60 : Int32))]) cs sf sb ks c1 h92 n0 Zs92 S_COMPACT_STRINGS_94 S_SIOOBE_FORMATTER_94 E_a1_94 F_bytes_a1_94 F_size_a1_94 Av_wb_92 g_a1 g_wb ne_a1_wb (Exa.keep E_a2 K92) (Fld.keep F_value_a2 K92 (ninS (Ne.symm ne_a1_a2) (ninS (Ne.symm ne_wb_a2) nin0))) (Fld.keep F_coder_a2 K92 (ninS (Ne.symm ne_a1_a2) (ninS (Ne.symm ne_wb_a2) nin0))) (Arv.keep A_sb K92 (ninS (Ne.symm ne_a1_sb) (ninS (Ne.symm ne_wb_sb) nin0))) ne_a1_a2 ne_a1_sb ne_wb_a2 ne_wb_sb hcs hsf (own_len hN _) (by omega)) hZ (hw _ (List.mem_of_getElem? (i := 85) rfl)) (hw _ (List.mem_of_getElem? (i := 28) rfl)) (by decide) (by decide)) (g := (mkF m 35 #[.val (.ref a1), .val (.ref a2), .val (.ref a3)] [(.ref a2), (.ref a1)])) rfl (by rw [hml]; rfl) (Steps.refl _) (a := a1) (by rw [e92]; exact q95) q95' (argsL := [(.ref a2)]) (rest := []) (lenOf own_pd13 rfl) rfl (by show 2 * 0 + _ ≤ _; exact Nat.le_of_eq rfl) (hb hby d13_35) (fun _ _ => ⟨rfl, e92, (by decide : 0 + 0 ≤ _), (by decide : 0 + 0 ≤ _)⟩)
  dsimp only [Pt.U, Pt.locs, Pt.cells, Pt.slots] at X95 l95 y95 z95 st95 hQ95
  subst l95 y95 z95
  obtain ⟨rfl, Nq95, Kq95, f95_0, f95_1, f95_2, f95_3⟩ := hQ95
  refine Go.tr st95 ?_
  have N95 := Fr.app N92 Nq95
  have S_COMPACT_STRINGS_96 : Sta Z T95.heap "java/lang/String" "COMPACT_STRINGS" "Z" (.int cs) := own_Sta_keep S_COMPACT_STRINGS_94 Kq95 (allS (own_ns E_a1_94) (allS (own_nsA Av_wb_92) all0))
  have S_SIOOBE_FORMATTER_96 : Sta Z T95.heap "jdk/internal/util/Preconditions" "SIOOBE_FORMATTER" "Ljava/util/function/BiFunction;" sf := own_Sta_keep S_SIOOBE_FORMATTER_94 Kq95 (allS (own_ns E_a1_94) (allS (own_nsA Av_wb_92) all0))
  have E_a1_96 : Exa Z T95.heap a1 "com/example/anagrafe/anagrafe/atom/Markup" := Exa.keep E_a1_94 Kq95
  have K95 : Keep h0 T95.heap [a1, wb] := Keep.trans K92 Kq95 (allS (Or.inl (List.mem_of_getElem? (i := 0) rfl)) (allS (Or.inl (List.mem_of_getElem? (i := 1) rfl)) all0))
  have Zs95 : n0 ≤ T95.heap.size := Nat.le_trans Zs92 Kq95.1
  show Go p e below _ (T95.setTop (mkF m 38 #[.val (.ref a1), .val (.ref a2), .val (.ref a3)] []))
  refine g_aloadN X95 hx (hb hby d13_38) 39 rfl (v := (.ref a1)) rfl rfl ?_
  obtain ⟨T97, X97, e97, st97⟩ := getF X95 hx hZ hown (host := "") (Or.inl (hw _ (List.mem_of_getElem? (i := 33) rfl))) Via.refl rfl f95_1 (g := (mkF m 39 #[.val (.ref a1), .val (.ref a2), .val (.ref a3)] [(.ref a1)])) rfl rfl (hb hby d13_39)
  refine Go.st st97 ?_
  show Go p e below _ (T97.setTop (mkF m 42 #[.val (.ref a1), .val (.ref a2), .val (.ref a3)] [(.ref wb)]))
  refine g_aloadN X97 hx (hb hby d13_42) 43 rfl (v := (.ref a1)) rfl rfl ?_
  refine g_dup X97 hx (hb hby d13_43) 44 rfl rfl ?_
  obtain ⟨T98, X98, e98, st98⟩ := getF X97 hx hZ hown (host := "") (Or.inl (hw _ (List.mem_of_getElem? (i := 40) rfl))) Via.refl e97 f95_2 (g := (mkF m 44 #[.val (.ref a1), .val (.ref a2), .val (.ref a3)] [(.ref a1), (.ref a1), (.ref wb)])) rfl rfl (hb hby d13_44)
  refine Go.st st98 ?_
  show Go p e below _ (T98.setTop (mkF m 47 #[.val (.ref a1), .val (.ref a2), .val (.ref a3)] [(.int (Int32.ofNat ((N + 1) + 1))), (.ref a1), (.ref wb)]))
  refine g_dupx1 X98 hx (hb hby d13_47) 48 rfl rfl rfl ?_
  refine g_iconst X98 hx (hb hby d13_48) 49 rfl (1 : Int32) rfl ?_
  refine g_iadd X98 hx (hb hby d13_49) 50 rfl (Int32.ofNat (N + 1 + 1 + 1)) (own_up (N + 1 + 1)) ?_
  obtain ⟨T99, h99, X99, e99, W99, st99⟩ := putF X98 hx hZ hown (host := "") (Or.inl (hw _ (List.mem_of_getElem? (i := 40) rfl))) Via.refl e98 f95_2 f95_0 (Or.inl (hw _ (List.mem_of_getElem? (i := 41) rfl))) (hw _ (List.mem_of_getElem? (i := 27) rfl)) (ty := .int) (by decide) rfl rfl (g := (mkF m 50 #[.val (.ref a1), .val (.ref a2), .val (.ref a3)] [(.int (Int32.ofNat (N + 1 + 1 + 1))), (.ref a1), (.int (Int32.ofNat ((N + 1) + 1))), (.ref wb)])) rfl rfl (hb hby d13_50)
  refine Go.st st99 ?_
  have S_COMPACT_STRINGS_100 : Sta Z h99 "java/lang/String" "COMPACT_STRINGS" "Z" (.int cs) := Sta.wr W99 S_COMPACT_STRINGS_96
  have S_SIOOBE_FORMATTER_100 : Sta Z h99 "jdk/internal/util/Preconditions" "SIOOBE_FORMATTER" "Ljava/util/function/BiFunction;" sf := Sta.wr W99 S_SIOOBE_FORMATTER_96
  have E_a1_100 : Exa Z h99 a1 "com/example/anagrafe/anagrafe/atom/Markup" := Exa.wr W99 f95_0
  have F_bytes_a1_100 : Fld Z h99 a1 "com/example/anagrafe/anagrafe/atom/Markup" "bytes" "[B" (.ref wb) := Fld.other W99 f95_1 (Or.inr (slot_ne (Or.inl (hw _ (List.mem_of_getElem? (i := 34) rfl))) (Or.inl (hw _ (List.mem_of_getElem? (i := 41) rfl))) (by decide) (t := (.array .byte)) (t' := .int) (by decide) (by decide)))
  have A_wb_100 : Arv Z h99 wb kb .byte (Int32.ofNat 16384) ((vs ++ [(.int (60 : Int32))]) ++ [(.int c1.toInt8.toInt32)]) (.int (0 : Int32)) := Arv.other f95_3 W99 (Ne.symm ne_a1_wb)
  have F_size_a1_99w : Fld Z h99 a1 "com/example/anagrafe/anagrafe/atom/Markup" "size" "I" (.int (Int32.ofNat (N + 1 + 1 + 1))) := Fld.same W99 f95_2
  have K99 : Keep h0 h99 [a1, wb] := Keep.wr K95 W99 (Or.inl (List.mem_of_getElem? (i := 0) rfl))
  have N99 := Fr.snoc X99 N95 g_a1
  have Zs99 : n0 ≤ h99.size := by rw [W99.size]; exact Zs95
  show Go p e below _ (T99.setTop (mkF m 53 #[.val (.ref a1), .val (.ref a2), .val (.ref a3)] [(.int (Int32.ofNat ((N + 1) + 1))), (.ref wb)]))
  refine g_bipush X99 hx (hb hby d13_53) 55 rfl (58 : Int32) rfl ?_
  have Ap102 := Arv.pad A_wb_100 (pad_rep ((vs ++ [(.int (60 : Int32))]) ++ [(.int c1.toInt8.toInt32)]) (.int (0 : Int32)) 1)
  obtain ⟨T101, h101, X101, e101, W101, B101, st101⟩ := g_bastore X99 hx (hb hby d13_55) hZ e99 Ap102 (own_in (by omega) (by omega)) (i := (N + 1 + 1)) (own_cl (by omega)) (by rw [List.length_append, (own_len (own_len hN _) _), List.length_replicate]; omega)  (L := #[.val (.ref a1), .val (.ref a2), .val (.ref a3)]) (S := [])
  refine Go.st st101 ?_
  have S_COMPACT_STRINGS_103 : Sta Z h101 "java/lang/String" "COMPACT_STRINGS" "Z" (.int cs) := Sta.wr W101 S_COMPACT_STRINGS_100
  have S_SIOOBE_FORMATTER_103 : Sta Z h101 "jdk/internal/util/Preconditions" "SIOOBE_FORMATTER" "Ljava/util/function/BiFunction;" sf := Sta.wr W101 S_SIOOBE_FORMATTER_100
  have E_a1_103 : Exa Z h101 a1 "com/example/anagrafe/anagrafe/atom/Markup" := Exa.wr W101 E_a1_100
  have F_bytes_a1_103 : Fld Z h101 a1 "com/example/anagrafe/anagrafe/atom/Markup" "bytes" "[B" (.ref wb) := Fld.other W101 F_bytes_a1_100 (Or.inl ne_a1_wb)
  have F_size_a1_103 : Fld Z h101 a1 "com/example/anagrafe/anagrafe/atom/Markup" "size" "I" (.int (Int32.ofNat (N + 1 + 1 + 1))) := Fld.other W101 F_size_a1_99w (Or.inl ne_a1_wb)
  have Av_wb_101 : Arv Z h101 wb kb .byte (Int32.ofNat 16384) (((vs ++ [(.int (60 : Int32))]) ++ [(.int c1.toInt8.toInt32)]) ++ [(.int (58 : Int32))]) (.int (0 : Int32)) := (by have q := B101; rw [own_snoc (own_len (own_len hN _) _) (.int (0 : Int32)) _] at q; exact q)
  have K101 : Keep h0 h101 [a1, wb] := Keep.wr K99 W101 (Or.inl (List.mem_of_getElem? (i := 1) rfl))
  have N101 := Fr.snoc X101 N99 g_wb
  have Zs101 : n0 ≤ h101.size := by rw [W101.size]; exact Zs99
  show Go p e below _ (T101.setTop (mkF m 56 #[.val (.ref a1), .val (.ref a2), .val (.ref a3)] []))
  refine g_aloadN X101 hx (hb hby d13_56) 57 rfl (v := (.ref a1)) rfl rfl ?_
  refine g_aloadN X101 hx (hb hby d13_57) 58 rfl (v := (.ref a3)) rfl rfl ?_
  obtain ⟨cq104, q104, q104'⟩ := Exa.cell E_a1_103
  obtain ⟨_, _, ⟨T104, L104, k104, n104⟩, -, X104, ⟨Lc104, hQ104, l104, y104, z104⟩, st104⟩ := X101.privateBack hx (y := (⟨"com/example/anagrafe/anagrafe/atom/Markup", "ascii", "(Ljava/lang/String;)V"⟩ : MethodName)) hown (mvT hZ (hw _ (List.mem_of_getElem? (i := 82) rfl))) (mvT hZ (hw _ (List.mem_of_getElem? (i := 83) rfl))) (own_selP (mvT hZ (hw _ (List.mem_of_getElem? (i := 27) rfl)) (args := #[])) (Cond.privateMethod_at (mvP hZ (hw _ (List.mem_of_getElem? (i := 84) rfl)) (args := #[]))) (mvT hZ (hw _ (List.mem_of_getElem? (i := 83) rfl))) (by decide)) (Cond.privateMethod_at (mvP hZ (hw _ (List.mem_of_getElem? (i := 84) rfl)) (args := #[]))) (mvT hZ (hw _ (List.mem_of_getElem? (i := 85) rfl))) (by decide) (backOf (W := 0) (rm16 l Z a0 hw [] a1 a3 wb kb (N + 1 + 1 + 1) (((vs ++ [(.int (60 : Int32))]) ++ [(.int c1.toInt8.toInt32)]) ++ [(.int (58 : Int32))]) cs sf tb kt c2 h101 n0 Zs101 S_COMPACT_STRINGS_103 S_SIOOBE_FORMATTER_103 E_a1_103 F_bytes_a1_103 F_size_a1_103 Av_wb_101 g_a1 g_wb ne_a1_wb (Exa.keep E_a3 K101) (Fld.keep F_value_a3 K101 (ninS (Ne.symm ne_a1_a3) (ninS (Ne.symm ne_wb_a3) nin0))) (Fld.keep F_coder_a3 K101 (ninS (Ne.symm ne_a1_a3) (ninS (Ne.symm ne_wb_a3) nin0))) (Arv.keep A_tb K101 (ninS (Ne.symm ne_a1_tb) (ninS (Ne.symm ne_wb_tb) nin0))) ne_a1_a3 ne_a1_tb ne_wb_a3 ne_wb_tb hcs hsf (own_len (own_len (own_len hN _) _) _) (by omega)) hZ (hw _ (List.mem_of_getElem? (i := 85) rfl)) (hw _ (List.mem_of_getElem? (i := 28) rfl)) (by decide) (by decide)) (g := (mkF m 58 #[.val (.ref a1), .val (.ref a2), .val (.ref a3)] [(.ref a3), (.ref a1)])) rfl (by rw [hml]; rfl) (Steps.refl _) (a := a1) (by rw [e101]; exact q104) q104' (argsL := [(.ref a3)]) (rest := []) (lenOf own_pd13 rfl) rfl (by show 2 * 0 + _ ≤ _; exact Nat.le_of_eq rfl) (hb hby d13_58) (fun _ _ => ⟨rfl, e101, (by decide : 0 + 0 ≤ _), (by decide : 0 + 0 ≤ _)⟩)
  dsimp only [Pt.U, Pt.locs, Pt.cells, Pt.slots] at X104 l104 y104 z104 st104 hQ104
  subst l104 y104 z104
  obtain ⟨rfl, Nq104, Kq104, f104_0, f104_1, f104_2, f104_3⟩ := hQ104
  refine Go.tr st104 ?_
  have N104 := Fr.app N101 Nq104
  have S_COMPACT_STRINGS_105 : Sta Z T104.heap "java/lang/String" "COMPACT_STRINGS" "Z" (.int cs) := own_Sta_keep S_COMPACT_STRINGS_103 Kq104 (allS (own_ns E_a1_103) (allS (own_nsA Av_wb_101) all0))
  have S_SIOOBE_FORMATTER_105 : Sta Z T104.heap "jdk/internal/util/Preconditions" "SIOOBE_FORMATTER" "Ljava/util/function/BiFunction;" sf := own_Sta_keep S_SIOOBE_FORMATTER_103 Kq104 (allS (own_ns E_a1_103) (allS (own_nsA Av_wb_101) all0))
  have E_a1_105 : Exa Z T104.heap a1 "com/example/anagrafe/anagrafe/atom/Markup" := Exa.keep E_a1_103 Kq104
  have K104 : Keep h0 T104.heap [a1, wb] := Keep.trans K101 Kq104 (allS (Or.inl (List.mem_of_getElem? (i := 0) rfl)) (allS (Or.inl (List.mem_of_getElem? (i := 1) rfl)) all0))
  have Zs104 : n0 ≤ T104.heap.size := Nat.le_trans Zs101 Kq104.1
  show Go p e below _ (T104.setTop (mkF m 61 #[.val (.ref a1), .val (.ref a2), .val (.ref a3)] []))
  refine Go.retV X104 hx hlk Bd.returns (hb hby d13_61) (by decide) (by decide) ?_
  show Q13 Z a1 a2 a3 wb kb N vs cs sf sb ks c1 tb kt c2 h0 n0 _ T104.heap _
  exact ⟨rfl, N104, K104, f104_0, f104_1, f104_2, f104_3⟩
theorem own_pn_com_example_anagrafe_anagrafe_atom_MarkupToByteArrayPinLaw : plainName "com/example/anagrafe/anagrafe/atom/MarkupToByteArrayPinLaw" = true := by first | (simp [plainName, overriddenIn]; done) | decide +kernel
theorem ef_same (m : MethodId) (x0 : Addr) (x1 : Addr) (x2 : Int32) : entryFrame m #[(.ref x0), (.ref x1), (.int x2)] 3 = mkF m 0 #[.val (.ref x0), .val (.ref x1), .val (.int x2)] [] := by first | (simp [entryFrame, mkF, argsToLocals, Value.category]; done) | rfl
theorem d12_0 : decode method_3_code 0 = .ok (.aload_n 0, 1) := by decide +kernel
theorem d12_1 : decode method_3_code 1 = .ok (.arraylength, 1) := by decide +kernel
theorem d12_2 : decode method_3_code 2 = .ok (.iload_n 2, 1) := by decide +kernel
theorem d12_3 : decode method_3_code 3 = .ok (.if_icmp .ne 109, 3) := by decide +kernel
theorem d12_6 : decode method_3_code 6 = .ok (.iload_n 2, 1) := by decide +kernel
theorem d12_7 : decode method_3_code 7 = .ok (.iconst 1, 1) := by decide +kernel
theorem d12_8 : decode method_3_code 8 = .ok (.if_icmp .lt 12, 3) := by decide +kernel
theorem d12_20 : decode method_3_code 20 = .ok (.iload_n 2, 1) := by decide +kernel
theorem d12_21 : decode method_3_code 21 = .ok (.iconst 2, 1) := by decide +kernel
theorem d12_22 : decode method_3_code 22 = .ok (.if_icmp .lt 12, 3) := by decide +kernel
theorem d12_34 : decode method_3_code 34 = .ok (.iload_n 2, 1) := by decide +kernel
theorem d12_35 : decode method_3_code 35 = .ok (.iconst 3, 1) := by decide +kernel
theorem d12_36 : decode method_3_code 36 = .ok (.if_icmp .lt 12, 3) := by decide +kernel
theorem d12_48 : decode method_3_code 48 = .ok (.iload_n 2, 1) := by decide +kernel
theorem d12_49 : decode method_3_code 49 = .ok (.iconst 4, 1) := by decide +kernel
theorem d12_50 : decode method_3_code 50 = .ok (.if_icmp .lt 12, 3) := by decide +kernel
theorem d12_62 : decode method_3_code 62 = .ok (.iload_n 2, 1) := by decide +kernel
theorem d12_63 : decode method_3_code 63 = .ok (.iconst 5, 1) := by decide +kernel
theorem d12_64 : decode method_3_code 64 = .ok (.if_icmp .lt 12, 3) := by decide +kernel
theorem d12_76 : decode method_3_code 76 = .ok (.iload_n 2, 1) := by decide +kernel
theorem d12_77 : decode method_3_code 77 = .ok (.bipush 6, 2) := by decide +kernel
theorem d12_79 : decode method_3_code 79 = .ok (.if_icmp .lt 12, 3) := by decide +kernel
theorem d12_91 : decode method_3_code 91 = .ok (.iload_n 2, 1) := by decide +kernel
theorem d12_92 : decode method_3_code 92 = .ok (.bipush 7, 2) := by decide +kernel
theorem d12_94 : decode method_3_code 94 = .ok (.if_icmp .lt 14, 3) := by decide +kernel
theorem d12_108 : decode method_3_code 108 = .ok (.iconst 1, 1) := by decide +kernel
theorem d12_109 : decode method_3_code 109 = .ok (.goto 4, 3) := by decide +kernel
theorem d12_113 : decode method_3_code 113 = .ok (.ireturn, 1) := by decide +kernel
theorem d12_11 : decode method_3_code 11 = .ok (.aload_n 0, 1) := by decide +kernel
theorem d12_12 : decode method_3_code 12 = .ok (.iconst 0, 1) := by decide +kernel
theorem d12_13 : decode method_3_code 13 = .ok (.baload, 1) := by decide +kernel
theorem d12_14 : decode method_3_code 14 = .ok (.aload_n 1, 1) := by decide +kernel
theorem d12_15 : decode method_3_code 15 = .ok (.iconst 0, 1) := by decide +kernel
theorem d12_16 : decode method_3_code 16 = .ok (.baload, 1) := by decide +kernel
theorem d12_17 : decode method_3_code 17 = .ok (.if_icmp .ne 95, 3) := by decide +kernel
theorem d12_25 : decode method_3_code 25 = .ok (.aload_n 0, 1) := by decide +kernel
theorem d12_26 : decode method_3_code 26 = .ok (.iconst 1, 1) := by decide +kernel
theorem d12_27 : decode method_3_code 27 = .ok (.baload, 1) := by decide +kernel
theorem d12_28 : decode method_3_code 28 = .ok (.aload_n 1, 1) := by decide +kernel
theorem d12_29 : decode method_3_code 29 = .ok (.iconst 1, 1) := by decide +kernel
theorem d12_30 : decode method_3_code 30 = .ok (.baload, 1) := by decide +kernel
theorem d12_31 : decode method_3_code 31 = .ok (.if_icmp .ne 81, 3) := by decide +kernel
theorem d12_39 : decode method_3_code 39 = .ok (.aload_n 0, 1) := by decide +kernel
theorem d12_40 : decode method_3_code 40 = .ok (.iconst 2, 1) := by decide +kernel
theorem d12_41 : decode method_3_code 41 = .ok (.baload, 1) := by decide +kernel
theorem d12_42 : decode method_3_code 42 = .ok (.aload_n 1, 1) := by decide +kernel
theorem d12_43 : decode method_3_code 43 = .ok (.iconst 2, 1) := by decide +kernel
theorem d12_44 : decode method_3_code 44 = .ok (.baload, 1) := by decide +kernel
theorem d12_45 : decode method_3_code 45 = .ok (.if_icmp .ne 67, 3) := by decide +kernel
theorem d12_53 : decode method_3_code 53 = .ok (.aload_n 0, 1) := by decide +kernel
theorem d12_54 : decode method_3_code 54 = .ok (.iconst 3, 1) := by decide +kernel
theorem d12_55 : decode method_3_code 55 = .ok (.baload, 1) := by decide +kernel
theorem d12_56 : decode method_3_code 56 = .ok (.aload_n 1, 1) := by decide +kernel
theorem d12_57 : decode method_3_code 57 = .ok (.iconst 3, 1) := by decide +kernel
theorem d12_58 : decode method_3_code 58 = .ok (.baload, 1) := by decide +kernel
theorem d12_59 : decode method_3_code 59 = .ok (.if_icmp .ne 53, 3) := by decide +kernel
theorem d12_67 : decode method_3_code 67 = .ok (.aload_n 0, 1) := by decide +kernel
theorem d12_68 : decode method_3_code 68 = .ok (.iconst 4, 1) := by decide +kernel
theorem d12_69 : decode method_3_code 69 = .ok (.baload, 1) := by decide +kernel
theorem d12_70 : decode method_3_code 70 = .ok (.aload_n 1, 1) := by decide +kernel
theorem d12_71 : decode method_3_code 71 = .ok (.iconst 4, 1) := by decide +kernel
theorem d12_72 : decode method_3_code 72 = .ok (.baload, 1) := by decide +kernel
theorem d12_73 : decode method_3_code 73 = .ok (.if_icmp .ne 39, 3) := by decide +kernel
theorem d12_82 : decode method_3_code 82 = .ok (.aload_n 0, 1) := by decide +kernel
theorem d12_83 : decode method_3_code 83 = .ok (.iconst 5, 1) := by decide +kernel
theorem d12_84 : decode method_3_code 84 = .ok (.baload, 1) := by decide +kernel
theorem d12_85 : decode method_3_code 85 = .ok (.aload_n 1, 1) := by decide +kernel
theorem d12_86 : decode method_3_code 86 = .ok (.iconst 5, 1) := by decide +kernel
theorem d12_87 : decode method_3_code 87 = .ok (.baload, 1) := by decide +kernel
theorem d12_88 : decode method_3_code 88 = .ok (.if_icmp .ne 24, 3) := by decide +kernel
theorem d12_97 : decode method_3_code 97 = .ok (.aload_n 0, 1) := by decide +kernel
theorem d12_98 : decode method_3_code 98 = .ok (.bipush 6, 2) := by decide +kernel
theorem d12_100 : decode method_3_code 100 = .ok (.baload, 1) := by decide +kernel
theorem d12_101 : decode method_3_code 101 = .ok (.aload_n 1, 1) := by decide +kernel
theorem d12_102 : decode method_3_code 102 = .ok (.bipush 6, 2) := by decide +kernel
theorem d12_104 : decode method_3_code 104 = .ok (.baload, 1) := by decide +kernel
theorem d12_105 : decode method_3_code 105 = .ok (.if_icmp .ne 7, 3) := by decide +kernel
def Qsame (Z : State) (a1 : Addr) (a2 : Addr) (p3 : Int32) (kr : ClassId) (ke : ClassId) (N : Nat) (vr : List Value) (ve : List Value) (h0 : Heap) (n0 : Nat) (v : Option Value) (h : Heap) (L : List Loc) : Prop := v = some (.int (1 : Int32)) ∧ Fr n0 L ∧ h = h0
set_option maxRecDepth 65536 in
set_option maxHeartbeats 40000000 in
theorem rmsame (l : Launch) (Z : State) (a0 : Array Value) (hw : ∀ d ∈ tables_1, d.before a0 Z = true) (ws : List Jvm.Cond) (a1 : Addr) (a2 : Addr) (p3 : Int32) (kr : ClassId) (ke : ClassId) (N : Nat) (vr : List Value) (ve : List Value) (h0 : Heap) (n0 : Nat) (Z0 : n0 ≤ h0.size) (A_a1 : Arv Z h0 a1 kr .byte (Int32.ofNat N) vr (.int (0 : Int32))) (A_a2 : Arv Z h0 a2 ke .byte (8 : Int32) ve (.int (0 : Int32))) (hn : p3 = Int32.ofNat N) (hN : N ≤ 7) (hv : ∀ i, i < N → ∃ x : Int32, vr.getD i (.int (0 : Int32)) = .int x ∧ ve.getD i (.int (0 : Int32)) = .int x) :
    MetFree l (⟨"com/example/anagrafe/anagrafe/atom/MarkupToByteArrayPinLaw", "same", "([B[BI)Z"⟩ : MethodName) (head1 (Jvm.Cond.code (⟨"com/example/anagrafe/anagrafe/atom/MarkupToByteArrayPinLaw", "same", "([B[BI)Z"⟩ : MethodName) method_3_code 3 (some .boolean) :: ws) ({ frames := 0, cells := 0, slots := 0, locals := 0 } : Room)) (fun a U => a = #[(.ref a1), (.ref a2), (.int p3)] ∧ Z.Warmed39 U.vm ∧ U.heap = h0) (fun _ _ _ _ _ => True) (fun _ U o U' => ∃ v L, o = .returned v ∧ Qsame Z a1 a2 p3 kr ke N vr ve h0 n0 v U'.heap L ∧ FrameEnd U o U' L ({ frames := 0, cells := 0, slots := 0, locals := 0 } : Room).cells ({ frames := 0, cells := 0, slots := 0, locals := 0 } : Room).slots) := by
  refine MetFree.of_bodySF (plainFor_of_name own_pn_com_example_anagrafe_anagrafe_atom_MarkupToByteArrayPinLaw) hisR ?_
  intro p e s m args below meth c s₁ Bd hml0 hP hK
  obtain ⟨rfl, hZ, hh⟩ := hP
  have hx := Bd.exec
  have hby := Bd.bytes
  have hlk := Bd.notSynchronized
  have hml : c.maxLocals = 3 := hml0
  have hown : s.vm.findClass "com/example/anagrafe/anagrafe/atom/MarkupToByteArrayPinLaw" = some m.cls := findClass_of_methodNamed Bd.named
  have hnm := (name_of_methodNamed Bd.named Bd.method).1
  have X0 : Stand p l e ({ frames := 0, cells := 0, slots := 0, locals := 0 } : Room) s m #[(.ref a1), (.ref a2), (.int p3)] below meth c s₁ [] 0 0 := Stand.of_body Bd
  have e0 : s₁.heap = h0 := by rw [← hh, Bd.state]; rfl
  have N0 := Fr.nil n0
  show Go p e below (KQ s below (Qsame Z a1 a2 p3 kr ke N vr ve h0 n0) ({ frames := 0, cells := 0, slots := 0, locals := 0 } : Room).cells ({ frames := 0, cells := 0, slots := 0, locals := 0 } : Room).slots) _
  refine Go.body (T := s₁) (σ := s₁) (g' := (mkF m 0 #[.val (.ref a1), .val (.ref a2), .val (.int p3)] [])) (ef_same m a1 a2 p3) ?_
  refine g_aloadN X0 hx (hb hby d12_0) 1 rfl (v := (.ref a1)) rfl rfl ?_
  refine g_alen X0 hx (hb hby d12_1) 2 rfl hZ e0 A_a1 ?_
  refine g_iloadN X0 hx (hb hby d12_2) 3 rfl (v := p3) rfl ?_
  refine g_icmp_ne X0 hx (hb hby d12_3) 112 6 (by decide) (by decide) rfl (fun hc3 => False.elim (hc3 hn.symm)) (fun hc3 => ?_)
  refine g_iloadN X0 hx (hb hby d12_6) 7 rfl (v := p3) rfl ?_
  refine g_iconst X0 hx (hb hby d12_7) 8 rfl (1 : Int32) rfl ?_
  refine g_icmp_lt X0 hx (hb hby d12_8) 20 11 (by decide) (by decide) rfl (fun hc8 => ?_) (fun hc8 => ?_)
  · refine g_iloadN X0 hx (hb hby d12_20) 21 rfl (v := p3) rfl ?_
    refine g_iconst X0 hx (hb hby d12_21) 22 rfl (2 : Int32) rfl ?_
    refine g_icmp_lt X0 hx (hb hby d12_22) 34 25 (by decide) (by decide) rfl (fun hc22 => ?_) (fun hc22 => False.elim (hc22 (Int32.lt_trans hc8 (by decide))))
    refine g_iloadN X0 hx (hb hby d12_34) 35 rfl (v := p3) rfl ?_
    refine g_iconst X0 hx (hb hby d12_35) 36 rfl (3 : Int32) rfl ?_
    refine g_icmp_lt X0 hx (hb hby d12_36) 48 39 (by decide) (by decide) rfl (fun hc36 => ?_) (fun hc36 => False.elim (hc36 (Int32.lt_trans hc8 (by decide))))
    refine g_iloadN X0 hx (hb hby d12_48) 49 rfl (v := p3) rfl ?_
    refine g_iconst X0 hx (hb hby d12_49) 50 rfl (4 : Int32) rfl ?_
    refine g_icmp_lt X0 hx (hb hby d12_50) 62 53 (by decide) (by decide) rfl (fun hc50 => ?_) (fun hc50 => False.elim (hc50 (Int32.lt_trans hc8 (by decide))))
    refine g_iloadN X0 hx (hb hby d12_62) 63 rfl (v := p3) rfl ?_
    refine g_iconst X0 hx (hb hby d12_63) 64 rfl (5 : Int32) rfl ?_
    refine g_icmp_lt X0 hx (hb hby d12_64) 76 67 (by decide) (by decide) rfl (fun hc64 => ?_) (fun hc64 => False.elim (hc64 (Int32.lt_trans hc8 (by decide))))
    refine g_iloadN X0 hx (hb hby d12_76) 77 rfl (v := p3) rfl ?_
    refine g_bipush X0 hx (hb hby d12_77) 79 rfl (6 : Int32) rfl ?_
    refine g_icmp_lt X0 hx (hb hby d12_79) 91 82 (by decide) (by decide) rfl (fun hc79 => ?_) (fun hc79 => False.elim (hc79 (Int32.lt_trans hc8 (by decide))))
    refine g_iloadN X0 hx (hb hby d12_91) 92 rfl (v := p3) rfl ?_
    refine g_bipush X0 hx (hb hby d12_92) 94 rfl (7 : Int32) rfl ?_
    refine g_icmp_lt X0 hx (hb hby d12_94) 108 97 (by decide) (by decide) rfl (fun hc94 => ?_) (fun hc94 => False.elim (hc94 (Int32.lt_trans hc8 (by decide))))
    refine g_iconst X0 hx (hb hby d12_108) 109 rfl (1 : Int32) rfl ?_
    refine g_goto X0 hx (hb hby d12_109) 113 (by decide) (by decide) ?_
    refine Go.retN X0 hx hlk (t := .boolean) Bd.returns (by simp) (hb hby d12_113) (by decide) (by decide) ?_
    show Qsame Z a1 a2 p3 kr ke N vr ve h0 n0 _ s₁.heap _
    rw [e0]
    exact ⟨rfl, N0, rfl⟩
  · refine g_aloadN X0 hx (hb hby d12_11) 12 rfl (v := (.ref a1)) rfl rfl ?_
    refine g_iconst X0 hx (hb hby d12_12) 13 rfl (0 : Int32) rfl ?_
    have hk0 : 1 ≤ N := own_kn (k := 1) hn hN (by decide) hc8
    obtain ⟨x0, ur0, ue0⟩ := hv 0 (by omega)
    refine g_baload X0 hx (hb hby d12_13) 14 rfl hZ e0 A_a1 (own_in (j := 0) (by omega) (by omega)) (.int x0) ur0 ?_
    refine g_aloadN X0 hx (hb hby d12_14) 15 rfl (v := (.ref a2)) rfl rfl ?_
    refine g_iconst X0 hx (hb hby d12_15) 16 rfl (0 : Int32) rfl ?_
    refine g_baload X0 hx (hb hby d12_16) 17 rfl hZ e0 A_a2 (show ¬ (0 : Int32) < 0 ∧ (0 : Int32) < (8 : Int32) from by decide) (.int x0) ue0 ?_
    refine g_icmp_ne X0 hx (hb hby d12_17) 112 20 (by decide) (by decide) rfl (fun hc17 => False.elim (hc17 rfl)) (fun hc17 => ?_)
    refine g_iloadN X0 hx (hb hby d12_20) 21 rfl (v := p3) rfl ?_
    refine g_iconst X0 hx (hb hby d12_21) 22 rfl (2 : Int32) rfl ?_
    refine g_icmp_lt X0 hx (hb hby d12_22) 34 25 (by decide) (by decide) rfl (fun hc22 => ?_) (fun hc22 => ?_)
    · refine g_iloadN X0 hx (hb hby d12_34) 35 rfl (v := p3) rfl ?_
      refine g_iconst X0 hx (hb hby d12_35) 36 rfl (3 : Int32) rfl ?_
      refine g_icmp_lt X0 hx (hb hby d12_36) 48 39 (by decide) (by decide) rfl (fun hc36 => ?_) (fun hc36 => False.elim (hc36 (Int32.lt_trans hc22 (by decide))))
      refine g_iloadN X0 hx (hb hby d12_48) 49 rfl (v := p3) rfl ?_
      refine g_iconst X0 hx (hb hby d12_49) 50 rfl (4 : Int32) rfl ?_
      refine g_icmp_lt X0 hx (hb hby d12_50) 62 53 (by decide) (by decide) rfl (fun hc50 => ?_) (fun hc50 => False.elim (hc50 (Int32.lt_trans hc22 (by decide))))
      refine g_iloadN X0 hx (hb hby d12_62) 63 rfl (v := p3) rfl ?_
      refine g_iconst X0 hx (hb hby d12_63) 64 rfl (5 : Int32) rfl ?_
      refine g_icmp_lt X0 hx (hb hby d12_64) 76 67 (by decide) (by decide) rfl (fun hc64 => ?_) (fun hc64 => False.elim (hc64 (Int32.lt_trans hc22 (by decide))))
      refine g_iloadN X0 hx (hb hby d12_76) 77 rfl (v := p3) rfl ?_
      refine g_bipush X0 hx (hb hby d12_77) 79 rfl (6 : Int32) rfl ?_
      refine g_icmp_lt X0 hx (hb hby d12_79) 91 82 (by decide) (by decide) rfl (fun hc79 => ?_) (fun hc79 => False.elim (hc79 (Int32.lt_trans hc22 (by decide))))
      refine g_iloadN X0 hx (hb hby d12_91) 92 rfl (v := p3) rfl ?_
      refine g_bipush X0 hx (hb hby d12_92) 94 rfl (7 : Int32) rfl ?_
      refine g_icmp_lt X0 hx (hb hby d12_94) 108 97 (by decide) (by decide) rfl (fun hc94 => ?_) (fun hc94 => False.elim (hc94 (Int32.lt_trans hc22 (by decide))))
      refine g_iconst X0 hx (hb hby d12_108) 109 rfl (1 : Int32) rfl ?_
      refine g_goto X0 hx (hb hby d12_109) 113 (by decide) (by decide) ?_
      refine Go.retN X0 hx hlk (t := .boolean) Bd.returns (by simp) (hb hby d12_113) (by decide) (by decide) ?_
      show Qsame Z a1 a2 p3 kr ke N vr ve h0 n0 _ s₁.heap _
      rw [e0]
      exact ⟨rfl, N0, rfl⟩
    · refine g_aloadN X0 hx (hb hby d12_25) 26 rfl (v := (.ref a1)) rfl rfl ?_
      refine g_iconst X0 hx (hb hby d12_26) 27 rfl (1 : Int32) rfl ?_
      have hk1 : 2 ≤ N := own_kn (k := 2) hn hN (by decide) hc22
      obtain ⟨x1, ur1, ue1⟩ := hv 1 (by omega)
      refine g_baload X0 hx (hb hby d12_27) 28 rfl hZ e0 A_a1 (own_in (j := 1) (by omega) (by omega)) (.int x1) ur1 ?_
      refine g_aloadN X0 hx (hb hby d12_28) 29 rfl (v := (.ref a2)) rfl rfl ?_
      refine g_iconst X0 hx (hb hby d12_29) 30 rfl (1 : Int32) rfl ?_
      refine g_baload X0 hx (hb hby d12_30) 31 rfl hZ e0 A_a2 (show ¬ (1 : Int32) < 0 ∧ (1 : Int32) < (8 : Int32) from by decide) (.int x1) ue1 ?_
      refine g_icmp_ne X0 hx (hb hby d12_31) 112 34 (by decide) (by decide) rfl (fun hc31 => False.elim (hc31 rfl)) (fun hc31 => ?_)
      refine g_iloadN X0 hx (hb hby d12_34) 35 rfl (v := p3) rfl ?_
      refine g_iconst X0 hx (hb hby d12_35) 36 rfl (3 : Int32) rfl ?_
      refine g_icmp_lt X0 hx (hb hby d12_36) 48 39 (by decide) (by decide) rfl (fun hc36 => ?_) (fun hc36 => ?_)
      · refine g_iloadN X0 hx (hb hby d12_48) 49 rfl (v := p3) rfl ?_
        refine g_iconst X0 hx (hb hby d12_49) 50 rfl (4 : Int32) rfl ?_
        refine g_icmp_lt X0 hx (hb hby d12_50) 62 53 (by decide) (by decide) rfl (fun hc50 => ?_) (fun hc50 => False.elim (hc50 (Int32.lt_trans hc36 (by decide))))
        refine g_iloadN X0 hx (hb hby d12_62) 63 rfl (v := p3) rfl ?_
        refine g_iconst X0 hx (hb hby d12_63) 64 rfl (5 : Int32) rfl ?_
        refine g_icmp_lt X0 hx (hb hby d12_64) 76 67 (by decide) (by decide) rfl (fun hc64 => ?_) (fun hc64 => False.elim (hc64 (Int32.lt_trans hc36 (by decide))))
        refine g_iloadN X0 hx (hb hby d12_76) 77 rfl (v := p3) rfl ?_
        refine g_bipush X0 hx (hb hby d12_77) 79 rfl (6 : Int32) rfl ?_
        refine g_icmp_lt X0 hx (hb hby d12_79) 91 82 (by decide) (by decide) rfl (fun hc79 => ?_) (fun hc79 => False.elim (hc79 (Int32.lt_trans hc36 (by decide))))
        refine g_iloadN X0 hx (hb hby d12_91) 92 rfl (v := p3) rfl ?_
        refine g_bipush X0 hx (hb hby d12_92) 94 rfl (7 : Int32) rfl ?_
        refine g_icmp_lt X0 hx (hb hby d12_94) 108 97 (by decide) (by decide) rfl (fun hc94 => ?_) (fun hc94 => False.elim (hc94 (Int32.lt_trans hc36 (by decide))))
        refine g_iconst X0 hx (hb hby d12_108) 109 rfl (1 : Int32) rfl ?_
        refine g_goto X0 hx (hb hby d12_109) 113 (by decide) (by decide) ?_
        refine Go.retN X0 hx hlk (t := .boolean) Bd.returns (by simp) (hb hby d12_113) (by decide) (by decide) ?_
        show Qsame Z a1 a2 p3 kr ke N vr ve h0 n0 _ s₁.heap _
        rw [e0]
        exact ⟨rfl, N0, rfl⟩
      · refine g_aloadN X0 hx (hb hby d12_39) 40 rfl (v := (.ref a1)) rfl rfl ?_
        refine g_iconst X0 hx (hb hby d12_40) 41 rfl (2 : Int32) rfl ?_
        have hk2 : 3 ≤ N := own_kn (k := 3) hn hN (by decide) hc36
        obtain ⟨x2, ur2, ue2⟩ := hv 2 (by omega)
        refine g_baload X0 hx (hb hby d12_41) 42 rfl hZ e0 A_a1 (own_in (j := 2) (by omega) (by omega)) (.int x2) ur2 ?_
        refine g_aloadN X0 hx (hb hby d12_42) 43 rfl (v := (.ref a2)) rfl rfl ?_
        refine g_iconst X0 hx (hb hby d12_43) 44 rfl (2 : Int32) rfl ?_
        refine g_baload X0 hx (hb hby d12_44) 45 rfl hZ e0 A_a2 (show ¬ (2 : Int32) < 0 ∧ (2 : Int32) < (8 : Int32) from by decide) (.int x2) ue2 ?_
        refine g_icmp_ne X0 hx (hb hby d12_45) 112 48 (by decide) (by decide) rfl (fun hc45 => False.elim (hc45 rfl)) (fun hc45 => ?_)
        refine g_iloadN X0 hx (hb hby d12_48) 49 rfl (v := p3) rfl ?_
        refine g_iconst X0 hx (hb hby d12_49) 50 rfl (4 : Int32) rfl ?_
        refine g_icmp_lt X0 hx (hb hby d12_50) 62 53 (by decide) (by decide) rfl (fun hc50 => ?_) (fun hc50 => ?_)
        · refine g_iloadN X0 hx (hb hby d12_62) 63 rfl (v := p3) rfl ?_
          refine g_iconst X0 hx (hb hby d12_63) 64 rfl (5 : Int32) rfl ?_
          refine g_icmp_lt X0 hx (hb hby d12_64) 76 67 (by decide) (by decide) rfl (fun hc64 => ?_) (fun hc64 => False.elim (hc64 (Int32.lt_trans hc50 (by decide))))
          refine g_iloadN X0 hx (hb hby d12_76) 77 rfl (v := p3) rfl ?_
          refine g_bipush X0 hx (hb hby d12_77) 79 rfl (6 : Int32) rfl ?_
          refine g_icmp_lt X0 hx (hb hby d12_79) 91 82 (by decide) (by decide) rfl (fun hc79 => ?_) (fun hc79 => False.elim (hc79 (Int32.lt_trans hc50 (by decide))))
          refine g_iloadN X0 hx (hb hby d12_91) 92 rfl (v := p3) rfl ?_
          refine g_bipush X0 hx (hb hby d12_92) 94 rfl (7 : Int32) rfl ?_
          refine g_icmp_lt X0 hx (hb hby d12_94) 108 97 (by decide) (by decide) rfl (fun hc94 => ?_) (fun hc94 => False.elim (hc94 (Int32.lt_trans hc50 (by decide))))
          refine g_iconst X0 hx (hb hby d12_108) 109 rfl (1 : Int32) rfl ?_
          refine g_goto X0 hx (hb hby d12_109) 113 (by decide) (by decide) ?_
          refine Go.retN X0 hx hlk (t := .boolean) Bd.returns (by simp) (hb hby d12_113) (by decide) (by decide) ?_
          show Qsame Z a1 a2 p3 kr ke N vr ve h0 n0 _ s₁.heap _
          rw [e0]
          exact ⟨rfl, N0, rfl⟩
        · refine g_aloadN X0 hx (hb hby d12_53) 54 rfl (v := (.ref a1)) rfl rfl ?_
          refine g_iconst X0 hx (hb hby d12_54) 55 rfl (3 : Int32) rfl ?_
          have hk3 : 4 ≤ N := own_kn (k := 4) hn hN (by decide) hc50
          obtain ⟨x3, ur3, ue3⟩ := hv 3 (by omega)
          refine g_baload X0 hx (hb hby d12_55) 56 rfl hZ e0 A_a1 (own_in (j := 3) (by omega) (by omega)) (.int x3) ur3 ?_
          refine g_aloadN X0 hx (hb hby d12_56) 57 rfl (v := (.ref a2)) rfl rfl ?_
          refine g_iconst X0 hx (hb hby d12_57) 58 rfl (3 : Int32) rfl ?_
          refine g_baload X0 hx (hb hby d12_58) 59 rfl hZ e0 A_a2 (show ¬ (3 : Int32) < 0 ∧ (3 : Int32) < (8 : Int32) from by decide) (.int x3) ue3 ?_
          refine g_icmp_ne X0 hx (hb hby d12_59) 112 62 (by decide) (by decide) rfl (fun hc59 => False.elim (hc59 rfl)) (fun hc59 => ?_)
          refine g_iloadN X0 hx (hb hby d12_62) 63 rfl (v := p3) rfl ?_
          refine g_iconst X0 hx (hb hby d12_63) 64 rfl (5 : Int32) rfl ?_
          refine g_icmp_lt X0 hx (hb hby d12_64) 76 67 (by decide) (by decide) rfl (fun hc64 => ?_) (fun hc64 => ?_)
          · refine g_iloadN X0 hx (hb hby d12_76) 77 rfl (v := p3) rfl ?_
            refine g_bipush X0 hx (hb hby d12_77) 79 rfl (6 : Int32) rfl ?_
            refine g_icmp_lt X0 hx (hb hby d12_79) 91 82 (by decide) (by decide) rfl (fun hc79 => ?_) (fun hc79 => False.elim (hc79 (Int32.lt_trans hc64 (by decide))))
            refine g_iloadN X0 hx (hb hby d12_91) 92 rfl (v := p3) rfl ?_
            refine g_bipush X0 hx (hb hby d12_92) 94 rfl (7 : Int32) rfl ?_
            refine g_icmp_lt X0 hx (hb hby d12_94) 108 97 (by decide) (by decide) rfl (fun hc94 => ?_) (fun hc94 => False.elim (hc94 (Int32.lt_trans hc64 (by decide))))
            refine g_iconst X0 hx (hb hby d12_108) 109 rfl (1 : Int32) rfl ?_
            refine g_goto X0 hx (hb hby d12_109) 113 (by decide) (by decide) ?_
            refine Go.retN X0 hx hlk (t := .boolean) Bd.returns (by simp) (hb hby d12_113) (by decide) (by decide) ?_
            show Qsame Z a1 a2 p3 kr ke N vr ve h0 n0 _ s₁.heap _
            rw [e0]
            exact ⟨rfl, N0, rfl⟩
          · refine g_aloadN X0 hx (hb hby d12_67) 68 rfl (v := (.ref a1)) rfl rfl ?_
            refine g_iconst X0 hx (hb hby d12_68) 69 rfl (4 : Int32) rfl ?_
            have hk4 : 5 ≤ N := own_kn (k := 5) hn hN (by decide) hc64
            obtain ⟨x4, ur4, ue4⟩ := hv 4 (by omega)
            refine g_baload X0 hx (hb hby d12_69) 70 rfl hZ e0 A_a1 (own_in (j := 4) (by omega) (by omega)) (.int x4) ur4 ?_
            refine g_aloadN X0 hx (hb hby d12_70) 71 rfl (v := (.ref a2)) rfl rfl ?_
            refine g_iconst X0 hx (hb hby d12_71) 72 rfl (4 : Int32) rfl ?_
            refine g_baload X0 hx (hb hby d12_72) 73 rfl hZ e0 A_a2 (show ¬ (4 : Int32) < 0 ∧ (4 : Int32) < (8 : Int32) from by decide) (.int x4) ue4 ?_
            refine g_icmp_ne X0 hx (hb hby d12_73) 112 76 (by decide) (by decide) rfl (fun hc73 => False.elim (hc73 rfl)) (fun hc73 => ?_)
            refine g_iloadN X0 hx (hb hby d12_76) 77 rfl (v := p3) rfl ?_
            refine g_bipush X0 hx (hb hby d12_77) 79 rfl (6 : Int32) rfl ?_
            refine g_icmp_lt X0 hx (hb hby d12_79) 91 82 (by decide) (by decide) rfl (fun hc79 => ?_) (fun hc79 => ?_)
            · refine g_iloadN X0 hx (hb hby d12_91) 92 rfl (v := p3) rfl ?_
              refine g_bipush X0 hx (hb hby d12_92) 94 rfl (7 : Int32) rfl ?_
              refine g_icmp_lt X0 hx (hb hby d12_94) 108 97 (by decide) (by decide) rfl (fun hc94 => ?_) (fun hc94 => False.elim (hc94 (Int32.lt_trans hc79 (by decide))))
              refine g_iconst X0 hx (hb hby d12_108) 109 rfl (1 : Int32) rfl ?_
              refine g_goto X0 hx (hb hby d12_109) 113 (by decide) (by decide) ?_
              refine Go.retN X0 hx hlk (t := .boolean) Bd.returns (by simp) (hb hby d12_113) (by decide) (by decide) ?_
              show Qsame Z a1 a2 p3 kr ke N vr ve h0 n0 _ s₁.heap _
              rw [e0]
              exact ⟨rfl, N0, rfl⟩
            · refine g_aloadN X0 hx (hb hby d12_82) 83 rfl (v := (.ref a1)) rfl rfl ?_
              refine g_iconst X0 hx (hb hby d12_83) 84 rfl (5 : Int32) rfl ?_
              have hk5 : 6 ≤ N := own_kn (k := 6) hn hN (by decide) hc79
              obtain ⟨x5, ur5, ue5⟩ := hv 5 (by omega)
              refine g_baload X0 hx (hb hby d12_84) 85 rfl hZ e0 A_a1 (own_in (j := 5) (by omega) (by omega)) (.int x5) ur5 ?_
              refine g_aloadN X0 hx (hb hby d12_85) 86 rfl (v := (.ref a2)) rfl rfl ?_
              refine g_iconst X0 hx (hb hby d12_86) 87 rfl (5 : Int32) rfl ?_
              refine g_baload X0 hx (hb hby d12_87) 88 rfl hZ e0 A_a2 (show ¬ (5 : Int32) < 0 ∧ (5 : Int32) < (8 : Int32) from by decide) (.int x5) ue5 ?_
              refine g_icmp_ne X0 hx (hb hby d12_88) 112 91 (by decide) (by decide) rfl (fun hc88 => False.elim (hc88 rfl)) (fun hc88 => ?_)
              refine g_iloadN X0 hx (hb hby d12_91) 92 rfl (v := p3) rfl ?_
              refine g_bipush X0 hx (hb hby d12_92) 94 rfl (7 : Int32) rfl ?_
              refine g_icmp_lt X0 hx (hb hby d12_94) 108 97 (by decide) (by decide) rfl (fun hc94 => ?_) (fun hc94 => ?_)
              · refine g_iconst X0 hx (hb hby d12_108) 109 rfl (1 : Int32) rfl ?_
                refine g_goto X0 hx (hb hby d12_109) 113 (by decide) (by decide) ?_
                refine Go.retN X0 hx hlk (t := .boolean) Bd.returns (by simp) (hb hby d12_113) (by decide) (by decide) ?_
                show Qsame Z a1 a2 p3 kr ke N vr ve h0 n0 _ s₁.heap _
                rw [e0]
                exact ⟨rfl, N0, rfl⟩
              · refine g_aloadN X0 hx (hb hby d12_97) 98 rfl (v := (.ref a1)) rfl rfl ?_
                refine g_bipush X0 hx (hb hby d12_98) 100 rfl (6 : Int32) rfl ?_
                have hk6 : 7 ≤ N := own_kn (k := 7) hn hN (by decide) hc94
                obtain ⟨x6, ur6, ue6⟩ := hv 6 (by omega)
                refine g_baload X0 hx (hb hby d12_100) 101 rfl hZ e0 A_a1 (own_in (j := 6) (by omega) (by omega)) (.int x6) ur6 ?_
                refine g_aloadN X0 hx (hb hby d12_101) 102 rfl (v := (.ref a2)) rfl rfl ?_
                refine g_bipush X0 hx (hb hby d12_102) 104 rfl (6 : Int32) rfl ?_
                refine g_baload X0 hx (hb hby d12_104) 105 rfl hZ e0 A_a2 (show ¬ (6 : Int32) < 0 ∧ (6 : Int32) < (8 : Int32) from by decide) (.int x6) ue6 ?_
                refine g_icmp_ne X0 hx (hb hby d12_105) 112 108 (by decide) (by decide) rfl (fun hc105 => False.elim (hc105 rfl)) (fun hc105 => ?_)
                refine g_iconst X0 hx (hb hby d12_108) 109 rfl (1 : Int32) rfl ?_
                refine g_goto X0 hx (hb hby d12_109) 113 (by decide) (by decide) ?_
                refine Go.retN X0 hx hlk (t := .boolean) Bd.returns (by simp) (hb hby d12_113) (by decide) (by decide) ?_
                show Qsame Z a1 a2 p3 kr ke N vr ve h0 n0 _ s₁.heap _
                rw [e0]
                exact ⟨rfl, N0, rfl⟩
theorem ef_0 (m : MethodId) (x0 : Int32) (x1 : Int32) (x2 : Int32) : entryFrame m #[(.int x0), (.int x1), (.int x2)] maxLocals = mkF m 0 #[.val (.int x0), .val (.int x1), .val (.int x2), .unset, .unset, .unset, .unset, .unset, .unset, .unset, .unset, .unset, .unset, .unset, .unset, .unset] [] := by first | (simp [entryFrame, mkF, argsToLocals, Value.category, maxLocals]; done) | rfl
theorem own_pd14 : parseMethodDescriptor "(C)Ljava/lang/String;" = some ⟨[.char], some (.object "java/lang/String")⟩ := by decide +kernel
theorem own_pd15 : parseMethodDescriptor "()V" = some ⟨[], none⟩ := by decide +kernel
theorem own_pd16 : parseMethodDescriptor "()[B" = some ⟨[], some (.array .byte)⟩ := by decide +kernel
theorem own_pd17 : parseMethodDescriptor "([B[BI)Z" = some ⟨[(.array .byte), (.array .byte), .int], some .boolean⟩ := by decide +kernel
theorem own_pd18 : parseMethodDescriptor "(Ljava/lang/String;Ljava/lang/String;)V" = some ⟨[(.object "java/lang/String"), (.object "java/lang/String")], none⟩ := by decide +kernel
def Q0 (Z : State) (p1 : Int32) (p2 : Int32) (p3 : Int32) (s_COMPACT_STRINGS : Int32) (s_SIOOBE_FORMATTER : Value) (h0 : Heap) (n0 : Nat) (v : Option Value) (h : Heap) (L : List Loc) : Prop := v = some (.int (1 : Int32)) ∧ Fr n0 L
set_option maxRecDepth 65536 in
set_option maxHeartbeats 40000000 in
theorem rm0 (l : Launch) (Z : State) (a0 : Array Value) (hw : ∀ d ∈ tables_1, d.before a0 Z = true) (ws : List Jvm.Cond) (p1 : Int32) (p2 : Int32) (p3 : Int32) (s_COMPACT_STRINGS : Int32) (s_SIOOBE_FORMATTER : Value) (h0 : Heap) (n0 : Nat) (Z0 : n0 ≤ h0.size) (S_COMPACT_STRINGS : Sta Z h0 "java/lang/String" "COMPACT_STRINGS" "Z" (.int s_COMPACT_STRINGS)) (S_SIOOBE_FORMATTER : Sta Z h0 "jdk/internal/util/Preconditions" "SIOOBE_FORMATTER" "Ljava/util/function/BiFunction;" s_SIOOBE_FORMATTER) (hn0 : h0.size = n0) (hz_s_COMPACT_STRINGS : ¬ s_COMPACT_STRINGS = 0) (hR_s_SIOOBE_FORMATTER : s_SIOOBE_FORMATTER.isRef = true) :
    MetFree l x (head1 (Jvm.Cond.code x code maxLocals ret :: ws) room_1) (fun a U => a = #[(.int p1), (.int p2), (.int p3)] ∧ Z.Warmed39 U.vm ∧ U.heap = h0) (fun _ _ _ _ _ => True) (fun _ U o U' => ∃ v L, o = .returned v ∧ Q0 Z p1 p2 p3 s_COMPACT_STRINGS s_SIOOBE_FORMATTER h0 n0 v U'.heap L ∧ FrameEnd U o U' L 32 32960) := by
  refine MetFree.of_bodySF (plainFor_of_name own_pn_com_example_anagrafe_anagrafe_atom_MarkupToByteArrayPinLaw) hisR ?_
  intro p e s m args below meth c s₁ Bd hml0 hP hK
  obtain ⟨rfl, hZ, hh⟩ := hP
  have hx := Bd.exec
  have hby := Bd.bytes
  have hlk := Bd.notSynchronized
  have hml : c.maxLocals = 16 := hml0
  have hown : s.vm.findClass "com/example/anagrafe/anagrafe/atom/MarkupToByteArrayPinLaw" = some m.cls := findClass_of_methodNamed Bd.named
  have hnm := (name_of_methodNamed Bd.named Bd.method).1
  have X0 : Stand p l e room_1 s m #[(.int p1), (.int p2), (.int p3)] below meth c s₁ [] 0 0 := Stand.of_body Bd
  have e0 : s₁.heap = h0 := by rw [← hh, Bd.state]; rfl
  have N0 := Fr.nil n0
  have K0 : Keep h0 h0 [] := Keep.refl _ _
  show Go p e below (KQ s below (Q0 Z p1 p2 p3 s_COMPACT_STRINGS s_SIOOBE_FORMATTER h0 n0) 32 32960) _
  refine Go.body (T := s₁) (σ := s₁) (g' := (mkF m 0 #[.val (.int p1), .val (.int p2), .val (.int p3), .unset, .unset, .unset, .unset, .unset, .unset, .unset, .unset, .unset, .unset, .unset, .unset, .unset] [])) (ef_0 m p1 p2 p3) ?_
  refine g_iloadN X0 hx (hb hby at_0) 1 rfl (v := p2) rfl ?_
  refine g_bipush X0 hx (hb hby at_1) 3 rfl (127 : Int32) rfl ?_
  refine g_iand X0 hx (hb hby at_3) 4 rfl (p2 &&& (127 : Int32)) rfl ?_
  obtain ⟨c1, e_c1⟩ : ∃ z, (p2 &&& (127 : Int32)).toUInt32.toUInt16.toUInt32.toInt32 = z := ⟨_, rfl⟩
  refine g_i2c X0 hx (hb hby at_4) 5 rfl c1 e_c1 ?_
  refine g_istoreN X0 hx (hb hby at_5) 6 rfl #[.val (.int p1), .val (.int p2), .val (.int p3), .val (.int c1), .unset, .unset, .unset, .unset, .unset, .unset, .unset, .unset, .unset, .unset, .unset, .unset] rfl ?_
  refine g_iloadN X0 hx (hb hby at_6) 7 rfl (v := p3) rfl ?_
  refine g_bipush X0 hx (hb hby at_7) 9 rfl (127 : Int32) rfl ?_
  refine g_iand X0 hx (hb hby at_9) 10 rfl (p3 &&& (127 : Int32)) rfl ?_
  obtain ⟨c2, e_c2⟩ : ∃ z, (p3 &&& (127 : Int32)).toUInt32.toUInt16.toUInt32.toInt32 = z := ⟨_, rfl⟩
  refine g_i2c X0 hx (hb hby at_10) 11 rfl c2 e_c2 ?_
  refine g_istore X0 hx (hb hby at_11) 13 rfl #[.val (.int p1), .val (.int p2), .val (.int p3), .val (.int c1), .val (.int c2), .unset, .unset, .unset, .unset, .unset, .unset, .unset, .unset, .unset, .unset, .unset] rfl ?_
  refine g_iloadN X0 hx (hb hby at_13) 14 rfl (v := p1) rfl ?_
  refine g_iconst X0 hx (hb hby at_14) 15 rfl (1 : Int32) rfl ?_
  refine g_iand X0 hx (hb hby at_15) 16 rfl (p1 &&& (1 : Int32)) rfl ?_
  refine g_if_eq X0 hx (hb hby at_16) 23 19 (by decide) (by decide) rfl (fun hc16 => ?_) (fun hc16 => ?_)
  · refine g_iconst X0 hx (hb hby at_23) 24 rfl (0 : Int32) rfl ?_
    refine g_istore X0 hx (hb hby at_24) 26 rfl #[.val (.int p1), .val (.int p2), .val (.int p3), .val (.int c1), .val (.int c2), .val (.int (0 : Int32)), .unset, .unset, .unset, .unset, .unset, .unset, .unset, .unset, .unset, .unset] rfl ?_
    refine g_iloadN X0 hx (hb hby at_26) 27 rfl (v := p1) rfl ?_
    refine g_iconst X0 hx (hb hby at_27) 28 rfl (2 : Int32) rfl ?_
    refine g_iand X0 hx (hb hby at_28) 29 rfl (p1 &&& (2 : Int32)) rfl ?_
    refine g_if_eq X0 hx (hb hby at_29) 36 32 (by decide) (by decide) rfl (fun hc29 => ?_) (fun hc29 => ?_)
    · refine g_iconst X0 hx (hb hby at_36) 37 rfl (0 : Int32) rfl ?_
      refine g_istore X0 hx (hb hby at_37) 39 rfl #[.val (.int p1), .val (.int p2), .val (.int p3), .val (.int c1), .val (.int c2), .val (.int (0 : Int32)), .val (.int (0 : Int32)), .unset, .unset, .unset, .unset, .unset, .unset, .unset, .unset, .unset] rfl ?_
      refine g_iloadN X0 hx (hb hby at_39) 40 rfl (v := c1) rfl ?_
      obtain ⟨_, _, ⟨T121, L121, k121, n121⟩, -, X121, ⟨Lc121, hQ121, l121, y121, z121⟩, st121⟩ := Jvm.LawKit.callS X0 hx (y := (⟨"java/lang/String", "valueOf", "(C)Ljava/lang/String;"⟩ : MethodName)) hown (mvT hZ (hw _ (List.mem_of_getElem? (i := 0) rfl))) (mvT hZ (hw _ (List.mem_of_getElem? (i := 1) rfl))) (mvT hZ (hw _ (List.mem_of_getElem? (i := 2) rfl))) (mvT hZ (hw _ (List.mem_of_getElem? (i := 3) rfl))) (by decide) (backOf (W := 0) (rm1 l Z a0 hw [] c1 s_COMPACT_STRINGS h0 n0 Z0 S_COMPACT_STRINGS hz_s_COMPACT_STRINGS (e_c1 ▸ own_ch7 p2)) hZ (hw _ (List.mem_of_getElem? (i := 3) rfl)) (hw _ (List.mem_of_getElem? (i := 2) rfl)) (by decide) (by decide)) (g := (mkF m 40 #[.val (.int p1), .val (.int p2), .val (.int p3), .val (.int c1), .val (.int c2), .val (.int (0 : Int32)), .val (.int (0 : Int32)), .unset, .unset, .unset, .unset, .unset, .unset, .unset, .unset, .unset] [(.int c1)])) rfl (by rw [hml]; rfl) (argsL := [(.int c1)]) (rest := []) (lenOf own_pd14 rfl) rfl (by show 2 * 0 + _ ≤ _; exact Nat.le_of_eq rfl) (hb hby at_40) (fun _ _ => ⟨rfl, e0, (by decide : 0 + 2 ≤ _), (by decide : 0 + 5 ≤ _)⟩)
      dsimp only [Pt.U, Pt.locs, Pt.cells, Pt.slots] at X121 l121 y121 z121 st121 hQ121
      subst l121 y121 z121
      obtain ⟨b_121, vb_121, kb_121, rfl, Nq121, Kq121, f121_0, f121_1, f121_2, f121_3, f121_4, f121_5, f121_6⟩ := hQ121
      refine Go.st st121 ?_
      have N121 := Fr.app N0 Nq121
      have g_b_121 : n0 ≤ b_121 := Nat.le_trans Z0 f121_0
      have mh_b_121 : h0.size ≤ b_121 := Nat.le_trans K0.1 f121_0
      have g_vb_121 : n0 ≤ vb_121 := Nat.le_trans Z0 f121_1
      have mh_vb_121 : h0.size ≤ vb_121 := Nat.le_trans K0.1 f121_1
      have K121 : Keep h0 T121.heap [] := Keep.trans K0 Kq121 all0
      have Zs121 : n0 ≤ T121.heap.size := Nat.le_trans Z0 Kq121.1
      show Go p e below _ (T121.setTop (mkF m 43 #[.val (.int p1), .val (.int p2), .val (.int p3), .val (.int c1), .val (.int c2), .val (.int (0 : Int32)), .val (.int (0 : Int32)), .unset, .unset, .unset, .unset, .unset, .unset, .unset, .unset, .unset] [(.ref b_121)]))
      refine g_astore X121 hx (hb hby at_43) 45 rfl rfl #[.val (.int p1), .val (.int p2), .val (.int p3), .val (.int c1), .val (.int c2), .val (.int (0 : Int32)), .val (.int (0 : Int32)), .val (.ref b_121), .unset, .unset, .unset, .unset, .unset, .unset, .unset, .unset] rfl ?_
      refine g_iload X121 hx (hb hby at_45) 47 rfl (v := c2) rfl ?_
      obtain ⟨_, _, ⟨T123, L123, k123, n123⟩, -, X123, ⟨Lc123, hQ123, l123, y123, z123⟩, st123⟩ := Jvm.LawKit.callS X121 hx (y := (⟨"java/lang/String", "valueOf", "(C)Ljava/lang/String;"⟩ : MethodName)) hown (mvT hZ (hw _ (List.mem_of_getElem? (i := 0) rfl))) (mvT hZ (hw _ (List.mem_of_getElem? (i := 1) rfl))) (mvT hZ (hw _ (List.mem_of_getElem? (i := 2) rfl))) (mvT hZ (hw _ (List.mem_of_getElem? (i := 3) rfl))) (by decide) (backOf (W := 0) (rm1 l Z a0 hw [] c2 s_COMPACT_STRINGS T121.heap n0 Zs121 (own_Sta_keep S_COMPACT_STRINGS K121 all0) hz_s_COMPACT_STRINGS (e_c2 ▸ own_ch7 p3)) hZ (hw _ (List.mem_of_getElem? (i := 3) rfl)) (hw _ (List.mem_of_getElem? (i := 2) rfl)) (by decide) (by decide)) (g := (mkF m 47 #[.val (.int p1), .val (.int p2), .val (.int p3), .val (.int c1), .val (.int c2), .val (.int (0 : Int32)), .val (.int (0 : Int32)), .val (.ref b_121), .unset, .unset, .unset, .unset, .unset, .unset, .unset, .unset] [(.int c2)])) rfl (by rw [hml]; rfl) (argsL := [(.int c2)]) (rest := []) (lenOf own_pd14 rfl) rfl (by show 2 * 0 + _ ≤ _; exact Nat.le_of_eq rfl) (hb hby at_47) (fun _ _ => ⟨rfl, rfl, (by decide : 2 + 2 ≤ _), (by decide : 5 + 5 ≤ _)⟩)
      dsimp only [Pt.U, Pt.locs, Pt.cells, Pt.slots] at X123 l123 y123 z123 st123 hQ123
      subst l123 y123 z123
      obtain ⟨b_123, vb_123, kb_123, rfl, Nq123, Kq123, f123_0, f123_1, f123_2, f123_3, f123_4, f123_5, f123_6⟩ := hQ123
      refine Go.st st123 ?_
      have N123 := Fr.app N121 Nq123
      have E_b_121_124 : Exa Z T123.heap b_121 "java/lang/String" := Exa.keep f121_3 Kq123
      have F_value_b_121_124 : Fld Z T123.heap b_121 "java/lang/String" "value" "[B" (.ref vb_121) := Fld.keep f121_4 Kq123 nin0
      have F_coder_b_121_124 : Fld Z T123.heap b_121 "java/lang/String" "coder" "B" (.int (0 : Int32)) := Fld.keep f121_5 Kq123 nin0
      have A_vb_121_124 : Arv Z T123.heap vb_121 kb_121 .byte (1 : Int32) ([(.int c1.toInt8.toInt32)]) (.int (0 : Int32)) := Arv.keep f121_6 Kq123 nin0
      have ne_b_121_b_123 : b_121 ≠ b_123 := Nat.ne_of_lt (Nat.lt_of_lt_of_le f121_3.lt f123_0)
      have ne_vb_121_b_123 : vb_121 ≠ b_123 := Nat.ne_of_lt (Nat.lt_of_lt_of_le f121_6.lt f123_0)
      have g_b_123 : n0 ≤ b_123 := Nat.le_trans Zs121 f123_0
      have mh_b_123 : h0.size ≤ b_123 := Nat.le_trans K121.1 f123_0
      have ne_b_121_vb_123 : b_121 ≠ vb_123 := Nat.ne_of_lt (Nat.lt_of_lt_of_le f121_3.lt f123_1)
      have ne_vb_121_vb_123 : vb_121 ≠ vb_123 := Nat.ne_of_lt (Nat.lt_of_lt_of_le f121_6.lt f123_1)
      have g_vb_123 : n0 ≤ vb_123 := Nat.le_trans Zs121 f123_1
      have mh_vb_123 : h0.size ≤ vb_123 := Nat.le_trans K121.1 f123_1
      have K123 : Keep h0 T123.heap [] := Keep.trans K121 Kq123 all0
      have Zs123 : n0 ≤ T123.heap.size := Nat.le_trans Zs121 Kq123.1
      show Go p e below _ (T123.setTop (mkF m 50 #[.val (.int p1), .val (.int p2), .val (.int p3), .val (.int c1), .val (.int c2), .val (.int (0 : Int32)), .val (.int (0 : Int32)), .val (.ref b_121), .unset, .unset, .unset, .unset, .unset, .unset, .unset, .unset] [(.ref b_123)]))
      refine g_astore X123 hx (hb hby at_50) 52 rfl rfl #[.val (.int p1), .val (.int p2), .val (.int p3), .val (.int c1), .val (.int c2), .val (.int (0 : Int32)), .val (.int (0 : Int32)), .val (.ref b_121), .val (.ref b_123), .unset, .unset, .unset, .unset, .unset, .unset, .unset] rfl ?_
      refine g_bipush X123 hx (hb hby at_52) 54 rfl (8 : Int32) rfl ?_
      obtain ⟨T125, h125, cA125, X125, e125, E125, A125, st125⟩ := newP X123 hx hZ (aty := .byte) (hw _ (List.mem_of_getElem? (i := 14) rfl)) rfl (g := (mkF m 54 #[.val (.int p1), .val (.int p2), .val (.int p3), .val (.int c1), .val (.int c2), .val (.int (0 : Int32)), .val (.int (0 : Int32)), .val (.ref b_121), .val (.ref b_123), .unset, .unset, .unset, .unset, .unset, .unset, .unset] [(.int (8 : Int32))])) rfl (hb hby at_54) rfl (by decide) (cap := 8) (by decide) (by decide) (by decide) (by decide)
      refine Go.st st125 ?_
      obtain ⟨oe, q125⟩ : ∃ z, z = T123.heap.size := ⟨_, rfl⟩
      rw [← q125] at A125 ⊢
      have ne_b_121_oe : b_121 ≠ oe := Nat.ne_of_lt (Nat.lt_of_lt_of_eq E_b_121_124.lt q125.symm)
      have ne_vb_121_oe : vb_121 ≠ oe := Nat.ne_of_lt (Nat.lt_of_lt_of_eq A_vb_121_124.lt q125.symm)
      have ne_b_123_oe : b_123 ≠ oe := Nat.ne_of_lt (Nat.lt_of_lt_of_eq f123_3.lt q125.symm)
      have ne_vb_123_oe : vb_123 ≠ oe := Nat.ne_of_lt (Nat.lt_of_lt_of_eq f123_6.lt q125.symm)
      have g_oe : n0 ≤ oe := Nat.le_trans Zs123 (Nat.le_of_eq q125.symm)
      have mh_oe : h0.size ≤ oe := Nat.le_trans K123.1 (Nat.le_of_eq q125.symm)
      have E_b_121_126 : Exa Z h125 b_121 "java/lang/String" := Exa.ext E125 E_b_121_124
      have F_value_b_121_126 : Fld Z h125 b_121 "java/lang/String" "value" "[B" (.ref vb_121) := Fld.ext E125 F_value_b_121_124
      have F_coder_b_121_126 : Fld Z h125 b_121 "java/lang/String" "coder" "B" (.int (0 : Int32)) := Fld.ext E125 F_coder_b_121_124
      have A_vb_121_126 : Arv Z h125 vb_121 kb_121 .byte (1 : Int32) ([(.int c1.toInt8.toInt32)]) (.int (0 : Int32)) := Arv.ext A_vb_121_124 E125
      have E_b_123_126 : Exa Z h125 b_123 "java/lang/String" := Exa.ext E125 f123_3
      have F_value_b_123_126 : Fld Z h125 b_123 "java/lang/String" "value" "[B" (.ref vb_123) := Fld.ext E125 f123_4
      have F_coder_b_123_126 : Fld Z h125 b_123 "java/lang/String" "coder" "B" (.int (0 : Int32)) := Fld.ext E125 f123_5
      have A_vb_123_126 : Arv Z h125 vb_123 kb_123 .byte (1 : Int32) ([(.int c2.toInt8.toInt32)]) (.int (0 : Int32)) := Arv.ext f123_6 E125
      have K125 : Keep h0 h125 [] := Keep.ext K123 E125
      have Zs125 : n0 ≤ h125.size := Nat.le_trans Zs123 E125.1
      have Av_oe : Arv Z h125 oe cA125 .byte (8 : Int32) ([(.int (0 : Int32)), (.int (0 : Int32)), (.int (0 : Int32)), (.int (0 : Int32)), (.int (0 : Int32)), (.int (0 : Int32)), (.int (0 : Int32)), (.int (0 : Int32))]) (.int (0 : Int32)) := Arv.pad (Arv.new A125 (by decide)) (pad_rep [] (.int (0 : Int32)) 8)
      show Go p e below _ (T125.setTop (mkF m 56 #[.val (.int p1), .val (.int p2), .val (.int p3), .val (.int c1), .val (.int c2), .val (.int (0 : Int32)), .val (.int (0 : Int32)), .val (.ref b_121), .val (.ref b_123), .unset, .unset, .unset, .unset, .unset, .unset, .unset] [(.ref oe)]))
      refine g_astore X125 hx (hb hby at_56) 58 rfl rfl #[.val (.int p1), .val (.int p2), .val (.int p3), .val (.int c1), .val (.int c2), .val (.int (0 : Int32)), .val (.int (0 : Int32)), .val (.ref b_121), .val (.ref b_123), .val (.ref oe), .unset, .unset, .unset, .unset, .unset, .unset] rfl ?_
      refine g_iconst X125 hx (hb hby at_58) 59 rfl (0 : Int32) rfl ?_
      refine g_istore X125 hx (hb hby at_59) 61 rfl #[.val (.int p1), .val (.int p2), .val (.int p3), .val (.int c1), .val (.int c2), .val (.int (0 : Int32)), .val (.int (0 : Int32)), .val (.ref b_121), .val (.ref b_123), .val (.ref oe), .val (.int (0 : Int32)), .unset, .unset, .unset, .unset, .unset] rfl ?_
      refine g_iload X125 hx (hb hby at_61) 63 rfl (v := (0 : Int32)) rfl ?_
      refine g_if_eq X125 hx (hb hby at_63) 94 66 (by decide) (by decide) rfl (fun hc63 => ?_) (fun hc63 => False.elim (absurd rfl hc63))
      refine g_iload X125 hx (hb hby at_94) 96 rfl (v := (0 : Int32)) rfl ?_
      refine g_if_eq X125 hx (hb hby at_96) 124 99 (by decide) (by decide) rfl (fun hc96 => ?_) (fun hc96 => False.elim (absurd rfl hc96))
      refine g_aload X125 hx (hb hby at_124) 126 rfl (v := (.ref oe)) rfl rfl ?_
      refine g_iload X125 hx (hb hby at_126) 128 rfl (v := (0 : Int32)) rfl ?_
      refine g_bipush X125 hx (hb hby at_128) 130 rfl (62 : Int32) rfl ?_
      obtain ⟨T127, h127, X127, e127, W127, B127, st127⟩ := g_bastore X125 hx (hb hby at_130) hZ e125 Av_oe (show ¬ (0 : Int32) < 0 ∧ (0 : Int32) < (8 : Int32) from by decide) (i := 0) (by decide) (by simp)  (L := #[.val (.int p1), .val (.int p2), .val (.int p3), .val (.int c1), .val (.int c2), .val (.int (0 : Int32)), .val (.int (0 : Int32)), .val (.ref b_121), .val (.ref b_123), .val (.ref oe), .val (.int (0 : Int32)), .unset, .unset, .unset, .unset, .unset]) (S := [])
      refine Go.st st127 ?_
      have E_b_121_128 : Exa Z h127 b_121 "java/lang/String" := Exa.wr W127 E_b_121_126
      have F_value_b_121_128 : Fld Z h127 b_121 "java/lang/String" "value" "[B" (.ref vb_121) := Fld.other W127 F_value_b_121_126 (Or.inl ne_b_121_oe)
      have F_coder_b_121_128 : Fld Z h127 b_121 "java/lang/String" "coder" "B" (.int (0 : Int32)) := Fld.other W127 F_coder_b_121_126 (Or.inl ne_b_121_oe)
      have A_vb_121_128 : Arv Z h127 vb_121 kb_121 .byte (1 : Int32) ([(.int c1.toInt8.toInt32)]) (.int (0 : Int32)) := Arv.other A_vb_121_126 W127 ne_vb_121_oe
      have E_b_123_128 : Exa Z h127 b_123 "java/lang/String" := Exa.wr W127 E_b_123_126
      have F_value_b_123_128 : Fld Z h127 b_123 "java/lang/String" "value" "[B" (.ref vb_123) := Fld.other W127 F_value_b_123_126 (Or.inl ne_b_123_oe)
      have F_coder_b_123_128 : Fld Z h127 b_123 "java/lang/String" "coder" "B" (.int (0 : Int32)) := Fld.other W127 F_coder_b_123_126 (Or.inl ne_b_123_oe)
      have A_vb_123_128 : Arv Z h127 vb_123 kb_123 .byte (1 : Int32) ([(.int c2.toInt8.toInt32)]) (.int (0 : Int32)) := Arv.other A_vb_123_126 W127 ne_vb_123_oe
      have Av_oe_127 : Arv Z h127 oe cA125 .byte (8 : Int32) ([(.int (62 : Int32)), (.int (0 : Int32)), (.int (0 : Int32)), (.int (0 : Int32)), (.int (0 : Int32)), (.int (0 : Int32)), (.int (0 : Int32)), (.int (0 : Int32))]) (.int (0 : Int32)) := B127
      have K127 : Keep h0 h127 [] := Keep.wr K125 W127 (Or.inr mh_oe)
      have N127 := Fr.snoc X127 N123 g_oe
      have Zs127 : n0 ≤ h127.size := by rw [W127.size]; exact Zs125
      show Go p e below _ (T127.setTop (mkF m 131 #[.val (.int p1), .val (.int p2), .val (.int p3), .val (.int c1), .val (.int c2), .val (.int (0 : Int32)), .val (.int (0 : Int32)), .val (.ref b_121), .val (.ref b_123), .val (.ref oe), .val (.int (0 : Int32)), .unset, .unset, .unset, .unset, .unset] []))
      refine g_iload X127 hx (hb hby at_131) 133 rfl (v := (0 : Int32)) rfl ?_
      refine g_iconst X127 hx (hb hby at_133) 134 rfl (1 : Int32) rfl ?_
      refine g_iadd X127 hx (hb hby at_134) 135 rfl ((0 : Int32) + (1 : Int32)) rfl ?_
      refine g_istore X127 hx (hb hby at_135) 137 rfl #[.val (.int p1), .val (.int p2), .val (.int p3), .val (.int c1), .val (.int c2), .val (.int (0 : Int32)), .val (.int (0 : Int32)), .val (.ref b_121), .val (.ref b_123), .val (.ref oe), .val (.int ((0 : Int32) + (1 : Int32))), .unset, .unset, .unset, .unset, .unset] rfl ?_
      obtain ⟨T129, h129, X129, e129, E129, A129, D129, -, st129⟩ := newO X127 hx hZ hown (hw _ (List.mem_of_getElem? (i := 26) rfl)) (hw _ (List.mem_of_getElem? (i := 27) rfl)) (hw _ (List.mem_of_getElem? (i := 28) rfl)) e127 (g := (mkF m 137 #[.val (.int p1), .val (.int p2), .val (.int p3), .val (.int c1), .val (.int c2), .val (.int (0 : Int32)), .val (.int (0 : Int32)), .val (.ref b_121), .val (.ref b_123), .val (.ref oe), .val (.int ((0 : Int32) + (1 : Int32))), .unset, .unset, .unset, .unset, .unset] [])) rfl (hb hby at_137) (by decide) (by decide)
      refine Go.st st129 ?_
      obtain ⟨om, q129⟩ : ∃ z, z = h127.size := ⟨_, rfl⟩
      rw [← q129] at A129 D129 ⊢
      have ne_b_121_om : b_121 ≠ om := Nat.ne_of_lt (Nat.lt_of_lt_of_eq E_b_121_128.lt q129.symm)
      have ne_vb_121_om : vb_121 ≠ om := Nat.ne_of_lt (Nat.lt_of_lt_of_eq A_vb_121_128.lt q129.symm)
      have ne_b_123_om : b_123 ≠ om := Nat.ne_of_lt (Nat.lt_of_lt_of_eq E_b_123_128.lt q129.symm)
      have ne_vb_123_om : vb_123 ≠ om := Nat.ne_of_lt (Nat.lt_of_lt_of_eq A_vb_123_128.lt q129.symm)
      have ne_oe_om : oe ≠ om := Nat.ne_of_lt (Nat.lt_of_lt_of_eq Av_oe_127.lt q129.symm)
      have g_om : n0 ≤ om := Nat.le_trans Zs127 (Nat.le_of_eq q129.symm)
      have mh_om : h0.size ≤ om := Nat.le_trans K127.1 (Nat.le_of_eq q129.symm)
      have E_b_121_130 : Exa Z h129 b_121 "java/lang/String" := Exa.ext E129 E_b_121_128
      have F_value_b_121_130 : Fld Z h129 b_121 "java/lang/String" "value" "[B" (.ref vb_121) := Fld.ext E129 F_value_b_121_128
      have F_coder_b_121_130 : Fld Z h129 b_121 "java/lang/String" "coder" "B" (.int (0 : Int32)) := Fld.ext E129 F_coder_b_121_128
      have A_vb_121_130 : Arv Z h129 vb_121 kb_121 .byte (1 : Int32) ([(.int c1.toInt8.toInt32)]) (.int (0 : Int32)) := Arv.ext A_vb_121_128 E129
      have E_b_123_130 : Exa Z h129 b_123 "java/lang/String" := Exa.ext E129 E_b_123_128
      have F_value_b_123_130 : Fld Z h129 b_123 "java/lang/String" "value" "[B" (.ref vb_123) := Fld.ext E129 F_value_b_123_128
      have F_coder_b_123_130 : Fld Z h129 b_123 "java/lang/String" "coder" "B" (.int (0 : Int32)) := Fld.ext E129 F_coder_b_123_128
      have A_vb_123_130 : Arv Z h129 vb_123 kb_123 .byte (1 : Int32) ([(.int c2.toInt8.toInt32)]) (.int (0 : Int32)) := Arv.ext A_vb_123_128 E129
      have A_oe_130 : Arv Z h129 oe cA125 .byte (8 : Int32) ([(.int (62 : Int32)), (.int (0 : Int32)), (.int (0 : Int32)), (.int (0 : Int32)), (.int (0 : Int32)), (.int (0 : Int32)), (.int (0 : Int32)), (.int (0 : Int32))]) (.int (0 : Int32)) := Arv.ext Av_oe_127 E129
      have F_bytes_129 : Fld Z h129 om "com/example/anagrafe/anagrafe/atom/Markup" "bytes" "[B" .null := D129 (Or.inl (hw _ (List.mem_of_getElem? (i := 34) rfl))) (ty := (.array .byte)) (by decide)
      have F_size_129 : Fld Z h129 om "com/example/anagrafe/anagrafe/atom/Markup" "size" "I" (.int (0 : Int32)) := D129 (Or.inl (hw _ (List.mem_of_getElem? (i := 41) rfl))) (ty := .int) (by decide)
      have K129 : Keep h0 h129 [] := Keep.ext K127 E129
      have Zs129 : n0 ≤ h129.size := Nat.le_trans Zs127 E129.1
      show Go p e below _ (T129.setTop (mkF m 140 #[.val (.int p1), .val (.int p2), .val (.int p3), .val (.int c1), .val (.int c2), .val (.int (0 : Int32)), .val (.int (0 : Int32)), .val (.ref b_121), .val (.ref b_123), .val (.ref oe), .val (.int ((0 : Int32) + (1 : Int32))), .unset, .unset, .unset, .unset, .unset] [(.ref om)]))
      refine g_dup X129 hx (hb hby at_140) 141 rfl rfl ?_
      obtain ⟨_, _, ⟨T131, L131, k131, n131⟩, -, X131, ⟨Lc131, hQ131, l131, y131, z131⟩, st131⟩ := X129.specialBack hx (y := (⟨"com/example/anagrafe/anagrafe/atom/Markup", "<init>", "()V"⟩ : MethodName)) rfl hown (mvT hZ (hw _ (List.mem_of_getElem? (i := 29) rfl))) (mvT hZ (hw _ (List.mem_of_getElem? (i := 30) rfl))) (mvT hZ (hw _ (List.mem_of_getElem? (i := 31) rfl))) (by decide) (backOf (W := 1) (rm6 l Z a0 hw [] om .null h129 n0 Zs129 A129 g_om F_bytes_129 F_size_129) hZ (hw _ (List.mem_of_getElem? (i := 31) rfl)) (hw _ (List.mem_of_getElem? (i := 28) rfl)) (by decide) (by decide)) (g := (mkF m 141 #[.val (.int p1), .val (.int p2), .val (.int p3), .val (.int c1), .val (.int c2), .val (.int (0 : Int32)), .val (.int (0 : Int32)), .val (.ref b_121), .val (.ref b_123), .val (.ref oe), .val (.int ((0 : Int32) + (1 : Int32))), .unset, .unset, .unset, .unset, .unset] [(.ref om), (.ref om)])) rfl (by rw [hml]; rfl) (Steps.refl _) (a := om) (argsL := []) (rest := [(.ref om)]) (lenOf own_pd15 rfl) rfl (by show 2 * 0 + _ ≤ _; exact Nat.le_of_eq rfl) (hb hby at_141) (fun _ _ => ⟨rfl, e129, (by decide : 6 + 1 ≤ _), (by decide : 20 + 16384 ≤ _)⟩)
      dsimp only [Pt.U, Pt.locs, Pt.cells, Pt.slots] at X131 l131 y131 z131 st131 hQ131
      subst l131 y131 z131
      obtain ⟨wq_131, kq_131, rfl, Nq131, Kq131, f131_0, f131_1, f131_2, f131_3, f131_4⟩ := hQ131
      refine Go.tr st131 ?_
      have N131 := Fr.app N127 Nq131
      have E_b_121_132 : Exa Z T131.heap b_121 "java/lang/String" := Exa.keep E_b_121_130 Kq131
      have F_value_b_121_132 : Fld Z T131.heap b_121 "java/lang/String" "value" "[B" (.ref vb_121) := Fld.keep F_value_b_121_130 Kq131 (ninS ne_b_121_om nin0)
      have F_coder_b_121_132 : Fld Z T131.heap b_121 "java/lang/String" "coder" "B" (.int (0 : Int32)) := Fld.keep F_coder_b_121_130 Kq131 (ninS ne_b_121_om nin0)
      have A_vb_121_132 : Arv Z T131.heap vb_121 kb_121 .byte (1 : Int32) ([(.int c1.toInt8.toInt32)]) (.int (0 : Int32)) := Arv.keep A_vb_121_130 Kq131 (ninS ne_vb_121_om nin0)
      have E_b_123_132 : Exa Z T131.heap b_123 "java/lang/String" := Exa.keep E_b_123_130 Kq131
      have F_value_b_123_132 : Fld Z T131.heap b_123 "java/lang/String" "value" "[B" (.ref vb_123) := Fld.keep F_value_b_123_130 Kq131 (ninS ne_b_123_om nin0)
      have F_coder_b_123_132 : Fld Z T131.heap b_123 "java/lang/String" "coder" "B" (.int (0 : Int32)) := Fld.keep F_coder_b_123_130 Kq131 (ninS ne_b_123_om nin0)
      have A_vb_123_132 : Arv Z T131.heap vb_123 kb_123 .byte (1 : Int32) ([(.int c2.toInt8.toInt32)]) (.int (0 : Int32)) := Arv.keep A_vb_123_130 Kq131 (ninS ne_vb_123_om nin0)
      have A_oe_132 : Arv Z T131.heap oe cA125 .byte (8 : Int32) ([(.int (62 : Int32)), (.int (0 : Int32)), (.int (0 : Int32)), (.int (0 : Int32)), (.int (0 : Int32)), (.int (0 : Int32)), (.int (0 : Int32)), (.int (0 : Int32))]) (.int (0 : Int32)) := Arv.keep A_oe_130 Kq131 (ninS ne_oe_om nin0)
      have E_om_132 : Exa Z T131.heap om "com/example/anagrafe/anagrafe/atom/Markup" := Exa.keep A129 Kq131
      have ne_b_121_wq_131 : b_121 ≠ wq_131 := Nat.ne_of_lt (Nat.lt_of_lt_of_le E_b_121_130.lt f131_0)
      have ne_vb_121_wq_131 : vb_121 ≠ wq_131 := Nat.ne_of_lt (Nat.lt_of_lt_of_le A_vb_121_130.lt f131_0)
      have ne_b_123_wq_131 : b_123 ≠ wq_131 := Nat.ne_of_lt (Nat.lt_of_lt_of_le E_b_123_130.lt f131_0)
      have ne_vb_123_wq_131 : vb_123 ≠ wq_131 := Nat.ne_of_lt (Nat.lt_of_lt_of_le A_vb_123_130.lt f131_0)
      have ne_oe_wq_131 : oe ≠ wq_131 := Nat.ne_of_lt (Nat.lt_of_lt_of_le A_oe_130.lt f131_0)
      have ne_om_wq_131 : om ≠ wq_131 := Nat.ne_of_lt (Nat.lt_of_lt_of_le A129.lt f131_0)
      have g_wq_131 : n0 ≤ wq_131 := Nat.le_trans Zs129 f131_0
      have mh_wq_131 : h0.size ≤ wq_131 := Nat.le_trans K129.1 f131_0
      have K131 : Keep h0 T131.heap [] := Keep.trans K129 Kq131 (allS (Or.inr mh_om) all0)
      have Zs131 : n0 ≤ T131.heap.size := Nat.le_trans Zs129 Kq131.1
      show Go p e below _ (T131.setTop (mkF m 144 #[.val (.int p1), .val (.int p2), .val (.int p3), .val (.int c1), .val (.int c2), .val (.int (0 : Int32)), .val (.int (0 : Int32)), .val (.ref b_121), .val (.ref b_123), .val (.ref oe), .val (.int ((0 : Int32) + (1 : Int32))), .unset, .unset, .unset, .unset, .unset] [(.ref om)]))
      refine g_astore X131 hx (hb hby at_144) 146 rfl rfl #[.val (.int p1), .val (.int p2), .val (.int p3), .val (.int c1), .val (.int c2), .val (.int (0 : Int32)), .val (.int (0 : Int32)), .val (.ref b_121), .val (.ref b_123), .val (.ref oe), .val (.int ((0 : Int32) + (1 : Int32))), .val (.ref om), .unset, .unset, .unset, .unset] rfl ?_
      refine g_aload X131 hx (hb hby at_146) 148 rfl (v := (.ref om)) rfl rfl ?_
      obtain ⟨cq133, kq133, q133a, q133b, q133c⟩ := isOf hZ rfl f131_1
      obtain ⟨_, _, ⟨T133, L133, k133, n133⟩, -, X133, ⟨Lc133, hQ133, l133, y133, z133⟩, st133⟩ := X131.virtualBack hx (y := (⟨"com/example/anagrafe/anagrafe/atom/Markup", "toByteArray", "()[B"⟩ : MethodName)) (z := (⟨"com/example/anagrafe/anagrafe/atom/Markup", "toByteArray", "()[B"⟩ : MethodName)) hown (mvT hZ (hw _ (List.mem_of_getElem? (i := 35) rfl))) (mvT hZ (hw _ (List.mem_of_getElem? (i := 36) rfl))) (notFace_of_selects (args := #[]) (mvT hZ (hw _ (List.mem_of_getElem? (i := 38) rfl)))) (mvT hZ (hw _ (List.mem_of_getElem? (i := 38) rfl))) (mvT hZ (hw _ (List.mem_of_getElem? (i := 37) rfl))) (by decide) (backOf (W := 0) (rm7 l Z a0 hw [] om wq_131 kq_131 0 [] T131.heap n0 Zs131 f131_1 f131_2 f131_3 f131_4 rfl (by decide)) hZ (hw _ (List.mem_of_getElem? (i := 39) rfl)) (hw _ (List.mem_of_getElem? (i := 28) rfl)) (by decide) (by decide)) q133a q133c (g := (mkF m 148 #[.val (.int p1), .val (.int p2), .val (.int p3), .val (.int c1), .val (.int c2), .val (.int (0 : Int32)), .val (.int (0 : Int32)), .val (.ref b_121), .val (.ref b_123), .val (.ref oe), .val (.int ((0 : Int32) + (1 : Int32))), .val (.ref om), .unset, .unset, .unset, .unset] [(.ref om)])) rfl (by rw [hml]; rfl) (Steps.refl _) (argsL := []) (rest := []) (lenOf own_pd16 rfl) rfl (by show 2 * 0 + _ ≤ _; exact Nat.le_of_eq rfl) (hb hby at_148) (fun _ _ => ⟨rfl, rfl, (by decide : 7 + 1 ≤ _), (by decide : 16404 + 8 ≤ _)⟩)
      dsimp only [Pt.U, Pt.locs, Pt.cells, Pt.slots] at X133 l133 y133 z133 st133 hQ133
      subst l133 y133 z133
      obtain ⟨b_133, kq_133, rfl, Nq133, Kq133, f133_0, f133_1⟩ := hQ133
      refine Go.tr st133 ?_
      have N133 := Fr.app N131 Nq133
      have E_b_121_134 : Exa Z T133.heap b_121 "java/lang/String" := Exa.keep E_b_121_132 Kq133
      have F_value_b_121_134 : Fld Z T133.heap b_121 "java/lang/String" "value" "[B" (.ref vb_121) := Fld.keep F_value_b_121_132 Kq133 nin0
      have F_coder_b_121_134 : Fld Z T133.heap b_121 "java/lang/String" "coder" "B" (.int (0 : Int32)) := Fld.keep F_coder_b_121_132 Kq133 nin0
      have A_vb_121_134 : Arv Z T133.heap vb_121 kb_121 .byte (1 : Int32) ([(.int c1.toInt8.toInt32)]) (.int (0 : Int32)) := Arv.keep A_vb_121_132 Kq133 nin0
      have E_b_123_134 : Exa Z T133.heap b_123 "java/lang/String" := Exa.keep E_b_123_132 Kq133
      have F_value_b_123_134 : Fld Z T133.heap b_123 "java/lang/String" "value" "[B" (.ref vb_123) := Fld.keep F_value_b_123_132 Kq133 nin0
      have F_coder_b_123_134 : Fld Z T133.heap b_123 "java/lang/String" "coder" "B" (.int (0 : Int32)) := Fld.keep F_coder_b_123_132 Kq133 nin0
      have A_vb_123_134 : Arv Z T133.heap vb_123 kb_123 .byte (1 : Int32) ([(.int c2.toInt8.toInt32)]) (.int (0 : Int32)) := Arv.keep A_vb_123_132 Kq133 nin0
      have A_oe_134 : Arv Z T133.heap oe cA125 .byte (8 : Int32) ([(.int (62 : Int32)), (.int (0 : Int32)), (.int (0 : Int32)), (.int (0 : Int32)), (.int (0 : Int32)), (.int (0 : Int32)), (.int (0 : Int32)), (.int (0 : Int32))]) (.int (0 : Int32)) := Arv.keep A_oe_132 Kq133 nin0
      have E_om_134 : Exa Z T133.heap om "com/example/anagrafe/anagrafe/atom/Markup" := Exa.keep f131_1 Kq133
      have F_bytes_om_134 : Fld Z T133.heap om "com/example/anagrafe/anagrafe/atom/Markup" "bytes" "[B" (.ref wq_131) := Fld.keep f131_2 Kq133 nin0
      have F_size_om_134 : Fld Z T133.heap om "com/example/anagrafe/anagrafe/atom/Markup" "size" "I" (.int (Int32.ofNat 0)) := Fld.keep f131_3 Kq133 nin0
      have A_wq_131_134 : Arv Z T133.heap wq_131 kq_131 .byte (Int32.ofNat 16384) [] (.int (0 : Int32)) := Arv.keep f131_4 Kq133 nin0
      have ne_b_121_b_133 : b_121 ≠ b_133 := Nat.ne_of_lt (Nat.lt_of_lt_of_le E_b_121_132.lt f133_0)
      have ne_vb_121_b_133 : vb_121 ≠ b_133 := Nat.ne_of_lt (Nat.lt_of_lt_of_le A_vb_121_132.lt f133_0)
      have ne_b_123_b_133 : b_123 ≠ b_133 := Nat.ne_of_lt (Nat.lt_of_lt_of_le E_b_123_132.lt f133_0)
      have ne_vb_123_b_133 : vb_123 ≠ b_133 := Nat.ne_of_lt (Nat.lt_of_lt_of_le A_vb_123_132.lt f133_0)
      have ne_oe_b_133 : oe ≠ b_133 := Nat.ne_of_lt (Nat.lt_of_lt_of_le A_oe_132.lt f133_0)
      have ne_om_b_133 : om ≠ b_133 := Nat.ne_of_lt (Nat.lt_of_lt_of_le f131_1.lt f133_0)
      have ne_wq_131_b_133 : wq_131 ≠ b_133 := Nat.ne_of_lt (Nat.lt_of_lt_of_le f131_4.lt f133_0)
      have g_b_133 : n0 ≤ b_133 := Nat.le_trans Zs131 f133_0
      have mh_b_133 : h0.size ≤ b_133 := Nat.le_trans K131.1 f133_0
      have K133 : Keep h0 T133.heap [] := Keep.trans K131 Kq133 all0
      have Zs133 : n0 ≤ T133.heap.size := Nat.le_trans Zs131 Kq133.1
      show Go p e below _ (T133.setTop (mkF m 151 #[.val (.int p1), .val (.int p2), .val (.int p3), .val (.int c1), .val (.int c2), .val (.int (0 : Int32)), .val (.int (0 : Int32)), .val (.ref b_121), .val (.ref b_123), .val (.ref oe), .val (.int ((0 : Int32) + (1 : Int32))), .val (.ref om), .unset, .unset, .unset, .unset] [(.ref b_133)]))
      refine g_astore X133 hx (hb hby at_151) 153 rfl rfl #[.val (.int p1), .val (.int p2), .val (.int p3), .val (.int c1), .val (.int c2), .val (.int (0 : Int32)), .val (.int (0 : Int32)), .val (.ref b_121), .val (.ref b_123), .val (.ref oe), .val (.int ((0 : Int32) + (1 : Int32))), .val (.ref om), .val (.ref b_133), .unset, .unset, .unset] rfl ?_
      refine g_aload X133 hx (hb hby at_153) 155 rfl (v := (.ref b_133)) rfl rfl ?_
      refine g_alen X133 hx (hb hby at_155) 156 rfl hZ rfl f133_1 ?_
      refine g_if_eq X133 hx (hb hby at_156) 161 159 (by decide) (by decide) rfl (fun hc156 => ?_) (fun hc156 => False.elim (hc156 rfl))
      refine g_iload X133 hx (hb hby at_161) 163 rfl (v := (0 : Int32)) rfl ?_
      refine g_if_eq X133 hx (hb hby at_163) 175 166 (by decide) (by decide) rfl (fun hc163 => ?_) (fun hc163 => False.elim (absurd rfl hc163))
      refine g_iload X133 hx (hb hby at_175) 177 rfl (v := (0 : Int32)) rfl ?_
      refine g_if_eq X133 hx (hb hby at_177) 188 180 (by decide) (by decide) rfl (fun hc177 => ?_) (fun hc177 => False.elim (absurd rfl hc177))
      refine g_aload X133 hx (hb hby at_188) 190 rfl (v := (.ref om)) rfl rfl ?_
      obtain ⟨cq136, kq136, q136a, q136b, q136c⟩ := isOf hZ rfl E_om_134
      obtain ⟨_, _, ⟨T136, L136, k136, n136⟩, -, X136, ⟨Lc136, hQ136, l136, y136, z136⟩, st136⟩ := X133.virtualBack hx (y := (⟨"com/example/anagrafe/anagrafe/atom/Markup", "endStart", "()V"⟩ : MethodName)) (z := (⟨"com/example/anagrafe/anagrafe/atom/Markup", "endStart", "()V"⟩ : MethodName)) hown (mvT hZ (hw _ (List.mem_of_getElem? (i := 54) rfl))) (mvT hZ (hw _ (List.mem_of_getElem? (i := 55) rfl))) (notFace_of_selects (args := #[]) (mvT hZ (hw _ (List.mem_of_getElem? (i := 57) rfl)))) (mvT hZ (hw _ (List.mem_of_getElem? (i := 57) rfl))) (mvT hZ (hw _ (List.mem_of_getElem? (i := 56) rfl))) (by decide) (backOf (W := 0) (rm10 l Z a0 hw [] om wq_131 kq_131 0 [] T133.heap n0 Zs133 E_om_134 F_bytes_om_134 F_size_om_134 A_wq_131_134 g_om g_wq_131 ne_om_wq_131 rfl (by decide)) hZ (hw _ (List.mem_of_getElem? (i := 58) rfl)) (hw _ (List.mem_of_getElem? (i := 28) rfl)) (by decide) (by decide)) q136a q136c (g := (mkF m 190 #[.val (.int p1), .val (.int p2), .val (.int p3), .val (.int c1), .val (.int c2), .val (.int (0 : Int32)), .val (.int (0 : Int32)), .val (.ref b_121), .val (.ref b_123), .val (.ref oe), .val (.int ((0 : Int32) + (1 : Int32))), .val (.ref om), .val (.ref b_133), .unset, .unset, .unset] [(.ref om)])) rfl (by rw [hml]; rfl) (Steps.refl _) (argsL := []) (rest := []) (lenOf own_pd15 rfl) rfl (by show 2 * 0 + _ ≤ _; exact Nat.le_of_eq rfl) (hb hby at_190) (fun _ _ => ⟨rfl, rfl, (by decide : 8 + 0 ≤ _), (by decide : 16412 + 0 ≤ _)⟩)
      dsimp only [Pt.U, Pt.locs, Pt.cells, Pt.slots] at X136 l136 y136 z136 st136 hQ136
      subst l136 y136 z136
      obtain ⟨rfl, Nq136, Kq136, f136_0, f136_1, f136_2, f136_3⟩ := hQ136
      refine Go.tr st136 ?_
      have N136 := Fr.app N133 Nq136
      have A_oe_137 : Arv Z T136.heap oe cA125 .byte (8 : Int32) ([(.int (62 : Int32)), (.int (0 : Int32)), (.int (0 : Int32)), (.int (0 : Int32)), (.int (0 : Int32)), (.int (0 : Int32)), (.int (0 : Int32)), (.int (0 : Int32))]) (.int (0 : Int32)) := Arv.keep A_oe_134 Kq136 (ninS ne_oe_om (ninS ne_oe_wq_131 nin0))
      have E_om_137 : Exa Z T136.heap om "com/example/anagrafe/anagrafe/atom/Markup" := Exa.keep E_om_134 Kq136
      have A_b_133_137 : Arv Z T136.heap b_133 kq_133 .byte (Int32.ofNat 0) [] (.int (0 : Int32)) := Arv.keep f133_1 Kq136 (ninS (Ne.symm ne_om_b_133) (ninS (Ne.symm ne_wq_131_b_133) nin0))
      have K136 : Keep h0 T136.heap [] := Keep.trans K133 Kq136 (allS (Or.inr mh_om) (allS (Or.inr mh_wq_131) all0))
      have Zs136 : n0 ≤ T136.heap.size := Nat.le_trans Zs133 Kq136.1
      show Go p e below _ (T136.setTop (mkF m 193 #[.val (.int p1), .val (.int p2), .val (.int p3), .val (.int c1), .val (.int c2), .val (.int (0 : Int32)), .val (.int (0 : Int32)), .val (.ref b_121), .val (.ref b_123), .val (.ref oe), .val (.int ((0 : Int32) + (1 : Int32))), .val (.ref om), .val (.ref b_133), .unset, .unset, .unset] []))
      refine g_aload X136 hx (hb hby at_193) 195 rfl (v := (.ref om)) rfl rfl ?_
      obtain ⟨cq138, kq138, q138a, q138b, q138c⟩ := isOf hZ rfl f136_0
      obtain ⟨_, _, ⟨T138, L138, k138, n138⟩, -, X138, ⟨Lc138, hQ138, l138, y138, z138⟩, st138⟩ := X136.virtualBack hx (y := (⟨"com/example/anagrafe/anagrafe/atom/Markup", "toByteArray", "()[B"⟩ : MethodName)) (z := (⟨"com/example/anagrafe/anagrafe/atom/Markup", "toByteArray", "()[B"⟩ : MethodName)) hown (mvT hZ (hw _ (List.mem_of_getElem? (i := 35) rfl))) (mvT hZ (hw _ (List.mem_of_getElem? (i := 36) rfl))) (notFace_of_selects (args := #[]) (mvT hZ (hw _ (List.mem_of_getElem? (i := 38) rfl)))) (mvT hZ (hw _ (List.mem_of_getElem? (i := 38) rfl))) (mvT hZ (hw _ (List.mem_of_getElem? (i := 37) rfl))) (by decide) (backOf (W := 0) (rm7 l Z a0 hw [] om wq_131 kq_131 (0 + 1) ([] ++ [(.int (62 : Int32))]) T136.heap n0 Zs136 f136_0 f136_1 f136_2 f136_3 rfl (by decide)) hZ (hw _ (List.mem_of_getElem? (i := 39) rfl)) (hw _ (List.mem_of_getElem? (i := 28) rfl)) (by decide) (by decide)) q138a q138c (g := (mkF m 195 #[.val (.int p1), .val (.int p2), .val (.int p3), .val (.int c1), .val (.int c2), .val (.int (0 : Int32)), .val (.int (0 : Int32)), .val (.ref b_121), .val (.ref b_123), .val (.ref oe), .val (.int ((0 : Int32) + (1 : Int32))), .val (.ref om), .val (.ref b_133), .unset, .unset, .unset] [(.ref om)])) rfl (by rw [hml]; rfl) (Steps.refl _) (argsL := []) (rest := []) (lenOf own_pd16 rfl) rfl (by show 2 * 0 + _ ≤ _; exact Nat.le_of_eq rfl) (hb hby at_195) (fun _ _ => ⟨rfl, rfl, (by decide : 8 + 1 ≤ _), (by decide : 16412 + 8 ≤ _)⟩)
      dsimp only [Pt.U, Pt.locs, Pt.cells, Pt.slots] at X138 l138 y138 z138 st138 hQ138
      subst l138 y138 z138
      obtain ⟨b_138, kq_138, rfl, Nq138, Kq138, f138_0, f138_1⟩ := hQ138
      refine Go.tr st138 ?_
      have N138 := Fr.app N136 Nq138
      have A_oe_139 : Arv Z T138.heap oe cA125 .byte (8 : Int32) ([(.int (62 : Int32)), (.int (0 : Int32)), (.int (0 : Int32)), (.int (0 : Int32)), (.int (0 : Int32)), (.int (0 : Int32)), (.int (0 : Int32)), (.int (0 : Int32))]) (.int (0 : Int32)) := Arv.keep A_oe_137 Kq138 nin0
      have E_om_139 : Exa Z T138.heap om "com/example/anagrafe/anagrafe/atom/Markup" := Exa.keep f136_0 Kq138
      have A_b_133_139 : Arv Z T138.heap b_133 kq_133 .byte (Int32.ofNat 0) [] (.int (0 : Int32)) := Arv.keep A_b_133_137 Kq138 nin0
      have F_bytes_om_139 : Fld Z T138.heap om "com/example/anagrafe/anagrafe/atom/Markup" "bytes" "[B" (.ref wq_131) := Fld.keep f136_1 Kq138 nin0
      have F_size_om_139 : Fld Z T138.heap om "com/example/anagrafe/anagrafe/atom/Markup" "size" "I" (.int (Int32.ofNat (0 + 1))) := Fld.keep f136_2 Kq138 nin0
      have A_wq_131_139 : Arv Z T138.heap wq_131 kq_131 .byte (Int32.ofNat 16384) ([] ++ [(.int (62 : Int32))]) (.int (0 : Int32)) := Arv.keep f136_3 Kq138 nin0
      have ne_oe_b_138 : oe ≠ b_138 := Nat.ne_of_lt (Nat.lt_of_lt_of_le A_oe_137.lt f138_0)
      have ne_om_b_138 : om ≠ b_138 := Nat.ne_of_lt (Nat.lt_of_lt_of_le f136_0.lt f138_0)
      have ne_b_133_b_138 : b_133 ≠ b_138 := Nat.ne_of_lt (Nat.lt_of_lt_of_le A_b_133_137.lt f138_0)
      have ne_wq_131_b_138 : wq_131 ≠ b_138 := Nat.ne_of_lt (Nat.lt_of_lt_of_le f136_3.lt f138_0)
      have g_b_138 : n0 ≤ b_138 := Nat.le_trans Zs136 f138_0
      have mh_b_138 : h0.size ≤ b_138 := Nat.le_trans K136.1 f138_0
      have K138 : Keep h0 T138.heap [] := Keep.trans K136 Kq138 all0
      have Zs138 : n0 ≤ T138.heap.size := Nat.le_trans Zs136 Kq138.1
      show Go p e below _ (T138.setTop (mkF m 198 #[.val (.int p1), .val (.int p2), .val (.int p3), .val (.int c1), .val (.int c2), .val (.int (0 : Int32)), .val (.int (0 : Int32)), .val (.ref b_121), .val (.ref b_123), .val (.ref oe), .val (.int ((0 : Int32) + (1 : Int32))), .val (.ref om), .val (.ref b_133), .unset, .unset, .unset] [(.ref b_138)]))
      refine g_astore X138 hx (hb hby at_198) 200 rfl rfl #[.val (.int p1), .val (.int p2), .val (.int p3), .val (.int c1), .val (.int c2), .val (.int (0 : Int32)), .val (.int (0 : Int32)), .val (.ref b_121), .val (.ref b_123), .val (.ref oe), .val (.int ((0 : Int32) + (1 : Int32))), .val (.ref om), .val (.ref b_133), .val (.ref b_138), .unset, .unset] rfl ?_
      refine g_aload X138 hx (hb hby at_200) 202 rfl (v := (.ref b_138)) rfl rfl ?_
      refine g_aload X138 hx (hb hby at_202) 204 rfl (v := (.ref oe)) rfl rfl ?_
      refine g_iload X138 hx (hb hby at_204) 206 rfl (v := ((0 : Int32) + (1 : Int32))) rfl ?_
      obtain ⟨_, _, ⟨T140, L140, k140, n140⟩, -, X140, ⟨Lc140, hQ140, l140, y140, z140⟩, st140⟩ := Jvm.LawKit.callS X138 hx (y := (⟨"com/example/anagrafe/anagrafe/atom/MarkupToByteArrayPinLaw", "same", "([B[BI)Z"⟩ : MethodName)) hown (mvT hZ (hw _ (List.mem_of_getElem? (i := 63) rfl))) (mvT hZ (hw _ (List.mem_of_getElem? (i := 64) rfl))) (mvT hZ (hw _ (List.mem_of_getElem? (i := 65) rfl))) (mvT hZ (hw _ (List.mem_of_getElem? (i := 66) rfl))) (by decide) (backOf (W := 0) (rmsame l Z a0 hw [] b_138 oe ((0 : Int32) + (1 : Int32)) kq_138 cA125 (0 + 1) ([] ++ [(.int (62 : Int32))]) ([(.int (62 : Int32)), (.int (0 : Int32)), (.int (0 : Int32)), (.int (0 : Int32)), (.int (0 : Int32)), (.int (0 : Int32)), (.int (0 : Int32)), (.int (0 : Int32))]) T138.heap n0 Zs138 f138_1 A_oe_139 (by decide) (by decide) (fun i hi => match i, hi with | 0, _ => ⟨_, rfl, rfl⟩ | n + 1, h => absurd h (by omega))) hZ (hw _ (List.mem_of_getElem? (i := 66) rfl)) (hw _ (List.mem_of_getElem? (i := 65) rfl)) (by decide) (by decide)) (g := (mkF m 206 #[.val (.int p1), .val (.int p2), .val (.int p3), .val (.int c1), .val (.int c2), .val (.int (0 : Int32)), .val (.int (0 : Int32)), .val (.ref b_121), .val (.ref b_123), .val (.ref oe), .val (.int ((0 : Int32) + (1 : Int32))), .val (.ref om), .val (.ref b_133), .val (.ref b_138), .unset, .unset] [(.int ((0 : Int32) + (1 : Int32))), (.ref oe), (.ref b_138)])) rfl (by rw [hml]; rfl) (argsL := [(.ref b_138), (.ref oe), (.int ((0 : Int32) + (1 : Int32)))]) (rest := []) (lenOf own_pd17 rfl) rfl (by show 2 * 0 + _ ≤ _; exact Nat.le_of_eq rfl) (hb hby at_206) (fun _ _ => ⟨rfl, rfl, (by decide : 9 + 0 ≤ _), (by decide : 16420 + 0 ≤ _)⟩)
      dsimp only [Pt.U, Pt.locs, Pt.cells, Pt.slots] at X140 l140 y140 z140 st140 hQ140
      subst l140 y140 z140
      obtain ⟨rfl, Nq140, e140⟩ := hQ140
      refine Go.st st140 ?_
      have N140 := Fr.app N138 Nq140
      show Go p e below _ (T140.setTop (mkF m 209 #[.val (.int p1), .val (.int p2), .val (.int p3), .val (.int c1), .val (.int c2), .val (.int (0 : Int32)), .val (.int (0 : Int32)), .val (.ref b_121), .val (.ref b_123), .val (.ref oe), .val (.int ((0 : Int32) + (1 : Int32))), .val (.ref om), .val (.ref b_133), .val (.ref b_138), .unset, .unset] [(.int (1 : Int32))]))
      refine g_if_ne X140 hx (hb hby at_209) 214 212 (by decide) (by decide) rfl (fun hc209 => ?_) (fun hc209 => False.elim (absurd hc209 (by decide)))
      refine g_aload X140 hx (hb hby at_214) 216 rfl (v := (.ref b_138)) rfl rfl ?_
      refine g_iconst X140 hx (hb hby at_216) 217 rfl (0 : Int32) rfl ?_
      refine g_aload X140 hx (hb hby at_217) 219 rfl (v := (.ref b_138)) rfl rfl ?_
      refine g_iconst X140 hx (hb hby at_219) 220 rfl (0 : Int32) rfl ?_
      refine g_baload X140 hx (hb hby at_220) 221 rfl hZ e140 f138_1 (show ¬ (0 : Int32) < 0 ∧ (0 : Int32) < (Int32.ofNat (0 + 1)) from by decide) (.int (62 : Int32)) rfl ?_
      refine g_iconst X140 hx (hb hby at_221) 222 rfl (1 : Int32) rfl ?_
      refine g_ixor X140 hx (hb hby at_222) 223 rfl ((62 : Int32) ^^^ (1 : Int32)) rfl ?_
      refine g_i2b X140 hx (hb hby at_223) 224 rfl ((62 : Int32) ^^^ (1 : Int32)).toInt8.toInt32 rfl ?_
      obtain ⟨T142, h142, X142, e142, W142, B142, st142⟩ := g_bastore X140 hx (hb hby at_224) hZ e140 f138_1 (show ¬ (0 : Int32) < 0 ∧ (0 : Int32) < (Int32.ofNat (0 + 1)) from by decide) (i := 0) (by decide) (by simp)  (L := #[.val (.int p1), .val (.int p2), .val (.int p3), .val (.int c1), .val (.int c2), .val (.int (0 : Int32)), .val (.int (0 : Int32)), .val (.ref b_121), .val (.ref b_123), .val (.ref oe), .val (.int ((0 : Int32) + (1 : Int32))), .val (.ref om), .val (.ref b_133), .val (.ref b_138), .unset, .unset]) (S := [])
      refine Go.st st142 ?_
      have A_oe_143 : Arv Z h142 oe cA125 .byte (8 : Int32) ([(.int (62 : Int32)), (.int (0 : Int32)), (.int (0 : Int32)), (.int (0 : Int32)), (.int (0 : Int32)), (.int (0 : Int32)), (.int (0 : Int32)), (.int (0 : Int32))]) (.int (0 : Int32)) := Arv.other A_oe_139 W142 ne_oe_b_138
      have E_om_143 : Exa Z h142 om "com/example/anagrafe/anagrafe/atom/Markup" := Exa.wr W142 E_om_139
      have A_b_133_143 : Arv Z h142 b_133 kq_133 .byte (Int32.ofNat 0) [] (.int (0 : Int32)) := Arv.other A_b_133_139 W142 ne_b_133_b_138
      have F_bytes_om_143 : Fld Z h142 om "com/example/anagrafe/anagrafe/atom/Markup" "bytes" "[B" (.ref wq_131) := Fld.other W142 F_bytes_om_139 (Or.inl ne_om_b_138)
      have F_size_om_143 : Fld Z h142 om "com/example/anagrafe/anagrafe/atom/Markup" "size" "I" (.int (Int32.ofNat (0 + 1))) := Fld.other W142 F_size_om_139 (Or.inl ne_om_b_138)
      have A_wq_131_143 : Arv Z h142 wq_131 kq_131 .byte (Int32.ofNat 16384) ([] ++ [(.int (62 : Int32))]) (.int (0 : Int32)) := Arv.other A_wq_131_139 W142 ne_wq_131_b_138
      have Av_b_138_142 : Arv Z h142 b_138 kq_138 .byte (Int32.ofNat (0 + 1)) (List.set (α := Value) ([] ++ [(.int (62 : Int32))]) 0 (.int (nar .byte (((62 : Int32) ^^^ (1 : Int32)).toInt8.toInt32)))) (.int (0 : Int32)) := B142
      have K142 : Keep h0 h142 [] := Keep.wr K138 W142 (Or.inr mh_b_138)
      have N142 := Fr.snoc X142 N140 g_b_138
      have Zs142 : n0 ≤ h142.size := by rw [W142.size]; exact Zs138
      show Go p e below _ (T142.setTop (mkF m 225 #[.val (.int p1), .val (.int p2), .val (.int p3), .val (.int c1), .val (.int c2), .val (.int (0 : Int32)), .val (.int (0 : Int32)), .val (.ref b_121), .val (.ref b_123), .val (.ref oe), .val (.int ((0 : Int32) + (1 : Int32))), .val (.ref om), .val (.ref b_133), .val (.ref b_138), .unset, .unset] []))
      refine g_aload X142 hx (hb hby at_225) 227 rfl (v := (.ref om)) rfl rfl ?_
      obtain ⟨cq144, kq144, q144a, q144b, q144c⟩ := isOf hZ e142 E_om_143
      obtain ⟨_, _, ⟨T144, L144, k144, n144⟩, -, X144, ⟨Lc144, hQ144, l144, y144, z144⟩, st144⟩ := X142.virtualBack hx (y := (⟨"com/example/anagrafe/anagrafe/atom/Markup", "toByteArray", "()[B"⟩ : MethodName)) (z := (⟨"com/example/anagrafe/anagrafe/atom/Markup", "toByteArray", "()[B"⟩ : MethodName)) hown (mvT hZ (hw _ (List.mem_of_getElem? (i := 35) rfl))) (mvT hZ (hw _ (List.mem_of_getElem? (i := 36) rfl))) (notFace_of_selects (args := #[]) (mvT hZ (hw _ (List.mem_of_getElem? (i := 38) rfl)))) (mvT hZ (hw _ (List.mem_of_getElem? (i := 38) rfl))) (mvT hZ (hw _ (List.mem_of_getElem? (i := 37) rfl))) (by decide) (backOf (W := 0) (rm7 l Z a0 hw [] om wq_131 kq_131 (0 + 1) ([] ++ [(.int (62 : Int32))]) h142 n0 Zs142 E_om_143 F_bytes_om_143 F_size_om_143 A_wq_131_143 rfl (by decide)) hZ (hw _ (List.mem_of_getElem? (i := 39) rfl)) (hw _ (List.mem_of_getElem? (i := 28) rfl)) (by decide) (by decide)) q144a q144c (g := (mkF m 227 #[.val (.int p1), .val (.int p2), .val (.int p3), .val (.int c1), .val (.int c2), .val (.int (0 : Int32)), .val (.int (0 : Int32)), .val (.ref b_121), .val (.ref b_123), .val (.ref oe), .val (.int ((0 : Int32) + (1 : Int32))), .val (.ref om), .val (.ref b_133), .val (.ref b_138), .unset, .unset] [(.ref om)])) rfl (by rw [hml]; rfl) (Steps.refl _) (argsL := []) (rest := []) (lenOf own_pd16 rfl) rfl (by show 2 * 0 + _ ≤ _; exact Nat.le_of_eq rfl) (hb hby at_227) (fun _ _ => ⟨rfl, e142, (by decide : 9 + 1 ≤ _), (by decide : 16420 + 8 ≤ _)⟩)
      dsimp only [Pt.U, Pt.locs, Pt.cells, Pt.slots] at X144 l144 y144 z144 st144 hQ144
      subst l144 y144 z144
      obtain ⟨b_144, kq_144, rfl, Nq144, Kq144, f144_0, f144_1⟩ := hQ144
      refine Go.tr st144 ?_
      have N144 := Fr.app N142 Nq144
      have A_oe_145 : Arv Z T144.heap oe cA125 .byte (8 : Int32) ([(.int (62 : Int32)), (.int (0 : Int32)), (.int (0 : Int32)), (.int (0 : Int32)), (.int (0 : Int32)), (.int (0 : Int32)), (.int (0 : Int32)), (.int (0 : Int32))]) (.int (0 : Int32)) := Arv.keep A_oe_143 Kq144 nin0
      have E_om_145 : Exa Z T144.heap om "com/example/anagrafe/anagrafe/atom/Markup" := Exa.keep E_om_143 Kq144
      have A_b_133_145 : Arv Z T144.heap b_133 kq_133 .byte (Int32.ofNat 0) [] (.int (0 : Int32)) := Arv.keep A_b_133_143 Kq144 nin0
      have F_bytes_om_145 : Fld Z T144.heap om "com/example/anagrafe/anagrafe/atom/Markup" "bytes" "[B" (.ref wq_131) := Fld.keep F_bytes_om_143 Kq144 nin0
      have F_size_om_145 : Fld Z T144.heap om "com/example/anagrafe/anagrafe/atom/Markup" "size" "I" (.int (Int32.ofNat (0 + 1))) := Fld.keep F_size_om_143 Kq144 nin0
      have A_wq_131_145 : Arv Z T144.heap wq_131 kq_131 .byte (Int32.ofNat 16384) ([] ++ [(.int (62 : Int32))]) (.int (0 : Int32)) := Arv.keep A_wq_131_143 Kq144 nin0
      have A_b_138_145 : Arv Z T144.heap b_138 kq_138 .byte (Int32.ofNat (0 + 1)) (List.set (α := Value) ([] ++ [(.int (62 : Int32))]) 0 (.int (nar .byte (((62 : Int32) ^^^ (1 : Int32)).toInt8.toInt32)))) (.int (0 : Int32)) := Arv.keep Av_b_138_142 Kq144 nin0
      have ne_oe_b_144 : oe ≠ b_144 := Nat.ne_of_lt (Nat.lt_of_lt_of_le A_oe_143.lt f144_0)
      have ne_om_b_144 : om ≠ b_144 := Nat.ne_of_lt (Nat.lt_of_lt_of_le E_om_143.lt f144_0)
      have ne_b_133_b_144 : b_133 ≠ b_144 := Nat.ne_of_lt (Nat.lt_of_lt_of_le A_b_133_143.lt f144_0)
      have ne_wq_131_b_144 : wq_131 ≠ b_144 := Nat.ne_of_lt (Nat.lt_of_lt_of_le A_wq_131_143.lt f144_0)
      have ne_b_138_b_144 : b_138 ≠ b_144 := Nat.ne_of_lt (Nat.lt_of_lt_of_le Av_b_138_142.lt f144_0)
      have g_b_144 : n0 ≤ b_144 := Nat.le_trans Zs142 f144_0
      have mh_b_144 : h0.size ≤ b_144 := Nat.le_trans K142.1 f144_0
      have K144 : Keep h0 T144.heap [] := Keep.trans K142 Kq144 all0
      have Zs144 : n0 ≤ T144.heap.size := Nat.le_trans Zs142 Kq144.1
      show Go p e below _ (T144.setTop (mkF m 230 #[.val (.int p1), .val (.int p2), .val (.int p3), .val (.int c1), .val (.int c2), .val (.int (0 : Int32)), .val (.int (0 : Int32)), .val (.ref b_121), .val (.ref b_123), .val (.ref oe), .val (.int ((0 : Int32) + (1 : Int32))), .val (.ref om), .val (.ref b_133), .val (.ref b_138), .unset, .unset] [(.ref b_144)]))
      refine g_astore X144 hx (hb hby at_230) 232 rfl rfl #[.val (.int p1), .val (.int p2), .val (.int p3), .val (.int c1), .val (.int c2), .val (.int (0 : Int32)), .val (.int (0 : Int32)), .val (.ref b_121), .val (.ref b_123), .val (.ref oe), .val (.int ((0 : Int32) + (1 : Int32))), .val (.ref om), .val (.ref b_133), .val (.ref b_138), .val (.ref b_144), .unset] rfl ?_
      refine g_aload X144 hx (hb hby at_232) 234 rfl (v := (.ref b_144)) rfl rfl ?_
      refine g_aload X144 hx (hb hby at_234) 236 rfl (v := (.ref b_138)) rfl rfl ?_
      refine g_acmp_eq X144 hx (hb hby at_236) 251 239 (by decide) (by decide) rfl rfl rfl (fun hc236 => False.elim ((Ne.symm ne_b_138_b_144) (Value.ref.inj hc236))) (fun hc236 => ?_)
      refine g_aload X144 hx (hb hby at_239) 241 rfl (v := (.ref b_144)) rfl rfl ?_
      refine g_aload X144 hx (hb hby at_241) 243 rfl (v := (.ref oe)) rfl rfl ?_
      refine g_iload X144 hx (hb hby at_243) 245 rfl (v := ((0 : Int32) + (1 : Int32))) rfl ?_
      obtain ⟨_, _, ⟨T146, L146, k146, n146⟩, -, X146, ⟨Lc146, hQ146, l146, y146, z146⟩, st146⟩ := Jvm.LawKit.callS X144 hx (y := (⟨"com/example/anagrafe/anagrafe/atom/MarkupToByteArrayPinLaw", "same", "([B[BI)Z"⟩ : MethodName)) hown (mvT hZ (hw _ (List.mem_of_getElem? (i := 63) rfl))) (mvT hZ (hw _ (List.mem_of_getElem? (i := 64) rfl))) (mvT hZ (hw _ (List.mem_of_getElem? (i := 65) rfl))) (mvT hZ (hw _ (List.mem_of_getElem? (i := 66) rfl))) (by decide) (backOf (W := 0) (rmsame l Z a0 hw [] b_144 oe ((0 : Int32) + (1 : Int32)) kq_144 cA125 (0 + 1) ([] ++ [(.int (62 : Int32))]) ([(.int (62 : Int32)), (.int (0 : Int32)), (.int (0 : Int32)), (.int (0 : Int32)), (.int (0 : Int32)), (.int (0 : Int32)), (.int (0 : Int32)), (.int (0 : Int32))]) T144.heap n0 Zs144 f144_1 A_oe_145 (by decide) (by decide) (fun i hi => match i, hi with | 0, _ => ⟨_, rfl, rfl⟩ | n + 1, h => absurd h (by omega))) hZ (hw _ (List.mem_of_getElem? (i := 66) rfl)) (hw _ (List.mem_of_getElem? (i := 65) rfl)) (by decide) (by decide)) (g := (mkF m 245 #[.val (.int p1), .val (.int p2), .val (.int p3), .val (.int c1), .val (.int c2), .val (.int (0 : Int32)), .val (.int (0 : Int32)), .val (.ref b_121), .val (.ref b_123), .val (.ref oe), .val (.int ((0 : Int32) + (1 : Int32))), .val (.ref om), .val (.ref b_133), .val (.ref b_138), .val (.ref b_144), .unset] [(.int ((0 : Int32) + (1 : Int32))), (.ref oe), (.ref b_144)])) rfl (by rw [hml]; rfl) (argsL := [(.ref b_144), (.ref oe), (.int ((0 : Int32) + (1 : Int32)))]) (rest := []) (lenOf own_pd17 rfl) rfl (by show 2 * 0 + _ ≤ _; exact Nat.le_of_eq rfl) (hb hby at_245) (fun _ _ => ⟨rfl, rfl, (by decide : 10 + 0 ≤ _), (by decide : 16428 + 0 ≤ _)⟩)
      dsimp only [Pt.U, Pt.locs, Pt.cells, Pt.slots] at X146 l146 y146 z146 st146 hQ146
      subst l146 y146 z146
      obtain ⟨rfl, Nq146, e146⟩ := hQ146
      refine Go.st st146 ?_
      have N146 := Fr.app N144 Nq146
      show Go p e below _ (T146.setTop (mkF m 248 #[.val (.int p1), .val (.int p2), .val (.int p3), .val (.int c1), .val (.int c2), .val (.int (0 : Int32)), .val (.int (0 : Int32)), .val (.ref b_121), .val (.ref b_123), .val (.ref oe), .val (.int ((0 : Int32) + (1 : Int32))), .val (.ref om), .val (.ref b_133), .val (.ref b_138), .val (.ref b_144), .unset] [(.int (1 : Int32))]))
      refine g_if_ne X146 hx (hb hby at_248) 253 251 (by decide) (by decide) rfl (fun hc248 => ?_) (fun hc248 => False.elim (absurd hc248 (by decide)))
      refine g_aload X146 hx (hb hby at_253) 255 rfl (v := (.ref om)) rfl rfl ?_
      obtain ⟨cq147, kq147, q147a, q147b, q147c⟩ := isOf hZ e146 E_om_145
      obtain ⟨_, _, ⟨T147, L147, k147, n147⟩, -, X147, ⟨Lc147, hQ147, l147, y147, z147⟩, st147⟩ := X146.virtualBack hx (y := (⟨"com/example/anagrafe/anagrafe/atom/Markup", "endStart", "()V"⟩ : MethodName)) (z := (⟨"com/example/anagrafe/anagrafe/atom/Markup", "endStart", "()V"⟩ : MethodName)) hown (mvT hZ (hw _ (List.mem_of_getElem? (i := 54) rfl))) (mvT hZ (hw _ (List.mem_of_getElem? (i := 55) rfl))) (notFace_of_selects (args := #[]) (mvT hZ (hw _ (List.mem_of_getElem? (i := 57) rfl)))) (mvT hZ (hw _ (List.mem_of_getElem? (i := 57) rfl))) (mvT hZ (hw _ (List.mem_of_getElem? (i := 56) rfl))) (by decide) (backOf (W := 0) (rm10 l Z a0 hw [] om wq_131 kq_131 (0 + 1) ([] ++ [(.int (62 : Int32))]) T144.heap n0 Zs144 E_om_145 F_bytes_om_145 F_size_om_145 A_wq_131_145 g_om g_wq_131 ne_om_wq_131 rfl (by decide)) hZ (hw _ (List.mem_of_getElem? (i := 58) rfl)) (hw _ (List.mem_of_getElem? (i := 28) rfl)) (by decide) (by decide)) q147a q147c (g := (mkF m 255 #[.val (.int p1), .val (.int p2), .val (.int p3), .val (.int c1), .val (.int c2), .val (.int (0 : Int32)), .val (.int (0 : Int32)), .val (.ref b_121), .val (.ref b_123), .val (.ref oe), .val (.int ((0 : Int32) + (1 : Int32))), .val (.ref om), .val (.ref b_133), .val (.ref b_138), .val (.ref b_144), .unset] [(.ref om)])) rfl (by rw [hml]; rfl) (Steps.refl _) (argsL := []) (rest := []) (lenOf own_pd15 rfl) rfl (by show 2 * 0 + _ ≤ _; exact Nat.le_of_eq rfl) (hb hby at_255) (fun _ _ => ⟨rfl, e146, (by decide : 10 + 0 ≤ _), (by decide : 16428 + 0 ≤ _)⟩)
      dsimp only [Pt.U, Pt.locs, Pt.cells, Pt.slots] at X147 l147 y147 z147 st147 hQ147
      subst l147 y147 z147
      obtain ⟨rfl, Nq147, Kq147, f147_0, f147_1, f147_2, f147_3⟩ := hQ147
      refine Go.tr st147 ?_
      have N147 := Fr.app N146 Nq147
      have A_oe_148 : Arv Z T147.heap oe cA125 .byte (8 : Int32) ([(.int (62 : Int32)), (.int (0 : Int32)), (.int (0 : Int32)), (.int (0 : Int32)), (.int (0 : Int32)), (.int (0 : Int32)), (.int (0 : Int32)), (.int (0 : Int32))]) (.int (0 : Int32)) := Arv.keep A_oe_145 Kq147 (ninS ne_oe_om (ninS ne_oe_wq_131 nin0))
      have E_om_148 : Exa Z T147.heap om "com/example/anagrafe/anagrafe/atom/Markup" := Exa.keep E_om_145 Kq147
      have A_b_133_148 : Arv Z T147.heap b_133 kq_133 .byte (Int32.ofNat 0) [] (.int (0 : Int32)) := Arv.keep A_b_133_145 Kq147 (ninS (Ne.symm ne_om_b_133) (ninS (Ne.symm ne_wq_131_b_133) nin0))
      have A_b_138_148 : Arv Z T147.heap b_138 kq_138 .byte (Int32.ofNat (0 + 1)) (List.set (α := Value) ([] ++ [(.int (62 : Int32))]) 0 (.int (nar .byte (((62 : Int32) ^^^ (1 : Int32)).toInt8.toInt32)))) (.int (0 : Int32)) := Arv.keep A_b_138_145 Kq147 (ninS (Ne.symm ne_om_b_138) (ninS (Ne.symm ne_wq_131_b_138) nin0))
      have A_b_144_148 : Arv Z T147.heap b_144 kq_144 .byte (Int32.ofNat (0 + 1)) ([] ++ [(.int (62 : Int32))]) (.int (0 : Int32)) := Arv.keep f144_1 Kq147 (ninS (Ne.symm ne_om_b_144) (ninS (Ne.symm ne_wq_131_b_144) nin0))
      have K147 : Keep h0 T147.heap [] := Keep.trans K144 Kq147 (allS (Or.inr mh_om) (allS (Or.inr mh_wq_131) all0))
      have Zs147 : n0 ≤ T147.heap.size := Nat.le_trans Zs144 Kq147.1
      show Go p e below _ (T147.setTop (mkF m 258 #[.val (.int p1), .val (.int p2), .val (.int p3), .val (.int c1), .val (.int c2), .val (.int (0 : Int32)), .val (.int (0 : Int32)), .val (.ref b_121), .val (.ref b_123), .val (.ref oe), .val (.int ((0 : Int32) + (1 : Int32))), .val (.ref om), .val (.ref b_133), .val (.ref b_138), .val (.ref b_144), .unset] []))
      refine g_aload X147 hx (hb hby at_258) 260 rfl (v := (.ref oe)) rfl rfl ?_
      refine g_iload X147 hx (hb hby at_260) 262 rfl (v := ((0 : Int32) + (1 : Int32))) rfl ?_
      refine g_bipush X147 hx (hb hby at_262) 264 rfl (62 : Int32) rfl ?_
      obtain ⟨T149, h149, X149, e149, W149, B149, st149⟩ := g_bastore X147 hx (hb hby at_264) hZ rfl A_oe_148 (show ¬ ((0 : Int32) + (1 : Int32)) < 0 ∧ ((0 : Int32) + (1 : Int32)) < (8 : Int32) from by decide) (i := 1) (by decide) (by simp)  (L := #[.val (.int p1), .val (.int p2), .val (.int p3), .val (.int c1), .val (.int c2), .val (.int (0 : Int32)), .val (.int (0 : Int32)), .val (.ref b_121), .val (.ref b_123), .val (.ref oe), .val (.int ((0 : Int32) + (1 : Int32))), .val (.ref om), .val (.ref b_133), .val (.ref b_138), .val (.ref b_144), .unset]) (S := [])
      refine Go.st st149 ?_
      have E_om_150 : Exa Z h149 om "com/example/anagrafe/anagrafe/atom/Markup" := Exa.wr W149 f147_0
      have A_b_133_150 : Arv Z h149 b_133 kq_133 .byte (Int32.ofNat 0) [] (.int (0 : Int32)) := Arv.other A_b_133_148 W149 (Ne.symm ne_oe_b_133)
      have A_b_138_150 : Arv Z h149 b_138 kq_138 .byte (Int32.ofNat (0 + 1)) (List.set (α := Value) ([] ++ [(.int (62 : Int32))]) 0 (.int (nar .byte (((62 : Int32) ^^^ (1 : Int32)).toInt8.toInt32)))) (.int (0 : Int32)) := Arv.other A_b_138_148 W149 (Ne.symm ne_oe_b_138)
      have A_b_144_150 : Arv Z h149 b_144 kq_144 .byte (Int32.ofNat (0 + 1)) ([] ++ [(.int (62 : Int32))]) (.int (0 : Int32)) := Arv.other A_b_144_148 W149 (Ne.symm ne_oe_b_144)
      have F_bytes_om_150 : Fld Z h149 om "com/example/anagrafe/anagrafe/atom/Markup" "bytes" "[B" (.ref wq_131) := Fld.other W149 f147_1 (Or.inl (Ne.symm ne_oe_om))
      have F_size_om_150 : Fld Z h149 om "com/example/anagrafe/anagrafe/atom/Markup" "size" "I" (.int (Int32.ofNat ((0 + 1) + 1))) := Fld.other W149 f147_2 (Or.inl (Ne.symm ne_oe_om))
      have A_wq_131_150 : Arv Z h149 wq_131 kq_131 .byte (Int32.ofNat 16384) (([] ++ [(.int (62 : Int32))]) ++ [(.int (62 : Int32))]) (.int (0 : Int32)) := Arv.other f147_3 W149 (Ne.symm ne_oe_wq_131)
      have Av_oe_149 : Arv Z h149 oe cA125 .byte (8 : Int32) ([(.int (62 : Int32)), (.int (62 : Int32)), (.int (0 : Int32)), (.int (0 : Int32)), (.int (0 : Int32)), (.int (0 : Int32)), (.int (0 : Int32)), (.int (0 : Int32))]) (.int (0 : Int32)) := B149
      have K149 : Keep h0 h149 [] := Keep.wr K147 W149 (Or.inr mh_oe)
      have N149 := Fr.snoc X149 N147 g_oe
      have Zs149 : n0 ≤ h149.size := by rw [W149.size]; exact Zs147
      show Go p e below _ (T149.setTop (mkF m 265 #[.val (.int p1), .val (.int p2), .val (.int p3), .val (.int c1), .val (.int c2), .val (.int (0 : Int32)), .val (.int (0 : Int32)), .val (.ref b_121), .val (.ref b_123), .val (.ref oe), .val (.int ((0 : Int32) + (1 : Int32))), .val (.ref om), .val (.ref b_133), .val (.ref b_138), .val (.ref b_144), .unset] []))
      refine g_aload X149 hx (hb hby at_265) 267 rfl (v := (.ref om)) rfl rfl ?_
      obtain ⟨cq151, kq151, q151a, q151b, q151c⟩ := isOf hZ e149 E_om_150
      obtain ⟨_, _, ⟨T151, L151, k151, n151⟩, -, X151, ⟨Lc151, hQ151, l151, y151, z151⟩, st151⟩ := X149.virtualBack hx (y := (⟨"com/example/anagrafe/anagrafe/atom/Markup", "toByteArray", "()[B"⟩ : MethodName)) (z := (⟨"com/example/anagrafe/anagrafe/atom/Markup", "toByteArray", "()[B"⟩ : MethodName)) hown (mvT hZ (hw _ (List.mem_of_getElem? (i := 35) rfl))) (mvT hZ (hw _ (List.mem_of_getElem? (i := 36) rfl))) (notFace_of_selects (args := #[]) (mvT hZ (hw _ (List.mem_of_getElem? (i := 38) rfl)))) (mvT hZ (hw _ (List.mem_of_getElem? (i := 38) rfl))) (mvT hZ (hw _ (List.mem_of_getElem? (i := 37) rfl))) (by decide) (backOf (W := 0) (rm7 l Z a0 hw [] om wq_131 kq_131 ((0 + 1) + 1) (([] ++ [(.int (62 : Int32))]) ++ [(.int (62 : Int32))]) h149 n0 Zs149 E_om_150 F_bytes_om_150 F_size_om_150 A_wq_131_150 rfl (by decide)) hZ (hw _ (List.mem_of_getElem? (i := 39) rfl)) (hw _ (List.mem_of_getElem? (i := 28) rfl)) (by decide) (by decide)) q151a q151c (g := (mkF m 267 #[.val (.int p1), .val (.int p2), .val (.int p3), .val (.int c1), .val (.int c2), .val (.int (0 : Int32)), .val (.int (0 : Int32)), .val (.ref b_121), .val (.ref b_123), .val (.ref oe), .val (.int ((0 : Int32) + (1 : Int32))), .val (.ref om), .val (.ref b_133), .val (.ref b_138), .val (.ref b_144), .unset] [(.ref om)])) rfl (by rw [hml]; rfl) (Steps.refl _) (argsL := []) (rest := []) (lenOf own_pd16 rfl) rfl (by show 2 * 0 + _ ≤ _; exact Nat.le_of_eq rfl) (hb hby at_267) (fun _ _ => ⟨rfl, e149, (by decide : 10 + 1 ≤ _), (by decide : 16428 + 8 ≤ _)⟩)
      dsimp only [Pt.U, Pt.locs, Pt.cells, Pt.slots] at X151 l151 y151 z151 st151 hQ151
      subst l151 y151 z151
      obtain ⟨b_151, kq_151, rfl, Nq151, Kq151, f151_0, f151_1⟩ := hQ151
      refine Go.tr st151 ?_
      have N151 := Fr.app N149 Nq151
      have E_om_152 : Exa Z T151.heap om "com/example/anagrafe/anagrafe/atom/Markup" := Exa.keep E_om_150 Kq151
      have A_b_133_152 : Arv Z T151.heap b_133 kq_133 .byte (Int32.ofNat 0) [] (.int (0 : Int32)) := Arv.keep A_b_133_150 Kq151 nin0
      have A_b_138_152 : Arv Z T151.heap b_138 kq_138 .byte (Int32.ofNat (0 + 1)) (List.set (α := Value) ([] ++ [(.int (62 : Int32))]) 0 (.int (nar .byte (((62 : Int32) ^^^ (1 : Int32)).toInt8.toInt32)))) (.int (0 : Int32)) := Arv.keep A_b_138_150 Kq151 nin0
      have A_b_144_152 : Arv Z T151.heap b_144 kq_144 .byte (Int32.ofNat (0 + 1)) ([] ++ [(.int (62 : Int32))]) (.int (0 : Int32)) := Arv.keep A_b_144_150 Kq151 nin0
      have F_bytes_om_152 : Fld Z T151.heap om "com/example/anagrafe/anagrafe/atom/Markup" "bytes" "[B" (.ref wq_131) := Fld.keep F_bytes_om_150 Kq151 nin0
      have F_size_om_152 : Fld Z T151.heap om "com/example/anagrafe/anagrafe/atom/Markup" "size" "I" (.int (Int32.ofNat ((0 + 1) + 1))) := Fld.keep F_size_om_150 Kq151 nin0
      have A_wq_131_152 : Arv Z T151.heap wq_131 kq_131 .byte (Int32.ofNat 16384) (([] ++ [(.int (62 : Int32))]) ++ [(.int (62 : Int32))]) (.int (0 : Int32)) := Arv.keep A_wq_131_150 Kq151 nin0
      have A_oe_152 : Arv Z T151.heap oe cA125 .byte (8 : Int32) ([(.int (62 : Int32)), (.int (62 : Int32)), (.int (0 : Int32)), (.int (0 : Int32)), (.int (0 : Int32)), (.int (0 : Int32)), (.int (0 : Int32)), (.int (0 : Int32))]) (.int (0 : Int32)) := Arv.keep Av_oe_149 Kq151 nin0
      have ne_om_b_151 : om ≠ b_151 := Nat.ne_of_lt (Nat.lt_of_lt_of_le E_om_150.lt f151_0)
      have ne_b_133_b_151 : b_133 ≠ b_151 := Nat.ne_of_lt (Nat.lt_of_lt_of_le A_b_133_150.lt f151_0)
      have ne_b_138_b_151 : b_138 ≠ b_151 := Nat.ne_of_lt (Nat.lt_of_lt_of_le A_b_138_150.lt f151_0)
      have ne_b_144_b_151 : b_144 ≠ b_151 := Nat.ne_of_lt (Nat.lt_of_lt_of_le A_b_144_150.lt f151_0)
      have ne_wq_131_b_151 : wq_131 ≠ b_151 := Nat.ne_of_lt (Nat.lt_of_lt_of_le A_wq_131_150.lt f151_0)
      have ne_oe_b_151 : oe ≠ b_151 := Nat.ne_of_lt (Nat.lt_of_lt_of_le Av_oe_149.lt f151_0)
      have g_b_151 : n0 ≤ b_151 := Nat.le_trans Zs149 f151_0
      have mh_b_151 : h0.size ≤ b_151 := Nat.le_trans K149.1 f151_0
      have K151 : Keep h0 T151.heap [] := Keep.trans K149 Kq151 all0
      have Zs151 : n0 ≤ T151.heap.size := Nat.le_trans Zs149 Kq151.1
      show Go p e below _ (T151.setTop (mkF m 270 #[.val (.int p1), .val (.int p2), .val (.int p3), .val (.int c1), .val (.int c2), .val (.int (0 : Int32)), .val (.int (0 : Int32)), .val (.ref b_121), .val (.ref b_123), .val (.ref oe), .val (.int ((0 : Int32) + (1 : Int32))), .val (.ref om), .val (.ref b_133), .val (.ref b_138), .val (.ref b_144), .unset] [(.ref b_151)]))
      refine g_astore X151 hx (hb hby at_270) 272 rfl rfl #[.val (.int p1), .val (.int p2), .val (.int p3), .val (.int c1), .val (.int c2), .val (.int (0 : Int32)), .val (.int (0 : Int32)), .val (.ref b_121), .val (.ref b_123), .val (.ref oe), .val (.int ((0 : Int32) + (1 : Int32))), .val (.ref om), .val (.ref b_133), .val (.ref b_138), .val (.ref b_144), .val (.ref b_151)] rfl ?_
      refine g_aload X151 hx (hb hby at_272) 274 rfl (v := (.ref b_133)) rfl rfl ?_
      refine g_alen X151 hx (hb hby at_274) 275 rfl hZ rfl A_b_133_152 ?_
      refine g_if_ne X151 hx (hb hby at_275) 303 278 (by decide) (by decide) rfl (fun hc275 => False.elim (hc275 rfl)) (fun hc275 => ?_)
      refine g_aload X151 hx (hb hby at_278) 280 rfl (v := (.ref b_151)) rfl rfl ?_
      refine g_aload X151 hx (hb hby at_280) 282 rfl (v := (.ref b_144)) rfl rfl ?_
      refine g_acmp_eq X151 hx (hb hby at_282) 303 285 (by decide) (by decide) rfl rfl rfl (fun hc282 => False.elim ((Ne.symm ne_b_144_b_151) (Value.ref.inj hc282))) (fun hc282 => ?_)
      refine g_aload X151 hx (hb hby at_285) 287 rfl (v := (.ref b_151)) rfl rfl ?_
      refine g_aload X151 hx (hb hby at_287) 289 rfl (v := (.ref oe)) rfl rfl ?_
      refine g_iload X151 hx (hb hby at_289) 291 rfl (v := ((0 : Int32) + (1 : Int32))) rfl ?_
      refine g_iconst X151 hx (hb hby at_291) 292 rfl (1 : Int32) rfl ?_
      refine g_iadd X151 hx (hb hby at_292) 293 rfl (((0 : Int32) + (1 : Int32)) + (1 : Int32)) rfl ?_
      obtain ⟨_, _, ⟨T154, L154, k154, n154⟩, -, X154, ⟨Lc154, hQ154, l154, y154, z154⟩, st154⟩ := Jvm.LawKit.callS X151 hx (y := (⟨"com/example/anagrafe/anagrafe/atom/MarkupToByteArrayPinLaw", "same", "([B[BI)Z"⟩ : MethodName)) hown (mvT hZ (hw _ (List.mem_of_getElem? (i := 63) rfl))) (mvT hZ (hw _ (List.mem_of_getElem? (i := 64) rfl))) (mvT hZ (hw _ (List.mem_of_getElem? (i := 65) rfl))) (mvT hZ (hw _ (List.mem_of_getElem? (i := 66) rfl))) (by decide) (backOf (W := 0) (rmsame l Z a0 hw [] b_151 oe (((0 : Int32) + (1 : Int32)) + (1 : Int32)) kq_151 cA125 ((0 + 1) + 1) (([] ++ [(.int (62 : Int32))]) ++ [(.int (62 : Int32))]) ([(.int (62 : Int32)), (.int (62 : Int32)), (.int (0 : Int32)), (.int (0 : Int32)), (.int (0 : Int32)), (.int (0 : Int32)), (.int (0 : Int32)), (.int (0 : Int32))]) T151.heap n0 Zs151 f151_1 A_oe_152 (by decide) (by decide) (fun i hi => match i, hi with | 0, _ => ⟨_, rfl, rfl⟩ | 1, _ => ⟨_, rfl, rfl⟩ | n + 2, h => absurd h (by omega))) hZ (hw _ (List.mem_of_getElem? (i := 66) rfl)) (hw _ (List.mem_of_getElem? (i := 65) rfl)) (by decide) (by decide)) (g := (mkF m 293 #[.val (.int p1), .val (.int p2), .val (.int p3), .val (.int c1), .val (.int c2), .val (.int (0 : Int32)), .val (.int (0 : Int32)), .val (.ref b_121), .val (.ref b_123), .val (.ref oe), .val (.int ((0 : Int32) + (1 : Int32))), .val (.ref om), .val (.ref b_133), .val (.ref b_138), .val (.ref b_144), .val (.ref b_151)] [(.int (((0 : Int32) + (1 : Int32)) + (1 : Int32))), (.ref oe), (.ref b_151)])) rfl (by rw [hml]; rfl) (argsL := [(.ref b_151), (.ref oe), (.int (((0 : Int32) + (1 : Int32)) + (1 : Int32)))]) (rest := []) (lenOf own_pd17 rfl) rfl (by show 2 * 0 + _ ≤ _; exact Nat.le_of_eq rfl) (hb hby at_293) (fun _ _ => ⟨rfl, rfl, (by decide : 11 + 0 ≤ _), (by decide : 16436 + 0 ≤ _)⟩)
      dsimp only [Pt.U, Pt.locs, Pt.cells, Pt.slots] at X154 l154 y154 z154 st154 hQ154
      subst l154 y154 z154
      obtain ⟨rfl, Nq154, e154⟩ := hQ154
      refine Go.st st154 ?_
      have N154 := Fr.app N151 Nq154
      show Go p e below _ (T154.setTop (mkF m 296 #[.val (.int p1), .val (.int p2), .val (.int p3), .val (.int c1), .val (.int c2), .val (.int (0 : Int32)), .val (.int (0 : Int32)), .val (.ref b_121), .val (.ref b_123), .val (.ref oe), .val (.int ((0 : Int32) + (1 : Int32))), .val (.ref om), .val (.ref b_133), .val (.ref b_138), .val (.ref b_144), .val (.ref b_151)] [(.int (1 : Int32))]))
      refine g_if_eq X154 hx (hb hby at_296) 303 299 (by decide) (by decide) rfl (fun hc296 => False.elim (absurd hc296 (by decide))) (fun hc296 => ?_)
      refine g_iconst X154 hx (hb hby at_299) 300 rfl (1 : Int32) rfl ?_
      refine g_goto X154 hx (hb hby at_300) 304 (by decide) (by decide) ?_
      refine Go.retN X154 hx hlk (t := .boolean) Bd.returns (by simp) (hb hby at_304) (by decide) (by decide) ?_
      exact ⟨rfl, N154⟩
    · refine g_iconst X0 hx (hb hby at_32) 33 rfl (1 : Int32) rfl ?_
      refine g_goto X0 hx (hb hby at_33) 37 (by decide) (by decide) ?_
      refine g_istore X0 hx (hb hby at_37) 39 rfl #[.val (.int p1), .val (.int p2), .val (.int p3), .val (.int c1), .val (.int c2), .val (.int (0 : Int32)), .val (.int (1 : Int32)), .unset, .unset, .unset, .unset, .unset, .unset, .unset, .unset, .unset] rfl ?_
      refine g_iloadN X0 hx (hb hby at_39) 40 rfl (v := c1) rfl ?_
      obtain ⟨_, _, ⟨T155, L155, k155, n155⟩, -, X155, ⟨Lc155, hQ155, l155, y155, z155⟩, st155⟩ := Jvm.LawKit.callS X0 hx (y := (⟨"java/lang/String", "valueOf", "(C)Ljava/lang/String;"⟩ : MethodName)) hown (mvT hZ (hw _ (List.mem_of_getElem? (i := 0) rfl))) (mvT hZ (hw _ (List.mem_of_getElem? (i := 1) rfl))) (mvT hZ (hw _ (List.mem_of_getElem? (i := 2) rfl))) (mvT hZ (hw _ (List.mem_of_getElem? (i := 3) rfl))) (by decide) (backOf (W := 0) (rm1 l Z a0 hw [] c1 s_COMPACT_STRINGS h0 n0 Z0 S_COMPACT_STRINGS hz_s_COMPACT_STRINGS (e_c1 ▸ own_ch7 p2)) hZ (hw _ (List.mem_of_getElem? (i := 3) rfl)) (hw _ (List.mem_of_getElem? (i := 2) rfl)) (by decide) (by decide)) (g := (mkF m 40 #[.val (.int p1), .val (.int p2), .val (.int p3), .val (.int c1), .val (.int c2), .val (.int (0 : Int32)), .val (.int (1 : Int32)), .unset, .unset, .unset, .unset, .unset, .unset, .unset, .unset, .unset] [(.int c1)])) rfl (by rw [hml]; rfl) (argsL := [(.int c1)]) (rest := []) (lenOf own_pd14 rfl) rfl (by show 2 * 0 + _ ≤ _; exact Nat.le_of_eq rfl) (hb hby at_40) (fun _ _ => ⟨rfl, e0, (by decide : 0 + 2 ≤ _), (by decide : 0 + 5 ≤ _)⟩)
      dsimp only [Pt.U, Pt.locs, Pt.cells, Pt.slots] at X155 l155 y155 z155 st155 hQ155
      subst l155 y155 z155
      obtain ⟨b_155, vb_155, kb_155, rfl, Nq155, Kq155, f155_0, f155_1, f155_2, f155_3, f155_4, f155_5, f155_6⟩ := hQ155
      refine Go.st st155 ?_
      have N155 := Fr.app N0 Nq155
      have g_b_155 : n0 ≤ b_155 := Nat.le_trans Z0 f155_0
      have mh_b_155 : h0.size ≤ b_155 := Nat.le_trans K0.1 f155_0
      have g_vb_155 : n0 ≤ vb_155 := Nat.le_trans Z0 f155_1
      have mh_vb_155 : h0.size ≤ vb_155 := Nat.le_trans K0.1 f155_1
      have K155 : Keep h0 T155.heap [] := Keep.trans K0 Kq155 all0
      have Zs155 : n0 ≤ T155.heap.size := Nat.le_trans Z0 Kq155.1
      show Go p e below _ (T155.setTop (mkF m 43 #[.val (.int p1), .val (.int p2), .val (.int p3), .val (.int c1), .val (.int c2), .val (.int (0 : Int32)), .val (.int (1 : Int32)), .unset, .unset, .unset, .unset, .unset, .unset, .unset, .unset, .unset] [(.ref b_155)]))
      refine g_astore X155 hx (hb hby at_43) 45 rfl rfl #[.val (.int p1), .val (.int p2), .val (.int p3), .val (.int c1), .val (.int c2), .val (.int (0 : Int32)), .val (.int (1 : Int32)), .val (.ref b_155), .unset, .unset, .unset, .unset, .unset, .unset, .unset, .unset] rfl ?_
      refine g_iload X155 hx (hb hby at_45) 47 rfl (v := c2) rfl ?_
      obtain ⟨_, _, ⟨T157, L157, k157, n157⟩, -, X157, ⟨Lc157, hQ157, l157, y157, z157⟩, st157⟩ := Jvm.LawKit.callS X155 hx (y := (⟨"java/lang/String", "valueOf", "(C)Ljava/lang/String;"⟩ : MethodName)) hown (mvT hZ (hw _ (List.mem_of_getElem? (i := 0) rfl))) (mvT hZ (hw _ (List.mem_of_getElem? (i := 1) rfl))) (mvT hZ (hw _ (List.mem_of_getElem? (i := 2) rfl))) (mvT hZ (hw _ (List.mem_of_getElem? (i := 3) rfl))) (by decide) (backOf (W := 0) (rm1 l Z a0 hw [] c2 s_COMPACT_STRINGS T155.heap n0 Zs155 (own_Sta_keep S_COMPACT_STRINGS K155 all0) hz_s_COMPACT_STRINGS (e_c2 ▸ own_ch7 p3)) hZ (hw _ (List.mem_of_getElem? (i := 3) rfl)) (hw _ (List.mem_of_getElem? (i := 2) rfl)) (by decide) (by decide)) (g := (mkF m 47 #[.val (.int p1), .val (.int p2), .val (.int p3), .val (.int c1), .val (.int c2), .val (.int (0 : Int32)), .val (.int (1 : Int32)), .val (.ref b_155), .unset, .unset, .unset, .unset, .unset, .unset, .unset, .unset] [(.int c2)])) rfl (by rw [hml]; rfl) (argsL := [(.int c2)]) (rest := []) (lenOf own_pd14 rfl) rfl (by show 2 * 0 + _ ≤ _; exact Nat.le_of_eq rfl) (hb hby at_47) (fun _ _ => ⟨rfl, rfl, (by decide : 2 + 2 ≤ _), (by decide : 5 + 5 ≤ _)⟩)
      dsimp only [Pt.U, Pt.locs, Pt.cells, Pt.slots] at X157 l157 y157 z157 st157 hQ157
      subst l157 y157 z157
      obtain ⟨b_157, vb_157, kb_157, rfl, Nq157, Kq157, f157_0, f157_1, f157_2, f157_3, f157_4, f157_5, f157_6⟩ := hQ157
      refine Go.st st157 ?_
      have N157 := Fr.app N155 Nq157
      have E_b_155_158 : Exa Z T157.heap b_155 "java/lang/String" := Exa.keep f155_3 Kq157
      have F_value_b_155_158 : Fld Z T157.heap b_155 "java/lang/String" "value" "[B" (.ref vb_155) := Fld.keep f155_4 Kq157 nin0
      have F_coder_b_155_158 : Fld Z T157.heap b_155 "java/lang/String" "coder" "B" (.int (0 : Int32)) := Fld.keep f155_5 Kq157 nin0
      have A_vb_155_158 : Arv Z T157.heap vb_155 kb_155 .byte (1 : Int32) ([(.int c1.toInt8.toInt32)]) (.int (0 : Int32)) := Arv.keep f155_6 Kq157 nin0
      have ne_b_155_b_157 : b_155 ≠ b_157 := Nat.ne_of_lt (Nat.lt_of_lt_of_le f155_3.lt f157_0)
      have ne_vb_155_b_157 : vb_155 ≠ b_157 := Nat.ne_of_lt (Nat.lt_of_lt_of_le f155_6.lt f157_0)
      have g_b_157 : n0 ≤ b_157 := Nat.le_trans Zs155 f157_0
      have mh_b_157 : h0.size ≤ b_157 := Nat.le_trans K155.1 f157_0
      have ne_b_155_vb_157 : b_155 ≠ vb_157 := Nat.ne_of_lt (Nat.lt_of_lt_of_le f155_3.lt f157_1)
      have ne_vb_155_vb_157 : vb_155 ≠ vb_157 := Nat.ne_of_lt (Nat.lt_of_lt_of_le f155_6.lt f157_1)
      have g_vb_157 : n0 ≤ vb_157 := Nat.le_trans Zs155 f157_1
      have mh_vb_157 : h0.size ≤ vb_157 := Nat.le_trans K155.1 f157_1
      have K157 : Keep h0 T157.heap [] := Keep.trans K155 Kq157 all0
      have Zs157 : n0 ≤ T157.heap.size := Nat.le_trans Zs155 Kq157.1
      show Go p e below _ (T157.setTop (mkF m 50 #[.val (.int p1), .val (.int p2), .val (.int p3), .val (.int c1), .val (.int c2), .val (.int (0 : Int32)), .val (.int (1 : Int32)), .val (.ref b_155), .unset, .unset, .unset, .unset, .unset, .unset, .unset, .unset] [(.ref b_157)]))
      refine g_astore X157 hx (hb hby at_50) 52 rfl rfl #[.val (.int p1), .val (.int p2), .val (.int p3), .val (.int c1), .val (.int c2), .val (.int (0 : Int32)), .val (.int (1 : Int32)), .val (.ref b_155), .val (.ref b_157), .unset, .unset, .unset, .unset, .unset, .unset, .unset] rfl ?_
      refine g_bipush X157 hx (hb hby at_52) 54 rfl (8 : Int32) rfl ?_
      obtain ⟨T159, h159, cA159, X159, e159, E159, A159, st159⟩ := newP X157 hx hZ (aty := .byte) (hw _ (List.mem_of_getElem? (i := 14) rfl)) rfl (g := (mkF m 54 #[.val (.int p1), .val (.int p2), .val (.int p3), .val (.int c1), .val (.int c2), .val (.int (0 : Int32)), .val (.int (1 : Int32)), .val (.ref b_155), .val (.ref b_157), .unset, .unset, .unset, .unset, .unset, .unset, .unset] [(.int (8 : Int32))])) rfl (hb hby at_54) rfl (by decide) (cap := 8) (by decide) (by decide) (by decide) (by decide)
      refine Go.st st159 ?_
      obtain ⟨oe, q159⟩ : ∃ z, z = T157.heap.size := ⟨_, rfl⟩
      rw [← q159] at A159 ⊢
      have ne_b_155_oe : b_155 ≠ oe := Nat.ne_of_lt (Nat.lt_of_lt_of_eq E_b_155_158.lt q159.symm)
      have ne_vb_155_oe : vb_155 ≠ oe := Nat.ne_of_lt (Nat.lt_of_lt_of_eq A_vb_155_158.lt q159.symm)
      have ne_b_157_oe : b_157 ≠ oe := Nat.ne_of_lt (Nat.lt_of_lt_of_eq f157_3.lt q159.symm)
      have ne_vb_157_oe : vb_157 ≠ oe := Nat.ne_of_lt (Nat.lt_of_lt_of_eq f157_6.lt q159.symm)
      have g_oe : n0 ≤ oe := Nat.le_trans Zs157 (Nat.le_of_eq q159.symm)
      have mh_oe : h0.size ≤ oe := Nat.le_trans K157.1 (Nat.le_of_eq q159.symm)
      have E_b_155_160 : Exa Z h159 b_155 "java/lang/String" := Exa.ext E159 E_b_155_158
      have F_value_b_155_160 : Fld Z h159 b_155 "java/lang/String" "value" "[B" (.ref vb_155) := Fld.ext E159 F_value_b_155_158
      have F_coder_b_155_160 : Fld Z h159 b_155 "java/lang/String" "coder" "B" (.int (0 : Int32)) := Fld.ext E159 F_coder_b_155_158
      have A_vb_155_160 : Arv Z h159 vb_155 kb_155 .byte (1 : Int32) ([(.int c1.toInt8.toInt32)]) (.int (0 : Int32)) := Arv.ext A_vb_155_158 E159
      have E_b_157_160 : Exa Z h159 b_157 "java/lang/String" := Exa.ext E159 f157_3
      have F_value_b_157_160 : Fld Z h159 b_157 "java/lang/String" "value" "[B" (.ref vb_157) := Fld.ext E159 f157_4
      have F_coder_b_157_160 : Fld Z h159 b_157 "java/lang/String" "coder" "B" (.int (0 : Int32)) := Fld.ext E159 f157_5
      have A_vb_157_160 : Arv Z h159 vb_157 kb_157 .byte (1 : Int32) ([(.int c2.toInt8.toInt32)]) (.int (0 : Int32)) := Arv.ext f157_6 E159
      have K159 : Keep h0 h159 [] := Keep.ext K157 E159
      have Zs159 : n0 ≤ h159.size := Nat.le_trans Zs157 E159.1
      have Av_oe : Arv Z h159 oe cA159 .byte (8 : Int32) ([(.int (0 : Int32)), (.int (0 : Int32)), (.int (0 : Int32)), (.int (0 : Int32)), (.int (0 : Int32)), (.int (0 : Int32)), (.int (0 : Int32)), (.int (0 : Int32))]) (.int (0 : Int32)) := Arv.pad (Arv.new A159 (by decide)) (pad_rep [] (.int (0 : Int32)) 8)
      show Go p e below _ (T159.setTop (mkF m 56 #[.val (.int p1), .val (.int p2), .val (.int p3), .val (.int c1), .val (.int c2), .val (.int (0 : Int32)), .val (.int (1 : Int32)), .val (.ref b_155), .val (.ref b_157), .unset, .unset, .unset, .unset, .unset, .unset, .unset] [(.ref oe)]))
      refine g_astore X159 hx (hb hby at_56) 58 rfl rfl #[.val (.int p1), .val (.int p2), .val (.int p3), .val (.int c1), .val (.int c2), .val (.int (0 : Int32)), .val (.int (1 : Int32)), .val (.ref b_155), .val (.ref b_157), .val (.ref oe), .unset, .unset, .unset, .unset, .unset, .unset] rfl ?_
      refine g_iconst X159 hx (hb hby at_58) 59 rfl (0 : Int32) rfl ?_
      refine g_istore X159 hx (hb hby at_59) 61 rfl #[.val (.int p1), .val (.int p2), .val (.int p3), .val (.int c1), .val (.int c2), .val (.int (0 : Int32)), .val (.int (1 : Int32)), .val (.ref b_155), .val (.ref b_157), .val (.ref oe), .val (.int (0 : Int32)), .unset, .unset, .unset, .unset, .unset] rfl ?_
      refine g_iload X159 hx (hb hby at_61) 63 rfl (v := (0 : Int32)) rfl ?_
      refine g_if_eq X159 hx (hb hby at_63) 94 66 (by decide) (by decide) rfl (fun hc63 => ?_) (fun hc63 => False.elim (absurd rfl hc63))
      refine g_iload X159 hx (hb hby at_94) 96 rfl (v := (1 : Int32)) rfl ?_
      refine g_if_eq X159 hx (hb hby at_96) 124 99 (by decide) (by decide) rfl (fun hc96 => False.elim (absurd hc96 (by decide))) (fun hc96 => ?_)
      refine g_aload X159 hx (hb hby at_99) 101 rfl (v := (.ref oe)) rfl rfl ?_
      refine g_iload X159 hx (hb hby at_101) 103 rfl (v := (0 : Int32)) rfl ?_
      refine g_bipush X159 hx (hb hby at_103) 105 rfl (47 : Int32) rfl ?_
      obtain ⟨T161, h161, X161, e161, W161, B161, st161⟩ := g_bastore X159 hx (hb hby at_105) hZ e159 Av_oe (show ¬ (0 : Int32) < 0 ∧ (0 : Int32) < (8 : Int32) from by decide) (i := 0) (by decide) (by simp)  (L := #[.val (.int p1), .val (.int p2), .val (.int p3), .val (.int c1), .val (.int c2), .val (.int (0 : Int32)), .val (.int (1 : Int32)), .val (.ref b_155), .val (.ref b_157), .val (.ref oe), .val (.int (0 : Int32)), .unset, .unset, .unset, .unset, .unset]) (S := [])
      refine Go.st st161 ?_
      have E_b_155_162 : Exa Z h161 b_155 "java/lang/String" := Exa.wr W161 E_b_155_160
      have F_value_b_155_162 : Fld Z h161 b_155 "java/lang/String" "value" "[B" (.ref vb_155) := Fld.other W161 F_value_b_155_160 (Or.inl ne_b_155_oe)
      have F_coder_b_155_162 : Fld Z h161 b_155 "java/lang/String" "coder" "B" (.int (0 : Int32)) := Fld.other W161 F_coder_b_155_160 (Or.inl ne_b_155_oe)
      have A_vb_155_162 : Arv Z h161 vb_155 kb_155 .byte (1 : Int32) ([(.int c1.toInt8.toInt32)]) (.int (0 : Int32)) := Arv.other A_vb_155_160 W161 ne_vb_155_oe
      have E_b_157_162 : Exa Z h161 b_157 "java/lang/String" := Exa.wr W161 E_b_157_160
      have F_value_b_157_162 : Fld Z h161 b_157 "java/lang/String" "value" "[B" (.ref vb_157) := Fld.other W161 F_value_b_157_160 (Or.inl ne_b_157_oe)
      have F_coder_b_157_162 : Fld Z h161 b_157 "java/lang/String" "coder" "B" (.int (0 : Int32)) := Fld.other W161 F_coder_b_157_160 (Or.inl ne_b_157_oe)
      have A_vb_157_162 : Arv Z h161 vb_157 kb_157 .byte (1 : Int32) ([(.int c2.toInt8.toInt32)]) (.int (0 : Int32)) := Arv.other A_vb_157_160 W161 ne_vb_157_oe
      have Av_oe_161 : Arv Z h161 oe cA159 .byte (8 : Int32) ([(.int (47 : Int32)), (.int (0 : Int32)), (.int (0 : Int32)), (.int (0 : Int32)), (.int (0 : Int32)), (.int (0 : Int32)), (.int (0 : Int32)), (.int (0 : Int32))]) (.int (0 : Int32)) := B161
      have K161 : Keep h0 h161 [] := Keep.wr K159 W161 (Or.inr mh_oe)
      have N161 := Fr.snoc X161 N157 g_oe
      have Zs161 : n0 ≤ h161.size := by rw [W161.size]; exact Zs159
      show Go p e below _ (T161.setTop (mkF m 106 #[.val (.int p1), .val (.int p2), .val (.int p3), .val (.int c1), .val (.int c2), .val (.int (0 : Int32)), .val (.int (1 : Int32)), .val (.ref b_155), .val (.ref b_157), .val (.ref oe), .val (.int (0 : Int32)), .unset, .unset, .unset, .unset, .unset] []))
      refine g_aload X161 hx (hb hby at_106) 108 rfl (v := (.ref oe)) rfl rfl ?_
      refine g_iload X161 hx (hb hby at_108) 110 rfl (v := (0 : Int32)) rfl ?_
      refine g_iconst X161 hx (hb hby at_110) 111 rfl (1 : Int32) rfl ?_
      refine g_iadd X161 hx (hb hby at_111) 112 rfl ((0 : Int32) + (1 : Int32)) rfl ?_
      refine g_bipush X161 hx (hb hby at_112) 114 rfl (62 : Int32) rfl ?_
      obtain ⟨T163, h163, X163, e163, W163, B163, st163⟩ := g_bastore X161 hx (hb hby at_114) hZ e161 Av_oe_161 (show ¬ ((0 : Int32) + (1 : Int32)) < 0 ∧ ((0 : Int32) + (1 : Int32)) < (8 : Int32) from by decide) (i := 1) (by decide) (by simp)  (L := #[.val (.int p1), .val (.int p2), .val (.int p3), .val (.int c1), .val (.int c2), .val (.int (0 : Int32)), .val (.int (1 : Int32)), .val (.ref b_155), .val (.ref b_157), .val (.ref oe), .val (.int (0 : Int32)), .unset, .unset, .unset, .unset, .unset]) (S := [])
      refine Go.st st163 ?_
      have E_b_155_164 : Exa Z h163 b_155 "java/lang/String" := Exa.wr W163 E_b_155_162
      have F_value_b_155_164 : Fld Z h163 b_155 "java/lang/String" "value" "[B" (.ref vb_155) := Fld.other W163 F_value_b_155_162 (Or.inl ne_b_155_oe)
      have F_coder_b_155_164 : Fld Z h163 b_155 "java/lang/String" "coder" "B" (.int (0 : Int32)) := Fld.other W163 F_coder_b_155_162 (Or.inl ne_b_155_oe)
      have A_vb_155_164 : Arv Z h163 vb_155 kb_155 .byte (1 : Int32) ([(.int c1.toInt8.toInt32)]) (.int (0 : Int32)) := Arv.other A_vb_155_162 W163 ne_vb_155_oe
      have E_b_157_164 : Exa Z h163 b_157 "java/lang/String" := Exa.wr W163 E_b_157_162
      have F_value_b_157_164 : Fld Z h163 b_157 "java/lang/String" "value" "[B" (.ref vb_157) := Fld.other W163 F_value_b_157_162 (Or.inl ne_b_157_oe)
      have F_coder_b_157_164 : Fld Z h163 b_157 "java/lang/String" "coder" "B" (.int (0 : Int32)) := Fld.other W163 F_coder_b_157_162 (Or.inl ne_b_157_oe)
      have A_vb_157_164 : Arv Z h163 vb_157 kb_157 .byte (1 : Int32) ([(.int c2.toInt8.toInt32)]) (.int (0 : Int32)) := Arv.other A_vb_157_162 W163 ne_vb_157_oe
      have Av_oe_163 : Arv Z h163 oe cA159 .byte (8 : Int32) ([(.int (47 : Int32)), (.int (62 : Int32)), (.int (0 : Int32)), (.int (0 : Int32)), (.int (0 : Int32)), (.int (0 : Int32)), (.int (0 : Int32)), (.int (0 : Int32))]) (.int (0 : Int32)) := B163
      have K163 : Keep h0 h163 [] := Keep.wr K161 W163 (Or.inr mh_oe)
      have N163 := Fr.snoc X163 N161 g_oe
      have Zs163 : n0 ≤ h163.size := by rw [W163.size]; exact Zs161
      show Go p e below _ (T163.setTop (mkF m 115 #[.val (.int p1), .val (.int p2), .val (.int p3), .val (.int c1), .val (.int c2), .val (.int (0 : Int32)), .val (.int (1 : Int32)), .val (.ref b_155), .val (.ref b_157), .val (.ref oe), .val (.int (0 : Int32)), .unset, .unset, .unset, .unset, .unset] []))
      refine g_iload X163 hx (hb hby at_115) 117 rfl (v := (0 : Int32)) rfl ?_
      refine g_iconst X163 hx (hb hby at_117) 118 rfl (2 : Int32) rfl ?_
      refine g_iadd X163 hx (hb hby at_118) 119 rfl ((0 : Int32) + (2 : Int32)) rfl ?_
      refine g_istore X163 hx (hb hby at_119) 121 rfl #[.val (.int p1), .val (.int p2), .val (.int p3), .val (.int c1), .val (.int c2), .val (.int (0 : Int32)), .val (.int (1 : Int32)), .val (.ref b_155), .val (.ref b_157), .val (.ref oe), .val (.int ((0 : Int32) + (2 : Int32))), .unset, .unset, .unset, .unset, .unset] rfl ?_
      refine g_goto X163 hx (hb hby at_121) 137 (by decide) (by decide) ?_
      obtain ⟨T165, h165, X165, e165, E165, A165, D165, -, st165⟩ := newO X163 hx hZ hown (hw _ (List.mem_of_getElem? (i := 26) rfl)) (hw _ (List.mem_of_getElem? (i := 27) rfl)) (hw _ (List.mem_of_getElem? (i := 28) rfl)) e163 (g := (mkF m 137 #[.val (.int p1), .val (.int p2), .val (.int p3), .val (.int c1), .val (.int c2), .val (.int (0 : Int32)), .val (.int (1 : Int32)), .val (.ref b_155), .val (.ref b_157), .val (.ref oe), .val (.int ((0 : Int32) + (2 : Int32))), .unset, .unset, .unset, .unset, .unset] [])) rfl (hb hby at_137) (by decide) (by decide)
      refine Go.st st165 ?_
      obtain ⟨om, q165⟩ : ∃ z, z = h163.size := ⟨_, rfl⟩
      rw [← q165] at A165 D165 ⊢
      have ne_b_155_om : b_155 ≠ om := Nat.ne_of_lt (Nat.lt_of_lt_of_eq E_b_155_164.lt q165.symm)
      have ne_vb_155_om : vb_155 ≠ om := Nat.ne_of_lt (Nat.lt_of_lt_of_eq A_vb_155_164.lt q165.symm)
      have ne_b_157_om : b_157 ≠ om := Nat.ne_of_lt (Nat.lt_of_lt_of_eq E_b_157_164.lt q165.symm)
      have ne_vb_157_om : vb_157 ≠ om := Nat.ne_of_lt (Nat.lt_of_lt_of_eq A_vb_157_164.lt q165.symm)
      have ne_oe_om : oe ≠ om := Nat.ne_of_lt (Nat.lt_of_lt_of_eq Av_oe_163.lt q165.symm)
      have g_om : n0 ≤ om := Nat.le_trans Zs163 (Nat.le_of_eq q165.symm)
      have mh_om : h0.size ≤ om := Nat.le_trans K163.1 (Nat.le_of_eq q165.symm)
      have E_b_155_166 : Exa Z h165 b_155 "java/lang/String" := Exa.ext E165 E_b_155_164
      have F_value_b_155_166 : Fld Z h165 b_155 "java/lang/String" "value" "[B" (.ref vb_155) := Fld.ext E165 F_value_b_155_164
      have F_coder_b_155_166 : Fld Z h165 b_155 "java/lang/String" "coder" "B" (.int (0 : Int32)) := Fld.ext E165 F_coder_b_155_164
      have A_vb_155_166 : Arv Z h165 vb_155 kb_155 .byte (1 : Int32) ([(.int c1.toInt8.toInt32)]) (.int (0 : Int32)) := Arv.ext A_vb_155_164 E165
      have E_b_157_166 : Exa Z h165 b_157 "java/lang/String" := Exa.ext E165 E_b_157_164
      have F_value_b_157_166 : Fld Z h165 b_157 "java/lang/String" "value" "[B" (.ref vb_157) := Fld.ext E165 F_value_b_157_164
      have F_coder_b_157_166 : Fld Z h165 b_157 "java/lang/String" "coder" "B" (.int (0 : Int32)) := Fld.ext E165 F_coder_b_157_164
      have A_vb_157_166 : Arv Z h165 vb_157 kb_157 .byte (1 : Int32) ([(.int c2.toInt8.toInt32)]) (.int (0 : Int32)) := Arv.ext A_vb_157_164 E165
      have A_oe_166 : Arv Z h165 oe cA159 .byte (8 : Int32) ([(.int (47 : Int32)), (.int (62 : Int32)), (.int (0 : Int32)), (.int (0 : Int32)), (.int (0 : Int32)), (.int (0 : Int32)), (.int (0 : Int32)), (.int (0 : Int32))]) (.int (0 : Int32)) := Arv.ext Av_oe_163 E165
      have F_bytes_165 : Fld Z h165 om "com/example/anagrafe/anagrafe/atom/Markup" "bytes" "[B" .null := D165 (Or.inl (hw _ (List.mem_of_getElem? (i := 34) rfl))) (ty := (.array .byte)) (by decide)
      have F_size_165 : Fld Z h165 om "com/example/anagrafe/anagrafe/atom/Markup" "size" "I" (.int (0 : Int32)) := D165 (Or.inl (hw _ (List.mem_of_getElem? (i := 41) rfl))) (ty := .int) (by decide)
      have K165 : Keep h0 h165 [] := Keep.ext K163 E165
      have Zs165 : n0 ≤ h165.size := Nat.le_trans Zs163 E165.1
      show Go p e below _ (T165.setTop (mkF m 140 #[.val (.int p1), .val (.int p2), .val (.int p3), .val (.int c1), .val (.int c2), .val (.int (0 : Int32)), .val (.int (1 : Int32)), .val (.ref b_155), .val (.ref b_157), .val (.ref oe), .val (.int ((0 : Int32) + (2 : Int32))), .unset, .unset, .unset, .unset, .unset] [(.ref om)]))
      refine g_dup X165 hx (hb hby at_140) 141 rfl rfl ?_
      obtain ⟨_, _, ⟨T167, L167, k167, n167⟩, -, X167, ⟨Lc167, hQ167, l167, y167, z167⟩, st167⟩ := X165.specialBack hx (y := (⟨"com/example/anagrafe/anagrafe/atom/Markup", "<init>", "()V"⟩ : MethodName)) rfl hown (mvT hZ (hw _ (List.mem_of_getElem? (i := 29) rfl))) (mvT hZ (hw _ (List.mem_of_getElem? (i := 30) rfl))) (mvT hZ (hw _ (List.mem_of_getElem? (i := 31) rfl))) (by decide) (backOf (W := 1) (rm6 l Z a0 hw [] om .null h165 n0 Zs165 A165 g_om F_bytes_165 F_size_165) hZ (hw _ (List.mem_of_getElem? (i := 31) rfl)) (hw _ (List.mem_of_getElem? (i := 28) rfl)) (by decide) (by decide)) (g := (mkF m 141 #[.val (.int p1), .val (.int p2), .val (.int p3), .val (.int c1), .val (.int c2), .val (.int (0 : Int32)), .val (.int (1 : Int32)), .val (.ref b_155), .val (.ref b_157), .val (.ref oe), .val (.int ((0 : Int32) + (2 : Int32))), .unset, .unset, .unset, .unset, .unset] [(.ref om), (.ref om)])) rfl (by rw [hml]; rfl) (Steps.refl _) (a := om) (argsL := []) (rest := [(.ref om)]) (lenOf own_pd15 rfl) rfl (by show 2 * 0 + _ ≤ _; exact Nat.le_of_eq rfl) (hb hby at_141) (fun _ _ => ⟨rfl, e165, (by decide : 6 + 1 ≤ _), (by decide : 20 + 16384 ≤ _)⟩)
      dsimp only [Pt.U, Pt.locs, Pt.cells, Pt.slots] at X167 l167 y167 z167 st167 hQ167
      subst l167 y167 z167
      obtain ⟨wq_167, kq_167, rfl, Nq167, Kq167, f167_0, f167_1, f167_2, f167_3, f167_4⟩ := hQ167
      refine Go.tr st167 ?_
      have N167 := Fr.app N163 Nq167
      have E_b_155_168 : Exa Z T167.heap b_155 "java/lang/String" := Exa.keep E_b_155_166 Kq167
      have F_value_b_155_168 : Fld Z T167.heap b_155 "java/lang/String" "value" "[B" (.ref vb_155) := Fld.keep F_value_b_155_166 Kq167 (ninS ne_b_155_om nin0)
      have F_coder_b_155_168 : Fld Z T167.heap b_155 "java/lang/String" "coder" "B" (.int (0 : Int32)) := Fld.keep F_coder_b_155_166 Kq167 (ninS ne_b_155_om nin0)
      have A_vb_155_168 : Arv Z T167.heap vb_155 kb_155 .byte (1 : Int32) ([(.int c1.toInt8.toInt32)]) (.int (0 : Int32)) := Arv.keep A_vb_155_166 Kq167 (ninS ne_vb_155_om nin0)
      have E_b_157_168 : Exa Z T167.heap b_157 "java/lang/String" := Exa.keep E_b_157_166 Kq167
      have F_value_b_157_168 : Fld Z T167.heap b_157 "java/lang/String" "value" "[B" (.ref vb_157) := Fld.keep F_value_b_157_166 Kq167 (ninS ne_b_157_om nin0)
      have F_coder_b_157_168 : Fld Z T167.heap b_157 "java/lang/String" "coder" "B" (.int (0 : Int32)) := Fld.keep F_coder_b_157_166 Kq167 (ninS ne_b_157_om nin0)
      have A_vb_157_168 : Arv Z T167.heap vb_157 kb_157 .byte (1 : Int32) ([(.int c2.toInt8.toInt32)]) (.int (0 : Int32)) := Arv.keep A_vb_157_166 Kq167 (ninS ne_vb_157_om nin0)
      have A_oe_168 : Arv Z T167.heap oe cA159 .byte (8 : Int32) ([(.int (47 : Int32)), (.int (62 : Int32)), (.int (0 : Int32)), (.int (0 : Int32)), (.int (0 : Int32)), (.int (0 : Int32)), (.int (0 : Int32)), (.int (0 : Int32))]) (.int (0 : Int32)) := Arv.keep A_oe_166 Kq167 (ninS ne_oe_om nin0)
      have E_om_168 : Exa Z T167.heap om "com/example/anagrafe/anagrafe/atom/Markup" := Exa.keep A165 Kq167
      have ne_b_155_wq_167 : b_155 ≠ wq_167 := Nat.ne_of_lt (Nat.lt_of_lt_of_le E_b_155_166.lt f167_0)
      have ne_vb_155_wq_167 : vb_155 ≠ wq_167 := Nat.ne_of_lt (Nat.lt_of_lt_of_le A_vb_155_166.lt f167_0)
      have ne_b_157_wq_167 : b_157 ≠ wq_167 := Nat.ne_of_lt (Nat.lt_of_lt_of_le E_b_157_166.lt f167_0)
      have ne_vb_157_wq_167 : vb_157 ≠ wq_167 := Nat.ne_of_lt (Nat.lt_of_lt_of_le A_vb_157_166.lt f167_0)
      have ne_oe_wq_167 : oe ≠ wq_167 := Nat.ne_of_lt (Nat.lt_of_lt_of_le A_oe_166.lt f167_0)
      have ne_om_wq_167 : om ≠ wq_167 := Nat.ne_of_lt (Nat.lt_of_lt_of_le A165.lt f167_0)
      have g_wq_167 : n0 ≤ wq_167 := Nat.le_trans Zs165 f167_0
      have mh_wq_167 : h0.size ≤ wq_167 := Nat.le_trans K165.1 f167_0
      have K167 : Keep h0 T167.heap [] := Keep.trans K165 Kq167 (allS (Or.inr mh_om) all0)
      have Zs167 : n0 ≤ T167.heap.size := Nat.le_trans Zs165 Kq167.1
      show Go p e below _ (T167.setTop (mkF m 144 #[.val (.int p1), .val (.int p2), .val (.int p3), .val (.int c1), .val (.int c2), .val (.int (0 : Int32)), .val (.int (1 : Int32)), .val (.ref b_155), .val (.ref b_157), .val (.ref oe), .val (.int ((0 : Int32) + (2 : Int32))), .unset, .unset, .unset, .unset, .unset] [(.ref om)]))
      refine g_astore X167 hx (hb hby at_144) 146 rfl rfl #[.val (.int p1), .val (.int p2), .val (.int p3), .val (.int c1), .val (.int c2), .val (.int (0 : Int32)), .val (.int (1 : Int32)), .val (.ref b_155), .val (.ref b_157), .val (.ref oe), .val (.int ((0 : Int32) + (2 : Int32))), .val (.ref om), .unset, .unset, .unset, .unset] rfl ?_
      refine g_aload X167 hx (hb hby at_146) 148 rfl (v := (.ref om)) rfl rfl ?_
      obtain ⟨cq169, kq169, q169a, q169b, q169c⟩ := isOf hZ rfl f167_1
      obtain ⟨_, _, ⟨T169, L169, k169, n169⟩, -, X169, ⟨Lc169, hQ169, l169, y169, z169⟩, st169⟩ := X167.virtualBack hx (y := (⟨"com/example/anagrafe/anagrafe/atom/Markup", "toByteArray", "()[B"⟩ : MethodName)) (z := (⟨"com/example/anagrafe/anagrafe/atom/Markup", "toByteArray", "()[B"⟩ : MethodName)) hown (mvT hZ (hw _ (List.mem_of_getElem? (i := 35) rfl))) (mvT hZ (hw _ (List.mem_of_getElem? (i := 36) rfl))) (notFace_of_selects (args := #[]) (mvT hZ (hw _ (List.mem_of_getElem? (i := 38) rfl)))) (mvT hZ (hw _ (List.mem_of_getElem? (i := 38) rfl))) (mvT hZ (hw _ (List.mem_of_getElem? (i := 37) rfl))) (by decide) (backOf (W := 0) (rm7 l Z a0 hw [] om wq_167 kq_167 0 [] T167.heap n0 Zs167 f167_1 f167_2 f167_3 f167_4 rfl (by decide)) hZ (hw _ (List.mem_of_getElem? (i := 39) rfl)) (hw _ (List.mem_of_getElem? (i := 28) rfl)) (by decide) (by decide)) q169a q169c (g := (mkF m 148 #[.val (.int p1), .val (.int p2), .val (.int p3), .val (.int c1), .val (.int c2), .val (.int (0 : Int32)), .val (.int (1 : Int32)), .val (.ref b_155), .val (.ref b_157), .val (.ref oe), .val (.int ((0 : Int32) + (2 : Int32))), .val (.ref om), .unset, .unset, .unset, .unset] [(.ref om)])) rfl (by rw [hml]; rfl) (Steps.refl _) (argsL := []) (rest := []) (lenOf own_pd16 rfl) rfl (by show 2 * 0 + _ ≤ _; exact Nat.le_of_eq rfl) (hb hby at_148) (fun _ _ => ⟨rfl, rfl, (by decide : 7 + 1 ≤ _), (by decide : 16404 + 8 ≤ _)⟩)
      dsimp only [Pt.U, Pt.locs, Pt.cells, Pt.slots] at X169 l169 y169 z169 st169 hQ169
      subst l169 y169 z169
      obtain ⟨b_169, kq_169, rfl, Nq169, Kq169, f169_0, f169_1⟩ := hQ169
      refine Go.tr st169 ?_
      have N169 := Fr.app N167 Nq169
      have E_b_155_170 : Exa Z T169.heap b_155 "java/lang/String" := Exa.keep E_b_155_168 Kq169
      have F_value_b_155_170 : Fld Z T169.heap b_155 "java/lang/String" "value" "[B" (.ref vb_155) := Fld.keep F_value_b_155_168 Kq169 nin0
      have F_coder_b_155_170 : Fld Z T169.heap b_155 "java/lang/String" "coder" "B" (.int (0 : Int32)) := Fld.keep F_coder_b_155_168 Kq169 nin0
      have A_vb_155_170 : Arv Z T169.heap vb_155 kb_155 .byte (1 : Int32) ([(.int c1.toInt8.toInt32)]) (.int (0 : Int32)) := Arv.keep A_vb_155_168 Kq169 nin0
      have E_b_157_170 : Exa Z T169.heap b_157 "java/lang/String" := Exa.keep E_b_157_168 Kq169
      have F_value_b_157_170 : Fld Z T169.heap b_157 "java/lang/String" "value" "[B" (.ref vb_157) := Fld.keep F_value_b_157_168 Kq169 nin0
      have F_coder_b_157_170 : Fld Z T169.heap b_157 "java/lang/String" "coder" "B" (.int (0 : Int32)) := Fld.keep F_coder_b_157_168 Kq169 nin0
      have A_vb_157_170 : Arv Z T169.heap vb_157 kb_157 .byte (1 : Int32) ([(.int c2.toInt8.toInt32)]) (.int (0 : Int32)) := Arv.keep A_vb_157_168 Kq169 nin0
      have A_oe_170 : Arv Z T169.heap oe cA159 .byte (8 : Int32) ([(.int (47 : Int32)), (.int (62 : Int32)), (.int (0 : Int32)), (.int (0 : Int32)), (.int (0 : Int32)), (.int (0 : Int32)), (.int (0 : Int32)), (.int (0 : Int32))]) (.int (0 : Int32)) := Arv.keep A_oe_168 Kq169 nin0
      have E_om_170 : Exa Z T169.heap om "com/example/anagrafe/anagrafe/atom/Markup" := Exa.keep f167_1 Kq169
      have F_bytes_om_170 : Fld Z T169.heap om "com/example/anagrafe/anagrafe/atom/Markup" "bytes" "[B" (.ref wq_167) := Fld.keep f167_2 Kq169 nin0
      have F_size_om_170 : Fld Z T169.heap om "com/example/anagrafe/anagrafe/atom/Markup" "size" "I" (.int (Int32.ofNat 0)) := Fld.keep f167_3 Kq169 nin0
      have A_wq_167_170 : Arv Z T169.heap wq_167 kq_167 .byte (Int32.ofNat 16384) [] (.int (0 : Int32)) := Arv.keep f167_4 Kq169 nin0
      have ne_b_155_b_169 : b_155 ≠ b_169 := Nat.ne_of_lt (Nat.lt_of_lt_of_le E_b_155_168.lt f169_0)
      have ne_vb_155_b_169 : vb_155 ≠ b_169 := Nat.ne_of_lt (Nat.lt_of_lt_of_le A_vb_155_168.lt f169_0)
      have ne_b_157_b_169 : b_157 ≠ b_169 := Nat.ne_of_lt (Nat.lt_of_lt_of_le E_b_157_168.lt f169_0)
      have ne_vb_157_b_169 : vb_157 ≠ b_169 := Nat.ne_of_lt (Nat.lt_of_lt_of_le A_vb_157_168.lt f169_0)
      have ne_oe_b_169 : oe ≠ b_169 := Nat.ne_of_lt (Nat.lt_of_lt_of_le A_oe_168.lt f169_0)
      have ne_om_b_169 : om ≠ b_169 := Nat.ne_of_lt (Nat.lt_of_lt_of_le f167_1.lt f169_0)
      have ne_wq_167_b_169 : wq_167 ≠ b_169 := Nat.ne_of_lt (Nat.lt_of_lt_of_le f167_4.lt f169_0)
      have g_b_169 : n0 ≤ b_169 := Nat.le_trans Zs167 f169_0
      have mh_b_169 : h0.size ≤ b_169 := Nat.le_trans K167.1 f169_0
      have K169 : Keep h0 T169.heap [] := Keep.trans K167 Kq169 all0
      have Zs169 : n0 ≤ T169.heap.size := Nat.le_trans Zs167 Kq169.1
      show Go p e below _ (T169.setTop (mkF m 151 #[.val (.int p1), .val (.int p2), .val (.int p3), .val (.int c1), .val (.int c2), .val (.int (0 : Int32)), .val (.int (1 : Int32)), .val (.ref b_155), .val (.ref b_157), .val (.ref oe), .val (.int ((0 : Int32) + (2 : Int32))), .val (.ref om), .unset, .unset, .unset, .unset] [(.ref b_169)]))
      refine g_astore X169 hx (hb hby at_151) 153 rfl rfl #[.val (.int p1), .val (.int p2), .val (.int p3), .val (.int c1), .val (.int c2), .val (.int (0 : Int32)), .val (.int (1 : Int32)), .val (.ref b_155), .val (.ref b_157), .val (.ref oe), .val (.int ((0 : Int32) + (2 : Int32))), .val (.ref om), .val (.ref b_169), .unset, .unset, .unset] rfl ?_
      refine g_aload X169 hx (hb hby at_153) 155 rfl (v := (.ref b_169)) rfl rfl ?_
      refine g_alen X169 hx (hb hby at_155) 156 rfl hZ rfl f169_1 ?_
      refine g_if_eq X169 hx (hb hby at_156) 161 159 (by decide) (by decide) rfl (fun hc156 => ?_) (fun hc156 => False.elim (hc156 rfl))
      refine g_iload X169 hx (hb hby at_161) 163 rfl (v := (0 : Int32)) rfl ?_
      refine g_if_eq X169 hx (hb hby at_163) 175 166 (by decide) (by decide) rfl (fun hc163 => ?_) (fun hc163 => False.elim (absurd rfl hc163))
      refine g_iload X169 hx (hb hby at_175) 177 rfl (v := (1 : Int32)) rfl ?_
      refine g_if_eq X169 hx (hb hby at_177) 188 180 (by decide) (by decide) rfl (fun hc177 => False.elim (absurd hc177 (by decide))) (fun hc177 => ?_)
      refine g_aload X169 hx (hb hby at_180) 182 rfl (v := (.ref om)) rfl rfl ?_
      obtain ⟨cq172, kq172, q172a, q172b, q172c⟩ := isOf hZ rfl E_om_170
      obtain ⟨_, _, ⟨T172, L172, k172, n172⟩, -, X172, ⟨Lc172, hQ172, l172, y172, z172⟩, st172⟩ := X169.virtualBack hx (y := (⟨"com/example/anagrafe/anagrafe/atom/Markup", "endEmpty", "()V"⟩ : MethodName)) (z := (⟨"com/example/anagrafe/anagrafe/atom/Markup", "endEmpty", "()V"⟩ : MethodName)) hown (mvT hZ (hw _ (List.mem_of_getElem? (i := 107) rfl))) (mvT hZ (hw _ (List.mem_of_getElem? (i := 108) rfl))) (notFace_of_selects (args := #[]) (mvT hZ (hw _ (List.mem_of_getElem? (i := 110) rfl)))) (mvT hZ (hw _ (List.mem_of_getElem? (i := 110) rfl))) (mvT hZ (hw _ (List.mem_of_getElem? (i := 109) rfl))) (by decide) (backOf (W := 0) (rm22 l Z a0 hw [] om wq_167 kq_167 0 [] T169.heap n0 Zs169 E_om_170 F_bytes_om_170 F_size_om_170 A_wq_167_170 g_om g_wq_167 ne_om_wq_167 rfl (by decide)) hZ (hw _ (List.mem_of_getElem? (i := 111) rfl)) (hw _ (List.mem_of_getElem? (i := 28) rfl)) (by decide) (by decide)) q172a q172c (g := (mkF m 182 #[.val (.int p1), .val (.int p2), .val (.int p3), .val (.int c1), .val (.int c2), .val (.int (0 : Int32)), .val (.int (1 : Int32)), .val (.ref b_155), .val (.ref b_157), .val (.ref oe), .val (.int ((0 : Int32) + (2 : Int32))), .val (.ref om), .val (.ref b_169), .unset, .unset, .unset] [(.ref om)])) rfl (by rw [hml]; rfl) (Steps.refl _) (argsL := []) (rest := []) (lenOf own_pd15 rfl) rfl (by show 2 * 0 + _ ≤ _; exact Nat.le_of_eq rfl) (hb hby at_182) (fun _ _ => ⟨rfl, rfl, (by decide : 8 + 0 ≤ _), (by decide : 16412 + 0 ≤ _)⟩)
      dsimp only [Pt.U, Pt.locs, Pt.cells, Pt.slots] at X172 l172 y172 z172 st172 hQ172
      subst l172 y172 z172
      obtain ⟨rfl, Nq172, Kq172, f172_0, f172_1, f172_2, f172_3⟩ := hQ172
      refine Go.tr st172 ?_
      have N172 := Fr.app N169 Nq172
      have A_oe_173 : Arv Z T172.heap oe cA159 .byte (8 : Int32) ([(.int (47 : Int32)), (.int (62 : Int32)), (.int (0 : Int32)), (.int (0 : Int32)), (.int (0 : Int32)), (.int (0 : Int32)), (.int (0 : Int32)), (.int (0 : Int32))]) (.int (0 : Int32)) := Arv.keep A_oe_170 Kq172 (ninS ne_oe_om (ninS ne_oe_wq_167 nin0))
      have E_om_173 : Exa Z T172.heap om "com/example/anagrafe/anagrafe/atom/Markup" := Exa.keep E_om_170 Kq172
      have A_b_169_173 : Arv Z T172.heap b_169 kq_169 .byte (Int32.ofNat 0) [] (.int (0 : Int32)) := Arv.keep f169_1 Kq172 (ninS (Ne.symm ne_om_b_169) (ninS (Ne.symm ne_wq_167_b_169) nin0))
      have K172 : Keep h0 T172.heap [] := Keep.trans K169 Kq172 (allS (Or.inr mh_om) (allS (Or.inr mh_wq_167) all0))
      have Zs172 : n0 ≤ T172.heap.size := Nat.le_trans Zs169 Kq172.1
      show Go p e below _ (T172.setTop (mkF m 185 #[.val (.int p1), .val (.int p2), .val (.int p3), .val (.int c1), .val (.int c2), .val (.int (0 : Int32)), .val (.int (1 : Int32)), .val (.ref b_155), .val (.ref b_157), .val (.ref oe), .val (.int ((0 : Int32) + (2 : Int32))), .val (.ref om), .val (.ref b_169), .unset, .unset, .unset] []))
      refine g_goto X172 hx (hb hby at_185) 193 (by decide) (by decide) ?_
      refine g_aload X172 hx (hb hby at_193) 195 rfl (v := (.ref om)) rfl rfl ?_
      obtain ⟨cq174, kq174, q174a, q174b, q174c⟩ := isOf hZ rfl f172_0
      obtain ⟨_, _, ⟨T174, L174, k174, n174⟩, -, X174, ⟨Lc174, hQ174, l174, y174, z174⟩, st174⟩ := X172.virtualBack hx (y := (⟨"com/example/anagrafe/anagrafe/atom/Markup", "toByteArray", "()[B"⟩ : MethodName)) (z := (⟨"com/example/anagrafe/anagrafe/atom/Markup", "toByteArray", "()[B"⟩ : MethodName)) hown (mvT hZ (hw _ (List.mem_of_getElem? (i := 35) rfl))) (mvT hZ (hw _ (List.mem_of_getElem? (i := 36) rfl))) (notFace_of_selects (args := #[]) (mvT hZ (hw _ (List.mem_of_getElem? (i := 38) rfl)))) (mvT hZ (hw _ (List.mem_of_getElem? (i := 38) rfl))) (mvT hZ (hw _ (List.mem_of_getElem? (i := 37) rfl))) (by decide) (backOf (W := 0) (rm7 l Z a0 hw [] om wq_167 kq_167 (0 + 2) (([] ++ [(.int (47 : Int32))]) ++ [(.int (62 : Int32))]) T172.heap n0 Zs172 f172_0 f172_1 f172_2 f172_3 rfl (by decide)) hZ (hw _ (List.mem_of_getElem? (i := 39) rfl)) (hw _ (List.mem_of_getElem? (i := 28) rfl)) (by decide) (by decide)) q174a q174c (g := (mkF m 195 #[.val (.int p1), .val (.int p2), .val (.int p3), .val (.int c1), .val (.int c2), .val (.int (0 : Int32)), .val (.int (1 : Int32)), .val (.ref b_155), .val (.ref b_157), .val (.ref oe), .val (.int ((0 : Int32) + (2 : Int32))), .val (.ref om), .val (.ref b_169), .unset, .unset, .unset] [(.ref om)])) rfl (by rw [hml]; rfl) (Steps.refl _) (argsL := []) (rest := []) (lenOf own_pd16 rfl) rfl (by show 2 * 0 + _ ≤ _; exact Nat.le_of_eq rfl) (hb hby at_195) (fun _ _ => ⟨rfl, rfl, (by decide : 8 + 1 ≤ _), (by decide : 16412 + 8 ≤ _)⟩)
      dsimp only [Pt.U, Pt.locs, Pt.cells, Pt.slots] at X174 l174 y174 z174 st174 hQ174
      subst l174 y174 z174
      obtain ⟨b_174, kq_174, rfl, Nq174, Kq174, f174_0, f174_1⟩ := hQ174
      refine Go.tr st174 ?_
      have N174 := Fr.app N172 Nq174
      have A_oe_175 : Arv Z T174.heap oe cA159 .byte (8 : Int32) ([(.int (47 : Int32)), (.int (62 : Int32)), (.int (0 : Int32)), (.int (0 : Int32)), (.int (0 : Int32)), (.int (0 : Int32)), (.int (0 : Int32)), (.int (0 : Int32))]) (.int (0 : Int32)) := Arv.keep A_oe_173 Kq174 nin0
      have E_om_175 : Exa Z T174.heap om "com/example/anagrafe/anagrafe/atom/Markup" := Exa.keep f172_0 Kq174
      have A_b_169_175 : Arv Z T174.heap b_169 kq_169 .byte (Int32.ofNat 0) [] (.int (0 : Int32)) := Arv.keep A_b_169_173 Kq174 nin0
      have F_bytes_om_175 : Fld Z T174.heap om "com/example/anagrafe/anagrafe/atom/Markup" "bytes" "[B" (.ref wq_167) := Fld.keep f172_1 Kq174 nin0
      have F_size_om_175 : Fld Z T174.heap om "com/example/anagrafe/anagrafe/atom/Markup" "size" "I" (.int (Int32.ofNat (0 + 2))) := Fld.keep f172_2 Kq174 nin0
      have A_wq_167_175 : Arv Z T174.heap wq_167 kq_167 .byte (Int32.ofNat 16384) (([] ++ [(.int (47 : Int32))]) ++ [(.int (62 : Int32))]) (.int (0 : Int32)) := Arv.keep f172_3 Kq174 nin0
      have ne_oe_b_174 : oe ≠ b_174 := Nat.ne_of_lt (Nat.lt_of_lt_of_le A_oe_173.lt f174_0)
      have ne_om_b_174 : om ≠ b_174 := Nat.ne_of_lt (Nat.lt_of_lt_of_le f172_0.lt f174_0)
      have ne_b_169_b_174 : b_169 ≠ b_174 := Nat.ne_of_lt (Nat.lt_of_lt_of_le A_b_169_173.lt f174_0)
      have ne_wq_167_b_174 : wq_167 ≠ b_174 := Nat.ne_of_lt (Nat.lt_of_lt_of_le f172_3.lt f174_0)
      have g_b_174 : n0 ≤ b_174 := Nat.le_trans Zs172 f174_0
      have mh_b_174 : h0.size ≤ b_174 := Nat.le_trans K172.1 f174_0
      have K174 : Keep h0 T174.heap [] := Keep.trans K172 Kq174 all0
      have Zs174 : n0 ≤ T174.heap.size := Nat.le_trans Zs172 Kq174.1
      show Go p e below _ (T174.setTop (mkF m 198 #[.val (.int p1), .val (.int p2), .val (.int p3), .val (.int c1), .val (.int c2), .val (.int (0 : Int32)), .val (.int (1 : Int32)), .val (.ref b_155), .val (.ref b_157), .val (.ref oe), .val (.int ((0 : Int32) + (2 : Int32))), .val (.ref om), .val (.ref b_169), .unset, .unset, .unset] [(.ref b_174)]))
      refine g_astore X174 hx (hb hby at_198) 200 rfl rfl #[.val (.int p1), .val (.int p2), .val (.int p3), .val (.int c1), .val (.int c2), .val (.int (0 : Int32)), .val (.int (1 : Int32)), .val (.ref b_155), .val (.ref b_157), .val (.ref oe), .val (.int ((0 : Int32) + (2 : Int32))), .val (.ref om), .val (.ref b_169), .val (.ref b_174), .unset, .unset] rfl ?_
      refine g_aload X174 hx (hb hby at_200) 202 rfl (v := (.ref b_174)) rfl rfl ?_
      refine g_aload X174 hx (hb hby at_202) 204 rfl (v := (.ref oe)) rfl rfl ?_
      refine g_iload X174 hx (hb hby at_204) 206 rfl (v := ((0 : Int32) + (2 : Int32))) rfl ?_
      obtain ⟨_, _, ⟨T176, L176, k176, n176⟩, -, X176, ⟨Lc176, hQ176, l176, y176, z176⟩, st176⟩ := Jvm.LawKit.callS X174 hx (y := (⟨"com/example/anagrafe/anagrafe/atom/MarkupToByteArrayPinLaw", "same", "([B[BI)Z"⟩ : MethodName)) hown (mvT hZ (hw _ (List.mem_of_getElem? (i := 63) rfl))) (mvT hZ (hw _ (List.mem_of_getElem? (i := 64) rfl))) (mvT hZ (hw _ (List.mem_of_getElem? (i := 65) rfl))) (mvT hZ (hw _ (List.mem_of_getElem? (i := 66) rfl))) (by decide) (backOf (W := 0) (rmsame l Z a0 hw [] b_174 oe ((0 : Int32) + (2 : Int32)) kq_174 cA159 (0 + 2) (([] ++ [(.int (47 : Int32))]) ++ [(.int (62 : Int32))]) ([(.int (47 : Int32)), (.int (62 : Int32)), (.int (0 : Int32)), (.int (0 : Int32)), (.int (0 : Int32)), (.int (0 : Int32)), (.int (0 : Int32)), (.int (0 : Int32))]) T174.heap n0 Zs174 f174_1 A_oe_175 (by decide) (by decide) (fun i hi => match i, hi with | 0, _ => ⟨_, rfl, rfl⟩ | 1, _ => ⟨_, rfl, rfl⟩ | n + 2, h => absurd h (by omega))) hZ (hw _ (List.mem_of_getElem? (i := 66) rfl)) (hw _ (List.mem_of_getElem? (i := 65) rfl)) (by decide) (by decide)) (g := (mkF m 206 #[.val (.int p1), .val (.int p2), .val (.int p3), .val (.int c1), .val (.int c2), .val (.int (0 : Int32)), .val (.int (1 : Int32)), .val (.ref b_155), .val (.ref b_157), .val (.ref oe), .val (.int ((0 : Int32) + (2 : Int32))), .val (.ref om), .val (.ref b_169), .val (.ref b_174), .unset, .unset] [(.int ((0 : Int32) + (2 : Int32))), (.ref oe), (.ref b_174)])) rfl (by rw [hml]; rfl) (argsL := [(.ref b_174), (.ref oe), (.int ((0 : Int32) + (2 : Int32)))]) (rest := []) (lenOf own_pd17 rfl) rfl (by show 2 * 0 + _ ≤ _; exact Nat.le_of_eq rfl) (hb hby at_206) (fun _ _ => ⟨rfl, rfl, (by decide : 9 + 0 ≤ _), (by decide : 16420 + 0 ≤ _)⟩)
      dsimp only [Pt.U, Pt.locs, Pt.cells, Pt.slots] at X176 l176 y176 z176 st176 hQ176
      subst l176 y176 z176
      obtain ⟨rfl, Nq176, e176⟩ := hQ176
      refine Go.st st176 ?_
      have N176 := Fr.app N174 Nq176
      show Go p e below _ (T176.setTop (mkF m 209 #[.val (.int p1), .val (.int p2), .val (.int p3), .val (.int c1), .val (.int c2), .val (.int (0 : Int32)), .val (.int (1 : Int32)), .val (.ref b_155), .val (.ref b_157), .val (.ref oe), .val (.int ((0 : Int32) + (2 : Int32))), .val (.ref om), .val (.ref b_169), .val (.ref b_174), .unset, .unset] [(.int (1 : Int32))]))
      refine g_if_ne X176 hx (hb hby at_209) 214 212 (by decide) (by decide) rfl (fun hc209 => ?_) (fun hc209 => False.elim (absurd hc209 (by decide)))
      refine g_aload X176 hx (hb hby at_214) 216 rfl (v := (.ref b_174)) rfl rfl ?_
      refine g_iconst X176 hx (hb hby at_216) 217 rfl (0 : Int32) rfl ?_
      refine g_aload X176 hx (hb hby at_217) 219 rfl (v := (.ref b_174)) rfl rfl ?_
      refine g_iconst X176 hx (hb hby at_219) 220 rfl (0 : Int32) rfl ?_
      refine g_baload X176 hx (hb hby at_220) 221 rfl hZ e176 f174_1 (show ¬ (0 : Int32) < 0 ∧ (0 : Int32) < (Int32.ofNat (0 + 2)) from by decide) (.int (47 : Int32)) rfl ?_
      refine g_iconst X176 hx (hb hby at_221) 222 rfl (1 : Int32) rfl ?_
      refine g_ixor X176 hx (hb hby at_222) 223 rfl ((47 : Int32) ^^^ (1 : Int32)) rfl ?_
      refine g_i2b X176 hx (hb hby at_223) 224 rfl ((47 : Int32) ^^^ (1 : Int32)).toInt8.toInt32 rfl ?_
      obtain ⟨T178, h178, X178, e178, W178, B178, st178⟩ := g_bastore X176 hx (hb hby at_224) hZ e176 f174_1 (show ¬ (0 : Int32) < 0 ∧ (0 : Int32) < (Int32.ofNat (0 + 2)) from by decide) (i := 0) (by decide) (by simp)  (L := #[.val (.int p1), .val (.int p2), .val (.int p3), .val (.int c1), .val (.int c2), .val (.int (0 : Int32)), .val (.int (1 : Int32)), .val (.ref b_155), .val (.ref b_157), .val (.ref oe), .val (.int ((0 : Int32) + (2 : Int32))), .val (.ref om), .val (.ref b_169), .val (.ref b_174), .unset, .unset]) (S := [])
      refine Go.st st178 ?_
      have A_oe_179 : Arv Z h178 oe cA159 .byte (8 : Int32) ([(.int (47 : Int32)), (.int (62 : Int32)), (.int (0 : Int32)), (.int (0 : Int32)), (.int (0 : Int32)), (.int (0 : Int32)), (.int (0 : Int32)), (.int (0 : Int32))]) (.int (0 : Int32)) := Arv.other A_oe_175 W178 ne_oe_b_174
      have E_om_179 : Exa Z h178 om "com/example/anagrafe/anagrafe/atom/Markup" := Exa.wr W178 E_om_175
      have A_b_169_179 : Arv Z h178 b_169 kq_169 .byte (Int32.ofNat 0) [] (.int (0 : Int32)) := Arv.other A_b_169_175 W178 ne_b_169_b_174
      have F_bytes_om_179 : Fld Z h178 om "com/example/anagrafe/anagrafe/atom/Markup" "bytes" "[B" (.ref wq_167) := Fld.other W178 F_bytes_om_175 (Or.inl ne_om_b_174)
      have F_size_om_179 : Fld Z h178 om "com/example/anagrafe/anagrafe/atom/Markup" "size" "I" (.int (Int32.ofNat (0 + 2))) := Fld.other W178 F_size_om_175 (Or.inl ne_om_b_174)
      have A_wq_167_179 : Arv Z h178 wq_167 kq_167 .byte (Int32.ofNat 16384) (([] ++ [(.int (47 : Int32))]) ++ [(.int (62 : Int32))]) (.int (0 : Int32)) := Arv.other A_wq_167_175 W178 ne_wq_167_b_174
      have Av_b_174_178 : Arv Z h178 b_174 kq_174 .byte (Int32.ofNat (0 + 2)) (List.set (α := Value) (([] ++ [(.int (47 : Int32))]) ++ [(.int (62 : Int32))]) 0 (.int (nar .byte (((47 : Int32) ^^^ (1 : Int32)).toInt8.toInt32)))) (.int (0 : Int32)) := B178
      have K178 : Keep h0 h178 [] := Keep.wr K174 W178 (Or.inr mh_b_174)
      have N178 := Fr.snoc X178 N176 g_b_174
      have Zs178 : n0 ≤ h178.size := by rw [W178.size]; exact Zs174
      show Go p e below _ (T178.setTop (mkF m 225 #[.val (.int p1), .val (.int p2), .val (.int p3), .val (.int c1), .val (.int c2), .val (.int (0 : Int32)), .val (.int (1 : Int32)), .val (.ref b_155), .val (.ref b_157), .val (.ref oe), .val (.int ((0 : Int32) + (2 : Int32))), .val (.ref om), .val (.ref b_169), .val (.ref b_174), .unset, .unset] []))
      refine g_aload X178 hx (hb hby at_225) 227 rfl (v := (.ref om)) rfl rfl ?_
      obtain ⟨cq180, kq180, q180a, q180b, q180c⟩ := isOf hZ e178 E_om_179
      obtain ⟨_, _, ⟨T180, L180, k180, n180⟩, -, X180, ⟨Lc180, hQ180, l180, y180, z180⟩, st180⟩ := X178.virtualBack hx (y := (⟨"com/example/anagrafe/anagrafe/atom/Markup", "toByteArray", "()[B"⟩ : MethodName)) (z := (⟨"com/example/anagrafe/anagrafe/atom/Markup", "toByteArray", "()[B"⟩ : MethodName)) hown (mvT hZ (hw _ (List.mem_of_getElem? (i := 35) rfl))) (mvT hZ (hw _ (List.mem_of_getElem? (i := 36) rfl))) (notFace_of_selects (args := #[]) (mvT hZ (hw _ (List.mem_of_getElem? (i := 38) rfl)))) (mvT hZ (hw _ (List.mem_of_getElem? (i := 38) rfl))) (mvT hZ (hw _ (List.mem_of_getElem? (i := 37) rfl))) (by decide) (backOf (W := 0) (rm7 l Z a0 hw [] om wq_167 kq_167 (0 + 2) (([] ++ [(.int (47 : Int32))]) ++ [(.int (62 : Int32))]) h178 n0 Zs178 E_om_179 F_bytes_om_179 F_size_om_179 A_wq_167_179 rfl (by decide)) hZ (hw _ (List.mem_of_getElem? (i := 39) rfl)) (hw _ (List.mem_of_getElem? (i := 28) rfl)) (by decide) (by decide)) q180a q180c (g := (mkF m 227 #[.val (.int p1), .val (.int p2), .val (.int p3), .val (.int c1), .val (.int c2), .val (.int (0 : Int32)), .val (.int (1 : Int32)), .val (.ref b_155), .val (.ref b_157), .val (.ref oe), .val (.int ((0 : Int32) + (2 : Int32))), .val (.ref om), .val (.ref b_169), .val (.ref b_174), .unset, .unset] [(.ref om)])) rfl (by rw [hml]; rfl) (Steps.refl _) (argsL := []) (rest := []) (lenOf own_pd16 rfl) rfl (by show 2 * 0 + _ ≤ _; exact Nat.le_of_eq rfl) (hb hby at_227) (fun _ _ => ⟨rfl, e178, (by decide : 9 + 1 ≤ _), (by decide : 16420 + 8 ≤ _)⟩)
      dsimp only [Pt.U, Pt.locs, Pt.cells, Pt.slots] at X180 l180 y180 z180 st180 hQ180
      subst l180 y180 z180
      obtain ⟨b_180, kq_180, rfl, Nq180, Kq180, f180_0, f180_1⟩ := hQ180
      refine Go.tr st180 ?_
      have N180 := Fr.app N178 Nq180
      have A_oe_181 : Arv Z T180.heap oe cA159 .byte (8 : Int32) ([(.int (47 : Int32)), (.int (62 : Int32)), (.int (0 : Int32)), (.int (0 : Int32)), (.int (0 : Int32)), (.int (0 : Int32)), (.int (0 : Int32)), (.int (0 : Int32))]) (.int (0 : Int32)) := Arv.keep A_oe_179 Kq180 nin0
      have E_om_181 : Exa Z T180.heap om "com/example/anagrafe/anagrafe/atom/Markup" := Exa.keep E_om_179 Kq180
      have A_b_169_181 : Arv Z T180.heap b_169 kq_169 .byte (Int32.ofNat 0) [] (.int (0 : Int32)) := Arv.keep A_b_169_179 Kq180 nin0
      have F_bytes_om_181 : Fld Z T180.heap om "com/example/anagrafe/anagrafe/atom/Markup" "bytes" "[B" (.ref wq_167) := Fld.keep F_bytes_om_179 Kq180 nin0
      have F_size_om_181 : Fld Z T180.heap om "com/example/anagrafe/anagrafe/atom/Markup" "size" "I" (.int (Int32.ofNat (0 + 2))) := Fld.keep F_size_om_179 Kq180 nin0
      have A_wq_167_181 : Arv Z T180.heap wq_167 kq_167 .byte (Int32.ofNat 16384) (([] ++ [(.int (47 : Int32))]) ++ [(.int (62 : Int32))]) (.int (0 : Int32)) := Arv.keep A_wq_167_179 Kq180 nin0
      have A_b_174_181 : Arv Z T180.heap b_174 kq_174 .byte (Int32.ofNat (0 + 2)) (List.set (α := Value) (([] ++ [(.int (47 : Int32))]) ++ [(.int (62 : Int32))]) 0 (.int (nar .byte (((47 : Int32) ^^^ (1 : Int32)).toInt8.toInt32)))) (.int (0 : Int32)) := Arv.keep Av_b_174_178 Kq180 nin0
      have ne_oe_b_180 : oe ≠ b_180 := Nat.ne_of_lt (Nat.lt_of_lt_of_le A_oe_179.lt f180_0)
      have ne_om_b_180 : om ≠ b_180 := Nat.ne_of_lt (Nat.lt_of_lt_of_le E_om_179.lt f180_0)
      have ne_b_169_b_180 : b_169 ≠ b_180 := Nat.ne_of_lt (Nat.lt_of_lt_of_le A_b_169_179.lt f180_0)
      have ne_wq_167_b_180 : wq_167 ≠ b_180 := Nat.ne_of_lt (Nat.lt_of_lt_of_le A_wq_167_179.lt f180_0)
      have ne_b_174_b_180 : b_174 ≠ b_180 := Nat.ne_of_lt (Nat.lt_of_lt_of_le Av_b_174_178.lt f180_0)
      have g_b_180 : n0 ≤ b_180 := Nat.le_trans Zs178 f180_0
      have mh_b_180 : h0.size ≤ b_180 := Nat.le_trans K178.1 f180_0
      have K180 : Keep h0 T180.heap [] := Keep.trans K178 Kq180 all0
      have Zs180 : n0 ≤ T180.heap.size := Nat.le_trans Zs178 Kq180.1
      show Go p e below _ (T180.setTop (mkF m 230 #[.val (.int p1), .val (.int p2), .val (.int p3), .val (.int c1), .val (.int c2), .val (.int (0 : Int32)), .val (.int (1 : Int32)), .val (.ref b_155), .val (.ref b_157), .val (.ref oe), .val (.int ((0 : Int32) + (2 : Int32))), .val (.ref om), .val (.ref b_169), .val (.ref b_174), .unset, .unset] [(.ref b_180)]))
      refine g_astore X180 hx (hb hby at_230) 232 rfl rfl #[.val (.int p1), .val (.int p2), .val (.int p3), .val (.int c1), .val (.int c2), .val (.int (0 : Int32)), .val (.int (1 : Int32)), .val (.ref b_155), .val (.ref b_157), .val (.ref oe), .val (.int ((0 : Int32) + (2 : Int32))), .val (.ref om), .val (.ref b_169), .val (.ref b_174), .val (.ref b_180), .unset] rfl ?_
      refine g_aload X180 hx (hb hby at_232) 234 rfl (v := (.ref b_180)) rfl rfl ?_
      refine g_aload X180 hx (hb hby at_234) 236 rfl (v := (.ref b_174)) rfl rfl ?_
      refine g_acmp_eq X180 hx (hb hby at_236) 251 239 (by decide) (by decide) rfl rfl rfl (fun hc236 => False.elim ((Ne.symm ne_b_174_b_180) (Value.ref.inj hc236))) (fun hc236 => ?_)
      refine g_aload X180 hx (hb hby at_239) 241 rfl (v := (.ref b_180)) rfl rfl ?_
      refine g_aload X180 hx (hb hby at_241) 243 rfl (v := (.ref oe)) rfl rfl ?_
      refine g_iload X180 hx (hb hby at_243) 245 rfl (v := ((0 : Int32) + (2 : Int32))) rfl ?_
      obtain ⟨_, _, ⟨T182, L182, k182, n182⟩, -, X182, ⟨Lc182, hQ182, l182, y182, z182⟩, st182⟩ := Jvm.LawKit.callS X180 hx (y := (⟨"com/example/anagrafe/anagrafe/atom/MarkupToByteArrayPinLaw", "same", "([B[BI)Z"⟩ : MethodName)) hown (mvT hZ (hw _ (List.mem_of_getElem? (i := 63) rfl))) (mvT hZ (hw _ (List.mem_of_getElem? (i := 64) rfl))) (mvT hZ (hw _ (List.mem_of_getElem? (i := 65) rfl))) (mvT hZ (hw _ (List.mem_of_getElem? (i := 66) rfl))) (by decide) (backOf (W := 0) (rmsame l Z a0 hw [] b_180 oe ((0 : Int32) + (2 : Int32)) kq_180 cA159 (0 + 2) (([] ++ [(.int (47 : Int32))]) ++ [(.int (62 : Int32))]) ([(.int (47 : Int32)), (.int (62 : Int32)), (.int (0 : Int32)), (.int (0 : Int32)), (.int (0 : Int32)), (.int (0 : Int32)), (.int (0 : Int32)), (.int (0 : Int32))]) T180.heap n0 Zs180 f180_1 A_oe_181 (by decide) (by decide) (fun i hi => match i, hi with | 0, _ => ⟨_, rfl, rfl⟩ | 1, _ => ⟨_, rfl, rfl⟩ | n + 2, h => absurd h (by omega))) hZ (hw _ (List.mem_of_getElem? (i := 66) rfl)) (hw _ (List.mem_of_getElem? (i := 65) rfl)) (by decide) (by decide)) (g := (mkF m 245 #[.val (.int p1), .val (.int p2), .val (.int p3), .val (.int c1), .val (.int c2), .val (.int (0 : Int32)), .val (.int (1 : Int32)), .val (.ref b_155), .val (.ref b_157), .val (.ref oe), .val (.int ((0 : Int32) + (2 : Int32))), .val (.ref om), .val (.ref b_169), .val (.ref b_174), .val (.ref b_180), .unset] [(.int ((0 : Int32) + (2 : Int32))), (.ref oe), (.ref b_180)])) rfl (by rw [hml]; rfl) (argsL := [(.ref b_180), (.ref oe), (.int ((0 : Int32) + (2 : Int32)))]) (rest := []) (lenOf own_pd17 rfl) rfl (by show 2 * 0 + _ ≤ _; exact Nat.le_of_eq rfl) (hb hby at_245) (fun _ _ => ⟨rfl, rfl, (by decide : 10 + 0 ≤ _), (by decide : 16428 + 0 ≤ _)⟩)
      dsimp only [Pt.U, Pt.locs, Pt.cells, Pt.slots] at X182 l182 y182 z182 st182 hQ182
      subst l182 y182 z182
      obtain ⟨rfl, Nq182, e182⟩ := hQ182
      refine Go.st st182 ?_
      have N182 := Fr.app N180 Nq182
      show Go p e below _ (T182.setTop (mkF m 248 #[.val (.int p1), .val (.int p2), .val (.int p3), .val (.int c1), .val (.int c2), .val (.int (0 : Int32)), .val (.int (1 : Int32)), .val (.ref b_155), .val (.ref b_157), .val (.ref oe), .val (.int ((0 : Int32) + (2 : Int32))), .val (.ref om), .val (.ref b_169), .val (.ref b_174), .val (.ref b_180), .unset] [(.int (1 : Int32))]))
      refine g_if_ne X182 hx (hb hby at_248) 253 251 (by decide) (by decide) rfl (fun hc248 => ?_) (fun hc248 => False.elim (absurd hc248 (by decide)))
      refine g_aload X182 hx (hb hby at_253) 255 rfl (v := (.ref om)) rfl rfl ?_
      obtain ⟨cq183, kq183, q183a, q183b, q183c⟩ := isOf hZ e182 E_om_181
      obtain ⟨_, _, ⟨T183, L183, k183, n183⟩, -, X183, ⟨Lc183, hQ183, l183, y183, z183⟩, st183⟩ := X182.virtualBack hx (y := (⟨"com/example/anagrafe/anagrafe/atom/Markup", "endStart", "()V"⟩ : MethodName)) (z := (⟨"com/example/anagrafe/anagrafe/atom/Markup", "endStart", "()V"⟩ : MethodName)) hown (mvT hZ (hw _ (List.mem_of_getElem? (i := 54) rfl))) (mvT hZ (hw _ (List.mem_of_getElem? (i := 55) rfl))) (notFace_of_selects (args := #[]) (mvT hZ (hw _ (List.mem_of_getElem? (i := 57) rfl)))) (mvT hZ (hw _ (List.mem_of_getElem? (i := 57) rfl))) (mvT hZ (hw _ (List.mem_of_getElem? (i := 56) rfl))) (by decide) (backOf (W := 0) (rm10 l Z a0 hw [] om wq_167 kq_167 (0 + 2) (([] ++ [(.int (47 : Int32))]) ++ [(.int (62 : Int32))]) T180.heap n0 Zs180 E_om_181 F_bytes_om_181 F_size_om_181 A_wq_167_181 g_om g_wq_167 ne_om_wq_167 rfl (by decide)) hZ (hw _ (List.mem_of_getElem? (i := 58) rfl)) (hw _ (List.mem_of_getElem? (i := 28) rfl)) (by decide) (by decide)) q183a q183c (g := (mkF m 255 #[.val (.int p1), .val (.int p2), .val (.int p3), .val (.int c1), .val (.int c2), .val (.int (0 : Int32)), .val (.int (1 : Int32)), .val (.ref b_155), .val (.ref b_157), .val (.ref oe), .val (.int ((0 : Int32) + (2 : Int32))), .val (.ref om), .val (.ref b_169), .val (.ref b_174), .val (.ref b_180), .unset] [(.ref om)])) rfl (by rw [hml]; rfl) (Steps.refl _) (argsL := []) (rest := []) (lenOf own_pd15 rfl) rfl (by show 2 * 0 + _ ≤ _; exact Nat.le_of_eq rfl) (hb hby at_255) (fun _ _ => ⟨rfl, e182, (by decide : 10 + 0 ≤ _), (by decide : 16428 + 0 ≤ _)⟩)
      dsimp only [Pt.U, Pt.locs, Pt.cells, Pt.slots] at X183 l183 y183 z183 st183 hQ183
      subst l183 y183 z183
      obtain ⟨rfl, Nq183, Kq183, f183_0, f183_1, f183_2, f183_3⟩ := hQ183
      refine Go.tr st183 ?_
      have N183 := Fr.app N182 Nq183
      have A_oe_184 : Arv Z T183.heap oe cA159 .byte (8 : Int32) ([(.int (47 : Int32)), (.int (62 : Int32)), (.int (0 : Int32)), (.int (0 : Int32)), (.int (0 : Int32)), (.int (0 : Int32)), (.int (0 : Int32)), (.int (0 : Int32))]) (.int (0 : Int32)) := Arv.keep A_oe_181 Kq183 (ninS ne_oe_om (ninS ne_oe_wq_167 nin0))
      have E_om_184 : Exa Z T183.heap om "com/example/anagrafe/anagrafe/atom/Markup" := Exa.keep E_om_181 Kq183
      have A_b_169_184 : Arv Z T183.heap b_169 kq_169 .byte (Int32.ofNat 0) [] (.int (0 : Int32)) := Arv.keep A_b_169_181 Kq183 (ninS (Ne.symm ne_om_b_169) (ninS (Ne.symm ne_wq_167_b_169) nin0))
      have A_b_174_184 : Arv Z T183.heap b_174 kq_174 .byte (Int32.ofNat (0 + 2)) (List.set (α := Value) (([] ++ [(.int (47 : Int32))]) ++ [(.int (62 : Int32))]) 0 (.int (nar .byte (((47 : Int32) ^^^ (1 : Int32)).toInt8.toInt32)))) (.int (0 : Int32)) := Arv.keep A_b_174_181 Kq183 (ninS (Ne.symm ne_om_b_174) (ninS (Ne.symm ne_wq_167_b_174) nin0))
      have A_b_180_184 : Arv Z T183.heap b_180 kq_180 .byte (Int32.ofNat (0 + 2)) (([] ++ [(.int (47 : Int32))]) ++ [(.int (62 : Int32))]) (.int (0 : Int32)) := Arv.keep f180_1 Kq183 (ninS (Ne.symm ne_om_b_180) (ninS (Ne.symm ne_wq_167_b_180) nin0))
      have K183 : Keep h0 T183.heap [] := Keep.trans K180 Kq183 (allS (Or.inr mh_om) (allS (Or.inr mh_wq_167) all0))
      have Zs183 : n0 ≤ T183.heap.size := Nat.le_trans Zs180 Kq183.1
      show Go p e below _ (T183.setTop (mkF m 258 #[.val (.int p1), .val (.int p2), .val (.int p3), .val (.int c1), .val (.int c2), .val (.int (0 : Int32)), .val (.int (1 : Int32)), .val (.ref b_155), .val (.ref b_157), .val (.ref oe), .val (.int ((0 : Int32) + (2 : Int32))), .val (.ref om), .val (.ref b_169), .val (.ref b_174), .val (.ref b_180), .unset] []))
      refine g_aload X183 hx (hb hby at_258) 260 rfl (v := (.ref oe)) rfl rfl ?_
      refine g_iload X183 hx (hb hby at_260) 262 rfl (v := ((0 : Int32) + (2 : Int32))) rfl ?_
      refine g_bipush X183 hx (hb hby at_262) 264 rfl (62 : Int32) rfl ?_
      obtain ⟨T185, h185, X185, e185, W185, B185, st185⟩ := g_bastore X183 hx (hb hby at_264) hZ rfl A_oe_184 (show ¬ ((0 : Int32) + (2 : Int32)) < 0 ∧ ((0 : Int32) + (2 : Int32)) < (8 : Int32) from by decide) (i := 2) (by decide) (by simp)  (L := #[.val (.int p1), .val (.int p2), .val (.int p3), .val (.int c1), .val (.int c2), .val (.int (0 : Int32)), .val (.int (1 : Int32)), .val (.ref b_155), .val (.ref b_157), .val (.ref oe), .val (.int ((0 : Int32) + (2 : Int32))), .val (.ref om), .val (.ref b_169), .val (.ref b_174), .val (.ref b_180), .unset]) (S := [])
      refine Go.st st185 ?_
      have E_om_186 : Exa Z h185 om "com/example/anagrafe/anagrafe/atom/Markup" := Exa.wr W185 f183_0
      have A_b_169_186 : Arv Z h185 b_169 kq_169 .byte (Int32.ofNat 0) [] (.int (0 : Int32)) := Arv.other A_b_169_184 W185 (Ne.symm ne_oe_b_169)
      have A_b_174_186 : Arv Z h185 b_174 kq_174 .byte (Int32.ofNat (0 + 2)) (List.set (α := Value) (([] ++ [(.int (47 : Int32))]) ++ [(.int (62 : Int32))]) 0 (.int (nar .byte (((47 : Int32) ^^^ (1 : Int32)).toInt8.toInt32)))) (.int (0 : Int32)) := Arv.other A_b_174_184 W185 (Ne.symm ne_oe_b_174)
      have A_b_180_186 : Arv Z h185 b_180 kq_180 .byte (Int32.ofNat (0 + 2)) (([] ++ [(.int (47 : Int32))]) ++ [(.int (62 : Int32))]) (.int (0 : Int32)) := Arv.other A_b_180_184 W185 (Ne.symm ne_oe_b_180)
      have F_bytes_om_186 : Fld Z h185 om "com/example/anagrafe/anagrafe/atom/Markup" "bytes" "[B" (.ref wq_167) := Fld.other W185 f183_1 (Or.inl (Ne.symm ne_oe_om))
      have F_size_om_186 : Fld Z h185 om "com/example/anagrafe/anagrafe/atom/Markup" "size" "I" (.int (Int32.ofNat ((0 + 2) + 1))) := Fld.other W185 f183_2 (Or.inl (Ne.symm ne_oe_om))
      have A_wq_167_186 : Arv Z h185 wq_167 kq_167 .byte (Int32.ofNat 16384) ((([] ++ [(.int (47 : Int32))]) ++ [(.int (62 : Int32))]) ++ [(.int (62 : Int32))]) (.int (0 : Int32)) := Arv.other f183_3 W185 (Ne.symm ne_oe_wq_167)
      have Av_oe_185 : Arv Z h185 oe cA159 .byte (8 : Int32) ([(.int (47 : Int32)), (.int (62 : Int32)), (.int (62 : Int32)), (.int (0 : Int32)), (.int (0 : Int32)), (.int (0 : Int32)), (.int (0 : Int32)), (.int (0 : Int32))]) (.int (0 : Int32)) := B185
      have K185 : Keep h0 h185 [] := Keep.wr K183 W185 (Or.inr mh_oe)
      have N185 := Fr.snoc X185 N183 g_oe
      have Zs185 : n0 ≤ h185.size := by rw [W185.size]; exact Zs183
      show Go p e below _ (T185.setTop (mkF m 265 #[.val (.int p1), .val (.int p2), .val (.int p3), .val (.int c1), .val (.int c2), .val (.int (0 : Int32)), .val (.int (1 : Int32)), .val (.ref b_155), .val (.ref b_157), .val (.ref oe), .val (.int ((0 : Int32) + (2 : Int32))), .val (.ref om), .val (.ref b_169), .val (.ref b_174), .val (.ref b_180), .unset] []))
      refine g_aload X185 hx (hb hby at_265) 267 rfl (v := (.ref om)) rfl rfl ?_
      obtain ⟨cq187, kq187, q187a, q187b, q187c⟩ := isOf hZ e185 E_om_186
      obtain ⟨_, _, ⟨T187, L187, k187, n187⟩, -, X187, ⟨Lc187, hQ187, l187, y187, z187⟩, st187⟩ := X185.virtualBack hx (y := (⟨"com/example/anagrafe/anagrafe/atom/Markup", "toByteArray", "()[B"⟩ : MethodName)) (z := (⟨"com/example/anagrafe/anagrafe/atom/Markup", "toByteArray", "()[B"⟩ : MethodName)) hown (mvT hZ (hw _ (List.mem_of_getElem? (i := 35) rfl))) (mvT hZ (hw _ (List.mem_of_getElem? (i := 36) rfl))) (notFace_of_selects (args := #[]) (mvT hZ (hw _ (List.mem_of_getElem? (i := 38) rfl)))) (mvT hZ (hw _ (List.mem_of_getElem? (i := 38) rfl))) (mvT hZ (hw _ (List.mem_of_getElem? (i := 37) rfl))) (by decide) (backOf (W := 0) (rm7 l Z a0 hw [] om wq_167 kq_167 ((0 + 2) + 1) ((([] ++ [(.int (47 : Int32))]) ++ [(.int (62 : Int32))]) ++ [(.int (62 : Int32))]) h185 n0 Zs185 E_om_186 F_bytes_om_186 F_size_om_186 A_wq_167_186 rfl (by decide)) hZ (hw _ (List.mem_of_getElem? (i := 39) rfl)) (hw _ (List.mem_of_getElem? (i := 28) rfl)) (by decide) (by decide)) q187a q187c (g := (mkF m 267 #[.val (.int p1), .val (.int p2), .val (.int p3), .val (.int c1), .val (.int c2), .val (.int (0 : Int32)), .val (.int (1 : Int32)), .val (.ref b_155), .val (.ref b_157), .val (.ref oe), .val (.int ((0 : Int32) + (2 : Int32))), .val (.ref om), .val (.ref b_169), .val (.ref b_174), .val (.ref b_180), .unset] [(.ref om)])) rfl (by rw [hml]; rfl) (Steps.refl _) (argsL := []) (rest := []) (lenOf own_pd16 rfl) rfl (by show 2 * 0 + _ ≤ _; exact Nat.le_of_eq rfl) (hb hby at_267) (fun _ _ => ⟨rfl, e185, (by decide : 10 + 1 ≤ _), (by decide : 16428 + 8 ≤ _)⟩)
      dsimp only [Pt.U, Pt.locs, Pt.cells, Pt.slots] at X187 l187 y187 z187 st187 hQ187
      subst l187 y187 z187
      obtain ⟨b_187, kq_187, rfl, Nq187, Kq187, f187_0, f187_1⟩ := hQ187
      refine Go.tr st187 ?_
      have N187 := Fr.app N185 Nq187
      have E_om_188 : Exa Z T187.heap om "com/example/anagrafe/anagrafe/atom/Markup" := Exa.keep E_om_186 Kq187
      have A_b_169_188 : Arv Z T187.heap b_169 kq_169 .byte (Int32.ofNat 0) [] (.int (0 : Int32)) := Arv.keep A_b_169_186 Kq187 nin0
      have A_b_174_188 : Arv Z T187.heap b_174 kq_174 .byte (Int32.ofNat (0 + 2)) (List.set (α := Value) (([] ++ [(.int (47 : Int32))]) ++ [(.int (62 : Int32))]) 0 (.int (nar .byte (((47 : Int32) ^^^ (1 : Int32)).toInt8.toInt32)))) (.int (0 : Int32)) := Arv.keep A_b_174_186 Kq187 nin0
      have A_b_180_188 : Arv Z T187.heap b_180 kq_180 .byte (Int32.ofNat (0 + 2)) (([] ++ [(.int (47 : Int32))]) ++ [(.int (62 : Int32))]) (.int (0 : Int32)) := Arv.keep A_b_180_186 Kq187 nin0
      have F_bytes_om_188 : Fld Z T187.heap om "com/example/anagrafe/anagrafe/atom/Markup" "bytes" "[B" (.ref wq_167) := Fld.keep F_bytes_om_186 Kq187 nin0
      have F_size_om_188 : Fld Z T187.heap om "com/example/anagrafe/anagrafe/atom/Markup" "size" "I" (.int (Int32.ofNat ((0 + 2) + 1))) := Fld.keep F_size_om_186 Kq187 nin0
      have A_wq_167_188 : Arv Z T187.heap wq_167 kq_167 .byte (Int32.ofNat 16384) ((([] ++ [(.int (47 : Int32))]) ++ [(.int (62 : Int32))]) ++ [(.int (62 : Int32))]) (.int (0 : Int32)) := Arv.keep A_wq_167_186 Kq187 nin0
      have A_oe_188 : Arv Z T187.heap oe cA159 .byte (8 : Int32) ([(.int (47 : Int32)), (.int (62 : Int32)), (.int (62 : Int32)), (.int (0 : Int32)), (.int (0 : Int32)), (.int (0 : Int32)), (.int (0 : Int32)), (.int (0 : Int32))]) (.int (0 : Int32)) := Arv.keep Av_oe_185 Kq187 nin0
      have ne_om_b_187 : om ≠ b_187 := Nat.ne_of_lt (Nat.lt_of_lt_of_le E_om_186.lt f187_0)
      have ne_b_169_b_187 : b_169 ≠ b_187 := Nat.ne_of_lt (Nat.lt_of_lt_of_le A_b_169_186.lt f187_0)
      have ne_b_174_b_187 : b_174 ≠ b_187 := Nat.ne_of_lt (Nat.lt_of_lt_of_le A_b_174_186.lt f187_0)
      have ne_b_180_b_187 : b_180 ≠ b_187 := Nat.ne_of_lt (Nat.lt_of_lt_of_le A_b_180_186.lt f187_0)
      have ne_wq_167_b_187 : wq_167 ≠ b_187 := Nat.ne_of_lt (Nat.lt_of_lt_of_le A_wq_167_186.lt f187_0)
      have ne_oe_b_187 : oe ≠ b_187 := Nat.ne_of_lt (Nat.lt_of_lt_of_le Av_oe_185.lt f187_0)
      have g_b_187 : n0 ≤ b_187 := Nat.le_trans Zs185 f187_0
      have mh_b_187 : h0.size ≤ b_187 := Nat.le_trans K185.1 f187_0
      have K187 : Keep h0 T187.heap [] := Keep.trans K185 Kq187 all0
      have Zs187 : n0 ≤ T187.heap.size := Nat.le_trans Zs185 Kq187.1
      show Go p e below _ (T187.setTop (mkF m 270 #[.val (.int p1), .val (.int p2), .val (.int p3), .val (.int c1), .val (.int c2), .val (.int (0 : Int32)), .val (.int (1 : Int32)), .val (.ref b_155), .val (.ref b_157), .val (.ref oe), .val (.int ((0 : Int32) + (2 : Int32))), .val (.ref om), .val (.ref b_169), .val (.ref b_174), .val (.ref b_180), .unset] [(.ref b_187)]))
      refine g_astore X187 hx (hb hby at_270) 272 rfl rfl #[.val (.int p1), .val (.int p2), .val (.int p3), .val (.int c1), .val (.int c2), .val (.int (0 : Int32)), .val (.int (1 : Int32)), .val (.ref b_155), .val (.ref b_157), .val (.ref oe), .val (.int ((0 : Int32) + (2 : Int32))), .val (.ref om), .val (.ref b_169), .val (.ref b_174), .val (.ref b_180), .val (.ref b_187)] rfl ?_
      refine g_aload X187 hx (hb hby at_272) 274 rfl (v := (.ref b_169)) rfl rfl ?_
      refine g_alen X187 hx (hb hby at_274) 275 rfl hZ rfl A_b_169_188 ?_
      refine g_if_ne X187 hx (hb hby at_275) 303 278 (by decide) (by decide) rfl (fun hc275 => False.elim (hc275 rfl)) (fun hc275 => ?_)
      refine g_aload X187 hx (hb hby at_278) 280 rfl (v := (.ref b_187)) rfl rfl ?_
      refine g_aload X187 hx (hb hby at_280) 282 rfl (v := (.ref b_180)) rfl rfl ?_
      refine g_acmp_eq X187 hx (hb hby at_282) 303 285 (by decide) (by decide) rfl rfl rfl (fun hc282 => False.elim ((Ne.symm ne_b_180_b_187) (Value.ref.inj hc282))) (fun hc282 => ?_)
      refine g_aload X187 hx (hb hby at_285) 287 rfl (v := (.ref b_187)) rfl rfl ?_
      refine g_aload X187 hx (hb hby at_287) 289 rfl (v := (.ref oe)) rfl rfl ?_
      refine g_iload X187 hx (hb hby at_289) 291 rfl (v := ((0 : Int32) + (2 : Int32))) rfl ?_
      refine g_iconst X187 hx (hb hby at_291) 292 rfl (1 : Int32) rfl ?_
      refine g_iadd X187 hx (hb hby at_292) 293 rfl (((0 : Int32) + (2 : Int32)) + (1 : Int32)) rfl ?_
      obtain ⟨_, _, ⟨T190, L190, k190, n190⟩, -, X190, ⟨Lc190, hQ190, l190, y190, z190⟩, st190⟩ := Jvm.LawKit.callS X187 hx (y := (⟨"com/example/anagrafe/anagrafe/atom/MarkupToByteArrayPinLaw", "same", "([B[BI)Z"⟩ : MethodName)) hown (mvT hZ (hw _ (List.mem_of_getElem? (i := 63) rfl))) (mvT hZ (hw _ (List.mem_of_getElem? (i := 64) rfl))) (mvT hZ (hw _ (List.mem_of_getElem? (i := 65) rfl))) (mvT hZ (hw _ (List.mem_of_getElem? (i := 66) rfl))) (by decide) (backOf (W := 0) (rmsame l Z a0 hw [] b_187 oe (((0 : Int32) + (2 : Int32)) + (1 : Int32)) kq_187 cA159 ((0 + 2) + 1) ((([] ++ [(.int (47 : Int32))]) ++ [(.int (62 : Int32))]) ++ [(.int (62 : Int32))]) ([(.int (47 : Int32)), (.int (62 : Int32)), (.int (62 : Int32)), (.int (0 : Int32)), (.int (0 : Int32)), (.int (0 : Int32)), (.int (0 : Int32)), (.int (0 : Int32))]) T187.heap n0 Zs187 f187_1 A_oe_188 (by decide) (by decide) (fun i hi => match i, hi with | 0, _ => ⟨_, rfl, rfl⟩ | 1, _ => ⟨_, rfl, rfl⟩ | 2, _ => ⟨_, rfl, rfl⟩ | n + 3, h => absurd h (by omega))) hZ (hw _ (List.mem_of_getElem? (i := 66) rfl)) (hw _ (List.mem_of_getElem? (i := 65) rfl)) (by decide) (by decide)) (g := (mkF m 293 #[.val (.int p1), .val (.int p2), .val (.int p3), .val (.int c1), .val (.int c2), .val (.int (0 : Int32)), .val (.int (1 : Int32)), .val (.ref b_155), .val (.ref b_157), .val (.ref oe), .val (.int ((0 : Int32) + (2 : Int32))), .val (.ref om), .val (.ref b_169), .val (.ref b_174), .val (.ref b_180), .val (.ref b_187)] [(.int (((0 : Int32) + (2 : Int32)) + (1 : Int32))), (.ref oe), (.ref b_187)])) rfl (by rw [hml]; rfl) (argsL := [(.ref b_187), (.ref oe), (.int (((0 : Int32) + (2 : Int32)) + (1 : Int32)))]) (rest := []) (lenOf own_pd17 rfl) rfl (by show 2 * 0 + _ ≤ _; exact Nat.le_of_eq rfl) (hb hby at_293) (fun _ _ => ⟨rfl, rfl, (by decide : 11 + 0 ≤ _), (by decide : 16436 + 0 ≤ _)⟩)
      dsimp only [Pt.U, Pt.locs, Pt.cells, Pt.slots] at X190 l190 y190 z190 st190 hQ190
      subst l190 y190 z190
      obtain ⟨rfl, Nq190, e190⟩ := hQ190
      refine Go.st st190 ?_
      have N190 := Fr.app N187 Nq190
      show Go p e below _ (T190.setTop (mkF m 296 #[.val (.int p1), .val (.int p2), .val (.int p3), .val (.int c1), .val (.int c2), .val (.int (0 : Int32)), .val (.int (1 : Int32)), .val (.ref b_155), .val (.ref b_157), .val (.ref oe), .val (.int ((0 : Int32) + (2 : Int32))), .val (.ref om), .val (.ref b_169), .val (.ref b_174), .val (.ref b_180), .val (.ref b_187)] [(.int (1 : Int32))]))
      refine g_if_eq X190 hx (hb hby at_296) 303 299 (by decide) (by decide) rfl (fun hc296 => False.elim (absurd hc296 (by decide))) (fun hc296 => ?_)
      refine g_iconst X190 hx (hb hby at_299) 300 rfl (1 : Int32) rfl ?_
      refine g_goto X190 hx (hb hby at_300) 304 (by decide) (by decide) ?_
      refine Go.retN X190 hx hlk (t := .boolean) Bd.returns (by simp) (hb hby at_304) (by decide) (by decide) ?_
      exact ⟨rfl, N190⟩
  · refine g_iconst X0 hx (hb hby at_19) 20 rfl (1 : Int32) rfl ?_
    refine g_goto X0 hx (hb hby at_20) 24 (by decide) (by decide) ?_
    refine g_istore X0 hx (hb hby at_24) 26 rfl #[.val (.int p1), .val (.int p2), .val (.int p3), .val (.int c1), .val (.int c2), .val (.int (1 : Int32)), .unset, .unset, .unset, .unset, .unset, .unset, .unset, .unset, .unset, .unset] rfl ?_
    refine g_iloadN X0 hx (hb hby at_26) 27 rfl (v := p1) rfl ?_
    refine g_iconst X0 hx (hb hby at_27) 28 rfl (2 : Int32) rfl ?_
    refine g_iand X0 hx (hb hby at_28) 29 rfl (p1 &&& (2 : Int32)) rfl ?_
    refine g_if_eq X0 hx (hb hby at_29) 36 32 (by decide) (by decide) rfl (fun hc29 => ?_) (fun hc29 => ?_)
    · refine g_iconst X0 hx (hb hby at_36) 37 rfl (0 : Int32) rfl ?_
      refine g_istore X0 hx (hb hby at_37) 39 rfl #[.val (.int p1), .val (.int p2), .val (.int p3), .val (.int c1), .val (.int c2), .val (.int (1 : Int32)), .val (.int (0 : Int32)), .unset, .unset, .unset, .unset, .unset, .unset, .unset, .unset, .unset] rfl ?_
      refine g_iloadN X0 hx (hb hby at_39) 40 rfl (v := c1) rfl ?_
      obtain ⟨_, _, ⟨T191, L191, k191, n191⟩, -, X191, ⟨Lc191, hQ191, l191, y191, z191⟩, st191⟩ := Jvm.LawKit.callS X0 hx (y := (⟨"java/lang/String", "valueOf", "(C)Ljava/lang/String;"⟩ : MethodName)) hown (mvT hZ (hw _ (List.mem_of_getElem? (i := 0) rfl))) (mvT hZ (hw _ (List.mem_of_getElem? (i := 1) rfl))) (mvT hZ (hw _ (List.mem_of_getElem? (i := 2) rfl))) (mvT hZ (hw _ (List.mem_of_getElem? (i := 3) rfl))) (by decide) (backOf (W := 0) (rm1 l Z a0 hw [] c1 s_COMPACT_STRINGS h0 n0 Z0 S_COMPACT_STRINGS hz_s_COMPACT_STRINGS (e_c1 ▸ own_ch7 p2)) hZ (hw _ (List.mem_of_getElem? (i := 3) rfl)) (hw _ (List.mem_of_getElem? (i := 2) rfl)) (by decide) (by decide)) (g := (mkF m 40 #[.val (.int p1), .val (.int p2), .val (.int p3), .val (.int c1), .val (.int c2), .val (.int (1 : Int32)), .val (.int (0 : Int32)), .unset, .unset, .unset, .unset, .unset, .unset, .unset, .unset, .unset] [(.int c1)])) rfl (by rw [hml]; rfl) (argsL := [(.int c1)]) (rest := []) (lenOf own_pd14 rfl) rfl (by show 2 * 0 + _ ≤ _; exact Nat.le_of_eq rfl) (hb hby at_40) (fun _ _ => ⟨rfl, e0, (by decide : 0 + 2 ≤ _), (by decide : 0 + 5 ≤ _)⟩)
      dsimp only [Pt.U, Pt.locs, Pt.cells, Pt.slots] at X191 l191 y191 z191 st191 hQ191
      subst l191 y191 z191
      obtain ⟨b_191, vb_191, kb_191, rfl, Nq191, Kq191, f191_0, f191_1, f191_2, f191_3, f191_4, f191_5, f191_6⟩ := hQ191
      refine Go.st st191 ?_
      have N191 := Fr.app N0 Nq191
      have g_b_191 : n0 ≤ b_191 := Nat.le_trans Z0 f191_0
      have mh_b_191 : h0.size ≤ b_191 := Nat.le_trans K0.1 f191_0
      have g_vb_191 : n0 ≤ vb_191 := Nat.le_trans Z0 f191_1
      have mh_vb_191 : h0.size ≤ vb_191 := Nat.le_trans K0.1 f191_1
      have K191 : Keep h0 T191.heap [] := Keep.trans K0 Kq191 all0
      have Zs191 : n0 ≤ T191.heap.size := Nat.le_trans Z0 Kq191.1
      show Go p e below _ (T191.setTop (mkF m 43 #[.val (.int p1), .val (.int p2), .val (.int p3), .val (.int c1), .val (.int c2), .val (.int (1 : Int32)), .val (.int (0 : Int32)), .unset, .unset, .unset, .unset, .unset, .unset, .unset, .unset, .unset] [(.ref b_191)]))
      refine g_astore X191 hx (hb hby at_43) 45 rfl rfl #[.val (.int p1), .val (.int p2), .val (.int p3), .val (.int c1), .val (.int c2), .val (.int (1 : Int32)), .val (.int (0 : Int32)), .val (.ref b_191), .unset, .unset, .unset, .unset, .unset, .unset, .unset, .unset] rfl ?_
      refine g_iload X191 hx (hb hby at_45) 47 rfl (v := c2) rfl ?_
      obtain ⟨_, _, ⟨T193, L193, k193, n193⟩, -, X193, ⟨Lc193, hQ193, l193, y193, z193⟩, st193⟩ := Jvm.LawKit.callS X191 hx (y := (⟨"java/lang/String", "valueOf", "(C)Ljava/lang/String;"⟩ : MethodName)) hown (mvT hZ (hw _ (List.mem_of_getElem? (i := 0) rfl))) (mvT hZ (hw _ (List.mem_of_getElem? (i := 1) rfl))) (mvT hZ (hw _ (List.mem_of_getElem? (i := 2) rfl))) (mvT hZ (hw _ (List.mem_of_getElem? (i := 3) rfl))) (by decide) (backOf (W := 0) (rm1 l Z a0 hw [] c2 s_COMPACT_STRINGS T191.heap n0 Zs191 (own_Sta_keep S_COMPACT_STRINGS K191 all0) hz_s_COMPACT_STRINGS (e_c2 ▸ own_ch7 p3)) hZ (hw _ (List.mem_of_getElem? (i := 3) rfl)) (hw _ (List.mem_of_getElem? (i := 2) rfl)) (by decide) (by decide)) (g := (mkF m 47 #[.val (.int p1), .val (.int p2), .val (.int p3), .val (.int c1), .val (.int c2), .val (.int (1 : Int32)), .val (.int (0 : Int32)), .val (.ref b_191), .unset, .unset, .unset, .unset, .unset, .unset, .unset, .unset] [(.int c2)])) rfl (by rw [hml]; rfl) (argsL := [(.int c2)]) (rest := []) (lenOf own_pd14 rfl) rfl (by show 2 * 0 + _ ≤ _; exact Nat.le_of_eq rfl) (hb hby at_47) (fun _ _ => ⟨rfl, rfl, (by decide : 2 + 2 ≤ _), (by decide : 5 + 5 ≤ _)⟩)
      dsimp only [Pt.U, Pt.locs, Pt.cells, Pt.slots] at X193 l193 y193 z193 st193 hQ193
      subst l193 y193 z193
      obtain ⟨b_193, vb_193, kb_193, rfl, Nq193, Kq193, f193_0, f193_1, f193_2, f193_3, f193_4, f193_5, f193_6⟩ := hQ193
      refine Go.st st193 ?_
      have N193 := Fr.app N191 Nq193
      have E_b_191_194 : Exa Z T193.heap b_191 "java/lang/String" := Exa.keep f191_3 Kq193
      have F_value_b_191_194 : Fld Z T193.heap b_191 "java/lang/String" "value" "[B" (.ref vb_191) := Fld.keep f191_4 Kq193 nin0
      have F_coder_b_191_194 : Fld Z T193.heap b_191 "java/lang/String" "coder" "B" (.int (0 : Int32)) := Fld.keep f191_5 Kq193 nin0
      have A_vb_191_194 : Arv Z T193.heap vb_191 kb_191 .byte (1 : Int32) ([(.int c1.toInt8.toInt32)]) (.int (0 : Int32)) := Arv.keep f191_6 Kq193 nin0
      have ne_b_191_b_193 : b_191 ≠ b_193 := Nat.ne_of_lt (Nat.lt_of_lt_of_le f191_3.lt f193_0)
      have ne_vb_191_b_193 : vb_191 ≠ b_193 := Nat.ne_of_lt (Nat.lt_of_lt_of_le f191_6.lt f193_0)
      have g_b_193 : n0 ≤ b_193 := Nat.le_trans Zs191 f193_0
      have mh_b_193 : h0.size ≤ b_193 := Nat.le_trans K191.1 f193_0
      have ne_b_191_vb_193 : b_191 ≠ vb_193 := Nat.ne_of_lt (Nat.lt_of_lt_of_le f191_3.lt f193_1)
      have ne_vb_191_vb_193 : vb_191 ≠ vb_193 := Nat.ne_of_lt (Nat.lt_of_lt_of_le f191_6.lt f193_1)
      have g_vb_193 : n0 ≤ vb_193 := Nat.le_trans Zs191 f193_1
      have mh_vb_193 : h0.size ≤ vb_193 := Nat.le_trans K191.1 f193_1
      have K193 : Keep h0 T193.heap [] := Keep.trans K191 Kq193 all0
      have Zs193 : n0 ≤ T193.heap.size := Nat.le_trans Zs191 Kq193.1
      show Go p e below _ (T193.setTop (mkF m 50 #[.val (.int p1), .val (.int p2), .val (.int p3), .val (.int c1), .val (.int c2), .val (.int (1 : Int32)), .val (.int (0 : Int32)), .val (.ref b_191), .unset, .unset, .unset, .unset, .unset, .unset, .unset, .unset] [(.ref b_193)]))
      refine g_astore X193 hx (hb hby at_50) 52 rfl rfl #[.val (.int p1), .val (.int p2), .val (.int p3), .val (.int c1), .val (.int c2), .val (.int (1 : Int32)), .val (.int (0 : Int32)), .val (.ref b_191), .val (.ref b_193), .unset, .unset, .unset, .unset, .unset, .unset, .unset] rfl ?_
      refine g_bipush X193 hx (hb hby at_52) 54 rfl (8 : Int32) rfl ?_
      obtain ⟨T195, h195, cA195, X195, e195, E195, A195, st195⟩ := newP X193 hx hZ (aty := .byte) (hw _ (List.mem_of_getElem? (i := 14) rfl)) rfl (g := (mkF m 54 #[.val (.int p1), .val (.int p2), .val (.int p3), .val (.int c1), .val (.int c2), .val (.int (1 : Int32)), .val (.int (0 : Int32)), .val (.ref b_191), .val (.ref b_193), .unset, .unset, .unset, .unset, .unset, .unset, .unset] [(.int (8 : Int32))])) rfl (hb hby at_54) rfl (by decide) (cap := 8) (by decide) (by decide) (by decide) (by decide)
      refine Go.st st195 ?_
      obtain ⟨oe, q195⟩ : ∃ z, z = T193.heap.size := ⟨_, rfl⟩
      rw [← q195] at A195 ⊢
      have ne_b_191_oe : b_191 ≠ oe := Nat.ne_of_lt (Nat.lt_of_lt_of_eq E_b_191_194.lt q195.symm)
      have ne_vb_191_oe : vb_191 ≠ oe := Nat.ne_of_lt (Nat.lt_of_lt_of_eq A_vb_191_194.lt q195.symm)
      have ne_b_193_oe : b_193 ≠ oe := Nat.ne_of_lt (Nat.lt_of_lt_of_eq f193_3.lt q195.symm)
      have ne_vb_193_oe : vb_193 ≠ oe := Nat.ne_of_lt (Nat.lt_of_lt_of_eq f193_6.lt q195.symm)
      have g_oe : n0 ≤ oe := Nat.le_trans Zs193 (Nat.le_of_eq q195.symm)
      have mh_oe : h0.size ≤ oe := Nat.le_trans K193.1 (Nat.le_of_eq q195.symm)
      have E_b_191_196 : Exa Z h195 b_191 "java/lang/String" := Exa.ext E195 E_b_191_194
      have F_value_b_191_196 : Fld Z h195 b_191 "java/lang/String" "value" "[B" (.ref vb_191) := Fld.ext E195 F_value_b_191_194
      have F_coder_b_191_196 : Fld Z h195 b_191 "java/lang/String" "coder" "B" (.int (0 : Int32)) := Fld.ext E195 F_coder_b_191_194
      have A_vb_191_196 : Arv Z h195 vb_191 kb_191 .byte (1 : Int32) ([(.int c1.toInt8.toInt32)]) (.int (0 : Int32)) := Arv.ext A_vb_191_194 E195
      have E_b_193_196 : Exa Z h195 b_193 "java/lang/String" := Exa.ext E195 f193_3
      have F_value_b_193_196 : Fld Z h195 b_193 "java/lang/String" "value" "[B" (.ref vb_193) := Fld.ext E195 f193_4
      have F_coder_b_193_196 : Fld Z h195 b_193 "java/lang/String" "coder" "B" (.int (0 : Int32)) := Fld.ext E195 f193_5
      have A_vb_193_196 : Arv Z h195 vb_193 kb_193 .byte (1 : Int32) ([(.int c2.toInt8.toInt32)]) (.int (0 : Int32)) := Arv.ext f193_6 E195
      have K195 : Keep h0 h195 [] := Keep.ext K193 E195
      have Zs195 : n0 ≤ h195.size := Nat.le_trans Zs193 E195.1
      have Av_oe : Arv Z h195 oe cA195 .byte (8 : Int32) ([(.int (0 : Int32)), (.int (0 : Int32)), (.int (0 : Int32)), (.int (0 : Int32)), (.int (0 : Int32)), (.int (0 : Int32)), (.int (0 : Int32)), (.int (0 : Int32))]) (.int (0 : Int32)) := Arv.pad (Arv.new A195 (by decide)) (pad_rep [] (.int (0 : Int32)) 8)
      show Go p e below _ (T195.setTop (mkF m 56 #[.val (.int p1), .val (.int p2), .val (.int p3), .val (.int c1), .val (.int c2), .val (.int (1 : Int32)), .val (.int (0 : Int32)), .val (.ref b_191), .val (.ref b_193), .unset, .unset, .unset, .unset, .unset, .unset, .unset] [(.ref oe)]))
      refine g_astore X195 hx (hb hby at_56) 58 rfl rfl #[.val (.int p1), .val (.int p2), .val (.int p3), .val (.int c1), .val (.int c2), .val (.int (1 : Int32)), .val (.int (0 : Int32)), .val (.ref b_191), .val (.ref b_193), .val (.ref oe), .unset, .unset, .unset, .unset, .unset, .unset] rfl ?_
      refine g_iconst X195 hx (hb hby at_58) 59 rfl (0 : Int32) rfl ?_
      refine g_istore X195 hx (hb hby at_59) 61 rfl #[.val (.int p1), .val (.int p2), .val (.int p3), .val (.int c1), .val (.int c2), .val (.int (1 : Int32)), .val (.int (0 : Int32)), .val (.ref b_191), .val (.ref b_193), .val (.ref oe), .val (.int (0 : Int32)), .unset, .unset, .unset, .unset, .unset] rfl ?_
      refine g_iload X195 hx (hb hby at_61) 63 rfl (v := (1 : Int32)) rfl ?_
      refine g_if_eq X195 hx (hb hby at_63) 94 66 (by decide) (by decide) rfl (fun hc63 => False.elim (absurd hc63 (by decide))) (fun hc63 => ?_)
      refine g_aload X195 hx (hb hby at_66) 68 rfl (v := (.ref oe)) rfl rfl ?_
      refine g_iconst X195 hx (hb hby at_68) 69 rfl (0 : Int32) rfl ?_
      refine g_bipush X195 hx (hb hby at_69) 71 rfl (60 : Int32) rfl ?_
      obtain ⟨T197, h197, X197, e197, W197, B197, st197⟩ := g_bastore X195 hx (hb hby at_71) hZ e195 Av_oe (show ¬ (0 : Int32) < 0 ∧ (0 : Int32) < (8 : Int32) from by decide) (i := 0) (by decide) (by simp)  (L := #[.val (.int p1), .val (.int p2), .val (.int p3), .val (.int c1), .val (.int c2), .val (.int (1 : Int32)), .val (.int (0 : Int32)), .val (.ref b_191), .val (.ref b_193), .val (.ref oe), .val (.int (0 : Int32)), .unset, .unset, .unset, .unset, .unset]) (S := [])
      refine Go.st st197 ?_
      have E_b_191_198 : Exa Z h197 b_191 "java/lang/String" := Exa.wr W197 E_b_191_196
      have F_value_b_191_198 : Fld Z h197 b_191 "java/lang/String" "value" "[B" (.ref vb_191) := Fld.other W197 F_value_b_191_196 (Or.inl ne_b_191_oe)
      have F_coder_b_191_198 : Fld Z h197 b_191 "java/lang/String" "coder" "B" (.int (0 : Int32)) := Fld.other W197 F_coder_b_191_196 (Or.inl ne_b_191_oe)
      have A_vb_191_198 : Arv Z h197 vb_191 kb_191 .byte (1 : Int32) ([(.int c1.toInt8.toInt32)]) (.int (0 : Int32)) := Arv.other A_vb_191_196 W197 ne_vb_191_oe
      have E_b_193_198 : Exa Z h197 b_193 "java/lang/String" := Exa.wr W197 E_b_193_196
      have F_value_b_193_198 : Fld Z h197 b_193 "java/lang/String" "value" "[B" (.ref vb_193) := Fld.other W197 F_value_b_193_196 (Or.inl ne_b_193_oe)
      have F_coder_b_193_198 : Fld Z h197 b_193 "java/lang/String" "coder" "B" (.int (0 : Int32)) := Fld.other W197 F_coder_b_193_196 (Or.inl ne_b_193_oe)
      have A_vb_193_198 : Arv Z h197 vb_193 kb_193 .byte (1 : Int32) ([(.int c2.toInt8.toInt32)]) (.int (0 : Int32)) := Arv.other A_vb_193_196 W197 ne_vb_193_oe
      have Av_oe_197 : Arv Z h197 oe cA195 .byte (8 : Int32) ([(.int (60 : Int32)), (.int (0 : Int32)), (.int (0 : Int32)), (.int (0 : Int32)), (.int (0 : Int32)), (.int (0 : Int32)), (.int (0 : Int32)), (.int (0 : Int32))]) (.int (0 : Int32)) := B197
      have K197 : Keep h0 h197 [] := Keep.wr K195 W197 (Or.inr mh_oe)
      have N197 := Fr.snoc X197 N193 g_oe
      have Zs197 : n0 ≤ h197.size := by rw [W197.size]; exact Zs195
      show Go p e below _ (T197.setTop (mkF m 72 #[.val (.int p1), .val (.int p2), .val (.int p3), .val (.int c1), .val (.int c2), .val (.int (1 : Int32)), .val (.int (0 : Int32)), .val (.ref b_191), .val (.ref b_193), .val (.ref oe), .val (.int (0 : Int32)), .unset, .unset, .unset, .unset, .unset] []))
      refine g_aload X197 hx (hb hby at_72) 74 rfl (v := (.ref oe)) rfl rfl ?_
      refine g_iconst X197 hx (hb hby at_74) 75 rfl (1 : Int32) rfl ?_
      refine g_iloadN X197 hx (hb hby at_75) 76 rfl (v := c1) rfl ?_
      refine g_i2b X197 hx (hb hby at_76) 77 rfl c1.toInt8.toInt32 rfl ?_
      obtain ⟨T199, h199, X199, e199, W199, B199, st199⟩ := g_bastore X197 hx (hb hby at_77) hZ e197 Av_oe_197 (show ¬ (1 : Int32) < 0 ∧ (1 : Int32) < (8 : Int32) from by decide) (i := 1) (by decide) (by simp)  (L := #[.val (.int p1), .val (.int p2), .val (.int p3), .val (.int c1), .val (.int c2), .val (.int (1 : Int32)), .val (.int (0 : Int32)), .val (.ref b_191), .val (.ref b_193), .val (.ref oe), .val (.int (0 : Int32)), .unset, .unset, .unset, .unset, .unset]) (S := [])
      refine Go.st st199 ?_
      have E_b_191_200 : Exa Z h199 b_191 "java/lang/String" := Exa.wr W199 E_b_191_198
      have F_value_b_191_200 : Fld Z h199 b_191 "java/lang/String" "value" "[B" (.ref vb_191) := Fld.other W199 F_value_b_191_198 (Or.inl ne_b_191_oe)
      have F_coder_b_191_200 : Fld Z h199 b_191 "java/lang/String" "coder" "B" (.int (0 : Int32)) := Fld.other W199 F_coder_b_191_198 (Or.inl ne_b_191_oe)
      have A_vb_191_200 : Arv Z h199 vb_191 kb_191 .byte (1 : Int32) ([(.int c1.toInt8.toInt32)]) (.int (0 : Int32)) := Arv.other A_vb_191_198 W199 ne_vb_191_oe
      have E_b_193_200 : Exa Z h199 b_193 "java/lang/String" := Exa.wr W199 E_b_193_198
      have F_value_b_193_200 : Fld Z h199 b_193 "java/lang/String" "value" "[B" (.ref vb_193) := Fld.other W199 F_value_b_193_198 (Or.inl ne_b_193_oe)
      have F_coder_b_193_200 : Fld Z h199 b_193 "java/lang/String" "coder" "B" (.int (0 : Int32)) := Fld.other W199 F_coder_b_193_198 (Or.inl ne_b_193_oe)
      have A_vb_193_200 : Arv Z h199 vb_193 kb_193 .byte (1 : Int32) ([(.int c2.toInt8.toInt32)]) (.int (0 : Int32)) := Arv.other A_vb_193_198 W199 ne_vb_193_oe
      have Av_oe_199 : Arv Z h199 oe cA195 .byte (8 : Int32) ([(.int (60 : Int32)), (.int c1.toInt8.toInt32), (.int (0 : Int32)), (.int (0 : Int32)), (.int (0 : Int32)), (.int (0 : Int32)), (.int (0 : Int32)), (.int (0 : Int32))]) (.int (0 : Int32)) := (by have q := B199; rw [own_i2b] at q; exact q)
      have K199 : Keep h0 h199 [] := Keep.wr K197 W199 (Or.inr mh_oe)
      have N199 := Fr.snoc X199 N197 g_oe
      have Zs199 : n0 ≤ h199.size := by rw [W199.size]; exact Zs197
      show Go p e below _ (T199.setTop (mkF m 78 #[.val (.int p1), .val (.int p2), .val (.int p3), .val (.int c1), .val (.int c2), .val (.int (1 : Int32)), .val (.int (0 : Int32)), .val (.ref b_191), .val (.ref b_193), .val (.ref oe), .val (.int (0 : Int32)), .unset, .unset, .unset, .unset, .unset] []))
      refine g_aload X199 hx (hb hby at_78) 80 rfl (v := (.ref oe)) rfl rfl ?_
      refine g_iconst X199 hx (hb hby at_80) 81 rfl (2 : Int32) rfl ?_
      refine g_bipush X199 hx (hb hby at_81) 83 rfl (58 : Int32) rfl ?_
      obtain ⟨T201, h201, X201, e201, W201, B201, st201⟩ := g_bastore X199 hx (hb hby at_83) hZ e199 Av_oe_199 (show ¬ (2 : Int32) < 0 ∧ (2 : Int32) < (8 : Int32) from by decide) (i := 2) (by decide) (by simp)  (L := #[.val (.int p1), .val (.int p2), .val (.int p3), .val (.int c1), .val (.int c2), .val (.int (1 : Int32)), .val (.int (0 : Int32)), .val (.ref b_191), .val (.ref b_193), .val (.ref oe), .val (.int (0 : Int32)), .unset, .unset, .unset, .unset, .unset]) (S := [])
      refine Go.st st201 ?_
      have E_b_191_202 : Exa Z h201 b_191 "java/lang/String" := Exa.wr W201 E_b_191_200
      have F_value_b_191_202 : Fld Z h201 b_191 "java/lang/String" "value" "[B" (.ref vb_191) := Fld.other W201 F_value_b_191_200 (Or.inl ne_b_191_oe)
      have F_coder_b_191_202 : Fld Z h201 b_191 "java/lang/String" "coder" "B" (.int (0 : Int32)) := Fld.other W201 F_coder_b_191_200 (Or.inl ne_b_191_oe)
      have A_vb_191_202 : Arv Z h201 vb_191 kb_191 .byte (1 : Int32) ([(.int c1.toInt8.toInt32)]) (.int (0 : Int32)) := Arv.other A_vb_191_200 W201 ne_vb_191_oe
      have E_b_193_202 : Exa Z h201 b_193 "java/lang/String" := Exa.wr W201 E_b_193_200
      have F_value_b_193_202 : Fld Z h201 b_193 "java/lang/String" "value" "[B" (.ref vb_193) := Fld.other W201 F_value_b_193_200 (Or.inl ne_b_193_oe)
      have F_coder_b_193_202 : Fld Z h201 b_193 "java/lang/String" "coder" "B" (.int (0 : Int32)) := Fld.other W201 F_coder_b_193_200 (Or.inl ne_b_193_oe)
      have A_vb_193_202 : Arv Z h201 vb_193 kb_193 .byte (1 : Int32) ([(.int c2.toInt8.toInt32)]) (.int (0 : Int32)) := Arv.other A_vb_193_200 W201 ne_vb_193_oe
      have Av_oe_201 : Arv Z h201 oe cA195 .byte (8 : Int32) ([(.int (60 : Int32)), (.int c1.toInt8.toInt32), (.int (58 : Int32)), (.int (0 : Int32)), (.int (0 : Int32)), (.int (0 : Int32)), (.int (0 : Int32)), (.int (0 : Int32))]) (.int (0 : Int32)) := B201
      have K201 : Keep h0 h201 [] := Keep.wr K199 W201 (Or.inr mh_oe)
      have N201 := Fr.snoc X201 N199 g_oe
      have Zs201 : n0 ≤ h201.size := by rw [W201.size]; exact Zs199
      show Go p e below _ (T201.setTop (mkF m 84 #[.val (.int p1), .val (.int p2), .val (.int p3), .val (.int c1), .val (.int c2), .val (.int (1 : Int32)), .val (.int (0 : Int32)), .val (.ref b_191), .val (.ref b_193), .val (.ref oe), .val (.int (0 : Int32)), .unset, .unset, .unset, .unset, .unset] []))
      refine g_aload X201 hx (hb hby at_84) 86 rfl (v := (.ref oe)) rfl rfl ?_
      refine g_iconst X201 hx (hb hby at_86) 87 rfl (3 : Int32) rfl ?_
      refine g_iload X201 hx (hb hby at_87) 89 rfl (v := c2) rfl ?_
      refine g_i2b X201 hx (hb hby at_89) 90 rfl c2.toInt8.toInt32 rfl ?_
      obtain ⟨T203, h203, X203, e203, W203, B203, st203⟩ := g_bastore X201 hx (hb hby at_90) hZ e201 Av_oe_201 (show ¬ (3 : Int32) < 0 ∧ (3 : Int32) < (8 : Int32) from by decide) (i := 3) (by decide) (by simp)  (L := #[.val (.int p1), .val (.int p2), .val (.int p3), .val (.int c1), .val (.int c2), .val (.int (1 : Int32)), .val (.int (0 : Int32)), .val (.ref b_191), .val (.ref b_193), .val (.ref oe), .val (.int (0 : Int32)), .unset, .unset, .unset, .unset, .unset]) (S := [])
      refine Go.st st203 ?_
      have E_b_191_204 : Exa Z h203 b_191 "java/lang/String" := Exa.wr W203 E_b_191_202
      have F_value_b_191_204 : Fld Z h203 b_191 "java/lang/String" "value" "[B" (.ref vb_191) := Fld.other W203 F_value_b_191_202 (Or.inl ne_b_191_oe)
      have F_coder_b_191_204 : Fld Z h203 b_191 "java/lang/String" "coder" "B" (.int (0 : Int32)) := Fld.other W203 F_coder_b_191_202 (Or.inl ne_b_191_oe)
      have A_vb_191_204 : Arv Z h203 vb_191 kb_191 .byte (1 : Int32) ([(.int c1.toInt8.toInt32)]) (.int (0 : Int32)) := Arv.other A_vb_191_202 W203 ne_vb_191_oe
      have E_b_193_204 : Exa Z h203 b_193 "java/lang/String" := Exa.wr W203 E_b_193_202
      have F_value_b_193_204 : Fld Z h203 b_193 "java/lang/String" "value" "[B" (.ref vb_193) := Fld.other W203 F_value_b_193_202 (Or.inl ne_b_193_oe)
      have F_coder_b_193_204 : Fld Z h203 b_193 "java/lang/String" "coder" "B" (.int (0 : Int32)) := Fld.other W203 F_coder_b_193_202 (Or.inl ne_b_193_oe)
      have A_vb_193_204 : Arv Z h203 vb_193 kb_193 .byte (1 : Int32) ([(.int c2.toInt8.toInt32)]) (.int (0 : Int32)) := Arv.other A_vb_193_202 W203 ne_vb_193_oe
      have Av_oe_203 : Arv Z h203 oe cA195 .byte (8 : Int32) ([(.int (60 : Int32)), (.int c1.toInt8.toInt32), (.int (58 : Int32)), (.int c2.toInt8.toInt32), (.int (0 : Int32)), (.int (0 : Int32)), (.int (0 : Int32)), (.int (0 : Int32))]) (.int (0 : Int32)) := (by have q := B203; rw [own_i2b] at q; exact q)
      have K203 : Keep h0 h203 [] := Keep.wr K201 W203 (Or.inr mh_oe)
      have N203 := Fr.snoc X203 N201 g_oe
      have Zs203 : n0 ≤ h203.size := by rw [W203.size]; exact Zs201
      show Go p e below _ (T203.setTop (mkF m 91 #[.val (.int p1), .val (.int p2), .val (.int p3), .val (.int c1), .val (.int c2), .val (.int (1 : Int32)), .val (.int (0 : Int32)), .val (.ref b_191), .val (.ref b_193), .val (.ref oe), .val (.int (0 : Int32)), .unset, .unset, .unset, .unset, .unset] []))
      refine g_iconst X203 hx (hb hby at_91) 92 rfl (4 : Int32) rfl ?_
      refine g_istore X203 hx (hb hby at_92) 94 rfl #[.val (.int p1), .val (.int p2), .val (.int p3), .val (.int c1), .val (.int c2), .val (.int (1 : Int32)), .val (.int (0 : Int32)), .val (.ref b_191), .val (.ref b_193), .val (.ref oe), .val (.int (4 : Int32)), .unset, .unset, .unset, .unset, .unset] rfl ?_
      refine g_iload X203 hx (hb hby at_94) 96 rfl (v := (0 : Int32)) rfl ?_
      refine g_if_eq X203 hx (hb hby at_96) 124 99 (by decide) (by decide) rfl (fun hc96 => ?_) (fun hc96 => False.elim (absurd rfl hc96))
      refine g_aload X203 hx (hb hby at_124) 126 rfl (v := (.ref oe)) rfl rfl ?_
      refine g_iload X203 hx (hb hby at_126) 128 rfl (v := (4 : Int32)) rfl ?_
      refine g_bipush X203 hx (hb hby at_128) 130 rfl (62 : Int32) rfl ?_
      obtain ⟨T205, h205, X205, e205, W205, B205, st205⟩ := g_bastore X203 hx (hb hby at_130) hZ e203 Av_oe_203 (show ¬ (4 : Int32) < 0 ∧ (4 : Int32) < (8 : Int32) from by decide) (i := 4) (by decide) (by simp)  (L := #[.val (.int p1), .val (.int p2), .val (.int p3), .val (.int c1), .val (.int c2), .val (.int (1 : Int32)), .val (.int (0 : Int32)), .val (.ref b_191), .val (.ref b_193), .val (.ref oe), .val (.int (4 : Int32)), .unset, .unset, .unset, .unset, .unset]) (S := [])
      refine Go.st st205 ?_
      have E_b_191_206 : Exa Z h205 b_191 "java/lang/String" := Exa.wr W205 E_b_191_204
      have F_value_b_191_206 : Fld Z h205 b_191 "java/lang/String" "value" "[B" (.ref vb_191) := Fld.other W205 F_value_b_191_204 (Or.inl ne_b_191_oe)
      have F_coder_b_191_206 : Fld Z h205 b_191 "java/lang/String" "coder" "B" (.int (0 : Int32)) := Fld.other W205 F_coder_b_191_204 (Or.inl ne_b_191_oe)
      have A_vb_191_206 : Arv Z h205 vb_191 kb_191 .byte (1 : Int32) ([(.int c1.toInt8.toInt32)]) (.int (0 : Int32)) := Arv.other A_vb_191_204 W205 ne_vb_191_oe
      have E_b_193_206 : Exa Z h205 b_193 "java/lang/String" := Exa.wr W205 E_b_193_204
      have F_value_b_193_206 : Fld Z h205 b_193 "java/lang/String" "value" "[B" (.ref vb_193) := Fld.other W205 F_value_b_193_204 (Or.inl ne_b_193_oe)
      have F_coder_b_193_206 : Fld Z h205 b_193 "java/lang/String" "coder" "B" (.int (0 : Int32)) := Fld.other W205 F_coder_b_193_204 (Or.inl ne_b_193_oe)
      have A_vb_193_206 : Arv Z h205 vb_193 kb_193 .byte (1 : Int32) ([(.int c2.toInt8.toInt32)]) (.int (0 : Int32)) := Arv.other A_vb_193_204 W205 ne_vb_193_oe
      have Av_oe_205 : Arv Z h205 oe cA195 .byte (8 : Int32) ([(.int (60 : Int32)), (.int c1.toInt8.toInt32), (.int (58 : Int32)), (.int c2.toInt8.toInt32), (.int (62 : Int32)), (.int (0 : Int32)), (.int (0 : Int32)), (.int (0 : Int32))]) (.int (0 : Int32)) := B205
      have K205 : Keep h0 h205 [] := Keep.wr K203 W205 (Or.inr mh_oe)
      have N205 := Fr.snoc X205 N203 g_oe
      have Zs205 : n0 ≤ h205.size := by rw [W205.size]; exact Zs203
      show Go p e below _ (T205.setTop (mkF m 131 #[.val (.int p1), .val (.int p2), .val (.int p3), .val (.int c1), .val (.int c2), .val (.int (1 : Int32)), .val (.int (0 : Int32)), .val (.ref b_191), .val (.ref b_193), .val (.ref oe), .val (.int (4 : Int32)), .unset, .unset, .unset, .unset, .unset] []))
      refine g_iload X205 hx (hb hby at_131) 133 rfl (v := (4 : Int32)) rfl ?_
      refine g_iconst X205 hx (hb hby at_133) 134 rfl (1 : Int32) rfl ?_
      refine g_iadd X205 hx (hb hby at_134) 135 rfl ((4 : Int32) + (1 : Int32)) rfl ?_
      refine g_istore X205 hx (hb hby at_135) 137 rfl #[.val (.int p1), .val (.int p2), .val (.int p3), .val (.int c1), .val (.int c2), .val (.int (1 : Int32)), .val (.int (0 : Int32)), .val (.ref b_191), .val (.ref b_193), .val (.ref oe), .val (.int ((4 : Int32) + (1 : Int32))), .unset, .unset, .unset, .unset, .unset] rfl ?_
      obtain ⟨T207, h207, X207, e207, E207, A207, D207, -, st207⟩ := newO X205 hx hZ hown (hw _ (List.mem_of_getElem? (i := 26) rfl)) (hw _ (List.mem_of_getElem? (i := 27) rfl)) (hw _ (List.mem_of_getElem? (i := 28) rfl)) e205 (g := (mkF m 137 #[.val (.int p1), .val (.int p2), .val (.int p3), .val (.int c1), .val (.int c2), .val (.int (1 : Int32)), .val (.int (0 : Int32)), .val (.ref b_191), .val (.ref b_193), .val (.ref oe), .val (.int ((4 : Int32) + (1 : Int32))), .unset, .unset, .unset, .unset, .unset] [])) rfl (hb hby at_137) (by decide) (by decide)
      refine Go.st st207 ?_
      obtain ⟨om, q207⟩ : ∃ z, z = h205.size := ⟨_, rfl⟩
      rw [← q207] at A207 D207 ⊢
      have ne_b_191_om : b_191 ≠ om := Nat.ne_of_lt (Nat.lt_of_lt_of_eq E_b_191_206.lt q207.symm)
      have ne_vb_191_om : vb_191 ≠ om := Nat.ne_of_lt (Nat.lt_of_lt_of_eq A_vb_191_206.lt q207.symm)
      have ne_b_193_om : b_193 ≠ om := Nat.ne_of_lt (Nat.lt_of_lt_of_eq E_b_193_206.lt q207.symm)
      have ne_vb_193_om : vb_193 ≠ om := Nat.ne_of_lt (Nat.lt_of_lt_of_eq A_vb_193_206.lt q207.symm)
      have ne_oe_om : oe ≠ om := Nat.ne_of_lt (Nat.lt_of_lt_of_eq Av_oe_205.lt q207.symm)
      have g_om : n0 ≤ om := Nat.le_trans Zs205 (Nat.le_of_eq q207.symm)
      have mh_om : h0.size ≤ om := Nat.le_trans K205.1 (Nat.le_of_eq q207.symm)
      have E_b_191_208 : Exa Z h207 b_191 "java/lang/String" := Exa.ext E207 E_b_191_206
      have F_value_b_191_208 : Fld Z h207 b_191 "java/lang/String" "value" "[B" (.ref vb_191) := Fld.ext E207 F_value_b_191_206
      have F_coder_b_191_208 : Fld Z h207 b_191 "java/lang/String" "coder" "B" (.int (0 : Int32)) := Fld.ext E207 F_coder_b_191_206
      have A_vb_191_208 : Arv Z h207 vb_191 kb_191 .byte (1 : Int32) ([(.int c1.toInt8.toInt32)]) (.int (0 : Int32)) := Arv.ext A_vb_191_206 E207
      have E_b_193_208 : Exa Z h207 b_193 "java/lang/String" := Exa.ext E207 E_b_193_206
      have F_value_b_193_208 : Fld Z h207 b_193 "java/lang/String" "value" "[B" (.ref vb_193) := Fld.ext E207 F_value_b_193_206
      have F_coder_b_193_208 : Fld Z h207 b_193 "java/lang/String" "coder" "B" (.int (0 : Int32)) := Fld.ext E207 F_coder_b_193_206
      have A_vb_193_208 : Arv Z h207 vb_193 kb_193 .byte (1 : Int32) ([(.int c2.toInt8.toInt32)]) (.int (0 : Int32)) := Arv.ext A_vb_193_206 E207
      have A_oe_208 : Arv Z h207 oe cA195 .byte (8 : Int32) ([(.int (60 : Int32)), (.int c1.toInt8.toInt32), (.int (58 : Int32)), (.int c2.toInt8.toInt32), (.int (62 : Int32)), (.int (0 : Int32)), (.int (0 : Int32)), (.int (0 : Int32))]) (.int (0 : Int32)) := Arv.ext Av_oe_205 E207
      have F_bytes_207 : Fld Z h207 om "com/example/anagrafe/anagrafe/atom/Markup" "bytes" "[B" .null := D207 (Or.inl (hw _ (List.mem_of_getElem? (i := 34) rfl))) (ty := (.array .byte)) (by decide)
      have F_size_207 : Fld Z h207 om "com/example/anagrafe/anagrafe/atom/Markup" "size" "I" (.int (0 : Int32)) := D207 (Or.inl (hw _ (List.mem_of_getElem? (i := 41) rfl))) (ty := .int) (by decide)
      have K207 : Keep h0 h207 [] := Keep.ext K205 E207
      have Zs207 : n0 ≤ h207.size := Nat.le_trans Zs205 E207.1
      show Go p e below _ (T207.setTop (mkF m 140 #[.val (.int p1), .val (.int p2), .val (.int p3), .val (.int c1), .val (.int c2), .val (.int (1 : Int32)), .val (.int (0 : Int32)), .val (.ref b_191), .val (.ref b_193), .val (.ref oe), .val (.int ((4 : Int32) + (1 : Int32))), .unset, .unset, .unset, .unset, .unset] [(.ref om)]))
      refine g_dup X207 hx (hb hby at_140) 141 rfl rfl ?_
      obtain ⟨_, _, ⟨T209, L209, k209, n209⟩, -, X209, ⟨Lc209, hQ209, l209, y209, z209⟩, st209⟩ := X207.specialBack hx (y := (⟨"com/example/anagrafe/anagrafe/atom/Markup", "<init>", "()V"⟩ : MethodName)) rfl hown (mvT hZ (hw _ (List.mem_of_getElem? (i := 29) rfl))) (mvT hZ (hw _ (List.mem_of_getElem? (i := 30) rfl))) (mvT hZ (hw _ (List.mem_of_getElem? (i := 31) rfl))) (by decide) (backOf (W := 1) (rm6 l Z a0 hw [] om .null h207 n0 Zs207 A207 g_om F_bytes_207 F_size_207) hZ (hw _ (List.mem_of_getElem? (i := 31) rfl)) (hw _ (List.mem_of_getElem? (i := 28) rfl)) (by decide) (by decide)) (g := (mkF m 141 #[.val (.int p1), .val (.int p2), .val (.int p3), .val (.int c1), .val (.int c2), .val (.int (1 : Int32)), .val (.int (0 : Int32)), .val (.ref b_191), .val (.ref b_193), .val (.ref oe), .val (.int ((4 : Int32) + (1 : Int32))), .unset, .unset, .unset, .unset, .unset] [(.ref om), (.ref om)])) rfl (by rw [hml]; rfl) (Steps.refl _) (a := om) (argsL := []) (rest := [(.ref om)]) (lenOf own_pd15 rfl) rfl (by show 2 * 0 + _ ≤ _; exact Nat.le_of_eq rfl) (hb hby at_141) (fun _ _ => ⟨rfl, e207, (by decide : 6 + 1 ≤ _), (by decide : 20 + 16384 ≤ _)⟩)
      dsimp only [Pt.U, Pt.locs, Pt.cells, Pt.slots] at X209 l209 y209 z209 st209 hQ209
      subst l209 y209 z209
      obtain ⟨wq_209, kq_209, rfl, Nq209, Kq209, f209_0, f209_1, f209_2, f209_3, f209_4⟩ := hQ209
      refine Go.tr st209 ?_
      have N209 := Fr.app N205 Nq209
      have E_b_191_210 : Exa Z T209.heap b_191 "java/lang/String" := Exa.keep E_b_191_208 Kq209
      have F_value_b_191_210 : Fld Z T209.heap b_191 "java/lang/String" "value" "[B" (.ref vb_191) := Fld.keep F_value_b_191_208 Kq209 (ninS ne_b_191_om nin0)
      have F_coder_b_191_210 : Fld Z T209.heap b_191 "java/lang/String" "coder" "B" (.int (0 : Int32)) := Fld.keep F_coder_b_191_208 Kq209 (ninS ne_b_191_om nin0)
      have A_vb_191_210 : Arv Z T209.heap vb_191 kb_191 .byte (1 : Int32) ([(.int c1.toInt8.toInt32)]) (.int (0 : Int32)) := Arv.keep A_vb_191_208 Kq209 (ninS ne_vb_191_om nin0)
      have E_b_193_210 : Exa Z T209.heap b_193 "java/lang/String" := Exa.keep E_b_193_208 Kq209
      have F_value_b_193_210 : Fld Z T209.heap b_193 "java/lang/String" "value" "[B" (.ref vb_193) := Fld.keep F_value_b_193_208 Kq209 (ninS ne_b_193_om nin0)
      have F_coder_b_193_210 : Fld Z T209.heap b_193 "java/lang/String" "coder" "B" (.int (0 : Int32)) := Fld.keep F_coder_b_193_208 Kq209 (ninS ne_b_193_om nin0)
      have A_vb_193_210 : Arv Z T209.heap vb_193 kb_193 .byte (1 : Int32) ([(.int c2.toInt8.toInt32)]) (.int (0 : Int32)) := Arv.keep A_vb_193_208 Kq209 (ninS ne_vb_193_om nin0)
      have A_oe_210 : Arv Z T209.heap oe cA195 .byte (8 : Int32) ([(.int (60 : Int32)), (.int c1.toInt8.toInt32), (.int (58 : Int32)), (.int c2.toInt8.toInt32), (.int (62 : Int32)), (.int (0 : Int32)), (.int (0 : Int32)), (.int (0 : Int32))]) (.int (0 : Int32)) := Arv.keep A_oe_208 Kq209 (ninS ne_oe_om nin0)
      have E_om_210 : Exa Z T209.heap om "com/example/anagrafe/anagrafe/atom/Markup" := Exa.keep A207 Kq209
      have ne_b_191_wq_209 : b_191 ≠ wq_209 := Nat.ne_of_lt (Nat.lt_of_lt_of_le E_b_191_208.lt f209_0)
      have ne_vb_191_wq_209 : vb_191 ≠ wq_209 := Nat.ne_of_lt (Nat.lt_of_lt_of_le A_vb_191_208.lt f209_0)
      have ne_b_193_wq_209 : b_193 ≠ wq_209 := Nat.ne_of_lt (Nat.lt_of_lt_of_le E_b_193_208.lt f209_0)
      have ne_vb_193_wq_209 : vb_193 ≠ wq_209 := Nat.ne_of_lt (Nat.lt_of_lt_of_le A_vb_193_208.lt f209_0)
      have ne_oe_wq_209 : oe ≠ wq_209 := Nat.ne_of_lt (Nat.lt_of_lt_of_le A_oe_208.lt f209_0)
      have ne_om_wq_209 : om ≠ wq_209 := Nat.ne_of_lt (Nat.lt_of_lt_of_le A207.lt f209_0)
      have g_wq_209 : n0 ≤ wq_209 := Nat.le_trans Zs207 f209_0
      have mh_wq_209 : h0.size ≤ wq_209 := Nat.le_trans K207.1 f209_0
      have K209 : Keep h0 T209.heap [] := Keep.trans K207 Kq209 (allS (Or.inr mh_om) all0)
      have Zs209 : n0 ≤ T209.heap.size := Nat.le_trans Zs207 Kq209.1
      show Go p e below _ (T209.setTop (mkF m 144 #[.val (.int p1), .val (.int p2), .val (.int p3), .val (.int c1), .val (.int c2), .val (.int (1 : Int32)), .val (.int (0 : Int32)), .val (.ref b_191), .val (.ref b_193), .val (.ref oe), .val (.int ((4 : Int32) + (1 : Int32))), .unset, .unset, .unset, .unset, .unset] [(.ref om)]))
      refine g_astore X209 hx (hb hby at_144) 146 rfl rfl #[.val (.int p1), .val (.int p2), .val (.int p3), .val (.int c1), .val (.int c2), .val (.int (1 : Int32)), .val (.int (0 : Int32)), .val (.ref b_191), .val (.ref b_193), .val (.ref oe), .val (.int ((4 : Int32) + (1 : Int32))), .val (.ref om), .unset, .unset, .unset, .unset] rfl ?_
      refine g_aload X209 hx (hb hby at_146) 148 rfl (v := (.ref om)) rfl rfl ?_
      obtain ⟨cq211, kq211, q211a, q211b, q211c⟩ := isOf hZ rfl f209_1
      obtain ⟨_, _, ⟨T211, L211, k211, n211⟩, -, X211, ⟨Lc211, hQ211, l211, y211, z211⟩, st211⟩ := X209.virtualBack hx (y := (⟨"com/example/anagrafe/anagrafe/atom/Markup", "toByteArray", "()[B"⟩ : MethodName)) (z := (⟨"com/example/anagrafe/anagrafe/atom/Markup", "toByteArray", "()[B"⟩ : MethodName)) hown (mvT hZ (hw _ (List.mem_of_getElem? (i := 35) rfl))) (mvT hZ (hw _ (List.mem_of_getElem? (i := 36) rfl))) (notFace_of_selects (args := #[]) (mvT hZ (hw _ (List.mem_of_getElem? (i := 38) rfl)))) (mvT hZ (hw _ (List.mem_of_getElem? (i := 38) rfl))) (mvT hZ (hw _ (List.mem_of_getElem? (i := 37) rfl))) (by decide) (backOf (W := 0) (rm7 l Z a0 hw [] om wq_209 kq_209 0 [] T209.heap n0 Zs209 f209_1 f209_2 f209_3 f209_4 rfl (by decide)) hZ (hw _ (List.mem_of_getElem? (i := 39) rfl)) (hw _ (List.mem_of_getElem? (i := 28) rfl)) (by decide) (by decide)) q211a q211c (g := (mkF m 148 #[.val (.int p1), .val (.int p2), .val (.int p3), .val (.int c1), .val (.int c2), .val (.int (1 : Int32)), .val (.int (0 : Int32)), .val (.ref b_191), .val (.ref b_193), .val (.ref oe), .val (.int ((4 : Int32) + (1 : Int32))), .val (.ref om), .unset, .unset, .unset, .unset] [(.ref om)])) rfl (by rw [hml]; rfl) (Steps.refl _) (argsL := []) (rest := []) (lenOf own_pd16 rfl) rfl (by show 2 * 0 + _ ≤ _; exact Nat.le_of_eq rfl) (hb hby at_148) (fun _ _ => ⟨rfl, rfl, (by decide : 7 + 1 ≤ _), (by decide : 16404 + 8 ≤ _)⟩)
      dsimp only [Pt.U, Pt.locs, Pt.cells, Pt.slots] at X211 l211 y211 z211 st211 hQ211
      subst l211 y211 z211
      obtain ⟨b_211, kq_211, rfl, Nq211, Kq211, f211_0, f211_1⟩ := hQ211
      refine Go.tr st211 ?_
      have N211 := Fr.app N209 Nq211
      have E_b_191_212 : Exa Z T211.heap b_191 "java/lang/String" := Exa.keep E_b_191_210 Kq211
      have F_value_b_191_212 : Fld Z T211.heap b_191 "java/lang/String" "value" "[B" (.ref vb_191) := Fld.keep F_value_b_191_210 Kq211 nin0
      have F_coder_b_191_212 : Fld Z T211.heap b_191 "java/lang/String" "coder" "B" (.int (0 : Int32)) := Fld.keep F_coder_b_191_210 Kq211 nin0
      have A_vb_191_212 : Arv Z T211.heap vb_191 kb_191 .byte (1 : Int32) ([(.int c1.toInt8.toInt32)]) (.int (0 : Int32)) := Arv.keep A_vb_191_210 Kq211 nin0
      have E_b_193_212 : Exa Z T211.heap b_193 "java/lang/String" := Exa.keep E_b_193_210 Kq211
      have F_value_b_193_212 : Fld Z T211.heap b_193 "java/lang/String" "value" "[B" (.ref vb_193) := Fld.keep F_value_b_193_210 Kq211 nin0
      have F_coder_b_193_212 : Fld Z T211.heap b_193 "java/lang/String" "coder" "B" (.int (0 : Int32)) := Fld.keep F_coder_b_193_210 Kq211 nin0
      have A_vb_193_212 : Arv Z T211.heap vb_193 kb_193 .byte (1 : Int32) ([(.int c2.toInt8.toInt32)]) (.int (0 : Int32)) := Arv.keep A_vb_193_210 Kq211 nin0
      have A_oe_212 : Arv Z T211.heap oe cA195 .byte (8 : Int32) ([(.int (60 : Int32)), (.int c1.toInt8.toInt32), (.int (58 : Int32)), (.int c2.toInt8.toInt32), (.int (62 : Int32)), (.int (0 : Int32)), (.int (0 : Int32)), (.int (0 : Int32))]) (.int (0 : Int32)) := Arv.keep A_oe_210 Kq211 nin0
      have E_om_212 : Exa Z T211.heap om "com/example/anagrafe/anagrafe/atom/Markup" := Exa.keep f209_1 Kq211
      have F_bytes_om_212 : Fld Z T211.heap om "com/example/anagrafe/anagrafe/atom/Markup" "bytes" "[B" (.ref wq_209) := Fld.keep f209_2 Kq211 nin0
      have F_size_om_212 : Fld Z T211.heap om "com/example/anagrafe/anagrafe/atom/Markup" "size" "I" (.int (Int32.ofNat 0)) := Fld.keep f209_3 Kq211 nin0
      have A_wq_209_212 : Arv Z T211.heap wq_209 kq_209 .byte (Int32.ofNat 16384) [] (.int (0 : Int32)) := Arv.keep f209_4 Kq211 nin0
      have ne_b_191_b_211 : b_191 ≠ b_211 := Nat.ne_of_lt (Nat.lt_of_lt_of_le E_b_191_210.lt f211_0)
      have ne_vb_191_b_211 : vb_191 ≠ b_211 := Nat.ne_of_lt (Nat.lt_of_lt_of_le A_vb_191_210.lt f211_0)
      have ne_b_193_b_211 : b_193 ≠ b_211 := Nat.ne_of_lt (Nat.lt_of_lt_of_le E_b_193_210.lt f211_0)
      have ne_vb_193_b_211 : vb_193 ≠ b_211 := Nat.ne_of_lt (Nat.lt_of_lt_of_le A_vb_193_210.lt f211_0)
      have ne_oe_b_211 : oe ≠ b_211 := Nat.ne_of_lt (Nat.lt_of_lt_of_le A_oe_210.lt f211_0)
      have ne_om_b_211 : om ≠ b_211 := Nat.ne_of_lt (Nat.lt_of_lt_of_le f209_1.lt f211_0)
      have ne_wq_209_b_211 : wq_209 ≠ b_211 := Nat.ne_of_lt (Nat.lt_of_lt_of_le f209_4.lt f211_0)
      have g_b_211 : n0 ≤ b_211 := Nat.le_trans Zs209 f211_0
      have mh_b_211 : h0.size ≤ b_211 := Nat.le_trans K209.1 f211_0
      have K211 : Keep h0 T211.heap [] := Keep.trans K209 Kq211 all0
      have Zs211 : n0 ≤ T211.heap.size := Nat.le_trans Zs209 Kq211.1
      show Go p e below _ (T211.setTop (mkF m 151 #[.val (.int p1), .val (.int p2), .val (.int p3), .val (.int c1), .val (.int c2), .val (.int (1 : Int32)), .val (.int (0 : Int32)), .val (.ref b_191), .val (.ref b_193), .val (.ref oe), .val (.int ((4 : Int32) + (1 : Int32))), .val (.ref om), .unset, .unset, .unset, .unset] [(.ref b_211)]))
      refine g_astore X211 hx (hb hby at_151) 153 rfl rfl #[.val (.int p1), .val (.int p2), .val (.int p3), .val (.int c1), .val (.int c2), .val (.int (1 : Int32)), .val (.int (0 : Int32)), .val (.ref b_191), .val (.ref b_193), .val (.ref oe), .val (.int ((4 : Int32) + (1 : Int32))), .val (.ref om), .val (.ref b_211), .unset, .unset, .unset] rfl ?_
      refine g_aload X211 hx (hb hby at_153) 155 rfl (v := (.ref b_211)) rfl rfl ?_
      refine g_alen X211 hx (hb hby at_155) 156 rfl hZ rfl f211_1 ?_
      refine g_if_eq X211 hx (hb hby at_156) 161 159 (by decide) (by decide) rfl (fun hc156 => ?_) (fun hc156 => False.elim (hc156 rfl))
      refine g_iload X211 hx (hb hby at_161) 163 rfl (v := (1 : Int32)) rfl ?_
      refine g_if_eq X211 hx (hb hby at_163) 175 166 (by decide) (by decide) rfl (fun hc163 => False.elim (absurd hc163 (by decide))) (fun hc163 => ?_)
      refine g_aload X211 hx (hb hby at_166) 168 rfl (v := (.ref om)) rfl rfl ?_
      refine g_aload X211 hx (hb hby at_168) 170 rfl (v := (.ref b_191)) rfl rfl ?_
      refine g_aload X211 hx (hb hby at_170) 172 rfl (v := (.ref b_193)) rfl rfl ?_
      obtain ⟨cq214, kq214, q214a, q214b, q214c⟩ := isOf hZ rfl E_om_212
      obtain ⟨_, _, ⟨T214, L214, k214, n214⟩, -, X214, ⟨Lc214, hQ214, l214, y214, z214⟩, st214⟩ := X211.virtualBack hx (y := (⟨"com/example/anagrafe/anagrafe/atom/Markup", "open", "(Ljava/lang/String;Ljava/lang/String;)V"⟩ : MethodName)) (z := (⟨"com/example/anagrafe/anagrafe/atom/Markup", "open", "(Ljava/lang/String;Ljava/lang/String;)V"⟩ : MethodName)) hown (mvT hZ (hw _ (List.mem_of_getElem? (i := 67) rfl))) (mvT hZ (hw _ (List.mem_of_getElem? (i := 68) rfl))) (notFace_of_selects (args := #[]) (mvT hZ (hw _ (List.mem_of_getElem? (i := 70) rfl)))) (mvT hZ (hw _ (List.mem_of_getElem? (i := 70) rfl))) (mvT hZ (hw _ (List.mem_of_getElem? (i := 69) rfl))) (by decide) (backOf (W := 0) (rm13 l Z a0 hw [] om b_191 b_193 wq_209 kq_209 0 [] s_COMPACT_STRINGS s_SIOOBE_FORMATTER vb_191 kb_191 c1 vb_193 kb_193 c2 T211.heap n0 Zs211 (own_Sta_keep S_COMPACT_STRINGS K211 all0) (own_Sta_keep S_SIOOBE_FORMATTER K211 all0) E_om_212 F_bytes_om_212 F_size_om_212 A_wq_209_212 g_om g_wq_209 ne_om_wq_209 E_b_191_212 F_value_b_191_212 F_coder_b_191_212 A_vb_191_212 E_b_193_212 F_value_b_193_212 F_coder_b_193_212 A_vb_193_212 (Ne.symm ne_b_191_om) (Ne.symm ne_vb_191_om) (Ne.symm ne_b_193_om) (Ne.symm ne_vb_193_om) (Ne.symm ne_b_191_wq_209) (Ne.symm ne_vb_191_wq_209) (Ne.symm ne_b_193_wq_209) (Ne.symm ne_vb_193_wq_209) hz_s_COMPACT_STRINGS hR_s_SIOOBE_FORMATTER rfl (by decide)) hZ (hw _ (List.mem_of_getElem? (i := 71) rfl)) (hw _ (List.mem_of_getElem? (i := 28) rfl)) (by decide) (by decide)) q214a q214c (g := (mkF m 172 #[.val (.int p1), .val (.int p2), .val (.int p3), .val (.int c1), .val (.int c2), .val (.int (1 : Int32)), .val (.int (0 : Int32)), .val (.ref b_191), .val (.ref b_193), .val (.ref oe), .val (.int ((4 : Int32) + (1 : Int32))), .val (.ref om), .val (.ref b_211), .unset, .unset, .unset] [(.ref b_193), (.ref b_191), (.ref om)])) rfl (by rw [hml]; rfl) (Steps.refl _) (argsL := [(.ref b_191), (.ref b_193)]) (rest := []) (lenOf own_pd18 rfl) rfl (by show 2 * 0 + _ ≤ _; exact Nat.le_of_eq rfl) (hb hby at_172) (fun _ _ => ⟨rfl, rfl, (by decide : 8 + 0 ≤ _), (by decide : 16412 + 0 ≤ _)⟩)
      dsimp only [Pt.U, Pt.locs, Pt.cells, Pt.slots] at X214 l214 y214 z214 st214 hQ214
      subst l214 y214 z214
      obtain ⟨rfl, Nq214, Kq214, f214_0, f214_1, f214_2, f214_3⟩ := hQ214
      refine Go.tr st214 ?_
      have N214 := Fr.app N211 Nq214
      have E_b_191_215 : Exa Z T214.heap b_191 "java/lang/String" := Exa.keep E_b_191_212 Kq214
      have F_value_b_191_215 : Fld Z T214.heap b_191 "java/lang/String" "value" "[B" (.ref vb_191) := Fld.keep F_value_b_191_212 Kq214 (ninS ne_b_191_om (ninS ne_b_191_wq_209 nin0))
      have F_coder_b_191_215 : Fld Z T214.heap b_191 "java/lang/String" "coder" "B" (.int (0 : Int32)) := Fld.keep F_coder_b_191_212 Kq214 (ninS ne_b_191_om (ninS ne_b_191_wq_209 nin0))
      have A_vb_191_215 : Arv Z T214.heap vb_191 kb_191 .byte (1 : Int32) ([(.int c1.toInt8.toInt32)]) (.int (0 : Int32)) := Arv.keep A_vb_191_212 Kq214 (ninS ne_vb_191_om (ninS ne_vb_191_wq_209 nin0))
      have E_b_193_215 : Exa Z T214.heap b_193 "java/lang/String" := Exa.keep E_b_193_212 Kq214
      have F_value_b_193_215 : Fld Z T214.heap b_193 "java/lang/String" "value" "[B" (.ref vb_193) := Fld.keep F_value_b_193_212 Kq214 (ninS ne_b_193_om (ninS ne_b_193_wq_209 nin0))
      have F_coder_b_193_215 : Fld Z T214.heap b_193 "java/lang/String" "coder" "B" (.int (0 : Int32)) := Fld.keep F_coder_b_193_212 Kq214 (ninS ne_b_193_om (ninS ne_b_193_wq_209 nin0))
      have A_vb_193_215 : Arv Z T214.heap vb_193 kb_193 .byte (1 : Int32) ([(.int c2.toInt8.toInt32)]) (.int (0 : Int32)) := Arv.keep A_vb_193_212 Kq214 (ninS ne_vb_193_om (ninS ne_vb_193_wq_209 nin0))
      have A_oe_215 : Arv Z T214.heap oe cA195 .byte (8 : Int32) ([(.int (60 : Int32)), (.int c1.toInt8.toInt32), (.int (58 : Int32)), (.int c2.toInt8.toInt32), (.int (62 : Int32)), (.int (0 : Int32)), (.int (0 : Int32)), (.int (0 : Int32))]) (.int (0 : Int32)) := Arv.keep A_oe_212 Kq214 (ninS ne_oe_om (ninS ne_oe_wq_209 nin0))
      have E_om_215 : Exa Z T214.heap om "com/example/anagrafe/anagrafe/atom/Markup" := Exa.keep E_om_212 Kq214
      have A_b_211_215 : Arv Z T214.heap b_211 kq_211 .byte (Int32.ofNat 0) [] (.int (0 : Int32)) := Arv.keep f211_1 Kq214 (ninS (Ne.symm ne_om_b_211) (ninS (Ne.symm ne_wq_209_b_211) nin0))
      have K214 : Keep h0 T214.heap [] := Keep.trans K211 Kq214 (allS (Or.inr mh_om) (allS (Or.inr mh_wq_209) all0))
      have Zs214 : n0 ≤ T214.heap.size := Nat.le_trans Zs211 Kq214.1
      show Go p e below _ (T214.setTop (mkF m 175 #[.val (.int p1), .val (.int p2), .val (.int p3), .val (.int c1), .val (.int c2), .val (.int (1 : Int32)), .val (.int (0 : Int32)), .val (.ref b_191), .val (.ref b_193), .val (.ref oe), .val (.int ((4 : Int32) + (1 : Int32))), .val (.ref om), .val (.ref b_211), .unset, .unset, .unset] []))
      refine g_iload X214 hx (hb hby at_175) 177 rfl (v := (0 : Int32)) rfl ?_
      refine g_if_eq X214 hx (hb hby at_177) 188 180 (by decide) (by decide) rfl (fun hc177 => ?_) (fun hc177 => False.elim (absurd rfl hc177))
      refine g_aload X214 hx (hb hby at_188) 190 rfl (v := (.ref om)) rfl rfl ?_
      obtain ⟨cq216, kq216, q216a, q216b, q216c⟩ := isOf hZ rfl f214_0
      obtain ⟨_, _, ⟨T216, L216, k216, n216⟩, -, X216, ⟨Lc216, hQ216, l216, y216, z216⟩, st216⟩ := X214.virtualBack hx (y := (⟨"com/example/anagrafe/anagrafe/atom/Markup", "endStart", "()V"⟩ : MethodName)) (z := (⟨"com/example/anagrafe/anagrafe/atom/Markup", "endStart", "()V"⟩ : MethodName)) hown (mvT hZ (hw _ (List.mem_of_getElem? (i := 54) rfl))) (mvT hZ (hw _ (List.mem_of_getElem? (i := 55) rfl))) (notFace_of_selects (args := #[]) (mvT hZ (hw _ (List.mem_of_getElem? (i := 57) rfl)))) (mvT hZ (hw _ (List.mem_of_getElem? (i := 57) rfl))) (mvT hZ (hw _ (List.mem_of_getElem? (i := 56) rfl))) (by decide) (backOf (W := 0) (rm10 l Z a0 hw [] om wq_209 kq_209 (0 + 1 + 1 + 1 + 1) (((([] ++ [(.int (60 : Int32))]) ++ [(.int c1.toInt8.toInt32)]) ++ [(.int (58 : Int32))]) ++ [(.int c2.toInt8.toInt32)]) T214.heap n0 Zs214 f214_0 f214_1 f214_2 f214_3 g_om g_wq_209 ne_om_wq_209 rfl (by decide)) hZ (hw _ (List.mem_of_getElem? (i := 58) rfl)) (hw _ (List.mem_of_getElem? (i := 28) rfl)) (by decide) (by decide)) q216a q216c (g := (mkF m 190 #[.val (.int p1), .val (.int p2), .val (.int p3), .val (.int c1), .val (.int c2), .val (.int (1 : Int32)), .val (.int (0 : Int32)), .val (.ref b_191), .val (.ref b_193), .val (.ref oe), .val (.int ((4 : Int32) + (1 : Int32))), .val (.ref om), .val (.ref b_211), .unset, .unset, .unset] [(.ref om)])) rfl (by rw [hml]; rfl) (Steps.refl _) (argsL := []) (rest := []) (lenOf own_pd15 rfl) rfl (by show 2 * 0 + _ ≤ _; exact Nat.le_of_eq rfl) (hb hby at_190) (fun _ _ => ⟨rfl, rfl, (by decide : 8 + 0 ≤ _), (by decide : 16412 + 0 ≤ _)⟩)
      dsimp only [Pt.U, Pt.locs, Pt.cells, Pt.slots] at X216 l216 y216 z216 st216 hQ216
      subst l216 y216 z216
      obtain ⟨rfl, Nq216, Kq216, f216_0, f216_1, f216_2, f216_3⟩ := hQ216
      refine Go.tr st216 ?_
      have N216 := Fr.app N214 Nq216
      have A_oe_217 : Arv Z T216.heap oe cA195 .byte (8 : Int32) ([(.int (60 : Int32)), (.int c1.toInt8.toInt32), (.int (58 : Int32)), (.int c2.toInt8.toInt32), (.int (62 : Int32)), (.int (0 : Int32)), (.int (0 : Int32)), (.int (0 : Int32))]) (.int (0 : Int32)) := Arv.keep A_oe_215 Kq216 (ninS ne_oe_om (ninS ne_oe_wq_209 nin0))
      have E_om_217 : Exa Z T216.heap om "com/example/anagrafe/anagrafe/atom/Markup" := Exa.keep f214_0 Kq216
      have A_b_211_217 : Arv Z T216.heap b_211 kq_211 .byte (Int32.ofNat 0) [] (.int (0 : Int32)) := Arv.keep A_b_211_215 Kq216 (ninS (Ne.symm ne_om_b_211) (ninS (Ne.symm ne_wq_209_b_211) nin0))
      have K216 : Keep h0 T216.heap [] := Keep.trans K214 Kq216 (allS (Or.inr mh_om) (allS (Or.inr mh_wq_209) all0))
      have Zs216 : n0 ≤ T216.heap.size := Nat.le_trans Zs214 Kq216.1
      show Go p e below _ (T216.setTop (mkF m 193 #[.val (.int p1), .val (.int p2), .val (.int p3), .val (.int c1), .val (.int c2), .val (.int (1 : Int32)), .val (.int (0 : Int32)), .val (.ref b_191), .val (.ref b_193), .val (.ref oe), .val (.int ((4 : Int32) + (1 : Int32))), .val (.ref om), .val (.ref b_211), .unset, .unset, .unset] []))
      refine g_aload X216 hx (hb hby at_193) 195 rfl (v := (.ref om)) rfl rfl ?_
      obtain ⟨cq218, kq218, q218a, q218b, q218c⟩ := isOf hZ rfl f216_0
      obtain ⟨_, _, ⟨T218, L218, k218, n218⟩, -, X218, ⟨Lc218, hQ218, l218, y218, z218⟩, st218⟩ := X216.virtualBack hx (y := (⟨"com/example/anagrafe/anagrafe/atom/Markup", "toByteArray", "()[B"⟩ : MethodName)) (z := (⟨"com/example/anagrafe/anagrafe/atom/Markup", "toByteArray", "()[B"⟩ : MethodName)) hown (mvT hZ (hw _ (List.mem_of_getElem? (i := 35) rfl))) (mvT hZ (hw _ (List.mem_of_getElem? (i := 36) rfl))) (notFace_of_selects (args := #[]) (mvT hZ (hw _ (List.mem_of_getElem? (i := 38) rfl)))) (mvT hZ (hw _ (List.mem_of_getElem? (i := 38) rfl))) (mvT hZ (hw _ (List.mem_of_getElem? (i := 37) rfl))) (by decide) (backOf (W := 0) (rm7 l Z a0 hw [] om wq_209 kq_209 ((0 + 1 + 1 + 1 + 1) + 1) ((((([] ++ [(.int (60 : Int32))]) ++ [(.int c1.toInt8.toInt32)]) ++ [(.int (58 : Int32))]) ++ [(.int c2.toInt8.toInt32)]) ++ [(.int (62 : Int32))]) T216.heap n0 Zs216 f216_0 f216_1 f216_2 f216_3 rfl (by decide)) hZ (hw _ (List.mem_of_getElem? (i := 39) rfl)) (hw _ (List.mem_of_getElem? (i := 28) rfl)) (by decide) (by decide)) q218a q218c (g := (mkF m 195 #[.val (.int p1), .val (.int p2), .val (.int p3), .val (.int c1), .val (.int c2), .val (.int (1 : Int32)), .val (.int (0 : Int32)), .val (.ref b_191), .val (.ref b_193), .val (.ref oe), .val (.int ((4 : Int32) + (1 : Int32))), .val (.ref om), .val (.ref b_211), .unset, .unset, .unset] [(.ref om)])) rfl (by rw [hml]; rfl) (Steps.refl _) (argsL := []) (rest := []) (lenOf own_pd16 rfl) rfl (by show 2 * 0 + _ ≤ _; exact Nat.le_of_eq rfl) (hb hby at_195) (fun _ _ => ⟨rfl, rfl, (by decide : 8 + 1 ≤ _), (by decide : 16412 + 8 ≤ _)⟩)
      dsimp only [Pt.U, Pt.locs, Pt.cells, Pt.slots] at X218 l218 y218 z218 st218 hQ218
      subst l218 y218 z218
      obtain ⟨b_218, kq_218, rfl, Nq218, Kq218, f218_0, f218_1⟩ := hQ218
      refine Go.tr st218 ?_
      have N218 := Fr.app N216 Nq218
      have A_oe_219 : Arv Z T218.heap oe cA195 .byte (8 : Int32) ([(.int (60 : Int32)), (.int c1.toInt8.toInt32), (.int (58 : Int32)), (.int c2.toInt8.toInt32), (.int (62 : Int32)), (.int (0 : Int32)), (.int (0 : Int32)), (.int (0 : Int32))]) (.int (0 : Int32)) := Arv.keep A_oe_217 Kq218 nin0
      have E_om_219 : Exa Z T218.heap om "com/example/anagrafe/anagrafe/atom/Markup" := Exa.keep f216_0 Kq218
      have A_b_211_219 : Arv Z T218.heap b_211 kq_211 .byte (Int32.ofNat 0) [] (.int (0 : Int32)) := Arv.keep A_b_211_217 Kq218 nin0
      have F_bytes_om_219 : Fld Z T218.heap om "com/example/anagrafe/anagrafe/atom/Markup" "bytes" "[B" (.ref wq_209) := Fld.keep f216_1 Kq218 nin0
      have F_size_om_219 : Fld Z T218.heap om "com/example/anagrafe/anagrafe/atom/Markup" "size" "I" (.int (Int32.ofNat ((0 + 1 + 1 + 1 + 1) + 1))) := Fld.keep f216_2 Kq218 nin0
      have A_wq_209_219 : Arv Z T218.heap wq_209 kq_209 .byte (Int32.ofNat 16384) ((((([] ++ [(.int (60 : Int32))]) ++ [(.int c1.toInt8.toInt32)]) ++ [(.int (58 : Int32))]) ++ [(.int c2.toInt8.toInt32)]) ++ [(.int (62 : Int32))]) (.int (0 : Int32)) := Arv.keep f216_3 Kq218 nin0
      have ne_oe_b_218 : oe ≠ b_218 := Nat.ne_of_lt (Nat.lt_of_lt_of_le A_oe_217.lt f218_0)
      have ne_om_b_218 : om ≠ b_218 := Nat.ne_of_lt (Nat.lt_of_lt_of_le f216_0.lt f218_0)
      have ne_b_211_b_218 : b_211 ≠ b_218 := Nat.ne_of_lt (Nat.lt_of_lt_of_le A_b_211_217.lt f218_0)
      have ne_wq_209_b_218 : wq_209 ≠ b_218 := Nat.ne_of_lt (Nat.lt_of_lt_of_le f216_3.lt f218_0)
      have g_b_218 : n0 ≤ b_218 := Nat.le_trans Zs216 f218_0
      have mh_b_218 : h0.size ≤ b_218 := Nat.le_trans K216.1 f218_0
      have K218 : Keep h0 T218.heap [] := Keep.trans K216 Kq218 all0
      have Zs218 : n0 ≤ T218.heap.size := Nat.le_trans Zs216 Kq218.1
      show Go p e below _ (T218.setTop (mkF m 198 #[.val (.int p1), .val (.int p2), .val (.int p3), .val (.int c1), .val (.int c2), .val (.int (1 : Int32)), .val (.int (0 : Int32)), .val (.ref b_191), .val (.ref b_193), .val (.ref oe), .val (.int ((4 : Int32) + (1 : Int32))), .val (.ref om), .val (.ref b_211), .unset, .unset, .unset] [(.ref b_218)]))
      refine g_astore X218 hx (hb hby at_198) 200 rfl rfl #[.val (.int p1), .val (.int p2), .val (.int p3), .val (.int c1), .val (.int c2), .val (.int (1 : Int32)), .val (.int (0 : Int32)), .val (.ref b_191), .val (.ref b_193), .val (.ref oe), .val (.int ((4 : Int32) + (1 : Int32))), .val (.ref om), .val (.ref b_211), .val (.ref b_218), .unset, .unset] rfl ?_
      refine g_aload X218 hx (hb hby at_200) 202 rfl (v := (.ref b_218)) rfl rfl ?_
      refine g_aload X218 hx (hb hby at_202) 204 rfl (v := (.ref oe)) rfl rfl ?_
      refine g_iload X218 hx (hb hby at_204) 206 rfl (v := ((4 : Int32) + (1 : Int32))) rfl ?_
      obtain ⟨_, _, ⟨T220, L220, k220, n220⟩, -, X220, ⟨Lc220, hQ220, l220, y220, z220⟩, st220⟩ := Jvm.LawKit.callS X218 hx (y := (⟨"com/example/anagrafe/anagrafe/atom/MarkupToByteArrayPinLaw", "same", "([B[BI)Z"⟩ : MethodName)) hown (mvT hZ (hw _ (List.mem_of_getElem? (i := 63) rfl))) (mvT hZ (hw _ (List.mem_of_getElem? (i := 64) rfl))) (mvT hZ (hw _ (List.mem_of_getElem? (i := 65) rfl))) (mvT hZ (hw _ (List.mem_of_getElem? (i := 66) rfl))) (by decide) (backOf (W := 0) (rmsame l Z a0 hw [] b_218 oe ((4 : Int32) + (1 : Int32)) kq_218 cA195 ((0 + 1 + 1 + 1 + 1) + 1) ((((([] ++ [(.int (60 : Int32))]) ++ [(.int c1.toInt8.toInt32)]) ++ [(.int (58 : Int32))]) ++ [(.int c2.toInt8.toInt32)]) ++ [(.int (62 : Int32))]) ([(.int (60 : Int32)), (.int c1.toInt8.toInt32), (.int (58 : Int32)), (.int c2.toInt8.toInt32), (.int (62 : Int32)), (.int (0 : Int32)), (.int (0 : Int32)), (.int (0 : Int32))]) T218.heap n0 Zs218 f218_1 A_oe_219 (by decide) (by decide) (fun i hi => match i, hi with | 0, _ => ⟨_, rfl, rfl⟩ | 1, _ => ⟨_, rfl, rfl⟩ | 2, _ => ⟨_, rfl, rfl⟩ | 3, _ => ⟨_, rfl, rfl⟩ | 4, _ => ⟨_, rfl, rfl⟩ | n + 5, h => absurd h (by omega))) hZ (hw _ (List.mem_of_getElem? (i := 66) rfl)) (hw _ (List.mem_of_getElem? (i := 65) rfl)) (by decide) (by decide)) (g := (mkF m 206 #[.val (.int p1), .val (.int p2), .val (.int p3), .val (.int c1), .val (.int c2), .val (.int (1 : Int32)), .val (.int (0 : Int32)), .val (.ref b_191), .val (.ref b_193), .val (.ref oe), .val (.int ((4 : Int32) + (1 : Int32))), .val (.ref om), .val (.ref b_211), .val (.ref b_218), .unset, .unset] [(.int ((4 : Int32) + (1 : Int32))), (.ref oe), (.ref b_218)])) rfl (by rw [hml]; rfl) (argsL := [(.ref b_218), (.ref oe), (.int ((4 : Int32) + (1 : Int32)))]) (rest := []) (lenOf own_pd17 rfl) rfl (by show 2 * 0 + _ ≤ _; exact Nat.le_of_eq rfl) (hb hby at_206) (fun _ _ => ⟨rfl, rfl, (by decide : 9 + 0 ≤ _), (by decide : 16420 + 0 ≤ _)⟩)
      dsimp only [Pt.U, Pt.locs, Pt.cells, Pt.slots] at X220 l220 y220 z220 st220 hQ220
      subst l220 y220 z220
      obtain ⟨rfl, Nq220, e220⟩ := hQ220
      refine Go.st st220 ?_
      have N220 := Fr.app N218 Nq220
      show Go p e below _ (T220.setTop (mkF m 209 #[.val (.int p1), .val (.int p2), .val (.int p3), .val (.int c1), .val (.int c2), .val (.int (1 : Int32)), .val (.int (0 : Int32)), .val (.ref b_191), .val (.ref b_193), .val (.ref oe), .val (.int ((4 : Int32) + (1 : Int32))), .val (.ref om), .val (.ref b_211), .val (.ref b_218), .unset, .unset] [(.int (1 : Int32))]))
      refine g_if_ne X220 hx (hb hby at_209) 214 212 (by decide) (by decide) rfl (fun hc209 => ?_) (fun hc209 => False.elim (absurd hc209 (by decide)))
      refine g_aload X220 hx (hb hby at_214) 216 rfl (v := (.ref b_218)) rfl rfl ?_
      refine g_iconst X220 hx (hb hby at_216) 217 rfl (0 : Int32) rfl ?_
      refine g_aload X220 hx (hb hby at_217) 219 rfl (v := (.ref b_218)) rfl rfl ?_
      refine g_iconst X220 hx (hb hby at_219) 220 rfl (0 : Int32) rfl ?_
      refine g_baload X220 hx (hb hby at_220) 221 rfl hZ e220 f218_1 (show ¬ (0 : Int32) < 0 ∧ (0 : Int32) < (Int32.ofNat ((0 + 1 + 1 + 1 + 1) + 1)) from by decide) (.int (60 : Int32)) rfl ?_
      refine g_iconst X220 hx (hb hby at_221) 222 rfl (1 : Int32) rfl ?_
      refine g_ixor X220 hx (hb hby at_222) 223 rfl ((60 : Int32) ^^^ (1 : Int32)) rfl ?_
      refine g_i2b X220 hx (hb hby at_223) 224 rfl ((60 : Int32) ^^^ (1 : Int32)).toInt8.toInt32 rfl ?_
      obtain ⟨T222, h222, X222, e222, W222, B222, st222⟩ := g_bastore X220 hx (hb hby at_224) hZ e220 f218_1 (show ¬ (0 : Int32) < 0 ∧ (0 : Int32) < (Int32.ofNat ((0 + 1 + 1 + 1 + 1) + 1)) from by decide) (i := 0) (by decide) (by simp)  (L := #[.val (.int p1), .val (.int p2), .val (.int p3), .val (.int c1), .val (.int c2), .val (.int (1 : Int32)), .val (.int (0 : Int32)), .val (.ref b_191), .val (.ref b_193), .val (.ref oe), .val (.int ((4 : Int32) + (1 : Int32))), .val (.ref om), .val (.ref b_211), .val (.ref b_218), .unset, .unset]) (S := [])
      refine Go.st st222 ?_
      have A_oe_223 : Arv Z h222 oe cA195 .byte (8 : Int32) ([(.int (60 : Int32)), (.int c1.toInt8.toInt32), (.int (58 : Int32)), (.int c2.toInt8.toInt32), (.int (62 : Int32)), (.int (0 : Int32)), (.int (0 : Int32)), (.int (0 : Int32))]) (.int (0 : Int32)) := Arv.other A_oe_219 W222 ne_oe_b_218
      have E_om_223 : Exa Z h222 om "com/example/anagrafe/anagrafe/atom/Markup" := Exa.wr W222 E_om_219
      have A_b_211_223 : Arv Z h222 b_211 kq_211 .byte (Int32.ofNat 0) [] (.int (0 : Int32)) := Arv.other A_b_211_219 W222 ne_b_211_b_218
      have F_bytes_om_223 : Fld Z h222 om "com/example/anagrafe/anagrafe/atom/Markup" "bytes" "[B" (.ref wq_209) := Fld.other W222 F_bytes_om_219 (Or.inl ne_om_b_218)
      have F_size_om_223 : Fld Z h222 om "com/example/anagrafe/anagrafe/atom/Markup" "size" "I" (.int (Int32.ofNat ((0 + 1 + 1 + 1 + 1) + 1))) := Fld.other W222 F_size_om_219 (Or.inl ne_om_b_218)
      have A_wq_209_223 : Arv Z h222 wq_209 kq_209 .byte (Int32.ofNat 16384) ((((([] ++ [(.int (60 : Int32))]) ++ [(.int c1.toInt8.toInt32)]) ++ [(.int (58 : Int32))]) ++ [(.int c2.toInt8.toInt32)]) ++ [(.int (62 : Int32))]) (.int (0 : Int32)) := Arv.other A_wq_209_219 W222 ne_wq_209_b_218
      have Av_b_218_222 : Arv Z h222 b_218 kq_218 .byte (Int32.ofNat ((0 + 1 + 1 + 1 + 1) + 1)) (List.set (α := Value) ((((([] ++ [(.int (60 : Int32))]) ++ [(.int c1.toInt8.toInt32)]) ++ [(.int (58 : Int32))]) ++ [(.int c2.toInt8.toInt32)]) ++ [(.int (62 : Int32))]) 0 (.int (nar .byte (((60 : Int32) ^^^ (1 : Int32)).toInt8.toInt32)))) (.int (0 : Int32)) := B222
      have K222 : Keep h0 h222 [] := Keep.wr K218 W222 (Or.inr mh_b_218)
      have N222 := Fr.snoc X222 N220 g_b_218
      have Zs222 : n0 ≤ h222.size := by rw [W222.size]; exact Zs218
      show Go p e below _ (T222.setTop (mkF m 225 #[.val (.int p1), .val (.int p2), .val (.int p3), .val (.int c1), .val (.int c2), .val (.int (1 : Int32)), .val (.int (0 : Int32)), .val (.ref b_191), .val (.ref b_193), .val (.ref oe), .val (.int ((4 : Int32) + (1 : Int32))), .val (.ref om), .val (.ref b_211), .val (.ref b_218), .unset, .unset] []))
      refine g_aload X222 hx (hb hby at_225) 227 rfl (v := (.ref om)) rfl rfl ?_
      obtain ⟨cq224, kq224, q224a, q224b, q224c⟩ := isOf hZ e222 E_om_223
      obtain ⟨_, _, ⟨T224, L224, k224, n224⟩, -, X224, ⟨Lc224, hQ224, l224, y224, z224⟩, st224⟩ := X222.virtualBack hx (y := (⟨"com/example/anagrafe/anagrafe/atom/Markup", "toByteArray", "()[B"⟩ : MethodName)) (z := (⟨"com/example/anagrafe/anagrafe/atom/Markup", "toByteArray", "()[B"⟩ : MethodName)) hown (mvT hZ (hw _ (List.mem_of_getElem? (i := 35) rfl))) (mvT hZ (hw _ (List.mem_of_getElem? (i := 36) rfl))) (notFace_of_selects (args := #[]) (mvT hZ (hw _ (List.mem_of_getElem? (i := 38) rfl)))) (mvT hZ (hw _ (List.mem_of_getElem? (i := 38) rfl))) (mvT hZ (hw _ (List.mem_of_getElem? (i := 37) rfl))) (by decide) (backOf (W := 0) (rm7 l Z a0 hw [] om wq_209 kq_209 ((0 + 1 + 1 + 1 + 1) + 1) ((((([] ++ [(.int (60 : Int32))]) ++ [(.int c1.toInt8.toInt32)]) ++ [(.int (58 : Int32))]) ++ [(.int c2.toInt8.toInt32)]) ++ [(.int (62 : Int32))]) h222 n0 Zs222 E_om_223 F_bytes_om_223 F_size_om_223 A_wq_209_223 rfl (by decide)) hZ (hw _ (List.mem_of_getElem? (i := 39) rfl)) (hw _ (List.mem_of_getElem? (i := 28) rfl)) (by decide) (by decide)) q224a q224c (g := (mkF m 227 #[.val (.int p1), .val (.int p2), .val (.int p3), .val (.int c1), .val (.int c2), .val (.int (1 : Int32)), .val (.int (0 : Int32)), .val (.ref b_191), .val (.ref b_193), .val (.ref oe), .val (.int ((4 : Int32) + (1 : Int32))), .val (.ref om), .val (.ref b_211), .val (.ref b_218), .unset, .unset] [(.ref om)])) rfl (by rw [hml]; rfl) (Steps.refl _) (argsL := []) (rest := []) (lenOf own_pd16 rfl) rfl (by show 2 * 0 + _ ≤ _; exact Nat.le_of_eq rfl) (hb hby at_227) (fun _ _ => ⟨rfl, e222, (by decide : 9 + 1 ≤ _), (by decide : 16420 + 8 ≤ _)⟩)
      dsimp only [Pt.U, Pt.locs, Pt.cells, Pt.slots] at X224 l224 y224 z224 st224 hQ224
      subst l224 y224 z224
      obtain ⟨b_224, kq_224, rfl, Nq224, Kq224, f224_0, f224_1⟩ := hQ224
      refine Go.tr st224 ?_
      have N224 := Fr.app N222 Nq224
      have A_oe_225 : Arv Z T224.heap oe cA195 .byte (8 : Int32) ([(.int (60 : Int32)), (.int c1.toInt8.toInt32), (.int (58 : Int32)), (.int c2.toInt8.toInt32), (.int (62 : Int32)), (.int (0 : Int32)), (.int (0 : Int32)), (.int (0 : Int32))]) (.int (0 : Int32)) := Arv.keep A_oe_223 Kq224 nin0
      have E_om_225 : Exa Z T224.heap om "com/example/anagrafe/anagrafe/atom/Markup" := Exa.keep E_om_223 Kq224
      have A_b_211_225 : Arv Z T224.heap b_211 kq_211 .byte (Int32.ofNat 0) [] (.int (0 : Int32)) := Arv.keep A_b_211_223 Kq224 nin0
      have F_bytes_om_225 : Fld Z T224.heap om "com/example/anagrafe/anagrafe/atom/Markup" "bytes" "[B" (.ref wq_209) := Fld.keep F_bytes_om_223 Kq224 nin0
      have F_size_om_225 : Fld Z T224.heap om "com/example/anagrafe/anagrafe/atom/Markup" "size" "I" (.int (Int32.ofNat ((0 + 1 + 1 + 1 + 1) + 1))) := Fld.keep F_size_om_223 Kq224 nin0
      have A_wq_209_225 : Arv Z T224.heap wq_209 kq_209 .byte (Int32.ofNat 16384) ((((([] ++ [(.int (60 : Int32))]) ++ [(.int c1.toInt8.toInt32)]) ++ [(.int (58 : Int32))]) ++ [(.int c2.toInt8.toInt32)]) ++ [(.int (62 : Int32))]) (.int (0 : Int32)) := Arv.keep A_wq_209_223 Kq224 nin0
      have A_b_218_225 : Arv Z T224.heap b_218 kq_218 .byte (Int32.ofNat ((0 + 1 + 1 + 1 + 1) + 1)) (List.set (α := Value) ((((([] ++ [(.int (60 : Int32))]) ++ [(.int c1.toInt8.toInt32)]) ++ [(.int (58 : Int32))]) ++ [(.int c2.toInt8.toInt32)]) ++ [(.int (62 : Int32))]) 0 (.int (nar .byte (((60 : Int32) ^^^ (1 : Int32)).toInt8.toInt32)))) (.int (0 : Int32)) := Arv.keep Av_b_218_222 Kq224 nin0
      have ne_oe_b_224 : oe ≠ b_224 := Nat.ne_of_lt (Nat.lt_of_lt_of_le A_oe_223.lt f224_0)
      have ne_om_b_224 : om ≠ b_224 := Nat.ne_of_lt (Nat.lt_of_lt_of_le E_om_223.lt f224_0)
      have ne_b_211_b_224 : b_211 ≠ b_224 := Nat.ne_of_lt (Nat.lt_of_lt_of_le A_b_211_223.lt f224_0)
      have ne_wq_209_b_224 : wq_209 ≠ b_224 := Nat.ne_of_lt (Nat.lt_of_lt_of_le A_wq_209_223.lt f224_0)
      have ne_b_218_b_224 : b_218 ≠ b_224 := Nat.ne_of_lt (Nat.lt_of_lt_of_le Av_b_218_222.lt f224_0)
      have g_b_224 : n0 ≤ b_224 := Nat.le_trans Zs222 f224_0
      have mh_b_224 : h0.size ≤ b_224 := Nat.le_trans K222.1 f224_0
      have K224 : Keep h0 T224.heap [] := Keep.trans K222 Kq224 all0
      have Zs224 : n0 ≤ T224.heap.size := Nat.le_trans Zs222 Kq224.1
      show Go p e below _ (T224.setTop (mkF m 230 #[.val (.int p1), .val (.int p2), .val (.int p3), .val (.int c1), .val (.int c2), .val (.int (1 : Int32)), .val (.int (0 : Int32)), .val (.ref b_191), .val (.ref b_193), .val (.ref oe), .val (.int ((4 : Int32) + (1 : Int32))), .val (.ref om), .val (.ref b_211), .val (.ref b_218), .unset, .unset] [(.ref b_224)]))
      refine g_astore X224 hx (hb hby at_230) 232 rfl rfl #[.val (.int p1), .val (.int p2), .val (.int p3), .val (.int c1), .val (.int c2), .val (.int (1 : Int32)), .val (.int (0 : Int32)), .val (.ref b_191), .val (.ref b_193), .val (.ref oe), .val (.int ((4 : Int32) + (1 : Int32))), .val (.ref om), .val (.ref b_211), .val (.ref b_218), .val (.ref b_224), .unset] rfl ?_
      refine g_aload X224 hx (hb hby at_232) 234 rfl (v := (.ref b_224)) rfl rfl ?_
      refine g_aload X224 hx (hb hby at_234) 236 rfl (v := (.ref b_218)) rfl rfl ?_
      refine g_acmp_eq X224 hx (hb hby at_236) 251 239 (by decide) (by decide) rfl rfl rfl (fun hc236 => False.elim ((Ne.symm ne_b_218_b_224) (Value.ref.inj hc236))) (fun hc236 => ?_)
      refine g_aload X224 hx (hb hby at_239) 241 rfl (v := (.ref b_224)) rfl rfl ?_
      refine g_aload X224 hx (hb hby at_241) 243 rfl (v := (.ref oe)) rfl rfl ?_
      refine g_iload X224 hx (hb hby at_243) 245 rfl (v := ((4 : Int32) + (1 : Int32))) rfl ?_
      obtain ⟨_, _, ⟨T226, L226, k226, n226⟩, -, X226, ⟨Lc226, hQ226, l226, y226, z226⟩, st226⟩ := Jvm.LawKit.callS X224 hx (y := (⟨"com/example/anagrafe/anagrafe/atom/MarkupToByteArrayPinLaw", "same", "([B[BI)Z"⟩ : MethodName)) hown (mvT hZ (hw _ (List.mem_of_getElem? (i := 63) rfl))) (mvT hZ (hw _ (List.mem_of_getElem? (i := 64) rfl))) (mvT hZ (hw _ (List.mem_of_getElem? (i := 65) rfl))) (mvT hZ (hw _ (List.mem_of_getElem? (i := 66) rfl))) (by decide) (backOf (W := 0) (rmsame l Z a0 hw [] b_224 oe ((4 : Int32) + (1 : Int32)) kq_224 cA195 ((0 + 1 + 1 + 1 + 1) + 1) ((((([] ++ [(.int (60 : Int32))]) ++ [(.int c1.toInt8.toInt32)]) ++ [(.int (58 : Int32))]) ++ [(.int c2.toInt8.toInt32)]) ++ [(.int (62 : Int32))]) ([(.int (60 : Int32)), (.int c1.toInt8.toInt32), (.int (58 : Int32)), (.int c2.toInt8.toInt32), (.int (62 : Int32)), (.int (0 : Int32)), (.int (0 : Int32)), (.int (0 : Int32))]) T224.heap n0 Zs224 f224_1 A_oe_225 (by decide) (by decide) (fun i hi => match i, hi with | 0, _ => ⟨_, rfl, rfl⟩ | 1, _ => ⟨_, rfl, rfl⟩ | 2, _ => ⟨_, rfl, rfl⟩ | 3, _ => ⟨_, rfl, rfl⟩ | 4, _ => ⟨_, rfl, rfl⟩ | n + 5, h => absurd h (by omega))) hZ (hw _ (List.mem_of_getElem? (i := 66) rfl)) (hw _ (List.mem_of_getElem? (i := 65) rfl)) (by decide) (by decide)) (g := (mkF m 245 #[.val (.int p1), .val (.int p2), .val (.int p3), .val (.int c1), .val (.int c2), .val (.int (1 : Int32)), .val (.int (0 : Int32)), .val (.ref b_191), .val (.ref b_193), .val (.ref oe), .val (.int ((4 : Int32) + (1 : Int32))), .val (.ref om), .val (.ref b_211), .val (.ref b_218), .val (.ref b_224), .unset] [(.int ((4 : Int32) + (1 : Int32))), (.ref oe), (.ref b_224)])) rfl (by rw [hml]; rfl) (argsL := [(.ref b_224), (.ref oe), (.int ((4 : Int32) + (1 : Int32)))]) (rest := []) (lenOf own_pd17 rfl) rfl (by show 2 * 0 + _ ≤ _; exact Nat.le_of_eq rfl) (hb hby at_245) (fun _ _ => ⟨rfl, rfl, (by decide : 10 + 0 ≤ _), (by decide : 16428 + 0 ≤ _)⟩)
      dsimp only [Pt.U, Pt.locs, Pt.cells, Pt.slots] at X226 l226 y226 z226 st226 hQ226
      subst l226 y226 z226
      obtain ⟨rfl, Nq226, e226⟩ := hQ226
      refine Go.st st226 ?_
      have N226 := Fr.app N224 Nq226
      show Go p e below _ (T226.setTop (mkF m 248 #[.val (.int p1), .val (.int p2), .val (.int p3), .val (.int c1), .val (.int c2), .val (.int (1 : Int32)), .val (.int (0 : Int32)), .val (.ref b_191), .val (.ref b_193), .val (.ref oe), .val (.int ((4 : Int32) + (1 : Int32))), .val (.ref om), .val (.ref b_211), .val (.ref b_218), .val (.ref b_224), .unset] [(.int (1 : Int32))]))
      refine g_if_ne X226 hx (hb hby at_248) 253 251 (by decide) (by decide) rfl (fun hc248 => ?_) (fun hc248 => False.elim (absurd hc248 (by decide)))
      refine g_aload X226 hx (hb hby at_253) 255 rfl (v := (.ref om)) rfl rfl ?_
      obtain ⟨cq227, kq227, q227a, q227b, q227c⟩ := isOf hZ e226 E_om_225
      obtain ⟨_, _, ⟨T227, L227, k227, n227⟩, -, X227, ⟨Lc227, hQ227, l227, y227, z227⟩, st227⟩ := X226.virtualBack hx (y := (⟨"com/example/anagrafe/anagrafe/atom/Markup", "endStart", "()V"⟩ : MethodName)) (z := (⟨"com/example/anagrafe/anagrafe/atom/Markup", "endStart", "()V"⟩ : MethodName)) hown (mvT hZ (hw _ (List.mem_of_getElem? (i := 54) rfl))) (mvT hZ (hw _ (List.mem_of_getElem? (i := 55) rfl))) (notFace_of_selects (args := #[]) (mvT hZ (hw _ (List.mem_of_getElem? (i := 57) rfl)))) (mvT hZ (hw _ (List.mem_of_getElem? (i := 57) rfl))) (mvT hZ (hw _ (List.mem_of_getElem? (i := 56) rfl))) (by decide) (backOf (W := 0) (rm10 l Z a0 hw [] om wq_209 kq_209 ((0 + 1 + 1 + 1 + 1) + 1) ((((([] ++ [(.int (60 : Int32))]) ++ [(.int c1.toInt8.toInt32)]) ++ [(.int (58 : Int32))]) ++ [(.int c2.toInt8.toInt32)]) ++ [(.int (62 : Int32))]) T224.heap n0 Zs224 E_om_225 F_bytes_om_225 F_size_om_225 A_wq_209_225 g_om g_wq_209 ne_om_wq_209 rfl (by decide)) hZ (hw _ (List.mem_of_getElem? (i := 58) rfl)) (hw _ (List.mem_of_getElem? (i := 28) rfl)) (by decide) (by decide)) q227a q227c (g := (mkF m 255 #[.val (.int p1), .val (.int p2), .val (.int p3), .val (.int c1), .val (.int c2), .val (.int (1 : Int32)), .val (.int (0 : Int32)), .val (.ref b_191), .val (.ref b_193), .val (.ref oe), .val (.int ((4 : Int32) + (1 : Int32))), .val (.ref om), .val (.ref b_211), .val (.ref b_218), .val (.ref b_224), .unset] [(.ref om)])) rfl (by rw [hml]; rfl) (Steps.refl _) (argsL := []) (rest := []) (lenOf own_pd15 rfl) rfl (by show 2 * 0 + _ ≤ _; exact Nat.le_of_eq rfl) (hb hby at_255) (fun _ _ => ⟨rfl, e226, (by decide : 10 + 0 ≤ _), (by decide : 16428 + 0 ≤ _)⟩)
      dsimp only [Pt.U, Pt.locs, Pt.cells, Pt.slots] at X227 l227 y227 z227 st227 hQ227
      subst l227 y227 z227
      obtain ⟨rfl, Nq227, Kq227, f227_0, f227_1, f227_2, f227_3⟩ := hQ227
      refine Go.tr st227 ?_
      have N227 := Fr.app N226 Nq227
      have A_oe_228 : Arv Z T227.heap oe cA195 .byte (8 : Int32) ([(.int (60 : Int32)), (.int c1.toInt8.toInt32), (.int (58 : Int32)), (.int c2.toInt8.toInt32), (.int (62 : Int32)), (.int (0 : Int32)), (.int (0 : Int32)), (.int (0 : Int32))]) (.int (0 : Int32)) := Arv.keep A_oe_225 Kq227 (ninS ne_oe_om (ninS ne_oe_wq_209 nin0))
      have E_om_228 : Exa Z T227.heap om "com/example/anagrafe/anagrafe/atom/Markup" := Exa.keep E_om_225 Kq227
      have A_b_211_228 : Arv Z T227.heap b_211 kq_211 .byte (Int32.ofNat 0) [] (.int (0 : Int32)) := Arv.keep A_b_211_225 Kq227 (ninS (Ne.symm ne_om_b_211) (ninS (Ne.symm ne_wq_209_b_211) nin0))
      have A_b_218_228 : Arv Z T227.heap b_218 kq_218 .byte (Int32.ofNat ((0 + 1 + 1 + 1 + 1) + 1)) (List.set (α := Value) ((((([] ++ [(.int (60 : Int32))]) ++ [(.int c1.toInt8.toInt32)]) ++ [(.int (58 : Int32))]) ++ [(.int c2.toInt8.toInt32)]) ++ [(.int (62 : Int32))]) 0 (.int (nar .byte (((60 : Int32) ^^^ (1 : Int32)).toInt8.toInt32)))) (.int (0 : Int32)) := Arv.keep A_b_218_225 Kq227 (ninS (Ne.symm ne_om_b_218) (ninS (Ne.symm ne_wq_209_b_218) nin0))
      have A_b_224_228 : Arv Z T227.heap b_224 kq_224 .byte (Int32.ofNat ((0 + 1 + 1 + 1 + 1) + 1)) ((((([] ++ [(.int (60 : Int32))]) ++ [(.int c1.toInt8.toInt32)]) ++ [(.int (58 : Int32))]) ++ [(.int c2.toInt8.toInt32)]) ++ [(.int (62 : Int32))]) (.int (0 : Int32)) := Arv.keep f224_1 Kq227 (ninS (Ne.symm ne_om_b_224) (ninS (Ne.symm ne_wq_209_b_224) nin0))
      have K227 : Keep h0 T227.heap [] := Keep.trans K224 Kq227 (allS (Or.inr mh_om) (allS (Or.inr mh_wq_209) all0))
      have Zs227 : n0 ≤ T227.heap.size := Nat.le_trans Zs224 Kq227.1
      show Go p e below _ (T227.setTop (mkF m 258 #[.val (.int p1), .val (.int p2), .val (.int p3), .val (.int c1), .val (.int c2), .val (.int (1 : Int32)), .val (.int (0 : Int32)), .val (.ref b_191), .val (.ref b_193), .val (.ref oe), .val (.int ((4 : Int32) + (1 : Int32))), .val (.ref om), .val (.ref b_211), .val (.ref b_218), .val (.ref b_224), .unset] []))
      refine g_aload X227 hx (hb hby at_258) 260 rfl (v := (.ref oe)) rfl rfl ?_
      refine g_iload X227 hx (hb hby at_260) 262 rfl (v := ((4 : Int32) + (1 : Int32))) rfl ?_
      refine g_bipush X227 hx (hb hby at_262) 264 rfl (62 : Int32) rfl ?_
      obtain ⟨T229, h229, X229, e229, W229, B229, st229⟩ := g_bastore X227 hx (hb hby at_264) hZ rfl A_oe_228 (show ¬ ((4 : Int32) + (1 : Int32)) < 0 ∧ ((4 : Int32) + (1 : Int32)) < (8 : Int32) from by decide) (i := 5) (by decide) (by simp)  (L := #[.val (.int p1), .val (.int p2), .val (.int p3), .val (.int c1), .val (.int c2), .val (.int (1 : Int32)), .val (.int (0 : Int32)), .val (.ref b_191), .val (.ref b_193), .val (.ref oe), .val (.int ((4 : Int32) + (1 : Int32))), .val (.ref om), .val (.ref b_211), .val (.ref b_218), .val (.ref b_224), .unset]) (S := [])
      refine Go.st st229 ?_
      have E_om_230 : Exa Z h229 om "com/example/anagrafe/anagrafe/atom/Markup" := Exa.wr W229 f227_0
      have A_b_211_230 : Arv Z h229 b_211 kq_211 .byte (Int32.ofNat 0) [] (.int (0 : Int32)) := Arv.other A_b_211_228 W229 (Ne.symm ne_oe_b_211)
      have A_b_218_230 : Arv Z h229 b_218 kq_218 .byte (Int32.ofNat ((0 + 1 + 1 + 1 + 1) + 1)) (List.set (α := Value) ((((([] ++ [(.int (60 : Int32))]) ++ [(.int c1.toInt8.toInt32)]) ++ [(.int (58 : Int32))]) ++ [(.int c2.toInt8.toInt32)]) ++ [(.int (62 : Int32))]) 0 (.int (nar .byte (((60 : Int32) ^^^ (1 : Int32)).toInt8.toInt32)))) (.int (0 : Int32)) := Arv.other A_b_218_228 W229 (Ne.symm ne_oe_b_218)
      have A_b_224_230 : Arv Z h229 b_224 kq_224 .byte (Int32.ofNat ((0 + 1 + 1 + 1 + 1) + 1)) ((((([] ++ [(.int (60 : Int32))]) ++ [(.int c1.toInt8.toInt32)]) ++ [(.int (58 : Int32))]) ++ [(.int c2.toInt8.toInt32)]) ++ [(.int (62 : Int32))]) (.int (0 : Int32)) := Arv.other A_b_224_228 W229 (Ne.symm ne_oe_b_224)
      have F_bytes_om_230 : Fld Z h229 om "com/example/anagrafe/anagrafe/atom/Markup" "bytes" "[B" (.ref wq_209) := Fld.other W229 f227_1 (Or.inl (Ne.symm ne_oe_om))
      have F_size_om_230 : Fld Z h229 om "com/example/anagrafe/anagrafe/atom/Markup" "size" "I" (.int (Int32.ofNat (((0 + 1 + 1 + 1 + 1) + 1) + 1))) := Fld.other W229 f227_2 (Or.inl (Ne.symm ne_oe_om))
      have A_wq_209_230 : Arv Z h229 wq_209 kq_209 .byte (Int32.ofNat 16384) (((((([] ++ [(.int (60 : Int32))]) ++ [(.int c1.toInt8.toInt32)]) ++ [(.int (58 : Int32))]) ++ [(.int c2.toInt8.toInt32)]) ++ [(.int (62 : Int32))]) ++ [(.int (62 : Int32))]) (.int (0 : Int32)) := Arv.other f227_3 W229 (Ne.symm ne_oe_wq_209)
      have Av_oe_229 : Arv Z h229 oe cA195 .byte (8 : Int32) ([(.int (60 : Int32)), (.int c1.toInt8.toInt32), (.int (58 : Int32)), (.int c2.toInt8.toInt32), (.int (62 : Int32)), (.int (62 : Int32)), (.int (0 : Int32)), (.int (0 : Int32))]) (.int (0 : Int32)) := B229
      have K229 : Keep h0 h229 [] := Keep.wr K227 W229 (Or.inr mh_oe)
      have N229 := Fr.snoc X229 N227 g_oe
      have Zs229 : n0 ≤ h229.size := by rw [W229.size]; exact Zs227
      show Go p e below _ (T229.setTop (mkF m 265 #[.val (.int p1), .val (.int p2), .val (.int p3), .val (.int c1), .val (.int c2), .val (.int (1 : Int32)), .val (.int (0 : Int32)), .val (.ref b_191), .val (.ref b_193), .val (.ref oe), .val (.int ((4 : Int32) + (1 : Int32))), .val (.ref om), .val (.ref b_211), .val (.ref b_218), .val (.ref b_224), .unset] []))
      refine g_aload X229 hx (hb hby at_265) 267 rfl (v := (.ref om)) rfl rfl ?_
      obtain ⟨cq231, kq231, q231a, q231b, q231c⟩ := isOf hZ e229 E_om_230
      obtain ⟨_, _, ⟨T231, L231, k231, n231⟩, -, X231, ⟨Lc231, hQ231, l231, y231, z231⟩, st231⟩ := X229.virtualBack hx (y := (⟨"com/example/anagrafe/anagrafe/atom/Markup", "toByteArray", "()[B"⟩ : MethodName)) (z := (⟨"com/example/anagrafe/anagrafe/atom/Markup", "toByteArray", "()[B"⟩ : MethodName)) hown (mvT hZ (hw _ (List.mem_of_getElem? (i := 35) rfl))) (mvT hZ (hw _ (List.mem_of_getElem? (i := 36) rfl))) (notFace_of_selects (args := #[]) (mvT hZ (hw _ (List.mem_of_getElem? (i := 38) rfl)))) (mvT hZ (hw _ (List.mem_of_getElem? (i := 38) rfl))) (mvT hZ (hw _ (List.mem_of_getElem? (i := 37) rfl))) (by decide) (backOf (W := 0) (rm7 l Z a0 hw [] om wq_209 kq_209 (((0 + 1 + 1 + 1 + 1) + 1) + 1) (((((([] ++ [(.int (60 : Int32))]) ++ [(.int c1.toInt8.toInt32)]) ++ [(.int (58 : Int32))]) ++ [(.int c2.toInt8.toInt32)]) ++ [(.int (62 : Int32))]) ++ [(.int (62 : Int32))]) h229 n0 Zs229 E_om_230 F_bytes_om_230 F_size_om_230 A_wq_209_230 rfl (by decide)) hZ (hw _ (List.mem_of_getElem? (i := 39) rfl)) (hw _ (List.mem_of_getElem? (i := 28) rfl)) (by decide) (by decide)) q231a q231c (g := (mkF m 267 #[.val (.int p1), .val (.int p2), .val (.int p3), .val (.int c1), .val (.int c2), .val (.int (1 : Int32)), .val (.int (0 : Int32)), .val (.ref b_191), .val (.ref b_193), .val (.ref oe), .val (.int ((4 : Int32) + (1 : Int32))), .val (.ref om), .val (.ref b_211), .val (.ref b_218), .val (.ref b_224), .unset] [(.ref om)])) rfl (by rw [hml]; rfl) (Steps.refl _) (argsL := []) (rest := []) (lenOf own_pd16 rfl) rfl (by show 2 * 0 + _ ≤ _; exact Nat.le_of_eq rfl) (hb hby at_267) (fun _ _ => ⟨rfl, e229, (by decide : 10 + 1 ≤ _), (by decide : 16428 + 8 ≤ _)⟩)
      dsimp only [Pt.U, Pt.locs, Pt.cells, Pt.slots] at X231 l231 y231 z231 st231 hQ231
      subst l231 y231 z231
      obtain ⟨b_231, kq_231, rfl, Nq231, Kq231, f231_0, f231_1⟩ := hQ231
      refine Go.tr st231 ?_
      have N231 := Fr.app N229 Nq231
      have E_om_232 : Exa Z T231.heap om "com/example/anagrafe/anagrafe/atom/Markup" := Exa.keep E_om_230 Kq231
      have A_b_211_232 : Arv Z T231.heap b_211 kq_211 .byte (Int32.ofNat 0) [] (.int (0 : Int32)) := Arv.keep A_b_211_230 Kq231 nin0
      have A_b_218_232 : Arv Z T231.heap b_218 kq_218 .byte (Int32.ofNat ((0 + 1 + 1 + 1 + 1) + 1)) (List.set (α := Value) ((((([] ++ [(.int (60 : Int32))]) ++ [(.int c1.toInt8.toInt32)]) ++ [(.int (58 : Int32))]) ++ [(.int c2.toInt8.toInt32)]) ++ [(.int (62 : Int32))]) 0 (.int (nar .byte (((60 : Int32) ^^^ (1 : Int32)).toInt8.toInt32)))) (.int (0 : Int32)) := Arv.keep A_b_218_230 Kq231 nin0
      have A_b_224_232 : Arv Z T231.heap b_224 kq_224 .byte (Int32.ofNat ((0 + 1 + 1 + 1 + 1) + 1)) ((((([] ++ [(.int (60 : Int32))]) ++ [(.int c1.toInt8.toInt32)]) ++ [(.int (58 : Int32))]) ++ [(.int c2.toInt8.toInt32)]) ++ [(.int (62 : Int32))]) (.int (0 : Int32)) := Arv.keep A_b_224_230 Kq231 nin0
      have F_bytes_om_232 : Fld Z T231.heap om "com/example/anagrafe/anagrafe/atom/Markup" "bytes" "[B" (.ref wq_209) := Fld.keep F_bytes_om_230 Kq231 nin0
      have F_size_om_232 : Fld Z T231.heap om "com/example/anagrafe/anagrafe/atom/Markup" "size" "I" (.int (Int32.ofNat (((0 + 1 + 1 + 1 + 1) + 1) + 1))) := Fld.keep F_size_om_230 Kq231 nin0
      have A_wq_209_232 : Arv Z T231.heap wq_209 kq_209 .byte (Int32.ofNat 16384) (((((([] ++ [(.int (60 : Int32))]) ++ [(.int c1.toInt8.toInt32)]) ++ [(.int (58 : Int32))]) ++ [(.int c2.toInt8.toInt32)]) ++ [(.int (62 : Int32))]) ++ [(.int (62 : Int32))]) (.int (0 : Int32)) := Arv.keep A_wq_209_230 Kq231 nin0
      have A_oe_232 : Arv Z T231.heap oe cA195 .byte (8 : Int32) ([(.int (60 : Int32)), (.int c1.toInt8.toInt32), (.int (58 : Int32)), (.int c2.toInt8.toInt32), (.int (62 : Int32)), (.int (62 : Int32)), (.int (0 : Int32)), (.int (0 : Int32))]) (.int (0 : Int32)) := Arv.keep Av_oe_229 Kq231 nin0
      have ne_om_b_231 : om ≠ b_231 := Nat.ne_of_lt (Nat.lt_of_lt_of_le E_om_230.lt f231_0)
      have ne_b_211_b_231 : b_211 ≠ b_231 := Nat.ne_of_lt (Nat.lt_of_lt_of_le A_b_211_230.lt f231_0)
      have ne_b_218_b_231 : b_218 ≠ b_231 := Nat.ne_of_lt (Nat.lt_of_lt_of_le A_b_218_230.lt f231_0)
      have ne_b_224_b_231 : b_224 ≠ b_231 := Nat.ne_of_lt (Nat.lt_of_lt_of_le A_b_224_230.lt f231_0)
      have ne_wq_209_b_231 : wq_209 ≠ b_231 := Nat.ne_of_lt (Nat.lt_of_lt_of_le A_wq_209_230.lt f231_0)
      have ne_oe_b_231 : oe ≠ b_231 := Nat.ne_of_lt (Nat.lt_of_lt_of_le Av_oe_229.lt f231_0)
      have g_b_231 : n0 ≤ b_231 := Nat.le_trans Zs229 f231_0
      have mh_b_231 : h0.size ≤ b_231 := Nat.le_trans K229.1 f231_0
      have K231 : Keep h0 T231.heap [] := Keep.trans K229 Kq231 all0
      have Zs231 : n0 ≤ T231.heap.size := Nat.le_trans Zs229 Kq231.1
      show Go p e below _ (T231.setTop (mkF m 270 #[.val (.int p1), .val (.int p2), .val (.int p3), .val (.int c1), .val (.int c2), .val (.int (1 : Int32)), .val (.int (0 : Int32)), .val (.ref b_191), .val (.ref b_193), .val (.ref oe), .val (.int ((4 : Int32) + (1 : Int32))), .val (.ref om), .val (.ref b_211), .val (.ref b_218), .val (.ref b_224), .unset] [(.ref b_231)]))
      refine g_astore X231 hx (hb hby at_270) 272 rfl rfl #[.val (.int p1), .val (.int p2), .val (.int p3), .val (.int c1), .val (.int c2), .val (.int (1 : Int32)), .val (.int (0 : Int32)), .val (.ref b_191), .val (.ref b_193), .val (.ref oe), .val (.int ((4 : Int32) + (1 : Int32))), .val (.ref om), .val (.ref b_211), .val (.ref b_218), .val (.ref b_224), .val (.ref b_231)] rfl ?_
      refine g_aload X231 hx (hb hby at_272) 274 rfl (v := (.ref b_211)) rfl rfl ?_
      refine g_alen X231 hx (hb hby at_274) 275 rfl hZ rfl A_b_211_232 ?_
      refine g_if_ne X231 hx (hb hby at_275) 303 278 (by decide) (by decide) rfl (fun hc275 => False.elim (hc275 rfl)) (fun hc275 => ?_)
      refine g_aload X231 hx (hb hby at_278) 280 rfl (v := (.ref b_231)) rfl rfl ?_
      refine g_aload X231 hx (hb hby at_280) 282 rfl (v := (.ref b_224)) rfl rfl ?_
      refine g_acmp_eq X231 hx (hb hby at_282) 303 285 (by decide) (by decide) rfl rfl rfl (fun hc282 => False.elim ((Ne.symm ne_b_224_b_231) (Value.ref.inj hc282))) (fun hc282 => ?_)
      refine g_aload X231 hx (hb hby at_285) 287 rfl (v := (.ref b_231)) rfl rfl ?_
      refine g_aload X231 hx (hb hby at_287) 289 rfl (v := (.ref oe)) rfl rfl ?_
      refine g_iload X231 hx (hb hby at_289) 291 rfl (v := ((4 : Int32) + (1 : Int32))) rfl ?_
      refine g_iconst X231 hx (hb hby at_291) 292 rfl (1 : Int32) rfl ?_
      refine g_iadd X231 hx (hb hby at_292) 293 rfl (((4 : Int32) + (1 : Int32)) + (1 : Int32)) rfl ?_
      obtain ⟨_, _, ⟨T234, L234, k234, n234⟩, -, X234, ⟨Lc234, hQ234, l234, y234, z234⟩, st234⟩ := Jvm.LawKit.callS X231 hx (y := (⟨"com/example/anagrafe/anagrafe/atom/MarkupToByteArrayPinLaw", "same", "([B[BI)Z"⟩ : MethodName)) hown (mvT hZ (hw _ (List.mem_of_getElem? (i := 63) rfl))) (mvT hZ (hw _ (List.mem_of_getElem? (i := 64) rfl))) (mvT hZ (hw _ (List.mem_of_getElem? (i := 65) rfl))) (mvT hZ (hw _ (List.mem_of_getElem? (i := 66) rfl))) (by decide) (backOf (W := 0) (rmsame l Z a0 hw [] b_231 oe (((4 : Int32) + (1 : Int32)) + (1 : Int32)) kq_231 cA195 (((0 + 1 + 1 + 1 + 1) + 1) + 1) (((((([] ++ [(.int (60 : Int32))]) ++ [(.int c1.toInt8.toInt32)]) ++ [(.int (58 : Int32))]) ++ [(.int c2.toInt8.toInt32)]) ++ [(.int (62 : Int32))]) ++ [(.int (62 : Int32))]) ([(.int (60 : Int32)), (.int c1.toInt8.toInt32), (.int (58 : Int32)), (.int c2.toInt8.toInt32), (.int (62 : Int32)), (.int (62 : Int32)), (.int (0 : Int32)), (.int (0 : Int32))]) T231.heap n0 Zs231 f231_1 A_oe_232 (by decide) (by decide) (fun i hi => match i, hi with | 0, _ => ⟨_, rfl, rfl⟩ | 1, _ => ⟨_, rfl, rfl⟩ | 2, _ => ⟨_, rfl, rfl⟩ | 3, _ => ⟨_, rfl, rfl⟩ | 4, _ => ⟨_, rfl, rfl⟩ | 5, _ => ⟨_, rfl, rfl⟩ | n + 6, h => absurd h (by omega))) hZ (hw _ (List.mem_of_getElem? (i := 66) rfl)) (hw _ (List.mem_of_getElem? (i := 65) rfl)) (by decide) (by decide)) (g := (mkF m 293 #[.val (.int p1), .val (.int p2), .val (.int p3), .val (.int c1), .val (.int c2), .val (.int (1 : Int32)), .val (.int (0 : Int32)), .val (.ref b_191), .val (.ref b_193), .val (.ref oe), .val (.int ((4 : Int32) + (1 : Int32))), .val (.ref om), .val (.ref b_211), .val (.ref b_218), .val (.ref b_224), .val (.ref b_231)] [(.int (((4 : Int32) + (1 : Int32)) + (1 : Int32))), (.ref oe), (.ref b_231)])) rfl (by rw [hml]; rfl) (argsL := [(.ref b_231), (.ref oe), (.int (((4 : Int32) + (1 : Int32)) + (1 : Int32)))]) (rest := []) (lenOf own_pd17 rfl) rfl (by show 2 * 0 + _ ≤ _; exact Nat.le_of_eq rfl) (hb hby at_293) (fun _ _ => ⟨rfl, rfl, (by decide : 11 + 0 ≤ _), (by decide : 16436 + 0 ≤ _)⟩)
      dsimp only [Pt.U, Pt.locs, Pt.cells, Pt.slots] at X234 l234 y234 z234 st234 hQ234
      subst l234 y234 z234
      obtain ⟨rfl, Nq234, e234⟩ := hQ234
      refine Go.st st234 ?_
      have N234 := Fr.app N231 Nq234
      show Go p e below _ (T234.setTop (mkF m 296 #[.val (.int p1), .val (.int p2), .val (.int p3), .val (.int c1), .val (.int c2), .val (.int (1 : Int32)), .val (.int (0 : Int32)), .val (.ref b_191), .val (.ref b_193), .val (.ref oe), .val (.int ((4 : Int32) + (1 : Int32))), .val (.ref om), .val (.ref b_211), .val (.ref b_218), .val (.ref b_224), .val (.ref b_231)] [(.int (1 : Int32))]))
      refine g_if_eq X234 hx (hb hby at_296) 303 299 (by decide) (by decide) rfl (fun hc296 => False.elim (absurd hc296 (by decide))) (fun hc296 => ?_)
      refine g_iconst X234 hx (hb hby at_299) 300 rfl (1 : Int32) rfl ?_
      refine g_goto X234 hx (hb hby at_300) 304 (by decide) (by decide) ?_
      refine Go.retN X234 hx hlk (t := .boolean) Bd.returns (by simp) (hb hby at_304) (by decide) (by decide) ?_
      exact ⟨rfl, N234⟩
    · refine g_iconst X0 hx (hb hby at_32) 33 rfl (1 : Int32) rfl ?_
      refine g_goto X0 hx (hb hby at_33) 37 (by decide) (by decide) ?_
      refine g_istore X0 hx (hb hby at_37) 39 rfl #[.val (.int p1), .val (.int p2), .val (.int p3), .val (.int c1), .val (.int c2), .val (.int (1 : Int32)), .val (.int (1 : Int32)), .unset, .unset, .unset, .unset, .unset, .unset, .unset, .unset, .unset] rfl ?_
      refine g_iloadN X0 hx (hb hby at_39) 40 rfl (v := c1) rfl ?_
      obtain ⟨_, _, ⟨T235, L235, k235, n235⟩, -, X235, ⟨Lc235, hQ235, l235, y235, z235⟩, st235⟩ := Jvm.LawKit.callS X0 hx (y := (⟨"java/lang/String", "valueOf", "(C)Ljava/lang/String;"⟩ : MethodName)) hown (mvT hZ (hw _ (List.mem_of_getElem? (i := 0) rfl))) (mvT hZ (hw _ (List.mem_of_getElem? (i := 1) rfl))) (mvT hZ (hw _ (List.mem_of_getElem? (i := 2) rfl))) (mvT hZ (hw _ (List.mem_of_getElem? (i := 3) rfl))) (by decide) (backOf (W := 0) (rm1 l Z a0 hw [] c1 s_COMPACT_STRINGS h0 n0 Z0 S_COMPACT_STRINGS hz_s_COMPACT_STRINGS (e_c1 ▸ own_ch7 p2)) hZ (hw _ (List.mem_of_getElem? (i := 3) rfl)) (hw _ (List.mem_of_getElem? (i := 2) rfl)) (by decide) (by decide)) (g := (mkF m 40 #[.val (.int p1), .val (.int p2), .val (.int p3), .val (.int c1), .val (.int c2), .val (.int (1 : Int32)), .val (.int (1 : Int32)), .unset, .unset, .unset, .unset, .unset, .unset, .unset, .unset, .unset] [(.int c1)])) rfl (by rw [hml]; rfl) (argsL := [(.int c1)]) (rest := []) (lenOf own_pd14 rfl) rfl (by show 2 * 0 + _ ≤ _; exact Nat.le_of_eq rfl) (hb hby at_40) (fun _ _ => ⟨rfl, e0, (by decide : 0 + 2 ≤ _), (by decide : 0 + 5 ≤ _)⟩)
      dsimp only [Pt.U, Pt.locs, Pt.cells, Pt.slots] at X235 l235 y235 z235 st235 hQ235
      subst l235 y235 z235
      obtain ⟨b_235, vb_235, kb_235, rfl, Nq235, Kq235, f235_0, f235_1, f235_2, f235_3, f235_4, f235_5, f235_6⟩ := hQ235
      refine Go.st st235 ?_
      have N235 := Fr.app N0 Nq235
      have g_b_235 : n0 ≤ b_235 := Nat.le_trans Z0 f235_0
      have mh_b_235 : h0.size ≤ b_235 := Nat.le_trans K0.1 f235_0
      have g_vb_235 : n0 ≤ vb_235 := Nat.le_trans Z0 f235_1
      have mh_vb_235 : h0.size ≤ vb_235 := Nat.le_trans K0.1 f235_1
      have K235 : Keep h0 T235.heap [] := Keep.trans K0 Kq235 all0
      have Zs235 : n0 ≤ T235.heap.size := Nat.le_trans Z0 Kq235.1
      show Go p e below _ (T235.setTop (mkF m 43 #[.val (.int p1), .val (.int p2), .val (.int p3), .val (.int c1), .val (.int c2), .val (.int (1 : Int32)), .val (.int (1 : Int32)), .unset, .unset, .unset, .unset, .unset, .unset, .unset, .unset, .unset] [(.ref b_235)]))
      refine g_astore X235 hx (hb hby at_43) 45 rfl rfl #[.val (.int p1), .val (.int p2), .val (.int p3), .val (.int c1), .val (.int c2), .val (.int (1 : Int32)), .val (.int (1 : Int32)), .val (.ref b_235), .unset, .unset, .unset, .unset, .unset, .unset, .unset, .unset] rfl ?_
      refine g_iload X235 hx (hb hby at_45) 47 rfl (v := c2) rfl ?_
      obtain ⟨_, _, ⟨T237, L237, k237, n237⟩, -, X237, ⟨Lc237, hQ237, l237, y237, z237⟩, st237⟩ := Jvm.LawKit.callS X235 hx (y := (⟨"java/lang/String", "valueOf", "(C)Ljava/lang/String;"⟩ : MethodName)) hown (mvT hZ (hw _ (List.mem_of_getElem? (i := 0) rfl))) (mvT hZ (hw _ (List.mem_of_getElem? (i := 1) rfl))) (mvT hZ (hw _ (List.mem_of_getElem? (i := 2) rfl))) (mvT hZ (hw _ (List.mem_of_getElem? (i := 3) rfl))) (by decide) (backOf (W := 0) (rm1 l Z a0 hw [] c2 s_COMPACT_STRINGS T235.heap n0 Zs235 (own_Sta_keep S_COMPACT_STRINGS K235 all0) hz_s_COMPACT_STRINGS (e_c2 ▸ own_ch7 p3)) hZ (hw _ (List.mem_of_getElem? (i := 3) rfl)) (hw _ (List.mem_of_getElem? (i := 2) rfl)) (by decide) (by decide)) (g := (mkF m 47 #[.val (.int p1), .val (.int p2), .val (.int p3), .val (.int c1), .val (.int c2), .val (.int (1 : Int32)), .val (.int (1 : Int32)), .val (.ref b_235), .unset, .unset, .unset, .unset, .unset, .unset, .unset, .unset] [(.int c2)])) rfl (by rw [hml]; rfl) (argsL := [(.int c2)]) (rest := []) (lenOf own_pd14 rfl) rfl (by show 2 * 0 + _ ≤ _; exact Nat.le_of_eq rfl) (hb hby at_47) (fun _ _ => ⟨rfl, rfl, (by decide : 2 + 2 ≤ _), (by decide : 5 + 5 ≤ _)⟩)
      dsimp only [Pt.U, Pt.locs, Pt.cells, Pt.slots] at X237 l237 y237 z237 st237 hQ237
      subst l237 y237 z237
      obtain ⟨b_237, vb_237, kb_237, rfl, Nq237, Kq237, f237_0, f237_1, f237_2, f237_3, f237_4, f237_5, f237_6⟩ := hQ237
      refine Go.st st237 ?_
      have N237 := Fr.app N235 Nq237
      have E_b_235_238 : Exa Z T237.heap b_235 "java/lang/String" := Exa.keep f235_3 Kq237
      have F_value_b_235_238 : Fld Z T237.heap b_235 "java/lang/String" "value" "[B" (.ref vb_235) := Fld.keep f235_4 Kq237 nin0
      have F_coder_b_235_238 : Fld Z T237.heap b_235 "java/lang/String" "coder" "B" (.int (0 : Int32)) := Fld.keep f235_5 Kq237 nin0
      have A_vb_235_238 : Arv Z T237.heap vb_235 kb_235 .byte (1 : Int32) ([(.int c1.toInt8.toInt32)]) (.int (0 : Int32)) := Arv.keep f235_6 Kq237 nin0
      have ne_b_235_b_237 : b_235 ≠ b_237 := Nat.ne_of_lt (Nat.lt_of_lt_of_le f235_3.lt f237_0)
      have ne_vb_235_b_237 : vb_235 ≠ b_237 := Nat.ne_of_lt (Nat.lt_of_lt_of_le f235_6.lt f237_0)
      have g_b_237 : n0 ≤ b_237 := Nat.le_trans Zs235 f237_0
      have mh_b_237 : h0.size ≤ b_237 := Nat.le_trans K235.1 f237_0
      have ne_b_235_vb_237 : b_235 ≠ vb_237 := Nat.ne_of_lt (Nat.lt_of_lt_of_le f235_3.lt f237_1)
      have ne_vb_235_vb_237 : vb_235 ≠ vb_237 := Nat.ne_of_lt (Nat.lt_of_lt_of_le f235_6.lt f237_1)
      have g_vb_237 : n0 ≤ vb_237 := Nat.le_trans Zs235 f237_1
      have mh_vb_237 : h0.size ≤ vb_237 := Nat.le_trans K235.1 f237_1
      have K237 : Keep h0 T237.heap [] := Keep.trans K235 Kq237 all0
      have Zs237 : n0 ≤ T237.heap.size := Nat.le_trans Zs235 Kq237.1
      show Go p e below _ (T237.setTop (mkF m 50 #[.val (.int p1), .val (.int p2), .val (.int p3), .val (.int c1), .val (.int c2), .val (.int (1 : Int32)), .val (.int (1 : Int32)), .val (.ref b_235), .unset, .unset, .unset, .unset, .unset, .unset, .unset, .unset] [(.ref b_237)]))
      refine g_astore X237 hx (hb hby at_50) 52 rfl rfl #[.val (.int p1), .val (.int p2), .val (.int p3), .val (.int c1), .val (.int c2), .val (.int (1 : Int32)), .val (.int (1 : Int32)), .val (.ref b_235), .val (.ref b_237), .unset, .unset, .unset, .unset, .unset, .unset, .unset] rfl ?_
      refine g_bipush X237 hx (hb hby at_52) 54 rfl (8 : Int32) rfl ?_
      obtain ⟨T239, h239, cA239, X239, e239, E239, A239, st239⟩ := newP X237 hx hZ (aty := .byte) (hw _ (List.mem_of_getElem? (i := 14) rfl)) rfl (g := (mkF m 54 #[.val (.int p1), .val (.int p2), .val (.int p3), .val (.int c1), .val (.int c2), .val (.int (1 : Int32)), .val (.int (1 : Int32)), .val (.ref b_235), .val (.ref b_237), .unset, .unset, .unset, .unset, .unset, .unset, .unset] [(.int (8 : Int32))])) rfl (hb hby at_54) rfl (by decide) (cap := 8) (by decide) (by decide) (by decide) (by decide)
      refine Go.st st239 ?_
      obtain ⟨oe, q239⟩ : ∃ z, z = T237.heap.size := ⟨_, rfl⟩
      rw [← q239] at A239 ⊢
      have ne_b_235_oe : b_235 ≠ oe := Nat.ne_of_lt (Nat.lt_of_lt_of_eq E_b_235_238.lt q239.symm)
      have ne_vb_235_oe : vb_235 ≠ oe := Nat.ne_of_lt (Nat.lt_of_lt_of_eq A_vb_235_238.lt q239.symm)
      have ne_b_237_oe : b_237 ≠ oe := Nat.ne_of_lt (Nat.lt_of_lt_of_eq f237_3.lt q239.symm)
      have ne_vb_237_oe : vb_237 ≠ oe := Nat.ne_of_lt (Nat.lt_of_lt_of_eq f237_6.lt q239.symm)
      have g_oe : n0 ≤ oe := Nat.le_trans Zs237 (Nat.le_of_eq q239.symm)
      have mh_oe : h0.size ≤ oe := Nat.le_trans K237.1 (Nat.le_of_eq q239.symm)
      have E_b_235_240 : Exa Z h239 b_235 "java/lang/String" := Exa.ext E239 E_b_235_238
      have F_value_b_235_240 : Fld Z h239 b_235 "java/lang/String" "value" "[B" (.ref vb_235) := Fld.ext E239 F_value_b_235_238
      have F_coder_b_235_240 : Fld Z h239 b_235 "java/lang/String" "coder" "B" (.int (0 : Int32)) := Fld.ext E239 F_coder_b_235_238
      have A_vb_235_240 : Arv Z h239 vb_235 kb_235 .byte (1 : Int32) ([(.int c1.toInt8.toInt32)]) (.int (0 : Int32)) := Arv.ext A_vb_235_238 E239
      have E_b_237_240 : Exa Z h239 b_237 "java/lang/String" := Exa.ext E239 f237_3
      have F_value_b_237_240 : Fld Z h239 b_237 "java/lang/String" "value" "[B" (.ref vb_237) := Fld.ext E239 f237_4
      have F_coder_b_237_240 : Fld Z h239 b_237 "java/lang/String" "coder" "B" (.int (0 : Int32)) := Fld.ext E239 f237_5
      have A_vb_237_240 : Arv Z h239 vb_237 kb_237 .byte (1 : Int32) ([(.int c2.toInt8.toInt32)]) (.int (0 : Int32)) := Arv.ext f237_6 E239
      have K239 : Keep h0 h239 [] := Keep.ext K237 E239
      have Zs239 : n0 ≤ h239.size := Nat.le_trans Zs237 E239.1
      have Av_oe : Arv Z h239 oe cA239 .byte (8 : Int32) ([(.int (0 : Int32)), (.int (0 : Int32)), (.int (0 : Int32)), (.int (0 : Int32)), (.int (0 : Int32)), (.int (0 : Int32)), (.int (0 : Int32)), (.int (0 : Int32))]) (.int (0 : Int32)) := Arv.pad (Arv.new A239 (by decide)) (pad_rep [] (.int (0 : Int32)) 8)
      show Go p e below _ (T239.setTop (mkF m 56 #[.val (.int p1), .val (.int p2), .val (.int p3), .val (.int c1), .val (.int c2), .val (.int (1 : Int32)), .val (.int (1 : Int32)), .val (.ref b_235), .val (.ref b_237), .unset, .unset, .unset, .unset, .unset, .unset, .unset] [(.ref oe)]))
      refine g_astore X239 hx (hb hby at_56) 58 rfl rfl #[.val (.int p1), .val (.int p2), .val (.int p3), .val (.int c1), .val (.int c2), .val (.int (1 : Int32)), .val (.int (1 : Int32)), .val (.ref b_235), .val (.ref b_237), .val (.ref oe), .unset, .unset, .unset, .unset, .unset, .unset] rfl ?_
      refine g_iconst X239 hx (hb hby at_58) 59 rfl (0 : Int32) rfl ?_
      refine g_istore X239 hx (hb hby at_59) 61 rfl #[.val (.int p1), .val (.int p2), .val (.int p3), .val (.int c1), .val (.int c2), .val (.int (1 : Int32)), .val (.int (1 : Int32)), .val (.ref b_235), .val (.ref b_237), .val (.ref oe), .val (.int (0 : Int32)), .unset, .unset, .unset, .unset, .unset] rfl ?_
      refine g_iload X239 hx (hb hby at_61) 63 rfl (v := (1 : Int32)) rfl ?_
      refine g_if_eq X239 hx (hb hby at_63) 94 66 (by decide) (by decide) rfl (fun hc63 => False.elim (absurd hc63 (by decide))) (fun hc63 => ?_)
      refine g_aload X239 hx (hb hby at_66) 68 rfl (v := (.ref oe)) rfl rfl ?_
      refine g_iconst X239 hx (hb hby at_68) 69 rfl (0 : Int32) rfl ?_
      refine g_bipush X239 hx (hb hby at_69) 71 rfl (60 : Int32) rfl ?_
      obtain ⟨T241, h241, X241, e241, W241, B241, st241⟩ := g_bastore X239 hx (hb hby at_71) hZ e239 Av_oe (show ¬ (0 : Int32) < 0 ∧ (0 : Int32) < (8 : Int32) from by decide) (i := 0) (by decide) (by simp)  (L := #[.val (.int p1), .val (.int p2), .val (.int p3), .val (.int c1), .val (.int c2), .val (.int (1 : Int32)), .val (.int (1 : Int32)), .val (.ref b_235), .val (.ref b_237), .val (.ref oe), .val (.int (0 : Int32)), .unset, .unset, .unset, .unset, .unset]) (S := [])
      refine Go.st st241 ?_
      have E_b_235_242 : Exa Z h241 b_235 "java/lang/String" := Exa.wr W241 E_b_235_240
      have F_value_b_235_242 : Fld Z h241 b_235 "java/lang/String" "value" "[B" (.ref vb_235) := Fld.other W241 F_value_b_235_240 (Or.inl ne_b_235_oe)
      have F_coder_b_235_242 : Fld Z h241 b_235 "java/lang/String" "coder" "B" (.int (0 : Int32)) := Fld.other W241 F_coder_b_235_240 (Or.inl ne_b_235_oe)
      have A_vb_235_242 : Arv Z h241 vb_235 kb_235 .byte (1 : Int32) ([(.int c1.toInt8.toInt32)]) (.int (0 : Int32)) := Arv.other A_vb_235_240 W241 ne_vb_235_oe
      have E_b_237_242 : Exa Z h241 b_237 "java/lang/String" := Exa.wr W241 E_b_237_240
      have F_value_b_237_242 : Fld Z h241 b_237 "java/lang/String" "value" "[B" (.ref vb_237) := Fld.other W241 F_value_b_237_240 (Or.inl ne_b_237_oe)
      have F_coder_b_237_242 : Fld Z h241 b_237 "java/lang/String" "coder" "B" (.int (0 : Int32)) := Fld.other W241 F_coder_b_237_240 (Or.inl ne_b_237_oe)
      have A_vb_237_242 : Arv Z h241 vb_237 kb_237 .byte (1 : Int32) ([(.int c2.toInt8.toInt32)]) (.int (0 : Int32)) := Arv.other A_vb_237_240 W241 ne_vb_237_oe
      have Av_oe_241 : Arv Z h241 oe cA239 .byte (8 : Int32) ([(.int (60 : Int32)), (.int (0 : Int32)), (.int (0 : Int32)), (.int (0 : Int32)), (.int (0 : Int32)), (.int (0 : Int32)), (.int (0 : Int32)), (.int (0 : Int32))]) (.int (0 : Int32)) := B241
      have K241 : Keep h0 h241 [] := Keep.wr K239 W241 (Or.inr mh_oe)
      have N241 := Fr.snoc X241 N237 g_oe
      have Zs241 : n0 ≤ h241.size := by rw [W241.size]; exact Zs239
      show Go p e below _ (T241.setTop (mkF m 72 #[.val (.int p1), .val (.int p2), .val (.int p3), .val (.int c1), .val (.int c2), .val (.int (1 : Int32)), .val (.int (1 : Int32)), .val (.ref b_235), .val (.ref b_237), .val (.ref oe), .val (.int (0 : Int32)), .unset, .unset, .unset, .unset, .unset] []))
      refine g_aload X241 hx (hb hby at_72) 74 rfl (v := (.ref oe)) rfl rfl ?_
      refine g_iconst X241 hx (hb hby at_74) 75 rfl (1 : Int32) rfl ?_
      refine g_iloadN X241 hx (hb hby at_75) 76 rfl (v := c1) rfl ?_
      refine g_i2b X241 hx (hb hby at_76) 77 rfl c1.toInt8.toInt32 rfl ?_
      obtain ⟨T243, h243, X243, e243, W243, B243, st243⟩ := g_bastore X241 hx (hb hby at_77) hZ e241 Av_oe_241 (show ¬ (1 : Int32) < 0 ∧ (1 : Int32) < (8 : Int32) from by decide) (i := 1) (by decide) (by simp)  (L := #[.val (.int p1), .val (.int p2), .val (.int p3), .val (.int c1), .val (.int c2), .val (.int (1 : Int32)), .val (.int (1 : Int32)), .val (.ref b_235), .val (.ref b_237), .val (.ref oe), .val (.int (0 : Int32)), .unset, .unset, .unset, .unset, .unset]) (S := [])
      refine Go.st st243 ?_
      have E_b_235_244 : Exa Z h243 b_235 "java/lang/String" := Exa.wr W243 E_b_235_242
      have F_value_b_235_244 : Fld Z h243 b_235 "java/lang/String" "value" "[B" (.ref vb_235) := Fld.other W243 F_value_b_235_242 (Or.inl ne_b_235_oe)
      have F_coder_b_235_244 : Fld Z h243 b_235 "java/lang/String" "coder" "B" (.int (0 : Int32)) := Fld.other W243 F_coder_b_235_242 (Or.inl ne_b_235_oe)
      have A_vb_235_244 : Arv Z h243 vb_235 kb_235 .byte (1 : Int32) ([(.int c1.toInt8.toInt32)]) (.int (0 : Int32)) := Arv.other A_vb_235_242 W243 ne_vb_235_oe
      have E_b_237_244 : Exa Z h243 b_237 "java/lang/String" := Exa.wr W243 E_b_237_242
      have F_value_b_237_244 : Fld Z h243 b_237 "java/lang/String" "value" "[B" (.ref vb_237) := Fld.other W243 F_value_b_237_242 (Or.inl ne_b_237_oe)
      have F_coder_b_237_244 : Fld Z h243 b_237 "java/lang/String" "coder" "B" (.int (0 : Int32)) := Fld.other W243 F_coder_b_237_242 (Or.inl ne_b_237_oe)
      have A_vb_237_244 : Arv Z h243 vb_237 kb_237 .byte (1 : Int32) ([(.int c2.toInt8.toInt32)]) (.int (0 : Int32)) := Arv.other A_vb_237_242 W243 ne_vb_237_oe
      have Av_oe_243 : Arv Z h243 oe cA239 .byte (8 : Int32) ([(.int (60 : Int32)), (.int c1.toInt8.toInt32), (.int (0 : Int32)), (.int (0 : Int32)), (.int (0 : Int32)), (.int (0 : Int32)), (.int (0 : Int32)), (.int (0 : Int32))]) (.int (0 : Int32)) := (by have q := B243; rw [own_i2b] at q; exact q)
      have K243 : Keep h0 h243 [] := Keep.wr K241 W243 (Or.inr mh_oe)
      have N243 := Fr.snoc X243 N241 g_oe
      have Zs243 : n0 ≤ h243.size := by rw [W243.size]; exact Zs241
      show Go p e below _ (T243.setTop (mkF m 78 #[.val (.int p1), .val (.int p2), .val (.int p3), .val (.int c1), .val (.int c2), .val (.int (1 : Int32)), .val (.int (1 : Int32)), .val (.ref b_235), .val (.ref b_237), .val (.ref oe), .val (.int (0 : Int32)), .unset, .unset, .unset, .unset, .unset] []))
      refine g_aload X243 hx (hb hby at_78) 80 rfl (v := (.ref oe)) rfl rfl ?_
      refine g_iconst X243 hx (hb hby at_80) 81 rfl (2 : Int32) rfl ?_
      refine g_bipush X243 hx (hb hby at_81) 83 rfl (58 : Int32) rfl ?_
      obtain ⟨T245, h245, X245, e245, W245, B245, st245⟩ := g_bastore X243 hx (hb hby at_83) hZ e243 Av_oe_243 (show ¬ (2 : Int32) < 0 ∧ (2 : Int32) < (8 : Int32) from by decide) (i := 2) (by decide) (by simp)  (L := #[.val (.int p1), .val (.int p2), .val (.int p3), .val (.int c1), .val (.int c2), .val (.int (1 : Int32)), .val (.int (1 : Int32)), .val (.ref b_235), .val (.ref b_237), .val (.ref oe), .val (.int (0 : Int32)), .unset, .unset, .unset, .unset, .unset]) (S := [])
      refine Go.st st245 ?_
      have E_b_235_246 : Exa Z h245 b_235 "java/lang/String" := Exa.wr W245 E_b_235_244
      have F_value_b_235_246 : Fld Z h245 b_235 "java/lang/String" "value" "[B" (.ref vb_235) := Fld.other W245 F_value_b_235_244 (Or.inl ne_b_235_oe)
      have F_coder_b_235_246 : Fld Z h245 b_235 "java/lang/String" "coder" "B" (.int (0 : Int32)) := Fld.other W245 F_coder_b_235_244 (Or.inl ne_b_235_oe)
      have A_vb_235_246 : Arv Z h245 vb_235 kb_235 .byte (1 : Int32) ([(.int c1.toInt8.toInt32)]) (.int (0 : Int32)) := Arv.other A_vb_235_244 W245 ne_vb_235_oe
      have E_b_237_246 : Exa Z h245 b_237 "java/lang/String" := Exa.wr W245 E_b_237_244
      have F_value_b_237_246 : Fld Z h245 b_237 "java/lang/String" "value" "[B" (.ref vb_237) := Fld.other W245 F_value_b_237_244 (Or.inl ne_b_237_oe)
      have F_coder_b_237_246 : Fld Z h245 b_237 "java/lang/String" "coder" "B" (.int (0 : Int32)) := Fld.other W245 F_coder_b_237_244 (Or.inl ne_b_237_oe)
      have A_vb_237_246 : Arv Z h245 vb_237 kb_237 .byte (1 : Int32) ([(.int c2.toInt8.toInt32)]) (.int (0 : Int32)) := Arv.other A_vb_237_244 W245 ne_vb_237_oe
      have Av_oe_245 : Arv Z h245 oe cA239 .byte (8 : Int32) ([(.int (60 : Int32)), (.int c1.toInt8.toInt32), (.int (58 : Int32)), (.int (0 : Int32)), (.int (0 : Int32)), (.int (0 : Int32)), (.int (0 : Int32)), (.int (0 : Int32))]) (.int (0 : Int32)) := B245
      have K245 : Keep h0 h245 [] := Keep.wr K243 W245 (Or.inr mh_oe)
      have N245 := Fr.snoc X245 N243 g_oe
      have Zs245 : n0 ≤ h245.size := by rw [W245.size]; exact Zs243
      show Go p e below _ (T245.setTop (mkF m 84 #[.val (.int p1), .val (.int p2), .val (.int p3), .val (.int c1), .val (.int c2), .val (.int (1 : Int32)), .val (.int (1 : Int32)), .val (.ref b_235), .val (.ref b_237), .val (.ref oe), .val (.int (0 : Int32)), .unset, .unset, .unset, .unset, .unset] []))
      refine g_aload X245 hx (hb hby at_84) 86 rfl (v := (.ref oe)) rfl rfl ?_
      refine g_iconst X245 hx (hb hby at_86) 87 rfl (3 : Int32) rfl ?_
      refine g_iload X245 hx (hb hby at_87) 89 rfl (v := c2) rfl ?_
      refine g_i2b X245 hx (hb hby at_89) 90 rfl c2.toInt8.toInt32 rfl ?_
      obtain ⟨T247, h247, X247, e247, W247, B247, st247⟩ := g_bastore X245 hx (hb hby at_90) hZ e245 Av_oe_245 (show ¬ (3 : Int32) < 0 ∧ (3 : Int32) < (8 : Int32) from by decide) (i := 3) (by decide) (by simp)  (L := #[.val (.int p1), .val (.int p2), .val (.int p3), .val (.int c1), .val (.int c2), .val (.int (1 : Int32)), .val (.int (1 : Int32)), .val (.ref b_235), .val (.ref b_237), .val (.ref oe), .val (.int (0 : Int32)), .unset, .unset, .unset, .unset, .unset]) (S := [])
      refine Go.st st247 ?_
      have E_b_235_248 : Exa Z h247 b_235 "java/lang/String" := Exa.wr W247 E_b_235_246
      have F_value_b_235_248 : Fld Z h247 b_235 "java/lang/String" "value" "[B" (.ref vb_235) := Fld.other W247 F_value_b_235_246 (Or.inl ne_b_235_oe)
      have F_coder_b_235_248 : Fld Z h247 b_235 "java/lang/String" "coder" "B" (.int (0 : Int32)) := Fld.other W247 F_coder_b_235_246 (Or.inl ne_b_235_oe)
      have A_vb_235_248 : Arv Z h247 vb_235 kb_235 .byte (1 : Int32) ([(.int c1.toInt8.toInt32)]) (.int (0 : Int32)) := Arv.other A_vb_235_246 W247 ne_vb_235_oe
      have E_b_237_248 : Exa Z h247 b_237 "java/lang/String" := Exa.wr W247 E_b_237_246
      have F_value_b_237_248 : Fld Z h247 b_237 "java/lang/String" "value" "[B" (.ref vb_237) := Fld.other W247 F_value_b_237_246 (Or.inl ne_b_237_oe)
      have F_coder_b_237_248 : Fld Z h247 b_237 "java/lang/String" "coder" "B" (.int (0 : Int32)) := Fld.other W247 F_coder_b_237_246 (Or.inl ne_b_237_oe)
      have A_vb_237_248 : Arv Z h247 vb_237 kb_237 .byte (1 : Int32) ([(.int c2.toInt8.toInt32)]) (.int (0 : Int32)) := Arv.other A_vb_237_246 W247 ne_vb_237_oe
      have Av_oe_247 : Arv Z h247 oe cA239 .byte (8 : Int32) ([(.int (60 : Int32)), (.int c1.toInt8.toInt32), (.int (58 : Int32)), (.int c2.toInt8.toInt32), (.int (0 : Int32)), (.int (0 : Int32)), (.int (0 : Int32)), (.int (0 : Int32))]) (.int (0 : Int32)) := (by have q := B247; rw [own_i2b] at q; exact q)
      have K247 : Keep h0 h247 [] := Keep.wr K245 W247 (Or.inr mh_oe)
      have N247 := Fr.snoc X247 N245 g_oe
      have Zs247 : n0 ≤ h247.size := by rw [W247.size]; exact Zs245
      show Go p e below _ (T247.setTop (mkF m 91 #[.val (.int p1), .val (.int p2), .val (.int p3), .val (.int c1), .val (.int c2), .val (.int (1 : Int32)), .val (.int (1 : Int32)), .val (.ref b_235), .val (.ref b_237), .val (.ref oe), .val (.int (0 : Int32)), .unset, .unset, .unset, .unset, .unset] []))
      refine g_iconst X247 hx (hb hby at_91) 92 rfl (4 : Int32) rfl ?_
      refine g_istore X247 hx (hb hby at_92) 94 rfl #[.val (.int p1), .val (.int p2), .val (.int p3), .val (.int c1), .val (.int c2), .val (.int (1 : Int32)), .val (.int (1 : Int32)), .val (.ref b_235), .val (.ref b_237), .val (.ref oe), .val (.int (4 : Int32)), .unset, .unset, .unset, .unset, .unset] rfl ?_
      refine g_iload X247 hx (hb hby at_94) 96 rfl (v := (1 : Int32)) rfl ?_
      refine g_if_eq X247 hx (hb hby at_96) 124 99 (by decide) (by decide) rfl (fun hc96 => False.elim (absurd hc96 (by decide))) (fun hc96 => ?_)
      refine g_aload X247 hx (hb hby at_99) 101 rfl (v := (.ref oe)) rfl rfl ?_
      refine g_iload X247 hx (hb hby at_101) 103 rfl (v := (4 : Int32)) rfl ?_
      refine g_bipush X247 hx (hb hby at_103) 105 rfl (47 : Int32) rfl ?_
      obtain ⟨T249, h249, X249, e249, W249, B249, st249⟩ := g_bastore X247 hx (hb hby at_105) hZ e247 Av_oe_247 (show ¬ (4 : Int32) < 0 ∧ (4 : Int32) < (8 : Int32) from by decide) (i := 4) (by decide) (by simp)  (L := #[.val (.int p1), .val (.int p2), .val (.int p3), .val (.int c1), .val (.int c2), .val (.int (1 : Int32)), .val (.int (1 : Int32)), .val (.ref b_235), .val (.ref b_237), .val (.ref oe), .val (.int (4 : Int32)), .unset, .unset, .unset, .unset, .unset]) (S := [])
      refine Go.st st249 ?_
      have E_b_235_250 : Exa Z h249 b_235 "java/lang/String" := Exa.wr W249 E_b_235_248
      have F_value_b_235_250 : Fld Z h249 b_235 "java/lang/String" "value" "[B" (.ref vb_235) := Fld.other W249 F_value_b_235_248 (Or.inl ne_b_235_oe)
      have F_coder_b_235_250 : Fld Z h249 b_235 "java/lang/String" "coder" "B" (.int (0 : Int32)) := Fld.other W249 F_coder_b_235_248 (Or.inl ne_b_235_oe)
      have A_vb_235_250 : Arv Z h249 vb_235 kb_235 .byte (1 : Int32) ([(.int c1.toInt8.toInt32)]) (.int (0 : Int32)) := Arv.other A_vb_235_248 W249 ne_vb_235_oe
      have E_b_237_250 : Exa Z h249 b_237 "java/lang/String" := Exa.wr W249 E_b_237_248
      have F_value_b_237_250 : Fld Z h249 b_237 "java/lang/String" "value" "[B" (.ref vb_237) := Fld.other W249 F_value_b_237_248 (Or.inl ne_b_237_oe)
      have F_coder_b_237_250 : Fld Z h249 b_237 "java/lang/String" "coder" "B" (.int (0 : Int32)) := Fld.other W249 F_coder_b_237_248 (Or.inl ne_b_237_oe)
      have A_vb_237_250 : Arv Z h249 vb_237 kb_237 .byte (1 : Int32) ([(.int c2.toInt8.toInt32)]) (.int (0 : Int32)) := Arv.other A_vb_237_248 W249 ne_vb_237_oe
      have Av_oe_249 : Arv Z h249 oe cA239 .byte (8 : Int32) ([(.int (60 : Int32)), (.int c1.toInt8.toInt32), (.int (58 : Int32)), (.int c2.toInt8.toInt32), (.int (47 : Int32)), (.int (0 : Int32)), (.int (0 : Int32)), (.int (0 : Int32))]) (.int (0 : Int32)) := B249
      have K249 : Keep h0 h249 [] := Keep.wr K247 W249 (Or.inr mh_oe)
      have N249 := Fr.snoc X249 N247 g_oe
      have Zs249 : n0 ≤ h249.size := by rw [W249.size]; exact Zs247
      show Go p e below _ (T249.setTop (mkF m 106 #[.val (.int p1), .val (.int p2), .val (.int p3), .val (.int c1), .val (.int c2), .val (.int (1 : Int32)), .val (.int (1 : Int32)), .val (.ref b_235), .val (.ref b_237), .val (.ref oe), .val (.int (4 : Int32)), .unset, .unset, .unset, .unset, .unset] []))
      refine g_aload X249 hx (hb hby at_106) 108 rfl (v := (.ref oe)) rfl rfl ?_
      refine g_iload X249 hx (hb hby at_108) 110 rfl (v := (4 : Int32)) rfl ?_
      refine g_iconst X249 hx (hb hby at_110) 111 rfl (1 : Int32) rfl ?_
      refine g_iadd X249 hx (hb hby at_111) 112 rfl ((4 : Int32) + (1 : Int32)) rfl ?_
      refine g_bipush X249 hx (hb hby at_112) 114 rfl (62 : Int32) rfl ?_
      obtain ⟨T251, h251, X251, e251, W251, B251, st251⟩ := g_bastore X249 hx (hb hby at_114) hZ e249 Av_oe_249 (show ¬ ((4 : Int32) + (1 : Int32)) < 0 ∧ ((4 : Int32) + (1 : Int32)) < (8 : Int32) from by decide) (i := 5) (by decide) (by simp)  (L := #[.val (.int p1), .val (.int p2), .val (.int p3), .val (.int c1), .val (.int c2), .val (.int (1 : Int32)), .val (.int (1 : Int32)), .val (.ref b_235), .val (.ref b_237), .val (.ref oe), .val (.int (4 : Int32)), .unset, .unset, .unset, .unset, .unset]) (S := [])
      refine Go.st st251 ?_
      have E_b_235_252 : Exa Z h251 b_235 "java/lang/String" := Exa.wr W251 E_b_235_250
      have F_value_b_235_252 : Fld Z h251 b_235 "java/lang/String" "value" "[B" (.ref vb_235) := Fld.other W251 F_value_b_235_250 (Or.inl ne_b_235_oe)
      have F_coder_b_235_252 : Fld Z h251 b_235 "java/lang/String" "coder" "B" (.int (0 : Int32)) := Fld.other W251 F_coder_b_235_250 (Or.inl ne_b_235_oe)
      have A_vb_235_252 : Arv Z h251 vb_235 kb_235 .byte (1 : Int32) ([(.int c1.toInt8.toInt32)]) (.int (0 : Int32)) := Arv.other A_vb_235_250 W251 ne_vb_235_oe
      have E_b_237_252 : Exa Z h251 b_237 "java/lang/String" := Exa.wr W251 E_b_237_250
      have F_value_b_237_252 : Fld Z h251 b_237 "java/lang/String" "value" "[B" (.ref vb_237) := Fld.other W251 F_value_b_237_250 (Or.inl ne_b_237_oe)
      have F_coder_b_237_252 : Fld Z h251 b_237 "java/lang/String" "coder" "B" (.int (0 : Int32)) := Fld.other W251 F_coder_b_237_250 (Or.inl ne_b_237_oe)
      have A_vb_237_252 : Arv Z h251 vb_237 kb_237 .byte (1 : Int32) ([(.int c2.toInt8.toInt32)]) (.int (0 : Int32)) := Arv.other A_vb_237_250 W251 ne_vb_237_oe
      have Av_oe_251 : Arv Z h251 oe cA239 .byte (8 : Int32) ([(.int (60 : Int32)), (.int c1.toInt8.toInt32), (.int (58 : Int32)), (.int c2.toInt8.toInt32), (.int (47 : Int32)), (.int (62 : Int32)), (.int (0 : Int32)), (.int (0 : Int32))]) (.int (0 : Int32)) := B251
      have K251 : Keep h0 h251 [] := Keep.wr K249 W251 (Or.inr mh_oe)
      have N251 := Fr.snoc X251 N249 g_oe
      have Zs251 : n0 ≤ h251.size := by rw [W251.size]; exact Zs249
      show Go p e below _ (T251.setTop (mkF m 115 #[.val (.int p1), .val (.int p2), .val (.int p3), .val (.int c1), .val (.int c2), .val (.int (1 : Int32)), .val (.int (1 : Int32)), .val (.ref b_235), .val (.ref b_237), .val (.ref oe), .val (.int (4 : Int32)), .unset, .unset, .unset, .unset, .unset] []))
      refine g_iload X251 hx (hb hby at_115) 117 rfl (v := (4 : Int32)) rfl ?_
      refine g_iconst X251 hx (hb hby at_117) 118 rfl (2 : Int32) rfl ?_
      refine g_iadd X251 hx (hb hby at_118) 119 rfl ((4 : Int32) + (2 : Int32)) rfl ?_
      refine g_istore X251 hx (hb hby at_119) 121 rfl #[.val (.int p1), .val (.int p2), .val (.int p3), .val (.int c1), .val (.int c2), .val (.int (1 : Int32)), .val (.int (1 : Int32)), .val (.ref b_235), .val (.ref b_237), .val (.ref oe), .val (.int ((4 : Int32) + (2 : Int32))), .unset, .unset, .unset, .unset, .unset] rfl ?_
      refine g_goto X251 hx (hb hby at_121) 137 (by decide) (by decide) ?_
      obtain ⟨T253, h253, X253, e253, E253, A253, D253, -, st253⟩ := newO X251 hx hZ hown (hw _ (List.mem_of_getElem? (i := 26) rfl)) (hw _ (List.mem_of_getElem? (i := 27) rfl)) (hw _ (List.mem_of_getElem? (i := 28) rfl)) e251 (g := (mkF m 137 #[.val (.int p1), .val (.int p2), .val (.int p3), .val (.int c1), .val (.int c2), .val (.int (1 : Int32)), .val (.int (1 : Int32)), .val (.ref b_235), .val (.ref b_237), .val (.ref oe), .val (.int ((4 : Int32) + (2 : Int32))), .unset, .unset, .unset, .unset, .unset] [])) rfl (hb hby at_137) (by decide) (by decide)
      refine Go.st st253 ?_
      obtain ⟨om, q253⟩ : ∃ z, z = h251.size := ⟨_, rfl⟩
      rw [← q253] at A253 D253 ⊢
      have ne_b_235_om : b_235 ≠ om := Nat.ne_of_lt (Nat.lt_of_lt_of_eq E_b_235_252.lt q253.symm)
      have ne_vb_235_om : vb_235 ≠ om := Nat.ne_of_lt (Nat.lt_of_lt_of_eq A_vb_235_252.lt q253.symm)
      have ne_b_237_om : b_237 ≠ om := Nat.ne_of_lt (Nat.lt_of_lt_of_eq E_b_237_252.lt q253.symm)
      have ne_vb_237_om : vb_237 ≠ om := Nat.ne_of_lt (Nat.lt_of_lt_of_eq A_vb_237_252.lt q253.symm)
      have ne_oe_om : oe ≠ om := Nat.ne_of_lt (Nat.lt_of_lt_of_eq Av_oe_251.lt q253.symm)
      have g_om : n0 ≤ om := Nat.le_trans Zs251 (Nat.le_of_eq q253.symm)
      have mh_om : h0.size ≤ om := Nat.le_trans K251.1 (Nat.le_of_eq q253.symm)
      have E_b_235_254 : Exa Z h253 b_235 "java/lang/String" := Exa.ext E253 E_b_235_252
      have F_value_b_235_254 : Fld Z h253 b_235 "java/lang/String" "value" "[B" (.ref vb_235) := Fld.ext E253 F_value_b_235_252
      have F_coder_b_235_254 : Fld Z h253 b_235 "java/lang/String" "coder" "B" (.int (0 : Int32)) := Fld.ext E253 F_coder_b_235_252
      have A_vb_235_254 : Arv Z h253 vb_235 kb_235 .byte (1 : Int32) ([(.int c1.toInt8.toInt32)]) (.int (0 : Int32)) := Arv.ext A_vb_235_252 E253
      have E_b_237_254 : Exa Z h253 b_237 "java/lang/String" := Exa.ext E253 E_b_237_252
      have F_value_b_237_254 : Fld Z h253 b_237 "java/lang/String" "value" "[B" (.ref vb_237) := Fld.ext E253 F_value_b_237_252
      have F_coder_b_237_254 : Fld Z h253 b_237 "java/lang/String" "coder" "B" (.int (0 : Int32)) := Fld.ext E253 F_coder_b_237_252
      have A_vb_237_254 : Arv Z h253 vb_237 kb_237 .byte (1 : Int32) ([(.int c2.toInt8.toInt32)]) (.int (0 : Int32)) := Arv.ext A_vb_237_252 E253
      have A_oe_254 : Arv Z h253 oe cA239 .byte (8 : Int32) ([(.int (60 : Int32)), (.int c1.toInt8.toInt32), (.int (58 : Int32)), (.int c2.toInt8.toInt32), (.int (47 : Int32)), (.int (62 : Int32)), (.int (0 : Int32)), (.int (0 : Int32))]) (.int (0 : Int32)) := Arv.ext Av_oe_251 E253
      have F_bytes_253 : Fld Z h253 om "com/example/anagrafe/anagrafe/atom/Markup" "bytes" "[B" .null := D253 (Or.inl (hw _ (List.mem_of_getElem? (i := 34) rfl))) (ty := (.array .byte)) (by decide)
      have F_size_253 : Fld Z h253 om "com/example/anagrafe/anagrafe/atom/Markup" "size" "I" (.int (0 : Int32)) := D253 (Or.inl (hw _ (List.mem_of_getElem? (i := 41) rfl))) (ty := .int) (by decide)
      have K253 : Keep h0 h253 [] := Keep.ext K251 E253
      have Zs253 : n0 ≤ h253.size := Nat.le_trans Zs251 E253.1
      show Go p e below _ (T253.setTop (mkF m 140 #[.val (.int p1), .val (.int p2), .val (.int p3), .val (.int c1), .val (.int c2), .val (.int (1 : Int32)), .val (.int (1 : Int32)), .val (.ref b_235), .val (.ref b_237), .val (.ref oe), .val (.int ((4 : Int32) + (2 : Int32))), .unset, .unset, .unset, .unset, .unset] [(.ref om)]))
      refine g_dup X253 hx (hb hby at_140) 141 rfl rfl ?_
      obtain ⟨_, _, ⟨T255, L255, k255, n255⟩, -, X255, ⟨Lc255, hQ255, l255, y255, z255⟩, st255⟩ := X253.specialBack hx (y := (⟨"com/example/anagrafe/anagrafe/atom/Markup", "<init>", "()V"⟩ : MethodName)) rfl hown (mvT hZ (hw _ (List.mem_of_getElem? (i := 29) rfl))) (mvT hZ (hw _ (List.mem_of_getElem? (i := 30) rfl))) (mvT hZ (hw _ (List.mem_of_getElem? (i := 31) rfl))) (by decide) (backOf (W := 1) (rm6 l Z a0 hw [] om .null h253 n0 Zs253 A253 g_om F_bytes_253 F_size_253) hZ (hw _ (List.mem_of_getElem? (i := 31) rfl)) (hw _ (List.mem_of_getElem? (i := 28) rfl)) (by decide) (by decide)) (g := (mkF m 141 #[.val (.int p1), .val (.int p2), .val (.int p3), .val (.int c1), .val (.int c2), .val (.int (1 : Int32)), .val (.int (1 : Int32)), .val (.ref b_235), .val (.ref b_237), .val (.ref oe), .val (.int ((4 : Int32) + (2 : Int32))), .unset, .unset, .unset, .unset, .unset] [(.ref om), (.ref om)])) rfl (by rw [hml]; rfl) (Steps.refl _) (a := om) (argsL := []) (rest := [(.ref om)]) (lenOf own_pd15 rfl) rfl (by show 2 * 0 + _ ≤ _; exact Nat.le_of_eq rfl) (hb hby at_141) (fun _ _ => ⟨rfl, e253, (by decide : 6 + 1 ≤ _), (by decide : 20 + 16384 ≤ _)⟩)
      dsimp only [Pt.U, Pt.locs, Pt.cells, Pt.slots] at X255 l255 y255 z255 st255 hQ255
      subst l255 y255 z255
      obtain ⟨wq_255, kq_255, rfl, Nq255, Kq255, f255_0, f255_1, f255_2, f255_3, f255_4⟩ := hQ255
      refine Go.tr st255 ?_
      have N255 := Fr.app N251 Nq255
      have E_b_235_256 : Exa Z T255.heap b_235 "java/lang/String" := Exa.keep E_b_235_254 Kq255
      have F_value_b_235_256 : Fld Z T255.heap b_235 "java/lang/String" "value" "[B" (.ref vb_235) := Fld.keep F_value_b_235_254 Kq255 (ninS ne_b_235_om nin0)
      have F_coder_b_235_256 : Fld Z T255.heap b_235 "java/lang/String" "coder" "B" (.int (0 : Int32)) := Fld.keep F_coder_b_235_254 Kq255 (ninS ne_b_235_om nin0)
      have A_vb_235_256 : Arv Z T255.heap vb_235 kb_235 .byte (1 : Int32) ([(.int c1.toInt8.toInt32)]) (.int (0 : Int32)) := Arv.keep A_vb_235_254 Kq255 (ninS ne_vb_235_om nin0)
      have E_b_237_256 : Exa Z T255.heap b_237 "java/lang/String" := Exa.keep E_b_237_254 Kq255
      have F_value_b_237_256 : Fld Z T255.heap b_237 "java/lang/String" "value" "[B" (.ref vb_237) := Fld.keep F_value_b_237_254 Kq255 (ninS ne_b_237_om nin0)
      have F_coder_b_237_256 : Fld Z T255.heap b_237 "java/lang/String" "coder" "B" (.int (0 : Int32)) := Fld.keep F_coder_b_237_254 Kq255 (ninS ne_b_237_om nin0)
      have A_vb_237_256 : Arv Z T255.heap vb_237 kb_237 .byte (1 : Int32) ([(.int c2.toInt8.toInt32)]) (.int (0 : Int32)) := Arv.keep A_vb_237_254 Kq255 (ninS ne_vb_237_om nin0)
      have A_oe_256 : Arv Z T255.heap oe cA239 .byte (8 : Int32) ([(.int (60 : Int32)), (.int c1.toInt8.toInt32), (.int (58 : Int32)), (.int c2.toInt8.toInt32), (.int (47 : Int32)), (.int (62 : Int32)), (.int (0 : Int32)), (.int (0 : Int32))]) (.int (0 : Int32)) := Arv.keep A_oe_254 Kq255 (ninS ne_oe_om nin0)
      have E_om_256 : Exa Z T255.heap om "com/example/anagrafe/anagrafe/atom/Markup" := Exa.keep A253 Kq255
      have ne_b_235_wq_255 : b_235 ≠ wq_255 := Nat.ne_of_lt (Nat.lt_of_lt_of_le E_b_235_254.lt f255_0)
      have ne_vb_235_wq_255 : vb_235 ≠ wq_255 := Nat.ne_of_lt (Nat.lt_of_lt_of_le A_vb_235_254.lt f255_0)
      have ne_b_237_wq_255 : b_237 ≠ wq_255 := Nat.ne_of_lt (Nat.lt_of_lt_of_le E_b_237_254.lt f255_0)
      have ne_vb_237_wq_255 : vb_237 ≠ wq_255 := Nat.ne_of_lt (Nat.lt_of_lt_of_le A_vb_237_254.lt f255_0)
      have ne_oe_wq_255 : oe ≠ wq_255 := Nat.ne_of_lt (Nat.lt_of_lt_of_le A_oe_254.lt f255_0)
      have ne_om_wq_255 : om ≠ wq_255 := Nat.ne_of_lt (Nat.lt_of_lt_of_le A253.lt f255_0)
      have g_wq_255 : n0 ≤ wq_255 := Nat.le_trans Zs253 f255_0
      have mh_wq_255 : h0.size ≤ wq_255 := Nat.le_trans K253.1 f255_0
      have K255 : Keep h0 T255.heap [] := Keep.trans K253 Kq255 (allS (Or.inr mh_om) all0)
      have Zs255 : n0 ≤ T255.heap.size := Nat.le_trans Zs253 Kq255.1
      show Go p e below _ (T255.setTop (mkF m 144 #[.val (.int p1), .val (.int p2), .val (.int p3), .val (.int c1), .val (.int c2), .val (.int (1 : Int32)), .val (.int (1 : Int32)), .val (.ref b_235), .val (.ref b_237), .val (.ref oe), .val (.int ((4 : Int32) + (2 : Int32))), .unset, .unset, .unset, .unset, .unset] [(.ref om)]))
      refine g_astore X255 hx (hb hby at_144) 146 rfl rfl #[.val (.int p1), .val (.int p2), .val (.int p3), .val (.int c1), .val (.int c2), .val (.int (1 : Int32)), .val (.int (1 : Int32)), .val (.ref b_235), .val (.ref b_237), .val (.ref oe), .val (.int ((4 : Int32) + (2 : Int32))), .val (.ref om), .unset, .unset, .unset, .unset] rfl ?_
      refine g_aload X255 hx (hb hby at_146) 148 rfl (v := (.ref om)) rfl rfl ?_
      obtain ⟨cq257, kq257, q257a, q257b, q257c⟩ := isOf hZ rfl f255_1
      obtain ⟨_, _, ⟨T257, L257, k257, n257⟩, -, X257, ⟨Lc257, hQ257, l257, y257, z257⟩, st257⟩ := X255.virtualBack hx (y := (⟨"com/example/anagrafe/anagrafe/atom/Markup", "toByteArray", "()[B"⟩ : MethodName)) (z := (⟨"com/example/anagrafe/anagrafe/atom/Markup", "toByteArray", "()[B"⟩ : MethodName)) hown (mvT hZ (hw _ (List.mem_of_getElem? (i := 35) rfl))) (mvT hZ (hw _ (List.mem_of_getElem? (i := 36) rfl))) (notFace_of_selects (args := #[]) (mvT hZ (hw _ (List.mem_of_getElem? (i := 38) rfl)))) (mvT hZ (hw _ (List.mem_of_getElem? (i := 38) rfl))) (mvT hZ (hw _ (List.mem_of_getElem? (i := 37) rfl))) (by decide) (backOf (W := 0) (rm7 l Z a0 hw [] om wq_255 kq_255 0 [] T255.heap n0 Zs255 f255_1 f255_2 f255_3 f255_4 rfl (by decide)) hZ (hw _ (List.mem_of_getElem? (i := 39) rfl)) (hw _ (List.mem_of_getElem? (i := 28) rfl)) (by decide) (by decide)) q257a q257c (g := (mkF m 148 #[.val (.int p1), .val (.int p2), .val (.int p3), .val (.int c1), .val (.int c2), .val (.int (1 : Int32)), .val (.int (1 : Int32)), .val (.ref b_235), .val (.ref b_237), .val (.ref oe), .val (.int ((4 : Int32) + (2 : Int32))), .val (.ref om), .unset, .unset, .unset, .unset] [(.ref om)])) rfl (by rw [hml]; rfl) (Steps.refl _) (argsL := []) (rest := []) (lenOf own_pd16 rfl) rfl (by show 2 * 0 + _ ≤ _; exact Nat.le_of_eq rfl) (hb hby at_148) (fun _ _ => ⟨rfl, rfl, (by decide : 7 + 1 ≤ _), (by decide : 16404 + 8 ≤ _)⟩)
      dsimp only [Pt.U, Pt.locs, Pt.cells, Pt.slots] at X257 l257 y257 z257 st257 hQ257
      subst l257 y257 z257
      obtain ⟨b_257, kq_257, rfl, Nq257, Kq257, f257_0, f257_1⟩ := hQ257
      refine Go.tr st257 ?_
      have N257 := Fr.app N255 Nq257
      have E_b_235_258 : Exa Z T257.heap b_235 "java/lang/String" := Exa.keep E_b_235_256 Kq257
      have F_value_b_235_258 : Fld Z T257.heap b_235 "java/lang/String" "value" "[B" (.ref vb_235) := Fld.keep F_value_b_235_256 Kq257 nin0
      have F_coder_b_235_258 : Fld Z T257.heap b_235 "java/lang/String" "coder" "B" (.int (0 : Int32)) := Fld.keep F_coder_b_235_256 Kq257 nin0
      have A_vb_235_258 : Arv Z T257.heap vb_235 kb_235 .byte (1 : Int32) ([(.int c1.toInt8.toInt32)]) (.int (0 : Int32)) := Arv.keep A_vb_235_256 Kq257 nin0
      have E_b_237_258 : Exa Z T257.heap b_237 "java/lang/String" := Exa.keep E_b_237_256 Kq257
      have F_value_b_237_258 : Fld Z T257.heap b_237 "java/lang/String" "value" "[B" (.ref vb_237) := Fld.keep F_value_b_237_256 Kq257 nin0
      have F_coder_b_237_258 : Fld Z T257.heap b_237 "java/lang/String" "coder" "B" (.int (0 : Int32)) := Fld.keep F_coder_b_237_256 Kq257 nin0
      have A_vb_237_258 : Arv Z T257.heap vb_237 kb_237 .byte (1 : Int32) ([(.int c2.toInt8.toInt32)]) (.int (0 : Int32)) := Arv.keep A_vb_237_256 Kq257 nin0
      have A_oe_258 : Arv Z T257.heap oe cA239 .byte (8 : Int32) ([(.int (60 : Int32)), (.int c1.toInt8.toInt32), (.int (58 : Int32)), (.int c2.toInt8.toInt32), (.int (47 : Int32)), (.int (62 : Int32)), (.int (0 : Int32)), (.int (0 : Int32))]) (.int (0 : Int32)) := Arv.keep A_oe_256 Kq257 nin0
      have E_om_258 : Exa Z T257.heap om "com/example/anagrafe/anagrafe/atom/Markup" := Exa.keep f255_1 Kq257
      have F_bytes_om_258 : Fld Z T257.heap om "com/example/anagrafe/anagrafe/atom/Markup" "bytes" "[B" (.ref wq_255) := Fld.keep f255_2 Kq257 nin0
      have F_size_om_258 : Fld Z T257.heap om "com/example/anagrafe/anagrafe/atom/Markup" "size" "I" (.int (Int32.ofNat 0)) := Fld.keep f255_3 Kq257 nin0
      have A_wq_255_258 : Arv Z T257.heap wq_255 kq_255 .byte (Int32.ofNat 16384) [] (.int (0 : Int32)) := Arv.keep f255_4 Kq257 nin0
      have ne_b_235_b_257 : b_235 ≠ b_257 := Nat.ne_of_lt (Nat.lt_of_lt_of_le E_b_235_256.lt f257_0)
      have ne_vb_235_b_257 : vb_235 ≠ b_257 := Nat.ne_of_lt (Nat.lt_of_lt_of_le A_vb_235_256.lt f257_0)
      have ne_b_237_b_257 : b_237 ≠ b_257 := Nat.ne_of_lt (Nat.lt_of_lt_of_le E_b_237_256.lt f257_0)
      have ne_vb_237_b_257 : vb_237 ≠ b_257 := Nat.ne_of_lt (Nat.lt_of_lt_of_le A_vb_237_256.lt f257_0)
      have ne_oe_b_257 : oe ≠ b_257 := Nat.ne_of_lt (Nat.lt_of_lt_of_le A_oe_256.lt f257_0)
      have ne_om_b_257 : om ≠ b_257 := Nat.ne_of_lt (Nat.lt_of_lt_of_le f255_1.lt f257_0)
      have ne_wq_255_b_257 : wq_255 ≠ b_257 := Nat.ne_of_lt (Nat.lt_of_lt_of_le f255_4.lt f257_0)
      have g_b_257 : n0 ≤ b_257 := Nat.le_trans Zs255 f257_0
      have mh_b_257 : h0.size ≤ b_257 := Nat.le_trans K255.1 f257_0
      have K257 : Keep h0 T257.heap [] := Keep.trans K255 Kq257 all0
      have Zs257 : n0 ≤ T257.heap.size := Nat.le_trans Zs255 Kq257.1
      show Go p e below _ (T257.setTop (mkF m 151 #[.val (.int p1), .val (.int p2), .val (.int p3), .val (.int c1), .val (.int c2), .val (.int (1 : Int32)), .val (.int (1 : Int32)), .val (.ref b_235), .val (.ref b_237), .val (.ref oe), .val (.int ((4 : Int32) + (2 : Int32))), .val (.ref om), .unset, .unset, .unset, .unset] [(.ref b_257)]))
      refine g_astore X257 hx (hb hby at_151) 153 rfl rfl #[.val (.int p1), .val (.int p2), .val (.int p3), .val (.int c1), .val (.int c2), .val (.int (1 : Int32)), .val (.int (1 : Int32)), .val (.ref b_235), .val (.ref b_237), .val (.ref oe), .val (.int ((4 : Int32) + (2 : Int32))), .val (.ref om), .val (.ref b_257), .unset, .unset, .unset] rfl ?_
      refine g_aload X257 hx (hb hby at_153) 155 rfl (v := (.ref b_257)) rfl rfl ?_
      refine g_alen X257 hx (hb hby at_155) 156 rfl hZ rfl f257_1 ?_
      refine g_if_eq X257 hx (hb hby at_156) 161 159 (by decide) (by decide) rfl (fun hc156 => ?_) (fun hc156 => False.elim (hc156 rfl))
      refine g_iload X257 hx (hb hby at_161) 163 rfl (v := (1 : Int32)) rfl ?_
      refine g_if_eq X257 hx (hb hby at_163) 175 166 (by decide) (by decide) rfl (fun hc163 => False.elim (absurd hc163 (by decide))) (fun hc163 => ?_)
      refine g_aload X257 hx (hb hby at_166) 168 rfl (v := (.ref om)) rfl rfl ?_
      refine g_aload X257 hx (hb hby at_168) 170 rfl (v := (.ref b_235)) rfl rfl ?_
      refine g_aload X257 hx (hb hby at_170) 172 rfl (v := (.ref b_237)) rfl rfl ?_
      obtain ⟨cq260, kq260, q260a, q260b, q260c⟩ := isOf hZ rfl E_om_258
      obtain ⟨_, _, ⟨T260, L260, k260, n260⟩, -, X260, ⟨Lc260, hQ260, l260, y260, z260⟩, st260⟩ := X257.virtualBack hx (y := (⟨"com/example/anagrafe/anagrafe/atom/Markup", "open", "(Ljava/lang/String;Ljava/lang/String;)V"⟩ : MethodName)) (z := (⟨"com/example/anagrafe/anagrafe/atom/Markup", "open", "(Ljava/lang/String;Ljava/lang/String;)V"⟩ : MethodName)) hown (mvT hZ (hw _ (List.mem_of_getElem? (i := 67) rfl))) (mvT hZ (hw _ (List.mem_of_getElem? (i := 68) rfl))) (notFace_of_selects (args := #[]) (mvT hZ (hw _ (List.mem_of_getElem? (i := 70) rfl)))) (mvT hZ (hw _ (List.mem_of_getElem? (i := 70) rfl))) (mvT hZ (hw _ (List.mem_of_getElem? (i := 69) rfl))) (by decide) (backOf (W := 0) (rm13 l Z a0 hw [] om b_235 b_237 wq_255 kq_255 0 [] s_COMPACT_STRINGS s_SIOOBE_FORMATTER vb_235 kb_235 c1 vb_237 kb_237 c2 T257.heap n0 Zs257 (own_Sta_keep S_COMPACT_STRINGS K257 all0) (own_Sta_keep S_SIOOBE_FORMATTER K257 all0) E_om_258 F_bytes_om_258 F_size_om_258 A_wq_255_258 g_om g_wq_255 ne_om_wq_255 E_b_235_258 F_value_b_235_258 F_coder_b_235_258 A_vb_235_258 E_b_237_258 F_value_b_237_258 F_coder_b_237_258 A_vb_237_258 (Ne.symm ne_b_235_om) (Ne.symm ne_vb_235_om) (Ne.symm ne_b_237_om) (Ne.symm ne_vb_237_om) (Ne.symm ne_b_235_wq_255) (Ne.symm ne_vb_235_wq_255) (Ne.symm ne_b_237_wq_255) (Ne.symm ne_vb_237_wq_255) hz_s_COMPACT_STRINGS hR_s_SIOOBE_FORMATTER rfl (by decide)) hZ (hw _ (List.mem_of_getElem? (i := 71) rfl)) (hw _ (List.mem_of_getElem? (i := 28) rfl)) (by decide) (by decide)) q260a q260c (g := (mkF m 172 #[.val (.int p1), .val (.int p2), .val (.int p3), .val (.int c1), .val (.int c2), .val (.int (1 : Int32)), .val (.int (1 : Int32)), .val (.ref b_235), .val (.ref b_237), .val (.ref oe), .val (.int ((4 : Int32) + (2 : Int32))), .val (.ref om), .val (.ref b_257), .unset, .unset, .unset] [(.ref b_237), (.ref b_235), (.ref om)])) rfl (by rw [hml]; rfl) (Steps.refl _) (argsL := [(.ref b_235), (.ref b_237)]) (rest := []) (lenOf own_pd18 rfl) rfl (by show 2 * 0 + _ ≤ _; exact Nat.le_of_eq rfl) (hb hby at_172) (fun _ _ => ⟨rfl, rfl, (by decide : 8 + 0 ≤ _), (by decide : 16412 + 0 ≤ _)⟩)
      dsimp only [Pt.U, Pt.locs, Pt.cells, Pt.slots] at X260 l260 y260 z260 st260 hQ260
      subst l260 y260 z260
      obtain ⟨rfl, Nq260, Kq260, f260_0, f260_1, f260_2, f260_3⟩ := hQ260
      refine Go.tr st260 ?_
      have N260 := Fr.app N257 Nq260
      have E_b_235_261 : Exa Z T260.heap b_235 "java/lang/String" := Exa.keep E_b_235_258 Kq260
      have F_value_b_235_261 : Fld Z T260.heap b_235 "java/lang/String" "value" "[B" (.ref vb_235) := Fld.keep F_value_b_235_258 Kq260 (ninS ne_b_235_om (ninS ne_b_235_wq_255 nin0))
      have F_coder_b_235_261 : Fld Z T260.heap b_235 "java/lang/String" "coder" "B" (.int (0 : Int32)) := Fld.keep F_coder_b_235_258 Kq260 (ninS ne_b_235_om (ninS ne_b_235_wq_255 nin0))
      have A_vb_235_261 : Arv Z T260.heap vb_235 kb_235 .byte (1 : Int32) ([(.int c1.toInt8.toInt32)]) (.int (0 : Int32)) := Arv.keep A_vb_235_258 Kq260 (ninS ne_vb_235_om (ninS ne_vb_235_wq_255 nin0))
      have E_b_237_261 : Exa Z T260.heap b_237 "java/lang/String" := Exa.keep E_b_237_258 Kq260
      have F_value_b_237_261 : Fld Z T260.heap b_237 "java/lang/String" "value" "[B" (.ref vb_237) := Fld.keep F_value_b_237_258 Kq260 (ninS ne_b_237_om (ninS ne_b_237_wq_255 nin0))
      have F_coder_b_237_261 : Fld Z T260.heap b_237 "java/lang/String" "coder" "B" (.int (0 : Int32)) := Fld.keep F_coder_b_237_258 Kq260 (ninS ne_b_237_om (ninS ne_b_237_wq_255 nin0))
      have A_vb_237_261 : Arv Z T260.heap vb_237 kb_237 .byte (1 : Int32) ([(.int c2.toInt8.toInt32)]) (.int (0 : Int32)) := Arv.keep A_vb_237_258 Kq260 (ninS ne_vb_237_om (ninS ne_vb_237_wq_255 nin0))
      have A_oe_261 : Arv Z T260.heap oe cA239 .byte (8 : Int32) ([(.int (60 : Int32)), (.int c1.toInt8.toInt32), (.int (58 : Int32)), (.int c2.toInt8.toInt32), (.int (47 : Int32)), (.int (62 : Int32)), (.int (0 : Int32)), (.int (0 : Int32))]) (.int (0 : Int32)) := Arv.keep A_oe_258 Kq260 (ninS ne_oe_om (ninS ne_oe_wq_255 nin0))
      have E_om_261 : Exa Z T260.heap om "com/example/anagrafe/anagrafe/atom/Markup" := Exa.keep E_om_258 Kq260
      have A_b_257_261 : Arv Z T260.heap b_257 kq_257 .byte (Int32.ofNat 0) [] (.int (0 : Int32)) := Arv.keep f257_1 Kq260 (ninS (Ne.symm ne_om_b_257) (ninS (Ne.symm ne_wq_255_b_257) nin0))
      have K260 : Keep h0 T260.heap [] := Keep.trans K257 Kq260 (allS (Or.inr mh_om) (allS (Or.inr mh_wq_255) all0))
      have Zs260 : n0 ≤ T260.heap.size := Nat.le_trans Zs257 Kq260.1
      show Go p e below _ (T260.setTop (mkF m 175 #[.val (.int p1), .val (.int p2), .val (.int p3), .val (.int c1), .val (.int c2), .val (.int (1 : Int32)), .val (.int (1 : Int32)), .val (.ref b_235), .val (.ref b_237), .val (.ref oe), .val (.int ((4 : Int32) + (2 : Int32))), .val (.ref om), .val (.ref b_257), .unset, .unset, .unset] []))
      refine g_iload X260 hx (hb hby at_175) 177 rfl (v := (1 : Int32)) rfl ?_
      refine g_if_eq X260 hx (hb hby at_177) 188 180 (by decide) (by decide) rfl (fun hc177 => False.elim (absurd hc177 (by decide))) (fun hc177 => ?_)
      refine g_aload X260 hx (hb hby at_180) 182 rfl (v := (.ref om)) rfl rfl ?_
      obtain ⟨cq262, kq262, q262a, q262b, q262c⟩ := isOf hZ rfl f260_0
      obtain ⟨_, _, ⟨T262, L262, k262, n262⟩, -, X262, ⟨Lc262, hQ262, l262, y262, z262⟩, st262⟩ := X260.virtualBack hx (y := (⟨"com/example/anagrafe/anagrafe/atom/Markup", "endEmpty", "()V"⟩ : MethodName)) (z := (⟨"com/example/anagrafe/anagrafe/atom/Markup", "endEmpty", "()V"⟩ : MethodName)) hown (mvT hZ (hw _ (List.mem_of_getElem? (i := 107) rfl))) (mvT hZ (hw _ (List.mem_of_getElem? (i := 108) rfl))) (notFace_of_selects (args := #[]) (mvT hZ (hw _ (List.mem_of_getElem? (i := 110) rfl)))) (mvT hZ (hw _ (List.mem_of_getElem? (i := 110) rfl))) (mvT hZ (hw _ (List.mem_of_getElem? (i := 109) rfl))) (by decide) (backOf (W := 0) (rm22 l Z a0 hw [] om wq_255 kq_255 (0 + 1 + 1 + 1 + 1) (((([] ++ [(.int (60 : Int32))]) ++ [(.int c1.toInt8.toInt32)]) ++ [(.int (58 : Int32))]) ++ [(.int c2.toInt8.toInt32)]) T260.heap n0 Zs260 f260_0 f260_1 f260_2 f260_3 g_om g_wq_255 ne_om_wq_255 rfl (by decide)) hZ (hw _ (List.mem_of_getElem? (i := 111) rfl)) (hw _ (List.mem_of_getElem? (i := 28) rfl)) (by decide) (by decide)) q262a q262c (g := (mkF m 182 #[.val (.int p1), .val (.int p2), .val (.int p3), .val (.int c1), .val (.int c2), .val (.int (1 : Int32)), .val (.int (1 : Int32)), .val (.ref b_235), .val (.ref b_237), .val (.ref oe), .val (.int ((4 : Int32) + (2 : Int32))), .val (.ref om), .val (.ref b_257), .unset, .unset, .unset] [(.ref om)])) rfl (by rw [hml]; rfl) (Steps.refl _) (argsL := []) (rest := []) (lenOf own_pd15 rfl) rfl (by show 2 * 0 + _ ≤ _; exact Nat.le_of_eq rfl) (hb hby at_182) (fun _ _ => ⟨rfl, rfl, (by decide : 8 + 0 ≤ _), (by decide : 16412 + 0 ≤ _)⟩)
      dsimp only [Pt.U, Pt.locs, Pt.cells, Pt.slots] at X262 l262 y262 z262 st262 hQ262
      subst l262 y262 z262
      obtain ⟨rfl, Nq262, Kq262, f262_0, f262_1, f262_2, f262_3⟩ := hQ262
      refine Go.tr st262 ?_
      have N262 := Fr.app N260 Nq262
      have A_oe_263 : Arv Z T262.heap oe cA239 .byte (8 : Int32) ([(.int (60 : Int32)), (.int c1.toInt8.toInt32), (.int (58 : Int32)), (.int c2.toInt8.toInt32), (.int (47 : Int32)), (.int (62 : Int32)), (.int (0 : Int32)), (.int (0 : Int32))]) (.int (0 : Int32)) := Arv.keep A_oe_261 Kq262 (ninS ne_oe_om (ninS ne_oe_wq_255 nin0))
      have E_om_263 : Exa Z T262.heap om "com/example/anagrafe/anagrafe/atom/Markup" := Exa.keep f260_0 Kq262
      have A_b_257_263 : Arv Z T262.heap b_257 kq_257 .byte (Int32.ofNat 0) [] (.int (0 : Int32)) := Arv.keep A_b_257_261 Kq262 (ninS (Ne.symm ne_om_b_257) (ninS (Ne.symm ne_wq_255_b_257) nin0))
      have K262 : Keep h0 T262.heap [] := Keep.trans K260 Kq262 (allS (Or.inr mh_om) (allS (Or.inr mh_wq_255) all0))
      have Zs262 : n0 ≤ T262.heap.size := Nat.le_trans Zs260 Kq262.1
      show Go p e below _ (T262.setTop (mkF m 185 #[.val (.int p1), .val (.int p2), .val (.int p3), .val (.int c1), .val (.int c2), .val (.int (1 : Int32)), .val (.int (1 : Int32)), .val (.ref b_235), .val (.ref b_237), .val (.ref oe), .val (.int ((4 : Int32) + (2 : Int32))), .val (.ref om), .val (.ref b_257), .unset, .unset, .unset] []))
      refine g_goto X262 hx (hb hby at_185) 193 (by decide) (by decide) ?_
      refine g_aload X262 hx (hb hby at_193) 195 rfl (v := (.ref om)) rfl rfl ?_
      obtain ⟨cq264, kq264, q264a, q264b, q264c⟩ := isOf hZ rfl f262_0
      obtain ⟨_, _, ⟨T264, L264, k264, n264⟩, -, X264, ⟨Lc264, hQ264, l264, y264, z264⟩, st264⟩ := X262.virtualBack hx (y := (⟨"com/example/anagrafe/anagrafe/atom/Markup", "toByteArray", "()[B"⟩ : MethodName)) (z := (⟨"com/example/anagrafe/anagrafe/atom/Markup", "toByteArray", "()[B"⟩ : MethodName)) hown (mvT hZ (hw _ (List.mem_of_getElem? (i := 35) rfl))) (mvT hZ (hw _ (List.mem_of_getElem? (i := 36) rfl))) (notFace_of_selects (args := #[]) (mvT hZ (hw _ (List.mem_of_getElem? (i := 38) rfl)))) (mvT hZ (hw _ (List.mem_of_getElem? (i := 38) rfl))) (mvT hZ (hw _ (List.mem_of_getElem? (i := 37) rfl))) (by decide) (backOf (W := 0) (rm7 l Z a0 hw [] om wq_255 kq_255 ((0 + 1 + 1 + 1 + 1) + 2) (((((([] ++ [(.int (60 : Int32))]) ++ [(.int c1.toInt8.toInt32)]) ++ [(.int (58 : Int32))]) ++ [(.int c2.toInt8.toInt32)]) ++ [(.int (47 : Int32))]) ++ [(.int (62 : Int32))]) T262.heap n0 Zs262 f262_0 f262_1 f262_2 f262_3 rfl (by decide)) hZ (hw _ (List.mem_of_getElem? (i := 39) rfl)) (hw _ (List.mem_of_getElem? (i := 28) rfl)) (by decide) (by decide)) q264a q264c (g := (mkF m 195 #[.val (.int p1), .val (.int p2), .val (.int p3), .val (.int c1), .val (.int c2), .val (.int (1 : Int32)), .val (.int (1 : Int32)), .val (.ref b_235), .val (.ref b_237), .val (.ref oe), .val (.int ((4 : Int32) + (2 : Int32))), .val (.ref om), .val (.ref b_257), .unset, .unset, .unset] [(.ref om)])) rfl (by rw [hml]; rfl) (Steps.refl _) (argsL := []) (rest := []) (lenOf own_pd16 rfl) rfl (by show 2 * 0 + _ ≤ _; exact Nat.le_of_eq rfl) (hb hby at_195) (fun _ _ => ⟨rfl, rfl, (by decide : 8 + 1 ≤ _), (by decide : 16412 + 8 ≤ _)⟩)
      dsimp only [Pt.U, Pt.locs, Pt.cells, Pt.slots] at X264 l264 y264 z264 st264 hQ264
      subst l264 y264 z264
      obtain ⟨b_264, kq_264, rfl, Nq264, Kq264, f264_0, f264_1⟩ := hQ264
      refine Go.tr st264 ?_
      have N264 := Fr.app N262 Nq264
      have A_oe_265 : Arv Z T264.heap oe cA239 .byte (8 : Int32) ([(.int (60 : Int32)), (.int c1.toInt8.toInt32), (.int (58 : Int32)), (.int c2.toInt8.toInt32), (.int (47 : Int32)), (.int (62 : Int32)), (.int (0 : Int32)), (.int (0 : Int32))]) (.int (0 : Int32)) := Arv.keep A_oe_263 Kq264 nin0
      have E_om_265 : Exa Z T264.heap om "com/example/anagrafe/anagrafe/atom/Markup" := Exa.keep f262_0 Kq264
      have A_b_257_265 : Arv Z T264.heap b_257 kq_257 .byte (Int32.ofNat 0) [] (.int (0 : Int32)) := Arv.keep A_b_257_263 Kq264 nin0
      have F_bytes_om_265 : Fld Z T264.heap om "com/example/anagrafe/anagrafe/atom/Markup" "bytes" "[B" (.ref wq_255) := Fld.keep f262_1 Kq264 nin0
      have F_size_om_265 : Fld Z T264.heap om "com/example/anagrafe/anagrafe/atom/Markup" "size" "I" (.int (Int32.ofNat ((0 + 1 + 1 + 1 + 1) + 2))) := Fld.keep f262_2 Kq264 nin0
      have A_wq_255_265 : Arv Z T264.heap wq_255 kq_255 .byte (Int32.ofNat 16384) (((((([] ++ [(.int (60 : Int32))]) ++ [(.int c1.toInt8.toInt32)]) ++ [(.int (58 : Int32))]) ++ [(.int c2.toInt8.toInt32)]) ++ [(.int (47 : Int32))]) ++ [(.int (62 : Int32))]) (.int (0 : Int32)) := Arv.keep f262_3 Kq264 nin0
      have ne_oe_b_264 : oe ≠ b_264 := Nat.ne_of_lt (Nat.lt_of_lt_of_le A_oe_263.lt f264_0)
      have ne_om_b_264 : om ≠ b_264 := Nat.ne_of_lt (Nat.lt_of_lt_of_le f262_0.lt f264_0)
      have ne_b_257_b_264 : b_257 ≠ b_264 := Nat.ne_of_lt (Nat.lt_of_lt_of_le A_b_257_263.lt f264_0)
      have ne_wq_255_b_264 : wq_255 ≠ b_264 := Nat.ne_of_lt (Nat.lt_of_lt_of_le f262_3.lt f264_0)
      have g_b_264 : n0 ≤ b_264 := Nat.le_trans Zs262 f264_0
      have mh_b_264 : h0.size ≤ b_264 := Nat.le_trans K262.1 f264_0
      have K264 : Keep h0 T264.heap [] := Keep.trans K262 Kq264 all0
      have Zs264 : n0 ≤ T264.heap.size := Nat.le_trans Zs262 Kq264.1
      show Go p e below _ (T264.setTop (mkF m 198 #[.val (.int p1), .val (.int p2), .val (.int p3), .val (.int c1), .val (.int c2), .val (.int (1 : Int32)), .val (.int (1 : Int32)), .val (.ref b_235), .val (.ref b_237), .val (.ref oe), .val (.int ((4 : Int32) + (2 : Int32))), .val (.ref om), .val (.ref b_257), .unset, .unset, .unset] [(.ref b_264)]))
      refine g_astore X264 hx (hb hby at_198) 200 rfl rfl #[.val (.int p1), .val (.int p2), .val (.int p3), .val (.int c1), .val (.int c2), .val (.int (1 : Int32)), .val (.int (1 : Int32)), .val (.ref b_235), .val (.ref b_237), .val (.ref oe), .val (.int ((4 : Int32) + (2 : Int32))), .val (.ref om), .val (.ref b_257), .val (.ref b_264), .unset, .unset] rfl ?_
      refine g_aload X264 hx (hb hby at_200) 202 rfl (v := (.ref b_264)) rfl rfl ?_
      refine g_aload X264 hx (hb hby at_202) 204 rfl (v := (.ref oe)) rfl rfl ?_
      refine g_iload X264 hx (hb hby at_204) 206 rfl (v := ((4 : Int32) + (2 : Int32))) rfl ?_
      obtain ⟨_, _, ⟨T266, L266, k266, n266⟩, -, X266, ⟨Lc266, hQ266, l266, y266, z266⟩, st266⟩ := Jvm.LawKit.callS X264 hx (y := (⟨"com/example/anagrafe/anagrafe/atom/MarkupToByteArrayPinLaw", "same", "([B[BI)Z"⟩ : MethodName)) hown (mvT hZ (hw _ (List.mem_of_getElem? (i := 63) rfl))) (mvT hZ (hw _ (List.mem_of_getElem? (i := 64) rfl))) (mvT hZ (hw _ (List.mem_of_getElem? (i := 65) rfl))) (mvT hZ (hw _ (List.mem_of_getElem? (i := 66) rfl))) (by decide) (backOf (W := 0) (rmsame l Z a0 hw [] b_264 oe ((4 : Int32) + (2 : Int32)) kq_264 cA239 ((0 + 1 + 1 + 1 + 1) + 2) (((((([] ++ [(.int (60 : Int32))]) ++ [(.int c1.toInt8.toInt32)]) ++ [(.int (58 : Int32))]) ++ [(.int c2.toInt8.toInt32)]) ++ [(.int (47 : Int32))]) ++ [(.int (62 : Int32))]) ([(.int (60 : Int32)), (.int c1.toInt8.toInt32), (.int (58 : Int32)), (.int c2.toInt8.toInt32), (.int (47 : Int32)), (.int (62 : Int32)), (.int (0 : Int32)), (.int (0 : Int32))]) T264.heap n0 Zs264 f264_1 A_oe_265 (by decide) (by decide) (fun i hi => match i, hi with | 0, _ => ⟨_, rfl, rfl⟩ | 1, _ => ⟨_, rfl, rfl⟩ | 2, _ => ⟨_, rfl, rfl⟩ | 3, _ => ⟨_, rfl, rfl⟩ | 4, _ => ⟨_, rfl, rfl⟩ | 5, _ => ⟨_, rfl, rfl⟩ | n + 6, h => absurd h (by omega))) hZ (hw _ (List.mem_of_getElem? (i := 66) rfl)) (hw _ (List.mem_of_getElem? (i := 65) rfl)) (by decide) (by decide)) (g := (mkF m 206 #[.val (.int p1), .val (.int p2), .val (.int p3), .val (.int c1), .val (.int c2), .val (.int (1 : Int32)), .val (.int (1 : Int32)), .val (.ref b_235), .val (.ref b_237), .val (.ref oe), .val (.int ((4 : Int32) + (2 : Int32))), .val (.ref om), .val (.ref b_257), .val (.ref b_264), .unset, .unset] [(.int ((4 : Int32) + (2 : Int32))), (.ref oe), (.ref b_264)])) rfl (by rw [hml]; rfl) (argsL := [(.ref b_264), (.ref oe), (.int ((4 : Int32) + (2 : Int32)))]) (rest := []) (lenOf own_pd17 rfl) rfl (by show 2 * 0 + _ ≤ _; exact Nat.le_of_eq rfl) (hb hby at_206) (fun _ _ => ⟨rfl, rfl, (by decide : 9 + 0 ≤ _), (by decide : 16420 + 0 ≤ _)⟩)
      dsimp only [Pt.U, Pt.locs, Pt.cells, Pt.slots] at X266 l266 y266 z266 st266 hQ266
      subst l266 y266 z266
      obtain ⟨rfl, Nq266, e266⟩ := hQ266
      refine Go.st st266 ?_
      have N266 := Fr.app N264 Nq266
      show Go p e below _ (T266.setTop (mkF m 209 #[.val (.int p1), .val (.int p2), .val (.int p3), .val (.int c1), .val (.int c2), .val (.int (1 : Int32)), .val (.int (1 : Int32)), .val (.ref b_235), .val (.ref b_237), .val (.ref oe), .val (.int ((4 : Int32) + (2 : Int32))), .val (.ref om), .val (.ref b_257), .val (.ref b_264), .unset, .unset] [(.int (1 : Int32))]))
      refine g_if_ne X266 hx (hb hby at_209) 214 212 (by decide) (by decide) rfl (fun hc209 => ?_) (fun hc209 => False.elim (absurd hc209 (by decide)))
      refine g_aload X266 hx (hb hby at_214) 216 rfl (v := (.ref b_264)) rfl rfl ?_
      refine g_iconst X266 hx (hb hby at_216) 217 rfl (0 : Int32) rfl ?_
      refine g_aload X266 hx (hb hby at_217) 219 rfl (v := (.ref b_264)) rfl rfl ?_
      refine g_iconst X266 hx (hb hby at_219) 220 rfl (0 : Int32) rfl ?_
      refine g_baload X266 hx (hb hby at_220) 221 rfl hZ e266 f264_1 (show ¬ (0 : Int32) < 0 ∧ (0 : Int32) < (Int32.ofNat ((0 + 1 + 1 + 1 + 1) + 2)) from by decide) (.int (60 : Int32)) rfl ?_
      refine g_iconst X266 hx (hb hby at_221) 222 rfl (1 : Int32) rfl ?_
      refine g_ixor X266 hx (hb hby at_222) 223 rfl ((60 : Int32) ^^^ (1 : Int32)) rfl ?_
      refine g_i2b X266 hx (hb hby at_223) 224 rfl ((60 : Int32) ^^^ (1 : Int32)).toInt8.toInt32 rfl ?_
      obtain ⟨T268, h268, X268, e268, W268, B268, st268⟩ := g_bastore X266 hx (hb hby at_224) hZ e266 f264_1 (show ¬ (0 : Int32) < 0 ∧ (0 : Int32) < (Int32.ofNat ((0 + 1 + 1 + 1 + 1) + 2)) from by decide) (i := 0) (by decide) (by simp)  (L := #[.val (.int p1), .val (.int p2), .val (.int p3), .val (.int c1), .val (.int c2), .val (.int (1 : Int32)), .val (.int (1 : Int32)), .val (.ref b_235), .val (.ref b_237), .val (.ref oe), .val (.int ((4 : Int32) + (2 : Int32))), .val (.ref om), .val (.ref b_257), .val (.ref b_264), .unset, .unset]) (S := [])
      refine Go.st st268 ?_
      have A_oe_269 : Arv Z h268 oe cA239 .byte (8 : Int32) ([(.int (60 : Int32)), (.int c1.toInt8.toInt32), (.int (58 : Int32)), (.int c2.toInt8.toInt32), (.int (47 : Int32)), (.int (62 : Int32)), (.int (0 : Int32)), (.int (0 : Int32))]) (.int (0 : Int32)) := Arv.other A_oe_265 W268 ne_oe_b_264
      have E_om_269 : Exa Z h268 om "com/example/anagrafe/anagrafe/atom/Markup" := Exa.wr W268 E_om_265
      have A_b_257_269 : Arv Z h268 b_257 kq_257 .byte (Int32.ofNat 0) [] (.int (0 : Int32)) := Arv.other A_b_257_265 W268 ne_b_257_b_264
      have F_bytes_om_269 : Fld Z h268 om "com/example/anagrafe/anagrafe/atom/Markup" "bytes" "[B" (.ref wq_255) := Fld.other W268 F_bytes_om_265 (Or.inl ne_om_b_264)
      have F_size_om_269 : Fld Z h268 om "com/example/anagrafe/anagrafe/atom/Markup" "size" "I" (.int (Int32.ofNat ((0 + 1 + 1 + 1 + 1) + 2))) := Fld.other W268 F_size_om_265 (Or.inl ne_om_b_264)
      have A_wq_255_269 : Arv Z h268 wq_255 kq_255 .byte (Int32.ofNat 16384) (((((([] ++ [(.int (60 : Int32))]) ++ [(.int c1.toInt8.toInt32)]) ++ [(.int (58 : Int32))]) ++ [(.int c2.toInt8.toInt32)]) ++ [(.int (47 : Int32))]) ++ [(.int (62 : Int32))]) (.int (0 : Int32)) := Arv.other A_wq_255_265 W268 ne_wq_255_b_264
      have Av_b_264_268 : Arv Z h268 b_264 kq_264 .byte (Int32.ofNat ((0 + 1 + 1 + 1 + 1) + 2)) (List.set (α := Value) (((((([] ++ [(.int (60 : Int32))]) ++ [(.int c1.toInt8.toInt32)]) ++ [(.int (58 : Int32))]) ++ [(.int c2.toInt8.toInt32)]) ++ [(.int (47 : Int32))]) ++ [(.int (62 : Int32))]) 0 (.int (nar .byte (((60 : Int32) ^^^ (1 : Int32)).toInt8.toInt32)))) (.int (0 : Int32)) := B268
      have K268 : Keep h0 h268 [] := Keep.wr K264 W268 (Or.inr mh_b_264)
      have N268 := Fr.snoc X268 N266 g_b_264
      have Zs268 : n0 ≤ h268.size := by rw [W268.size]; exact Zs264
      show Go p e below _ (T268.setTop (mkF m 225 #[.val (.int p1), .val (.int p2), .val (.int p3), .val (.int c1), .val (.int c2), .val (.int (1 : Int32)), .val (.int (1 : Int32)), .val (.ref b_235), .val (.ref b_237), .val (.ref oe), .val (.int ((4 : Int32) + (2 : Int32))), .val (.ref om), .val (.ref b_257), .val (.ref b_264), .unset, .unset] []))
      refine g_aload X268 hx (hb hby at_225) 227 rfl (v := (.ref om)) rfl rfl ?_
      obtain ⟨cq270, kq270, q270a, q270b, q270c⟩ := isOf hZ e268 E_om_269
      obtain ⟨_, _, ⟨T270, L270, k270, n270⟩, -, X270, ⟨Lc270, hQ270, l270, y270, z270⟩, st270⟩ := X268.virtualBack hx (y := (⟨"com/example/anagrafe/anagrafe/atom/Markup", "toByteArray", "()[B"⟩ : MethodName)) (z := (⟨"com/example/anagrafe/anagrafe/atom/Markup", "toByteArray", "()[B"⟩ : MethodName)) hown (mvT hZ (hw _ (List.mem_of_getElem? (i := 35) rfl))) (mvT hZ (hw _ (List.mem_of_getElem? (i := 36) rfl))) (notFace_of_selects (args := #[]) (mvT hZ (hw _ (List.mem_of_getElem? (i := 38) rfl)))) (mvT hZ (hw _ (List.mem_of_getElem? (i := 38) rfl))) (mvT hZ (hw _ (List.mem_of_getElem? (i := 37) rfl))) (by decide) (backOf (W := 0) (rm7 l Z a0 hw [] om wq_255 kq_255 ((0 + 1 + 1 + 1 + 1) + 2) (((((([] ++ [(.int (60 : Int32))]) ++ [(.int c1.toInt8.toInt32)]) ++ [(.int (58 : Int32))]) ++ [(.int c2.toInt8.toInt32)]) ++ [(.int (47 : Int32))]) ++ [(.int (62 : Int32))]) h268 n0 Zs268 E_om_269 F_bytes_om_269 F_size_om_269 A_wq_255_269 rfl (by decide)) hZ (hw _ (List.mem_of_getElem? (i := 39) rfl)) (hw _ (List.mem_of_getElem? (i := 28) rfl)) (by decide) (by decide)) q270a q270c (g := (mkF m 227 #[.val (.int p1), .val (.int p2), .val (.int p3), .val (.int c1), .val (.int c2), .val (.int (1 : Int32)), .val (.int (1 : Int32)), .val (.ref b_235), .val (.ref b_237), .val (.ref oe), .val (.int ((4 : Int32) + (2 : Int32))), .val (.ref om), .val (.ref b_257), .val (.ref b_264), .unset, .unset] [(.ref om)])) rfl (by rw [hml]; rfl) (Steps.refl _) (argsL := []) (rest := []) (lenOf own_pd16 rfl) rfl (by show 2 * 0 + _ ≤ _; exact Nat.le_of_eq rfl) (hb hby at_227) (fun _ _ => ⟨rfl, e268, (by decide : 9 + 1 ≤ _), (by decide : 16420 + 8 ≤ _)⟩)
      dsimp only [Pt.U, Pt.locs, Pt.cells, Pt.slots] at X270 l270 y270 z270 st270 hQ270
      subst l270 y270 z270
      obtain ⟨b_270, kq_270, rfl, Nq270, Kq270, f270_0, f270_1⟩ := hQ270
      refine Go.tr st270 ?_
      have N270 := Fr.app N268 Nq270
      have A_oe_271 : Arv Z T270.heap oe cA239 .byte (8 : Int32) ([(.int (60 : Int32)), (.int c1.toInt8.toInt32), (.int (58 : Int32)), (.int c2.toInt8.toInt32), (.int (47 : Int32)), (.int (62 : Int32)), (.int (0 : Int32)), (.int (0 : Int32))]) (.int (0 : Int32)) := Arv.keep A_oe_269 Kq270 nin0
      have E_om_271 : Exa Z T270.heap om "com/example/anagrafe/anagrafe/atom/Markup" := Exa.keep E_om_269 Kq270
      have A_b_257_271 : Arv Z T270.heap b_257 kq_257 .byte (Int32.ofNat 0) [] (.int (0 : Int32)) := Arv.keep A_b_257_269 Kq270 nin0
      have F_bytes_om_271 : Fld Z T270.heap om "com/example/anagrafe/anagrafe/atom/Markup" "bytes" "[B" (.ref wq_255) := Fld.keep F_bytes_om_269 Kq270 nin0
      have F_size_om_271 : Fld Z T270.heap om "com/example/anagrafe/anagrafe/atom/Markup" "size" "I" (.int (Int32.ofNat ((0 + 1 + 1 + 1 + 1) + 2))) := Fld.keep F_size_om_269 Kq270 nin0
      have A_wq_255_271 : Arv Z T270.heap wq_255 kq_255 .byte (Int32.ofNat 16384) (((((([] ++ [(.int (60 : Int32))]) ++ [(.int c1.toInt8.toInt32)]) ++ [(.int (58 : Int32))]) ++ [(.int c2.toInt8.toInt32)]) ++ [(.int (47 : Int32))]) ++ [(.int (62 : Int32))]) (.int (0 : Int32)) := Arv.keep A_wq_255_269 Kq270 nin0
      have A_b_264_271 : Arv Z T270.heap b_264 kq_264 .byte (Int32.ofNat ((0 + 1 + 1 + 1 + 1) + 2)) (List.set (α := Value) (((((([] ++ [(.int (60 : Int32))]) ++ [(.int c1.toInt8.toInt32)]) ++ [(.int (58 : Int32))]) ++ [(.int c2.toInt8.toInt32)]) ++ [(.int (47 : Int32))]) ++ [(.int (62 : Int32))]) 0 (.int (nar .byte (((60 : Int32) ^^^ (1 : Int32)).toInt8.toInt32)))) (.int (0 : Int32)) := Arv.keep Av_b_264_268 Kq270 nin0
      have ne_oe_b_270 : oe ≠ b_270 := Nat.ne_of_lt (Nat.lt_of_lt_of_le A_oe_269.lt f270_0)
      have ne_om_b_270 : om ≠ b_270 := Nat.ne_of_lt (Nat.lt_of_lt_of_le E_om_269.lt f270_0)
      have ne_b_257_b_270 : b_257 ≠ b_270 := Nat.ne_of_lt (Nat.lt_of_lt_of_le A_b_257_269.lt f270_0)
      have ne_wq_255_b_270 : wq_255 ≠ b_270 := Nat.ne_of_lt (Nat.lt_of_lt_of_le A_wq_255_269.lt f270_0)
      have ne_b_264_b_270 : b_264 ≠ b_270 := Nat.ne_of_lt (Nat.lt_of_lt_of_le Av_b_264_268.lt f270_0)
      have g_b_270 : n0 ≤ b_270 := Nat.le_trans Zs268 f270_0
      have mh_b_270 : h0.size ≤ b_270 := Nat.le_trans K268.1 f270_0
      have K270 : Keep h0 T270.heap [] := Keep.trans K268 Kq270 all0
      have Zs270 : n0 ≤ T270.heap.size := Nat.le_trans Zs268 Kq270.1
      show Go p e below _ (T270.setTop (mkF m 230 #[.val (.int p1), .val (.int p2), .val (.int p3), .val (.int c1), .val (.int c2), .val (.int (1 : Int32)), .val (.int (1 : Int32)), .val (.ref b_235), .val (.ref b_237), .val (.ref oe), .val (.int ((4 : Int32) + (2 : Int32))), .val (.ref om), .val (.ref b_257), .val (.ref b_264), .unset, .unset] [(.ref b_270)]))
      refine g_astore X270 hx (hb hby at_230) 232 rfl rfl #[.val (.int p1), .val (.int p2), .val (.int p3), .val (.int c1), .val (.int c2), .val (.int (1 : Int32)), .val (.int (1 : Int32)), .val (.ref b_235), .val (.ref b_237), .val (.ref oe), .val (.int ((4 : Int32) + (2 : Int32))), .val (.ref om), .val (.ref b_257), .val (.ref b_264), .val (.ref b_270), .unset] rfl ?_
      refine g_aload X270 hx (hb hby at_232) 234 rfl (v := (.ref b_270)) rfl rfl ?_
      refine g_aload X270 hx (hb hby at_234) 236 rfl (v := (.ref b_264)) rfl rfl ?_
      refine g_acmp_eq X270 hx (hb hby at_236) 251 239 (by decide) (by decide) rfl rfl rfl (fun hc236 => False.elim ((Ne.symm ne_b_264_b_270) (Value.ref.inj hc236))) (fun hc236 => ?_)
      refine g_aload X270 hx (hb hby at_239) 241 rfl (v := (.ref b_270)) rfl rfl ?_
      refine g_aload X270 hx (hb hby at_241) 243 rfl (v := (.ref oe)) rfl rfl ?_
      refine g_iload X270 hx (hb hby at_243) 245 rfl (v := ((4 : Int32) + (2 : Int32))) rfl ?_
      obtain ⟨_, _, ⟨T272, L272, k272, n272⟩, -, X272, ⟨Lc272, hQ272, l272, y272, z272⟩, st272⟩ := Jvm.LawKit.callS X270 hx (y := (⟨"com/example/anagrafe/anagrafe/atom/MarkupToByteArrayPinLaw", "same", "([B[BI)Z"⟩ : MethodName)) hown (mvT hZ (hw _ (List.mem_of_getElem? (i := 63) rfl))) (mvT hZ (hw _ (List.mem_of_getElem? (i := 64) rfl))) (mvT hZ (hw _ (List.mem_of_getElem? (i := 65) rfl))) (mvT hZ (hw _ (List.mem_of_getElem? (i := 66) rfl))) (by decide) (backOf (W := 0) (rmsame l Z a0 hw [] b_270 oe ((4 : Int32) + (2 : Int32)) kq_270 cA239 ((0 + 1 + 1 + 1 + 1) + 2) (((((([] ++ [(.int (60 : Int32))]) ++ [(.int c1.toInt8.toInt32)]) ++ [(.int (58 : Int32))]) ++ [(.int c2.toInt8.toInt32)]) ++ [(.int (47 : Int32))]) ++ [(.int (62 : Int32))]) ([(.int (60 : Int32)), (.int c1.toInt8.toInt32), (.int (58 : Int32)), (.int c2.toInt8.toInt32), (.int (47 : Int32)), (.int (62 : Int32)), (.int (0 : Int32)), (.int (0 : Int32))]) T270.heap n0 Zs270 f270_1 A_oe_271 (by decide) (by decide) (fun i hi => match i, hi with | 0, _ => ⟨_, rfl, rfl⟩ | 1, _ => ⟨_, rfl, rfl⟩ | 2, _ => ⟨_, rfl, rfl⟩ | 3, _ => ⟨_, rfl, rfl⟩ | 4, _ => ⟨_, rfl, rfl⟩ | 5, _ => ⟨_, rfl, rfl⟩ | n + 6, h => absurd h (by omega))) hZ (hw _ (List.mem_of_getElem? (i := 66) rfl)) (hw _ (List.mem_of_getElem? (i := 65) rfl)) (by decide) (by decide)) (g := (mkF m 245 #[.val (.int p1), .val (.int p2), .val (.int p3), .val (.int c1), .val (.int c2), .val (.int (1 : Int32)), .val (.int (1 : Int32)), .val (.ref b_235), .val (.ref b_237), .val (.ref oe), .val (.int ((4 : Int32) + (2 : Int32))), .val (.ref om), .val (.ref b_257), .val (.ref b_264), .val (.ref b_270), .unset] [(.int ((4 : Int32) + (2 : Int32))), (.ref oe), (.ref b_270)])) rfl (by rw [hml]; rfl) (argsL := [(.ref b_270), (.ref oe), (.int ((4 : Int32) + (2 : Int32)))]) (rest := []) (lenOf own_pd17 rfl) rfl (by show 2 * 0 + _ ≤ _; exact Nat.le_of_eq rfl) (hb hby at_245) (fun _ _ => ⟨rfl, rfl, (by decide : 10 + 0 ≤ _), (by decide : 16428 + 0 ≤ _)⟩)
      dsimp only [Pt.U, Pt.locs, Pt.cells, Pt.slots] at X272 l272 y272 z272 st272 hQ272
      subst l272 y272 z272
      obtain ⟨rfl, Nq272, e272⟩ := hQ272
      refine Go.st st272 ?_
      have N272 := Fr.app N270 Nq272
      show Go p e below _ (T272.setTop (mkF m 248 #[.val (.int p1), .val (.int p2), .val (.int p3), .val (.int c1), .val (.int c2), .val (.int (1 : Int32)), .val (.int (1 : Int32)), .val (.ref b_235), .val (.ref b_237), .val (.ref oe), .val (.int ((4 : Int32) + (2 : Int32))), .val (.ref om), .val (.ref b_257), .val (.ref b_264), .val (.ref b_270), .unset] [(.int (1 : Int32))]))
      refine g_if_ne X272 hx (hb hby at_248) 253 251 (by decide) (by decide) rfl (fun hc248 => ?_) (fun hc248 => False.elim (absurd hc248 (by decide)))
      refine g_aload X272 hx (hb hby at_253) 255 rfl (v := (.ref om)) rfl rfl ?_
      obtain ⟨cq273, kq273, q273a, q273b, q273c⟩ := isOf hZ e272 E_om_271
      obtain ⟨_, _, ⟨T273, L273, k273, n273⟩, -, X273, ⟨Lc273, hQ273, l273, y273, z273⟩, st273⟩ := X272.virtualBack hx (y := (⟨"com/example/anagrafe/anagrafe/atom/Markup", "endStart", "()V"⟩ : MethodName)) (z := (⟨"com/example/anagrafe/anagrafe/atom/Markup", "endStart", "()V"⟩ : MethodName)) hown (mvT hZ (hw _ (List.mem_of_getElem? (i := 54) rfl))) (mvT hZ (hw _ (List.mem_of_getElem? (i := 55) rfl))) (notFace_of_selects (args := #[]) (mvT hZ (hw _ (List.mem_of_getElem? (i := 57) rfl)))) (mvT hZ (hw _ (List.mem_of_getElem? (i := 57) rfl))) (mvT hZ (hw _ (List.mem_of_getElem? (i := 56) rfl))) (by decide) (backOf (W := 0) (rm10 l Z a0 hw [] om wq_255 kq_255 ((0 + 1 + 1 + 1 + 1) + 2) (((((([] ++ [(.int (60 : Int32))]) ++ [(.int c1.toInt8.toInt32)]) ++ [(.int (58 : Int32))]) ++ [(.int c2.toInt8.toInt32)]) ++ [(.int (47 : Int32))]) ++ [(.int (62 : Int32))]) T270.heap n0 Zs270 E_om_271 F_bytes_om_271 F_size_om_271 A_wq_255_271 g_om g_wq_255 ne_om_wq_255 rfl (by decide)) hZ (hw _ (List.mem_of_getElem? (i := 58) rfl)) (hw _ (List.mem_of_getElem? (i := 28) rfl)) (by decide) (by decide)) q273a q273c (g := (mkF m 255 #[.val (.int p1), .val (.int p2), .val (.int p3), .val (.int c1), .val (.int c2), .val (.int (1 : Int32)), .val (.int (1 : Int32)), .val (.ref b_235), .val (.ref b_237), .val (.ref oe), .val (.int ((4 : Int32) + (2 : Int32))), .val (.ref om), .val (.ref b_257), .val (.ref b_264), .val (.ref b_270), .unset] [(.ref om)])) rfl (by rw [hml]; rfl) (Steps.refl _) (argsL := []) (rest := []) (lenOf own_pd15 rfl) rfl (by show 2 * 0 + _ ≤ _; exact Nat.le_of_eq rfl) (hb hby at_255) (fun _ _ => ⟨rfl, e272, (by decide : 10 + 0 ≤ _), (by decide : 16428 + 0 ≤ _)⟩)
      dsimp only [Pt.U, Pt.locs, Pt.cells, Pt.slots] at X273 l273 y273 z273 st273 hQ273
      subst l273 y273 z273
      obtain ⟨rfl, Nq273, Kq273, f273_0, f273_1, f273_2, f273_3⟩ := hQ273
      refine Go.tr st273 ?_
      have N273 := Fr.app N272 Nq273
      have A_oe_274 : Arv Z T273.heap oe cA239 .byte (8 : Int32) ([(.int (60 : Int32)), (.int c1.toInt8.toInt32), (.int (58 : Int32)), (.int c2.toInt8.toInt32), (.int (47 : Int32)), (.int (62 : Int32)), (.int (0 : Int32)), (.int (0 : Int32))]) (.int (0 : Int32)) := Arv.keep A_oe_271 Kq273 (ninS ne_oe_om (ninS ne_oe_wq_255 nin0))
      have E_om_274 : Exa Z T273.heap om "com/example/anagrafe/anagrafe/atom/Markup" := Exa.keep E_om_271 Kq273
      have A_b_257_274 : Arv Z T273.heap b_257 kq_257 .byte (Int32.ofNat 0) [] (.int (0 : Int32)) := Arv.keep A_b_257_271 Kq273 (ninS (Ne.symm ne_om_b_257) (ninS (Ne.symm ne_wq_255_b_257) nin0))
      have A_b_264_274 : Arv Z T273.heap b_264 kq_264 .byte (Int32.ofNat ((0 + 1 + 1 + 1 + 1) + 2)) (List.set (α := Value) (((((([] ++ [(.int (60 : Int32))]) ++ [(.int c1.toInt8.toInt32)]) ++ [(.int (58 : Int32))]) ++ [(.int c2.toInt8.toInt32)]) ++ [(.int (47 : Int32))]) ++ [(.int (62 : Int32))]) 0 (.int (nar .byte (((60 : Int32) ^^^ (1 : Int32)).toInt8.toInt32)))) (.int (0 : Int32)) := Arv.keep A_b_264_271 Kq273 (ninS (Ne.symm ne_om_b_264) (ninS (Ne.symm ne_wq_255_b_264) nin0))
      have A_b_270_274 : Arv Z T273.heap b_270 kq_270 .byte (Int32.ofNat ((0 + 1 + 1 + 1 + 1) + 2)) (((((([] ++ [(.int (60 : Int32))]) ++ [(.int c1.toInt8.toInt32)]) ++ [(.int (58 : Int32))]) ++ [(.int c2.toInt8.toInt32)]) ++ [(.int (47 : Int32))]) ++ [(.int (62 : Int32))]) (.int (0 : Int32)) := Arv.keep f270_1 Kq273 (ninS (Ne.symm ne_om_b_270) (ninS (Ne.symm ne_wq_255_b_270) nin0))
      have K273 : Keep h0 T273.heap [] := Keep.trans K270 Kq273 (allS (Or.inr mh_om) (allS (Or.inr mh_wq_255) all0))
      have Zs273 : n0 ≤ T273.heap.size := Nat.le_trans Zs270 Kq273.1
      show Go p e below _ (T273.setTop (mkF m 258 #[.val (.int p1), .val (.int p2), .val (.int p3), .val (.int c1), .val (.int c2), .val (.int (1 : Int32)), .val (.int (1 : Int32)), .val (.ref b_235), .val (.ref b_237), .val (.ref oe), .val (.int ((4 : Int32) + (2 : Int32))), .val (.ref om), .val (.ref b_257), .val (.ref b_264), .val (.ref b_270), .unset] []))
      refine g_aload X273 hx (hb hby at_258) 260 rfl (v := (.ref oe)) rfl rfl ?_
      refine g_iload X273 hx (hb hby at_260) 262 rfl (v := ((4 : Int32) + (2 : Int32))) rfl ?_
      refine g_bipush X273 hx (hb hby at_262) 264 rfl (62 : Int32) rfl ?_
      obtain ⟨T275, h275, X275, e275, W275, B275, st275⟩ := g_bastore X273 hx (hb hby at_264) hZ rfl A_oe_274 (show ¬ ((4 : Int32) + (2 : Int32)) < 0 ∧ ((4 : Int32) + (2 : Int32)) < (8 : Int32) from by decide) (i := 6) (by decide) (by simp)  (L := #[.val (.int p1), .val (.int p2), .val (.int p3), .val (.int c1), .val (.int c2), .val (.int (1 : Int32)), .val (.int (1 : Int32)), .val (.ref b_235), .val (.ref b_237), .val (.ref oe), .val (.int ((4 : Int32) + (2 : Int32))), .val (.ref om), .val (.ref b_257), .val (.ref b_264), .val (.ref b_270), .unset]) (S := [])
      refine Go.st st275 ?_
      have E_om_276 : Exa Z h275 om "com/example/anagrafe/anagrafe/atom/Markup" := Exa.wr W275 f273_0
      have A_b_257_276 : Arv Z h275 b_257 kq_257 .byte (Int32.ofNat 0) [] (.int (0 : Int32)) := Arv.other A_b_257_274 W275 (Ne.symm ne_oe_b_257)
      have A_b_264_276 : Arv Z h275 b_264 kq_264 .byte (Int32.ofNat ((0 + 1 + 1 + 1 + 1) + 2)) (List.set (α := Value) (((((([] ++ [(.int (60 : Int32))]) ++ [(.int c1.toInt8.toInt32)]) ++ [(.int (58 : Int32))]) ++ [(.int c2.toInt8.toInt32)]) ++ [(.int (47 : Int32))]) ++ [(.int (62 : Int32))]) 0 (.int (nar .byte (((60 : Int32) ^^^ (1 : Int32)).toInt8.toInt32)))) (.int (0 : Int32)) := Arv.other A_b_264_274 W275 (Ne.symm ne_oe_b_264)
      have A_b_270_276 : Arv Z h275 b_270 kq_270 .byte (Int32.ofNat ((0 + 1 + 1 + 1 + 1) + 2)) (((((([] ++ [(.int (60 : Int32))]) ++ [(.int c1.toInt8.toInt32)]) ++ [(.int (58 : Int32))]) ++ [(.int c2.toInt8.toInt32)]) ++ [(.int (47 : Int32))]) ++ [(.int (62 : Int32))]) (.int (0 : Int32)) := Arv.other A_b_270_274 W275 (Ne.symm ne_oe_b_270)
      have F_bytes_om_276 : Fld Z h275 om "com/example/anagrafe/anagrafe/atom/Markup" "bytes" "[B" (.ref wq_255) := Fld.other W275 f273_1 (Or.inl (Ne.symm ne_oe_om))
      have F_size_om_276 : Fld Z h275 om "com/example/anagrafe/anagrafe/atom/Markup" "size" "I" (.int (Int32.ofNat (((0 + 1 + 1 + 1 + 1) + 2) + 1))) := Fld.other W275 f273_2 (Or.inl (Ne.symm ne_oe_om))
      have A_wq_255_276 : Arv Z h275 wq_255 kq_255 .byte (Int32.ofNat 16384) ((((((([] ++ [(.int (60 : Int32))]) ++ [(.int c1.toInt8.toInt32)]) ++ [(.int (58 : Int32))]) ++ [(.int c2.toInt8.toInt32)]) ++ [(.int (47 : Int32))]) ++ [(.int (62 : Int32))]) ++ [(.int (62 : Int32))]) (.int (0 : Int32)) := Arv.other f273_3 W275 (Ne.symm ne_oe_wq_255)
      have Av_oe_275 : Arv Z h275 oe cA239 .byte (8 : Int32) ([(.int (60 : Int32)), (.int c1.toInt8.toInt32), (.int (58 : Int32)), (.int c2.toInt8.toInt32), (.int (47 : Int32)), (.int (62 : Int32)), (.int (62 : Int32)), (.int (0 : Int32))]) (.int (0 : Int32)) := B275
      have K275 : Keep h0 h275 [] := Keep.wr K273 W275 (Or.inr mh_oe)
      have N275 := Fr.snoc X275 N273 g_oe
      have Zs275 : n0 ≤ h275.size := by rw [W275.size]; exact Zs273
      show Go p e below _ (T275.setTop (mkF m 265 #[.val (.int p1), .val (.int p2), .val (.int p3), .val (.int c1), .val (.int c2), .val (.int (1 : Int32)), .val (.int (1 : Int32)), .val (.ref b_235), .val (.ref b_237), .val (.ref oe), .val (.int ((4 : Int32) + (2 : Int32))), .val (.ref om), .val (.ref b_257), .val (.ref b_264), .val (.ref b_270), .unset] []))
      refine g_aload X275 hx (hb hby at_265) 267 rfl (v := (.ref om)) rfl rfl ?_
      obtain ⟨cq277, kq277, q277a, q277b, q277c⟩ := isOf hZ e275 E_om_276
      obtain ⟨_, _, ⟨T277, L277, k277, n277⟩, -, X277, ⟨Lc277, hQ277, l277, y277, z277⟩, st277⟩ := X275.virtualBack hx (y := (⟨"com/example/anagrafe/anagrafe/atom/Markup", "toByteArray", "()[B"⟩ : MethodName)) (z := (⟨"com/example/anagrafe/anagrafe/atom/Markup", "toByteArray", "()[B"⟩ : MethodName)) hown (mvT hZ (hw _ (List.mem_of_getElem? (i := 35) rfl))) (mvT hZ (hw _ (List.mem_of_getElem? (i := 36) rfl))) (notFace_of_selects (args := #[]) (mvT hZ (hw _ (List.mem_of_getElem? (i := 38) rfl)))) (mvT hZ (hw _ (List.mem_of_getElem? (i := 38) rfl))) (mvT hZ (hw _ (List.mem_of_getElem? (i := 37) rfl))) (by decide) (backOf (W := 0) (rm7 l Z a0 hw [] om wq_255 kq_255 (((0 + 1 + 1 + 1 + 1) + 2) + 1) ((((((([] ++ [(.int (60 : Int32))]) ++ [(.int c1.toInt8.toInt32)]) ++ [(.int (58 : Int32))]) ++ [(.int c2.toInt8.toInt32)]) ++ [(.int (47 : Int32))]) ++ [(.int (62 : Int32))]) ++ [(.int (62 : Int32))]) h275 n0 Zs275 E_om_276 F_bytes_om_276 F_size_om_276 A_wq_255_276 rfl (by decide)) hZ (hw _ (List.mem_of_getElem? (i := 39) rfl)) (hw _ (List.mem_of_getElem? (i := 28) rfl)) (by decide) (by decide)) q277a q277c (g := (mkF m 267 #[.val (.int p1), .val (.int p2), .val (.int p3), .val (.int c1), .val (.int c2), .val (.int (1 : Int32)), .val (.int (1 : Int32)), .val (.ref b_235), .val (.ref b_237), .val (.ref oe), .val (.int ((4 : Int32) + (2 : Int32))), .val (.ref om), .val (.ref b_257), .val (.ref b_264), .val (.ref b_270), .unset] [(.ref om)])) rfl (by rw [hml]; rfl) (Steps.refl _) (argsL := []) (rest := []) (lenOf own_pd16 rfl) rfl (by show 2 * 0 + _ ≤ _; exact Nat.le_of_eq rfl) (hb hby at_267) (fun _ _ => ⟨rfl, e275, (by decide : 10 + 1 ≤ _), (by decide : 16428 + 8 ≤ _)⟩)
      dsimp only [Pt.U, Pt.locs, Pt.cells, Pt.slots] at X277 l277 y277 z277 st277 hQ277
      subst l277 y277 z277
      obtain ⟨b_277, kq_277, rfl, Nq277, Kq277, f277_0, f277_1⟩ := hQ277
      refine Go.tr st277 ?_
      have N277 := Fr.app N275 Nq277
      have E_om_278 : Exa Z T277.heap om "com/example/anagrafe/anagrafe/atom/Markup" := Exa.keep E_om_276 Kq277
      have A_b_257_278 : Arv Z T277.heap b_257 kq_257 .byte (Int32.ofNat 0) [] (.int (0 : Int32)) := Arv.keep A_b_257_276 Kq277 nin0
      have A_b_264_278 : Arv Z T277.heap b_264 kq_264 .byte (Int32.ofNat ((0 + 1 + 1 + 1 + 1) + 2)) (List.set (α := Value) (((((([] ++ [(.int (60 : Int32))]) ++ [(.int c1.toInt8.toInt32)]) ++ [(.int (58 : Int32))]) ++ [(.int c2.toInt8.toInt32)]) ++ [(.int (47 : Int32))]) ++ [(.int (62 : Int32))]) 0 (.int (nar .byte (((60 : Int32) ^^^ (1 : Int32)).toInt8.toInt32)))) (.int (0 : Int32)) := Arv.keep A_b_264_276 Kq277 nin0
      have A_b_270_278 : Arv Z T277.heap b_270 kq_270 .byte (Int32.ofNat ((0 + 1 + 1 + 1 + 1) + 2)) (((((([] ++ [(.int (60 : Int32))]) ++ [(.int c1.toInt8.toInt32)]) ++ [(.int (58 : Int32))]) ++ [(.int c2.toInt8.toInt32)]) ++ [(.int (47 : Int32))]) ++ [(.int (62 : Int32))]) (.int (0 : Int32)) := Arv.keep A_b_270_276 Kq277 nin0
      have F_bytes_om_278 : Fld Z T277.heap om "com/example/anagrafe/anagrafe/atom/Markup" "bytes" "[B" (.ref wq_255) := Fld.keep F_bytes_om_276 Kq277 nin0
      have F_size_om_278 : Fld Z T277.heap om "com/example/anagrafe/anagrafe/atom/Markup" "size" "I" (.int (Int32.ofNat (((0 + 1 + 1 + 1 + 1) + 2) + 1))) := Fld.keep F_size_om_276 Kq277 nin0
      have A_wq_255_278 : Arv Z T277.heap wq_255 kq_255 .byte (Int32.ofNat 16384) ((((((([] ++ [(.int (60 : Int32))]) ++ [(.int c1.toInt8.toInt32)]) ++ [(.int (58 : Int32))]) ++ [(.int c2.toInt8.toInt32)]) ++ [(.int (47 : Int32))]) ++ [(.int (62 : Int32))]) ++ [(.int (62 : Int32))]) (.int (0 : Int32)) := Arv.keep A_wq_255_276 Kq277 nin0
      have A_oe_278 : Arv Z T277.heap oe cA239 .byte (8 : Int32) ([(.int (60 : Int32)), (.int c1.toInt8.toInt32), (.int (58 : Int32)), (.int c2.toInt8.toInt32), (.int (47 : Int32)), (.int (62 : Int32)), (.int (62 : Int32)), (.int (0 : Int32))]) (.int (0 : Int32)) := Arv.keep Av_oe_275 Kq277 nin0
      have ne_om_b_277 : om ≠ b_277 := Nat.ne_of_lt (Nat.lt_of_lt_of_le E_om_276.lt f277_0)
      have ne_b_257_b_277 : b_257 ≠ b_277 := Nat.ne_of_lt (Nat.lt_of_lt_of_le A_b_257_276.lt f277_0)
      have ne_b_264_b_277 : b_264 ≠ b_277 := Nat.ne_of_lt (Nat.lt_of_lt_of_le A_b_264_276.lt f277_0)
      have ne_b_270_b_277 : b_270 ≠ b_277 := Nat.ne_of_lt (Nat.lt_of_lt_of_le A_b_270_276.lt f277_0)
      have ne_wq_255_b_277 : wq_255 ≠ b_277 := Nat.ne_of_lt (Nat.lt_of_lt_of_le A_wq_255_276.lt f277_0)
      have ne_oe_b_277 : oe ≠ b_277 := Nat.ne_of_lt (Nat.lt_of_lt_of_le Av_oe_275.lt f277_0)
      have g_b_277 : n0 ≤ b_277 := Nat.le_trans Zs275 f277_0
      have mh_b_277 : h0.size ≤ b_277 := Nat.le_trans K275.1 f277_0
      have K277 : Keep h0 T277.heap [] := Keep.trans K275 Kq277 all0
      have Zs277 : n0 ≤ T277.heap.size := Nat.le_trans Zs275 Kq277.1
      show Go p e below _ (T277.setTop (mkF m 270 #[.val (.int p1), .val (.int p2), .val (.int p3), .val (.int c1), .val (.int c2), .val (.int (1 : Int32)), .val (.int (1 : Int32)), .val (.ref b_235), .val (.ref b_237), .val (.ref oe), .val (.int ((4 : Int32) + (2 : Int32))), .val (.ref om), .val (.ref b_257), .val (.ref b_264), .val (.ref b_270), .unset] [(.ref b_277)]))
      refine g_astore X277 hx (hb hby at_270) 272 rfl rfl #[.val (.int p1), .val (.int p2), .val (.int p3), .val (.int c1), .val (.int c2), .val (.int (1 : Int32)), .val (.int (1 : Int32)), .val (.ref b_235), .val (.ref b_237), .val (.ref oe), .val (.int ((4 : Int32) + (2 : Int32))), .val (.ref om), .val (.ref b_257), .val (.ref b_264), .val (.ref b_270), .val (.ref b_277)] rfl ?_
      refine g_aload X277 hx (hb hby at_272) 274 rfl (v := (.ref b_257)) rfl rfl ?_
      refine g_alen X277 hx (hb hby at_274) 275 rfl hZ rfl A_b_257_278 ?_
      refine g_if_ne X277 hx (hb hby at_275) 303 278 (by decide) (by decide) rfl (fun hc275 => False.elim (hc275 rfl)) (fun hc275 => ?_)
      refine g_aload X277 hx (hb hby at_278) 280 rfl (v := (.ref b_277)) rfl rfl ?_
      refine g_aload X277 hx (hb hby at_280) 282 rfl (v := (.ref b_270)) rfl rfl ?_
      refine g_acmp_eq X277 hx (hb hby at_282) 303 285 (by decide) (by decide) rfl rfl rfl (fun hc282 => False.elim ((Ne.symm ne_b_270_b_277) (Value.ref.inj hc282))) (fun hc282 => ?_)
      refine g_aload X277 hx (hb hby at_285) 287 rfl (v := (.ref b_277)) rfl rfl ?_
      refine g_aload X277 hx (hb hby at_287) 289 rfl (v := (.ref oe)) rfl rfl ?_
      refine g_iload X277 hx (hb hby at_289) 291 rfl (v := ((4 : Int32) + (2 : Int32))) rfl ?_
      refine g_iconst X277 hx (hb hby at_291) 292 rfl (1 : Int32) rfl ?_
      refine g_iadd X277 hx (hb hby at_292) 293 rfl (((4 : Int32) + (2 : Int32)) + (1 : Int32)) rfl ?_
      obtain ⟨_, _, ⟨T280, L280, k280, n280⟩, -, X280, ⟨Lc280, hQ280, l280, y280, z280⟩, st280⟩ := Jvm.LawKit.callS X277 hx (y := (⟨"com/example/anagrafe/anagrafe/atom/MarkupToByteArrayPinLaw", "same", "([B[BI)Z"⟩ : MethodName)) hown (mvT hZ (hw _ (List.mem_of_getElem? (i := 63) rfl))) (mvT hZ (hw _ (List.mem_of_getElem? (i := 64) rfl))) (mvT hZ (hw _ (List.mem_of_getElem? (i := 65) rfl))) (mvT hZ (hw _ (List.mem_of_getElem? (i := 66) rfl))) (by decide) (backOf (W := 0) (rmsame l Z a0 hw [] b_277 oe (((4 : Int32) + (2 : Int32)) + (1 : Int32)) kq_277 cA239 (((0 + 1 + 1 + 1 + 1) + 2) + 1) ((((((([] ++ [(.int (60 : Int32))]) ++ [(.int c1.toInt8.toInt32)]) ++ [(.int (58 : Int32))]) ++ [(.int c2.toInt8.toInt32)]) ++ [(.int (47 : Int32))]) ++ [(.int (62 : Int32))]) ++ [(.int (62 : Int32))]) ([(.int (60 : Int32)), (.int c1.toInt8.toInt32), (.int (58 : Int32)), (.int c2.toInt8.toInt32), (.int (47 : Int32)), (.int (62 : Int32)), (.int (62 : Int32)), (.int (0 : Int32))]) T277.heap n0 Zs277 f277_1 A_oe_278 (by decide) (by decide) (fun i hi => match i, hi with | 0, _ => ⟨_, rfl, rfl⟩ | 1, _ => ⟨_, rfl, rfl⟩ | 2, _ => ⟨_, rfl, rfl⟩ | 3, _ => ⟨_, rfl, rfl⟩ | 4, _ => ⟨_, rfl, rfl⟩ | 5, _ => ⟨_, rfl, rfl⟩ | 6, _ => ⟨_, rfl, rfl⟩ | n + 7, h => absurd h (by omega))) hZ (hw _ (List.mem_of_getElem? (i := 66) rfl)) (hw _ (List.mem_of_getElem? (i := 65) rfl)) (by decide) (by decide)) (g := (mkF m 293 #[.val (.int p1), .val (.int p2), .val (.int p3), .val (.int c1), .val (.int c2), .val (.int (1 : Int32)), .val (.int (1 : Int32)), .val (.ref b_235), .val (.ref b_237), .val (.ref oe), .val (.int ((4 : Int32) + (2 : Int32))), .val (.ref om), .val (.ref b_257), .val (.ref b_264), .val (.ref b_270), .val (.ref b_277)] [(.int (((4 : Int32) + (2 : Int32)) + (1 : Int32))), (.ref oe), (.ref b_277)])) rfl (by rw [hml]; rfl) (argsL := [(.ref b_277), (.ref oe), (.int (((4 : Int32) + (2 : Int32)) + (1 : Int32)))]) (rest := []) (lenOf own_pd17 rfl) rfl (by show 2 * 0 + _ ≤ _; exact Nat.le_of_eq rfl) (hb hby at_293) (fun _ _ => ⟨rfl, rfl, (by decide : 11 + 0 ≤ _), (by decide : 16436 + 0 ≤ _)⟩)
      dsimp only [Pt.U, Pt.locs, Pt.cells, Pt.slots] at X280 l280 y280 z280 st280 hQ280
      subst l280 y280 z280
      obtain ⟨rfl, Nq280, e280⟩ := hQ280
      refine Go.st st280 ?_
      have N280 := Fr.app N277 Nq280
      show Go p e below _ (T280.setTop (mkF m 296 #[.val (.int p1), .val (.int p2), .val (.int p3), .val (.int c1), .val (.int c2), .val (.int (1 : Int32)), .val (.int (1 : Int32)), .val (.ref b_235), .val (.ref b_237), .val (.ref oe), .val (.int ((4 : Int32) + (2 : Int32))), .val (.ref om), .val (.ref b_257), .val (.ref b_264), .val (.ref b_270), .val (.ref b_277)] [(.int (1 : Int32))]))
      refine g_if_eq X280 hx (hb hby at_296) 303 299 (by decide) (by decide) rfl (fun hc296 => False.elim (absurd hc296 (by decide))) (fun hc296 => ?_)
      refine g_iconst X280 hx (hb hby at_299) 300 rfl (1 : Int32) rfl ?_
      refine g_goto X280 hx (hb hby at_300) 304 (by decide) (by decide) ?_
      refine Go.retN X280 hx hlk (t := .boolean) Bd.returns (by simp) (hb hby at_304) (by decide) (by decide) ?_
      exact ⟨rfl, N280⟩
set_option maxRecDepth 65536 in
set_option maxHeartbeats 40000000 in
theorem comes_1 {Post : Tables → Env → Array Value → State → Outcome → State → Prop} (hpost : ∀ tb e args s v u, (limb_1_1.after args s (.returned v) u = true ∧ limb_1_2.after args s (.returned v) u = true ∧ True) → FrameEnd s (.returned v) u (Jvm.fieldLocs frame_1_writes args s ++ Jvm.arrayLocs frame_1_arrays args s ++ Jvm.staticLocs frame_1_statics s) 32 32960 → Post tb e args s (.returned v) u) :
    ArmFor flags0 classFile x code maxLocals ret World_1 tables_1 room_1 Calls_1 rest_1 Pre_1 Post := by
  intro l hfl _ _ p e ha hc hk s m args below hf hA hF happ hP
  obtain ⟨hcalls, hrest, hpre⟩ := hP
  obtain ⟨-, -, -, hnamed, -, -, -, hat⟩ := (Spec.applies_iff hf).mp happ
  obtain ⟨hg, hn⟩ := and_e (Cond.before_iff.mp (show (Jvm.Cond.and given_1 narrow_1).before args s = true from hpre))
  obtain ⟨c0, r0⟩ := and_e hg
  obtain ⟨c1, r1⟩ := and_e r0
  obtain ⟨c2, r2⟩ := and_e r1
  obtain ⟨w0, w1, w2, rfl⟩ : ∃ w0 w1 w2 : Value, args = #[w0, w1, w2] := by
    have hs : args.size = 3 := by simpa [Cond.value, given_1] using c0
    obtain ⟨L⟩ := args
    match L, hs with
    | [w0, w1, w2], _ => exact ⟨w0, w1, w2, rfl⟩
  have hw := fun d (hd : d ∈ tables_1) => atoms_spec (ws := Jvm.Cond.code x code maxLocals ret :: tables_1) hat d (List.mem_cons_of_mem _ hd)
  have hfit : Fit s := fun {y c} hc i hi => by
    obtain ⟨ha, rfl⟩ := Array.getElem?_eq_some_iff.mp hc
    have q := List.all_eq_true.mp ((Array.all_eq_true_iff_forall_mem.mp hF) _ (Array.getElem_mem ha)) i (List.mem_range.mpr hi)
    simpa [Array.getElem?_eq_getElem hi] using q
  obtain ⟨i0, ei0⟩ := is_v c1
  obtain rfl : w0 = (.int i0) := Option.some.inj ei0
  obtain ⟨i1, ei1⟩ := is_v c2
  obtain rfl : w1 = (.int i1) := Option.some.inj ei1
  obtain ⟨i2, ei2⟩ := is_v r2
  obtain rfl : w2 = (.int i2) := Option.some.inj ei2
  obtain ⟨hsets, hown0⟩ := atoms_of _ (rest_1_c_eq ▸ (show rest_1_c.before _ s = true from hrest))
  obtain ⟨s_COMPACT_STRINGS, e_s_COMPACT_STRINGS⟩ := is_v (Cond.before_iff.mp (hsets _ (List.mem_of_getElem? (i := 1) rfl)))
  have S_COMPACT_STRINGS : Sta s s.heap "java/lang/String" "COMPACT_STRINGS" "Z" (.int s_COMPACT_STRINGS) := Sta.start e_s_COMPACT_STRINGS (Or.inl (hsets _ (List.mem_of_getElem? (i := 0) rfl)))
  obtain ⟨s_SIOOBE_FORMATTER, e_s_SIOOBE_FORMATTER, r_s_SIOOBE_FORMATTER⟩ := isR_v (Cond.before_iff.mp (hsets _ (List.mem_of_getElem? (i := 8) rfl)))
  have S_SIOOBE_FORMATTER : Sta s s.heap "jdk/internal/util/Preconditions" "SIOOBE_FORMATTER" "Ljava/util/function/BiFunction;" s_SIOOBE_FORMATTER := Sta.start e_s_SIOOBE_FORMATTER (Or.inl (hsets _ (List.mem_of_getElem? (i := 7) rfl)))
  have z_s_COMPACT_STRINGS : ¬ s_COMPACT_STRINGS = 0 := own_nz e_s_COMPACT_STRINGS (Cond.before_iff.mp (hsets _ (List.mem_of_getElem? (i := 2) rfl)))
  obtain ⟨n, o, h1, h2, h3, _, L, rfl, ⟨rfl, N⟩, hq⟩ := rm0 l s _ hw tables_1 i0 i1 i2 s_COMPACT_STRINGS s_SIOOBE_FORMATTER s.heap s.heap.size (Nat.le_refl _) S_COMPACT_STRINGS S_SIOOBE_FORMATTER rfl z_s_COMPACT_STRINGS r_s_SIOOBE_FORMATTER p e ha hc hk s m _ below hf ((Spec.applies_iff_loose hf).mp happ).1 ⟨rfl, State.Warmed39.refl s, rfl⟩ trivial
  refine ⟨n, _, h1, h2, h3, hpost _ _ _ _ _ _ ⟨Cond.after_iff.mpr rfl, Cond.after_iff.mpr (eq_i res_at (Term.int_eval (1)) rfl), trivial⟩ ⟨hq.1, hq.2.1, (hq.2.2.sift fun y hy => Or.inr (N y hy)).mono (by decide) (by decide)⟩⟩
theorem main_1_1 : Claimed_1_1 := comes_1 fun _ _ _ _ _ _ h hF => ⟨h.1, hF⟩
theorem main_1_2 : Claimed_1_2 := comes_1 fun _ _ _ _ _ _ h hF => ⟨h.2.1, hF⟩
end Jvm.Pilot.@@N@@
namespace Jvm.Pilot.@@N@@
open Jvm Jvm.ClassFile Sem Op Lib Jvm.Free Jvm.Stand Jvm.Pilot.@@N@@.Jvm.D
/-! MADE BY PROGRAM (witnessworld.py) out of the Statement's table words and the real class files: 20 classes; the members and pool entries that the words name. The judged class is class 1, her method 1. -/
namespace start1
open Jvm.ClassFile
def u (s : String) : CpInfo := .utf8 (stringToUtf16 s)
/-- a pool by its gaps: so many unusable entries, then the entry; so many at the end -/
def gap : Nat → List CpInfo → List CpInfo
  | 0, r => r
  | n + 1, r => .unusable :: gap n r
def poolList (es : List (Nat × CpInfo)) (last : Nat) : List CpInfo := es.foldr (fun e r => gap e.1 (e.2 :: r)) (gap last [])
def pool (es : List (Nat × CpInfo)) (last : Nat) : Array CpInfo := ⟨poolList es last⟩
def fileOf (pool : Array CpInfo) (this : Nat) (attrs : Array Attribute := #[]) (ms : Array MethodInfo := #[]) (fl : Nat := 33) (sup : Nat := 0) (ifs : Array Nat := #[]) (fds : Array FieldInfo := #[]) : ClassFile where
  minorVersion := 0
  majorVersion := 65
  constantPool := pool
  accessFlags := fl
  thisClass := this
  superClass := sup
  interfaces := ifs
  fields := fds
  methods := ms
  attributes := attrs
def plain (name : String) (sup : Option ClassId) : Class where
  name := name
  kind := .ordinary
  loader := none
  accessFlags := 33
  super := sup
  interfaces := #[]
  cf := none
  fields := #[]
  methods := #[]
  instanceTypes := #[]
  staticTypes := #[]
  resolved := #[]
  callSites := []
  init := .initialized
  statics := none
  mirror := none

def pool0 : Array CpInfo := pool [(5, u "<init>"), (0, u "()V"), (1, .class_ 10), (1, u "java/lang/Object")] 113

def k0c0 : Code := { maxStack := 0, maxLocals := 1, code := object_method_1_code, exceptionTable := #[], attributes := #[] }
def k0m0 : Method := { name := "<init>", desc := "()V", sig := { parameters := [], returnType := none }, accessFlags := 1, code := some k0c0 }
/-- java/lang/Object -/
def k0 : Class := { plain "java/lang/Object" none with
  accessFlags := 33
  interfaces := #[]
  cf := some (fileOf pool0 8 #[] #[{ accessFlags := 1, nameIndex := 5, descriptorIndex := 6, attributes := #[] }] 33 0 #[] #[])
  fields := #[]
  methods := #[k0m0]
  instanceTypes := #[]
  staticTypes := #[]
  resolved := Array.replicate 124 none
  statics := none }

def pool1 : Array CpInfo := pool [(2, .class_ 4), (0, .nameAndType 5 6), (0, u "java/lang/Object"), (0, u "<init>"), (0, u "()V"), (0, .methodref 8 9), (0, .class_ 10), (0, .nameAndType 11 12), (0, u "java/lang/String"), (0, u "valueOf"), (0, u "(C)Ljava/lang/String;"), (0, .class_ 14), (0, u "com/example/anagrafe/anagrafe/atom/Markup"), (0, .methodref 13 3), (0, .methodref 13 17), (0, .nameAndType 18 19), (0, u "toByteArray"), (0, u "()[B"), (0, .methodref 13 21), (0, .nameAndType 22 23), (0, u "open"), (0, u "(Ljava/lang/String;Ljava/lang/String;)V"), (0, .methodref 13 25), (0, .nameAndType 26 6), (0, u "endEmpty"), (0, .methodref 13 28), (0, .nameAndType 29 6), (0, u "endStart"), (0, .methodref 31 32), (0, .class_ 33), (0, .nameAndType 34 35), (0, u "com/example/anagrafe/anagrafe/atom/MarkupToByteArrayPinLaw"), (0, u "same"), (0, u "([B[BI)Z"), (2, u "law"), (0, u "(III)Z")] 5

def k1m0 : Method := { name := "<init>", desc := "()V", sig := { parameters := [], returnType := none }, accessFlags := 1, code := none }
def k1c1 : Code := { maxStack := 4, maxLocals := 16, code := code, exceptionTable := #[], attributes := #[] }
def k1m1 : Method := { name := "law", desc := "(III)Z", sig := { parameters := [.int, .int, .int], returnType := some .boolean }, accessFlags := 9, code := some k1c1 }
def k1c2 : Code := { maxStack := 3, maxLocals := 3, code := method_3_code, exceptionTable := #[], attributes := #[] }
def k1m2 : Method := { name := "same", desc := "([B[BI)Z", sig := { parameters := [(.array .byte), (.array .byte), .int], returnType := some .boolean }, accessFlags := 10, code := some k1c2 }
/-- com/example/anagrafe/anagrafe/atom/MarkupToByteArrayPinLaw -/
def k1 : Class := { plain "com/example/anagrafe/anagrafe/atom/MarkupToByteArrayPinLaw" (some 0) with
  accessFlags := 49
  interfaces := #[]
  cf := some (fileOf pool1 31 #[] #[{ accessFlags := 1, nameIndex := 5, descriptorIndex := 6, attributes := #[] }, { accessFlags := 9, nameIndex := 38, descriptorIndex := 39, attributes := #[] }, { accessFlags := 10, nameIndex := 34, descriptorIndex := 35, attributes := #[] }] 49 2 #[] #[])
  fields := #[]
  methods := #[k1m0, k1m1, k1m2]
  instanceTypes := #[]
  staticTypes := #[]
  resolved := Array.replicate 45 none
  statics := none }

def pool2 : Array CpInfo := pool [(1, .class_ 2), (0, u "java/io/Serializable"), (0, .class_ 4), (0, u "java/lang/Object")] 2

/-- java/io/Serializable -/
def k2 : Class := { plain "java/io/Serializable" (some 0) with
  accessFlags := 1537
  interfaces := #[]
  cf := some (fileOf pool2 1 #[] #[] 1537 3 #[] #[])
  fields := #[]
  methods := #[]
  instanceTypes := #[]
  staticTypes := #[]
  resolved := Array.replicate 7 none
  statics := none }

def pool3 : Array CpInfo := pool [(1, .class_ 2), (0, u "java/lang/Comparable"), (0, .class_ 4), (0, u "java/lang/Object")] 7

/-- java/lang/Comparable -/
def k3 : Class := { plain "java/lang/Comparable" (some 0) with
  accessFlags := 1537
  interfaces := #[]
  cf := some (fileOf pool3 1 #[] #[] 1537 3 #[] #[])
  fields := #[]
  methods := #[]
  instanceTypes := #[]
  staticTypes := #[]
  resolved := Array.replicate 12 none
  statics := none }

def pool4 : Array CpInfo := pool [(2, .class_ 4), (1, u "java/lang/CharSequence"), (42, .class_ 48), (0, u "java/lang/CharSequence$1CodePointIterator"), (10, .class_ 60), (0, u "java/lang/CharSequence$1CharIterator"), (5, .class_ 67), (0, u "java/lang/Object")] 63

/-- java/lang/CharSequence -/
def k4 : Class := { plain "java/lang/CharSequence" (some 0) with
  accessFlags := 1537
  interfaces := #[]
  cf := some (fileOf pool4 2 #[.nestMembers #[47, 59]] #[] 1537 66 #[] #[])
  fields := #[]
  methods := #[]
  instanceTypes := #[]
  staticTypes := #[]
  resolved := Array.replicate 131 none
  statics := none }

def pool5 : Array CpInfo := pool [(1, .class_ 2), (0, u "java/lang/constant/Constable"), (0, .class_ 4), (0, u "java/lang/Object")] 6

/-- java/lang/constant/Constable -/
def k5 : Class := { plain "java/lang/constant/Constable" (some 0) with
  accessFlags := 1537
  interfaces := #[]
  cf := some (fileOf pool5 1 #[] #[] 1537 3 #[] #[])
  fields := #[]
  methods := #[]
  instanceTypes := #[]
  staticTypes := #[]
  resolved := Array.replicate 11 none
  statics := none }

def pool6 : Array CpInfo := pool [(1, .class_ 2), (0, u "java/lang/constant/ConstantDesc"), (0, .class_ 4), (0, u "java/lang/Object")] 32

/-- java/lang/constant/ConstantDesc -/
def k6 : Class := { plain "java/lang/constant/ConstantDesc" (some 0) with
  accessFlags := 1537
  interfaces := #[]
  cf := some (fileOf pool6 1 #[] #[] 1537 3 #[] #[])
  fields := #[]
  methods := #[]
  instanceTypes := #[]
  staticTypes := #[]
  resolved := Array.replicate 37 none
  statics := none }

def pool7 : Array CpInfo := pool [(1, .methodref 2 3), (0, .class_ 4), (0, .nameAndType 5 6), (0, u "java/lang/Object"), (0, u "<init>"), (0, u "()V"), (2, .fieldref 10 11), (0, .class_ 12), (0, .nameAndType 13 14), (0, u "java/lang/String"), (0, u "value"), (0, u "[B"), (0, .fieldref 10 16), (0, .nameAndType 17 18), (0, u "coder"), (0, u "B"), (2, u "hash"), (0, u "I"), (2, u "hashIsZero"), (0, u "Z"), (11, .fieldref 10 39), (0, .nameAndType 40 26), (0, u "COMPACT_STRINGS"), (12, u "toBytes"), (53, .class_ 109), (1, u "java/lang/StringLatin1"), (32, u "()Z"), (66, .methodref 10 210), (0, .nameAndType 5 211), (0, u "([BB)V"), (122, u "()I"), (0, .methodref 10 336), (0, .nameAndType 17 337), (0, u "()B"), (25, u "([BI)C"), (5, u "(C)Z"), (21, u "(II)V"), (35, u "(I)C"), (64, .methodref 10 493), (0, .nameAndType 494 142), (0, u "isLatin1"), (0, .methodref 107 496), (0, .nameAndType 497 363), (0, u "charAt"), (3, u "checkIndex"), (5, u "length"), (67, .class_ 576), (0, u "java/lang/CharSequence"), (22, u "CASE_INSENSITIVE_ORDER"), (0, u "Ljava/util/Comparator;"), (181, u "valueOf"), (0, u "(C)Ljava/lang/String;"), (231, .methodref 107 1016), (0, .nameAndType 1017 369), (0, u "canEncode"), (0, .methodref 107 1019), (0, .nameAndType 53 1020), (0, u "(C)[B"), (32, .fieldref 1054 1055), (0, .class_ 1056), (0, .nameAndType 1057 1058), (0, u "jdk/internal/util/Preconditions"), (0, u "SIOOBE_FORMATTER"), (0, u "Ljava/util/function/BiFunction;"), (0, .methodref 1054 1060), (0, .nameAndType 501 1061), (0, u "(IILjava/util/function/BiFunction;)I"), (39, u "serialPersistentFields"), (0, u "[Ljava/io/ObjectStreamField;"), (0, .class_ 1104), (0, u "java/lang/String$CaseInsensitiveComparator"), (1, .class_ 1107), (0, u "java/io/Serializable"), (0, .class_ 1109), (0, u "java/lang/Comparable"), (0, .class_ 1111), (0, u "java/lang/constant/Constable"), (0, .class_ 1113), (0, u "java/lang/constant/ConstantDesc"), (2, u "serialVersionUID"), (0, u "J"), (3, u "REPL"), (0, u "C"), (2, u "LATIN1"), (1, u "UTF16")] 323

def k7m0 : Method := { name := "<init>", desc := "()V", sig := { parameters := [], returnType := none }, accessFlags := 1, code := none }
def k7c1 : Code := { maxStack := 2, maxLocals := 1, code := jdk_42_method_54_code, exceptionTable := #[], attributes := #[] }
def k7m1 : Method := { name := "length", desc := "()I", sig := { parameters := [], returnType := some .int }, accessFlags := 1, code := some k7c1 }
def k7c2 : Code := { maxStack := 2, maxLocals := 2, code := jdk_42_method_56_code, exceptionTable := #[], attributes := #[] }
def k7m2 : Method := { name := "charAt", desc := "(I)C", sig := { parameters := [.int], returnType := some .char }, accessFlags := 1, code := some k7c2 }
def k7c3 : Code := { maxStack := 4, maxLocals := 1, code := jdk_42_method_139_code, exceptionTable := #[], attributes := #[] }
def k7m3 : Method := { name := "valueOf", desc := "(C)Ljava/lang/String;", sig := { parameters := [.char], returnType := some (.object "java/lang/String") }, accessFlags := 9, code := some k7c3 }
def k7c4 : Code := { maxStack := 2, maxLocals := 3, code := jdk_42_method_151_code, exceptionTable := #[], attributes := #[] }
def k7m4 : Method := { name := "<init>", desc := "([BB)V", sig := { parameters := [(.array .byte), .byte], returnType := none }, accessFlags := 0, code := some k7c4 }
def k7c5 : Code := { maxStack := 1, maxLocals := 1, code := jdk_42_method_152_code, exceptionTable := #[], attributes := #[] }
def k7m5 : Method := { name := "coder", desc := "()B", sig := { parameters := [], returnType := some .byte }, accessFlags := 0, code := some k7c5 }
def k7c6 : Code := { maxStack := 1, maxLocals := 1, code := jdk_42_method_154_code, exceptionTable := #[], attributes := #[] }
def k7m6 : Method := { name := "isLatin1", desc := "()Z", sig := { parameters := [], returnType := some .boolean }, accessFlags := 0, code := some k7c6 }
def k7c7 : Code := { maxStack := 3, maxLocals := 2, code := jdk_42_method_155_code, exceptionTable := #[], attributes := #[] }
def k7m7 : Method := { name := "checkIndex", desc := "(II)V", sig := { parameters := [.int, .int], returnType := none }, accessFlags := 8, code := some k7c7 }
/-- java/lang/String -/
def k7 : Class := { plain "java/lang/String" (some 0) with
  accessFlags := 49
  interfaces := #[2, 3, 4, 5, 6]
  cf := some (fileOf pool7 10 #[.nestMembers #[1103]] #[{ accessFlags := 1, nameIndex := 5, descriptorIndex := 6, attributes := #[] }, { accessFlags := 1, nameIndex := 507, descriptorIndex := 334, attributes := #[] }, { accessFlags := 1, nameIndex := 497, descriptorIndex := 427, attributes := #[] }, { accessFlags := 9, nameIndex := 782, descriptorIndex := 783, attributes := #[] }, { accessFlags := 0, nameIndex := 5, descriptorIndex := 211, attributes := #[] }, { accessFlags := 0, nameIndex := 17, descriptorIndex := 337, attributes := #[] }, { accessFlags := 0, nameIndex := 494, descriptorIndex := 142, attributes := #[] }, { accessFlags := 8, nameIndex := 501, descriptorIndex := 391, attributes := #[] }] 49 2 #[1106, 1108, 575, 1110, 1112] #[{ accessFlags := 18, nameIndex := 13, descriptorIndex := 14, attributes := #[] }, { accessFlags := 18, nameIndex := 17, descriptorIndex := 18, attributes := #[] }, { accessFlags := 2, nameIndex := 21, descriptorIndex := 22, attributes := #[] }, { accessFlags := 2, nameIndex := 25, descriptorIndex := 26, attributes := #[] }, { accessFlags := 26, nameIndex := 1116, descriptorIndex := 1117, attributes := #[] }, { accessFlags := 24, nameIndex := 40, descriptorIndex := 26, attributes := #[] }, { accessFlags := 26, nameIndex := 1101, descriptorIndex := 1102, attributes := #[] }, { accessFlags := 26, nameIndex := 1121, descriptorIndex := 1122, attributes := #[] }, { accessFlags := 25, nameIndex := 599, descriptorIndex := 600, attributes := #[] }, { accessFlags := 24, nameIndex := 1125, descriptorIndex := 18, attributes := #[] }, { accessFlags := 24, nameIndex := 1127, descriptorIndex := 18, attributes := #[] }])
  fields := #[{ name := "value", type := (.array .byte), accessFlags := 18, slot := 0, constantValue := 0 }, { name := "coder", type := .byte, accessFlags := 18, slot := 1, constantValue := 0 }, { name := "hash", type := .int, accessFlags := 2, slot := 2, constantValue := 0 }, { name := "hashIsZero", type := .boolean, accessFlags := 2, slot := 3, constantValue := 0 }, { name := "serialVersionUID", type := .long, accessFlags := 26, slot := 0, constantValue := 0 }, { name := "COMPACT_STRINGS", type := .boolean, accessFlags := 24, slot := 1, constantValue := 0 }, { name := "serialPersistentFields", type := (.array (.object "java/io/ObjectStreamField")), accessFlags := 26, slot := 2, constantValue := 0 }, { name := "REPL", type := .char, accessFlags := 26, slot := 3, constantValue := 0 }, { name := "CASE_INSENSITIVE_ORDER", type := (.object "java/util/Comparator"), accessFlags := 25, slot := 4, constantValue := 0 }, { name := "LATIN1", type := .byte, accessFlags := 24, slot := 5, constantValue := 0 }, { name := "UTF16", type := .byte, accessFlags := 24, slot := 6, constantValue := 0 }]
  methods := #[k7m0, k7m1, k7m2, k7m3, k7m4, k7m5, k7m6, k7m7]
  instanceTypes := #[(.array .byte), .byte, .int, .boolean]
  staticTypes := #[.long, .boolean, (.array (.object "java/io/ObjectStreamField")), .char, (.object "java/util/Comparator"), .byte, .byte]
  resolved := Array.replicate 1451 none
  statics := some 0 }

def pool8 : Array CpInfo := pool [(1, .class_ 2), (0, u "java/lang/String"), (1, .class_ 6), (1, u "java/lang/Object"), (0, u "<init>"), (0, u "()V"), (0, .methodref 1 10), (0, .nameAndType 11 12), (0, u "checkIndex"), (0, u "(II)V"), (1, .class_ 16), (1, u "java/lang/StringLatin1"), (36, u "([BI)C"), (36, u "canEncode"), (14, u "(C)Z"), (15, u "$assertionsDisabled"), (0, u "Z"), (98, .class_ 223), (1, u "java/lang/StringLatin1$LinesSpliterator"), (28, u "charAt"), (127, u "toBytes"), (1, u "(C)[B"), (7, .class_ 391), (0, u "java/lang/StringLatin1$CharsSpliterator")] 3

def k8m0 : Method := { name := "<init>", desc := "()V", sig := { parameters := [], returnType := none }, accessFlags := 0, code := none }
def k8c1 : Code := { maxStack := 2, maxLocals := 2, code := jdk_43_method_2_code, exceptionTable := #[], attributes := #[] }
def k8m1 : Method := { name := "charAt", desc := "([BI)C", sig := { parameters := [(.array .byte), .int], returnType := some .char }, accessFlags := 9, code := some k8c1 }
def k8c2 : Code := { maxStack := 2, maxLocals := 1, code := jdk_43_method_3_code, exceptionTable := #[], attributes := #[] }
def k8m2 : Method := { name := "canEncode", desc := "(C)Z", sig := { parameters := [.char], returnType := some .boolean }, accessFlags := 9, code := some k8c2 }
def k8c3 : Code := { maxStack := 4, maxLocals := 1, code := jdk_43_method_46_code, exceptionTable := #[], attributes := #[] }
def k8m3 : Method := { name := "toBytes", desc := "(C)[B", sig := { parameters := [.char], returnType := some (.array .byte) }, accessFlags := 9, code := some k8c3 }
/-- java/lang/StringLatin1 -/
def k8 : Class := { plain "java/lang/StringLatin1" (some 0) with
  accessFlags := 48
  interfaces := #[]
  cf := some (fileOf pool8 14 #[.nestMembers #[390, 221]] #[{ accessFlags := 0, nameIndex := 7, descriptorIndex := 8, attributes := #[] }, { accessFlags := 9, nameIndex := 252, descriptorIndex := 53, attributes := #[] }, { accessFlags := 9, nameIndex := 90, descriptorIndex := 105, attributes := #[] }, { accessFlags := 9, nameIndex := 380, descriptorIndex := 382, attributes := #[] }] 48 4 #[] #[{ accessFlags := 4120, nameIndex := 121, descriptorIndex := 122, attributes := #[] }])
  fields := #[{ name := "$assertionsDisabled", type := .boolean, accessFlags := 4120, slot := 0, constantValue := 0 }]
  methods := #[k8m0, k8m1, k8m2, k8m3]
  instanceTypes := #[]
  staticTypes := #[.boolean]
  resolved := Array.replicate 395 none
  statics := none }

def pool9 : Array CpInfo := pool [(1, .methodref 2 3), (0, .class_ 4), (0, .nameAndType 5 6), (0, u "java/lang/Object"), (0, u "<init>"), (0, u "()V"), (0, .class_ 8), (0, u "com/example/anagrafe/anagrafe/atom/Markup"), (0, .fieldref 7 10), (0, .nameAndType 11 12), (0, u "bytes"), (0, u "[B"), (2, .methodref 16 17), (0, .class_ 18), (0, .nameAndType 19 20), (0, u "java/lang/String"), (0, u "length"), (0, u "()I"), (0, .methodref 7 22), (0, .nameAndType 23 24), (0, u "room"), (0, u "(I)V"), (0, .methodref 7 26), (0, .nameAndType 27 28), (0, u "ascii"), (0, u "(Ljava/lang/String;)V"), (0, .fieldref 7 30), (0, .nameAndType 31 32), (0, u "size"), (0, u "I"), (1, .class_ 36), (1, u "com/example/anagrafe/anagrafe/atom/Markup$Escape"), (9, .methodref 47 48), (0, .class_ 49), (0, .nameAndType 50 51), (0, u "java/util/Arrays"), (0, u "copyOf"), (0, u "([BI)[B"), (6, .methodref 16 59), (0, .nameAndType 60 61), (0, u "charAt"), (0, u "(I)C"), (49, u "FIRST_SIZE"), (2, u "MOST_BYTES_PER_CHAR"), (1, u "BULK_LENGTH"), (1, u "UNPAIRED"), (0, u "B"), (1, u "DECLARATION"), (0, u "Ljava/lang/String;"), (3, u "open"), (0, u "(Ljava/lang/String;Ljava/lang/String;)V"), (1, u "endStart"), (0, u "endEmpty"), (2, u "toByteArray"), (0, u "()[B")] 7

def k9c0 : Code := { maxStack := 2, maxLocals := 1, code := prog_9_method_1_code, exceptionTable := #[], attributes := #[] }
def k9m0 : Method := { name := "<init>", desc := "()V", sig := { parameters := [], returnType := none }, accessFlags := 0, code := some k9c0 }
def k9c1 : Code := { maxStack := 5, maxLocals := 3, code := prog_9_method_3_code, exceptionTable := #[], attributes := #[] }
def k9m1 : Method := { name := "open", desc := "(Ljava/lang/String;Ljava/lang/String;)V", sig := { parameters := [(.object "java/lang/String"), (.object "java/lang/String")], returnType := none }, accessFlags := 0, code := some k9c1 }
def k9c2 : Code := { maxStack := 5, maxLocals := 1, code := prog_9_method_5_code, exceptionTable := #[], attributes := #[] }
def k9m2 : Method := { name := "endStart", desc := "()V", sig := { parameters := [], returnType := none }, accessFlags := 0, code := some k9c2 }
def k9c3 : Code := { maxStack := 5, maxLocals := 1, code := prog_9_method_6_code, exceptionTable := #[], attributes := #[] }
def k9m3 : Method := { name := "endEmpty", desc := "()V", sig := { parameters := [], returnType := none }, accessFlags := 0, code := some k9c3 }
def k9c4 : Code := { maxStack := 2, maxLocals := 1, code := prog_9_method_9_code, exceptionTable := #[], attributes := #[] }
def k9m4 : Method := { name := "toByteArray", desc := "()[B", sig := { parameters := [], returnType := some (.array .byte) }, accessFlags := 0, code := some k9c4 }
def k9c5 : Code := { maxStack := 4, maxLocals := 3, code := prog_9_method_10_code, exceptionTable := #[], attributes := #[] }
def k9m5 : Method := { name := "room", desc := "(I)V", sig := { parameters := [.int], returnType := none }, accessFlags := 2, code := some k9c5 }
def k9c6 : Code := { maxStack := 4, maxLocals := 5, code := prog_9_method_11_code, exceptionTable := #[], attributes := #[] }
def k9m6 : Method := { name := "ascii", desc := "(Ljava/lang/String;)V", sig := { parameters := [(.object "java/lang/String")], returnType := none }, accessFlags := 2, code := some k9c6 }
/-- com/example/anagrafe/anagrafe/atom/Markup -/
def k9 : Class := { plain "com/example/anagrafe/anagrafe/atom/Markup" (some 0) with
  accessFlags := 32
  interfaces := #[]
  cf := some (fileOf pool9 7 #[.nestMembers #[34]] #[{ accessFlags := 0, nameIndex := 5, descriptorIndex := 6, attributes := #[] }, { accessFlags := 0, nameIndex := 126, descriptorIndex := 127, attributes := #[] }, { accessFlags := 0, nameIndex := 129, descriptorIndex := 6, attributes := #[] }, { accessFlags := 0, nameIndex := 130, descriptorIndex := 6, attributes := #[] }, { accessFlags := 0, nameIndex := 133, descriptorIndex := 134, attributes := #[] }, { accessFlags := 2, nameIndex := 23, descriptorIndex := 24, attributes := #[] }, { accessFlags := 2, nameIndex := 27, descriptorIndex := 28, attributes := #[] }] 32 2 #[] #[{ accessFlags := 26, nameIndex := 111, descriptorIndex := 32, attributes := #[] }, { accessFlags := 26, nameIndex := 114, descriptorIndex := 32, attributes := #[] }, { accessFlags := 26, nameIndex := 116, descriptorIndex := 32, attributes := #[] }, { accessFlags := 26, nameIndex := 118, descriptorIndex := 119, attributes := #[] }, { accessFlags := 26, nameIndex := 121, descriptorIndex := 122, attributes := #[] }, { accessFlags := 2, nameIndex := 11, descriptorIndex := 12, attributes := #[] }, { accessFlags := 2, nameIndex := 31, descriptorIndex := 32, attributes := #[] }])
  fields := #[{ name := "FIRST_SIZE", type := .int, accessFlags := 26, slot := 0, constantValue := 0 }, { name := "MOST_BYTES_PER_CHAR", type := .int, accessFlags := 26, slot := 1, constantValue := 0 }, { name := "BULK_LENGTH", type := .int, accessFlags := 26, slot := 2, constantValue := 0 }, { name := "UNPAIRED", type := .byte, accessFlags := 26, slot := 3, constantValue := 0 }, { name := "DECLARATION", type := (.object "java/lang/String"), accessFlags := 26, slot := 4, constantValue := 0 }, { name := "bytes", type := (.array .byte), accessFlags := 2, slot := 0, constantValue := 0 }, { name := "size", type := .int, accessFlags := 2, slot := 1, constantValue := 0 }]
  methods := #[k9m0, k9m1, k9m2, k9m3, k9m4, k9m5, k9m6]
  instanceTypes := #[(.array .byte), .int]
  staticTypes := #[.int, .int, .int, .byte, (.object "java/lang/String")]
  resolved := Array.replicate 142 none
  statics := none }

def pool10 : Array CpInfo := pool [(2, .class_ 4), (1, u "java/lang/Object"), (0, u "<init>"), (0, u "()V"), (7, .class_ 16), (1, u "java/util/Arrays"), (57, .class_ 76), (1, u "java/util/Arrays$NaturalOrder"), (36, .class_ 115), (1, u "java/util/Arrays$LegacyMergeSort"), (1, u "Z"), (32, .methodref 151 152), (0, .class_ 153), (0, .nameAndType 154 155), (0, u "java/lang/System"), (0, u "arraycopy"), (0, u "(Ljava/lang/Object;ILjava/lang/Object;II)V"), (146, u "copyOf"), (1, .methodref 305 306), (0, .class_ 307), (0, .nameAndType 308 309), (0, u "java/lang/Math"), (0, u "min"), (0, u "(II)I"), (65, .class_ 376), (0, u "java/util/Arrays$ArrayList"), (68, u "$assertionsDisabled"), (269, u "MIN_ARRAY_SORT_GRAN"), (0, u "I"), (2, u "INSERTIONSORT_THRESHOLD"), (149, u "([BI)[B"), (105, .class_ 976), (0, u "java/util/Arrays$ArrayItr")] 52

def k10m0 : Method := { name := "<init>", desc := "()V", sig := { parameters := [], returnType := none }, accessFlags := 2, code := none }
def k10c1 : Code := { maxStack := 6, maxLocals := 3, code := jdk_65_method_121_code, exceptionTable := #[], attributes := #[] }
def k10m1 : Method := { name := "copyOf", desc := "([BI)[B", sig := { parameters := [(.array .byte), .int], returnType := some (.array .byte) }, accessFlags := 9, code := some k10c1 }
/-- java/util/Arrays -/
def k10 : Class := { plain "java/util/Arrays" (some 0) with
  accessFlags := 49
  interfaces := #[]
  cf := some (fileOf pool10 14 #[.nestMembers #[975, 375, 113, 74]] #[{ accessFlags := 2, nameIndex := 5, descriptorIndex := 6, attributes := #[] }, { accessFlags := 9, nameIndex := 302, descriptorIndex := 869, attributes := #[] }] 49 2 #[] #[{ accessFlags := 26, nameIndex := 715, descriptorIndex := 716, attributes := #[] }, { accessFlags := 26, nameIndex := 719, descriptorIndex := 716, attributes := #[] }, { accessFlags := 4120, nameIndex := 445, descriptorIndex := 117, attributes := #[] }])
  fields := #[{ name := "MIN_ARRAY_SORT_GRAN", type := .int, accessFlags := 26, slot := 0, constantValue := 0 }, { name := "INSERTIONSORT_THRESHOLD", type := .int, accessFlags := 26, slot := 1, constantValue := 0 }, { name := "$assertionsDisabled", type := .boolean, accessFlags := 4120, slot := 2, constantValue := 0 }]
  methods := #[k10m0, k10m1]
  instanceTypes := #[]
  staticTypes := #[.int, .int, .boolean]
  resolved := Array.replicate 1029 none
  statics := none }

def pool11 : Array CpInfo := pool [(1, .class_ 2), (0, u "java/lang/Math"), (1, .class_ 6), (1, u "java/lang/Object"), (0, u "<init>"), (0, u "()V"), (89, .class_ 100), (1, u "java/lang/Math$RandomNumberGeneratorHolder"), (71, u "negativeZeroFloatBits"), (0, u "J"), (2, u "negativeZeroDoubleBits"), (24, u "min"), (43, u "$assertionsDisabled"), (0, u "Z"), (88, u "(II)I"), (2, u "twoToTheDoubleScaleDown"), (0, u "D"), (4, u "twoToTheDoubleScaleUp"), (9, u "E"), (3, u "PI"), (2, u "TAU"), (2, u "DEGREES_TO_RADIANS"), (0, u "RADIANS_TO_DEGREES")] 94

def k11m0 : Method := { name := "<init>", desc := "()V", sig := { parameters := [], returnType := none }, accessFlags := 2, code := none }
def k11c1 : Code := { maxStack := 2, maxLocals := 2, code := jdk_29_method_69_code, exceptionTable := #[], attributes := #[] }
def k11m1 : Method := { name := "min", desc := "(II)I", sig := { parameters := [.int, .int], returnType := some .int }, accessFlags := 9, code := some k11c1 }
/-- java/lang/Math -/
def k11 : Class := { plain "java/lang/Math" (some 0) with
  accessFlags := 49
  interfaces := #[]
  cf := some (fileOf pool11 1 #[.nestMembers #[98]] #[{ accessFlags := 2, nameIndex := 7, descriptorIndex := 8, attributes := #[] }, { accessFlags := 9, nameIndex := 201, descriptorIndex := 335, attributes := #[] }] 49 4 #[] #[{ accessFlags := 25, nameIndex := 354, descriptorIndex := 339, attributes := #[] }, { accessFlags := 25, nameIndex := 358, descriptorIndex := 339, attributes := #[] }, { accessFlags := 25, nameIndex := 361, descriptorIndex := 339, attributes := #[] }, { accessFlags := 26, nameIndex := 364, descriptorIndex := 339, attributes := #[] }, { accessFlags := 26, nameIndex := 365, descriptorIndex := 339, attributes := #[] }, { accessFlags := 26, nameIndex := 172, descriptorIndex := 173, attributes := #[] }, { accessFlags := 26, nameIndex := 176, descriptorIndex := 173, attributes := #[] }, { accessFlags := 8, nameIndex := 344, descriptorIndex := 339, attributes := #[] }, { accessFlags := 8, nameIndex := 338, descriptorIndex := 339, attributes := #[] }, { accessFlags := 4120, nameIndex := 245, descriptorIndex := 246, attributes := #[] }])
  fields := #[{ name := "E", type := .double, accessFlags := 25, slot := 0, constantValue := 0 }, { name := "PI", type := .double, accessFlags := 25, slot := 1, constantValue := 0 }, { name := "TAU", type := .double, accessFlags := 25, slot := 2, constantValue := 0 }, { name := "DEGREES_TO_RADIANS", type := .double, accessFlags := 26, slot := 3, constantValue := 0 }, { name := "RADIANS_TO_DEGREES", type := .double, accessFlags := 26, slot := 4, constantValue := 0 }, { name := "negativeZeroFloatBits", type := .long, accessFlags := 26, slot := 5, constantValue := 0 }, { name := "negativeZeroDoubleBits", type := .long, accessFlags := 26, slot := 6, constantValue := 0 }, { name := "twoToTheDoubleScaleUp", type := .double, accessFlags := 8, slot := 7, constantValue := 0 }, { name := "twoToTheDoubleScaleDown", type := .double, accessFlags := 8, slot := 8, constantValue := 0 }, { name := "$assertionsDisabled", type := .boolean, accessFlags := 4120, slot := 9, constantValue := 0 }]
  methods := #[k11m0, k11m1]
  instanceTypes := #[]
  staticTypes := #[.double, .double, .double, .double, .double, .long, .long, .double, .double, .boolean]
  resolved := Array.replicate 460 none
  statics := none }

def pool12 : Array CpInfo := pool [(2, .class_ 4), (1, u "java/lang/Object"), (0, u "<init>"), (0, u "()V"), (1, .class_ 10), (1, u "java/lang/System"), (0, u "allowSecurityManager"), (0, u "I"), (16, u "cons"), (0, u "Ljava/io/Console;"), (77, .class_ 110), (1, u "java/lang/System$CallersHolder"), (43, u "initialErrStream"), (0, u "Ljava/io/PrintStream;"), (19, u "security"), (0, u "Ljava/lang/SecurityManager;"), (31, .class_ 209), (0, u "java/lang/System$1"), (7, u "props"), (0, u "Ljava/util/Properties;"), (2, u "lineSeparator"), (0, u "Ljava/lang/String;"), (96, .class_ 321), (1, u "java/lang/System$LoggerFinder"), (5, .class_ 328), (0, u "java/lang/System$Logger"), (67, u "err"), (2, u "out"), (91, u "notSupportedJnuEncoding"), (15, u "in"), (17, u "initialIn"), (0, u "Ljava/io/InputStream;"), (35, u "bootLayer"), (0, u "Ljava/lang/ModuleLayer;"), (99, .class_ 664), (0, u "java/lang/System$2"), (9, u "NEVER"), (2, u "MAYBE"), (49, u "arraycopy"), (0, u "(Ljava/lang/Object;ILjava/lang/Object;II)V"), (72, .class_ 802), (0, u "java/lang/System$Logger$Level")] 31

def k12m0 : Method := { name := "<init>", desc := "()V", sig := { parameters := [], returnType := none }, accessFlags := 2, code := none }
def k12m1 : Method := { name := "arraycopy", desc := "(Ljava/lang/Object;ILjava/lang/Object;II)V", sig := { parameters := [(.object "java/lang/Object"), .int, (.object "java/lang/Object"), .int, .int], returnType := none }, accessFlags := 265, code := none }
/-- java/lang/System -/
def k12 : Class := { plain "java/lang/System" (some 0) with
  accessFlags := 49
  interfaces := #[]
  cf := some (fileOf pool12 8 #[.nestMembers #[319, 327, 801, 108, 663, 208]] #[{ accessFlags := 2, nameIndex := 5, descriptorIndex := 6, attributes := #[] }, { accessFlags := 265, nameIndex := 727, descriptorIndex := 728, attributes := #[] }] 49 2 #[] #[{ accessFlags := 25, nameIndex := 507, descriptorIndex := 526, attributes := #[] }, { accessFlags := 25, nameIndex := 399, descriptorIndex := 155, attributes := #[] }, { accessFlags := 25, nameIndex := 396, descriptorIndex := 155, attributes := #[] }, { accessFlags := 10, nameIndex := 525, descriptorIndex := 526, attributes := #[] }, { accessFlags := 26, nameIndex := 674, descriptorIndex := 12, attributes := #[] }, { accessFlags := 26, nameIndex := 677, descriptorIndex := 12, attributes := #[] }, { accessFlags := 10, nameIndex := 11, descriptorIndex := 12, attributes := #[] }, { accessFlags := 74, nameIndex := 175, descriptorIndex := 176, attributes := #[] }, { accessFlags := 10, nameIndex := 491, descriptorIndex := 222, attributes := #[] }, { accessFlags := 74, nameIndex := 29, descriptorIndex := 30, attributes := #[] }, { accessFlags := 74, nameIndex := 154, descriptorIndex := 155, attributes := #[] }, { accessFlags := 10, nameIndex := 217, descriptorIndex := 218, attributes := #[] }, { accessFlags := 10, nameIndex := 221, descriptorIndex := 222, attributes := #[] }, { accessFlags := 8, nameIndex := 562, descriptorIndex := 563, attributes := #[] }])
  fields := #[{ name := "in", type := (.object "java/io/InputStream"), accessFlags := 25, slot := 0, constantValue := 0 }, { name := "out", type := (.object "java/io/PrintStream"), accessFlags := 25, slot := 1, constantValue := 0 }, { name := "err", type := (.object "java/io/PrintStream"), accessFlags := 25, slot := 2, constantValue := 0 }, { name := "initialIn", type := (.object "java/io/InputStream"), accessFlags := 10, slot := 3, constantValue := 0 }, { name := "NEVER", type := .int, accessFlags := 26, slot := 4, constantValue := 0 }, { name := "MAYBE", type := .int, accessFlags := 26, slot := 5, constantValue := 0 }, { name := "allowSecurityManager", type := .int, accessFlags := 10, slot := 6, constantValue := 0 }, { name := "security", type := (.object "java/lang/SecurityManager"), accessFlags := 74, slot := 7, constantValue := 0 }, { name := "notSupportedJnuEncoding", type := (.object "java/lang/String"), accessFlags := 10, slot := 8, constantValue := 0 }, { name := "cons", type := (.object "java/io/Console"), accessFlags := 74, slot := 9, constantValue := 0 }, { name := "initialErrStream", type := (.object "java/io/PrintStream"), accessFlags := 74, slot := 10, constantValue := 0 }, { name := "props", type := (.object "java/util/Properties"), accessFlags := 10, slot := 11, constantValue := 0 }, { name := "lineSeparator", type := (.object "java/lang/String"), accessFlags := 10, slot := 12, constantValue := 0 }, { name := "bootLayer", type := (.object "java/lang/ModuleLayer"), accessFlags := 8, slot := 13, constantValue := 0 }]
  methods := #[k12m0, k12m1]
  instanceTypes := #[]
  staticTypes := #[(.object "java/io/InputStream"), (.object "java/io/PrintStream"), (.object "java/io/PrintStream"), (.object "java/io/InputStream"), .int, .int, .int, (.object "java/lang/SecurityManager"), (.object "java/lang/String"), (.object "java/io/Console"), (.object "java/io/PrintStream"), (.object "java/util/Properties"), (.object "java/lang/String"), (.object "java/lang/ModuleLayer")]
  resolved := Array.replicate 834 none
  statics := none }

def pool13 : Array CpInfo := pool [(2, .class_ 4), (1, u "java/lang/Object"), (0, u "<init>"), (0, u "()V"), (17, .class_ 26), (1, u "jdk/internal/util/Preconditions"), (6, u "checkIndex"), (21, .class_ 56), (0, u "jdk/internal/util/Preconditions$4"), (57, .class_ 115), (0, u "jdk/internal/util/Preconditions$1"), (7, u "SIOOBE_FORMATTER"), (0, u "Ljava/util/function/BiFunction;"), (0, .class_ 126), (0, u "jdk/internal/util/Preconditions$2"), (3, u "AIOOBE_FORMATTER"), (0, .class_ 132), (0, u "jdk/internal/util/Preconditions$3"), (3, u "IOOBE_FORMATTER"), (41, u "(IILjava/util/function/BiFunction;)I")] 15

def k13m0 : Method := { name := "<init>", desc := "()V", sig := { parameters := [], returnType := none }, accessFlags := 1, code := none }
def k13c1 : Code := { maxStack := 3, maxLocals := 3, code := jdk_41_method_11_code, exceptionTable := #[], attributes := #[] }
def k13m1 : Method := { name := "checkIndex", desc := "(IILjava/util/function/BiFunction;)I", sig := { parameters := [.int, .int, (.object "java/util/function/BiFunction")], returnType := some .int }, accessFlags := 9, code := some k13c1 }
/-- jdk/internal/util/Preconditions -/
def k13 : Class := { plain "jdk/internal/util/Preconditions" (some 0) with
  accessFlags := 33
  interfaces := #[]
  cf := some (fileOf pool13 24 #[.nestMembers #[55, 131, 125, 114]] #[{ accessFlags := 1, nameIndex := 5, descriptorIndex := 6, attributes := #[] }, { accessFlags := 9, nameIndex := 33, descriptorIndex := 178, attributes := #[] }] 33 2 #[] #[{ accessFlags := 25, nameIndex := 123, descriptorIndex := 124, attributes := #[] }, { accessFlags := 25, nameIndex := 130, descriptorIndex := 124, attributes := #[] }, { accessFlags := 25, nameIndex := 136, descriptorIndex := 124, attributes := #[] }])
  fields := #[{ name := "SIOOBE_FORMATTER", type := (.object "java/util/function/BiFunction"), accessFlags := 25, slot := 0, constantValue := 0 }, { name := "AIOOBE_FORMATTER", type := (.object "java/util/function/BiFunction"), accessFlags := 25, slot := 1, constantValue := 0 }, { name := "IOOBE_FORMATTER", type := (.object "java/util/function/BiFunction"), accessFlags := 25, slot := 2, constantValue := 0 }]
  methods := #[k13m0, k13m1]
  instanceTypes := #[]
  staticTypes := #[(.object "java/util/function/BiFunction"), (.object "java/util/function/BiFunction"), (.object "java/util/function/BiFunction")]
  resolved := Array.replicate 194 none
  statics := some 1 }

def pool14 : Array CpInfo := pool [(9, u "<init>"), (6, .class_ 18), (1, u "java/lang/Object"), (0, u "()V"), (1, .class_ 23), (1, u "jdk/internal/util/ArraysSupport"), (0, u "LOG2_ARRAY_LONG_INDEX_SCALE"), (0, u "I"), (2, u "U"), (0, u "Ljdk/internal/misc/Unsafe;"), (8, u "BIG_ENDIAN"), (0, u "Z"), (8, u "LOG2_BYTE_BIT_SIZE"), (4, u "LOG2_ARRAY_INT_INDEX_SCALE"), (54, u "JLA"), (0, u "Ljdk/internal/access/JavaLangAccess;"), (11, u "LOG2_ARRAY_BOOLEAN_INDEX_SCALE"), (9, u "LOG2_ARRAY_BYTE_INDEX_SCALE"), (5, u "LOG2_ARRAY_CHAR_INDEX_SCALE"), (5, u "LOG2_ARRAY_SHORT_INDEX_SCALE"), (18, u "LOG2_ARRAY_FLOAT_INDEX_SCALE"), (24, u "LOG2_ARRAY_DOUBLE_INDEX_SCALE"), (89, u "T_BOOLEAN"), (2, u "T_CHAR"), (1, u "T_FLOAT"), (1, u "T_DOUBLE"), (1, u "T_BYTE"), (1, u "T_SHORT"), (1, u "T_INT"), (1, u "T_LONG"), (1, u "SOFT_MAX_ARRAY_LENGTH")] 83

def k14m0 : Method := { name := "<init>", desc := "()V", sig := { parameters := [], returnType := none }, accessFlags := 2, code := none }
/-- jdk/internal/util/ArraysSupport -/
def k14 : Class := { plain "jdk/internal/util/ArraysSupport" (some 0) with
  accessFlags := 33
  interfaces := #[]
  cf := some (fileOf pool14 21 #[] #[{ accessFlags := 2, nameIndex := 9, descriptorIndex := 19, attributes := #[] }] 33 16 #[] #[{ accessFlags := 24, nameIndex := 28, descriptorIndex := 29, attributes := #[] }, { accessFlags := 26, nameIndex := 38, descriptorIndex := 39, attributes := #[] }, { accessFlags := 25, nameIndex := 121, descriptorIndex := 25, attributes := #[] }, { accessFlags := 25, nameIndex := 131, descriptorIndex := 25, attributes := #[] }, { accessFlags := 25, nameIndex := 137, descriptorIndex := 25, attributes := #[] }, { accessFlags := 25, nameIndex := 143, descriptorIndex := 25, attributes := #[] }, { accessFlags := 25, nameIndex := 53, descriptorIndex := 25, attributes := #[] }, { accessFlags := 25, nameIndex := 24, descriptorIndex := 25, attributes := #[] }, { accessFlags := 25, nameIndex := 162, descriptorIndex := 25, attributes := #[] }, { accessFlags := 25, nameIndex := 187, descriptorIndex := 25, attributes := #[] }, { accessFlags := 26, nameIndex := 48, descriptorIndex := 25, attributes := #[] }, { accessFlags := 25, nameIndex := 277, descriptorIndex := 25, attributes := #[] }, { accessFlags := 25, nameIndex := 280, descriptorIndex := 25, attributes := #[] }, { accessFlags := 25, nameIndex := 282, descriptorIndex := 25, attributes := #[] }, { accessFlags := 25, nameIndex := 284, descriptorIndex := 25, attributes := #[] }, { accessFlags := 25, nameIndex := 286, descriptorIndex := 25, attributes := #[] }, { accessFlags := 25, nameIndex := 288, descriptorIndex := 25, attributes := #[] }, { accessFlags := 25, nameIndex := 290, descriptorIndex := 25, attributes := #[] }, { accessFlags := 25, nameIndex := 292, descriptorIndex := 25, attributes := #[] }, { accessFlags := 26, nameIndex := 108, descriptorIndex := 109, attributes := #[] }, { accessFlags := 25, nameIndex := 294, descriptorIndex := 25, attributes := #[] }])
  fields := #[{ name := "U", type := (.object "jdk/internal/misc/Unsafe"), accessFlags := 24, slot := 0, constantValue := 0 }, { name := "BIG_ENDIAN", type := .boolean, accessFlags := 26, slot := 1, constantValue := 0 }, { name := "LOG2_ARRAY_BOOLEAN_INDEX_SCALE", type := .int, accessFlags := 25, slot := 2, constantValue := 0 }, { name := "LOG2_ARRAY_BYTE_INDEX_SCALE", type := .int, accessFlags := 25, slot := 3, constantValue := 0 }, { name := "LOG2_ARRAY_CHAR_INDEX_SCALE", type := .int, accessFlags := 25, slot := 4, constantValue := 0 }, { name := "LOG2_ARRAY_SHORT_INDEX_SCALE", type := .int, accessFlags := 25, slot := 5, constantValue := 0 }, { name := "LOG2_ARRAY_INT_INDEX_SCALE", type := .int, accessFlags := 25, slot := 6, constantValue := 0 }, { name := "LOG2_ARRAY_LONG_INDEX_SCALE", type := .int, accessFlags := 25, slot := 7, constantValue := 0 }, { name := "LOG2_ARRAY_FLOAT_INDEX_SCALE", type := .int, accessFlags := 25, slot := 8, constantValue := 0 }, { name := "LOG2_ARRAY_DOUBLE_INDEX_SCALE", type := .int, accessFlags := 25, slot := 9, constantValue := 0 }, { name := "LOG2_BYTE_BIT_SIZE", type := .int, accessFlags := 26, slot := 10, constantValue := 0 }, { name := "T_BOOLEAN", type := .int, accessFlags := 25, slot := 11, constantValue := 0 }, { name := "T_CHAR", type := .int, accessFlags := 25, slot := 12, constantValue := 0 }, { name := "T_FLOAT", type := .int, accessFlags := 25, slot := 13, constantValue := 0 }, { name := "T_DOUBLE", type := .int, accessFlags := 25, slot := 14, constantValue := 0 }, { name := "T_BYTE", type := .int, accessFlags := 25, slot := 15, constantValue := 0 }, { name := "T_SHORT", type := .int, accessFlags := 25, slot := 16, constantValue := 0 }, { name := "T_INT", type := .int, accessFlags := 25, slot := 17, constantValue := 0 }, { name := "T_LONG", type := .int, accessFlags := 25, slot := 18, constantValue := 0 }, { name := "JLA", type := (.object "jdk/internal/access/JavaLangAccess"), accessFlags := 26, slot := 19, constantValue := 0 }, { name := "SOFT_MAX_ARRAY_LENGTH", type := .int, accessFlags := 25, slot := 20, constantValue := 0 }]
  methods := #[k14m0]
  instanceTypes := #[]
  staticTypes := #[(.object "jdk/internal/misc/Unsafe"), .boolean, .int, .int, .int, .int, .int, .int, .int, .int, .int, .int, .int, .int, .int, .int, .int, .int, .int, (.object "jdk/internal/access/JavaLangAccess"), .int]
  resolved := Array.replicate 378 none
  statics := none }

def pool15 : Array CpInfo := pool [(1, u "java/lang/Cloneable"), (0, .class_ 1), (0, u "java/lang/Object"), (0, .class_ 3)] 3

/-- java/lang/Cloneable -/
def k15 : Class := { plain "java/lang/Cloneable" (some 0) with
  accessFlags := 1537
  interfaces := #[]
  cf := some (fileOf pool15 2 #[] #[] 1537 4 #[] #[])
  fields := #[]
  methods := #[]
  instanceTypes := #[]
  staticTypes := #[]
  resolved := Array.replicate 8 none
  statics := none }

/-- the primitive byte -/
def k16 : Class := { plain "byte" none with kind := .primitive 'B', accessFlags := 0x411 }
/-- [B -/
def k17 : Class := { plain "[B" (some 0) with kind := .array 16 .byte, interfaces := #[15, 2], accessFlags := 1041 }

/-- the primitive int -/
def k18 : Class := { plain "int" none with kind := .primitive 'I', accessFlags := 0x411 }
/-- [I -/
def k19 : Class := { plain "[I" (some 0) with kind := .array 18 .int, interfaces := #[15, 2], accessFlags := 1041 }

def heap : Heap := #[{ cls := 7, slots := #[.long 0, .int 1, .null, .int 0, .null, .int 0, .int 0], vm := .statics 7 },
  { cls := 13, slots := #[.null, .null, .null], vm := .statics 13 }]
def classes : Array Class := #[k0, k1, k2, k3, k4, k5, k6, k7, k8, k9, k10, k11, k12, k13, k14, k15, k16, k17, k18, k19]
def interned : List (Array UInt16 × Addr) := []
def slotsUsed : Nat := 10
def theMethod : MethodId := ⟨1, 1⟩
def args0 : Array Value := #[.int 1, .int 2, .int 3]
def aboutOver (below : List Frame) : State where
  vm := { classes := classes, interned := interned.toArray }
  heap := heap
  slotsUsed := slotsUsed
  threads := #[{ frames := .invoking theMethod args0 :: below }]
def below0 : List Frame := [.native { method := ⟨0, 0⟩, args := #[] }]
def about1 : State := aboutOver below0
def p0 : Program := .bare "" "" ""
def e0 : Env := launch0.env 0 0 0
theorem w_frames : about1.frames = Frame.invoking theMethod args0 :: below0 := rfl
set_option maxRecDepth 65536 in
theorem w_args : argsFit about1.vm theMethod args0 = true := by decide +kernel
set_option maxRecDepth 65536 in
theorem w_heap : heapFits about1 = true := by decide +kernel
set_option maxRecDepth 65536 in
theorem w_runnable : about1.curStatus? = some .runnable := by decide +kernel
set_option maxRecDepth 65536 in
theorem w_alone : about1.alone = true := by decide +kernel
set_option maxRecDepth 65536 in
theorem w_named : about1.methodNamed? x = some theMethod := by decide +kernel
set_option maxRecDepth 65536 in
theorem w_hears : about1.hears theMethod below0 = true := by decide +kernel
set_option maxRecDepth 65536 in
theorem w_ripe : about1.ripe theMethod args0 below0 = true := by decide +kernel
theorem w_running : about1.status = .running := rfl
set_option maxRecDepth 65536 in
theorem w_room : about1.hasRoom e0.platform room_1 = true :=
  launch0.hasRoom_least _ room_1 (by decide +kernel) (by decide +kernel) (by decide +kernel) (by decide +kernel) (by decide +kernel) (by decide +kernel)
theorem allAtoms_all (ts : List Jvm.Cond) (a : Array Jvm.Value) (st : Jvm.State) : (allAtoms ts).before a st = ts.all (fun c => c.before a st) := by
  induction ts with
  | nil => rfl
  | cons c t ih =>
    show (Jvm.Cond.and c (allAtoms t)).before a st = _
    rw [Jvm.Cond.before_and, ih, List.all_cons]
def words1 : List Jvm.Cond := Jvm.Cond.code x code maxLocals ret :: tables_1
/-- a 'code' word, met by the world's own term for the bytes: nothing is compared byte by byte -/
theorem code_word {y : MethodName} {bytes : ByteArray} {mx : Nat} {rt : Option FieldType} {a : Array Value} {s : State} {m : MethodId} {meth : Method} {c : Code} (h1 : s.methodNamed? y = some m) (h2 : s.vm.method? m = some meth) (h3 : meth.code = some c) (h4 : c.code = bytes)
    (h5 : (c.maxLocals == mx && c.exceptionTable.isEmpty && decide (c.maxStack ≤ mostOperands) && decide (meth.sig.returnType = rt) && !meth.locks && decide (parseMethodDescriptor y.desc = some meth.sig)) = true) : (Jvm.Cond.code y bytes mx rt).before a s = true := by
  simp only [Bool.and_eq_true, beq_iff_eq, Bool.not_eq_true', decide_eq_true_eq] at h5
  obtain ⟨⟨⟨⟨⟨g1, g2⟩, g3⟩, g4⟩, g5⟩, g6⟩ := h5
  simp [Cond.before, Cond.holds, Cond.value, h1, h2, h3, h4, g1, g2, g3, g4, g5, g6]
def isCode : Jvm.Cond → Bool
  | .code _ _ _ _ => true
  | _ => false
theorem all_split {L : List Jvm.Cond} {P : Jvm.Cond → Bool} (h1 : L.all (fun c => isCode c || P c) = true) (h2 : ∀ c ∈ L.filter isCode, P c = true) : L.all P = true := by
  refine List.all_eq_true.mpr fun c hc => ?_
  have h := List.all_eq_true.mp h1 c hc
  rcases Bool.eq_false_or_eq_true (isCode c) with hi | hi
  · exact h2 c (List.mem_filter.mpr ⟨hc, hi⟩)
  · simpa [hi] using h
set_option maxRecDepth 65536 in
theorem w_c0 : (Jvm.Cond.code x code maxLocals ret).before args0 about1 = true := code_word (m := ⟨1, 1⟩) (meth := k1m1) (c := k1c1) (by decide +kernel) rfl rfl rfl (by decide +kernel)
set_option maxRecDepth 65536 in
theorem w_c1 : (Jvm.Cond.code ({ cls := "java/lang/String", name := "valueOf", desc := "(C)Ljava/lang/String;" } : Jvm.MethodName) jdk_42_method_139_code (1 : Nat) (Option.some (Jvm.ClassFile.FieldType.object "java/lang/String"))).before args0 about1 = true := code_word (m := ⟨7, 3⟩) (meth := k7m3) (c := k7c3) (by decide +kernel) rfl rfl rfl (by decide +kernel)
set_option maxRecDepth 65536 in
theorem w_c2 : (Jvm.Cond.code ({ cls := "java/lang/StringLatin1", name := "canEncode", desc := "(C)Z" } : Jvm.MethodName) jdk_43_method_3_code (1 : Nat) (Option.some Jvm.ClassFile.FieldType.boolean)).before args0 about1 = true := code_word (m := ⟨8, 2⟩) (meth := k8m2) (c := k8c2) (by decide +kernel) rfl rfl rfl (by decide +kernel)
set_option maxRecDepth 65536 in
theorem w_c3 : (Jvm.Cond.code ({ cls := "java/lang/StringLatin1", name := "toBytes", desc := "(C)[B" } : Jvm.MethodName) jdk_43_method_46_code (1 : Nat) (Option.some (Jvm.ClassFile.FieldType.array Jvm.ClassFile.FieldType.byte))).before args0 about1 = true := code_word (m := ⟨8, 3⟩) (meth := k8m3) (c := k8c3) (by decide +kernel) rfl rfl rfl (by decide +kernel)
set_option maxRecDepth 65536 in
theorem w_c4 : (Jvm.Cond.code ({ cls := "java/lang/String", name := "<init>", desc := "([BB)V" } : Jvm.MethodName) jdk_42_method_151_code (3 : Nat) (Option.none : Option Jvm.ClassFile.FieldType)).before args0 about1 = true := code_word (m := ⟨7, 4⟩) (meth := k7m4) (c := k7c4) (by decide +kernel) rfl rfl rfl (by decide +kernel)
set_option maxRecDepth 65536 in
theorem w_c5 : (Jvm.Cond.code ({ cls := "java/lang/Object", name := "<init>", desc := "()V" } : Jvm.MethodName) object_method_1_code (1 : Nat) (Option.none : Option Jvm.ClassFile.FieldType)).before args0 about1 = true := code_word (m := ⟨0, 0⟩) (meth := k0m0) (c := k0c0) (by decide +kernel) rfl rfl rfl (by decide +kernel)
set_option maxRecDepth 65536 in
theorem w_c6 : (Jvm.Cond.code ({ cls := "com/example/anagrafe/anagrafe/atom/Markup", name := "<init>", desc := "()V" } : Jvm.MethodName) prog_9_method_1_code (1 : Nat) (Option.none : Option Jvm.ClassFile.FieldType)).before args0 about1 = true := code_word (m := ⟨9, 0⟩) (meth := k9m0) (c := k9c0) (by decide +kernel) rfl rfl rfl (by decide +kernel)
set_option maxRecDepth 65536 in
theorem w_c7 : (Jvm.Cond.code ({ cls := "com/example/anagrafe/anagrafe/atom/Markup", name := "toByteArray", desc := "()[B" } : Jvm.MethodName) prog_9_method_9_code (1 : Nat) (Option.some (Jvm.ClassFile.FieldType.array Jvm.ClassFile.FieldType.byte))).before args0 about1 = true := code_word (m := ⟨9, 4⟩) (meth := k9m4) (c := k9c4) (by decide +kernel) rfl rfl rfl (by decide +kernel)
set_option maxRecDepth 65536 in
theorem w_c8 : (Jvm.Cond.code ({ cls := "java/util/Arrays", name := "copyOf", desc := "([BI)[B" } : Jvm.MethodName) jdk_65_method_121_code (3 : Nat) (Option.some (Jvm.ClassFile.FieldType.array Jvm.ClassFile.FieldType.byte))).before args0 about1 = true := code_word (m := ⟨10, 1⟩) (meth := k10m1) (c := k10c1) (by decide +kernel) rfl rfl rfl (by decide +kernel)
set_option maxRecDepth 65536 in
theorem w_c9 : (Jvm.Cond.code ({ cls := "java/lang/Math", name := "min", desc := "(II)I" } : Jvm.MethodName) jdk_29_method_69_code (2 : Nat) (Option.some Jvm.ClassFile.FieldType.int)).before args0 about1 = true := code_word (m := ⟨11, 1⟩) (meth := k11m1) (c := k11c1) (by decide +kernel) rfl rfl rfl (by decide +kernel)
set_option maxRecDepth 65536 in
theorem w_c10 : (Jvm.Cond.code ({ cls := "com/example/anagrafe/anagrafe/atom/Markup", name := "endStart", desc := "()V" } : Jvm.MethodName) prog_9_method_5_code (1 : Nat) (Option.none : Option Jvm.ClassFile.FieldType)).before args0 about1 = true := code_word (m := ⟨9, 2⟩) (meth := k9m2) (c := k9c2) (by decide +kernel) rfl rfl rfl (by decide +kernel)
set_option maxRecDepth 65536 in
theorem w_c11 : (Jvm.Cond.code ({ cls := "com/example/anagrafe/anagrafe/atom/Markup", name := "room", desc := "(I)V" } : Jvm.MethodName) prog_9_method_10_code (3 : Nat) (Option.none : Option Jvm.ClassFile.FieldType)).before args0 about1 = true := code_word (m := ⟨9, 5⟩) (meth := k9m5) (c := k9c5) (by decide +kernel) rfl rfl rfl (by decide +kernel)
set_option maxRecDepth 65536 in
theorem w_c12 : (Jvm.Cond.code ({ cls := "com/example/anagrafe/anagrafe/atom/MarkupToByteArrayPinLaw", name := "same", desc := "([B[BI)Z" } : Jvm.MethodName) method_3_code (3 : Nat) (Option.some Jvm.ClassFile.FieldType.boolean)).before args0 about1 = true := code_word (m := ⟨1, 2⟩) (meth := k1m2) (c := k1c2) (by decide +kernel) rfl rfl rfl (by decide +kernel)
set_option maxRecDepth 65536 in
theorem w_c13 : (Jvm.Cond.code ({ cls := "com/example/anagrafe/anagrafe/atom/Markup", name := "open", desc := "(Ljava/lang/String;Ljava/lang/String;)V" } : Jvm.MethodName) prog_9_method_3_code (3 : Nat) (Option.none : Option Jvm.ClassFile.FieldType)).before args0 about1 = true := code_word (m := ⟨9, 1⟩) (meth := k9m1) (c := k9c1) (by decide +kernel) rfl rfl rfl (by decide +kernel)
set_option maxRecDepth 65536 in
theorem w_c14 : (Jvm.Cond.code ({ cls := "java/lang/String", name := "length", desc := "()I" } : Jvm.MethodName) jdk_42_method_54_code (1 : Nat) (Option.some Jvm.ClassFile.FieldType.int)).before args0 about1 = true := code_word (m := ⟨7, 1⟩) (meth := k7m1) (c := k7c1) (by decide +kernel) rfl rfl rfl (by decide +kernel)
set_option maxRecDepth 65536 in
theorem w_c15 : (Jvm.Cond.code ({ cls := "java/lang/String", name := "coder", desc := "()B" } : Jvm.MethodName) jdk_42_method_152_code (1 : Nat) (Option.some Jvm.ClassFile.FieldType.byte)).before args0 about1 = true := code_word (m := ⟨7, 5⟩) (meth := k7m5) (c := k7c5) (by decide +kernel) rfl rfl rfl (by decide +kernel)
set_option maxRecDepth 65536 in
theorem w_c16 : (Jvm.Cond.code ({ cls := "com/example/anagrafe/anagrafe/atom/Markup", name := "ascii", desc := "(Ljava/lang/String;)V" } : Jvm.MethodName) prog_9_method_11_code (5 : Nat) (Option.none : Option Jvm.ClassFile.FieldType)).before args0 about1 = true := code_word (m := ⟨9, 6⟩) (meth := k9m6) (c := k9c6) (by decide +kernel) rfl rfl rfl (by decide +kernel)
set_option maxRecDepth 65536 in
theorem w_c17 : (Jvm.Cond.code ({ cls := "java/lang/String", name := "charAt", desc := "(I)C" } : Jvm.MethodName) jdk_42_method_56_code (2 : Nat) (Option.some Jvm.ClassFile.FieldType.char)).before args0 about1 = true := code_word (m := ⟨7, 2⟩) (meth := k7m2) (c := k7c2) (by decide +kernel) rfl rfl rfl (by decide +kernel)
set_option maxRecDepth 65536 in
theorem w_c18 : (Jvm.Cond.code ({ cls := "java/lang/String", name := "isLatin1", desc := "()Z" } : Jvm.MethodName) jdk_42_method_154_code (1 : Nat) (Option.some Jvm.ClassFile.FieldType.boolean)).before args0 about1 = true := code_word (m := ⟨7, 6⟩) (meth := k7m6) (c := k7c6) (by decide +kernel) rfl rfl rfl (by decide +kernel)
set_option maxRecDepth 65536 in
theorem w_c19 : (Jvm.Cond.code ({ cls := "java/lang/StringLatin1", name := "charAt", desc := "([BI)C" } : Jvm.MethodName) jdk_43_method_2_code (2 : Nat) (Option.some Jvm.ClassFile.FieldType.char)).before args0 about1 = true := code_word (m := ⟨8, 1⟩) (meth := k8m1) (c := k8c1) (by decide +kernel) rfl rfl rfl (by decide +kernel)
set_option maxRecDepth 65536 in
theorem w_c20 : (Jvm.Cond.code ({ cls := "java/lang/String", name := "checkIndex", desc := "(II)V" } : Jvm.MethodName) jdk_42_method_155_code (2 : Nat) (Option.none : Option Jvm.ClassFile.FieldType)).before args0 about1 = true := code_word (m := ⟨7, 7⟩) (meth := k7m7) (c := k7c7) (by decide +kernel) rfl rfl rfl (by decide +kernel)
set_option maxRecDepth 65536 in
theorem w_c21 : (Jvm.Cond.code ({ cls := "jdk/internal/util/Preconditions", name := "checkIndex", desc := "(IILjava/util/function/BiFunction;)I" } : Jvm.MethodName) jdk_41_method_11_code (3 : Nat) (Option.some Jvm.ClassFile.FieldType.int)).before args0 about1 = true := code_word (m := ⟨13, 1⟩) (meth := k13m1) (c := k13c1) (by decide +kernel) rfl rfl rfl (by decide +kernel)
set_option maxRecDepth 65536 in
theorem w_c22 : (Jvm.Cond.code ({ cls := "com/example/anagrafe/anagrafe/atom/Markup", name := "endEmpty", desc := "()V" } : Jvm.MethodName) prog_9_method_6_code (1 : Nat) (Option.none : Option Jvm.ClassFile.FieldType)).before args0 about1 = true := code_word (m := ⟨9, 3⟩) (meth := k9m3) (c := k9c3) (by decide +kernel) rfl rfl rfl (by decide +kernel)
def codes1 : List Jvm.Cond := [Jvm.Cond.code x code maxLocals ret, Jvm.Cond.code ({ cls := "java/lang/String", name := "valueOf", desc := "(C)Ljava/lang/String;" } : Jvm.MethodName) jdk_42_method_139_code (1 : Nat) (Option.some (Jvm.ClassFile.FieldType.object "java/lang/String")), Jvm.Cond.code ({ cls := "java/lang/StringLatin1", name := "canEncode", desc := "(C)Z" } : Jvm.MethodName) jdk_43_method_3_code (1 : Nat) (Option.some Jvm.ClassFile.FieldType.boolean), Jvm.Cond.code ({ cls := "java/lang/StringLatin1", name := "toBytes", desc := "(C)[B" } : Jvm.MethodName) jdk_43_method_46_code (1 : Nat) (Option.some (Jvm.ClassFile.FieldType.array Jvm.ClassFile.FieldType.byte)), Jvm.Cond.code ({ cls := "java/lang/String", name := "<init>", desc := "([BB)V" } : Jvm.MethodName) jdk_42_method_151_code (3 : Nat) (Option.none : Option Jvm.ClassFile.FieldType), Jvm.Cond.code ({ cls := "java/lang/Object", name := "<init>", desc := "()V" } : Jvm.MethodName) object_method_1_code (1 : Nat) (Option.none : Option Jvm.ClassFile.FieldType), Jvm.Cond.code ({ cls := "com/example/anagrafe/anagrafe/atom/Markup", name := "<init>", desc := "()V" } : Jvm.MethodName) prog_9_method_1_code (1 : Nat) (Option.none : Option Jvm.ClassFile.FieldType), Jvm.Cond.code ({ cls := "com/example/anagrafe/anagrafe/atom/Markup", name := "toByteArray", desc := "()[B" } : Jvm.MethodName) prog_9_method_9_code (1 : Nat) (Option.some (Jvm.ClassFile.FieldType.array Jvm.ClassFile.FieldType.byte)), Jvm.Cond.code ({ cls := "java/util/Arrays", name := "copyOf", desc := "([BI)[B" } : Jvm.MethodName) jdk_65_method_121_code (3 : Nat) (Option.some (Jvm.ClassFile.FieldType.array Jvm.ClassFile.FieldType.byte)), Jvm.Cond.code ({ cls := "java/lang/Math", name := "min", desc := "(II)I" } : Jvm.MethodName) jdk_29_method_69_code (2 : Nat) (Option.some Jvm.ClassFile.FieldType.int), Jvm.Cond.code ({ cls := "com/example/anagrafe/anagrafe/atom/Markup", name := "endStart", desc := "()V" } : Jvm.MethodName) prog_9_method_5_code (1 : Nat) (Option.none : Option Jvm.ClassFile.FieldType), Jvm.Cond.code ({ cls := "com/example/anagrafe/anagrafe/atom/Markup", name := "room", desc := "(I)V" } : Jvm.MethodName) prog_9_method_10_code (3 : Nat) (Option.none : Option Jvm.ClassFile.FieldType), Jvm.Cond.code ({ cls := "com/example/anagrafe/anagrafe/atom/MarkupToByteArrayPinLaw", name := "same", desc := "([B[BI)Z" } : Jvm.MethodName) method_3_code (3 : Nat) (Option.some Jvm.ClassFile.FieldType.boolean), Jvm.Cond.code ({ cls := "com/example/anagrafe/anagrafe/atom/Markup", name := "open", desc := "(Ljava/lang/String;Ljava/lang/String;)V" } : Jvm.MethodName) prog_9_method_3_code (3 : Nat) (Option.none : Option Jvm.ClassFile.FieldType), Jvm.Cond.code ({ cls := "java/lang/String", name := "length", desc := "()I" } : Jvm.MethodName) jdk_42_method_54_code (1 : Nat) (Option.some Jvm.ClassFile.FieldType.int), Jvm.Cond.code ({ cls := "java/lang/String", name := "coder", desc := "()B" } : Jvm.MethodName) jdk_42_method_152_code (1 : Nat) (Option.some Jvm.ClassFile.FieldType.byte), Jvm.Cond.code ({ cls := "com/example/anagrafe/anagrafe/atom/Markup", name := "ascii", desc := "(Ljava/lang/String;)V" } : Jvm.MethodName) prog_9_method_11_code (5 : Nat) (Option.none : Option Jvm.ClassFile.FieldType), Jvm.Cond.code ({ cls := "java/lang/String", name := "charAt", desc := "(I)C" } : Jvm.MethodName) jdk_42_method_56_code (2 : Nat) (Option.some Jvm.ClassFile.FieldType.char), Jvm.Cond.code ({ cls := "java/lang/String", name := "isLatin1", desc := "()Z" } : Jvm.MethodName) jdk_42_method_154_code (1 : Nat) (Option.some Jvm.ClassFile.FieldType.boolean), Jvm.Cond.code ({ cls := "java/lang/StringLatin1", name := "charAt", desc := "([BI)C" } : Jvm.MethodName) jdk_43_method_2_code (2 : Nat) (Option.some Jvm.ClassFile.FieldType.char), Jvm.Cond.code ({ cls := "java/lang/String", name := "checkIndex", desc := "(II)V" } : Jvm.MethodName) jdk_42_method_155_code (2 : Nat) (Option.none : Option Jvm.ClassFile.FieldType), Jvm.Cond.code ({ cls := "jdk/internal/util/Preconditions", name := "checkIndex", desc := "(IILjava/util/function/BiFunction;)I" } : Jvm.MethodName) jdk_41_method_11_code (3 : Nat) (Option.some Jvm.ClassFile.FieldType.int), Jvm.Cond.code ({ cls := "com/example/anagrafe/anagrafe/atom/Markup", name := "endEmpty", desc := "()V" } : Jvm.MethodName) prog_9_method_6_code (1 : Nat) (Option.none : Option Jvm.ClassFile.FieldType)]
set_option maxRecDepth 65536 in
theorem codes_eq : words1.filter isCode = codes1 := rfl
theorem w_codes : ∀ c ∈ words1.filter isCode, c.before args0 about1 = true := by
  rw [codes_eq]
  intro c hc
  simp only [codes1, List.mem_cons, List.not_mem_nil, or_false] at hc
  rcases hc with rfl | rfl | rfl | rfl | rfl | rfl | rfl | rfl | rfl | rfl | rfl | rfl | rfl | rfl | rfl | rfl | rfl | rfl | rfl | rfl | rfl | rfl | rfl
  · exact w_c0
  · exact w_c1
  · exact w_c2
  · exact w_c3
  · exact w_c4
  · exact w_c5
  · exact w_c6
  · exact w_c7
  · exact w_c8
  · exact w_c9
  · exact w_c10
  · exact w_c11
  · exact w_c12
  · exact w_c13
  · exact w_c14
  · exact w_c15
  · exact w_c16
  · exact w_c17
  · exact w_c18
  · exact w_c19
  · exact w_c20
  · exact w_c21
  · exact w_c22
set_option maxRecDepth 65536 in
theorem w_t1 : (words1.take 24).all (fun c => isCode c || c.before args0 about1) = true := by decide +kernel
set_option maxRecDepth 65536 in
theorem w_t2 : ((words1.drop 24).take 24).all (fun c => isCode c || c.before args0 about1) = true := by decide +kernel
set_option maxRecDepth 65536 in
theorem w_t3 : (((words1.drop 24).drop 24).take 24).all (fun c => isCode c || c.before args0 about1) = true := by decide +kernel
set_option maxRecDepth 65536 in
theorem w_t4 : ((((words1.drop 24).drop 24).drop 24).take 24).all (fun c => isCode c || c.before args0 about1) = true := by decide +kernel
set_option maxRecDepth 65536 in
theorem w_t5 : ((((words1.drop 24).drop 24).drop 24).drop 24).all (fun c => isCode c || c.before args0 about1) = true := by decide +kernel
theorem w_tables : (allAtoms (Jvm.Cond.code x code maxLocals ret :: tables_1)).before args0 about1 = true := by
  rw [allAtoms_all]
  show words1.all (fun c => c.before args0 about1) = true
  refine all_split ?_ w_codes
  rw [← List.take_append_drop 24 words1, List.all_append, w_t1, ← List.take_append_drop 24 (words1.drop 24), List.all_append, w_t2, ← List.take_append_drop 24 ((words1.drop 24).drop 24), List.all_append, w_t3, ← List.take_append_drop 24 (((words1.drop 24).drop 24).drop 24), List.all_append, w_t4, w_t5]
  rfl
set_option maxRecDepth 65536 in
theorem w_rest : rest_1_c.before args0 about1 = true := by decide +kernel
set_option maxRecDepth 65536 in
theorem w_case : (Jvm.Cond.and given_1 narrow_1).before args0 about1 = true := by decide +kernel
theorem w_applies : (headSpec (Jvm.Cond.code x code maxLocals ret :: tables_1) room_1).applies x e0.platform about1 = true :=
  (Spec.applies_iff w_frames).mpr ⟨w_running, w_runnable, w_alone, w_named, w_hears, w_ripe, w_room, w_tables⟩
theorem atStart : AtStart classFile x code maxLocals ret World_1 tables_1 room_1 Calls_1 rest_1 Pre_1 launch0 p0 e0 about1 theMethod args0 below0 :=
  ⟨lists_1, trivial, launch0.admits_env _ _ _, launch0.least_env, fairChoices_fair.cas, fairChoices_fair.clock, w_frames, w_args, w_heap, w_applies, trivial, w_rest, w_case⟩
end start1
theorem witness_1 : WitnessClaimed_1 := ⟨start1.p0, start1.e0, start1.about1, start1.theMethod, start1.args0, start1.below0, start1.atStart⟩
end Jvm.Pilot.@@N@@
