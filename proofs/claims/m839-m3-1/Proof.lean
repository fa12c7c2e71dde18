import JvmDerived
import JvmDerived.Pilot.@@N@@Statement
import JvmDerived.Pilot.@@N@@Code
set_option linter.unusedVariables false
set_option linter.unusedSimpArgs false
namespace Jvm.Pilot.@@N@@
open Jvm Jvm.ClassFile Sem Op Lib Jvm.Free Jvm.Stand Jvm.LawKit Jvm.RoadKit Bundle Jvm.Pilot.@@N@@.Jvm.D
theorem own_nz {args : Array Value} {s : State} {tm : Term} {z : Int32} (ev : tm.eval args s none [] s = some (.int z)) (h : (Jvm.Cond.not (Jvm.Cond.eq tm (Term.int 0))).value args s none s [] = some true) : ¬ z = 0 := by
  have h1 := not_v h
  have e2 : (Term.int 0).eval args s none [] s = some (.int 0) := Term.int_eval 0
  intro q
  subst q
  simp [Jvm.Cond.value, ev, e2] at h1
theorem own_eqi {args : Array Value} {s : State} {tm : Term} {z : Int32} (h : (Jvm.Cond.eq tm (Term.int z)).value args s none s [] = some true) : tm.eval args s none [] s = some (.int z) := by
  have e2 : (Term.int z).eval args s none [] s = some (.int z) := Term.int_eval z
  cases e1 : tm.eval args s none [] s with
  | none => simp [Jvm.Cond.value, e1, e2] at h
  | some x => cases x <;> simp [Jvm.Cond.value, e1, e2] at h ⊢ <;> exact h
theorem own_mono {p : Program} {l : Launch} {e : Env} {R : Room} {s : State} {m : MethodId} {args : Array Value} {below : List Frame} {meth : Method} {c : Code} {T : State} {locs : List Loc} {cells slots C S : Nat} (X : Stand p l e R s m args below meth c T locs cells slots) (hC : cells ≤ C) (hS : slots ≤ S) : Stand p l e R s m args below meth c T locs C S := { X with same := X.same.mono hC hS }
theorem own_one {L L' : Array Slot} {i : Nat} {sl : Slot} {v : Int32} (h : One sl) (hl : L[i]? = some sl) (hs : storeSelf L i (.int v) = some L') : storeLocals L i (.int v) = some L' := by
  unfold storeLocals
  rw [hl]
  rcases h with rfl | ⟨w, rfl, hw⟩
  · exact hs
  · show (if w.category = 2 then _ else storeSelf L i (.int v)) = some L'
    rw [if_neg (by rw [hw]; decide)]
    exact hs
theorem own_ns {Z : State} {h : Heap} {a : Addr} {C : String} (F : Exa Z h a C) : ∃ c : Cell, h[a]? = some c ∧ c.vm.isStatics = false := by
  obtain ⟨c, k, h1, -, -, h4, -⟩ := F
  exact ⟨c, h1, h4⟩
theorem own_Sta_keep {Z : State} {h h' : Heap} {C n d : String} {v : Value} {ws : List Addr} (F : Sta Z h C n d v) (K : Keep h h' ws) (q : ∀ a ∈ ws, ∃ c : Cell, h[a]? = some c ∧ c.vm.isStatics = false) : Sta Z h' C n d v := by
  obtain ⟨cf, i, k, f, st, cell, h1, h2, h3, h4, h5, h6, h7⟩ := F
  refine ⟨cf, i, k, f, st, cell, h1, h2, h3, h4, K.2.1 st cell h5 (fun z => ?_), h6, h7⟩
  obtain ⟨c, e1, e2⟩ := q st z
  cases h5.symm.trans e1
  rw [e2] at h6
  cases h6
theorem own_cat {v : Value} (h : v.isRef = true) : v.category = 1 := by cases v <;> simp [Value.isRef, Value.category] at h ⊢
theorem own_fits_nar (t : FieldType) (x : Int32) (ht : t = .boolean ∨ t = .byte ∨ t = .char ∨ t = .short) : fits t (.int (nar t x)) = true := by
  rcases ht with rfl | rfl | rfl | rfl
  · exact fits_nar_bool x
  · exact fits_nar_byte x
  · exact fits_nar_char x
  · exact fits_nar_short x
section Layer
variable {p : Program} {l : Launch} {e : Env} {R : Room} {s : State} {m : MethodId} {args : Array Value} {below : List Frame} {meth : Method} {c : Code} {T : State} {locs : List Loc} {cells slots : Nat}
/-- the walk from σ comes to an end at which K holds -/
def Go (p : Program) (e : Env) (below : List Frame) (K : State → Outcome → Prop) (σ : State) : Prop := ∃ s₂ o, Steps p.tables e below σ s₂ ∧ K s₂ o
theorem Go.st {K : State → Outcome → Prop} {σ σ' : State} (h : ∀ t, Steps p.tables e below σ' t → Steps p.tables e below σ t) (k : Go p e below K σ') : Go p e below K σ := by
  obtain ⟨a, b, c, d⟩ := k
  exact ⟨a, b, h _ c, d⟩
theorem Go.tr {K : State → Outcome → Prop} {σ σ' : State} (h : Steps p.tables e below σ σ') (k : Go p e below K σ') : Go p e below K σ := Go.st (fun _ q => h.trans q) k
/-- what a contract asks of the end -/
def KQ (s : State) (below : List Frame) (Q : Option Value → Heap → List Loc → Prop) (C S : Nat) (s₂ : State) (o : Outcome) : Prop :=
  s₂.status = .running ∧ Ended s₂ below o ∧ ∃ v L, o = .returned v ∧ Q v s₂.heap L ∧ FrameEnd s o s₂ L C S
theorem Go.body {K : State → Outcome → Prop} {σ : State} {g g' : JFrame} (hg : g = g') (k : Go p e below K (T.setTop g')) : Go p e below K (T.setTop g) := hg ▸ k
/-- return of nothing -/
theorem Go.retV {Q : Option Value → Heap → List Loc → Prop} {C S : Nat} (X : Stand p l e R s m args below meth c T locs cells slots) (hx : p.tables.exec = Jvm.exec) (hlk : meth.locks = false) (hret : meth.sig.returnType = none) {pc : Nat} {Ls : Array Slot} (hd : decode c.code pc = .ok (.return_, 1)) (hC : cells ≤ C) (hS : slots ≤ S) (q : Q none T.heap locs) :
    Go p e below (KQ s below Q C S) (T.setTop (mkF m pc Ls [])) := by
  obtain ⟨fs, hr, hrun, hended, hW, hsame⟩ := X.leave (v := none) (fun _ => rfl)
  exact ⟨_, _, X.returnOut hx hret hd hr, hrun, hended, _, _, rfl, q, ⟨_, rfl⟩, hW, hsame.mono hC hS⟩
/-- return of an int -/
theorem Go.retI {Q : Option Value → Heap → List Loc → Prop} {C S : Nat} (X : Stand p l e R s m args below meth c T locs cells slots) (hx : p.tables.exec = Jvm.exec) (hlk : meth.locks = false) (hret : meth.sig.returnType = some .int) {pc : Nat} {Ls : Array Slot} {z : Int32} {rest : List Value} (hd : decode c.code pc = .ok (.ireturn, 1)) (hC : cells ≤ C) (hS : slots ≤ S) (q : Q (some (.int z)) T.heap locs) :
    Go p e below (KQ s below Q C S) (T.setTop (mkF m pc Ls (.int z :: rest))) := by
  obtain ⟨fs, hr, hrun, hended, hW, hsame⟩ := X.leave (v := some (.int z)) (fun h => by rw [hret] at h; cases h)
  exact ⟨_, _, retOut X hx hret rfl (Or.inl ⟨rfl, Or.inl rfl, _, rfl⟩) hd hr, hrun, hended, _, _, rfl, q, ⟨_, rfl⟩, hW, hsame.mono hC hS⟩
/-- return of a boolean, byte, char or short -/
theorem Go.retN {Q : Option Value → Heap → List Loc → Prop} {C S : Nat} (X : Stand p l e R s m args below meth c T locs cells slots) (hx : p.tables.exec = Jvm.exec) (hlk : meth.locks = false) {t : FieldType} (hret : meth.sig.returnType = some t) (ht : t = .boolean ∨ t = .byte ∨ t = .char ∨ t = .short) {pc : Nat} {Ls : Array Slot} {z : Int32} {rest : List Value} (hd : decode c.code pc = .ok (.ireturn, 1)) (hC : cells ≤ C) (hS : slots ≤ S) (q : Q (some (.int (nar t z))) T.heap locs) :
    Go p e below (KQ s below Q C S) (T.setTop (mkF m pc Ls (.int z :: rest))) := by
  obtain ⟨fs, hr, hrun, hended, hW, hsame⟩ := X.leave (v := some (.int (nar t z))) (fun h => by rw [hret] at h; cases h)
  exact ⟨_, _, RoadKit.retN X hx hret ht hd hr, hrun, hended, _, _, rfl, q, ⟨_, rfl⟩, hW, hsame.mono hC hS⟩
/-- return of a reference -/
theorem Go.retA {Q : Option Value → Heap → List Loc → Prop} {C S : Nat} (X : Stand p l e R s m args below meth c T locs cells slots) (hx : p.tables.exec = Jvm.exec) (hlk : meth.locks = false) {t : FieldType} (hret : meth.sig.returnType = some t) (ht : t.isReference = true) {pc : Nat} {Ls : Array Slot} {w : Value} (hw : w.isRef = true) {rest : List Value} (hd : decode c.code pc = .ok (.areturn, 1)) (hC : cells ≤ C) (hS : slots ≤ S) (q : Q (some w) T.heap locs) :
    Go p e below (KQ s below Q C S) (T.setTop (mkF m pc Ls (w :: rest))) := by
  obtain ⟨fs, hr, hrun, hended, hW, hsame⟩ := X.leave (v := some w) (fun h => by rw [hret] at h; cases h)
  exact ⟨_, _, retOut X hx hret (by cases t <;> cases w <;> simp_all [narrow, Value.isRef, FieldType.isReference]) (Or.inr (Or.inr (Or.inr (Or.inr ⟨rfl, ht, hw⟩)))) hd hr, hrun, hended, _, _, rfl, q, ⟨_, rfl⟩, hW, hsame.mono hC hS⟩
/-- return of a long -/
theorem Go.retJ {Q : Option Value → Heap → List Loc → Prop} {C S : Nat} (X : Stand p l e R s m args below meth c T locs cells slots) (hx : p.tables.exec = Jvm.exec) (hlk : meth.locks = false) (hret : meth.sig.returnType = some .long) {pc : Nat} {Ls : Array Slot} {z : Int64} {rest : List Value} (hd : decode c.code pc = .ok (.lreturn, 1)) (hC : cells ≤ C) (hS : slots ≤ S) (q : Q (some (.long z)) T.heap locs) :
    Go p e below (KQ s below Q C S) (T.setTop (mkF m pc Ls (.long z :: rest))) := by
  obtain ⟨fs, hr, hrun, hended, hW, hsame⟩ := X.leave (v := some (.long z)) (fun h => by rw [hret] at h; cases h)
  exact ⟨_, _, retOut X hx hret rfl (Or.inr (Or.inl ⟨rfl, rfl, _, rfl⟩)) hd hr, hrun, hended, _, _, rfl, q, ⟨_, rfl⟩, hW, hsame.mono hC hS⟩
/-- return of a double -/
theorem Go.retD {Q : Option Value → Heap → List Loc → Prop} {C S : Nat} (X : Stand p l e R s m args below meth c T locs cells slots) (hx : p.tables.exec = Jvm.exec) (hlk : meth.locks = false) (hret : meth.sig.returnType = some .double) {pc : Nat} {Ls : Array Slot} {z : UInt64} {rest : List Value} (hd : decode c.code pc = .ok (.dreturn, 1)) (hC : cells ≤ C) (hS : slots ≤ S) (q : Q (some (.double z)) T.heap locs) :
    Go p e below (KQ s below Q C S) (T.setTop (mkF m pc Ls (.double z :: rest))) := by
  obtain ⟨fs, hr, hrun, hended, hW, hsame⟩ := X.leave (v := some (.double z)) (fun h => by rw [hret] at h; cases h)
  exact ⟨_, _, retOut X hx hret rfl (Or.inr (Or.inr (Or.inl ⟨rfl, rfl, _, rfl⟩))) hd hr, hrun, hended, _, _, rfl, q, ⟨_, rfl⟩, hW, hsame.mono hC hS⟩
theorem g_iloadN {K : State → Outcome → Prop} (X : Stand p l e R s m args below meth c T locs cells slots) (hx : p.tables.exec = Jvm.exec) {pc : Nat} {L : Array Slot} {S : List Value} {k : Fin 4} {v : Int32} (hd : decode c.code pc = .ok (.iload_n k, 1)) (pc' : Nat) (hp : pc + 1 = pc') (hl : L[k.val]? = some (.val (.int v))) (r : Go p e below K (T.setTop (mkF m pc' L (.int v :: S)))) : Go p e below K (T.setTop (mkF m pc L S)) := by
  subst hp
  exact Go.st (fun _ => XS.iloadN X.here hx rfl hd hl) r
theorem g_iload {K : State → Outcome → Prop} (X : Stand p l e R s m args below meth c T locs cells slots) (hx : p.tables.exec = Jvm.exec) {pc : Nat} {L : Array Slot} {S : List Value} {k : Nat} {v : Int32} (hd : decode c.code pc = .ok (.iload k, 2)) (pc' : Nat) (hp : pc + 2 = pc') (hl : L[k]? = some (.val (.int v))) (r : Go p e below K (T.setTop (mkF m pc' L (.int v :: S)))) : Go p e below K (T.setTop (mkF m pc L S)) := by
  subst hp
  exact Go.st (fun _ => XS.iload X.here hx rfl hd hl) r
theorem g_aloadN {K : State → Outcome → Prop} (X : Stand p l e R s m args below meth c T locs cells slots) (hx : p.tables.exec = Jvm.exec) {pc : Nat} {L : Array Slot} {S : List Value} {k : Fin 4} {v : Value} (hd : decode c.code pc = .ok (.aload_n k, 1)) (pc' : Nat) (hp : pc + 1 = pc') (hl : L[k.val]? = some (.val v)) (hv : v.isRef = true) (r : Go p e below K (T.setTop (mkF m pc' L (v :: S)))) : Go p e below K (T.setTop (mkF m pc L S)) := by
  subst hp
  exact Go.st (fun _ => XS.aloadN X.here hx rfl hd hl hv) r
theorem g_aload {K : State → Outcome → Prop} (X : Stand p l e R s m args below meth c T locs cells slots) (hx : p.tables.exec = Jvm.exec) {pc : Nat} {L : Array Slot} {S : List Value} {k : Nat} {v : Value} (hd : decode c.code pc = .ok (.aload k, 2)) (pc' : Nat) (hp : pc + 2 = pc') (hl : L[k]? = some (.val v)) (hv : v.isRef = true) (r : Go p e below K (T.setTop (mkF m pc' L (v :: S)))) : Go p e below K (T.setTop (mkF m pc L S)) := by
  subst hp
  exact Go.st (fun _ => XS.aload X.here hx rfl hd hl hv) r
theorem g_istoreN {K : State → Outcome → Prop} (X : Stand p l e R s m args below meth c T locs cells slots) (hx : p.tables.exec = Jvm.exec) {pc : Nat} {L : Array Slot} {S : List Value} {k : Fin 4} {v : Int32} (hd : decode c.code pc = .ok (.istore_n k, 1)) (pc' : Nat) (hp : pc + 1 = pc') (L' : Array Slot) (hl : storeLocals L k.val (.int v) = some L') (r : Go p e below K (T.setTop (mkF m pc' L' S))) : Go p e below K (T.setTop (mkF m pc L (.int v :: S))) := by
  subst hp
  exact Go.st (fun _ => XS.istoreN X.here hx rfl hd rfl hl) r
theorem g_istore {K : State → Outcome → Prop} (X : Stand p l e R s m args below meth c T locs cells slots) (hx : p.tables.exec = Jvm.exec) {pc : Nat} {L : Array Slot} {S : List Value} {k : Nat} {v : Int32} (hd : decode c.code pc = .ok (.istore k, 2)) (pc' : Nat) (hp : pc + 2 = pc') (L' : Array Slot) (hl : storeLocals L k (.int v) = some L') (r : Go p e below K (T.setTop (mkF m pc' L' S))) : Go p e below K (T.setTop (mkF m pc L (.int v :: S))) := by
  subst hp
  exact Go.st (fun _ => XS.istore X.here hx rfl hd rfl hl) r
theorem g_astoreN {K : State → Outcome → Prop} (X : Stand p l e R s m args below meth c T locs cells slots) (hx : p.tables.exec = Jvm.exec) {pc : Nat} {L : Array Slot} {S : List Value} {k : Fin 4} {v : Value} (hd : decode c.code pc = .ok (.astore_n k, 1)) (pc' : Nat) (hp : pc + 1 = pc') (hv : v.isRef = true) (L' : Array Slot) (hl : storeLocals L k.val v = some L') (r : Go p e below K (T.setTop (mkF m pc' L' S))) : Go p e below K (T.setTop (mkF m pc L (v :: S))) := by
  subst hp
  exact Go.st (fun _ => XS.astoreN X.here hx rfl hd rfl hv hl) r
theorem g_astore {K : State → Outcome → Prop} (X : Stand p l e R s m args below meth c T locs cells slots) (hx : p.tables.exec = Jvm.exec) {pc : Nat} {L : Array Slot} {S : List Value} {k : Nat} {v : Value} (hd : decode c.code pc = .ok (.astore k, 2)) (pc' : Nat) (hp : pc + 2 = pc') (hv : v.isRef = true) (L' : Array Slot) (hl : storeLocals L k v = some L') (r : Go p e below K (T.setTop (mkF m pc' L' S))) : Go p e below K (T.setTop (mkF m pc L (v :: S))) := by
  subst hp
  exact Go.st (fun _ => XS.astore X.here hx rfl hd rfl hv hl) r
theorem g_iconst {K : State → Outcome → Prop} (X : Stand p l e R s m args below meth c T locs cells slots) (hx : p.tables.exec = Jvm.exec) {pc : Nat} {L : Array Slot} {S : List Value} {i : Int} (hd : decode c.code pc = .ok (.iconst i, 1)) (pc' : Nat) (hp : pc + 1 = pc') (z : Int32) (hz : Int32.ofInt i = z) (r : Go p e below K (T.setTop (mkF m pc' L (.int z :: S)))) : Go p e below K (T.setTop (mkF m pc L S)) := by
  subst hp; subst hz
  exact Go.st (fun _ => XS.iconst X.here hx rfl hd) r
theorem g_bipush {K : State → Outcome → Prop} (X : Stand p l e R s m args below meth c T locs cells slots) (hx : p.tables.exec = Jvm.exec) {pc : Nat} {L : Array Slot} {S : List Value} {i : Int} (hd : decode c.code pc = .ok (.bipush i, 2)) (pc' : Nat) (hp : pc + 2 = pc') (z : Int32) (hz : (Int8.ofInt i).toInt32 = z) (r : Go p e below K (T.setTop (mkF m pc' L (.int z :: S)))) : Go p e below K (T.setTop (mkF m pc L S)) := by
  subst hp; subst hz
  exact Go.st (fun _ => XS.bipush X.here hx rfl hd) r
theorem g_sipush {K : State → Outcome → Prop} (X : Stand p l e R s m args below meth c T locs cells slots) (hx : p.tables.exec = Jvm.exec) {pc : Nat} {L : Array Slot} {S : List Value} {i : Int} (hd : decode c.code pc = .ok (.sipush i, 3)) (pc' : Nat) (hp : pc + 3 = pc') (z : Int32) (hz : (Int16.ofInt i).toInt32 = z) (r : Go p e below K (T.setTop (mkF m pc' L (.int z :: S)))) : Go p e below K (T.setTop (mkF m pc L S)) := by
  subst hp; subst hz
  exact Go.st (fun _ => XS.sipush X.here hx rfl hd) r
theorem g_null {K : State → Outcome → Prop} (X : Stand p l e R s m args below meth c T locs cells slots) (hx : p.tables.exec = Jvm.exec) {pc : Nat} {L : Array Slot} {S : List Value} (hd : decode c.code pc = .ok (.aconst_null, 1)) (pc' : Nat) (hp : pc + 1 = pc') (r : Go p e below K (T.setTop (mkF m pc' L (.null :: S)))) : Go p e below K (T.setTop (mkF m pc L S)) := by
  subst hp
  exact Go.st (fun _ => XS.aconstNull X.here hx rfl hd) r
theorem g_isub {K : State → Outcome → Prop} (X : Stand p l e R s m args below meth c T locs cells slots) (hx : p.tables.exec = Jvm.exec) {pc : Nat} {L : Array Slot} {S : List Value} {x y : Int32} (hd : decode c.code pc = .ok (.isub, 1)) (pc' : Nat) (hp : pc + 1 = pc') (z : Int32) (hz : x - y = z) (r : Go p e below K (T.setTop (mkF m pc' L (.int z :: S)))) : Go p e below K (T.setTop (mkF m pc L (.int y :: .int x :: S))) := by
  subst hp; subst hz
  exact Go.st (fun _ => XS.isub X.here hx rfl hd rfl) r
theorem g_iand {K : State → Outcome → Prop} (X : Stand p l e R s m args below meth c T locs cells slots) (hx : p.tables.exec = Jvm.exec) {pc : Nat} {L : Array Slot} {S : List Value} {x y : Int32} (hd : decode c.code pc = .ok (.iand, 1)) (pc' : Nat) (hp : pc + 1 = pc') (z : Int32) (hz : x &&& y = z) (r : Go p e below K (T.setTop (mkF m pc' L (.int z :: S)))) : Go p e below K (T.setTop (mkF m pc L (.int y :: .int x :: S))) := by
  subst hp; subst hz
  exact Go.st (fun _ => XS.iand X.here hx rfl hd rfl) r
theorem g_ior {K : State → Outcome → Prop} (X : Stand p l e R s m args below meth c T locs cells slots) (hx : p.tables.exec = Jvm.exec) {pc : Nat} {L : Array Slot} {S : List Value} {x y : Int32} (hd : decode c.code pc = .ok (.ior, 1)) (pc' : Nat) (hp : pc + 1 = pc') (z : Int32) (hz : x ||| y = z) (r : Go p e below K (T.setTop (mkF m pc' L (.int z :: S)))) : Go p e below K (T.setTop (mkF m pc L (.int y :: .int x :: S))) := by
  subst hp; subst hz
  exact Go.st (fun _ => XT.ior X.here hx rfl hd rfl) r
theorem g_ishl {K : State → Outcome → Prop} (X : Stand p l e R s m args below meth c T locs cells slots) (hx : p.tables.exec = Jvm.exec) {pc : Nat} {L : Array Slot} {S : List Value} {x y : Int32} (hd : decode c.code pc = .ok (.ishl, 1)) (pc' : Nat) (hp : pc + 1 = pc') (z : Int32) (hz : x <<< (y &&& 31) = z) (r : Go p e below K (T.setTop (mkF m pc' L (.int z :: S)))) : Go p e below K (T.setTop (mkF m pc L (.int y :: .int x :: S))) := by
  subst hp; subst hz
  exact Go.st (fun _ => XT.ishl X.here hx rfl hd rfl) r
theorem g_ishr {K : State → Outcome → Prop} (X : Stand p l e R s m args below meth c T locs cells slots) (hx : p.tables.exec = Jvm.exec) {pc : Nat} {L : Array Slot} {S : List Value} {x y : Int32} (hd : decode c.code pc = .ok (.ishr, 1)) (pc' : Nat) (hp : pc + 1 = pc') (z : Int32) (hz : x >>> (y &&& 31) = z) (r : Go p e below K (T.setTop (mkF m pc' L (.int z :: S)))) : Go p e below K (T.setTop (mkF m pc L (.int y :: .int x :: S))) := by
  subst hp; subst hz
  exact Go.st (fun _ => XT.ishr X.here hx rfl hd rfl) r
theorem g_iushr {K : State → Outcome → Prop} (X : Stand p l e R s m args below meth c T locs cells slots) (hx : p.tables.exec = Jvm.exec) {pc : Nat} {L : Array Slot} {S : List Value} {x y : Int32} (hd : decode c.code pc = .ok (.iushr, 1)) (pc' : Nat) (hp : pc + 1 = pc') (z : Int32) (hz : XT.ushr x y = z) (r : Go p e below K (T.setTop (mkF m pc' L (.int z :: S)))) : Go p e below K (T.setTop (mkF m pc L (.int y :: .int x :: S))) := by
  subst hp; subst hz
  exact Go.st (fun _ => XT.iushr X.here hx rfl hd rfl) r
theorem g_irem {K : State → Outcome → Prop} (X : Stand p l e R s m args below meth c T locs cells slots) (hx : p.tables.exec = Jvm.exec) {pc : Nat} {L : Array Slot} {S : List Value} {x y : Int32} (hd : decode c.code pc = .ok (.irem, 1)) (pc' : Nat) (hp : pc + 1 = pc') (hy : y ≠ 0) (z : Int32) (hz : x % y = z) (r : Go p e below K (T.setTop (mkF m pc' L (.int z :: S)))) : Go p e below K (T.setTop (mkF m pc L (.int y :: .int x :: S))) := by
  subst hp; subst hz
  exact Go.st (fun _ => iremM X hx rfl hd rfl hy) r
theorem g_i2b {K : State → Outcome → Prop} (X : Stand p l e R s m args below meth c T locs cells slots) (hx : p.tables.exec = Jvm.exec) {pc : Nat} {L : Array Slot} {S : List Value} {x : Int32} (hd : decode c.code pc = .ok (.i2b, 1)) (pc' : Nat) (hp : pc + 1 = pc') (z : Int32) (hz : x.toInt8.toInt32 = z) (r : Go p e below K (T.setTop (mkF m pc' L (.int z :: S)))) : Go p e below K (T.setTop (mkF m pc L (.int x :: S))) := by
  subst hp; subst hz
  exact Go.st (fun _ => XT.i2b X.here hx rfl hd rfl) r
theorem g_i2c {K : State → Outcome → Prop} (X : Stand p l e R s m args below meth c T locs cells slots) (hx : p.tables.exec = Jvm.exec) {pc : Nat} {L : Array Slot} {S : List Value} {x : Int32} (hd : decode c.code pc = .ok (.i2c, 1)) (pc' : Nat) (hp : pc + 1 = pc') (z : Int32) (hz : x.toUInt32.toUInt16.toUInt32.toInt32 = z) (r : Go p e below K (T.setTop (mkF m pc' L (.int z :: S)))) : Go p e below K (T.setTop (mkF m pc L (.int x :: S))) := by
  subst hp; subst hz
  exact Go.st (fun _ => XT.i2c X.here hx rfl hd rfl) r
theorem g_iinc {K : State → Outcome → Prop} (X : Stand p l e R s m args below meth c T locs cells slots) (hx : p.tables.exec = Jvm.exec) {pc : Nat} {L : Array Slot} {S : List Value} {k : Nat} {i : Int} {x : Int32} (hd : decode c.code pc = .ok (.iinc k i, 3)) (pc' : Nat) (hp : pc + 3 = pc') (hl : L[k]? = some (.val (.int x))) (z : Int32) (hz : x + Int32.ofInt i = z) (L' : Array Slot) (hl' : storeLocals L k (.int z) = some L') (r : Go p e below K (T.setTop (mkF m pc' L' S))) : Go p e below K (T.setTop (mkF m pc L S)) := by
  subst hp; subst hz
  exact Go.st (fun _ => XS.iinc X.here hx rfl hd hl hl') r
theorem g_dup {K : State → Outcome → Prop} (X : Stand p l e R s m args below meth c T locs cells slots) (hx : p.tables.exec = Jvm.exec) {pc : Nat} {L : Array Slot} {S : List Value} {x : Value} (hd : decode c.code pc = .ok (.dup, 1)) (pc' : Nat) (hp : pc + 1 = pc') (hc : x.category = 1) (r : Go p e below K (T.setTop (mkF m pc' L (x :: x :: S)))) : Go p e below K (T.setTop (mkF m pc L (x :: S))) := by
  subst hp
  exact Go.st (fun _ => XS.dup X.here hx rfl hd rfl hc) r
theorem g_pop {K : State → Outcome → Prop} (X : Stand p l e R s m args below meth c T locs cells slots) (hx : p.tables.exec = Jvm.exec) {pc : Nat} {L : Array Slot} {S : List Value} {x : Value} (hd : decode c.code pc = .ok (.pop, 1)) (pc' : Nat) (hp : pc + 1 = pc') (hc : x.category = 1) (r : Go p e below K (T.setTop (mkF m pc' L S))) : Go p e below K (T.setTop (mkF m pc L (x :: S))) := by
  subst hp
  exact Go.st (fun _ => XT.pop X.here hx rfl hd rfl hc) r
theorem g_goto {K : State → Outcome → Prop} (X : Stand p l e R s m args below meth c T locs cells slots) (hx : p.tables.exec = Jvm.exec) {pc : Nat} {L : Array Slot} {S : List Value} {o : Int} (hd : decode c.code pc = .ok (.goto o, 3)) (pc' : Nat) (h0 : 0 ≤ (pc : Int) + o) (hp : ((pc : Int) + o).toNat = pc') (r : Go p e below K (T.setTop (mkF m pc' L S))) : Go p e below K (T.setTop (mkF m pc L S)) :=
  Go.st (fun _ => XS.goto X.here hx rfl (pc0 := pc) rfl hd h0 hp) r
theorem g_icmp {K : State → Outcome → Prop} (X : Stand p l e R s m args below meth c T locs cells slots) (hx : p.tables.exec = Jvm.exec) {pc : Nat} {L : Array Slot} {S : List Value} {cd : ClassFile.Cond} {o : Int} {x y : Int32} (hd : decode c.code pc = .ok (.if_icmp cd o, 3)) (pc1 pc2 : Nat) (h0 : 0 ≤ (pc : Int) + o) (h1 : ((pc : Int) + o).toNat = pc1) (h2 : pc + 3 = pc2) (yes : if_icmp.holds cd x y = true → Go p e below K (T.setTop (mkF m pc1 L S))) (no : if_icmp.holds cd x y = false → Go p e below K (T.setTop (mkF m pc2 L S))) : Go p e below K (T.setTop (mkF m pc L (.int y :: .int x :: S))) := by
  subst h2
  cases hc : if_icmp.holds cd x y with
  | true => exact Go.st (fun _ => XS.icmpYes X.here hx rfl (pc0 := pc) rfl hd rfl hc h0 h1) (yes hc)
  | false => exact Go.st (fun _ => XS.icmpNo X.here hx rfl hd rfl hc) (no hc)
theorem g_if {K : State → Outcome → Prop} (X : Stand p l e R s m args below meth c T locs cells slots) (hx : p.tables.exec = Jvm.exec) {pc : Nat} {L : Array Slot} {S : List Value} {cd : ClassFile.Cond} {o : Int} {x : Int32} (hd : decode c.code pc = .ok (.ifCond cd o, 3)) (pc1 pc2 : Nat) (h0 : 0 ≤ (pc : Int) + o) (h1 : ((pc : Int) + o).toNat = pc1) (h2 : pc + 3 = pc2) (yes : if_icmp.holds cd x 0 = true → Go p e below K (T.setTop (mkF m pc1 L S))) (no : if_icmp.holds cd x 0 = false → Go p e below K (T.setTop (mkF m pc2 L S))) : Go p e below K (T.setTop (mkF m pc L (.int x :: S))) := by
  subst h2
  cases hc : if_icmp.holds cd x 0 with
  | true => exact Go.st (fun _ => XS.ifYes X.here hx rfl (pc0 := pc) rfl hd rfl ((if0 cd x).trans hc) h0 h1) (yes hc)
  | false => exact Go.st (fun _ => XS.ifNo X.here hx rfl hd rfl ((if0 cd x).trans hc)) (no hc)
theorem g_icmp_eq {K : State → Outcome → Prop} (X : Stand p l e R s m args below meth c T locs cells slots) (hx : p.tables.exec = Jvm.exec) {pc : Nat} {L : Array Slot} {S : List Value} {o : Int} {x y : Int32} (hd : decode c.code pc = .ok (.if_icmp .eq o, 3)) (pc1 pc2 : Nat) (h0 : 0 ≤ (pc : Int) + o) (h1 : ((pc : Int) + o).toNat = pc1) (h2 : pc + 3 = pc2) (yes : x = y → Go p e below K (T.setTop (mkF m pc1 L S))) (no : ¬ x = y → Go p e below K (T.setTop (mkF m pc2 L S))) : Go p e below K (T.setTop (mkF m pc L (.int y :: .int x :: S))) := by
  refine g_icmp X hx hd pc1 pc2 h0 h1 h2 (fun hc => ?_) (fun hc => ?_)
  · by_cases q : x = y
    · exact yes q
    · rw [(feq q).1] at hc; cases hc
  · by_cases q : x = y
    · rw [(teq q).1] at hc; cases hc
    · exact no q
theorem g_if_eq {K : State → Outcome → Prop} (X : Stand p l e R s m args below meth c T locs cells slots) (hx : p.tables.exec = Jvm.exec) {pc : Nat} {L : Array Slot} {S : List Value} {o : Int} {x : Int32} (hd : decode c.code pc = .ok (.ifCond .eq o, 3)) (pc1 pc2 : Nat) (h0 : 0 ≤ (pc : Int) + o) (h1 : ((pc : Int) + o).toNat = pc1) (h2 : pc + 3 = pc2) (yes : x = (0 : Int32) → Go p e below K (T.setTop (mkF m pc1 L S))) (no : ¬ x = (0 : Int32) → Go p e below K (T.setTop (mkF m pc2 L S))) : Go p e below K (T.setTop (mkF m pc L (.int x :: S))) := by
  refine g_if X hx hd pc1 pc2 h0 h1 h2 (fun hc => ?_) (fun hc => ?_)
  · by_cases q : x = (0 : Int32)
    · exact yes q
    · rw [(feq q).1] at hc; cases hc
  · by_cases q : x = (0 : Int32)
    · rw [(teq q).1] at hc; cases hc
    · exact no q
theorem g_icmp_ne {K : State → Outcome → Prop} (X : Stand p l e R s m args below meth c T locs cells slots) (hx : p.tables.exec = Jvm.exec) {pc : Nat} {L : Array Slot} {S : List Value} {o : Int} {x y : Int32} (hd : decode c.code pc = .ok (.if_icmp .ne o, 3)) (pc1 pc2 : Nat) (h0 : 0 ≤ (pc : Int) + o) (h1 : ((pc : Int) + o).toNat = pc1) (h2 : pc + 3 = pc2) (yes : ¬ x = y → Go p e below K (T.setTop (mkF m pc1 L S))) (no : x = y → Go p e below K (T.setTop (mkF m pc2 L S))) : Go p e below K (T.setTop (mkF m pc L (.int y :: .int x :: S))) := by
  refine g_icmp X hx hd pc1 pc2 h0 h1 h2 (fun hc => ?_) (fun hc => ?_)
  · by_cases q : x = y
    · rw [(teq q).2] at hc; cases hc
    · exact yes q
  · by_cases q : x = y
    · exact no q
    · rw [(feq q).2] at hc; cases hc
theorem g_if_ne {K : State → Outcome → Prop} (X : Stand p l e R s m args below meth c T locs cells slots) (hx : p.tables.exec = Jvm.exec) {pc : Nat} {L : Array Slot} {S : List Value} {o : Int} {x : Int32} (hd : decode c.code pc = .ok (.ifCond .ne o, 3)) (pc1 pc2 : Nat) (h0 : 0 ≤ (pc : Int) + o) (h1 : ((pc : Int) + o).toNat = pc1) (h2 : pc + 3 = pc2) (yes : ¬ x = (0 : Int32) → Go p e below K (T.setTop (mkF m pc1 L S))) (no : x = (0 : Int32) → Go p e below K (T.setTop (mkF m pc2 L S))) : Go p e below K (T.setTop (mkF m pc L (.int x :: S))) := by
  refine g_if X hx hd pc1 pc2 h0 h1 h2 (fun hc => ?_) (fun hc => ?_)
  · by_cases q : x = (0 : Int32)
    · rw [(teq q).2] at hc; cases hc
    · exact yes q
  · by_cases q : x = (0 : Int32)
    · exact no q
    · rw [(feq q).2] at hc; cases hc
theorem g_icmp_lt {K : State → Outcome → Prop} (X : Stand p l e R s m args below meth c T locs cells slots) (hx : p.tables.exec = Jvm.exec) {pc : Nat} {L : Array Slot} {S : List Value} {o : Int} {x y : Int32} (hd : decode c.code pc = .ok (.if_icmp .lt o, 3)) (pc1 pc2 : Nat) (h0 : 0 ≤ (pc : Int) + o) (h1 : ((pc : Int) + o).toNat = pc1) (h2 : pc + 3 = pc2) (yes : x < y → Go p e below K (T.setTop (mkF m pc1 L S))) (no : ¬ x < y → Go p e below K (T.setTop (mkF m pc2 L S))) : Go p e below K (T.setTop (mkF m pc L (.int y :: .int x :: S))) := by
  refine g_icmp X hx hd pc1 pc2 h0 h1 h2 (fun hc => ?_) (fun hc => ?_)
  · by_cases q : x < y
    · exact yes q
    · rw [(flt q).1] at hc; cases hc
  · by_cases q : x < y
    · rw [(tlt q).1] at hc; cases hc
    · exact no q
theorem g_if_lt {K : State → Outcome → Prop} (X : Stand p l e R s m args below meth c T locs cells slots) (hx : p.tables.exec = Jvm.exec) {pc : Nat} {L : Array Slot} {S : List Value} {o : Int} {x : Int32} (hd : decode c.code pc = .ok (.ifCond .lt o, 3)) (pc1 pc2 : Nat) (h0 : 0 ≤ (pc : Int) + o) (h1 : ((pc : Int) + o).toNat = pc1) (h2 : pc + 3 = pc2) (yes : x < (0 : Int32) → Go p e below K (T.setTop (mkF m pc1 L S))) (no : ¬ x < (0 : Int32) → Go p e below K (T.setTop (mkF m pc2 L S))) : Go p e below K (T.setTop (mkF m pc L (.int x :: S))) := by
  refine g_if X hx hd pc1 pc2 h0 h1 h2 (fun hc => ?_) (fun hc => ?_)
  · by_cases q : x < (0 : Int32)
    · exact yes q
    · rw [(flt q).1] at hc; cases hc
  · by_cases q : x < (0 : Int32)
    · rw [(tlt q).1] at hc; cases hc
    · exact no q
theorem g_icmp_ge {K : State → Outcome → Prop} (X : Stand p l e R s m args below meth c T locs cells slots) (hx : p.tables.exec = Jvm.exec) {pc : Nat} {L : Array Slot} {S : List Value} {o : Int} {x y : Int32} (hd : decode c.code pc = .ok (.if_icmp .ge o, 3)) (pc1 pc2 : Nat) (h0 : 0 ≤ (pc : Int) + o) (h1 : ((pc : Int) + o).toNat = pc1) (h2 : pc + 3 = pc2) (yes : ¬ x < y → Go p e below K (T.setTop (mkF m pc1 L S))) (no : x < y → Go p e below K (T.setTop (mkF m pc2 L S))) : Go p e below K (T.setTop (mkF m pc L (.int y :: .int x :: S))) := by
  refine g_icmp X hx hd pc1 pc2 h0 h1 h2 (fun hc => ?_) (fun hc => ?_)
  · by_cases q : x < y
    · rw [(tlt q).2.1] at hc; cases hc
    · exact yes q
  · by_cases q : x < y
    · exact no q
    · rw [(flt q).2.1] at hc; cases hc
theorem g_if_ge {K : State → Outcome → Prop} (X : Stand p l e R s m args below meth c T locs cells slots) (hx : p.tables.exec = Jvm.exec) {pc : Nat} {L : Array Slot} {S : List Value} {o : Int} {x : Int32} (hd : decode c.code pc = .ok (.ifCond .ge o, 3)) (pc1 pc2 : Nat) (h0 : 0 ≤ (pc : Int) + o) (h1 : ((pc : Int) + o).toNat = pc1) (h2 : pc + 3 = pc2) (yes : ¬ x < (0 : Int32) → Go p e below K (T.setTop (mkF m pc1 L S))) (no : x < (0 : Int32) → Go p e below K (T.setTop (mkF m pc2 L S))) : Go p e below K (T.setTop (mkF m pc L (.int x :: S))) := by
  refine g_if X hx hd pc1 pc2 h0 h1 h2 (fun hc => ?_) (fun hc => ?_)
  · by_cases q : x < (0 : Int32)
    · rw [(tlt q).2.1] at hc; cases hc
    · exact yes q
  · by_cases q : x < (0 : Int32)
    · exact no q
    · rw [(flt q).2.1] at hc; cases hc
theorem g_icmp_gt {K : State → Outcome → Prop} (X : Stand p l e R s m args below meth c T locs cells slots) (hx : p.tables.exec = Jvm.exec) {pc : Nat} {L : Array Slot} {S : List Value} {o : Int} {x y : Int32} (hd : decode c.code pc = .ok (.if_icmp .gt o, 3)) (pc1 pc2 : Nat) (h0 : 0 ≤ (pc : Int) + o) (h1 : ((pc : Int) + o).toNat = pc1) (h2 : pc + 3 = pc2) (yes : y < x → Go p e below K (T.setTop (mkF m pc1 L S))) (no : ¬ y < x → Go p e below K (T.setTop (mkF m pc2 L S))) : Go p e below K (T.setTop (mkF m pc L (.int y :: .int x :: S))) := by
  refine g_icmp X hx hd pc1 pc2 h0 h1 h2 (fun hc => ?_) (fun hc => ?_)
  · by_cases q : y < x
    · exact yes q
    · rw [(flt q).2.2.1] at hc; cases hc
  · by_cases q : y < x
    · rw [(tlt q).2.2.1] at hc; cases hc
    · exact no q
theorem g_icmp_le {K : State → Outcome → Prop} (X : Stand p l e R s m args below meth c T locs cells slots) (hx : p.tables.exec = Jvm.exec) {pc : Nat} {L : Array Slot} {S : List Value} {o : Int} {x y : Int32} (hd : decode c.code pc = .ok (.if_icmp .le o, 3)) (pc1 pc2 : Nat) (h0 : 0 ≤ (pc : Int) + o) (h1 : ((pc : Int) + o).toNat = pc1) (h2 : pc + 3 = pc2) (yes : ¬ y < x → Go p e below K (T.setTop (mkF m pc1 L S))) (no : y < x → Go p e below K (T.setTop (mkF m pc2 L S))) : Go p e below K (T.setTop (mkF m pc L (.int y :: .int x :: S))) := by
  refine g_icmp X hx hd pc1 pc2 h0 h1 h2 (fun hc => ?_) (fun hc => ?_)
  · by_cases q : y < x
    · rw [(tlt q).2.2.2] at hc; cases hc
    · exact yes q
  · by_cases q : y < x
    · exact no q
    · rw [(flt q).2.2.2] at hc; cases hc
theorem g_if_le {K : State → Outcome → Prop} (X : Stand p l e R s m args below meth c T locs cells slots) (hx : p.tables.exec = Jvm.exec) {pc : Nat} {L : Array Slot} {S : List Value} {o : Int} {x : Int32} (hd : decode c.code pc = .ok (.ifCond .le o, 3)) (pc1 pc2 : Nat) (h0 : 0 ≤ (pc : Int) + o) (h1 : ((pc : Int) + o).toNat = pc1) (h2 : pc + 3 = pc2) (yes : ¬ (0 : Int32) < x → Go p e below K (T.setTop (mkF m pc1 L S))) (no : (0 : Int32) < x → Go p e below K (T.setTop (mkF m pc2 L S))) : Go p e below K (T.setTop (mkF m pc L (.int x :: S))) := by
  refine g_if X hx hd pc1 pc2 h0 h1 h2 (fun hc => ?_) (fun hc => ?_)
  · by_cases q : (0 : Int32) < x
    · rw [(tlt q).2.2.2] at hc; cases hc
    · exact yes q
  · by_cases q : (0 : Int32) < x
    · exact no q
    · rw [(flt q).2.2.2] at hc; cases hc
theorem g_alen {K : State → Outcome → Prop} {Z : State} {h : Heap} {a : Addr} {k : ClassId} {ty : FieldType} {z : Int32} {vs : List Value} {dv : Value} (X : Stand p l e R s m args below meth c T locs cells slots) (hx : p.tables.exec = Jvm.exec) {pc : Nat} {L : Array Slot} {S : List Value} (hd : decode c.code pc = .ok (.arraylength, 1)) (pc' : Nat) (hp : pc + 1 = pc') (hZ : Z.Warmed39 s.vm) (eT : T.heap = h) (F : Arv Z h a k ty z vs dv) (r : Go p e below K (T.setTop (mkF m pc' L (.int z :: S)))) : Go p e below K (T.setTop (mkF m pc L (.ref a :: S))) := by
  subst hp
  obtain ⟨cl, A, r1, r2, r3, Hh, Gg⟩ := F
  refine Go.st (X.arraylength hx (by rw [eT]; exact A.1) (State.isArrayOf_alike hZ.alike A.2.1) (g := mkF m pc L (.ref a :: S)) rfl rfl hd) ?_
  rw [len_of r2 r3]
  exact r
theorem g_baload {K : State → Outcome → Prop} {Z : State} {h : Heap} {a : Addr} {k : ClassId} {z : Int32} {vs : List Value} {dv : Value} (X : Stand p l e R s m args below meth c T locs cells slots) (hx : p.tables.exec = Jvm.exec) {pc : Nat} {L : Array Slot} {S : List Value} {j : Int32} (hd : decode c.code pc = .ok (.baload, 1)) (pc' : Nat) (hp : pc + 1 = pc') (hZ : Z.Warmed39 s.vm) (eT : T.heap = h) (F : Arv Z h a k .byte z vs dv) (q : ¬ j < 0 ∧ j < z) (v : Value) (u : vs.getD j.toNatClampNeg dv = v) (r : Go p e below K (T.setTop (mkF m pc' L (v :: S)))) : Go p e below K (T.setTop (mkF m pc L (.int j :: .ref a :: S))) := by
  subst hp
  obtain ⟨cl, A, r1, r2, r3, Hh, Gg⟩ := F
  exact Go.st (X.baloadBytes hx (by rw [eT]; exact A.1) (State.isArrayOf_alike hZ.alike A.2.1) A.2.2 (inb_of r2 q) (Hh.at (inb_of r2 q) u) (g := mkF m pc L (.int j :: .ref a :: S)) rfl rfl hd) r
theorem g_caload {K : State → Outcome → Prop} {Z : State} {h : Heap} {a : Addr} {k : ClassId} {z : Int32} {vs : List Value} {dv : Value} (X : Stand p l e R s m args below meth c T locs cells slots) (hx : p.tables.exec = Jvm.exec) {pc : Nat} {L : Array Slot} {S : List Value} {j : Int32} (hd : decode c.code pc = .ok (.caload, 1)) (pc' : Nat) (hp : pc + 1 = pc') (hZ : Z.Warmed39 s.vm) (eT : T.heap = h) (F : Arv Z h a k .char z vs dv) (q : ¬ j < 0 ∧ j < z) (v : Value) (u : vs.getD j.toNatClampNeg dv = v) (r : Go p e below K (T.setTop (mkF m pc' L (v :: S)))) : Go p e below K (T.setTop (mkF m pc L (.int j :: .ref a :: S))) := by
  subst hp
  obtain ⟨cl, A, r1, r2, r3, Hh, Gg⟩ := F
  exact Go.st (X.caload hx (by rw [eT]; exact A.1) (State.isArrayOf_alike hZ.alike A.2.1) A.2.2 (inb_of r2 q) (Hh.at (inb_of r2 q) u) (g := mkF m pc L (.int j :: .ref a :: S)) rfl rfl hd) r
theorem g_bastore {Z : State} {h : Heap} {a : Addr} {k : ClassId} {z : Int32} {vs : List Value} {dv : Value} (X : Stand p l e R s m args below meth c T locs cells slots) (hx : p.tables.exec = Jvm.exec) {pc : Nat} {L : Array Slot} {S : List Value} {j : Int32} {x : Int32} (hd : decode c.code pc = .ok (.bastore, 1)) (hZ : Z.Warmed39 s.vm) (eT : T.heap = h) (F : Arv Z h a k .byte z vs dv) (q : ¬ j < 0 ∧ j < z) {i : Nat} (hj : j.toNatClampNeg = i) (hi : i < vs.length) :
    ∃ T' h', Stand p l e R s m args below meth c T' (locs ++ [⟨a, j.toNatClampNeg⟩]) cells slots ∧ T'.heap = h' ∧ Wr h h' a j.toNatClampNeg (.int (nar .byte x)) ∧ Arv Z h' a k .byte z (vs.set i (.int (nar .byte x))) dv ∧ ∀ target, Steps p.tables e below (T'.setTop (mkF m (pc + 1) L S)) target → Steps p.tables e below (T.setTop (mkF m pc L (.int x :: .int j :: .ref a :: S))) target := by
  obtain ⟨cl, A, r1, r2, r3, Hh, Gg⟩ := F
  obtain ⟨T', h', X', e', W', st⟩ := stB X hx hZ eT A (inb_of r2 q) (g := mkF m pc L (.int x :: .int j :: .ref a :: S)) rfl rfl hd
  exact ⟨T', h', X', e', W', Arv.set A r1 r2 r3 Hh Gg (own_fits_nar .byte x (by simp)) W' i hj hi, st⟩
theorem g_castore {Z : State} {h : Heap} {a : Addr} {k : ClassId} {z : Int32} {vs : List Value} {dv : Value} (X : Stand p l e R s m args below meth c T locs cells slots) (hx : p.tables.exec = Jvm.exec) {pc : Nat} {L : Array Slot} {S : List Value} {j : Int32} {x : Int32} (hd : decode c.code pc = .ok (.castore, 1)) (hZ : Z.Warmed39 s.vm) (eT : T.heap = h) (F : Arv Z h a k .char z vs dv) (q : ¬ j < 0 ∧ j < z) {i : Nat} (hj : j.toNatClampNeg = i) (hi : i < vs.length) :
    ∃ T' h', Stand p l e R s m args below meth c T' (locs ++ [⟨a, j.toNatClampNeg⟩]) cells slots ∧ T'.heap = h' ∧ Wr h h' a j.toNatClampNeg (.int (nar .char x)) ∧ Arv Z h' a k .char z (vs.set i (.int (nar .char x))) dv ∧ ∀ target, Steps p.tables e below (T'.setTop (mkF m (pc + 1) L S)) target → Steps p.tables e below (T.setTop (mkF m pc L (.int x :: .int j :: .ref a :: S))) target := by
  obtain ⟨cl, A, r1, r2, r3, Hh, Gg⟩ := F
  obtain ⟨T', h', X', e', W', st⟩ := stC X hx hZ eT A (inb_of r2 q) (g := mkF m pc L (.int x :: .int j :: .ref a :: S)) rfl rfl hd
  exact ⟨T', h', X', e', W', Arv.set A r1 r2 r3 Hh Gg (own_fits_nar .char x (by simp)) W' i hj hi, st⟩
end Layer
theorem own_i2b (x : Int32) : nar .byte x.toInt8.toInt32 = x.toInt8.toInt32 := by
  show x.toInt8.toInt32.toInt8.toInt32 = x.toInt8.toInt32
  rw [Int8.toInt8_toInt32]
theorem own_ch (x : Int32) : ¬ (255 : Int32) < (x &&& (255 : Int32)).toUInt32.toUInt16.toUInt32.toInt32 := by
  have h1 := c_and x (255 : Int32) (by decide)
  have h2 := c_i2c (x &&& (255 : Int32))
  have e1 : (255 : Int32).toInt = 255 := by decide
  rw [Int32.lt_iff_toInt_lt, e1]
  omega
theorem own_nc2 {x y : Int32} (e : y.toUInt32.toUInt16.toUInt32.toInt32 = x) : nar .char x = x := by
  subst e
  show y.toUInt32.toUInt16.toUInt32.toInt32.toUInt32.toUInt16.toUInt32.toInt32 = y.toUInt32.toUInt16.toUInt32.toInt32
  have h1 := c_i2c y
  have h2 := c_i2c y.toUInt32.toUInt16.toUInt32.toInt32
  rw [← Int32.toInt_inj]
  omega
theorem own_ofNat {n : Nat} (h : n < 2147483648) : (Int32.ofNat n).toInt = n := Int32.toInt_ofNat_small h
theorem own_clamp (x : Int32) (h : 0 ≤ x.toInt) : (x.toNatClampNeg : Int) = x.toInt := by
  show ((x.toInt).toNat : Int) = x.toInt
  omega
theorem own_cl {n : Nat} (h : n < 2147483648) : (Int32.ofNat n).toNatClampNeg = n := by
  have h1 := own_ofNat h
  have h2 := own_clamp (Int32.ofNat n) (by omega)
  omega
theorem own_in {j N : Nat} (hN : N < 2147483648) (h : j < N) : ¬ Int32.ofNat j < 0 ∧ Int32.ofNat j < Int32.ofNat N := by
  rw [Int32.lt_iff_toInt_lt, Int32.lt_iff_toInt_lt, own_ofNat hN, own_ofNat (by omega)]
  have e0 : (0 : Int32).toInt = 0 := by decide
  omega
theorem own_lt {j N : Nat} (hj : j < 2147483648) (hN : N < 2147483648) (h : Int32.ofNat j < Int32.ofNat N) : j < N := by
  rw [Int32.lt_iff_toInt_lt, own_ofNat hN, own_ofNat hj] at h
  omega
theorem own_eqn {i j : Nat} (hi : i < 2147483648) (hj : j < 2147483648) (h : Int32.ofNat i = Int32.ofNat j) : i = j := by
  rw [← Int32.toInt_inj, own_ofNat hi, own_ofNat hj] at h
  omega
theorem own_up (N : Nat) : Int32.ofNat N + (1 : Int32) = Int32.ofNat (N + 1) := (Int32.ofNat_add N 1).symm
theorem own_mapget (u : List Int32) {i : Nat} (h : i < u.length) : (u.map Value.int).getD i (.int (0 : Int32)) = .int (u.getD i 0) := by
  simp [List.getD, h]
theorem own_nextp {Q : Nat → Prop} {i : Nat} (hj : ∀ j, j < i → Q j) (h : Q i) : ∀ j, j < i + 1 → Q j := fun j q => by
  rcases Nat.lt_or_ge j i with z | z
  · exact hj j z
  · have : j = i := by omega
    rw [this]; exact h
theorem own_gm (u : List Int32) {i : Nat} (h : i < u.length) : u.getD i 0 ∈ u := by
  have : u.getD i 0 = u[i] := by simp [List.getD, h]
  rw [this]; exact List.getElem_mem h
theorem own_allj {Q : Int32 → Prop} {u : List Int32} (h : ∀ j, j < u.length → Q (u.getD j 0)) : ∀ x ∈ u, Q x := fun x hx => by
  obtain ⟨j, hj, rfl⟩ := List.getElem_of_mem hx
  have := h j hj
  simpa [List.getD, hj] using this
def own_C (x : Int32) : Prop := 0 ≤ x.toInt ∧ x.toInt ≤ 65535
theorem own_nC {x : Int32} (h : own_C x) : nar .char x = x := by
  show x.toUInt32.toUInt16.toUInt32.toInt32 = x
  have h2 := c_i2c x
  unfold own_C at h
  rw [← Int32.toInt_inj]
  omega
theorem own_Ci (y : Int32) : own_C y.toUInt32.toUInt16.toUInt32.toInt32 := by
  have h2 := c_i2c y
  unfold own_C
  omega
theorem own_C0 {x : Int32} (h : own_C x) : ¬ x < 0 := by
  rw [Int32.lt_iff_toInt_lt]
  have e0 : (0 : Int32).toInt = 0 := by decide
  unfold own_C at h
  omega
theorem own_C9 {x : Int32} (h : ¬ (255 : Int32) < x) : x < (65536 : Int32) := by
  rw [Int32.lt_iff_toInt_lt] at h ⊢
  have e0 : (255 : Int32).toInt = 255 := by decide
  have e1 : (65536 : Int32).toInt = 65536 := by decide
  omega
def own_lo (x : Int32) : Int32 := (x >>> ((0 : Int32) &&& 31)).toInt8.toInt32
def own_hi (x : Int32) : Int32 := (x >>> ((8 : Int32) &&& 31)).toInt8.toInt32
def own_bs (us : List Int32) : List Value := us.map fun x => Value.int x.toInt8.toInt32
def own_ub : List Int32 → List Value
  | [] => []
  | x :: us => Value.int (own_lo x) :: Value.int (own_hi x) :: own_ub us
def own_cv (us : List Int32) (i : Nat) : List Value := own_bs (us.take i) ++ List.replicate (us.length - i) (.int (0 : Int32))
def own_uv (us : List Int32) (i : Nat) : List Value := own_ub (us.take i) ++ List.replicate (2 * us.length - 2 * i) (.int (0 : Int32))
theorem own_b8 {x y : Int32} (hx : own_C x) (hl : ¬ (255 : Int32) < x) (hy : own_C y) (hm : ¬ (255 : Int32) < y) (h : x.toInt8.toInt32 = y.toInt8.toInt32) : x = y := by
  unfold own_C at hx hy
  have e1 : (255 : Int32).toInt = 255 := by decide
  rw [Int32.lt_iff_toInt_lt, e1] at hl hm
  have h1 := c_i2b x
  have h2 := c_i2b y
  rw [h] at h1
  rw [← Int32.toInt_inj]
  omega
theorem own_gc {x : Int32} (h : own_C x) : nar .char (((own_lo x &&& (255 : Int32)) <<< ((0 : Int32) &&& 31)) ||| ((own_hi x &&& (255 : Int32)) <<< ((8 : Int32) &&& 31))).toUInt32.toUInt16.toUInt32.toInt32 = x := by
  unfold own_C at h
  obtain ⟨a, ha⟩ : ∃ a, a = (own_lo x &&& (255 : Int32)) <<< ((0 : Int32) &&& 31) := ⟨_, rfl⟩
  obtain ⟨b, hb⟩ : ∃ b, b = (own_hi x &&& (255 : Int32)) <<< ((8 : Int32) &&& 31) := ⟨_, rfl⟩
  rw [← ha, ← hb]
  have a1 := c_ishr x (0 : Int32) 0 (by decide)
  have a2 := c_i2b (x >>> ((0 : Int32) &&& 31))
  have a3 := c_mask (own_lo x) (255 : Int32) 8 (by decide) (by decide)
  have a4 := c_ishl (own_lo x &&& (255 : Int32)) (0 : Int32) 0 (by decide)
  have b1 := c_ishr x (8 : Int32) 8 (by decide)
  have b2 := c_i2b (x >>> ((8 : Int32) &&& 31))
  have b3 := c_mask (own_hi x) (255 : Int32) 8 (by decide) (by decide)
  have b4 := c_ishl (own_hi x &&& (255 : Int32)) (8 : Int32) 8 (by decide)
  rw [← ha] at a4
  rw [← hb] at b4
  rw [show (x >>> ((0 : Int32) &&& 31)).toInt8.toInt32 = own_lo x from rfl] at a2
  rw [show (x >>> ((8 : Int32) &&& 31)).toInt8.toInt32 = own_hi x from rfl] at b2
  have ra := rng32 a
  have rb := rng32 b
  have o := c_or b a 8 (by decide) 256 rfl
  rw [Int32.or_comm b a] at o
  have ro := rng32 (a ||| b)
  show (a ||| b).toUInt32.toUInt16.toUInt32.toInt32.toUInt32.toUInt16.toUInt32.toInt32 = x
  have c1 := c_i2c (a ||| b)
  have c2 := c_i2c (a ||| b).toUInt32.toUInt16.toUInt32.toInt32
  rw [← Int32.toInt_inj]
  omega
def own_ok (x : Int32) : Prop := ¬ x = 32 ∧ ¬ x = 10 ∧ ¬ x = 13
theorem own_bb {r e : Int32} {A : Prop} (h1 : r = 0 ∨ r = 1) (h2 : e = 0 ∨ e = 1) (h3 : r = 1 ↔ A) (h4 : e = 1 ↔ A) : r = e := by
  rcases h1 with rfl | rfl <;> rcases h2 with rfl | rfl
  · rfl
  · exact absurd (h3.mpr (h4.mp rfl)) (by decide)
  · exact absurd (h4.mpr (h3.mp rfl)) (by decide)
  · rfl
theorem own_n5 (x : Int32) : 0 ≤ ((x &&& (2147483647 : Int32)) % (5 : Int32)).toInt ∧ ((x &&& (2147483647 : Int32)) % (5 : Int32)).toInt ≤ 4 := by
  have h1 := (c_and x (2147483647 : Int32) (by decide)).1
  have h2 := (c_irem (x &&& (2147483647 : Int32)) (5 : Int32) 5 (by decide)).1 h1
  rw [h2]
  omega
theorem own_n4 {n : Int32} (h : 0 ≤ n.toInt ∧ n.toInt ≤ 4) (h0 : ¬ n = 0) (h1 : ¬ n = 1) (h2 : ¬ n = 2) (h3 : ¬ n = 3) : n = 4 := by
  have f : ∀ k : Int32, ¬ n = k → ¬ n.toInt = k.toInt := fun k q z => q (Int32.toInt_inj.mp z)
  have f0 := f 0 h0
  have f1 := f 1 h1
  have f2 := f 2 h2
  have f3 := f 3 h3
  have e0 : (0 : Int32).toInt = 0 := by decide
  have e1 : (1 : Int32).toInt = 1 := by decide
  have e2 : (2 : Int32).toInt = 2 := by decide
  have e3 : (3 : Int32).toInt = 3 := by decide
  have e4 : (4 : Int32).toInt = 4 := by decide
  rw [← Int32.toInt_inj]
  omega
theorem own_cvlen {us : List Int32} {i : Nat} (h : i ≤ us.length) : (own_cv us i).length = us.length := by
  simp [own_cv, own_bs]
  omega
theorem own_cvset {us : List Int32} {i : Nat} (h : i < us.length) : (own_cv us i).set i (.int (us.getD i 0).toInt8.toInt32) = own_cv us (i + 1) := by
  have e1 : us.length - i = (us.length - (i + 1)) + 1 := by omega
  have e2 : us.take (i + 1) = us.take i ++ [us.getD i 0] := by
    rw [List.take_add_one]
    simp [List.getD, h]
  have e3 : (own_bs (us.take i)).length = i := by simp [own_bs]; omega
  unfold own_cv
  rw [e1, List.replicate_succ, List.set_append_right _ _ (by omega), e3, Nat.sub_self, List.set_cons_zero, e2]
  simp [own_bs]
theorem own_cvfull (us : List Int32) : own_cv us us.length = own_bs us := by
  simp [own_cv]
theorem own_ublen : ∀ us : List Int32, (own_ub us).length = 2 * us.length
  | [] => rfl
  | x :: us => by
    rw [own_ub, List.length_cons, List.length_cons, own_ublen us, List.length_cons]
    omega
theorem own_ubapp : ∀ (us vs : List Int32), own_ub (us ++ vs) = own_ub us ++ own_ub vs
  | [], vs => rfl
  | x :: us, vs => by rw [List.cons_append, own_ub, own_ubapp us vs]; rfl
theorem own_uvlen {us : List Int32} {i : Nat} (h : i ≤ us.length) : (own_uv us i).length = 2 * us.length := by
  rw [own_uv, List.length_append, own_ublen, List.length_replicate, List.length_take]
  omega
theorem own_uvset {us : List Int32} {i : Nat} (h : i < us.length) : ((own_uv us i).set (2 * i) (.int (own_lo (us.getD i 0)))).set (2 * i + 1) (.int (own_hi (us.getD i 0))) = own_uv us (i + 1) := by
  have e1 : 2 * us.length - 2 * i = (2 * us.length - 2 * (i + 1)) + 1 + 1 := by omega
  have e2 : us.take (i + 1) = us.take i ++ [us.getD i 0] := by
    rw [List.take_add_one]
    simp [List.getD, h]
  have e3 : (own_ub (us.take i)).length = 2 * i := by rw [own_ublen, List.length_take]; omega
  have e4 : 2 * i + 1 - 2 * i = 1 := by omega
  unfold own_uv
  rw [e1, List.replicate_succ, List.replicate_succ, List.set_append_right _ _ (by omega), e3, Nat.sub_self, List.set_cons_zero, List.set_append_right _ _ (by omega), e3, e4, List.set_cons_succ, List.set_cons_zero, e2, own_ubapp]
  simp [own_ub]
theorem own_uvfull (us : List Int32) : own_uv us us.length = own_ub us := by
  simp [own_uv]
theorem own_bsget (us : List Int32) {i : Nat} (h : i < us.length) : (own_bs us).getD i (.int (0 : Int32)) = .int (us.getD i 0).toInt8.toInt32 := by
  simp [own_bs, List.getD, h]
theorem own_ubg0 : ∀ (us : List Int32) {i : Nat} (_ : i < us.length), (own_ub us).getD (2 * i) (.int (0 : Int32)) = .int (own_lo (us.getD i 0))
  | [], i, h => absurd h (Nat.not_lt_zero _)
  | x :: us, 0, _ => rfl
  | x :: us, i + 1, h => by
    have := own_ubg0 us (Nat.lt_of_succ_lt_succ h)
    rw [show 2 * (i + 1) = 2 * i + 1 + 1 from by omega]
    simpa [own_ub] using this
theorem own_ubg1 : ∀ (us : List Int32) {i : Nat} (_ : i < us.length), (own_ub us).getD (2 * i + 1) (.int (0 : Int32)) = .int (own_hi (us.getD i 0))
  | [], i, h => absurd h (Nat.not_lt_zero _)
  | x :: us, 0, _ => rfl
  | x :: us, i + 1, h => by
    have := own_ubg1 us (Nat.lt_of_succ_lt_succ h)
    rw [show 2 * (i + 1) + 1 = 2 * i + 1 + 1 + 1 from by omega]
    simpa [own_ub] using this
theorem own_shl1 : ∀ {n : Nat}, n ≤ 4 → Int32.ofNat n <<< ((1 : Int32) &&& 31) = Int32.ofNat (2 * n) := by
  have h : ∀ n : Fin 5, Int32.ofNat n.1 <<< ((1 : Int32) &&& 31) = Int32.ofNat (2 * n.1) := by decide
  exact fun {n} q => h ⟨n, by omega⟩
theorem own_shr1 {us : List Int32} (hle : us.length ≤ 4) : Int32.ofNat (2 * us.length) >>> ((1 : Int32) &&& 31) = Int32.ofNat us.length := by
  have h : ∀ n : Fin 5, Int32.ofNat (2 * n.1) >>> ((1 : Int32) &&& 31) = Int32.ofNat n.1 := by decide
  exact h ⟨us.length, by omega⟩
theorem own_shr0' (z : Int32) : z >>> ((0 : Int32) &&& 31) = z := by
  have h := c_ishr z (0 : Int32) 0 (by decide)
  rw [← Int32.toInt_inj, h]
  omega
theorem own_cflu {us : List Int32} (hp : 0 < us.length) (hle : us.length ≤ 4) : (XT.ushr (Int32.ofNat us.length - Int32.ofNat (2 * us.length)) (31 : Int32)).toInt8.toInt32 = (1 : Int32) := by
  have h : ∀ n : Fin 5, 0 < n.1 → (XT.ushr (Int32.ofNat n.1 - Int32.ofNat (2 * n.1)) (31 : Int32)).toInt8.toInt32 = (1 : Int32) := by decide
  exact h ⟨us.length, by omega⟩ hp
theorem own_nn {n : Nat} (h : n < 2147483647) : ¬ Int32.ofNat n < 0 := (own_in (N := n + 1) (by omega) (by omega)).1
theorem own_small {n : Nat} (h : n ≤ 4) : Int32.ofNat n < (1073741823 : Int32) := (own_in (N := 1073741823) (by omega) (by omega)).2
theorem own_rfull {us : List Int32} {r : Nat} (h1 : r ≤ us.length) (h3 : r < us.length → (255 : Int32) < us.getD r 0) (h8 : ∀ x ∈ us, ¬ (255 : Int32) < x) : r = us.length := by
  rcases Nat.lt_or_ge r us.length with q | q
  · exact absurd (h3 q) (h8 _ (own_gm us q))
  · omega
theorem own_rpart {us : List Int32} {r : Nat} (h1 : r ≤ us.length) (h2 : ∀ j, j < r → ¬ (255 : Int32) < us.getD j 0) (hu : ¬ ∀ x ∈ us, ¬ (255 : Int32) < x) : r < us.length := by
  rcases Nat.lt_or_ge r us.length with q | q
  · exact q
  · exact absurd (own_allj (fun j z => h2 j (by omega))) hu

def own_EL : List (String × Nat) := [("java/lang/String", 7)]
theorem own_EW {Z : State} {a0 : Array Value} (hw : ∀ d ∈ tables_1, d.before a0 Z = true) : EW Z a0 own_EL := (EW.cons (hw _ (List.mem_of_getElem? (i := 19) rfl)) (by decide) EW.nil)
theorem own_wS {Z : State} {a0 : Array Value} (hw : ∀ d ∈ tables_1, d.before a0 Z = true) : ∀ a ∈ Bundle.stringAtoms, a.before a0 Z = true := fun d hd => by
  simp only [Bundle.stringAtoms, List.mem_cons, List.not_mem_nil, or_false] at hd
  rcases hd with rfl | rfl | rfl | rfl | rfl | rfl | rfl
  · exact (hw _ (List.mem_of_getElem? (i := 7) rfl))
  · exact (hw _ (List.mem_of_getElem? (i := 6) rfl))
  · exact (hw _ (List.mem_of_getElem? (i := 20) rfl))
  · exact (hw _ (List.mem_of_getElem? (i := 21) rfl))
  · exact (hw _ (List.mem_of_getElem? (i := 22) rfl))
  · exact (hw _ (List.mem_of_getElem? (i := 23) rfl))
  · exact (hw _ (List.mem_of_getElem? (i := 24) rfl))
theorem own_SafeArv {Z : State} {EL : List (String × Nat)} {vm : Vm} {h : Heap} {a : Addr} {k : ClassId} {ty : FieldType} {z : Int32} {vs : List Value} {dv : Value} (hal : Z.vm.Alike vm) (F : Arv Z h a k ty z vs dv) (ht : ty ≠ .byte) : Safe Z EL vm h a := by
  obtain ⟨cl, A, -⟩ := F
  exact Safe.arr hal A ht
/-- a String whose field value is null is no booked one -/
theorem own_SafeNull {Z : State} {EL : List (String × Nat)} {vm : Vm} {h : Heap} {x : Addr} (hal : Z.vm.Alike vm) (E : Exa Z h x "java/lang/String") (F0 : Fld Z h x "java/lang/String" "value" "[B" .null) : Safe Z EL vm h x := fun B => by
  obtain ⟨p, -, u, a, -, q, -, F, rfl | rfl⟩ := B
  · obtain ⟨cell, cf, k, i, f, h1, h2, -, -, -, -, h7⟩ := F0
    cases (show h[q.sa]? = some q.sC from F.ha).symm.trans h1
    obtain ⟨cS, ⟨⟨-, -, -, ⟨cv, kv, iv, s4, -⟩, -, -, -, s8, -⟩, -⟩, -⟩ := F
    obtain ⟨kv', z4⟩ := ff_back (U := Wst Z vm h) hal s4
    have e4 := z4.symm.trans h2
    simp only [Option.some.injEq, Prod.mk.injEq] at e4
    rw [← e4.2.2.2, s8] at h7
    cases h7
  · obtain ⟨cell, k, e1, e2, e3, -, -⟩ := E
    cases (show h[q.sd]? = some q.SA from F.hd).symm.trans e1
    obtain ⟨cS, -, -, f, -⟩ := F
    have f' : Z.vm.findClass "[B" = some q.SA.cls := by rw [← hal.findClass]; exact f
    obtain ⟨k1, q1, q2⟩ := Vm.findClass_spec f'
    obtain ⟨k2, q3, q4⟩ := Vm.findClass_spec e2
    cases q1.symm.trans q3
    exact absurd (q2.symm.trans q4) (by decide)
section LayerS
variable {p : Program} {l : Launch} {e : Env} {R : Room} {s : State} {m : MethodId} {args : Array Value} {below : List Frame} {meth : Method} {c : Code} {T : State} {locs : List Loc} {cells slots : Nat} {Z : State} {a0 : Array Value} {EL : List (String × Nat)} {vm0 : Vm} {k0 : Nat}
/-- what a contract asks of the end of a walk that may intern -/
def KS (s : State) (below : List Frame) (Z : State) (EL : List (String × Nat)) (Q : Option Value → Heap → List Loc → Prop) (C S : Nat) (s₂ : State) (o : Outcome) : Prop :=
  s₂.status = .running ∧ Ended s₂ below o ∧ ∃ v L, o = .returned v ∧ Q v s₂.heap L ∧ CHr Z EL s.vm s.heap s₂.vm s₂.heap ∧ ReturnedEndW s o s₂ L C S
theorem Go.endS {Q : Option Value → Heap → List Loc → Prop} {C S : Nat} (X : Stand p l e R (s.setVm vm0) m args below meth c T locs cells slots) (hlk : meth.locks = false) {v : Option Value} (hv : meth.sig.returnType = none → v = none) {σ : State}
    (go : ∀ fs, (∀ (f : JFrame) (acts : List Action), f.method = m → f.locked = none → f.entered = [] → (doReturn e (T.setTop f) acts v).1 = T.setFrames fs) → Steps p.tables e below σ (T.setFrames fs))
    (hC : cells ≤ C) (hS' : slots ≤ S) (hS : s.Since vm0 k0) (hk : k0 ≤ T.heap.size) (hEL : EW Z a0 EL) (hZ : Z.Warmed39 (s.setVm vm0).vm) (Rr : CHr Z EL s.vm s.heap vm0 T.heap) (q : Q v T.heap locs) : Go p e below (KS s below Z EL Q C S) σ := by
  obtain ⟨fs, hr, hrun, hended, hEnd⟩ := X.leaveW hS hk (v := v) hv
  exact ⟨_, _, go fs hr, hrun, hended, _, _, rfl, q, Rr.trans (show CHr Z EL vm0 T.heap T.vm T.heap from CHv.at X hZ hEL Rr.1), hEnd.1, hEnd.2.1, hEnd.2.2.1, hEnd.2.2.2.mono hC hS'⟩
theorem Go.retVS {Q : Option Value → Heap → List Loc → Prop} {C S : Nat} (X : Stand p l e R (s.setVm vm0) m args below meth c T locs cells slots) (hx : p.tables.exec = Jvm.exec) (hlk : meth.locks = false) (hret : meth.sig.returnType = none) {pc : Nat} {Ls : Array Slot} (hd : decode c.code pc = .ok (.return_, 1)) (hC : cells ≤ C) (hS' : slots ≤ S)
    (hS : s.Since vm0 k0) (hk : k0 ≤ T.heap.size) (hEL : EW Z a0 EL) (hZ : Z.Warmed39 (s.setVm vm0).vm) (Rr : CHr Z EL s.vm s.heap vm0 T.heap) (q : Q none T.heap locs) : Go p e below (KS s below Z EL Q C S) (T.setTop (mkF m pc Ls [])) :=
  Go.endS X hlk (fun _ => rfl) (fun fs hr => X.returnOut hx hret hd hr) hC hS' hS hk hEL hZ Rr q
theorem Go.retAS {Q : Option Value → Heap → List Loc → Prop} {C S : Nat} (X : Stand p l e R (s.setVm vm0) m args below meth c T locs cells slots) (hx : p.tables.exec = Jvm.exec) (hlk : meth.locks = false) {t : FieldType} (hret : meth.sig.returnType = some t) (ht : t.isReference = true) {pc : Nat} {Ls : Array Slot} {w : Value} (hw : w.isRef = true) {rest : List Value} (hd : decode c.code pc = .ok (.areturn, 1)) (hC : cells ≤ C) (hS' : slots ≤ S)
    (hS : s.Since vm0 k0) (hk : k0 ≤ T.heap.size) (hEL : EW Z a0 EL) (hZ : Z.Warmed39 (s.setVm vm0).vm) (Rr : CHr Z EL s.vm s.heap vm0 T.heap) (q : Q (some w) T.heap locs) : Go p e below (KS s below Z EL Q C S) (T.setTop (mkF m pc Ls (w :: rest))) :=
  Go.endS X hlk (fun h => by rw [hret] at h; cases h) (fun fs hr => retOut X hx hret (by cases t <;> cases w <;> simp_all [narrow, Value.isRef, FieldType.isReference]) (Or.inr (Or.inr (Or.inr (Or.inr ⟨rfl, ht, hw⟩)))) hd hr) hC hS' hS hk hEL hZ Rr q
theorem Go.retIS {Q : Option Value → Heap → List Loc → Prop} {C S : Nat} (X : Stand p l e R (s.setVm vm0) m args below meth c T locs cells slots) (hx : p.tables.exec = Jvm.exec) (hlk : meth.locks = false) (hret : meth.sig.returnType = some .int) {pc : Nat} {Ls : Array Slot} {z : Int32} {rest : List Value} (hd : decode c.code pc = .ok (.ireturn, 1)) (hC : cells ≤ C) (hS' : slots ≤ S)
    (hS : s.Since vm0 k0) (hk : k0 ≤ T.heap.size) (hEL : EW Z a0 EL) (hZ : Z.Warmed39 (s.setVm vm0).vm) (Rr : CHr Z EL s.vm s.heap vm0 T.heap) (q : Q (some (.int z)) T.heap locs) : Go p e below (KS s below Z EL Q C S) (T.setTop (mkF m pc Ls (.int z :: rest))) :=
  Go.endS X hlk (fun h => by rw [hret] at h; cases h) (fun fs hr => retOut X hx hret rfl (Or.inl ⟨rfl, Or.inl rfl, _, rfl⟩) hd hr) hC hS' hS hk hEL hZ Rr q
theorem Go.retNS {Q : Option Value → Heap → List Loc → Prop} {C S : Nat} (X : Stand p l e R (s.setVm vm0) m args below meth c T locs cells slots) (hx : p.tables.exec = Jvm.exec) (hlk : meth.locks = false) {t : FieldType} (hret : meth.sig.returnType = some t) (ht : t = .boolean ∨ t = .byte ∨ t = .char ∨ t = .short) {pc : Nat} {Ls : Array Slot} {z : Int32} {rest : List Value} (hd : decode c.code pc = .ok (.ireturn, 1)) (hC : cells ≤ C) (hS' : slots ≤ S)
    (hS : s.Since vm0 k0) (hk : k0 ≤ T.heap.size) (hEL : EW Z a0 EL) (hZ : Z.Warmed39 (s.setVm vm0).vm) (Rr : CHr Z EL s.vm s.heap vm0 T.heap) (q : Q (some (.int (nar t z))) T.heap locs) : Go p e below (KS s below Z EL Q C S) (T.setTop (mkF m pc Ls (.int z :: rest))) :=
  Go.endS X hlk (fun h => by rw [hret] at h; cases h) (fun fs hr => RoadKit.retN X hx hret ht hd hr) hC hS' hS hk hEL hZ Rr q
end LayerS

theorem own_pn_java_lang_String : plainName "java/lang/String" = true := by first | (simp [plainName, overriddenIn]; done) | decide +kernel
theorem ef_sV0 (m : MethodId) (x0 : Addr) (x1 : Addr) (x2 : Int32) (x3 : Int32) : entryFrame m #[(.ref x0), (.ref x1), (.int x2), (.int x3), .null] 6 = mkF m 0 #[.val (.ref x0), .val (.ref x1), .val (.int x2), .val (.int x3), .val .null, .unset] [] := by first | (simp [entryFrame, mkF, argsToLocals, Value.category]; done) | rfl
theorem d3_0 : decode jdk_42_method_149_code 0 = .ok (.aload_n 0, 1) := by decide +kernel
theorem d3_1 : decode jdk_42_method_149_code 1 = .ok (.invokespecial 1, 3) := by decide +kernel
theorem d3_4 : decode jdk_42_method_149_code 4 = .ok (.iload_n 3, 1) := by decide +kernel
theorem d3_5 : decode jdk_42_method_149_code 5 = .ok (.ifCond .ne 22, 3) := by decide +kernel
theorem d3_8 : decode jdk_42_method_149_code 8 = .ok (.aload_n 0, 1) := by decide +kernel
theorem d3_9 : decode jdk_42_method_149_code 9 = .ok (.ldc 7, 2) := by decide +kernel
theorem d3_11 : decode jdk_42_method_149_code 11 = .ok (.getfield 9, 3) := by decide +kernel
theorem d3_14 : decode jdk_42_method_149_code 14 = .ok (.putfield 9, 3) := by decide +kernel
theorem d3_17 : decode jdk_42_method_149_code 17 = .ok (.aload_n 0, 1) := by decide +kernel
theorem d3_18 : decode jdk_42_method_149_code 18 = .ok (.ldc 7, 2) := by decide +kernel
theorem d3_20 : decode jdk_42_method_149_code 20 = .ok (.getfield 15, 3) := by decide +kernel
theorem d3_23 : decode jdk_42_method_149_code 23 = .ok (.putfield 15, 3) := by decide +kernel
theorem d3_26 : decode jdk_42_method_149_code 26 = .ok (.return_, 1) := by decide +kernel
def QsV0 (Z : State) (a1 : Addr) (a2 : Addr) (h0 : Heap) (n0 : Nat) (v : Option Value) (h : Heap) (L : List Loc) : Prop := ∃ vb : Addr, ∃ kb : ClassId, v = none ∧ Fr n0 L ∧ Keep h0 h [a1] ∧ (Exa Z h a1 "java/lang/String") ∧ (Fld Z h a1 "java/lang/String" "value" "[B" (.ref vb)) ∧ (Fld Z h a1 "java/lang/String" "coder" "B" (.int (0 : Int32))) ∧ (Arv Z h vb kb .byte (0 : Int32) [] (.int (0 : Int32))) ∧ (a1 ≠ vb)
set_option maxRecDepth 65536 in
set_option maxHeartbeats 40000000 in
theorem rmsV0 (l : Launch) (Z : State) (a0 : Array Value) (hw : ∀ d ∈ tables_1, d.before a0 Z = true) (ws : List Jvm.Cond) (a1 : Addr) (a2 : Addr) (h0 : Heap) (n0 : Nat) (Z0 : n0 ≤ h0.size) (E_a1 : Exa Z h0 a1 "java/lang/String") (g_a1 : n0 ≤ a1) (F_value_a1 : Fld Z h0 a1 "java/lang/String" "value" "[B" .null) (F_coder_a1 : Fld Z h0 a1 "java/lang/String" "coder" "B" (.int (0 : Int32))) :
    MetFree l (⟨"java/lang/String", "<init>", "([CIILjava/lang/Void;)V"⟩ : MethodName) (head1 (Jvm.Cond.code (⟨"java/lang/String", "<init>", "([CIILjava/lang/Void;)V"⟩ : MethodName) jdk_42_method_149_code 6 none :: ws) ({ frames := 1, cells := 4, slots := 8, locals := 12 } : Room)) (fun a U => a = #[(.ref a1), (.ref a2), (.int (0 : Int32)), (.int (0 : Int32)), .null] ∧ Z.Warmed39 U.vm ∧ U.heap = h0 ∧ CHv Z own_EL U.vm h0) (fun _ _ _ _ _ => True) (fun _ U o U' => ∃ v L, o = .returned v ∧ QsV0 Z a1 a2 h0 n0 v U'.heap L ∧ CHr Z own_EL U.vm U.heap U'.vm U'.heap ∧ ReturnedEndW U o U' L ({ frames := 1, cells := 4, slots := 8, locals := 12 } : Room).cells ({ frames := 1, cells := 4, slots := 8, locals := 12 } : Room).slots) := by
  refine MetFree.of_bodySF (plainFor_of_name own_pn_java_lang_String) hisR ?_
  intro p e s m args below meth c s₁ Bd hml0 hP hK
  obtain ⟨rfl, hZ, hh, hCH⟩ := hP
  have hx := Bd.exec
  have hby := Bd.bytes
  have hlk := Bd.notSynchronized
  have hml : c.maxLocals = 6 := hml0
  have hown : s.vm.findClass "java/lang/String" = some m.cls := findClass_of_methodNamed Bd.named
  have hnm := (name_of_methodNamed Bd.named Bd.method).1
  have X0 : Stand p l e ({ frames := 1, cells := 4, slots := 8, locals := 12 } : Room) (s.setVm s.vm) m #[(.ref a1), (.ref a2), (.int (0 : Int32)), (.int (0 : Int32)), .null] below meth c s₁ [] 0 0 := Stand.of_body Bd
  have hZ : Z.Warmed39 (s.setVm s.vm).vm := hZ
  have hown : (s.setVm s.vm).vm.findClass "java/lang/String" = some m.cls := hown
  have hS0 : s.Since s.vm 0 := (State.WarmedH.refl s).since 0
  have R0 : CHr Z own_EL s.vm h0 s.vm h0 := CHr.refl hCH
  have e0 : s₁.heap = h0 := by rw [← hh, Bd.state]; rfl
  have N0 := Fr.nil n0
  have K0 : Keep h0 h0 [a1] := Keep.refl _ _
  show Go p e below (KS s below Z own_EL (QsV0 Z a1 a2 h0 n0) ({ frames := 1, cells := 4, slots := 8, locals := 12 } : Room).cells ({ frames := 1, cells := 4, slots := 8, locals := 12 } : Room).slots) _
  refine Go.body (T := s₁) (σ := s₁) (g' := (mkF m 0 #[.val (.ref a1), .val (.ref a2), .val (.int (0 : Int32)), .val (.int (0 : Int32)), .val .null, .unset] [])) (ef_sV0 m a1 a2 (0 : Int32) (0 : Int32)) ?_
  have Sf_a1 : Safe Z own_EL s.vm h0 a1 := own_SafeNull hZ.alike E_a1 F_value_a1
  refine g_aloadN X0 hx (hb hby d3_0) 1 rfl (v := (.ref a1)) rfl rfl ?_
  obtain ⟨T1, X1, e1, st1⟩ := initO X0 hx hZ hown (hw _ (List.mem_of_getElem? (i := 16) rfl)) (hw _ (List.mem_of_getElem? (i := 17) rfl)) (hw _ (List.mem_of_getElem? (i := 18) rfl)) e0 (g := (mkF m 1 #[.val (.ref a1), .val (.ref a2), .val (.int (0 : Int32)), .val (.int (0 : Int32)), .val .null, .unset] [(.ref a1)])) rfl (by rw [hml]; rfl) rfl (hb hby d3_1) (by decide) (W := 0) (by show 2 * 0 + _ ≤ _; exact Nat.le_of_eq rfl) (by decide)
  refine Go.st st1 ?_
  show Go p e below _ (T1.setTop (mkF m 4 #[.val (.ref a1), .val (.ref a2), .val (.int (0 : Int32)), .val (.int (0 : Int32)), .val .null, .unset] []))
  refine g_iloadN X1 hx (hb hby d3_4) 5 rfl (v := (0 : Int32)) rfl ?_
  refine g_if_ne X1 hx (hb hby d3_5) 27 8 (by decide) (by decide) rfl (fun hc5 => False.elim (absurd rfl hc5)) (fun hc5 => ?_)
  refine g_aloadN X1 hx (hb hby d3_8) 9 rfl (v := (.ref a1)) rfl rfl ?_
  obtain ⟨oa2, T2, h2, k12, ob2, kb2, X2, e2, E2, hS2, hk2, hZ, hown, f2a, f2c, f2v, f2b, lt2a, lt2b, C2, -, hne2, st2⟩ := ldcCH X1 hx hZ hown (hw _ (List.mem_of_getElem? (i := 19) rfl)) (own_wS hw) e1 hS0 (Nat.zero_le _) (own_EW hw) (by decide) R0.1 (vs := []) (z := (0 : Int32)) (by decide) (by decide) rfl (g := (mkF m 9 #[.val (.ref a1), .val (.ref a2), .val (.int (0 : Int32)), .val (.int (0 : Int32)), .val .null, .unset] [(.ref a1)])) rfl (hb hby d3_9) (n := 0) (by decide) (by decide) (by decide) (by decide)
  refine Go.st st2 ?_
  have Sf_a1_2 : Safe Z own_EL T2.vm h2 a1 := CHr.safe C2 E_a1.lt Sf_a1
  have R2 : CHr Z own_EL s.vm h0 T2.vm h2 := CHr.trans R0 C2
  have E_a1_3 : Exa Z h2 a1 "java/lang/String" := Exa.ext E2 E_a1
  have F_value_a1_3 : Fld Z h2 a1 "java/lang/String" "value" "[B" .null := Fld.ext E2 F_value_a1
  have F_coder_a1_3 : Fld Z h2 a1 "java/lang/String" "coder" "B" (.int (0 : Int32)) := Fld.ext E2 F_coder_a1
  have ne_a1_oa2 : a1 ≠ oa2 := (hne2 _ Sf_a1_2).1
  have ne_a1_ob2 : a1 ≠ ob2 := (hne2 _ Sf_a1_2).2
  have K2 : Keep h0 h2 [a1] := Keep.ext K0 E2
  have Zs2 : n0 ≤ h2.size := Nat.le_trans Z0 E2.1
  show Go p e below _ (T2.setTop (mkF m 11 #[.val (.ref a1), .val (.ref a2), .val (.int (0 : Int32)), .val (.int (0 : Int32)), .val .null, .unset] [(.ref oa2), (.ref a1)]))
  obtain ⟨T4, X4, e4, st4⟩ := getF X2 hx hZ hown (host := "") (Or.inl (hw _ (List.mem_of_getElem? (i := 25) rfl))) Via.refl e2 f2v (g := (mkF m 11 #[.val (.ref a1), .val (.ref a2), .val (.int (0 : Int32)), .val (.int (0 : Int32)), .val .null, .unset] [(.ref oa2), (.ref a1)])) rfl rfl (hb hby d3_11)
  refine Go.st st4 ?_
  show Go p e below _ (T4.setTop (mkF m 14 #[.val (.ref a1), .val (.ref a2), .val (.int (0 : Int32)), .val (.int (0 : Int32)), .val .null, .unset] [(.ref ob2), (.ref a1)]))
  obtain ⟨T5, h5, X5, e5, W5, st5⟩ := putF X4 hx hZ hown (host := "") (Or.inl (hw _ (List.mem_of_getElem? (i := 25) rfl))) Via.refl e4 F_value_a1_3 E_a1_3 (Or.inr ⟨(hw _ (List.mem_of_getElem? (i := 21) rfl)), rfl, hnm⟩) (hw _ (List.mem_of_getElem? (i := 6) rfl)) (ty := (.array .byte)) (by decide) rfl rfl (g := (mkF m 14 #[.val (.ref a1), .val (.ref a2), .val (.int (0 : Int32)), .val (.int (0 : Int32)), .val .null, .unset] [(.ref ob2), (.ref a1)])) rfl rfl (hb hby d3_14)
  refine Go.st st5 ?_
  have Sf_a1_6 : Safe Z own_EL T2.vm h5 a1 := Safe.wr W5 Sf_a1_2 R2.1 Sf_a1_2
  have R6 : CHr Z own_EL s.vm h0 T2.vm h5 := CHr.trans R2 (CHr.wr W5 Sf_a1_2 R2.1)
  have hk6 : _ ≤ h5.size := Nat.le_trans hk2 (Nat.le_of_eq W5.size.symm)
  have E_a1_7 : Exa Z h5 a1 "java/lang/String" := Exa.wr W5 E_a1_3
  have F_coder_a1_7 : Fld Z h5 a1 "java/lang/String" "coder" "B" (.int (0 : Int32)) := Fld.other W5 F_coder_a1_3 (Or.inr (slot_ne (Or.inr (hw _ (List.mem_of_getElem? (i := 22) rfl))) (Or.inr (hw _ (List.mem_of_getElem? (i := 21) rfl))) (by decide) (t := .byte) (t' := (.array .byte)) (by decide) (by decide)))
  have E_oa2_7 : Exa Z h5 oa2 "java/lang/String" := Exa.wr W5 f2a
  have F_coder_oa2_7 : Fld Z h5 oa2 "java/lang/String" "coder" "B" (.int (0 : Int32)) := Fld.other W5 f2c (Or.inl (Ne.symm ne_a1_oa2))
  have F_value_oa2_7 : Fld Z h5 oa2 "java/lang/String" "value" "[B" (.ref ob2) := Fld.other W5 f2v (Or.inl (Ne.symm ne_a1_oa2))
  have A_ob2_7 : Arv Z h5 ob2 kb2 .byte (0 : Int32) [] (.int (0 : Int32)) := Arv.other f2b W5 (Ne.symm ne_a1_ob2)
  have F_value_a1_5w : Fld Z h5 a1 "java/lang/String" "value" "[B" (.ref ob2) := Fld.same W5 F_value_a1_3
  have K5 : Keep h0 h5 [a1] := Keep.wr K2 W5 (Or.inl (List.mem_of_getElem? (i := 0) rfl))
  have N5 := Fr.snoc X5 N0 g_a1
  have Zs5 : n0 ≤ h5.size := by rw [W5.size]; exact Zs2
  show Go p e below _ (T5.setTop (mkF m 17 #[.val (.ref a1), .val (.ref a2), .val (.int (0 : Int32)), .val (.int (0 : Int32)), .val .null, .unset] []))
  refine g_aloadN X5 hx (hb hby d3_17) 18 rfl (v := (.ref a1)) rfl rfl ?_
  obtain ⟨oa8, T8, h8, k18, ob8, kb8, X8, e8, E8, hS8, hk8, hZ, hown, f8a, f8c, f8v, f8b, lt8a, lt8b, C8, -, hne8, st8⟩ := ldcCH X5 hx hZ hown (hw _ (List.mem_of_getElem? (i := 19) rfl)) (own_wS hw) e5 hS2 hk6 (own_EW hw) (by decide) R6.1 (vs := []) (z := (0 : Int32)) (by decide) (by decide) rfl (g := (mkF m 18 #[.val (.ref a1), .val (.ref a2), .val (.int (0 : Int32)), .val (.int (0 : Int32)), .val .null, .unset] [(.ref a1)])) rfl (hb hby d3_18) (n := 0) (by decide) (by decide) (by decide) (by decide)
  refine Go.st st8 ?_
  have Sf_a1_8 : Safe Z own_EL T8.vm h8 a1 := CHr.safe C8 E_a1_7.lt Sf_a1_6
  have R8 : CHr Z own_EL s.vm h0 T8.vm h8 := CHr.trans R6 C8
  have E_a1_9 : Exa Z h8 a1 "java/lang/String" := Exa.ext E8 E_a1_7
  have F_coder_a1_9 : Fld Z h8 a1 "java/lang/String" "coder" "B" (.int (0 : Int32)) := Fld.ext E8 F_coder_a1_7
  have E_oa2_9 : Exa Z h8 oa2 "java/lang/String" := Exa.ext E8 E_oa2_7
  have F_coder_oa2_9 : Fld Z h8 oa2 "java/lang/String" "coder" "B" (.int (0 : Int32)) := Fld.ext E8 F_coder_oa2_7
  have F_value_oa2_9 : Fld Z h8 oa2 "java/lang/String" "value" "[B" (.ref ob2) := Fld.ext E8 F_value_oa2_7
  have A_ob2_9 : Arv Z h8 ob2 kb2 .byte (0 : Int32) [] (.int (0 : Int32)) := Arv.ext A_ob2_7 E8
  have F_value_a1_9 : Fld Z h8 a1 "java/lang/String" "value" "[B" (.ref ob2) := Fld.ext E8 F_value_a1_5w
  have ne_a1_oa8 : a1 ≠ oa8 := (hne8 _ Sf_a1_8).1
  have ne_a1_ob8 : a1 ≠ ob8 := (hne8 _ Sf_a1_8).2
  have K8 : Keep h0 h8 [a1] := Keep.ext K5 E8
  have Zs8 : n0 ≤ h8.size := Nat.le_trans Zs5 E8.1
  show Go p e below _ (T8.setTop (mkF m 20 #[.val (.ref a1), .val (.ref a2), .val (.int (0 : Int32)), .val (.int (0 : Int32)), .val .null, .unset] [(.ref oa8), (.ref a1)]))
  obtain ⟨T10, X10, e10, st10⟩ := getF X8 hx hZ hown (host := "") (Or.inl (hw _ (List.mem_of_getElem? (i := 26) rfl))) Via.refl e8 f8c (g := (mkF m 20 #[.val (.ref a1), .val (.ref a2), .val (.int (0 : Int32)), .val (.int (0 : Int32)), .val .null, .unset] [(.ref oa8), (.ref a1)])) rfl rfl (hb hby d3_20)
  refine Go.st st10 ?_
  show Go p e below _ (T10.setTop (mkF m 23 #[.val (.ref a1), .val (.ref a2), .val (.int (0 : Int32)), .val (.int (0 : Int32)), .val .null, .unset] [(.int (0 : Int32)), (.ref a1)]))
  obtain ⟨T11, h11, X11, e11, W11, st11⟩ := putF X10 hx hZ hown (host := "") (Or.inl (hw _ (List.mem_of_getElem? (i := 26) rfl))) Via.refl e10 F_coder_a1_9 E_a1_9 (Or.inr ⟨(hw _ (List.mem_of_getElem? (i := 22) rfl)), rfl, hnm⟩) (hw _ (List.mem_of_getElem? (i := 6) rfl)) (ty := .byte) (by decide) rfl rfl (g := (mkF m 23 #[.val (.ref a1), .val (.ref a2), .val (.int (0 : Int32)), .val (.int (0 : Int32)), .val .null, .unset] [(.int (0 : Int32)), (.ref a1)])) rfl rfl (hb hby d3_23)
  refine Go.st st11 ?_
  have Sf_a1_12 : Safe Z own_EL T8.vm h11 a1 := Safe.wr W11 Sf_a1_8 R8.1 Sf_a1_8
  have R12 : CHr Z own_EL s.vm h0 T8.vm h11 := CHr.trans R8 (CHr.wr W11 Sf_a1_8 R8.1)
  have hk12 : _ ≤ h11.size := Nat.le_trans hk8 (Nat.le_of_eq W11.size.symm)
  have E_a1_13 : Exa Z h11 a1 "java/lang/String" := Exa.wr W11 E_a1_9
  have E_oa2_13 : Exa Z h11 oa2 "java/lang/String" := Exa.wr W11 E_oa2_9
  have F_coder_oa2_13 : Fld Z h11 oa2 "java/lang/String" "coder" "B" (.int (0 : Int32)) := Fld.other W11 F_coder_oa2_9 (Or.inl (Ne.symm ne_a1_oa2))
  have F_value_oa2_13 : Fld Z h11 oa2 "java/lang/String" "value" "[B" (.ref ob2) := Fld.other W11 F_value_oa2_9 (Or.inl (Ne.symm ne_a1_oa2))
  have A_ob2_13 : Arv Z h11 ob2 kb2 .byte (0 : Int32) [] (.int (0 : Int32)) := Arv.other A_ob2_9 W11 (Ne.symm ne_a1_ob2)
  have F_value_a1_13 : Fld Z h11 a1 "java/lang/String" "value" "[B" (.ref ob2) := Fld.other W11 F_value_a1_9 (Or.inr (slot_ne (Or.inr (hw _ (List.mem_of_getElem? (i := 21) rfl))) (Or.inr (hw _ (List.mem_of_getElem? (i := 22) rfl))) (by decide) (t := (.array .byte)) (t' := .byte) (by decide) (by decide)))
  have E_oa8_13 : Exa Z h11 oa8 "java/lang/String" := Exa.wr W11 f8a
  have F_coder_oa8_13 : Fld Z h11 oa8 "java/lang/String" "coder" "B" (.int (0 : Int32)) := Fld.other W11 f8c (Or.inl (Ne.symm ne_a1_oa8))
  have F_value_oa8_13 : Fld Z h11 oa8 "java/lang/String" "value" "[B" (.ref ob8) := Fld.other W11 f8v (Or.inl (Ne.symm ne_a1_oa8))
  have A_ob8_13 : Arv Z h11 ob8 kb8 .byte (0 : Int32) [] (.int (0 : Int32)) := Arv.other f8b W11 (Ne.symm ne_a1_ob8)
  have F_coder_a1_11w : Fld Z h11 a1 "java/lang/String" "coder" "B" (.int (0 : Int32)) := Fld.same W11 F_coder_a1_9
  have K11 : Keep h0 h11 [a1] := Keep.wr K8 W11 (Or.inl (List.mem_of_getElem? (i := 0) rfl))
  have N11 := Fr.snoc X11 N5 g_a1
  have Zs11 : n0 ≤ h11.size := by rw [W11.size]; exact Zs8
  show Go p e below _ (T11.setTop (mkF m 26 #[.val (.ref a1), .val (.ref a2), .val (.int (0 : Int32)), .val (.int (0 : Int32)), .val .null, .unset] []))
  refine Go.retVS X11 hx hlk Bd.returns (hb hby d3_26) (by decide) (by decide) hS8 (by rw [e11]; exact hk12) (own_EW hw) hZ (by rw [hh, e11]; exact R12) ?_
  show QsV0 Z a1 a2 h0 n0 _ T11.heap _
  rw [e11]
  exact ⟨ob2, kb2, rfl, N11, K11, E_a1_13, F_value_a1_13, F_coder_a1_11w, A_ob2_13, ne_a1_ob2⟩
theorem ef_sC0 (m : MethodId) (x0 : Addr) (x1 : Addr) : entryFrame m #[(.ref x0), (.ref x1)] 2 = mkF m 0 #[.val (.ref x0), .val (.ref x1)] [] := by first | (simp [entryFrame, mkF, argsToLocals, Value.category]; done) | rfl
theorem d2_0 : decode jdk_42_method_3_code 0 = .ok (.aload_n 0, 1) := by decide +kernel
theorem d2_1 : decode jdk_42_method_3_code 1 = .ok (.aload_n 1, 1) := by decide +kernel
theorem d2_2 : decode jdk_42_method_3_code 2 = .ok (.iconst 0, 1) := by decide +kernel
theorem d2_3 : decode jdk_42_method_3_code 3 = .ok (.aload_n 1, 1) := by decide +kernel
theorem d2_4 : decode jdk_42_method_3_code 4 = .ok (.arraylength, 1) := by decide +kernel
theorem d2_5 : decode jdk_42_method_3_code 5 = .ok (.aconst_null, 1) := by decide +kernel
theorem own_pd0 : parseMethodDescriptor "([CIILjava/lang/Void;)V" = some ⟨[(.array .char), .int, .int, (.object "java/lang/Void")], none⟩ := by decide +kernel
theorem d2_6 : decode jdk_42_method_3_code 6 = .ok (.invokespecial 27, 3) := by decide +kernel
theorem d2_9 : decode jdk_42_method_3_code 9 = .ok (.return_, 1) := by decide +kernel
def QsC0 (Z : State) (a1 : Addr) (a2 : Addr) (kc : ClassId) (h0 : Heap) (n0 : Nat) (v : Option Value) (h : Heap) (L : List Loc) : Prop := ∃ vb : Addr, ∃ kb : ClassId, v = none ∧ Fr n0 L ∧ Keep h0 h [a1] ∧ (Exa Z h a1 "java/lang/String") ∧ (Fld Z h a1 "java/lang/String" "value" "[B" (.ref vb)) ∧ (Fld Z h a1 "java/lang/String" "coder" "B" (.int (0 : Int32))) ∧ (Arv Z h vb kb .byte (0 : Int32) [] (.int (0 : Int32))) ∧ (a1 ≠ vb)
set_option maxRecDepth 65536 in
set_option maxHeartbeats 40000000 in
theorem rmsC0 (l : Launch) (Z : State) (a0 : Array Value) (hw : ∀ d ∈ tables_1, d.before a0 Z = true) (ws : List Jvm.Cond) (a1 : Addr) (a2 : Addr) (kc : ClassId) (h0 : Heap) (n0 : Nat) (Z0 : n0 ≤ h0.size) (E_a1 : Exa Z h0 a1 "java/lang/String") (g_a1 : n0 ≤ a1) (F_value_a1 : Fld Z h0 a1 "java/lang/String" "value" "[B" .null) (F_coder_a1 : Fld Z h0 a1 "java/lang/String" "coder" "B" (.int (0 : Int32))) (A_a2 : Arv Z h0 a2 kc .char (0 : Int32) [] (.int (0 : Int32))) (ne_a1_a2 : a1 ≠ a2) :
    MetFree l (⟨"java/lang/String", "<init>", "([C)V"⟩ : MethodName) (head1 (Jvm.Cond.code (⟨"java/lang/String", "<init>", "([C)V"⟩ : MethodName) jdk_42_method_3_code 2 none :: ws) ({ frames := 2, cells := 4, slots := 8, locals := 29 } : Room)) (fun a U => a = #[(.ref a1), (.ref a2)] ∧ Z.Warmed39 U.vm ∧ U.heap = h0 ∧ CHv Z own_EL U.vm h0) (fun _ _ _ _ _ => True) (fun _ U o U' => ∃ v L, o = .returned v ∧ QsC0 Z a1 a2 kc h0 n0 v U'.heap L ∧ CHr Z own_EL U.vm U.heap U'.vm U'.heap ∧ ReturnedEndW U o U' L ({ frames := 2, cells := 4, slots := 8, locals := 29 } : Room).cells ({ frames := 2, cells := 4, slots := 8, locals := 29 } : Room).slots) := by
  refine MetFree.of_bodySF (plainFor_of_name own_pn_java_lang_String) hisR ?_
  intro p e s m args below meth c s₁ Bd hml0 hP hK
  obtain ⟨rfl, hZ, hh, hCH⟩ := hP
  have hx := Bd.exec
  have hby := Bd.bytes
  have hlk := Bd.notSynchronized
  have hml : c.maxLocals = 2 := hml0
  have hown : s.vm.findClass "java/lang/String" = some m.cls := findClass_of_methodNamed Bd.named
  have hnm := (name_of_methodNamed Bd.named Bd.method).1
  have X0 : Stand p l e ({ frames := 2, cells := 4, slots := 8, locals := 29 } : Room) (s.setVm s.vm) m #[(.ref a1), (.ref a2)] below meth c s₁ [] 0 0 := Stand.of_body Bd
  have hZ : Z.Warmed39 (s.setVm s.vm).vm := hZ
  have hown : (s.setVm s.vm).vm.findClass "java/lang/String" = some m.cls := hown
  have hS0 : s.Since s.vm 0 := (State.WarmedH.refl s).since 0
  have R0 : CHr Z own_EL s.vm h0 s.vm h0 := CHr.refl hCH
  have e0 : s₁.heap = h0 := by rw [← hh, Bd.state]; rfl
  have N0 := Fr.nil n0
  have K0 : Keep h0 h0 [a1] := Keep.refl _ _
  show Go p e below (KS s below Z own_EL (QsC0 Z a1 a2 kc h0 n0) ({ frames := 2, cells := 4, slots := 8, locals := 29 } : Room).cells ({ frames := 2, cells := 4, slots := 8, locals := 29 } : Room).slots) _
  refine Go.body (T := s₁) (σ := s₁) (g' := (mkF m 0 #[.val (.ref a1), .val (.ref a2)] [])) (ef_sC0 m a1 a2) ?_
  refine g_aloadN X0 hx (hb hby d2_0) 1 rfl (v := (.ref a1)) rfl rfl ?_
  refine g_aloadN X0 hx (hb hby d2_1) 2 rfl (v := (.ref a2)) rfl rfl ?_
  refine g_iconst X0 hx (hb hby d2_2) 3 rfl (0 : Int32) rfl ?_
  refine g_aloadN X0 hx (hb hby d2_3) 4 rfl (v := (.ref a2)) rfl rfl ?_
  refine g_alen X0 hx (hb hby d2_4) 5 rfl hZ e0 A_a2 ?_
  refine g_null X0 hx (hb hby d2_5) 6 rfl ?_
  obtain ⟨_, _, ⟨T15, L15, k15, n15⟩, -, X15, hS15, gr15, ⟨Lc15, hQ15, l15, y15, z15, C15⟩, st15⟩ := X0.specialBackS hx (y := (⟨"java/lang/String", "<init>", "([CIILjava/lang/Void;)V"⟩ : MethodName)) rfl hown (mvT hZ (hw _ (List.mem_of_getElem? (i := 12) rfl))) (mvT hZ (hw _ (List.mem_of_getElem? (i := 13) rfl))) (mvT hZ (hw _ (List.mem_of_getElem? (i := 15) rfl))) (by decide) (backOfSH (W := 0) (rmsV0 l Z a0 hw [] a1 a2 h0 n0 Z0 E_a1 g_a1 F_value_a1 F_coder_a1) hZ (hw _ (List.mem_of_getElem? (i := 15) rfl)) (hw _ (List.mem_of_getElem? (i := 7) rfl)) (by decide) (by decide) (own_EW hw) R0.1) (g := (mkF m 6 #[.val (.ref a1), .val (.ref a2)] [.null, (.int (0 : Int32)), (.int (0 : Int32)), (.ref a2), (.ref a1)])) rfl (by rw [hml]; rfl) (Steps.refl _) (a := a1) (argsL := [(.ref a2), (.int (0 : Int32)), (.int (0 : Int32)), .null]) (rest := []) (lenOf own_pd0 rfl) rfl (by show 2 * 0 + _ ≤ _; exact Nat.le_of_eq rfl) (hb hby d2_6) (fun _ _ => ⟨rfl, e0, (by decide : 0 + 4 ≤ _), (by decide : 0 + 8 ≤ _)⟩)
  dsimp only [Pt.U, Pt.locs, Pt.cells, Pt.slots] at X15 l15 y15 z15 st15 hQ15 hS15 gr15 C15
  subst l15 y15 z15
  obtain ⟨ovb, okb, rfl, Nq15, Kq15, f15_0, f15_1, f15_2, f15_3, f15_4⟩ := hQ15
  refine Go.tr st15 ?_
  obtain ⟨X15, hS15, hZ, hown⟩ := rebS hS0 (by rw [e0]; exact (Nat.zero_le _)) X15 hS15 gr15 hZ hown
  have R15 : CHr Z own_EL s.vm h0 T15.vm T15.heap := CHr.trans R0 C15
  have N15 := Fr.app N0 Nq15
  have E_a1_16 : Exa Z T15.heap a1 "java/lang/String" := Exa.keep E_a1 Kq15
  have K15 : Keep h0 T15.heap [a1] := Keep.trans K0 Kq15 (allS (Or.inl (List.mem_of_getElem? (i := 0) rfl)) all0)
  have Zs15 : n0 ≤ T15.heap.size := Nat.le_trans Z0 Kq15.1
  show Go p e below _ (T15.setTop (mkF m 9 #[.val (.ref a1), .val (.ref a2)] []))
  refine Go.retVS X15 hx hlk Bd.returns (hb hby d2_9) (by decide) (by decide) hS15 (Nat.le_refl _) (own_EW hw) hZ (by rw [hh]; exact R15) ?_
  show QsC0 Z a1 a2 kc h0 n0 _ T15.heap _
  exact ⟨ovb, okb, rfl, N15, K15, f15_0, f15_1, f15_2, f15_3, f15_4⟩
theorem own_pn_java_lang_StringLatin1 : plainName "java/lang/StringLatin1" = true := by first | (simp [plainName, overriddenIn]; done) | decide +kernel
theorem ef_34 (m : MethodId) (x0 : Int32) : entryFrame m #[(.int x0)] 1 = mkF m 0 #[.val (.int x0)] [] := by first | (simp [entryFrame, mkF, argsToLocals, Value.category]; done) | rfl
theorem d34_0 : decode jdk_43_method_3_code 0 = .ok (.iload_n 0, 1) := by decide +kernel
theorem d34_1 : decode jdk_43_method_3_code 1 = .ok (.sipush 255, 3) := by decide +kernel
theorem d34_4 : decode jdk_43_method_3_code 4 = .ok (.if_icmp .gt 7, 3) := by decide +kernel
theorem d34_7 : decode jdk_43_method_3_code 7 = .ok (.iconst 1, 1) := by decide +kernel
theorem d34_8 : decode jdk_43_method_3_code 8 = .ok (.goto 4, 3) := by decide +kernel
theorem d34_12 : decode jdk_43_method_3_code 12 = .ok (.ireturn, 1) := by decide +kernel
def Q34 (Z : State) (p1 : Int32) (h0 : Heap) (n0 : Nat) (v : Option Value) (h : Heap) (L : List Loc) : Prop := v = some (.int (1 : Int32)) ∧ Fr n0 L ∧ h = h0
set_option maxRecDepth 65536 in
set_option maxHeartbeats 40000000 in
theorem rm34 (l : Launch) (Z : State) (a0 : Array Value) (hw : ∀ d ∈ tables_1, d.before a0 Z = true) (ws : List Jvm.Cond) (p1 : Int32) (h0 : Heap) (n0 : Nat) (Z0 : n0 ≤ h0.size) (hp : ¬ (255 : Int32) < p1) :
    MetFree l (⟨"java/lang/StringLatin1", "canEncode", "(C)Z"⟩ : MethodName) (head1 (Jvm.Cond.code (⟨"java/lang/StringLatin1", "canEncode", "(C)Z"⟩ : MethodName) jdk_43_method_3_code 1 (some .boolean) :: ws) ({ frames := 0, cells := 0, slots := 0, locals := 0 } : Room)) (fun a U => a = #[(.int p1)] ∧ Z.Warmed39 U.vm ∧ U.heap = h0) (fun _ _ _ _ _ => True) (fun _ U o U' => ∃ v L, o = .returned v ∧ Q34 Z p1 h0 n0 v U'.heap L ∧ FrameEnd U o U' L ({ frames := 0, cells := 0, slots := 0, locals := 0 } : Room).cells ({ frames := 0, cells := 0, slots := 0, locals := 0 } : Room).slots) := by
  refine MetFree.of_bodySF (plainFor_of_name own_pn_java_lang_StringLatin1) hisR ?_
  intro p e s m args below meth c s₁ Bd hml0 hP hK
  obtain ⟨rfl, hZ, hh⟩ := hP
  have hx := Bd.exec
  have hby := Bd.bytes
  have hlk := Bd.notSynchronized
  have hml : c.maxLocals = 1 := hml0
  have hown : s.vm.findClass "java/lang/StringLatin1" = some m.cls := findClass_of_methodNamed Bd.named
  have hnm := (name_of_methodNamed Bd.named Bd.method).1
  have X0 : Stand p l e ({ frames := 0, cells := 0, slots := 0, locals := 0 } : Room) s m #[(.int p1)] below meth c s₁ [] 0 0 := Stand.of_body Bd
  have e0 : s₁.heap = h0 := by rw [← hh, Bd.state]; rfl
  have N0 := Fr.nil n0
  show Go p e below (KQ s below (Q34 Z p1 h0 n0) ({ frames := 0, cells := 0, slots := 0, locals := 0 } : Room).cells ({ frames := 0, cells := 0, slots := 0, locals := 0 } : Room).slots) _
  refine Go.body (T := s₁) (σ := s₁) (g' := (mkF m 0 #[.val (.int p1)] [])) (ef_34 m p1) ?_
  refine g_iloadN X0 hx (hb hby d34_0) 1 rfl (v := p1) rfl ?_
  refine g_sipush X0 hx (hb hby d34_1) 4 rfl (255 : Int32) rfl ?_
  refine g_icmp_gt X0 hx (hb hby d34_4) 11 7 (by decide) (by decide) rfl (fun hc4 => False.elim (hp hc4)) (fun hc4 => ?_)
  refine g_iconst X0 hx (hb hby d34_7) 8 rfl (1 : Int32) rfl ?_
  refine g_goto X0 hx (hb hby d34_8) 12 (by decide) (by decide) ?_
  refine Go.retN X0 hx hlk (t := .boolean) Bd.returns (by simp) (hb hby d34_12) (by decide) (by decide) ?_
  show Q34 Z p1 h0 n0 _ s₁.heap _
  rw [e0]
  exact ⟨rfl, N0, rfl⟩
theorem ef_35 (m : MethodId) (x0 : Int32) : entryFrame m #[(.int x0)] 1 = mkF m 0 #[.val (.int x0)] [] := by first | (simp [entryFrame, mkF, argsToLocals, Value.category]; done) | rfl
theorem d35_0 : decode jdk_43_method_46_code 0 = .ok (.iconst 1, 1) := by decide +kernel
theorem d35_1 : decode jdk_43_method_46_code 1 = .ok (.newarray .byte, 2) := by decide +kernel
theorem d35_3 : decode jdk_43_method_46_code 3 = .ok (.dup, 1) := by decide +kernel
theorem d35_4 : decode jdk_43_method_46_code 4 = .ok (.iconst 0, 1) := by decide +kernel
theorem d35_5 : decode jdk_43_method_46_code 5 = .ok (.iload_n 0, 1) := by decide +kernel
theorem d35_6 : decode jdk_43_method_46_code 6 = .ok (.i2b, 1) := by decide +kernel
theorem d35_7 : decode jdk_43_method_46_code 7 = .ok (.bastore, 1) := by decide +kernel
theorem d35_8 : decode jdk_43_method_46_code 8 = .ok (.areturn, 1) := by decide +kernel
def Q35 (Z : State) (p1 : Int32) (h0 : Heap) (n0 : Nat) (v : Option Value) (h : Heap) (L : List Loc) : Prop := ∃ b : Addr, ∃ kb : ClassId, v = some (.ref b) ∧ Fr n0 L ∧ Keep h0 h [] ∧ h0.size ≤ b ∧ (Arv Z h b kb .byte (1 : Int32) ([(.int p1.toInt8.toInt32)]) (.int (0 : Int32)))
set_option maxRecDepth 65536 in
set_option maxHeartbeats 40000000 in
theorem rm35 (l : Launch) (Z : State) (a0 : Array Value) (hw : ∀ d ∈ tables_1, d.before a0 Z = true) (ws : List Jvm.Cond) (p1 : Int32) (h0 : Heap) (n0 : Nat) (Z0 : n0 ≤ h0.size)  :
    MetFree l (⟨"java/lang/StringLatin1", "toBytes", "(C)[B"⟩ : MethodName) (head1 (Jvm.Cond.code (⟨"java/lang/StringLatin1", "toBytes", "(C)[B"⟩ : MethodName) jdk_43_method_46_code 1 (some (.array .byte)) :: ws) ({ frames := 0, cells := 1, slots := 1, locals := 0 } : Room)) (fun a U => a = #[(.int p1)] ∧ Z.Warmed39 U.vm ∧ U.heap = h0) (fun _ _ _ _ _ => True) (fun _ U o U' => ∃ v L, o = .returned v ∧ Q35 Z p1 h0 n0 v U'.heap L ∧ FrameEnd U o U' L ({ frames := 0, cells := 1, slots := 1, locals := 0 } : Room).cells ({ frames := 0, cells := 1, slots := 1, locals := 0 } : Room).slots) := by
  refine MetFree.of_bodySF (plainFor_of_name own_pn_java_lang_StringLatin1) hisR ?_
  intro p e s m args below meth c s₁ Bd hml0 hP hK
  obtain ⟨rfl, hZ, hh⟩ := hP
  have hx := Bd.exec
  have hby := Bd.bytes
  have hlk := Bd.notSynchronized
  have hml : c.maxLocals = 1 := hml0
  have hown : s.vm.findClass "java/lang/StringLatin1" = some m.cls := findClass_of_methodNamed Bd.named
  have hnm := (name_of_methodNamed Bd.named Bd.method).1
  have X0 : Stand p l e ({ frames := 0, cells := 1, slots := 1, locals := 0 } : Room) s m #[(.int p1)] below meth c s₁ [] 0 0 := Stand.of_body Bd
  have e0 : s₁.heap = h0 := by rw [← hh, Bd.state]; rfl
  have N0 := Fr.nil n0
  have K0 : Keep h0 h0 [] := Keep.refl _ _
  show Go p e below (KQ s below (Q35 Z p1 h0 n0) ({ frames := 0, cells := 1, slots := 1, locals := 0 } : Room).cells ({ frames := 0, cells := 1, slots := 1, locals := 0 } : Room).slots) _
  refine Go.body (T := s₁) (σ := s₁) (g' := (mkF m 0 #[.val (.int p1)] [])) (ef_35 m p1) ?_
  refine g_iconst X0 hx (hb hby d35_0) 1 rfl (1 : Int32) rfl ?_
  obtain ⟨T17, h17, cA17, X17, e17, E17, A17, st17⟩ := newP X0 hx hZ (aty := .byte) (hw _ (List.mem_of_getElem? (i := 20) rfl)) e0 (g := (mkF m 1 #[.val (.int p1)] [(.int (1 : Int32))])) rfl (hb hby d35_1) rfl (by decide) (cap := 1) (by decide) (by decide) (by decide) (by decide)
  refine Go.st st17 ?_
  obtain ⟨ob, q17⟩ : ∃ z, z = h0.size := ⟨_, rfl⟩
  rw [← q17] at A17 ⊢
  have g_ob : n0 ≤ ob := Nat.le_trans Z0 (Nat.le_of_eq q17.symm)
  have mh_ob : h0.size ≤ ob := Nat.le_trans K0.1 (Nat.le_of_eq q17.symm)
  have K17 : Keep h0 h17 [] := Keep.ext K0 E17
  have Zs17 : n0 ≤ h17.size := Nat.le_trans Z0 E17.1
  have Av_ob : Arv Z h17 ob cA17 .byte (1 : Int32) ([(.int (0 : Int32))]) (.int (0 : Int32)) := Arv.pad (Arv.new A17 (by decide)) (pad_rep [] (.int (0 : Int32)) 1)
  show Go p e below _ (T17.setTop (mkF m 3 #[.val (.int p1)] [(.ref ob)]))
  refine g_dup X17 hx (hb hby d35_3) 4 rfl rfl ?_
  refine g_iconst X17 hx (hb hby d35_4) 5 rfl (0 : Int32) rfl ?_
  refine g_iloadN X17 hx (hb hby d35_5) 6 rfl (v := p1) rfl ?_
  refine g_i2b X17 hx (hb hby d35_6) 7 rfl p1.toInt8.toInt32 rfl ?_
  obtain ⟨T19, h19, X19, e19, W19, B19, st19⟩ := g_bastore X17 hx (hb hby d35_7) hZ e17 Av_ob (show ¬ (0 : Int32) < 0 ∧ (0 : Int32) < (1 : Int32) from by decide) (i := 0) rfl (by simp)  (L := #[.val (.int p1)]) (S := [(.ref ob)])
  refine Go.st st19 ?_
  have Av_ob_19 : Arv Z h19 ob cA17 .byte (1 : Int32) ([(.int p1.toInt8.toInt32)]) (.int (0 : Int32)) := (own_i2b p1 ▸ B19)
  have K19 : Keep h0 h19 [] := Keep.wr K17 W19 (Or.inr mh_ob)
  have N19 := Fr.snoc X19 N0 g_ob
  have Zs19 : n0 ≤ h19.size := by rw [W19.size]; exact Zs17
  show Go p e below _ (T19.setTop (mkF m 8 #[.val (.int p1)] [(.ref ob)]))
  refine Go.retA X19 hx hlk Bd.returns rfl rfl (hb hby d35_8) (by decide) (by decide) ?_
  show Q35 Z p1 h0 n0 _ T19.heap _
  rw [e19]
  exact ⟨ob, cA17, rfl, N19, K19, mh_ob, Av_ob_19⟩
theorem ef_36 (m : MethodId) (x0 : Addr) (x1 : Addr) (x2 : Int32) : entryFrame m #[(.ref x0), (.ref x1), (.int x2)] 3 = mkF m 0 #[.val (.ref x0), .val (.ref x1), .val (.int x2)] [] := by first | (simp [entryFrame, mkF, argsToLocals, Value.category]; done) | rfl
theorem d36_0 : decode jdk_42_method_151_code 0 = .ok (.aload_n 0, 1) := by decide +kernel
theorem d36_1 : decode jdk_42_method_151_code 1 = .ok (.invokespecial 1, 3) := by decide +kernel
theorem d36_4 : decode jdk_42_method_151_code 4 = .ok (.aload_n 0, 1) := by decide +kernel
theorem d36_5 : decode jdk_42_method_151_code 5 = .ok (.aload_n 1, 1) := by decide +kernel
theorem d36_6 : decode jdk_42_method_151_code 6 = .ok (.putfield 9, 3) := by decide +kernel
theorem d36_9 : decode jdk_42_method_151_code 9 = .ok (.aload_n 0, 1) := by decide +kernel
theorem d36_10 : decode jdk_42_method_151_code 10 = .ok (.iload_n 2, 1) := by decide +kernel
theorem d36_11 : decode jdk_42_method_151_code 11 = .ok (.putfield 15, 3) := by decide +kernel
theorem d36_14 : decode jdk_42_method_151_code 14 = .ok (.return_, 1) := by decide +kernel
def Q36 (Z : State) (a1 : Addr) (a2 : Addr) (u1 : Value) (u2 : Value) (h0 : Heap) (n0 : Nat) (v : Option Value) (h : Heap) (L : List Loc) : Prop := v = none ∧ Fr n0 L ∧ Keep h0 h [a1] ∧ (Exa Z h a1 "java/lang/String") ∧ (Fld Z h a1 "java/lang/String" "value" "[B" (.ref a2)) ∧ (Fld Z h a1 "java/lang/String" "coder" "B" (.int (0 : Int32)))
set_option maxRecDepth 65536 in
set_option maxHeartbeats 40000000 in
theorem rm36 (l : Launch) (Z : State) (a0 : Array Value) (hw : ∀ d ∈ tables_1, d.before a0 Z = true) (ws : List Jvm.Cond) (a1 : Addr) (a2 : Addr) (u1 : Value) (u2 : Value) (h0 : Heap) (n0 : Nat) (Z0 : n0 ≤ h0.size) (E_a1 : Exa Z h0 a1 "java/lang/String") (g_a1 : n0 ≤ a1) (F_value_a1 : Fld Z h0 a1 "java/lang/String" "value" "[B" u1) (F_coder_a1 : Fld Z h0 a1 "java/lang/String" "coder" "B" u2) :
    MetFree l (⟨"java/lang/String", "<init>", "([BB)V"⟩ : MethodName) (head1 (Jvm.Cond.code (⟨"java/lang/String", "<init>", "([BB)V"⟩ : MethodName) jdk_42_method_151_code 3 none :: ws) ({ frames := 1, cells := 0, slots := 0, locals := 12 } : Room)) (fun a U => a = #[(.ref a1), (.ref a2), (.int (0 : Int32))] ∧ Z.Warmed39 U.vm ∧ U.heap = h0) (fun _ _ _ _ _ => True) (fun _ U o U' => ∃ v L, o = .returned v ∧ Q36 Z a1 a2 u1 u2 h0 n0 v U'.heap L ∧ FrameEnd U o U' L ({ frames := 1, cells := 0, slots := 0, locals := 12 } : Room).cells ({ frames := 1, cells := 0, slots := 0, locals := 12 } : Room).slots) := by
  refine MetFree.of_bodySF (plainFor_of_name own_pn_java_lang_String) hisR ?_
  intro p e s m args below meth c s₁ Bd hml0 hP hK
  obtain ⟨rfl, hZ, hh⟩ := hP
  have hx := Bd.exec
  have hby := Bd.bytes
  have hlk := Bd.notSynchronized
  have hml : c.maxLocals = 3 := hml0
  have hown : s.vm.findClass "java/lang/String" = some m.cls := findClass_of_methodNamed Bd.named
  have hnm := (name_of_methodNamed Bd.named Bd.method).1
  have X0 : Stand p l e ({ frames := 1, cells := 0, slots := 0, locals := 12 } : Room) s m #[(.ref a1), (.ref a2), (.int (0 : Int32))] below meth c s₁ [] 0 0 := Stand.of_body Bd
  have e0 : s₁.heap = h0 := by rw [← hh, Bd.state]; rfl
  have N0 := Fr.nil n0
  have K0 : Keep h0 h0 [a1] := Keep.refl _ _
  show Go p e below (KQ s below (Q36 Z a1 a2 u1 u2 h0 n0) ({ frames := 1, cells := 0, slots := 0, locals := 12 } : Room).cells ({ frames := 1, cells := 0, slots := 0, locals := 12 } : Room).slots) _
  refine Go.body (T := s₁) (σ := s₁) (g' := (mkF m 0 #[.val (.ref a1), .val (.ref a2), .val (.int (0 : Int32))] [])) (ef_36 m a1 a2 (0 : Int32)) ?_
  refine g_aloadN X0 hx (hb hby d36_0) 1 rfl (v := (.ref a1)) rfl rfl ?_
  obtain ⟨T21, X21, e21, st21⟩ := initO X0 hx hZ hown (hw _ (List.mem_of_getElem? (i := 16) rfl)) (hw _ (List.mem_of_getElem? (i := 17) rfl)) (hw _ (List.mem_of_getElem? (i := 18) rfl)) e0 (g := (mkF m 1 #[.val (.ref a1), .val (.ref a2), .val (.int (0 : Int32))] [(.ref a1)])) rfl (by rw [hml]; rfl) rfl (hb hby d36_1) (by decide) (W := 0) (by show 2 * 0 + _ ≤ _; exact Nat.le_of_eq rfl) (by decide)
  refine Go.st st21 ?_
  show Go p e below _ (T21.setTop (mkF m 4 #[.val (.ref a1), .val (.ref a2), .val (.int (0 : Int32))] []))
  refine g_aloadN X21 hx (hb hby d36_4) 5 rfl (v := (.ref a1)) rfl rfl ?_
  refine g_aloadN X21 hx (hb hby d36_5) 6 rfl (v := (.ref a2)) rfl rfl ?_
  obtain ⟨T22, h22, X22, e22, W22, st22⟩ := putF X21 hx hZ hown (host := "") (Or.inl (hw _ (List.mem_of_getElem? (i := 25) rfl))) Via.refl e21 F_value_a1 E_a1 (Or.inr ⟨(hw _ (List.mem_of_getElem? (i := 21) rfl)), rfl, hnm⟩) (hw _ (List.mem_of_getElem? (i := 6) rfl)) (ty := (.array .byte)) (by decide) rfl rfl (g := (mkF m 6 #[.val (.ref a1), .val (.ref a2), .val (.int (0 : Int32))] [(.ref a2), (.ref a1)])) rfl rfl (hb hby d36_6)
  refine Go.st st22 ?_
  have E_a1_23 : Exa Z h22 a1 "java/lang/String" := Exa.wr W22 E_a1
  have F_coder_a1_23 : Fld Z h22 a1 "java/lang/String" "coder" "B" u2 := Fld.other W22 F_coder_a1 (Or.inr (slot_ne (Or.inr (hw _ (List.mem_of_getElem? (i := 22) rfl))) (Or.inr (hw _ (List.mem_of_getElem? (i := 21) rfl))) (by decide) (t := .byte) (t' := (.array .byte)) (by decide) (by decide)))
  have F_value_a1_22w : Fld Z h22 a1 "java/lang/String" "value" "[B" (.ref a2) := Fld.same W22 F_value_a1
  have K22 : Keep h0 h22 [a1] := Keep.wr K0 W22 (Or.inl (List.mem_of_getElem? (i := 0) rfl))
  have N22 := Fr.snoc X22 N0 g_a1
  have Zs22 : n0 ≤ h22.size := by rw [W22.size]; exact Z0
  show Go p e below _ (T22.setTop (mkF m 9 #[.val (.ref a1), .val (.ref a2), .val (.int (0 : Int32))] []))
  refine g_aloadN X22 hx (hb hby d36_9) 10 rfl (v := (.ref a1)) rfl rfl ?_
  refine g_iloadN X22 hx (hb hby d36_10) 11 rfl (v := (0 : Int32)) rfl ?_
  obtain ⟨T24, h24, X24, e24, W24, st24⟩ := putF X22 hx hZ hown (host := "") (Or.inl (hw _ (List.mem_of_getElem? (i := 26) rfl))) Via.refl e22 F_coder_a1_23 E_a1_23 (Or.inr ⟨(hw _ (List.mem_of_getElem? (i := 22) rfl)), rfl, hnm⟩) (hw _ (List.mem_of_getElem? (i := 6) rfl)) (ty := .byte) (by decide) rfl rfl (g := (mkF m 11 #[.val (.ref a1), .val (.ref a2), .val (.int (0 : Int32))] [(.int (0 : Int32)), (.ref a1)])) rfl rfl (hb hby d36_11)
  refine Go.st st24 ?_
  have E_a1_25 : Exa Z h24 a1 "java/lang/String" := Exa.wr W24 E_a1_23
  have F_value_a1_25 : Fld Z h24 a1 "java/lang/String" "value" "[B" (.ref a2) := Fld.other W24 F_value_a1_22w (Or.inr (slot_ne (Or.inr (hw _ (List.mem_of_getElem? (i := 21) rfl))) (Or.inr (hw _ (List.mem_of_getElem? (i := 22) rfl))) (by decide) (t := (.array .byte)) (t' := .byte) (by decide) (by decide)))
  have F_coder_a1_24w : Fld Z h24 a1 "java/lang/String" "coder" "B" (.int (0 : Int32)) := Fld.same W24 F_coder_a1_23
  have K24 : Keep h0 h24 [a1] := Keep.wr K22 W24 (Or.inl (List.mem_of_getElem? (i := 0) rfl))
  have N24 := Fr.snoc X24 N22 g_a1
  have Zs24 : n0 ≤ h24.size := by rw [W24.size]; exact Zs22
  show Go p e below _ (T24.setTop (mkF m 14 #[.val (.ref a1), .val (.ref a2), .val (.int (0 : Int32))] []))
  refine Go.retV X24 hx hlk Bd.returns (hb hby d36_14) (by decide) (by decide) ?_
  show Q36 Z a1 a2 u1 u2 h0 n0 _ T24.heap _
  rw [e24]
  exact ⟨rfl, N24, K24, E_a1_25, F_value_a1_25, F_coder_a1_24w⟩
theorem ef_33 (m : MethodId) (x0 : Int32) : entryFrame m #[(.int x0)] 1 = mkF m 0 #[.val (.int x0)] [] := by first | (simp [entryFrame, mkF, argsToLocals, Value.category]; done) | rfl
theorem d33_0 : decode jdk_42_method_139_code 0 = .ok (.getstatic 38, 3) := by decide +kernel
theorem d33_3 : decode jdk_42_method_139_code 3 = .ok (.ifCond .eq 23, 3) := by decide +kernel
theorem d33_6 : decode jdk_42_method_139_code 6 = .ok (.iload_n 0, 1) := by decide +kernel
theorem own_pd1 : parseMethodDescriptor "(C)Z" = some ⟨[.char], some .boolean⟩ := by decide +kernel
theorem d33_7 : decode jdk_42_method_139_code 7 = .ok (.invokestatic 1015, 3) := by decide +kernel
theorem d33_10 : decode jdk_42_method_139_code 10 = .ok (.ifCond .eq 16, 3) := by decide +kernel
theorem d33_13 : decode jdk_42_method_139_code 13 = .ok (.new 10, 3) := by decide +kernel
theorem d33_16 : decode jdk_42_method_139_code 16 = .ok (.dup, 1) := by decide +kernel
theorem d33_17 : decode jdk_42_method_139_code 17 = .ok (.iload_n 0, 1) := by decide +kernel
theorem own_pd2 : parseMethodDescriptor "(C)[B" = some ⟨[.char], some (.array .byte)⟩ := by decide +kernel
theorem d33_18 : decode jdk_42_method_139_code 18 = .ok (.invokestatic 1018, 3) := by decide +kernel
theorem d33_21 : decode jdk_42_method_139_code 21 = .ok (.iconst 0, 1) := by decide +kernel
theorem own_pd3 : parseMethodDescriptor "([BB)V" = some ⟨[(.array .byte), .byte], none⟩ := by decide +kernel
theorem d33_22 : decode jdk_42_method_139_code 22 = .ok (.invokespecial 209, 3) := by decide +kernel
theorem d33_25 : decode jdk_42_method_139_code 25 = .ok (.areturn, 1) := by decide +kernel
def Q33 (Z : State) (p1 : Int32) (cs : Int32) (h0 : Heap) (n0 : Nat) (v : Option Value) (h : Heap) (L : List Loc) : Prop := ∃ b : Addr, ∃ vb : Addr, ∃ kb : ClassId, v = some (.ref b) ∧ Fr n0 L ∧ Keep h0 h [] ∧ h0.size ≤ b ∧ h0.size ≤ vb ∧ (b ≠ vb) ∧ (Exa Z h b "java/lang/String") ∧ (Fld Z h b "java/lang/String" "value" "[B" (.ref vb)) ∧ (Fld Z h b "java/lang/String" "coder" "B" (.int (0 : Int32))) ∧ (Arv Z h vb kb .byte (1 : Int32) ([(.int p1.toInt8.toInt32)]) (.int (0 : Int32)))
set_option maxRecDepth 65536 in
set_option maxHeartbeats 40000000 in
theorem rm33 (l : Launch) (Z : State) (a0 : Array Value) (hw : ∀ d ∈ tables_1, d.before a0 Z = true) (ws : List Jvm.Cond) (p1 : Int32) (cs : Int32) (h0 : Heap) (n0 : Nat) (Z0 : n0 ≤ h0.size) (S_COMPACT_STRINGS : Sta Z h0 "java/lang/String" "COMPACT_STRINGS" "Z" (.int cs)) (hcs : ¬ cs = 0) (hp : ¬ (255 : Int32) < p1) :
    MetFree l (⟨"java/lang/String", "valueOf", "(C)Ljava/lang/String;"⟩ : MethodName) (head1 (Jvm.Cond.code (⟨"java/lang/String", "valueOf", "(C)Ljava/lang/String;"⟩ : MethodName) jdk_42_method_139_code 1 (some (.object "java/lang/String")) :: ws) ({ frames := 2, cells := 2, slots := 5, locals := 27 } : Room)) (fun a U => a = #[(.int p1)] ∧ Z.Warmed39 U.vm ∧ U.heap = h0) (fun _ _ _ _ _ => True) (fun _ U o U' => ∃ v L, o = .returned v ∧ Q33 Z p1 cs h0 n0 v U'.heap L ∧ FrameEnd U o U' L ({ frames := 2, cells := 2, slots := 5, locals := 27 } : Room).cells ({ frames := 2, cells := 2, slots := 5, locals := 27 } : Room).slots) := by
  refine MetFree.of_bodySF (plainFor_of_name own_pn_java_lang_String) hisR ?_
  intro p e s m args below meth c s₁ Bd hml0 hP hK
  obtain ⟨rfl, hZ, hh⟩ := hP
  have hx := Bd.exec
  have hby := Bd.bytes
  have hlk := Bd.notSynchronized
  have hml : c.maxLocals = 1 := hml0
  have hown : s.vm.findClass "java/lang/String" = some m.cls := findClass_of_methodNamed Bd.named
  have hnm := (name_of_methodNamed Bd.named Bd.method).1
  have X0 : Stand p l e ({ frames := 2, cells := 2, slots := 5, locals := 27 } : Room) s m #[(.int p1)] below meth c s₁ [] 0 0 := Stand.of_body Bd
  have e0 : s₁.heap = h0 := by rw [← hh, Bd.state]; rfl
  have N0 := Fr.nil n0
  have K0 : Keep h0 h0 [] := Keep.refl _ _
  show Go p e below (KQ s below (Q33 Z p1 cs h0 n0) ({ frames := 2, cells := 2, slots := 5, locals := 27 } : Room).cells ({ frames := 2, cells := 2, slots := 5, locals := 27 } : Room).slots) _
  refine Go.body (T := s₁) (σ := s₁) (g' := (mkF m 0 #[.val (.int p1)] [])) (ef_33 m p1) ?_
  obtain ⟨T26, X26, e26, st26⟩ := getS2 X0 hx hZ hown (host := "") (Or.inl (hw _ (List.mem_of_getElem? (i := 36) rfl))) Via.refl e0 S_COMPACT_STRINGS (g := (mkF m 0 #[.val (.int p1)] [])) rfl (hb hby d33_0)
  refine Go.st st26 ?_
  show Go p e below _ (T26.setTop (mkF m 3 #[.val (.int p1)] [(.int cs)]))
  refine g_if_eq X26 hx (hb hby d33_3) 26 6 (by decide) (by decide) rfl (fun hc3 => False.elim (hcs hc3)) (fun hc3 => ?_)
  refine g_iloadN X26 hx (hb hby d33_6) 7 rfl (v := p1) rfl ?_
  obtain ⟨_, _, ⟨T27, L27, k27, n27⟩, -, X27, ⟨Lc27, hQ27, l27, y27, z27⟩, st27⟩ := Jvm.LawKit.callS X26 hx (y := (⟨"java/lang/StringLatin1", "canEncode", "(C)Z"⟩ : MethodName)) hown (mvT hZ (hw _ (List.mem_of_getElem? (i := 141) rfl))) (mvT hZ (hw _ (List.mem_of_getElem? (i := 142) rfl))) (mvT hZ (hw _ (List.mem_of_getElem? (i := 77) rfl))) (mvT hZ (hw _ (List.mem_of_getElem? (i := 143) rfl))) (by decide) (backOf (W := 0) (rm34 l Z a0 hw [] p1 h0 n0 Z0 hp) hZ (hw _ (List.mem_of_getElem? (i := 143) rfl)) (hw _ (List.mem_of_getElem? (i := 77) rfl)) (by decide) (by decide)) (g := (mkF m 7 #[.val (.int p1)] [(.int p1)])) rfl (by rw [hml]; rfl) (argsL := [(.int p1)]) (rest := []) (lenOf own_pd1 rfl) rfl (by show 2 * 0 + _ ≤ _; exact Nat.le_of_eq rfl) (hb hby d33_7) (fun _ _ => ⟨rfl, e26, (by decide : 0 + 0 ≤ _), (by decide : 0 + 0 ≤ _)⟩)
  dsimp only [Pt.U, Pt.locs, Pt.cells, Pt.slots] at X27 l27 y27 z27 st27 hQ27
  subst l27 y27 z27
  obtain ⟨rfl, Nq27, e27⟩ := hQ27
  refine Go.st st27 ?_
  have N27 := Fr.app N0 Nq27
  show Go p e below _ (T27.setTop (mkF m 10 #[.val (.int p1)] [(.int (1 : Int32))]))
  refine g_if_eq X27 hx (hb hby d33_10) 26 13 (by decide) (by decide) rfl (fun hc10 => False.elim (absurd hc10 (by decide))) (fun hc10 => ?_)
  obtain ⟨T28, h28, X28, e28, E28, A28, D28, -, st28⟩ := newO X27 hx hZ hown (hw _ (List.mem_of_getElem? (i := 144) rfl)) (hw _ (List.mem_of_getElem? (i := 6) rfl)) (hw _ (List.mem_of_getElem? (i := 7) rfl)) e27 (g := (mkF m 13 #[.val (.int p1)] [])) rfl (hb hby d33_13) (by decide) (by decide)
  refine Go.st st28 ?_
  obtain ⟨ob, q28⟩ : ∃ z, z = h0.size := ⟨_, rfl⟩
  rw [← q28] at A28 D28 ⊢
  have g_ob : n0 ≤ ob := Nat.le_trans Z0 (Nat.le_of_eq q28.symm)
  have mh_ob : h0.size ≤ ob := Nat.le_trans K0.1 (Nat.le_of_eq q28.symm)
  have F_value_28 : Fld Z h28 ob "java/lang/String" "value" "[B" .null := D28 (Or.inr (hw _ (List.mem_of_getElem? (i := 21) rfl))) (ty := (.array .byte)) (by decide)
  have F_coder_28 : Fld Z h28 ob "java/lang/String" "coder" "B" (.int (0 : Int32)) := D28 (Or.inr (hw _ (List.mem_of_getElem? (i := 22) rfl))) (ty := .byte) (by decide)
  have K28 : Keep h0 h28 [] := Keep.ext K0 E28
  have Zs28 : n0 ≤ h28.size := Nat.le_trans Z0 E28.1
  show Go p e below _ (T28.setTop (mkF m 16 #[.val (.int p1)] [(.ref ob)]))
  refine g_dup X28 hx (hb hby d33_16) 17 rfl rfl ?_
  refine g_iloadN X28 hx (hb hby d33_17) 18 rfl (v := p1) rfl ?_
  obtain ⟨_, _, ⟨T30, L30, k30, n30⟩, -, X30, ⟨Lc30, hQ30, l30, y30, z30⟩, st30⟩ := Jvm.LawKit.callS X28 hx (y := (⟨"java/lang/StringLatin1", "toBytes", "(C)[B"⟩ : MethodName)) hown (mvT hZ (hw _ (List.mem_of_getElem? (i := 145) rfl))) (mvT hZ (hw _ (List.mem_of_getElem? (i := 146) rfl))) (mvT hZ (hw _ (List.mem_of_getElem? (i := 77) rfl))) (mvT hZ (hw _ (List.mem_of_getElem? (i := 147) rfl))) (by decide) (backOf (W := 2) (rm35 l Z a0 hw [] p1 h28 n0 Zs28 ) hZ (hw _ (List.mem_of_getElem? (i := 147) rfl)) (hw _ (List.mem_of_getElem? (i := 77) rfl)) (by decide) (by decide)) (g := (mkF m 18 #[.val (.int p1)] [(.int p1), (.ref ob), (.ref ob)])) rfl (by rw [hml]; rfl) (argsL := [(.int p1)]) (rest := [(.ref ob), (.ref ob)]) (lenOf own_pd2 rfl) rfl (by show 2 * 0 + _ ≤ _; exact Nat.le_of_eq rfl) (hb hby d33_18) (fun _ _ => ⟨rfl, e28, (by decide : 1 + 1 ≤ _), (by decide : 4 + 1 ≤ _)⟩)
  dsimp only [Pt.U, Pt.locs, Pt.cells, Pt.slots] at X30 l30 y30 z30 st30 hQ30
  subst l30 y30 z30
  obtain ⟨ovb, okb, rfl, Nq30, Kq30, f30_0, f30_1⟩ := hQ30
  refine Go.st st30 ?_
  have N30 := Fr.app N27 Nq30
  have E_ob_31 : Exa Z T30.heap ob "java/lang/String" := Exa.keep A28 Kq30
  have F_value_ob_31 : Fld Z T30.heap ob "java/lang/String" "value" "[B" .null := Fld.keep F_value_28 Kq30 nin0
  have F_coder_ob_31 : Fld Z T30.heap ob "java/lang/String" "coder" "B" (.int (0 : Int32)) := Fld.keep F_coder_28 Kq30 nin0
  have ne_ob_ovb : ob ≠ ovb := Nat.ne_of_lt (Nat.lt_of_lt_of_le A28.lt f30_0)
  have g_ovb : n0 ≤ ovb := Nat.le_trans Zs28 f30_0
  have mh_ovb : h0.size ≤ ovb := Nat.le_trans K28.1 f30_0
  have K30 : Keep h0 T30.heap [] := Keep.trans K28 Kq30 all0
  have Zs30 : n0 ≤ T30.heap.size := Nat.le_trans Zs28 Kq30.1
  show Go p e below _ (T30.setTop (mkF m 21 #[.val (.int p1)] [(.ref ovb), (.ref ob), (.ref ob)]))
  refine g_iconst X30 hx (hb hby d33_21) 22 rfl (0 : Int32) rfl ?_
  obtain ⟨_, _, ⟨T32, L32, k32, n32⟩, -, X32, ⟨Lc32, hQ32, l32, y32, z32⟩, st32⟩ := X30.specialBack hx (y := (⟨"java/lang/String", "<init>", "([BB)V"⟩ : MethodName)) rfl hown (mvT hZ (hw _ (List.mem_of_getElem? (i := 148) rfl))) (mvT hZ (hw _ (List.mem_of_getElem? (i := 149) rfl))) (mvT hZ (hw _ (List.mem_of_getElem? (i := 150) rfl))) (by decide) (backOf (W := 1) (rm36 l Z a0 hw [] ob ovb .null (.int (0 : Int32)) T30.heap n0 Zs30 E_ob_31 g_ob F_value_ob_31 F_coder_ob_31) hZ (hw _ (List.mem_of_getElem? (i := 150) rfl)) (hw _ (List.mem_of_getElem? (i := 7) rfl)) (by decide) (by decide)) (g := (mkF m 22 #[.val (.int p1)] [(.int (0 : Int32)), (.ref ovb), (.ref ob), (.ref ob)])) rfl (by rw [hml]; rfl) (Steps.refl _) (a := ob) (argsL := [(.ref ovb), (.int (0 : Int32))]) (rest := [(.ref ob)]) (lenOf own_pd3 rfl) rfl (by show 2 * 0 + _ ≤ _; exact Nat.le_of_eq rfl) (hb hby d33_22) (fun _ _ => ⟨rfl, rfl, (by decide : 2 + 0 ≤ _), (by decide : 5 + 0 ≤ _)⟩)
  dsimp only [Pt.U, Pt.locs, Pt.cells, Pt.slots] at X32 l32 y32 z32 st32 hQ32
  subst l32 y32 z32
  obtain ⟨rfl, Nq32, Kq32, f32_0, f32_1, f32_2⟩ := hQ32
  refine Go.tr st32 ?_
  have N32 := Fr.app N30 Nq32
  have E_ob_33 : Exa Z T32.heap ob "java/lang/String" := Exa.keep E_ob_31 Kq32
  have A_ovb_33 : Arv Z T32.heap ovb okb .byte (1 : Int32) ([(.int p1.toInt8.toInt32)]) (.int (0 : Int32)) := Arv.keep f30_1 Kq32 (ninS (Ne.symm ne_ob_ovb) nin0)
  have K32 : Keep h0 T32.heap [] := Keep.trans K30 Kq32 (allS (Or.inr mh_ob) all0)
  have Zs32 : n0 ≤ T32.heap.size := Nat.le_trans Zs30 Kq32.1
  show Go p e below _ (T32.setTop (mkF m 25 #[.val (.int p1)] [(.ref ob)]))
  refine Go.retA X32 hx hlk Bd.returns rfl rfl (hb hby d33_25) (by decide) (by decide) ?_
  show Q33 Z p1 cs h0 n0 _ T32.heap _
  exact ⟨ob, ovb, okb, rfl, N32, K32, mh_ob, mh_ovb, ne_ob_ovb, f32_0, f32_1, f32_2, A_ovb_33⟩
theorem own_pn_java_lang_StringUTF16 : plainName "java/lang/StringUTF16" = true := by first | (simp [plainName, overriddenIn]; done) | decide +kernel
theorem ef_cmp (m : MethodId) (x0 : Addr) (x1 : Int32) (x2 : Addr) (x3 : Int32) (x4 : Int32) : entryFrame m #[(.ref x0), (.int x1), (.ref x2), (.int x3), (.int x4)] 7 = mkF m 0 #[.val (.ref x0), .val (.int x1), .val (.ref x2), .val (.int x3), .val (.int x4), .unset, .unset] [] := by first | (simp [entryFrame, mkF, argsToLocals, Value.category]; done) | rfl
theorem d8_0 : decode jdk_52_method_21_code 0 = .ok (.iconst 0, 1) := by decide +kernel
theorem d8_1 : decode jdk_52_method_21_code 1 = .ok (.istore 5, 2) := by decide +kernel
theorem d8_3 : decode jdk_52_method_21_code 3 = .ok (.iload 5, 2) := by decide +kernel
theorem d8_5 : decode jdk_52_method_21_code 5 = .ok (.iload 4, 2) := by decide +kernel
theorem d8_7 : decode jdk_52_method_21_code 7 = .ok (.if_icmp .ge 37, 3) := by decide +kernel
theorem d8_44 : decode jdk_52_method_21_code 44 = .ok (.iload 4, 2) := by decide +kernel
theorem d8_46 : decode jdk_52_method_21_code 46 = .ok (.ireturn, 1) := by decide +kernel
theorem d8_10 : decode jdk_52_method_21_code 10 = .ok (.aload_n 0, 1) := by decide +kernel
theorem d8_11 : decode jdk_52_method_21_code 11 = .ok (.iload_n 1, 1) := by decide +kernel
theorem d8_12 : decode jdk_52_method_21_code 12 = .ok (.caload, 1) := by decide +kernel
theorem d8_13 : decode jdk_52_method_21_code 13 = .ok (.istore 6, 2) := by decide +kernel
theorem d8_15 : decode jdk_52_method_21_code 15 = .ok (.iload 6, 2) := by decide +kernel
theorem d8_17 : decode jdk_52_method_21_code 17 = .ok (.sipush 255, 3) := by decide +kernel
theorem d8_20 : decode jdk_52_method_21_code 20 = .ok (.if_icmp .le 6, 3) := by decide +kernel
theorem d8_26 : decode jdk_52_method_21_code 26 = .ok (.aload_n 2, 1) := by decide +kernel
theorem d8_27 : decode jdk_52_method_21_code 27 = .ok (.iload_n 3, 1) := by decide +kernel
theorem d8_28 : decode jdk_52_method_21_code 28 = .ok (.iload 6, 2) := by decide +kernel
theorem d8_30 : decode jdk_52_method_21_code 30 = .ok (.i2b, 1) := by decide +kernel
theorem d8_31 : decode jdk_52_method_21_code 31 = .ok (.bastore, 1) := by decide +kernel
theorem d8_32 : decode jdk_52_method_21_code 32 = .ok (.iinc 1 1, 3) := by decide +kernel
theorem d8_35 : decode jdk_52_method_21_code 35 = .ok (.iinc 3 1, 3) := by decide +kernel
theorem d8_38 : decode jdk_52_method_21_code 38 = .ok (.iinc 5 1, 3) := by decide +kernel
theorem d8_41 : decode jdk_52_method_21_code 41 = .ok (.goto (-38), 3) := by decide +kernel
theorem d8_23 : decode jdk_52_method_21_code 23 = .ok (.iload 5, 2) := by decide +kernel
theorem d8_25 : decode jdk_52_method_21_code 25 = .ok (.ireturn, 1) := by decide +kernel
def Qcmp (Z : State) (a1 : Addr) (a3 : Addr) (kc : ClassId) (kb : ClassId) (us : List Int32) (h0 : Heap) (n0 : Nat) (v : Option Value) (h : Heap) (L : List Loc) : Prop := ∃ r : Nat, v = some (.int (Int32.ofNat r)) ∧ Fr n0 L ∧ Keep h0 h [a3] ∧ (Arv Z h a3 kb .byte (Int32.ofNat us.length) (own_cv us r) (.int (0 : Int32))) ∧ (r ≤ us.length) ∧ (∀ j, j < r → ¬ (255 : Int32) < us.getD j 0) ∧ (r < us.length → (255 : Int32) < us.getD r 0)
set_option maxRecDepth 65536 in
set_option maxHeartbeats 40000000 in
theorem rmcmp (l : Launch) (Z : State) (a0 : Array Value) (hw : ∀ d ∈ tables_1, d.before a0 Z = true) (ws : List Jvm.Cond) (a1 : Addr) (a3 : Addr) (kc : ClassId) (kb : ClassId) (us : List Int32) (h0 : Heap) (n0 : Nat) (Z0 : n0 ≤ h0.size) (A_a1 : Arv Z h0 a1 kc .char (Int32.ofNat us.length) (us.map Value.int) (.int (0 : Int32))) (A_a3 : Arv Z h0 a3 kb .byte (Int32.ofNat us.length) (List.replicate us.length (.int (0 : Int32))) (.int (0 : Int32))) (g_a3 : n0 ≤ a3) (ne_a1_a3 : a1 ≠ a3) (hle : us.length ≤ 4) :
    MetFree l (⟨"java/lang/StringUTF16", "compress", "([CI[BII)I"⟩ : MethodName) (head1 (Jvm.Cond.code (⟨"java/lang/StringUTF16", "compress", "([CI[BII)I"⟩ : MethodName) jdk_52_method_21_code 7 (some .int) :: ws) ({ frames := 0, cells := 0, slots := 0, locals := 0 } : Room)) (fun a U => a = #[(.ref a1), (.int (0 : Int32)), (.ref a3), (.int (0 : Int32)), (.int (Int32.ofNat us.length))] ∧ Z.Warmed39 U.vm ∧ U.heap = h0) (fun _ _ _ _ _ => True) (fun _ U o U' => ∃ v L, o = .returned v ∧ Qcmp Z a1 a3 kc kb us h0 n0 v U'.heap L ∧ FrameEnd U o U' L ({ frames := 0, cells := 0, slots := 0, locals := 0 } : Room).cells ({ frames := 0, cells := 0, slots := 0, locals := 0 } : Room).slots) := by
  refine MetFree.of_bodySF (plainFor_of_name own_pn_java_lang_StringUTF16) hisR ?_
  intro p e s m args below meth c s₁ Bd hml0 hP hK
  obtain ⟨rfl, hZ, hh⟩ := hP
  have hx := Bd.exec
  have hby := Bd.bytes
  have hlk := Bd.notSynchronized
  have hml : c.maxLocals = 7 := hml0
  have hown : s.vm.findClass "java/lang/StringUTF16" = some m.cls := findClass_of_methodNamed Bd.named
  have hnm := (name_of_methodNamed Bd.named Bd.method).1
  have X0 : Stand p l e ({ frames := 0, cells := 0, slots := 0, locals := 0 } : Room) s m #[(.ref a1), (.int (0 : Int32)), (.ref a3), (.int (0 : Int32)), (.int (Int32.ofNat us.length))] below meth c s₁ [] 0 0 := Stand.of_body Bd
  have e0 : s₁.heap = h0 := by rw [← hh, Bd.state]; rfl
  have N0 := Fr.nil n0
  have K0 : Keep h0 h0 [a3] := Keep.refl _ _
  show Go p e below (KQ s below (Qcmp Z a1 a3 kc kb us h0 n0) ({ frames := 0, cells := 0, slots := 0, locals := 0 } : Room).cells ({ frames := 0, cells := 0, slots := 0, locals := 0 } : Room).slots) _
  refine Go.body (T := s₁) (σ := s₁) (g' := (mkF m 0 #[.val (.ref a1), .val (.int (0 : Int32)), .val (.ref a3), .val (.int (0 : Int32)), .val (.int (Int32.ofNat us.length)), .unset, .unset] [])) (ef_cmp m a1 (0 : Int32) a3 (0 : Int32) (Int32.ofNat us.length)) ?_
  refine g_iconst X0 hx (hb hby d8_0) 1 rfl (0 : Int32) rfl ?_
  refine g_istore X0 hx (hb hby d8_1) 3 rfl #[.val (.ref a1), .val (.int (0 : Int32)), .val (.ref a3), .val (.int (0 : Int32)), .val (.int (Int32.ofNat us.length)), .val (.int (0 : Int32)), .unset] rfl ?_
  have lp : ∀ tl : Nat, ∀ (i : Nat) (sl : Slot) {Ts34 : State} {lc34 : List Loc} {hs34 : Heap} (Xs34 : Stand p l e ({ frames := 0, cells := 0, slots := 0, locals := 0 } : Room) s m #[(.ref a1), (.int (0 : Int32)), (.ref a3), (.int (0 : Int32)), (.int (Int32.ofNat us.length))] below meth c Ts34 lc34 0 0) (es34 : Ts34.heap = hs34) (Ns34 : Fr n0 lc34) (Ks34 : Keep h0 hs34 [a3]) (Zs34 : n0 ≤ hs34.size) (Arv_s34_0 : Arv Z hs34 a3 kb .byte (Int32.ofNat us.length) (own_cv us i) (.int (0 : Int32))) (hsl : One sl) (hj : ∀ j, j < i → ¬ (255 : Int32) < us.getD j 0), i + tl = us.length → Go p e below (KQ s below (Qcmp Z a1 a3 kc kb us h0 n0) ({ frames := 0, cells := 0, slots := 0, locals := 0 } : Room).cells ({ frames := 0, cells := 0, slots := 0, locals := 0 } : Room).slots) (Ts34.setTop (mkF m 3 #[.val (.ref a1), .val (.int (Int32.ofNat i)), .val (.ref a3), .val (.int (Int32.ofNat i)), .val (.int (Int32.ofNat us.length)), .val (.int (Int32.ofNat i)), sl] [])) := by
    intro tl
    induction tl with
    | zero => 
      intro i sl Ts34 lc34 hs34 Xs34 es34 Ns34 Ks34 Zs34 Arv_s34_0 hsl hj htl
      refine g_iload Xs34 hx (hb hby d8_3) 5 rfl (v := (Int32.ofNat i)) rfl ?_
      refine g_iload Xs34 hx (hb hby d8_5) 7 rfl (v := (Int32.ofNat us.length)) rfl ?_
      refine g_icmp_ge Xs34 hx (hb hby d8_7) 44 10 (by decide) (by decide) rfl (fun hc7 => ?_) (fun hc7 => False.elim (absurd (own_lt (by omega) (by omega) hc7) (by omega)))
      refine g_iload Xs34 hx (hb hby d8_44) 46 rfl (v := (Int32.ofNat us.length)) rfl ?_
      refine Go.retI Xs34 hx hlk Bd.returns (hb hby d8_46) (by decide) (by decide) ?_
      show Qcmp Z a1 a3 kc kb us h0 n0 _ Ts34.heap _
      rw [es34]
      have hiE : i = us.length := by omega
      exact ⟨us.length, rfl, Ns34, Ks34, by have q := Arv_s34_0; rw [hiE] at q; exact q, Nat.le_refl _, fun j q => hj j (by omega), fun q => absurd q (by omega)⟩
    | succ tl ih => 
      intro i sl Ts34 lc34 hs34 Xs34 es34 Ns34 Ks34 Zs34 Arv_s34_0 hsl hj htl
      refine g_iload Xs34 hx (hb hby d8_3) 5 rfl (v := (Int32.ofNat i)) rfl ?_
      refine g_iload Xs34 hx (hb hby d8_5) 7 rfl (v := (Int32.ofNat us.length)) rfl ?_
      refine g_icmp_ge Xs34 hx (hb hby d8_7) 44 10 (by decide) (by decide) rfl (fun hc7 => False.elim (hc7 (own_in (by omega) (by omega)).2)) (fun hc7 => ?_)
      refine g_aloadN Xs34 hx (hb hby d8_10) 11 rfl (v := (.ref a1)) rfl rfl ?_
      refine g_iloadN Xs34 hx (hb hby d8_11) 12 rfl (v := (Int32.ofNat i)) rfl ?_
      refine g_caload Xs34 hx (hb hby d8_12) 13 rfl hZ es34 (Arv.keep A_a1 Ks34 (ninS ne_a1_a3 nin0)) (own_in (by omega) (by omega)) (.int (us.getD i 0)) (by rw [own_cl (by omega)]; exact own_mapget us (by omega)) ?_
      refine g_istore Xs34 hx (hb hby d8_13) 15 rfl #[.val (.ref a1), .val (.int (Int32.ofNat i)), .val (.ref a3), .val (.int (Int32.ofNat i)), .val (.int (Int32.ofNat us.length)), .val (.int (Int32.ofNat i)), .val (.int (us.getD i 0))] (own_one hsl rfl rfl) ?_
      refine g_iload Xs34 hx (hb hby d8_15) 17 rfl (v := (us.getD i 0)) rfl ?_
      refine g_sipush Xs34 hx (hb hby d8_17) 20 rfl (255 : Int32) rfl ?_
      refine g_icmp_le Xs34 hx (hb hby d8_20) 26 23 (by decide) (by decide) rfl (fun hc20 => ?_) (fun hc20 => ?_)
      · refine g_aloadN Xs34 hx (hb hby d8_26) 27 rfl (v := (.ref a3)) rfl rfl ?_
        refine g_iloadN Xs34 hx (hb hby d8_27) 28 rfl (v := (Int32.ofNat i)) rfl ?_
        refine g_iload Xs34 hx (hb hby d8_28) 30 rfl (v := (us.getD i 0)) rfl ?_
        refine g_i2b Xs34 hx (hb hby d8_30) 31 rfl (us.getD i 0).toInt8.toInt32 rfl ?_
        obtain ⟨T36, h36, X36, e36, W36, B36, st36⟩ := g_bastore Xs34 hx (hb hby d8_31) hZ es34 Arv_s34_0 (own_in (by omega) (by omega)) (i := i) (own_cl (by omega)) (by rw [own_cvlen (by omega)]; omega)  (L := #[.val (.ref a1), .val (.int (Int32.ofNat i)), .val (.ref a3), .val (.int (Int32.ofNat i)), .val (.int (Int32.ofNat us.length)), .val (.int (Int32.ofNat i)), .val (.int (us.getD i 0))]) (S := [])
        refine Go.st st36 ?_
        have Av_a3_36 : Arv Z h36 a3 kb .byte (Int32.ofNat us.length) (own_cv us (i + 1)) (.int (0 : Int32)) := (by have q := B36; rw [own_i2b, own_cvset (by omega)] at q; exact q)
        have K36 : Keep h0 h36 [a3] := Keep.wr Ks34 W36 (Or.inl (List.mem_of_getElem? (i := 0) rfl))
        have N36 := Fr.snoc X36 Ns34 g_a3
        have Zs36 : n0 ≤ h36.size := by rw [W36.size]; exact Zs34
        show Go p e below _ (T36.setTop (mkF m 32 #[.val (.ref a1), .val (.int (Int32.ofNat i)), .val (.ref a3), .val (.int (Int32.ofNat i)), .val (.int (Int32.ofNat us.length)), .val (.int (Int32.ofNat i)), .val (.int (us.getD i 0))] []))
        refine g_iinc X36 hx (hb hby d8_32) 35 rfl (x := (Int32.ofNat i)) rfl (Int32.ofNat (i + 1)) (own_up i) #[.val (.ref a1), .val (.int (Int32.ofNat (i + 1))), .val (.ref a3), .val (.int (Int32.ofNat i)), .val (.int (Int32.ofNat us.length)), .val (.int (Int32.ofNat i)), .val (.int (us.getD i 0))] rfl ?_
        refine g_iinc X36 hx (hb hby d8_35) 38 rfl (x := (Int32.ofNat i)) rfl (Int32.ofNat (i + 1)) (own_up i) #[.val (.ref a1), .val (.int (Int32.ofNat (i + 1))), .val (.ref a3), .val (.int (Int32.ofNat (i + 1))), .val (.int (Int32.ofNat us.length)), .val (.int (Int32.ofNat i)), .val (.int (us.getD i 0))] rfl ?_
        refine g_iinc X36 hx (hb hby d8_38) 41 rfl (x := (Int32.ofNat i)) rfl (Int32.ofNat (i + 1)) (own_up i) #[.val (.ref a1), .val (.int (Int32.ofNat (i + 1))), .val (.ref a3), .val (.int (Int32.ofNat (i + 1))), .val (.int (Int32.ofNat us.length)), .val (.int (Int32.ofNat (i + 1))), .val (.int (us.getD i 0))] rfl ?_
        refine g_goto X36 hx (hb hby d8_41) 3 (by decide) (by decide) ?_
        exact ih (i + 1) (.val (.int (us.getD i 0))) (own_mono X36 (by decide) (by decide)) e36 N36 K36 Zs36 Av_a3_36 (One.val rfl) (own_nextp hj hc20) (by omega)
      · refine g_iload Xs34 hx (hb hby d8_23) 25 rfl (v := (Int32.ofNat i)) rfl ?_
        refine Go.retI Xs34 hx hlk Bd.returns (hb hby d8_25) (by decide) (by decide) ?_
        show Qcmp Z a1 a3 kc kb us h0 n0 _ Ts34.heap _
        rw [es34]
        exact ⟨i, rfl, Ns34, Ks34, Arv_s34_0, by omega, hj, fun _ => hc20⟩
  exact lp us.length 0 .unset (own_mono X0 (by decide) (by decide)) e0 N0 K0 Z0 A_a3 One.u (fun j q => absurd q (by omega)) (by omega)
theorem ef_pc (m : MethodId) (x0 : Addr) (x1 : Int32) (x2 : Int32) : entryFrame m #[(.ref x0), (.int x1), (.int x2)] 3 = mkF m 0 #[.val (.ref x0), .val (.int x1), .val (.int x2)] [] := by first | (simp [entryFrame, mkF, argsToLocals, Value.category]; done) | rfl
theorem d24_0 : decode jdk_52_method_4_code 0 = .ok (.getstatic 44, 3) := by decide +kernel
theorem d24_3 : decode jdk_52_method_4_code 3 = .ok (.ifCond .ne 25, 3) := by decide +kernel
theorem d24_28 : decode jdk_52_method_4_code 28 = .ok (.iload_n 1, 1) := by decide +kernel
theorem d24_29 : decode jdk_52_method_4_code 29 = .ok (.iconst 1, 1) := by decide +kernel
theorem d24_30 : decode jdk_52_method_4_code 30 = .ok (.ishl, 1) := by decide +kernel
theorem d24_31 : decode jdk_52_method_4_code 31 = .ok (.istore_n 1, 1) := by decide +kernel
theorem d24_32 : decode jdk_52_method_4_code 32 = .ok (.aload_n 0, 1) := by decide +kernel
theorem d24_33 : decode jdk_52_method_4_code 33 = .ok (.iload_n 1, 1) := by decide +kernel
theorem d24_34 : decode jdk_52_method_4_code 34 = .ok (.iinc 1 1, 3) := by decide +kernel
theorem d24_37 : decode jdk_52_method_4_code 37 = .ok (.iload_n 2, 1) := by decide +kernel
theorem d24_38 : decode jdk_52_method_4_code 38 = .ok (.getstatic 59, 3) := by decide +kernel
theorem d24_41 : decode jdk_52_method_4_code 41 = .ok (.ishr, 1) := by decide +kernel
theorem d24_42 : decode jdk_52_method_4_code 42 = .ok (.i2b, 1) := by decide +kernel
theorem d24_43 : decode jdk_52_method_4_code 43 = .ok (.bastore, 1) := by decide +kernel
theorem d24_44 : decode jdk_52_method_4_code 44 = .ok (.aload_n 0, 1) := by decide +kernel
theorem d24_45 : decode jdk_52_method_4_code 45 = .ok (.iload_n 1, 1) := by decide +kernel
theorem d24_46 : decode jdk_52_method_4_code 46 = .ok (.iload_n 2, 1) := by decide +kernel
theorem d24_47 : decode jdk_52_method_4_code 47 = .ok (.getstatic 63, 3) := by decide +kernel
theorem d24_50 : decode jdk_52_method_4_code 50 = .ok (.ishr, 1) := by decide +kernel
theorem d24_51 : decode jdk_52_method_4_code 51 = .ok (.i2b, 1) := by decide +kernel
theorem d24_52 : decode jdk_52_method_4_code 52 = .ok (.bastore, 1) := by decide +kernel
theorem d24_53 : decode jdk_52_method_4_code 53 = .ok (.return_, 1) := by decide +kernel
def Qpc (Z : State) (a1 : Addr) (p3 : Int32) (kb : ClassId) (N : Nat) (i : Nat) (vs : List Value) (h0 : Heap) (n0 : Nat) (v : Option Value) (h : Heap) (L : List Loc) : Prop := v = none ∧ Fr n0 L ∧ Keep h0 h [a1] ∧ (Arv Z h a1 kb .byte (Int32.ofNat (2 * N)) ((vs.set (2 * i) (.int (own_lo p3))).set (2 * i + 1) (.int (own_hi p3))) (.int (0 : Int32)))
set_option maxRecDepth 65536 in
set_option maxHeartbeats 40000000 in
theorem rmpc (l : Launch) (Z : State) (a0 : Array Value) (hw : ∀ d ∈ tables_1, d.before a0 Z = true) (ws : List Jvm.Cond) (a1 : Addr) (p3 : Int32) (kb : ClassId) (N : Nat) (i : Nat) (vs : List Value) (h0 : Heap) (n0 : Nat) (Z0 : n0 ≤ h0.size) (S_assertionsDisabled : Sta Z h0 "java/lang/StringUTF16" "$assertionsDisabled" "Z" (.int (1 : Int32))) (S_HI_BYTE_SHIFT : Sta Z h0 "java/lang/StringUTF16" "HI_BYTE_SHIFT" "I" (.int (0 : Int32))) (S_LO_BYTE_SHIFT : Sta Z h0 "java/lang/StringUTF16" "LO_BYTE_SHIFT" "I" (.int (8 : Int32))) (A_a1 : Arv Z h0 a1 kb .byte (Int32.ofNat (2 * N)) vs (.int (0 : Int32))) (g_a1 : n0 ≤ a1) (hi : i < N) (hN : N ≤ 4) (hv : vs.length = 2 * N) :
    MetFree l (⟨"java/lang/StringUTF16", "putChar", "([BII)V"⟩ : MethodName) (head1 (Jvm.Cond.code (⟨"java/lang/StringUTF16", "putChar", "([BII)V"⟩ : MethodName) jdk_52_method_4_code 3 none :: ws) ({ frames := 0, cells := 0, slots := 0, locals := 0 } : Room)) (fun a U => a = #[(.ref a1), (.int (Int32.ofNat i)), (.int p3)] ∧ Z.Warmed39 U.vm ∧ U.heap = h0) (fun _ _ _ _ _ => True) (fun _ U o U' => ∃ v L, o = .returned v ∧ Qpc Z a1 p3 kb N i vs h0 n0 v U'.heap L ∧ FrameEnd U o U' L ({ frames := 0, cells := 0, slots := 0, locals := 0 } : Room).cells ({ frames := 0, cells := 0, slots := 0, locals := 0 } : Room).slots) := by
  refine MetFree.of_bodySF (plainFor_of_name own_pn_java_lang_StringUTF16) hisR ?_
  intro p e s m args below meth c s₁ Bd hml0 hP hK
  obtain ⟨rfl, hZ, hh⟩ := hP
  have hx := Bd.exec
  have hby := Bd.bytes
  have hlk := Bd.notSynchronized
  have hml : c.maxLocals = 3 := hml0
  have hown : s.vm.findClass "java/lang/StringUTF16" = some m.cls := findClass_of_methodNamed Bd.named
  have hnm := (name_of_methodNamed Bd.named Bd.method).1
  have X0 : Stand p l e ({ frames := 0, cells := 0, slots := 0, locals := 0 } : Room) s m #[(.ref a1), (.int (Int32.ofNat i)), (.int p3)] below meth c s₁ [] 0 0 := Stand.of_body Bd
  have e0 : s₁.heap = h0 := by rw [← hh, Bd.state]; rfl
  have N0 := Fr.nil n0
  have K0 : Keep h0 h0 [a1] := Keep.refl _ _
  show Go p e below (KQ s below (Qpc Z a1 p3 kb N i vs h0 n0) ({ frames := 0, cells := 0, slots := 0, locals := 0 } : Room).cells ({ frames := 0, cells := 0, slots := 0, locals := 0 } : Room).slots) _
  refine Go.body (T := s₁) (σ := s₁) (g' := (mkF m 0 #[.val (.ref a1), .val (.int (Int32.ofNat i)), .val (.int p3)] [])) (ef_pc m a1 (Int32.ofNat i) p3) ?_
  obtain ⟨T38, X38, e38, st38⟩ := getS2 X0 hx hZ hown (host := "") (Or.inl (hw _ (List.mem_of_getElem? (i := 106) rfl))) Via.refl e0 S_assertionsDisabled (g := (mkF m 0 #[.val (.ref a1), .val (.int (Int32.ofNat i)), .val (.int p3)] [])) rfl (hb hby d24_0)
  refine Go.st st38 ?_
  show Go p e below _ (T38.setTop (mkF m 3 #[.val (.ref a1), .val (.int (Int32.ofNat i)), .val (.int p3)] [(.int (1 : Int32))]))
  refine g_if_ne X38 hx (hb hby d24_3) 28 6 (by decide) (by decide) rfl (fun hc3 => ?_) (fun hc3 => False.elim (absurd hc3 (by decide)))
  refine g_iloadN X38 hx (hb hby d24_28) 29 rfl (v := (Int32.ofNat i)) rfl ?_
  refine g_iconst X38 hx (hb hby d24_29) 30 rfl (1 : Int32) rfl ?_
  refine g_ishl X38 hx (hb hby d24_30) 31 rfl (Int32.ofNat (2 * i)) (own_shl1 (by omega)) ?_
  refine g_istoreN X38 hx (hb hby d24_31) 32 rfl #[.val (.ref a1), .val (.int (Int32.ofNat (2 * i))), .val (.int p3)] rfl ?_
  refine g_aloadN X38 hx (hb hby d24_32) 33 rfl (v := (.ref a1)) rfl rfl ?_
  refine g_iloadN X38 hx (hb hby d24_33) 34 rfl (v := (Int32.ofNat (2 * i))) rfl ?_
  refine g_iinc X38 hx (hb hby d24_34) 37 rfl (x := (Int32.ofNat (2 * i))) rfl (Int32.ofNat (2 * i + 1)) (own_up (2 * i)) #[.val (.ref a1), .val (.int (Int32.ofNat (2 * i + 1))), .val (.int p3)] rfl ?_
  refine g_iloadN X38 hx (hb hby d24_37) 38 rfl (v := p3) rfl ?_
  obtain ⟨T39, X39, e39, st39⟩ := getS2 X38 hx hZ hown (host := "") (Or.inl (hw _ (List.mem_of_getElem? (i := 107) rfl))) Via.refl e38 S_HI_BYTE_SHIFT (g := (mkF m 38 #[.val (.ref a1), .val (.int (Int32.ofNat (2 * i + 1))), .val (.int p3)] [(.int p3), (.int (Int32.ofNat (2 * i))), (.ref a1)])) rfl (hb hby d24_38)
  refine Go.st st39 ?_
  show Go p e below _ (T39.setTop (mkF m 41 #[.val (.ref a1), .val (.int (Int32.ofNat (2 * i + 1))), .val (.int p3)] [(.int (0 : Int32)), (.int p3), (.int (Int32.ofNat (2 * i))), (.ref a1)]))
  refine g_ishr X39 hx (hb hby d24_41) 42 rfl (p3 >>> ((0 : Int32) &&& 31)) rfl ?_
  refine g_i2b X39 hx (hb hby d24_42) 43 rfl (p3 >>> ((0 : Int32) &&& 31)).toInt8.toInt32 rfl ?_
  obtain ⟨T40, h40, X40, e40, W40, B40, st40⟩ := g_bastore X39 hx (hb hby d24_43) hZ e39 A_a1 (own_in (by omega) (by omega)) (i := (2 * i)) (own_cl (by omega)) (by omega)  (L := #[.val (.ref a1), .val (.int (Int32.ofNat (2 * i + 1))), .val (.int p3)]) (S := [])
  refine Go.st st40 ?_
  have S_assertionsDisabled_41 : Sta Z h40 "java/lang/StringUTF16" "$assertionsDisabled" "Z" (.int (1 : Int32)) := Sta.wr W40 S_assertionsDisabled
  have S_HI_BYTE_SHIFT_41 : Sta Z h40 "java/lang/StringUTF16" "HI_BYTE_SHIFT" "I" (.int (0 : Int32)) := Sta.wr W40 S_HI_BYTE_SHIFT
  have S_LO_BYTE_SHIFT_41 : Sta Z h40 "java/lang/StringUTF16" "LO_BYTE_SHIFT" "I" (.int (8 : Int32)) := Sta.wr W40 S_LO_BYTE_SHIFT
  have Av_a1_40 : Arv Z h40 a1 kb .byte (Int32.ofNat (2 * N)) (vs.set (2 * i) (.int (own_lo p3))) (.int (0 : Int32)) := (by have q := B40; rw [own_i2b] at q; exact q)
  have K40 : Keep h0 h40 [a1] := Keep.wr K0 W40 (Or.inl (List.mem_of_getElem? (i := 0) rfl))
  have N40 := Fr.snoc X40 N0 g_a1
  have Zs40 : n0 ≤ h40.size := by rw [W40.size]; exact Z0
  show Go p e below _ (T40.setTop (mkF m 44 #[.val (.ref a1), .val (.int (Int32.ofNat (2 * i + 1))), .val (.int p3)] []))
  refine g_aloadN X40 hx (hb hby d24_44) 45 rfl (v := (.ref a1)) rfl rfl ?_
  refine g_iloadN X40 hx (hb hby d24_45) 46 rfl (v := (Int32.ofNat (2 * i + 1))) rfl ?_
  refine g_iloadN X40 hx (hb hby d24_46) 47 rfl (v := p3) rfl ?_
  obtain ⟨T42, X42, e42, st42⟩ := getS2 X40 hx hZ hown (host := "") (Or.inl (hw _ (List.mem_of_getElem? (i := 108) rfl))) Via.refl e40 S_LO_BYTE_SHIFT_41 (g := (mkF m 47 #[.val (.ref a1), .val (.int (Int32.ofNat (2 * i + 1))), .val (.int p3)] [(.int p3), (.int (Int32.ofNat (2 * i + 1))), (.ref a1)])) rfl (hb hby d24_47)
  refine Go.st st42 ?_
  show Go p e below _ (T42.setTop (mkF m 50 #[.val (.ref a1), .val (.int (Int32.ofNat (2 * i + 1))), .val (.int p3)] [(.int (8 : Int32)), (.int p3), (.int (Int32.ofNat (2 * i + 1))), (.ref a1)]))
  refine g_ishr X42 hx (hb hby d24_50) 51 rfl (p3 >>> ((8 : Int32) &&& 31)) rfl ?_
  refine g_i2b X42 hx (hb hby d24_51) 52 rfl (p3 >>> ((8 : Int32) &&& 31)).toInt8.toInt32 rfl ?_
  obtain ⟨T43, h43, X43, e43, W43, B43, st43⟩ := g_bastore X42 hx (hb hby d24_52) hZ e42 Av_a1_40 (own_in (by omega) (by omega)) (i := (2 * i + 1)) (own_cl (by omega)) (by rw [List.length_set]; omega)  (L := #[.val (.ref a1), .val (.int (Int32.ofNat (2 * i + 1))), .val (.int p3)]) (S := [])
  refine Go.st st43 ?_
  have S_assertionsDisabled_44 : Sta Z h43 "java/lang/StringUTF16" "$assertionsDisabled" "Z" (.int (1 : Int32)) := Sta.wr W43 S_assertionsDisabled_41
  have S_HI_BYTE_SHIFT_44 : Sta Z h43 "java/lang/StringUTF16" "HI_BYTE_SHIFT" "I" (.int (0 : Int32)) := Sta.wr W43 S_HI_BYTE_SHIFT_41
  have S_LO_BYTE_SHIFT_44 : Sta Z h43 "java/lang/StringUTF16" "LO_BYTE_SHIFT" "I" (.int (8 : Int32)) := Sta.wr W43 S_LO_BYTE_SHIFT_41
  have Av_a1_43 : Arv Z h43 a1 kb .byte (Int32.ofNat (2 * N)) ((vs.set (2 * i) (.int (own_lo p3))).set (2 * i + 1) (.int (own_hi p3))) (.int (0 : Int32)) := (by have q := B43; rw [own_i2b] at q; exact q)
  have K43 : Keep h0 h43 [a1] := Keep.wr K40 W43 (Or.inl (List.mem_of_getElem? (i := 0) rfl))
  have N43 := Fr.snoc X43 N40 g_a1
  have Zs43 : n0 ≤ h43.size := by rw [W43.size]; exact Zs40
  show Go p e below _ (T43.setTop (mkF m 53 #[.val (.ref a1), .val (.int (Int32.ofNat (2 * i + 1))), .val (.int p3)] []))
  refine Go.retV X43 hx hlk Bd.returns (hb hby d24_53) (by decide) (by decide) ?_
  show Qpc Z a1 p3 kb N i vs h0 n0 _ T43.heap _
  rw [e43]
  exact ⟨rfl, N43, K43, Av_a1_43⟩
theorem ef_gc (m : MethodId) (x0 : Addr) (x1 : Int32) : entryFrame m #[(.ref x0), (.int x1)] 2 = mkF m 0 #[.val (.ref x0), .val (.int x1)] [] := by first | (simp [entryFrame, mkF, argsToLocals, Value.category]; done) | rfl
theorem d25_0 : decode jdk_52_method_5_code 0 = .ok (.getstatic 44, 3) := by decide +kernel
theorem d25_3 : decode jdk_52_method_5_code 3 = .ok (.ifCond .ne 25, 3) := by decide +kernel
theorem d25_28 : decode jdk_52_method_5_code 28 = .ok (.iload_n 1, 1) := by decide +kernel
theorem d25_29 : decode jdk_52_method_5_code 29 = .ok (.iconst 1, 1) := by decide +kernel
theorem d25_30 : decode jdk_52_method_5_code 30 = .ok (.ishl, 1) := by decide +kernel
theorem d25_31 : decode jdk_52_method_5_code 31 = .ok (.istore_n 1, 1) := by decide +kernel
theorem d25_32 : decode jdk_52_method_5_code 32 = .ok (.aload_n 0, 1) := by decide +kernel
theorem d25_33 : decode jdk_52_method_5_code 33 = .ok (.iload_n 1, 1) := by decide +kernel
theorem d25_34 : decode jdk_52_method_5_code 34 = .ok (.iinc 1 1, 3) := by decide +kernel
theorem d25_37 : decode jdk_52_method_5_code 37 = .ok (.baload, 1) := by decide +kernel
theorem d25_38 : decode jdk_52_method_5_code 38 = .ok (.sipush 255, 3) := by decide +kernel
theorem d25_41 : decode jdk_52_method_5_code 41 = .ok (.iand, 1) := by decide +kernel
theorem d25_42 : decode jdk_52_method_5_code 42 = .ok (.getstatic 59, 3) := by decide +kernel
theorem d25_45 : decode jdk_52_method_5_code 45 = .ok (.ishl, 1) := by decide +kernel
theorem d25_46 : decode jdk_52_method_5_code 46 = .ok (.aload_n 0, 1) := by decide +kernel
theorem d25_47 : decode jdk_52_method_5_code 47 = .ok (.iload_n 1, 1) := by decide +kernel
theorem d25_48 : decode jdk_52_method_5_code 48 = .ok (.baload, 1) := by decide +kernel
theorem d25_49 : decode jdk_52_method_5_code 49 = .ok (.sipush 255, 3) := by decide +kernel
theorem d25_52 : decode jdk_52_method_5_code 52 = .ok (.iand, 1) := by decide +kernel
theorem d25_53 : decode jdk_52_method_5_code 53 = .ok (.getstatic 63, 3) := by decide +kernel
theorem d25_56 : decode jdk_52_method_5_code 56 = .ok (.ishl, 1) := by decide +kernel
theorem d25_57 : decode jdk_52_method_5_code 57 = .ok (.ior, 1) := by decide +kernel
theorem d25_58 : decode jdk_52_method_5_code 58 = .ok (.i2c, 1) := by decide +kernel
theorem d25_59 : decode jdk_52_method_5_code 59 = .ok (.ireturn, 1) := by decide +kernel
def Qgc (Z : State) (a1 : Addr) (kb : ClassId) (i : Nat) (us : List Int32) (h0 : Heap) (n0 : Nat) (v : Option Value) (h : Heap) (L : List Loc) : Prop := v = some (.int (us.getD i 0)) ∧ Fr n0 L ∧ h = h0
set_option maxRecDepth 65536 in
set_option maxHeartbeats 40000000 in
theorem rmgc (l : Launch) (Z : State) (a0 : Array Value) (hw : ∀ d ∈ tables_1, d.before a0 Z = true) (ws : List Jvm.Cond) (a1 : Addr) (kb : ClassId) (i : Nat) (us : List Int32) (h0 : Heap) (n0 : Nat) (Z0 : n0 ≤ h0.size) (S_assertionsDisabled : Sta Z h0 "java/lang/StringUTF16" "$assertionsDisabled" "Z" (.int (1 : Int32))) (S_HI_BYTE_SHIFT : Sta Z h0 "java/lang/StringUTF16" "HI_BYTE_SHIFT" "I" (.int (0 : Int32))) (S_LO_BYTE_SHIFT : Sta Z h0 "java/lang/StringUTF16" "LO_BYTE_SHIFT" "I" (.int (8 : Int32))) (A_a1 : Arv Z h0 a1 kb .byte (Int32.ofNat (2 * us.length)) (own_ub us) (.int (0 : Int32))) (hle : us.length ≤ 4) (hi : i < us.length) (hC : ∀ x ∈ us, own_C x) :
    MetFree l (⟨"java/lang/StringUTF16", "getChar", "([BI)C"⟩ : MethodName) (head1 (Jvm.Cond.code (⟨"java/lang/StringUTF16", "getChar", "([BI)C"⟩ : MethodName) jdk_52_method_5_code 2 (some .char) :: ws) ({ frames := 0, cells := 0, slots := 0, locals := 0 } : Room)) (fun a U => a = #[(.ref a1), (.int (Int32.ofNat i))] ∧ Z.Warmed39 U.vm ∧ U.heap = h0) (fun _ _ _ _ _ => True) (fun _ U o U' => ∃ v L, o = .returned v ∧ Qgc Z a1 kb i us h0 n0 v U'.heap L ∧ FrameEnd U o U' L ({ frames := 0, cells := 0, slots := 0, locals := 0 } : Room).cells ({ frames := 0, cells := 0, slots := 0, locals := 0 } : Room).slots) := by
  refine MetFree.of_bodySF (plainFor_of_name own_pn_java_lang_StringUTF16) hisR ?_
  intro p e s m args below meth c s₁ Bd hml0 hP hK
  obtain ⟨rfl, hZ, hh⟩ := hP
  have hx := Bd.exec
  have hby := Bd.bytes
  have hlk := Bd.notSynchronized
  have hml : c.maxLocals = 2 := hml0
  have hown : s.vm.findClass "java/lang/StringUTF16" = some m.cls := findClass_of_methodNamed Bd.named
  have hnm := (name_of_methodNamed Bd.named Bd.method).1
  have X0 : Stand p l e ({ frames := 0, cells := 0, slots := 0, locals := 0 } : Room) s m #[(.ref a1), (.int (Int32.ofNat i))] below meth c s₁ [] 0 0 := Stand.of_body Bd
  have e0 : s₁.heap = h0 := by rw [← hh, Bd.state]; rfl
  have N0 := Fr.nil n0
  show Go p e below (KQ s below (Qgc Z a1 kb i us h0 n0) ({ frames := 0, cells := 0, slots := 0, locals := 0 } : Room).cells ({ frames := 0, cells := 0, slots := 0, locals := 0 } : Room).slots) _
  refine Go.body (T := s₁) (σ := s₁) (g' := (mkF m 0 #[.val (.ref a1), .val (.int (Int32.ofNat i))] [])) (ef_gc m a1 (Int32.ofNat i)) ?_
  obtain ⟨T45, X45, e45, st45⟩ := getS2 X0 hx hZ hown (host := "") (Or.inl (hw _ (List.mem_of_getElem? (i := 106) rfl))) Via.refl e0 S_assertionsDisabled (g := (mkF m 0 #[.val (.ref a1), .val (.int (Int32.ofNat i))] [])) rfl (hb hby d25_0)
  refine Go.st st45 ?_
  show Go p e below _ (T45.setTop (mkF m 3 #[.val (.ref a1), .val (.int (Int32.ofNat i))] [(.int (1 : Int32))]))
  refine g_if_ne X45 hx (hb hby d25_3) 28 6 (by decide) (by decide) rfl (fun hc3 => ?_) (fun hc3 => False.elim (absurd hc3 (by decide)))
  refine g_iloadN X45 hx (hb hby d25_28) 29 rfl (v := (Int32.ofNat i)) rfl ?_
  refine g_iconst X45 hx (hb hby d25_29) 30 rfl (1 : Int32) rfl ?_
  refine g_ishl X45 hx (hb hby d25_30) 31 rfl (Int32.ofNat (2 * i)) (own_shl1 (by omega)) ?_
  refine g_istoreN X45 hx (hb hby d25_31) 32 rfl #[.val (.ref a1), .val (.int (Int32.ofNat (2 * i)))] rfl ?_
  refine g_aloadN X45 hx (hb hby d25_32) 33 rfl (v := (.ref a1)) rfl rfl ?_
  refine g_iloadN X45 hx (hb hby d25_33) 34 rfl (v := (Int32.ofNat (2 * i))) rfl ?_
  refine g_iinc X45 hx (hb hby d25_34) 37 rfl (x := (Int32.ofNat (2 * i))) rfl (Int32.ofNat (2 * i + 1)) (own_up (2 * i)) #[.val (.ref a1), .val (.int (Int32.ofNat (2 * i + 1)))] rfl ?_
  refine g_baload X45 hx (hb hby d25_37) 38 rfl hZ e45 A_a1 (own_in (by omega) (by omega)) (.int (own_lo (us.getD i 0))) (by rw [own_cl (by omega)]; exact own_ubg0 us hi) ?_
  refine g_sipush X45 hx (hb hby d25_38) 41 rfl (255 : Int32) rfl ?_
  refine g_iand X45 hx (hb hby d25_41) 42 rfl ((own_lo (us.getD i 0)) &&& (255 : Int32)) rfl ?_
  obtain ⟨T47, X47, e47, st47⟩ := getS2 X45 hx hZ hown (host := "") (Or.inl (hw _ (List.mem_of_getElem? (i := 107) rfl))) Via.refl e45 S_HI_BYTE_SHIFT (g := (mkF m 42 #[.val (.ref a1), .val (.int (Int32.ofNat (2 * i + 1)))] [(.int ((own_lo (us.getD i 0)) &&& (255 : Int32)))])) rfl (hb hby d25_42)
  refine Go.st st47 ?_
  show Go p e below _ (T47.setTop (mkF m 45 #[.val (.ref a1), .val (.int (Int32.ofNat (2 * i + 1)))] [(.int (0 : Int32)), (.int ((own_lo (us.getD i 0)) &&& (255 : Int32)))]))
  refine g_ishl X47 hx (hb hby d25_45) 46 rfl (((own_lo (us.getD i 0)) &&& (255 : Int32)) <<< ((0 : Int32) &&& 31)) rfl ?_
  refine g_aloadN X47 hx (hb hby d25_46) 47 rfl (v := (.ref a1)) rfl rfl ?_
  refine g_iloadN X47 hx (hb hby d25_47) 48 rfl (v := (Int32.ofNat (2 * i + 1))) rfl ?_
  refine g_baload X47 hx (hb hby d25_48) 49 rfl hZ e47 A_a1 (own_in (by omega) (by omega)) (.int (own_hi (us.getD i 0))) (by rw [own_cl (by omega)]; exact own_ubg1 us hi) ?_
  refine g_sipush X47 hx (hb hby d25_49) 52 rfl (255 : Int32) rfl ?_
  refine g_iand X47 hx (hb hby d25_52) 53 rfl ((own_hi (us.getD i 0)) &&& (255 : Int32)) rfl ?_
  obtain ⟨T49, X49, e49, st49⟩ := getS2 X47 hx hZ hown (host := "") (Or.inl (hw _ (List.mem_of_getElem? (i := 108) rfl))) Via.refl e47 S_LO_BYTE_SHIFT (g := (mkF m 53 #[.val (.ref a1), .val (.int (Int32.ofNat (2 * i + 1)))] [(.int ((own_hi (us.getD i 0)) &&& (255 : Int32))), (.int (((own_lo (us.getD i 0)) &&& (255 : Int32)) <<< ((0 : Int32) &&& 31)))])) rfl (hb hby d25_53)
  refine Go.st st49 ?_
  show Go p e below _ (T49.setTop (mkF m 56 #[.val (.ref a1), .val (.int (Int32.ofNat (2 * i + 1)))] [(.int (8 : Int32)), (.int ((own_hi (us.getD i 0)) &&& (255 : Int32))), (.int (((own_lo (us.getD i 0)) &&& (255 : Int32)) <<< ((0 : Int32) &&& 31)))]))
  refine g_ishl X49 hx (hb hby d25_56) 57 rfl (((own_hi (us.getD i 0)) &&& (255 : Int32)) <<< ((8 : Int32) &&& 31)) rfl ?_
  refine g_ior X49 hx (hb hby d25_57) 58 rfl ((((own_lo (us.getD i 0)) &&& (255 : Int32)) <<< ((0 : Int32) &&& 31)) ||| (((own_hi (us.getD i 0)) &&& (255 : Int32)) <<< ((8 : Int32) &&& 31))) rfl ?_
  refine g_i2c X49 hx (hb hby d25_58) 59 rfl ((((own_lo (us.getD i 0)) &&& (255 : Int32)) <<< ((0 : Int32) &&& 31)) ||| (((own_hi (us.getD i 0)) &&& (255 : Int32)) <<< ((8 : Int32) &&& 31))).toUInt32.toUInt16.toUInt32.toInt32 rfl ?_
  refine Go.retN X49 hx hlk (t := .char) Bd.returns (by simp) (hb hby d25_59) (by decide) (by decide) ?_
  show Qgc Z a1 kb i us h0 n0 _ T49.heap _
  rw [e49]
  exact ⟨(by rw [own_gc (hC _ (own_gm us hi))]), N0, rfl⟩
theorem ef_nbl (m : MethodId) (x0 : Int32) : entryFrame m #[(.int x0)] 1 = mkF m 0 #[.val (.int x0)] [] := by first | (simp [entryFrame, mkF, argsToLocals, Value.category]; done) | rfl
theorem d23_0 : decode jdk_52_method_3_code 0 = .ok (.iload_n 0, 1) := by decide +kernel
theorem d23_1 : decode jdk_52_method_3_code 1 = .ok (.ifCond .ge 11, 3) := by decide +kernel
theorem d23_12 : decode jdk_52_method_3_code 12 = .ok (.iload_n 0, 1) := by decide +kernel
theorem d23_13 : decode jdk_52_method_3_code 13 = .ok (.ldc 20, 2) := by decide +kernel
theorem d23_15 : decode jdk_52_method_3_code 15 = .ok (.if_icmp .lt 40, 3) := by decide +kernel
theorem d23_55 : decode jdk_52_method_3_code 55 = .ok (.iload_n 0, 1) := by decide +kernel
theorem d23_56 : decode jdk_52_method_3_code 56 = .ok (.iconst 1, 1) := by decide +kernel
theorem d23_57 : decode jdk_52_method_3_code 57 = .ok (.ishl, 1) := by decide +kernel
theorem d23_58 : decode jdk_52_method_3_code 58 = .ok (.ireturn, 1) := by decide +kernel
def Qnbl (Z : State) (N : Nat) (h0 : Heap) (n0 : Nat) (v : Option Value) (h : Heap) (L : List Loc) : Prop := v = some (.int (Int32.ofNat (2 * N))) ∧ Fr n0 L ∧ h = h0
set_option maxRecDepth 65536 in
set_option maxHeartbeats 40000000 in
theorem rmnbl (l : Launch) (Z : State) (a0 : Array Value) (hw : ∀ d ∈ tables_1, d.before a0 Z = true) (ws : List Jvm.Cond) (N : Nat) (h0 : Heap) (n0 : Nat) (Z0 : n0 ≤ h0.size) (hN : N ≤ 4) :
    MetFree l (⟨"java/lang/StringUTF16", "newBytesLength", "(I)I"⟩ : MethodName) (head1 (Jvm.Cond.code (⟨"java/lang/StringUTF16", "newBytesLength", "(I)I"⟩ : MethodName) jdk_52_method_3_code 1 (some .int) :: ws) ({ frames := 0, cells := 0, slots := 0, locals := 0 } : Room)) (fun a U => a = #[(.int (Int32.ofNat N))] ∧ Z.Warmed39 U.vm ∧ U.heap = h0) (fun _ _ _ _ _ => True) (fun _ U o U' => ∃ v L, o = .returned v ∧ Qnbl Z N h0 n0 v U'.heap L ∧ FrameEnd U o U' L ({ frames := 0, cells := 0, slots := 0, locals := 0 } : Room).cells ({ frames := 0, cells := 0, slots := 0, locals := 0 } : Room).slots) := by
  refine MetFree.of_bodySF (plainFor_of_name own_pn_java_lang_StringUTF16) hisR ?_
  intro p e s m args below meth c s₁ Bd hml0 hP hK
  obtain ⟨rfl, hZ, hh⟩ := hP
  have hx := Bd.exec
  have hby := Bd.bytes
  have hlk := Bd.notSynchronized
  have hml : c.maxLocals = 1 := hml0
  have hown : s.vm.findClass "java/lang/StringUTF16" = some m.cls := findClass_of_methodNamed Bd.named
  have hnm := (name_of_methodNamed Bd.named Bd.method).1
  have X0 : Stand p l e ({ frames := 0, cells := 0, slots := 0, locals := 0 } : Room) s m #[(.int (Int32.ofNat N))] below meth c s₁ [] 0 0 := Stand.of_body Bd
  have e0 : s₁.heap = h0 := by rw [← hh, Bd.state]; rfl
  have N0 := Fr.nil n0
  show Go p e below (KQ s below (Qnbl Z N h0 n0) ({ frames := 0, cells := 0, slots := 0, locals := 0 } : Room).cells ({ frames := 0, cells := 0, slots := 0, locals := 0 } : Room).slots) _
  refine Go.body (T := s₁) (σ := s₁) (g' := (mkF m 0 #[.val (.int (Int32.ofNat N))] [])) (ef_nbl m (Int32.ofNat N)) ?_
  refine g_iloadN X0 hx (hb hby d23_0) 1 rfl (v := (Int32.ofNat N)) rfl ?_
  refine g_if_ge X0 hx (hb hby d23_1) 12 4 (by decide) (by decide) rfl (fun hc1 => ?_) (fun hc1 => False.elim (own_nn (by omega) hc1))
  refine g_iloadN X0 hx (hb hby d23_12) 13 rfl (v := (Int32.ofNat N)) rfl ?_
  refine Go.st (X0.ldcInt hx hown (mvT hZ (hw _ (List.mem_of_getElem? (i := 102) rfl))) (g := (mkF m 13 #[.val (.int (Int32.ofNat N))] [(.int (Int32.ofNat N))])) rfl (hb hby d23_13)) ?_
  show Go p e below _ (s₁.setTop (mkF m 15 #[.val (.int (Int32.ofNat N))] [(.int (1073741823 : Int32)), (.int (Int32.ofNat N))]))
  refine g_icmp_lt X0 hx (hb hby d23_15) 55 18 (by decide) (by decide) rfl (fun hc15 => ?_) (fun hc15 => False.elim (hc15 (own_small hN)))
  refine g_iloadN X0 hx (hb hby d23_55) 56 rfl (v := (Int32.ofNat N)) rfl ?_
  refine g_iconst X0 hx (hb hby d23_56) 57 rfl (1 : Int32) rfl ?_
  refine g_ishl X0 hx (hb hby d23_57) 58 rfl (Int32.ofNat (2 * N)) (own_shl1 (by omega)) ?_
  refine Go.retI X0 hx hlk Bd.returns (hb hby d23_58) (by decide) (by decide) ?_
  show Qnbl Z N h0 n0 _ s₁.heap _
  rw [e0]
  exact ⟨rfl, N0, rfl⟩
theorem ef_nbf (m : MethodId) (x0 : Int32) : entryFrame m #[(.int x0)] 1 = mkF m 0 #[.val (.int x0)] [] := by first | (simp [entryFrame, mkF, argsToLocals, Value.category]; done) | rfl
theorem d22_0 : decode jdk_52_method_2_code 0 = .ok (.iload_n 0, 1) := by decide +kernel
theorem own_pd4 : parseMethodDescriptor "(I)I" = some ⟨[.int], some .int⟩ := by decide +kernel
theorem d22_1 : decode jdk_52_method_2_code 1 = .ok (.invokestatic 11, 3) := by decide +kernel
theorem d22_4 : decode jdk_52_method_2_code 4 = .ok (.newarray .byte, 2) := by decide +kernel
theorem d22_6 : decode jdk_52_method_2_code 6 = .ok (.areturn, 1) := by decide +kernel
def Qnbf (Z : State) (N : Nat) (h0 : Heap) (n0 : Nat) (v : Option Value) (h : Heap) (L : List Loc) : Prop := ∃ b : Addr, ∃ kb : ClassId, v = some (.ref b) ∧ Fr n0 L ∧ Keep h0 h [] ∧ h0.size ≤ b ∧ (Arv Z h b kb .byte (Int32.ofNat (2 * N)) (List.replicate (2 * N) (.int (0 : Int32))) (.int (0 : Int32)))
set_option maxRecDepth 65536 in
set_option maxHeartbeats 40000000 in
theorem rmnbf (l : Launch) (Z : State) (a0 : Array Value) (hw : ∀ d ∈ tables_1, d.before a0 Z = true) (ws : List Jvm.Cond) (N : Nat) (h0 : Heap) (n0 : Nat) (Z0 : n0 ≤ h0.size) (hN : N ≤ 4) :
    MetFree l (⟨"java/lang/StringUTF16", "newBytesFor", "(I)[B"⟩ : MethodName) (head1 (Jvm.Cond.code (⟨"java/lang/StringUTF16", "newBytesFor", "(I)[B"⟩ : MethodName) jdk_52_method_2_code 1 (some (.array .byte)) :: ws) ({ frames := 1, cells := 1, slots := 8, locals := 12 } : Room)) (fun a U => a = #[(.int (Int32.ofNat N))] ∧ Z.Warmed39 U.vm ∧ U.heap = h0) (fun _ _ _ _ _ => True) (fun _ U o U' => ∃ v L, o = .returned v ∧ Qnbf Z N h0 n0 v U'.heap L ∧ FrameEnd U o U' L ({ frames := 1, cells := 1, slots := 8, locals := 12 } : Room).cells ({ frames := 1, cells := 1, slots := 8, locals := 12 } : Room).slots) := by
  refine MetFree.of_bodySF (plainFor_of_name own_pn_java_lang_StringUTF16) hisR ?_
  intro p e s m args below meth c s₁ Bd hml0 hP hK
  obtain ⟨rfl, hZ, hh⟩ := hP
  have hx := Bd.exec
  have hby := Bd.bytes
  have hlk := Bd.notSynchronized
  have hml : c.maxLocals = 1 := hml0
  have hown : s.vm.findClass "java/lang/StringUTF16" = some m.cls := findClass_of_methodNamed Bd.named
  have hnm := (name_of_methodNamed Bd.named Bd.method).1
  have X0 : Stand p l e ({ frames := 1, cells := 1, slots := 8, locals := 12 } : Room) s m #[(.int (Int32.ofNat N))] below meth c s₁ [] 0 0 := Stand.of_body Bd
  have e0 : s₁.heap = h0 := by rw [← hh, Bd.state]; rfl
  have N0 := Fr.nil n0
  have K0 : Keep h0 h0 [] := Keep.refl _ _
  show Go p e below (KQ s below (Qnbf Z N h0 n0) ({ frames := 1, cells := 1, slots := 8, locals := 12 } : Room).cells ({ frames := 1, cells := 1, slots := 8, locals := 12 } : Room).slots) _
  refine Go.body (T := s₁) (σ := s₁) (g' := (mkF m 0 #[.val (.int (Int32.ofNat N))] [])) (ef_nbf m (Int32.ofNat N)) ?_
  refine g_iloadN X0 hx (hb hby d22_0) 1 rfl (v := (Int32.ofNat N)) rfl ?_
  obtain ⟨_, _, ⟨T50, L50, k50, n50⟩, -, X50, ⟨Lc50, hQ50, l50, y50, z50⟩, st50⟩ := Jvm.LawKit.callS X0 hx (y := (⟨"java/lang/StringUTF16", "newBytesLength", "(I)I"⟩ : MethodName)) hown (mvT hZ (hw _ (List.mem_of_getElem? (i := 99) rfl))) (mvT hZ (hw _ (List.mem_of_getElem? (i := 100) rfl))) (mvT hZ (hw _ (List.mem_of_getElem? (i := 39) rfl))) (mvT hZ (hw _ (List.mem_of_getElem? (i := 101) rfl))) (by decide) (backOf (W := 0) (rmnbl l Z a0 hw [] N h0 n0 Z0 (by assumption)) hZ (hw _ (List.mem_of_getElem? (i := 101) rfl)) (hw _ (List.mem_of_getElem? (i := 39) rfl)) (by decide) (by decide)) (g := (mkF m 1 #[.val (.int (Int32.ofNat N))] [(.int (Int32.ofNat N))])) rfl (by rw [hml]; rfl) (argsL := [(.int (Int32.ofNat N))]) (rest := []) (lenOf own_pd4 rfl) rfl (by show 2 * 0 + _ ≤ _; exact Nat.le_of_eq rfl) (hb hby d22_1) (fun _ _ => ⟨rfl, e0, (by decide : 0 + 0 ≤ _), (by decide : 0 + 0 ≤ _)⟩)
  dsimp only [Pt.U, Pt.locs, Pt.cells, Pt.slots] at X50 l50 y50 z50 st50 hQ50
  subst l50 y50 z50
  obtain ⟨rfl, Nq50, e50⟩ := hQ50
  refine Go.st st50 ?_
  have N50 := Fr.app N0 Nq50
  show Go p e below _ (T50.setTop (mkF m 4 #[.val (.int (Int32.ofNat N))] [(.int (Int32.ofNat (2 * N)))]))
  obtain ⟨T51, h51, cA51, X51, e51, E51, A51, st51⟩ := newP X50 hx hZ (aty := .byte) (hw _ (List.mem_of_getElem? (i := 20) rfl)) e50 (g := (mkF m 4 #[.val (.int (Int32.ofNat N))] [(.int (Int32.ofNat (2 * N)))])) rfl (hb hby d22_4) rfl (own_in (N := (2 * N) + 1) (by omega) (by omega)).1 (cap := 8) (by rw [own_cl (by omega)]; omega) (by decide) (by decide) (by decide)
  refine Go.st st51 ?_
  obtain ⟨ob, q51⟩ : ∃ z, z = h0.size := ⟨_, rfl⟩
  rw [← q51] at A51 ⊢
  have g_ob : n0 ≤ ob := Nat.le_trans Z0 (Nat.le_of_eq q51.symm)
  have mh_ob : h0.size ≤ ob := Nat.le_trans K0.1 (Nat.le_of_eq q51.symm)
  have K51 : Keep h0 h51 [] := Keep.ext K0 E51
  have Zs51 : n0 ≤ h51.size := Nat.le_trans Z0 E51.1
  have Av_ob : Arv Z h51 ob cA51 .byte (Int32.ofNat (2 * N)) (List.replicate (2 * N) (.int (0 : Int32))) (.int (0 : Int32)) := Arv.pad (Arv.new A51 (own_in (N := (2 * N) + 1) (by omega) (by omega)).1) (pad_rep [] (.int (0 : Int32)) (2 * N))
  show Go p e below _ (T51.setTop (mkF m 6 #[.val (.int (Int32.ofNat N))] [(.ref ob)]))
  refine Go.retA X51 hx hlk Bd.returns rfl rfl (hb hby d22_6) (by decide) (by decide) ?_
  show Qnbf Z N h0 n0 _ T51.heap _
  rw [e51]
  exact ⟨ob, cA51, rfl, N50, K51, mh_ob, Av_ob⟩
theorem ef_tb (m : MethodId) (x0 : Addr) (x1 : Int32) (x2 : Int32) : entryFrame m #[(.ref x0), (.int x1), (.int x2)] 5 = mkF m 0 #[.val (.ref x0), .val (.int x1), .val (.int x2), .unset, .unset] [] := by first | (simp [entryFrame, mkF, argsToLocals, Value.category]; done) | rfl
theorem d21_0 : decode jdk_52_method_14_code 0 = .ok (.iload_n 2, 1) := by decide +kernel
theorem own_pd5 : parseMethodDescriptor "(I)[B" = some ⟨[.int], some (.array .byte)⟩ := by decide +kernel
theorem d21_1 : decode jdk_52_method_14_code 1 = .ok (.invokestatic 107, 3) := by decide +kernel
theorem d21_4 : decode jdk_52_method_14_code 4 = .ok (.astore_n 3, 1) := by decide +kernel
theorem d21_5 : decode jdk_52_method_14_code 5 = .ok (.iconst 0, 1) := by decide +kernel
theorem d21_6 : decode jdk_52_method_14_code 6 = .ok (.istore 4, 2) := by decide +kernel
theorem d21_8 : decode jdk_52_method_14_code 8 = .ok (.iload 4, 2) := by decide +kernel
theorem d21_10 : decode jdk_52_method_14_code 10 = .ok (.iload_n 2, 1) := by decide +kernel
theorem d21_11 : decode jdk_52_method_14_code 11 = .ok (.if_icmp .ge 21, 3) := by decide +kernel
theorem d21_32 : decode jdk_52_method_14_code 32 = .ok (.aload_n 3, 1) := by decide +kernel
theorem d21_33 : decode jdk_52_method_14_code 33 = .ok (.areturn, 1) := by decide +kernel
theorem d21_14 : decode jdk_52_method_14_code 14 = .ok (.aload_n 3, 1) := by decide +kernel
theorem d21_15 : decode jdk_52_method_14_code 15 = .ok (.iload 4, 2) := by decide +kernel
theorem d21_17 : decode jdk_52_method_14_code 17 = .ok (.aload_n 0, 1) := by decide +kernel
theorem d21_18 : decode jdk_52_method_14_code 18 = .ok (.iload_n 1, 1) := by decide +kernel
theorem d21_19 : decode jdk_52_method_14_code 19 = .ok (.caload, 1) := by decide +kernel
theorem own_pd6 : parseMethodDescriptor "([BII)V" = some ⟨[(.array .byte), .int, .int], none⟩ := by decide +kernel
theorem d21_20 : decode jdk_52_method_14_code 20 = .ok (.invokestatic 111, 3) := by decide +kernel
theorem d21_23 : decode jdk_52_method_14_code 23 = .ok (.iinc 1 1, 3) := by decide +kernel
theorem d21_26 : decode jdk_52_method_14_code 26 = .ok (.iinc 4 1, 3) := by decide +kernel
theorem d21_29 : decode jdk_52_method_14_code 29 = .ok (.goto (-21), 3) := by decide +kernel
def Qtb (Z : State) (a1 : Addr) (kc : ClassId) (us : List Int32) (h0 : Heap) (n0 : Nat) (v : Option Value) (h : Heap) (L : List Loc) : Prop := ∃ b : Addr, ∃ kb : ClassId, v = some (.ref b) ∧ Fr n0 L ∧ Keep h0 h [] ∧ h0.size ≤ b ∧ (Arv Z h b kb .byte (Int32.ofNat (2 * us.length)) (own_ub us) (.int (0 : Int32)))
set_option maxRecDepth 65536 in
set_option maxHeartbeats 40000000 in
theorem rmtb (l : Launch) (Z : State) (a0 : Array Value) (hw : ∀ d ∈ tables_1, d.before a0 Z = true) (ws : List Jvm.Cond) (a1 : Addr) (kc : ClassId) (us : List Int32) (h0 : Heap) (n0 : Nat) (Z0 : n0 ≤ h0.size) (S_assertionsDisabled : Sta Z h0 "java/lang/StringUTF16" "$assertionsDisabled" "Z" (.int (1 : Int32))) (S_HI_BYTE_SHIFT : Sta Z h0 "java/lang/StringUTF16" "HI_BYTE_SHIFT" "I" (.int (0 : Int32))) (S_LO_BYTE_SHIFT : Sta Z h0 "java/lang/StringUTF16" "LO_BYTE_SHIFT" "I" (.int (8 : Int32))) (A_a1 : Arv Z h0 a1 kc .char (Int32.ofNat us.length) (us.map Value.int) (.int (0 : Int32))) (hle : us.length ≤ 4) :
    MetFree l (⟨"java/lang/StringUTF16", "toBytes", "([CII)[B"⟩ : MethodName) (head1 (Jvm.Cond.code (⟨"java/lang/StringUTF16", "toBytes", "([CII)[B"⟩ : MethodName) jdk_52_method_14_code 5 (some (.array .byte)) :: ws) ({ frames := 2, cells := 1, slots := 8, locals := 24 } : Room)) (fun a U => a = #[(.ref a1), (.int (0 : Int32)), (.int (Int32.ofNat us.length))] ∧ Z.Warmed39 U.vm ∧ U.heap = h0) (fun _ _ _ _ _ => True) (fun _ U o U' => ∃ v L, o = .returned v ∧ Qtb Z a1 kc us h0 n0 v U'.heap L ∧ FrameEnd U o U' L ({ frames := 2, cells := 1, slots := 8, locals := 24 } : Room).cells ({ frames := 2, cells := 1, slots := 8, locals := 24 } : Room).slots) := by
  refine MetFree.of_bodySF (plainFor_of_name own_pn_java_lang_StringUTF16) hisR ?_
  intro p e s m args below meth c s₁ Bd hml0 hP hK
  obtain ⟨rfl, hZ, hh⟩ := hP
  have hx := Bd.exec
  have hby := Bd.bytes
  have hlk := Bd.notSynchronized
  have hml : c.maxLocals = 5 := hml0
  have hown : s.vm.findClass "java/lang/StringUTF16" = some m.cls := findClass_of_methodNamed Bd.named
  have hnm := (name_of_methodNamed Bd.named Bd.method).1
  have X0 : Stand p l e ({ frames := 2, cells := 1, slots := 8, locals := 24 } : Room) s m #[(.ref a1), (.int (0 : Int32)), (.int (Int32.ofNat us.length))] below meth c s₁ [] 0 0 := Stand.of_body Bd
  have e0 : s₁.heap = h0 := by rw [← hh, Bd.state]; rfl
  have N0 := Fr.nil n0
  have K0 : Keep h0 h0 [] := Keep.refl _ _
  show Go p e below (KQ s below (Qtb Z a1 kc us h0 n0) ({ frames := 2, cells := 1, slots := 8, locals := 24 } : Room).cells ({ frames := 2, cells := 1, slots := 8, locals := 24 } : Room).slots) _
  refine Go.body (T := s₁) (σ := s₁) (g' := (mkF m 0 #[.val (.ref a1), .val (.int (0 : Int32)), .val (.int (Int32.ofNat us.length)), .unset, .unset] [])) (ef_tb m a1 (0 : Int32) (Int32.ofNat us.length)) ?_
  refine g_iloadN X0 hx (hb hby d21_0) 1 rfl (v := (Int32.ofNat us.length)) rfl ?_
  obtain ⟨_, _, ⟨T53, L53, k53, n53⟩, -, X53, ⟨Lc53, hQ53, l53, y53, z53⟩, st53⟩ := Jvm.LawKit.callS X0 hx (y := (⟨"java/lang/StringUTF16", "newBytesFor", "(I)[B"⟩ : MethodName)) hown (mvT hZ (hw _ (List.mem_of_getElem? (i := 96) rfl))) (mvT hZ (hw _ (List.mem_of_getElem? (i := 97) rfl))) (mvT hZ (hw _ (List.mem_of_getElem? (i := 39) rfl))) (mvT hZ (hw _ (List.mem_of_getElem? (i := 98) rfl))) (by decide) (backOf (W := 0) (rmnbf l Z a0 hw [] us.length h0 n0 Z0 hle) hZ (hw _ (List.mem_of_getElem? (i := 98) rfl)) (hw _ (List.mem_of_getElem? (i := 39) rfl)) (by decide) (by decide)) (g := (mkF m 1 #[.val (.ref a1), .val (.int (0 : Int32)), .val (.int (Int32.ofNat us.length)), .unset, .unset] [(.int (Int32.ofNat us.length))])) rfl (by rw [hml]; rfl) (argsL := [(.int (Int32.ofNat us.length))]) (rest := []) (lenOf own_pd5 rfl) rfl (by show 2 * 0 + _ ≤ _; exact Nat.le_of_eq rfl) (hb hby d21_1) (fun _ _ => ⟨rfl, e0, (by decide : 0 + 1 ≤ _), (by decide : 0 + 8 ≤ _)⟩)
  dsimp only [Pt.U, Pt.locs, Pt.cells, Pt.slots] at X53 l53 y53 z53 st53 hQ53
  subst l53 y53 z53
  obtain ⟨ob, okb, rfl, Nq53, Kq53, f53_0, f53_1⟩ := hQ53
  refine Go.st st53 ?_
  have N53 := Fr.app N0 Nq53
  have g_ob : n0 ≤ ob := Nat.le_trans Z0 f53_0
  have mh_ob : h0.size ≤ ob := Nat.le_trans K0.1 f53_0
  have K53 : Keep h0 T53.heap [] := Keep.trans K0 Kq53 all0
  have Zs53 : n0 ≤ T53.heap.size := Nat.le_trans Z0 Kq53.1
  show Go p e below _ (T53.setTop (mkF m 4 #[.val (.ref a1), .val (.int (0 : Int32)), .val (.int (Int32.ofNat us.length)), .unset, .unset] [(.ref ob)]))
  refine g_astoreN X53 hx (hb hby d21_4) 5 rfl rfl #[.val (.ref a1), .val (.int (0 : Int32)), .val (.int (Int32.ofNat us.length)), .val (.ref ob), .unset] rfl ?_
  refine g_iconst X53 hx (hb hby d21_5) 6 rfl (0 : Int32) rfl ?_
  refine g_istore X53 hx (hb hby d21_6) 8 rfl #[.val (.ref a1), .val (.int (0 : Int32)), .val (.int (Int32.ofNat us.length)), .val (.ref ob), .val (.int (0 : Int32))] rfl ?_
  have lp : ∀ tl : Nat, ∀ (i : Nat) {Ts55 : State} {lc55 : List Loc} {hs55 : Heap} (Xs55 : Stand p l e ({ frames := 2, cells := 1, slots := 8, locals := 24 } : Room) s m #[(.ref a1), (.int (0 : Int32)), (.int (Int32.ofNat us.length))] below meth c Ts55 lc55 1 8) (es55 : Ts55.heap = hs55) (Ns55 : Fr n0 lc55) (Ks55 : Keep h0 hs55 []) (Zs55 : n0 ≤ hs55.size) (Arv_s55_0 : Arv Z hs55 ob okb .byte (Int32.ofNat (2 * us.length)) (own_uv us i) (.int (0 : Int32))), i + tl = us.length → Go p e below (KQ s below (Qtb Z a1 kc us h0 n0) ({ frames := 2, cells := 1, slots := 8, locals := 24 } : Room).cells ({ frames := 2, cells := 1, slots := 8, locals := 24 } : Room).slots) (Ts55.setTop (mkF m 8 #[.val (.ref a1), .val (.int (Int32.ofNat i)), .val (.int (Int32.ofNat us.length)), .val (.ref ob), .val (.int (Int32.ofNat i))] [])) := by
    intro tl
    induction tl with
    | zero => 
      intro i Ts55 lc55 hs55 Xs55 es55 Ns55 Ks55 Zs55 Arv_s55_0 htl
      refine g_iload Xs55 hx (hb hby d21_8) 10 rfl (v := (Int32.ofNat i)) rfl ?_
      refine g_iloadN Xs55 hx (hb hby d21_10) 11 rfl (v := (Int32.ofNat us.length)) rfl ?_
      refine g_icmp_ge Xs55 hx (hb hby d21_11) 32 14 (by decide) (by decide) rfl (fun hc11 => ?_) (fun hc11 => False.elim (absurd (own_lt (by omega) (by omega) hc11) (by omega)))
      refine g_aloadN Xs55 hx (hb hby d21_32) 33 rfl (v := (.ref ob)) rfl rfl ?_
      refine Go.retA Xs55 hx hlk Bd.returns rfl rfl (hb hby d21_33) (by decide) (by decide) ?_
      show Qtb Z a1 kc us h0 n0 _ Ts55.heap _
      rw [es55]
      have hiE : i = us.length := by omega
      exact ⟨ob, okb, rfl, Ns55, Ks55, mh_ob, by have q := Arv_s55_0; rw [hiE, own_uvfull] at q; exact q⟩
    | succ tl ih => 
      intro i Ts55 lc55 hs55 Xs55 es55 Ns55 Ks55 Zs55 Arv_s55_0 htl
      refine g_iload Xs55 hx (hb hby d21_8) 10 rfl (v := (Int32.ofNat i)) rfl ?_
      refine g_iloadN Xs55 hx (hb hby d21_10) 11 rfl (v := (Int32.ofNat us.length)) rfl ?_
      refine g_icmp_ge Xs55 hx (hb hby d21_11) 32 14 (by decide) (by decide) rfl (fun hc11 => False.elim (hc11 (own_in (by omega) (by omega)).2)) (fun hc11 => ?_)
      refine g_aloadN Xs55 hx (hb hby d21_14) 15 rfl (v := (.ref ob)) rfl rfl ?_
      refine g_iload Xs55 hx (hb hby d21_15) 17 rfl (v := (Int32.ofNat i)) rfl ?_
      refine g_aloadN Xs55 hx (hb hby d21_17) 18 rfl (v := (.ref a1)) rfl rfl ?_
      refine g_iloadN Xs55 hx (hb hby d21_18) 19 rfl (v := (Int32.ofNat i)) rfl ?_
      refine g_caload Xs55 hx (hb hby d21_19) 20 rfl hZ es55 (Arv.keep A_a1 Ks55 nin0) (own_in (by omega) (by omega)) (.int (us.getD i 0)) (by rw [own_cl (by omega)]; exact own_mapget us (by omega)) ?_
      obtain ⟨_, _, ⟨T57, L57, k57, n57⟩, -, X57, ⟨Lc57, hQ57, l57, y57, z57⟩, st57⟩ := Jvm.LawKit.callS Xs55 hx (y := (⟨"java/lang/StringUTF16", "putChar", "([BII)V"⟩ : MethodName)) hown (mvT hZ (hw _ (List.mem_of_getElem? (i := 103) rfl))) (mvT hZ (hw _ (List.mem_of_getElem? (i := 104) rfl))) (mvT hZ (hw _ (List.mem_of_getElem? (i := 39) rfl))) (mvT hZ (hw _ (List.mem_of_getElem? (i := 105) rfl))) (by decide) (backOf (W := 0) (rmpc l Z a0 hw [] ob (us.getD i 0) okb us.length i (own_uv us i) hs55 n0 Zs55 (own_Sta_keep S_assertionsDisabled Ks55 all0) (own_Sta_keep S_HI_BYTE_SHIFT Ks55 all0) (own_Sta_keep S_LO_BYTE_SHIFT Ks55 all0) Arv_s55_0 g_ob (by omega) hle (own_uvlen (by omega))) hZ (hw _ (List.mem_of_getElem? (i := 105) rfl)) (hw _ (List.mem_of_getElem? (i := 39) rfl)) (by decide) (by decide)) (g := (mkF m 20 #[.val (.ref a1), .val (.int (Int32.ofNat i)), .val (.int (Int32.ofNat us.length)), .val (.ref ob), .val (.int (Int32.ofNat i))] [(.int (us.getD i 0)), (.int (Int32.ofNat i)), (.ref ob)])) rfl (by rw [hml]; rfl) (argsL := [(.ref ob), (.int (Int32.ofNat i)), (.int (us.getD i 0))]) (rest := []) (lenOf own_pd6 rfl) rfl (by show 2 * 0 + _ ≤ _; exact Nat.le_of_eq rfl) (hb hby d21_20) (fun _ _ => ⟨rfl, es55, (by decide : 1 + 0 ≤ _), (by decide : 8 + 0 ≤ _)⟩)
      dsimp only [Pt.U, Pt.locs, Pt.cells, Pt.slots] at X57 l57 y57 z57 st57 hQ57
      subst l57 y57 z57
      obtain ⟨rfl, Nq57, Kq57, f57_0⟩ := hQ57
      refine Go.st st57 ?_
      have N57 := Fr.app Ns55 Nq57
      have K57 : Keep h0 T57.heap [] := Keep.trans Ks55 Kq57 (allS (Or.inr mh_ob) all0)
      have Zs57 : n0 ≤ T57.heap.size := Nat.le_trans Zs55 Kq57.1
      show Go p e below _ (T57.setTop (mkF m 23 #[.val (.ref a1), .val (.int (Int32.ofNat i)), .val (.int (Int32.ofNat us.length)), .val (.ref ob), .val (.int (Int32.ofNat i))] []))
      refine g_iinc X57 hx (hb hby d21_23) 26 rfl (x := (Int32.ofNat i)) rfl (Int32.ofNat (i + 1)) (own_up i) #[.val (.ref a1), .val (.int (Int32.ofNat (i + 1))), .val (.int (Int32.ofNat us.length)), .val (.ref ob), .val (.int (Int32.ofNat i))] rfl ?_
      refine g_iinc X57 hx (hb hby d21_26) 29 rfl (x := (Int32.ofNat i)) rfl (Int32.ofNat (i + 1)) (own_up i) #[.val (.ref a1), .val (.int (Int32.ofNat (i + 1))), .val (.int (Int32.ofNat us.length)), .val (.ref ob), .val (.int (Int32.ofNat (i + 1)))] rfl ?_
      refine g_goto X57 hx (hb hby d21_29) 8 (by decide) (by decide) ?_
      exact ih (i + 1) (own_mono X57 (by decide) (by decide)) rfl N57 K57 Zs57 (by have q := f57_0; rw [own_uvset (by omega)] at q; exact q) (by omega)
  exact lp us.length 0 (own_mono X53 (by decide) (by decide)) rfl N53 K53 Zs53 f53_1 (by omega)
theorem ef_cmpaL (m : MethodId) (x0 : Addr) (x1 : Int32) (x2 : Int32) : entryFrame m #[(.ref x0), (.int x1), (.int x2)] 6 = mkF m 0 #[.val (.ref x0), .val (.int x1), .val (.int x2), .unset, .unset, .unset] [] := by first | (simp [entryFrame, mkF, argsToLocals, Value.category]; done) | rfl
theorem d7_0 : decode jdk_52_method_16_code 0 = .ok (.iload_n 2, 1) := by decide +kernel
theorem d7_1 : decode jdk_52_method_16_code 1 = .ok (.newarray .byte, 2) := by decide +kernel
theorem d7_3 : decode jdk_52_method_16_code 3 = .ok (.astore_n 3, 1) := by decide +kernel
theorem d7_4 : decode jdk_52_method_16_code 4 = .ok (.aload_n 0, 1) := by decide +kernel
theorem d7_5 : decode jdk_52_method_16_code 5 = .ok (.iload_n 1, 1) := by decide +kernel
theorem d7_6 : decode jdk_52_method_16_code 6 = .ok (.aload_n 3, 1) := by decide +kernel
theorem d7_7 : decode jdk_52_method_16_code 7 = .ok (.iconst 0, 1) := by decide +kernel
theorem d7_8 : decode jdk_52_method_16_code 8 = .ok (.iload_n 2, 1) := by decide +kernel
theorem own_pd7 : parseMethodDescriptor "([CI[BII)I" = some ⟨[(.array .char), .int, (.array .byte), .int, .int], some .int⟩ := by decide +kernel
theorem d7_9 : decode jdk_52_method_16_code 9 = .ok (.invokestatic 115, 3) := by decide +kernel
theorem d7_12 : decode jdk_52_method_16_code 12 = .ok (.istore 4, 2) := by decide +kernel
theorem d7_14 : decode jdk_52_method_16_code 14 = .ok (.iload 4, 2) := by decide +kernel
theorem d7_16 : decode jdk_52_method_16_code 16 = .ok (.iload_n 2, 1) := by decide +kernel
theorem d7_17 : decode jdk_52_method_16_code 17 = .ok (.if_icmp .eq 40, 3) := by decide +kernel
theorem d7_57 : decode jdk_52_method_16_code 57 = .ok (.aload_n 3, 1) := by decide +kernel
theorem d7_58 : decode jdk_52_method_16_code 58 = .ok (.areturn, 1) := by decide +kernel
def QcmpaL (Z : State) (a1 : Addr) (kc : ClassId) (us : List Int32) (h0 : Heap) (n0 : Nat) (v : Option Value) (h : Heap) (L : List Loc) : Prop := ∃ b : Addr, ∃ kb : ClassId, v = some (.ref b) ∧ Fr n0 L ∧ Keep h0 h [] ∧ h0.size ≤ b ∧ (Arv Z h b kb .byte (Int32.ofNat us.length) (own_bs us) (.int (0 : Int32)))
set_option maxRecDepth 65536 in
set_option maxHeartbeats 40000000 in
theorem rmcmpaL (l : Launch) (Z : State) (a0 : Array Value) (hw : ∀ d ∈ tables_1, d.before a0 Z = true) (ws : List Jvm.Cond) (a1 : Addr) (kc : ClassId) (us : List Int32) (h0 : Heap) (n0 : Nat) (Z0 : n0 ≤ h0.size) (A_a1 : Arv Z h0 a1 kc .char (Int32.ofNat us.length) (us.map Value.int) (.int (0 : Int32))) (hle : us.length ≤ 4) (h8 : ∀ x ∈ us, ¬ (255 : Int32) < x) :
    MetFree l (⟨"java/lang/StringUTF16", "compress", "([CII)[B"⟩ : MethodName) (head1 (Jvm.Cond.code (⟨"java/lang/StringUTF16", "compress", "([CII)[B"⟩ : MethodName) jdk_52_method_16_code 6 (some (.array .byte)) :: ws) ({ frames := 1, cells := 1, slots := 4, locals := 18 } : Room)) (fun a U => a = #[(.ref a1), (.int (0 : Int32)), (.int (Int32.ofNat us.length))] ∧ Z.Warmed39 U.vm ∧ U.heap = h0) (fun _ _ _ _ _ => True) (fun _ U o U' => ∃ v L, o = .returned v ∧ QcmpaL Z a1 kc us h0 n0 v U'.heap L ∧ FrameEnd U o U' L ({ frames := 1, cells := 1, slots := 4, locals := 18 } : Room).cells ({ frames := 1, cells := 1, slots := 4, locals := 18 } : Room).slots) := by
  refine MetFree.of_bodySF (plainFor_of_name own_pn_java_lang_StringUTF16) hisR ?_
  intro p e s m args below meth c s₁ Bd hml0 hP hK
  obtain ⟨rfl, hZ, hh⟩ := hP
  have hx := Bd.exec
  have hby := Bd.bytes
  have hlk := Bd.notSynchronized
  have hml : c.maxLocals = 6 := hml0
  have hown : s.vm.findClass "java/lang/StringUTF16" = some m.cls := findClass_of_methodNamed Bd.named
  have hnm := (name_of_methodNamed Bd.named Bd.method).1
  have X0 : Stand p l e ({ frames := 1, cells := 1, slots := 4, locals := 18 } : Room) s m #[(.ref a1), (.int (0 : Int32)), (.int (Int32.ofNat us.length))] below meth c s₁ [] 0 0 := Stand.of_body Bd
  have e0 : s₁.heap = h0 := by rw [← hh, Bd.state]; rfl
  have N0 := Fr.nil n0
  have K0 : Keep h0 h0 [] := Keep.refl _ _
  show Go p e below (KQ s below (QcmpaL Z a1 kc us h0 n0) ({ frames := 1, cells := 1, slots := 4, locals := 18 } : Room).cells ({ frames := 1, cells := 1, slots := 4, locals := 18 } : Room).slots) _
  refine Go.body (T := s₁) (σ := s₁) (g' := (mkF m 0 #[.val (.ref a1), .val (.int (0 : Int32)), .val (.int (Int32.ofNat us.length)), .unset, .unset, .unset] [])) (ef_cmpaL m a1 (0 : Int32) (Int32.ofNat us.length)) ?_
  refine g_iloadN X0 hx (hb hby d7_0) 1 rfl (v := (Int32.ofNat us.length)) rfl ?_
  obtain ⟨T59, h59, cA59, X59, e59, E59, A59, st59⟩ := newP X0 hx hZ (aty := .byte) (hw _ (List.mem_of_getElem? (i := 20) rfl)) e0 (g := (mkF m 1 #[.val (.ref a1), .val (.int (0 : Int32)), .val (.int (Int32.ofNat us.length)), .unset, .unset, .unset] [(.int (Int32.ofNat us.length))])) rfl (hb hby d7_1) rfl (own_in (N := us.length + 1) (by omega) (by omega)).1 (cap := 4) (by rw [own_cl (by omega)]; omega) (by decide) (by decide) (by decide)
  refine Go.st st59 ?_
  obtain ⟨ob, q59⟩ : ∃ z, z = h0.size := ⟨_, rfl⟩
  rw [← q59] at A59 ⊢
  have g_ob : n0 ≤ ob := Nat.le_trans Z0 (Nat.le_of_eq q59.symm)
  have mh_ob : h0.size ≤ ob := Nat.le_trans K0.1 (Nat.le_of_eq q59.symm)
  have K59 : Keep h0 h59 [] := Keep.ext K0 E59
  have Zs59 : n0 ≤ h59.size := Nat.le_trans Z0 E59.1
  have Av_ob : Arv Z h59 ob cA59 .byte (Int32.ofNat us.length) (List.replicate us.length (.int (0 : Int32))) (.int (0 : Int32)) := Arv.pad (Arv.new A59 (own_in (N := us.length + 1) (by omega) (by omega)).1) (pad_rep [] (.int (0 : Int32)) us.length)
  show Go p e below _ (T59.setTop (mkF m 3 #[.val (.ref a1), .val (.int (0 : Int32)), .val (.int (Int32.ofNat us.length)), .unset, .unset, .unset] [(.ref ob)]))
  refine g_astoreN X59 hx (hb hby d7_3) 4 rfl rfl #[.val (.ref a1), .val (.int (0 : Int32)), .val (.int (Int32.ofNat us.length)), .val (.ref ob), .unset, .unset] rfl ?_
  refine g_aloadN X59 hx (hb hby d7_4) 5 rfl (v := (.ref a1)) rfl rfl ?_
  refine g_iloadN X59 hx (hb hby d7_5) 6 rfl (v := (0 : Int32)) rfl ?_
  refine g_aloadN X59 hx (hb hby d7_6) 7 rfl (v := (.ref ob)) rfl rfl ?_
  refine g_iconst X59 hx (hb hby d7_7) 8 rfl (0 : Int32) rfl ?_
  refine g_iloadN X59 hx (hb hby d7_8) 9 rfl (v := (Int32.ofNat us.length)) rfl ?_
  obtain ⟨_, _, ⟨T61, L61, k61, n61⟩, -, X61, ⟨Lc61, hQ61, l61, y61, z61⟩, st61⟩ := Jvm.LawKit.callS X59 hx (y := (⟨"java/lang/StringUTF16", "compress", "([CI[BII)I"⟩ : MethodName)) hown (mvT hZ (hw _ (List.mem_of_getElem? (i := 41) rfl))) (mvT hZ (hw _ (List.mem_of_getElem? (i := 42) rfl))) (mvT hZ (hw _ (List.mem_of_getElem? (i := 39) rfl))) (mvT hZ (hw _ (List.mem_of_getElem? (i := 43) rfl))) (by decide) (backOf (W := 0) (rmcmp l Z a0 hw [] a1 ob kc cA59 us h59 n0 Zs59 (Arv.keep A_a1 K59 nin0) Av_ob g_ob (Nat.ne_of_lt (Nat.lt_of_lt_of_le A_a1.lt mh_ob)) hle) hZ (hw _ (List.mem_of_getElem? (i := 43) rfl)) (hw _ (List.mem_of_getElem? (i := 39) rfl)) (by decide) (by decide)) (g := (mkF m 9 #[.val (.ref a1), .val (.int (0 : Int32)), .val (.int (Int32.ofNat us.length)), .val (.ref ob), .unset, .unset] [(.int (Int32.ofNat us.length)), (.int (0 : Int32)), (.ref ob), (.int (0 : Int32)), (.ref a1)])) rfl (by rw [hml]; rfl) (argsL := [(.ref a1), (.int (0 : Int32)), (.ref ob), (.int (0 : Int32)), (.int (Int32.ofNat us.length))]) (rest := []) (lenOf own_pd7 rfl) rfl (by show 2 * 0 + _ ≤ _; exact Nat.le_of_eq rfl) (hb hby d7_9) (fun _ _ => ⟨rfl, e59, (by decide : 1 + 0 ≤ _), (by decide : 4 + 0 ≤ _)⟩)
  dsimp only [Pt.U, Pt.locs, Pt.cells, Pt.slots] at X61 l61 y61 z61 st61 hQ61
  subst l61 y61 z61
  obtain ⟨r_61, rfl, Nq61, Kq61, f61_0, p61_0, p61_1, p61_2⟩ := hQ61
  refine Go.st st61 ?_
  have N61 := Fr.app N0 Nq61
  have K61 : Keep h0 T61.heap [] := Keep.trans K59 Kq61 (allS (Or.inr mh_ob) all0)
  have Zs61 : n0 ≤ T61.heap.size := Nat.le_trans Zs59 Kq61.1
  show Go p e below _ (T61.setTop (mkF m 12 #[.val (.ref a1), .val (.int (0 : Int32)), .val (.int (Int32.ofNat us.length)), .val (.ref ob), .unset, .unset] [(.int (Int32.ofNat r_61))]))
  obtain rfl : r_61 = us.length := own_rfull p61_0 p61_2 h8
  have Avf : Arv Z T61.heap ob cA59 .byte (Int32.ofNat us.length) (own_bs us) (.int (0 : Int32)) := by have q := f61_0; rw [own_cvfull] at q; exact q
  refine g_istore X61 hx (hb hby d7_12) 14 rfl #[.val (.ref a1), .val (.int (0 : Int32)), .val (.int (Int32.ofNat us.length)), .val (.ref ob), .val (.int (Int32.ofNat us.length)), .unset] rfl ?_
  refine g_iload X61 hx (hb hby d7_14) 16 rfl (v := (Int32.ofNat us.length)) rfl ?_
  refine g_iloadN X61 hx (hb hby d7_16) 17 rfl (v := (Int32.ofNat us.length)) rfl ?_
  refine g_icmp_eq X61 hx (hb hby d7_17) 57 20 (by decide) (by decide) rfl (fun hc17 => ?_) (fun hc17 => False.elim (hc17 rfl))
  refine g_aloadN X61 hx (hb hby d7_57) 58 rfl (v := (.ref ob)) rfl rfl ?_
  refine Go.retA X61 hx hlk Bd.returns rfl rfl (hb hby d7_58) (by decide) (by decide) ?_
  show QcmpaL Z a1 kc us h0 n0 _ T61.heap _
  exact ⟨ob, cA59, rfl, N61, K61, mh_ob, Avf⟩
theorem ef_cmpaU (m : MethodId) (x0 : Addr) (x1 : Int32) (x2 : Int32) : entryFrame m #[(.ref x0), (.int x1), (.int x2)] 6 = mkF m 0 #[.val (.ref x0), .val (.int x1), .val (.int x2), .unset, .unset, .unset] [] := by first | (simp [entryFrame, mkF, argsToLocals, Value.category]; done) | rfl
theorem d7_20 : decode jdk_52_method_16_code 20 = .ok (.aload_n 0, 1) := by decide +kernel
theorem d7_21 : decode jdk_52_method_16_code 21 = .ok (.iload_n 1, 1) := by decide +kernel
theorem d7_22 : decode jdk_52_method_16_code 22 = .ok (.iload_n 2, 1) := by decide +kernel
theorem own_pd8 : parseMethodDescriptor "([CII)[B" = some ⟨[(.array .char), .int, .int], some (.array .byte)⟩ := by decide +kernel
theorem d7_23 : decode jdk_52_method_16_code 23 = .ok (.invokestatic 119, 3) := by decide +kernel
theorem d7_26 : decode jdk_52_method_16_code 26 = .ok (.astore 5, 2) := by decide +kernel
theorem d7_28 : decode jdk_52_method_16_code 28 = .ok (.aload 5, 2) := by decide +kernel
theorem d7_30 : decode jdk_52_method_16_code 30 = .ok (.iload 4, 2) := by decide +kernel
theorem own_pd9 : parseMethodDescriptor "([BI)C" = some ⟨[(.array .byte), .int], some .char⟩ := by decide +kernel
theorem d7_32 : decode jdk_52_method_16_code 32 = .ok (.invokestatic 71, 3) := by decide +kernel
theorem d7_35 : decode jdk_52_method_16_code 35 = .ok (.sipush 255, 3) := by decide +kernel
theorem d7_38 : decode jdk_52_method_16_code 38 = .ok (.if_icmp .gt 16, 3) := by decide +kernel
theorem d7_54 : decode jdk_52_method_16_code 54 = .ok (.aload 5, 2) := by decide +kernel
theorem d7_56 : decode jdk_52_method_16_code 56 = .ok (.areturn, 1) := by decide +kernel
def QcmpaU (Z : State) (a1 : Addr) (kc : ClassId) (us : List Int32) (h0 : Heap) (n0 : Nat) (v : Option Value) (h : Heap) (L : List Loc) : Prop := ∃ b : Addr, ∃ kb : ClassId, v = some (.ref b) ∧ Fr n0 L ∧ Keep h0 h [] ∧ h0.size ≤ b ∧ (Arv Z h b kb .byte (Int32.ofNat (2 * us.length)) (own_ub us) (.int (0 : Int32)))
set_option maxRecDepth 65536 in
set_option maxHeartbeats 40000000 in
theorem rmcmpaU (l : Launch) (Z : State) (a0 : Array Value) (hw : ∀ d ∈ tables_1, d.before a0 Z = true) (ws : List Jvm.Cond) (a1 : Addr) (kc : ClassId) (us : List Int32) (h0 : Heap) (n0 : Nat) (Z0 : n0 ≤ h0.size) (S_assertionsDisabled : Sta Z h0 "java/lang/StringUTF16" "$assertionsDisabled" "Z" (.int (1 : Int32))) (S_HI_BYTE_SHIFT : Sta Z h0 "java/lang/StringUTF16" "HI_BYTE_SHIFT" "I" (.int (0 : Int32))) (S_LO_BYTE_SHIFT : Sta Z h0 "java/lang/StringUTF16" "LO_BYTE_SHIFT" "I" (.int (8 : Int32))) (A_a1 : Arv Z h0 a1 kc .char (Int32.ofNat us.length) (us.map Value.int) (.int (0 : Int32))) (hle : us.length ≤ 4) (hC : ∀ x ∈ us, own_C x) (hu : ¬ ∀ x ∈ us, ¬ (255 : Int32) < x) :
    MetFree l (⟨"java/lang/StringUTF16", "compress", "([CII)[B"⟩ : MethodName) (head1 (Jvm.Cond.code (⟨"java/lang/StringUTF16", "compress", "([CII)[B"⟩ : MethodName) jdk_52_method_16_code 6 (some (.array .byte)) :: ws) ({ frames := 3, cells := 2, slots := 12, locals := 40 } : Room)) (fun a U => a = #[(.ref a1), (.int (0 : Int32)), (.int (Int32.ofNat us.length))] ∧ Z.Warmed39 U.vm ∧ U.heap = h0) (fun _ _ _ _ _ => True) (fun _ U o U' => ∃ v L, o = .returned v ∧ QcmpaU Z a1 kc us h0 n0 v U'.heap L ∧ FrameEnd U o U' L ({ frames := 3, cells := 2, slots := 12, locals := 40 } : Room).cells ({ frames := 3, cells := 2, slots := 12, locals := 40 } : Room).slots) := by
  refine MetFree.of_bodySF (plainFor_of_name own_pn_java_lang_StringUTF16) hisR ?_
  intro p e s m args below meth c s₁ Bd hml0 hP hK
  obtain ⟨rfl, hZ, hh⟩ := hP
  have hx := Bd.exec
  have hby := Bd.bytes
  have hlk := Bd.notSynchronized
  have hml : c.maxLocals = 6 := hml0
  have hown : s.vm.findClass "java/lang/StringUTF16" = some m.cls := findClass_of_methodNamed Bd.named
  have hnm := (name_of_methodNamed Bd.named Bd.method).1
  have X0 : Stand p l e ({ frames := 3, cells := 2, slots := 12, locals := 40 } : Room) s m #[(.ref a1), (.int (0 : Int32)), (.int (Int32.ofNat us.length))] below meth c s₁ [] 0 0 := Stand.of_body Bd
  have e0 : s₁.heap = h0 := by rw [← hh, Bd.state]; rfl
  have N0 := Fr.nil n0
  have K0 : Keep h0 h0 [] := Keep.refl _ _
  show Go p e below (KQ s below (QcmpaU Z a1 kc us h0 n0) ({ frames := 3, cells := 2, slots := 12, locals := 40 } : Room).cells ({ frames := 3, cells := 2, slots := 12, locals := 40 } : Room).slots) _
  refine Go.body (T := s₁) (σ := s₁) (g' := (mkF m 0 #[.val (.ref a1), .val (.int (0 : Int32)), .val (.int (Int32.ofNat us.length)), .unset, .unset, .unset] [])) (ef_cmpaU m a1 (0 : Int32) (Int32.ofNat us.length)) ?_
  refine g_iloadN X0 hx (hb hby d7_0) 1 rfl (v := (Int32.ofNat us.length)) rfl ?_
  obtain ⟨T63, h63, cA63, X63, e63, E63, A63, st63⟩ := newP X0 hx hZ (aty := .byte) (hw _ (List.mem_of_getElem? (i := 20) rfl)) e0 (g := (mkF m 1 #[.val (.ref a1), .val (.int (0 : Int32)), .val (.int (Int32.ofNat us.length)), .unset, .unset, .unset] [(.int (Int32.ofNat us.length))])) rfl (hb hby d7_1) rfl (own_in (N := us.length + 1) (by omega) (by omega)).1 (cap := 4) (by rw [own_cl (by omega)]; omega) (by decide) (by decide) (by decide)
  refine Go.st st63 ?_
  obtain ⟨ob, q63⟩ : ∃ z, z = h0.size := ⟨_, rfl⟩
  rw [← q63] at A63 ⊢
  have g_ob : n0 ≤ ob := Nat.le_trans Z0 (Nat.le_of_eq q63.symm)
  have mh_ob : h0.size ≤ ob := Nat.le_trans K0.1 (Nat.le_of_eq q63.symm)
  have K63 : Keep h0 h63 [] := Keep.ext K0 E63
  have Zs63 : n0 ≤ h63.size := Nat.le_trans Z0 E63.1
  have Av_ob : Arv Z h63 ob cA63 .byte (Int32.ofNat us.length) (List.replicate us.length (.int (0 : Int32))) (.int (0 : Int32)) := Arv.pad (Arv.new A63 (own_in (N := us.length + 1) (by omega) (by omega)).1) (pad_rep [] (.int (0 : Int32)) us.length)
  show Go p e below _ (T63.setTop (mkF m 3 #[.val (.ref a1), .val (.int (0 : Int32)), .val (.int (Int32.ofNat us.length)), .unset, .unset, .unset] [(.ref ob)]))
  refine g_astoreN X63 hx (hb hby d7_3) 4 rfl rfl #[.val (.ref a1), .val (.int (0 : Int32)), .val (.int (Int32.ofNat us.length)), .val (.ref ob), .unset, .unset] rfl ?_
  refine g_aloadN X63 hx (hb hby d7_4) 5 rfl (v := (.ref a1)) rfl rfl ?_
  refine g_iloadN X63 hx (hb hby d7_5) 6 rfl (v := (0 : Int32)) rfl ?_
  refine g_aloadN X63 hx (hb hby d7_6) 7 rfl (v := (.ref ob)) rfl rfl ?_
  refine g_iconst X63 hx (hb hby d7_7) 8 rfl (0 : Int32) rfl ?_
  refine g_iloadN X63 hx (hb hby d7_8) 9 rfl (v := (Int32.ofNat us.length)) rfl ?_
  obtain ⟨_, _, ⟨T65, L65, k65, n65⟩, -, X65, ⟨Lc65, hQ65, l65, y65, z65⟩, st65⟩ := Jvm.LawKit.callS X63 hx (y := (⟨"java/lang/StringUTF16", "compress", "([CI[BII)I"⟩ : MethodName)) hown (mvT hZ (hw _ (List.mem_of_getElem? (i := 41) rfl))) (mvT hZ (hw _ (List.mem_of_getElem? (i := 42) rfl))) (mvT hZ (hw _ (List.mem_of_getElem? (i := 39) rfl))) (mvT hZ (hw _ (List.mem_of_getElem? (i := 43) rfl))) (by decide) (backOf (W := 0) (rmcmp l Z a0 hw [] a1 ob kc cA63 us h63 n0 Zs63 (Arv.keep A_a1 K63 nin0) Av_ob g_ob (Nat.ne_of_lt (Nat.lt_of_lt_of_le A_a1.lt mh_ob)) hle) hZ (hw _ (List.mem_of_getElem? (i := 43) rfl)) (hw _ (List.mem_of_getElem? (i := 39) rfl)) (by decide) (by decide)) (g := (mkF m 9 #[.val (.ref a1), .val (.int (0 : Int32)), .val (.int (Int32.ofNat us.length)), .val (.ref ob), .unset, .unset] [(.int (Int32.ofNat us.length)), (.int (0 : Int32)), (.ref ob), (.int (0 : Int32)), (.ref a1)])) rfl (by rw [hml]; rfl) (argsL := [(.ref a1), (.int (0 : Int32)), (.ref ob), (.int (0 : Int32)), (.int (Int32.ofNat us.length))]) (rest := []) (lenOf own_pd7 rfl) rfl (by show 2 * 0 + _ ≤ _; exact Nat.le_of_eq rfl) (hb hby d7_9) (fun _ _ => ⟨rfl, e63, (by decide : 1 + 0 ≤ _), (by decide : 4 + 0 ≤ _)⟩)
  dsimp only [Pt.U, Pt.locs, Pt.cells, Pt.slots] at X65 l65 y65 z65 st65 hQ65
  subst l65 y65 z65
  obtain ⟨r_65, rfl, Nq65, Kq65, f65_0, p65_0, p65_1, p65_2⟩ := hQ65
  refine Go.st st65 ?_
  have N65 := Fr.app N0 Nq65
  have K65 : Keep h0 T65.heap [] := Keep.trans K63 Kq65 (allS (Or.inr mh_ob) all0)
  have Zs65 : n0 ≤ T65.heap.size := Nat.le_trans Zs63 Kq65.1
  show Go p e below _ (T65.setTop (mkF m 12 #[.val (.ref a1), .val (.int (0 : Int32)), .val (.int (Int32.ofNat us.length)), .val (.ref ob), .unset, .unset] [(.int (Int32.ofNat r_65))]))
  have hr : r_65 < us.length := own_rpart p65_0 p65_1 hu
  refine g_istore X65 hx (hb hby d7_12) 14 rfl #[.val (.ref a1), .val (.int (0 : Int32)), .val (.int (Int32.ofNat us.length)), .val (.ref ob), .val (.int (Int32.ofNat r_65)), .unset] rfl ?_
  refine g_iload X65 hx (hb hby d7_14) 16 rfl (v := (Int32.ofNat r_65)) rfl ?_
  refine g_iloadN X65 hx (hb hby d7_16) 17 rfl (v := (Int32.ofNat us.length)) rfl ?_
  refine g_icmp_eq X65 hx (hb hby d7_17) 57 20 (by decide) (by decide) rfl (fun hc17 => False.elim (absurd (own_eqn (by omega) (by omega) hc17) (by omega))) (fun hc17 => ?_)
  refine g_aloadN X65 hx (hb hby d7_20) 21 rfl (v := (.ref a1)) rfl rfl ?_
  refine g_iloadN X65 hx (hb hby d7_21) 22 rfl (v := (0 : Int32)) rfl ?_
  refine g_iloadN X65 hx (hb hby d7_22) 23 rfl (v := (Int32.ofNat us.length)) rfl ?_
  obtain ⟨_, _, ⟨T67, L67, k67, n67⟩, -, X67, ⟨Lc67, hQ67, l67, y67, z67⟩, st67⟩ := Jvm.LawKit.callS X65 hx (y := (⟨"java/lang/StringUTF16", "toBytes", "([CII)[B"⟩ : MethodName)) hown (mvT hZ (hw _ (List.mem_of_getElem? (i := 93) rfl))) (mvT hZ (hw _ (List.mem_of_getElem? (i := 94) rfl))) (mvT hZ (hw _ (List.mem_of_getElem? (i := 39) rfl))) (mvT hZ (hw _ (List.mem_of_getElem? (i := 95) rfl))) (by decide) (backOf (W := 0) (rmtb l Z a0 hw [] a1 kc us T65.heap n0 Zs65 (own_Sta_keep S_assertionsDisabled K65 all0) (own_Sta_keep S_HI_BYTE_SHIFT K65 all0) (own_Sta_keep S_LO_BYTE_SHIFT K65 all0) (Arv.keep A_a1 K65 nin0) hle) hZ (hw _ (List.mem_of_getElem? (i := 95) rfl)) (hw _ (List.mem_of_getElem? (i := 39) rfl)) (by decide) (by decide)) (g := (mkF m 23 #[.val (.ref a1), .val (.int (0 : Int32)), .val (.int (Int32.ofNat us.length)), .val (.ref ob), .val (.int (Int32.ofNat r_65)), .unset] [(.int (Int32.ofNat us.length)), (.int (0 : Int32)), (.ref a1)])) rfl (by rw [hml]; rfl) (argsL := [(.ref a1), (.int (0 : Int32)), (.int (Int32.ofNat us.length))]) (rest := []) (lenOf own_pd8 rfl) rfl (by show 2 * 0 + _ ≤ _; exact Nat.le_of_eq rfl) (hb hby d7_23) (fun _ _ => ⟨rfl, rfl, (by decide : 1 + 1 ≤ _), (by decide : 4 + 8 ≤ _)⟩)
  dsimp only [Pt.U, Pt.locs, Pt.cells, Pt.slots] at X67 l67 y67 z67 st67 hQ67
  subst l67 y67 z67
  obtain ⟨oub, oukb, rfl, Nq67, Kq67, f67_0, f67_1⟩ := hQ67
  refine Go.st st67 ?_
  have N67 := Fr.app N65 Nq67
  have g_oub : n0 ≤ oub := Nat.le_trans Zs65 f67_0
  have mh_oub : h0.size ≤ oub := Nat.le_trans K65.1 f67_0
  have K67 : Keep h0 T67.heap [] := Keep.trans K65 Kq67 all0
  have Zs67 : n0 ≤ T67.heap.size := Nat.le_trans Zs65 Kq67.1
  show Go p e below _ (T67.setTop (mkF m 26 #[.val (.ref a1), .val (.int (0 : Int32)), .val (.int (Int32.ofNat us.length)), .val (.ref ob), .val (.int (Int32.ofNat r_65)), .unset] [(.ref oub)]))
  refine g_astore X67 hx (hb hby d7_26) 28 rfl rfl #[.val (.ref a1), .val (.int (0 : Int32)), .val (.int (Int32.ofNat us.length)), .val (.ref ob), .val (.int (Int32.ofNat r_65)), .val (.ref oub)] rfl ?_
  refine g_aload X67 hx (hb hby d7_28) 30 rfl (v := (.ref oub)) rfl rfl ?_
  refine g_iload X67 hx (hb hby d7_30) 32 rfl (v := (Int32.ofNat r_65)) rfl ?_
  obtain ⟨_, _, ⟨T69, L69, k69, n69⟩, -, X69, ⟨Lc69, hQ69, l69, y69, z69⟩, st69⟩ := Jvm.LawKit.callS X67 hx (y := (⟨"java/lang/StringUTF16", "getChar", "([BI)C"⟩ : MethodName)) hown (mvT hZ (hw _ (List.mem_of_getElem? (i := 109) rfl))) (mvT hZ (hw _ (List.mem_of_getElem? (i := 110) rfl))) (mvT hZ (hw _ (List.mem_of_getElem? (i := 39) rfl))) (mvT hZ (hw _ (List.mem_of_getElem? (i := 111) rfl))) (by decide) (backOf (W := 0) (rmgc l Z a0 hw [] oub oukb r_65 us T67.heap n0 Zs67 (own_Sta_keep S_assertionsDisabled K67 all0) (own_Sta_keep S_HI_BYTE_SHIFT K67 all0) (own_Sta_keep S_LO_BYTE_SHIFT K67 all0) f67_1 hle hr hC) hZ (hw _ (List.mem_of_getElem? (i := 111) rfl)) (hw _ (List.mem_of_getElem? (i := 39) rfl)) (by decide) (by decide)) (g := (mkF m 32 #[.val (.ref a1), .val (.int (0 : Int32)), .val (.int (Int32.ofNat us.length)), .val (.ref ob), .val (.int (Int32.ofNat r_65)), .val (.ref oub)] [(.int (Int32.ofNat r_65)), (.ref oub)])) rfl (by rw [hml]; rfl) (argsL := [(.ref oub), (.int (Int32.ofNat r_65))]) (rest := []) (lenOf own_pd9 rfl) rfl (by show 2 * 0 + _ ≤ _; exact Nat.le_of_eq rfl) (hb hby d7_32) (fun _ _ => ⟨rfl, rfl, (by decide : 2 + 0 ≤ _), (by decide : 12 + 0 ≤ _)⟩)
  dsimp only [Pt.U, Pt.locs, Pt.cells, Pt.slots] at X69 l69 y69 z69 st69 hQ69
  subst l69 y69 z69
  obtain ⟨rfl, Nq69, e69⟩ := hQ69
  refine Go.st st69 ?_
  have N69 := Fr.app N67 Nq69
  show Go p e below _ (T69.setTop (mkF m 35 #[.val (.ref a1), .val (.int (0 : Int32)), .val (.int (Int32.ofNat us.length)), .val (.ref ob), .val (.int (Int32.ofNat r_65)), .val (.ref oub)] [(.int (us.getD r_65 0))]))
  refine g_sipush X69 hx (hb hby d7_35) 38 rfl (255 : Int32) rfl ?_
  refine g_icmp_gt X69 hx (hb hby d7_38) 54 41 (by decide) (by decide) rfl (fun hc38 => ?_) (fun hc38 => False.elim (hc38 (p65_2 hr)))
  refine g_aload X69 hx (hb hby d7_54) 56 rfl (v := (.ref oub)) rfl rfl ?_
  refine Go.retA X69 hx hlk Bd.returns rfl rfl (hb hby d7_56) (by decide) (by decide) ?_
  show QcmpaU Z a1 kc us h0 n0 _ T69.heap _
  rw [e69]
  exact ⟨oub, oukb, rfl, N69, K67, mh_oub, f67_1⟩
theorem ef_cflL (m : MethodId) (x0 : Addr) (x1 : Int32) : entryFrame m #[(.ref x0), (.int x1)] 2 = mkF m 0 #[.val (.ref x0), .val (.int x1)] [] := by first | (simp [entryFrame, mkF, argsToLocals, Value.category]; done) | rfl
theorem d9_0 : decode jdk_52_method_15_code 0 = .ok (.iload_n 1, 1) := by decide +kernel
theorem d9_1 : decode jdk_52_method_15_code 1 = .ok (.aload_n 0, 1) := by decide +kernel
theorem d9_2 : decode jdk_52_method_15_code 2 = .ok (.arraylength, 1) := by decide +kernel
theorem d9_3 : decode jdk_52_method_15_code 3 = .ok (.isub, 1) := by decide +kernel
theorem d9_4 : decode jdk_52_method_15_code 4 = .ok (.bipush 31, 2) := by decide +kernel
theorem d9_6 : decode jdk_52_method_15_code 6 = .ok (.iushr, 1) := by decide +kernel
theorem d9_7 : decode jdk_52_method_15_code 7 = .ok (.i2b, 1) := by decide +kernel
theorem d9_8 : decode jdk_52_method_15_code 8 = .ok (.ireturn, 1) := by decide +kernel
def QcflL (Z : State) (a1 : Addr) (kb : ClassId) (us : List Int32) (h0 : Heap) (n0 : Nat) (v : Option Value) (h : Heap) (L : List Loc) : Prop := v = some (.int (0 : Int32)) ∧ Fr n0 L ∧ h = h0
set_option maxRecDepth 65536 in
set_option maxHeartbeats 40000000 in
theorem rmcflL (l : Launch) (Z : State) (a0 : Array Value) (hw : ∀ d ∈ tables_1, d.before a0 Z = true) (ws : List Jvm.Cond) (a1 : Addr) (kb : ClassId) (us : List Int32) (h0 : Heap) (n0 : Nat) (Z0 : n0 ≤ h0.size) (A_a1 : Arv Z h0 a1 kb .byte (Int32.ofNat us.length) (own_bs us) (.int (0 : Int32))) :
    MetFree l (⟨"java/lang/StringUTF16", "coderFromArrayLen", "([BI)B"⟩ : MethodName) (head1 (Jvm.Cond.code (⟨"java/lang/StringUTF16", "coderFromArrayLen", "([BI)B"⟩ : MethodName) jdk_52_method_15_code 2 (some .byte) :: ws) ({ frames := 0, cells := 0, slots := 0, locals := 0 } : Room)) (fun a U => a = #[(.ref a1), (.int (Int32.ofNat us.length))] ∧ Z.Warmed39 U.vm ∧ U.heap = h0) (fun _ _ _ _ _ => True) (fun _ U o U' => ∃ v L, o = .returned v ∧ QcflL Z a1 kb us h0 n0 v U'.heap L ∧ FrameEnd U o U' L ({ frames := 0, cells := 0, slots := 0, locals := 0 } : Room).cells ({ frames := 0, cells := 0, slots := 0, locals := 0 } : Room).slots) := by
  refine MetFree.of_bodySF (plainFor_of_name own_pn_java_lang_StringUTF16) hisR ?_
  intro p e s m args below meth c s₁ Bd hml0 hP hK
  obtain ⟨rfl, hZ, hh⟩ := hP
  have hx := Bd.exec
  have hby := Bd.bytes
  have hlk := Bd.notSynchronized
  have hml : c.maxLocals = 2 := hml0
  have hown : s.vm.findClass "java/lang/StringUTF16" = some m.cls := findClass_of_methodNamed Bd.named
  have hnm := (name_of_methodNamed Bd.named Bd.method).1
  have X0 : Stand p l e ({ frames := 0, cells := 0, slots := 0, locals := 0 } : Room) s m #[(.ref a1), (.int (Int32.ofNat us.length))] below meth c s₁ [] 0 0 := Stand.of_body Bd
  have e0 : s₁.heap = h0 := by rw [← hh, Bd.state]; rfl
  have N0 := Fr.nil n0
  show Go p e below (KQ s below (QcflL Z a1 kb us h0 n0) ({ frames := 0, cells := 0, slots := 0, locals := 0 } : Room).cells ({ frames := 0, cells := 0, slots := 0, locals := 0 } : Room).slots) _
  refine Go.body (T := s₁) (σ := s₁) (g' := (mkF m 0 #[.val (.ref a1), .val (.int (Int32.ofNat us.length))] [])) (ef_cflL m a1 (Int32.ofNat us.length)) ?_
  refine g_iloadN X0 hx (hb hby d9_0) 1 rfl (v := (Int32.ofNat us.length)) rfl ?_
  refine g_aloadN X0 hx (hb hby d9_1) 2 rfl (v := (.ref a1)) rfl rfl ?_
  refine g_alen X0 hx (hb hby d9_2) 3 rfl hZ e0 A_a1 ?_
  refine g_isub X0 hx (hb hby d9_3) 4 rfl (0 : Int32) (Int32.sub_self _) ?_
  refine g_bipush X0 hx (hb hby d9_4) 6 rfl (31 : Int32) rfl ?_
  refine g_iushr X0 hx (hb hby d9_6) 7 rfl (XT.ushr (0 : Int32) (31 : Int32)) rfl ?_
  refine g_i2b X0 hx (hb hby d9_7) 8 rfl (XT.ushr (0 : Int32) (31 : Int32)).toInt8.toInt32 rfl ?_
  refine Go.retN X0 hx hlk (t := .byte) Bd.returns (by simp) (hb hby d9_8) (by decide) (by decide) ?_
  show QcflL Z a1 kb us h0 n0 _ s₁.heap _
  rw [e0]
  exact ⟨(by decide), N0, rfl⟩
theorem ef_cflU (m : MethodId) (x0 : Addr) (x1 : Int32) : entryFrame m #[(.ref x0), (.int x1)] 2 = mkF m 0 #[.val (.ref x0), .val (.int x1)] [] := by first | (simp [entryFrame, mkF, argsToLocals, Value.category]; done) | rfl
def QcflU (Z : State) (a1 : Addr) (kb : ClassId) (us : List Int32) (h0 : Heap) (n0 : Nat) (v : Option Value) (h : Heap) (L : List Loc) : Prop := v = some (.int (1 : Int32)) ∧ Fr n0 L ∧ h = h0
set_option maxRecDepth 65536 in
set_option maxHeartbeats 40000000 in
theorem rmcflU (l : Launch) (Z : State) (a0 : Array Value) (hw : ∀ d ∈ tables_1, d.before a0 Z = true) (ws : List Jvm.Cond) (a1 : Addr) (kb : ClassId) (us : List Int32) (h0 : Heap) (n0 : Nat) (Z0 : n0 ≤ h0.size) (A_a1 : Arv Z h0 a1 kb .byte (Int32.ofNat (2 * us.length)) (own_ub us) (.int (0 : Int32))) (hle : us.length ≤ 4) (hpos : 0 < us.length) :
    MetFree l (⟨"java/lang/StringUTF16", "coderFromArrayLen", "([BI)B"⟩ : MethodName) (head1 (Jvm.Cond.code (⟨"java/lang/StringUTF16", "coderFromArrayLen", "([BI)B"⟩ : MethodName) jdk_52_method_15_code 2 (some .byte) :: ws) ({ frames := 0, cells := 0, slots := 0, locals := 0 } : Room)) (fun a U => a = #[(.ref a1), (.int (Int32.ofNat us.length))] ∧ Z.Warmed39 U.vm ∧ U.heap = h0) (fun _ _ _ _ _ => True) (fun _ U o U' => ∃ v L, o = .returned v ∧ QcflU Z a1 kb us h0 n0 v U'.heap L ∧ FrameEnd U o U' L ({ frames := 0, cells := 0, slots := 0, locals := 0 } : Room).cells ({ frames := 0, cells := 0, slots := 0, locals := 0 } : Room).slots) := by
  refine MetFree.of_bodySF (plainFor_of_name own_pn_java_lang_StringUTF16) hisR ?_
  intro p e s m args below meth c s₁ Bd hml0 hP hK
  obtain ⟨rfl, hZ, hh⟩ := hP
  have hx := Bd.exec
  have hby := Bd.bytes
  have hlk := Bd.notSynchronized
  have hml : c.maxLocals = 2 := hml0
  have hown : s.vm.findClass "java/lang/StringUTF16" = some m.cls := findClass_of_methodNamed Bd.named
  have hnm := (name_of_methodNamed Bd.named Bd.method).1
  have X0 : Stand p l e ({ frames := 0, cells := 0, slots := 0, locals := 0 } : Room) s m #[(.ref a1), (.int (Int32.ofNat us.length))] below meth c s₁ [] 0 0 := Stand.of_body Bd
  have e0 : s₁.heap = h0 := by rw [← hh, Bd.state]; rfl
  have N0 := Fr.nil n0
  show Go p e below (KQ s below (QcflU Z a1 kb us h0 n0) ({ frames := 0, cells := 0, slots := 0, locals := 0 } : Room).cells ({ frames := 0, cells := 0, slots := 0, locals := 0 } : Room).slots) _
  refine Go.body (T := s₁) (σ := s₁) (g' := (mkF m 0 #[.val (.ref a1), .val (.int (Int32.ofNat us.length))] [])) (ef_cflU m a1 (Int32.ofNat us.length)) ?_
  refine g_iloadN X0 hx (hb hby d9_0) 1 rfl (v := (Int32.ofNat us.length)) rfl ?_
  refine g_aloadN X0 hx (hb hby d9_1) 2 rfl (v := (.ref a1)) rfl rfl ?_
  refine g_alen X0 hx (hb hby d9_2) 3 rfl hZ e0 A_a1 ?_
  refine g_isub X0 hx (hb hby d9_3) 4 rfl ((Int32.ofNat us.length) - (Int32.ofNat (2 * us.length))) rfl ?_
  refine g_bipush X0 hx (hb hby d9_4) 6 rfl (31 : Int32) rfl ?_
  refine g_iushr X0 hx (hb hby d9_6) 7 rfl (XT.ushr ((Int32.ofNat us.length) - (Int32.ofNat (2 * us.length))) (31 : Int32)) rfl ?_
  refine g_i2b X0 hx (hb hby d9_7) 8 rfl (1 : Int32) (own_cflu hpos hle) ?_
  refine Go.retN X0 hx hlk (t := .byte) Bd.returns (by simp) (hb hby d9_8) (by decide) (by decide) ?_
  show QcflU Z a1 kb us h0 n0 _ s₁.heap _
  rw [e0]
  exact ⟨(by decide), N0, rfl⟩
theorem ef_sVL (m : MethodId) (x0 : Addr) (x1 : Addr) (x2 : Int32) (x3 : Int32) : entryFrame m #[(.ref x0), (.ref x1), (.int x2), (.int x3), .null] 6 = mkF m 0 #[.val (.ref x0), .val (.ref x1), .val (.int x2), .val (.int x3), .val .null, .unset] [] := by first | (simp [entryFrame, mkF, argsToLocals, Value.category]; done) | rfl
theorem d3_27 : decode jdk_42_method_149_code 27 = .ok (.getstatic 38, 3) := by decide +kernel
theorem d3_30 : decode jdk_42_method_149_code 30 = .ok (.ifCond .eq 28, 3) := by decide +kernel
theorem d3_33 : decode jdk_42_method_149_code 33 = .ok (.aload_n 1, 1) := by decide +kernel
theorem d3_34 : decode jdk_42_method_149_code 34 = .ok (.iload_n 2, 1) := by decide +kernel
theorem d3_35 : decode jdk_42_method_149_code 35 = .ok (.iload_n 3, 1) := by decide +kernel
theorem d3_36 : decode jdk_42_method_149_code 36 = .ok (.invokestatic 177, 3) := by decide +kernel
theorem d3_39 : decode jdk_42_method_149_code 39 = .ok (.astore 5, 2) := by decide +kernel
theorem d3_41 : decode jdk_42_method_149_code 41 = .ok (.aload_n 0, 1) := by decide +kernel
theorem d3_42 : decode jdk_42_method_149_code 42 = .ok (.aload 5, 2) := by decide +kernel
theorem d3_44 : decode jdk_42_method_149_code 44 = .ok (.iload_n 3, 1) := by decide +kernel
theorem own_pd10 : parseMethodDescriptor "([BI)B" = some ⟨[(.array .byte), .int], some .byte⟩ := by decide +kernel
theorem d3_45 : decode jdk_42_method_149_code 45 = .ok (.invokestatic 47, 3) := by decide +kernel
theorem d3_48 : decode jdk_42_method_149_code 48 = .ok (.putfield 15, 3) := by decide +kernel
theorem d3_51 : decode jdk_42_method_149_code 51 = .ok (.aload_n 0, 1) := by decide +kernel
theorem d3_52 : decode jdk_42_method_149_code 52 = .ok (.aload 5, 2) := by decide +kernel
theorem d3_54 : decode jdk_42_method_149_code 54 = .ok (.putfield 9, 3) := by decide +kernel
theorem d3_57 : decode jdk_42_method_149_code 57 = .ok (.return_, 1) := by decide +kernel
def QsVL (Z : State) (a1 : Addr) (a2 : Addr) (cs : Int32) (kc : ClassId) (us : List Int32) (h0 : Heap) (n0 : Nat) (v : Option Value) (h : Heap) (L : List Loc) : Prop := ∃ vb : Addr, ∃ kb : ClassId, v = none ∧ Fr n0 L ∧ Keep h0 h [a1] ∧ h0.size ≤ vb ∧ (Exa Z h a1 "java/lang/String") ∧ (Fld Z h a1 "java/lang/String" "value" "[B" (.ref vb)) ∧ (Fld Z h a1 "java/lang/String" "coder" "B" (.int (0 : Int32))) ∧ (Arv Z h vb kb .byte (Int32.ofNat us.length) (own_bs us) (.int (0 : Int32)))
set_option maxRecDepth 65536 in
set_option maxHeartbeats 40000000 in
theorem rmsVL (l : Launch) (Z : State) (a0 : Array Value) (hw : ∀ d ∈ tables_1, d.before a0 Z = true) (ws : List Jvm.Cond) (a1 : Addr) (a2 : Addr) (cs : Int32) (kc : ClassId) (us : List Int32) (h0 : Heap) (n0 : Nat) (Z0 : n0 ≤ h0.size) (S_COMPACT_STRINGS : Sta Z h0 "java/lang/String" "COMPACT_STRINGS" "Z" (.int cs)) (E_a1 : Exa Z h0 a1 "java/lang/String") (g_a1 : n0 ≤ a1) (F_value_a1 : Fld Z h0 a1 "java/lang/String" "value" "[B" .null) (F_coder_a1 : Fld Z h0 a1 "java/lang/String" "coder" "B" (.int (0 : Int32))) (A_a2 : Arv Z h0 a2 kc .char (Int32.ofNat us.length) (us.map Value.int) (.int (0 : Int32))) (ne_a1_a2 : a1 ≠ a2) (hcs : ¬ cs = 0) (hle : us.length ≤ 4) (hpos : 0 < us.length) (h8 : ∀ x ∈ us, ¬ (255 : Int32) < x) :
    MetFree l (⟨"java/lang/String", "<init>", "([CIILjava/lang/Void;)V"⟩ : MethodName) (head1 (Jvm.Cond.code (⟨"java/lang/String", "<init>", "([CIILjava/lang/Void;)V"⟩ : MethodName) jdk_42_method_149_code 6 none :: ws) ({ frames := 2, cells := 1, slots := 4, locals := 35 } : Room)) (fun a U => a = #[(.ref a1), (.ref a2), (.int (0 : Int32)), (.int (Int32.ofNat us.length)), .null] ∧ Z.Warmed39 U.vm ∧ U.heap = h0) (fun _ _ _ _ _ => True) (fun _ U o U' => ∃ v L, o = .returned v ∧ QsVL Z a1 a2 cs kc us h0 n0 v U'.heap L ∧ FrameEnd U o U' L ({ frames := 2, cells := 1, slots := 4, locals := 35 } : Room).cells ({ frames := 2, cells := 1, slots := 4, locals := 35 } : Room).slots) := by
  refine MetFree.of_bodySF (plainFor_of_name own_pn_java_lang_String) hisR ?_
  intro p e s m args below meth c s₁ Bd hml0 hP hK
  obtain ⟨rfl, hZ, hh⟩ := hP
  have hx := Bd.exec
  have hby := Bd.bytes
  have hlk := Bd.notSynchronized
  have hml : c.maxLocals = 6 := hml0
  have hown : s.vm.findClass "java/lang/String" = some m.cls := findClass_of_methodNamed Bd.named
  have hnm := (name_of_methodNamed Bd.named Bd.method).1
  have X0 : Stand p l e ({ frames := 2, cells := 1, slots := 4, locals := 35 } : Room) s m #[(.ref a1), (.ref a2), (.int (0 : Int32)), (.int (Int32.ofNat us.length)), .null] below meth c s₁ [] 0 0 := Stand.of_body Bd
  have e0 : s₁.heap = h0 := by rw [← hh, Bd.state]; rfl
  have N0 := Fr.nil n0
  have K0 : Keep h0 h0 [a1] := Keep.refl _ _
  show Go p e below (KQ s below (QsVL Z a1 a2 cs kc us h0 n0) ({ frames := 2, cells := 1, slots := 4, locals := 35 } : Room).cells ({ frames := 2, cells := 1, slots := 4, locals := 35 } : Room).slots) _
  refine Go.body (T := s₁) (σ := s₁) (g' := (mkF m 0 #[.val (.ref a1), .val (.ref a2), .val (.int (0 : Int32)), .val (.int (Int32.ofNat us.length)), .val .null, .unset] [])) (ef_sVL m a1 a2 (0 : Int32) (Int32.ofNat us.length)) ?_
  refine g_aloadN X0 hx (hb hby d3_0) 1 rfl (v := (.ref a1)) rfl rfl ?_
  obtain ⟨T72, X72, e72, st72⟩ := initO X0 hx hZ hown (hw _ (List.mem_of_getElem? (i := 16) rfl)) (hw _ (List.mem_of_getElem? (i := 17) rfl)) (hw _ (List.mem_of_getElem? (i := 18) rfl)) e0 (g := (mkF m 1 #[.val (.ref a1), .val (.ref a2), .val (.int (0 : Int32)), .val (.int (Int32.ofNat us.length)), .val .null, .unset] [(.ref a1)])) rfl (by rw [hml]; rfl) rfl (hb hby d3_1) (by decide) (W := 0) (by show 2 * 0 + _ ≤ _; exact Nat.le_of_eq rfl) (by decide)
  refine Go.st st72 ?_
  show Go p e below _ (T72.setTop (mkF m 4 #[.val (.ref a1), .val (.ref a2), .val (.int (0 : Int32)), .val (.int (Int32.ofNat us.length)), .val .null, .unset] []))
  refine g_iloadN X72 hx (hb hby d3_4) 5 rfl (v := (Int32.ofNat us.length)) rfl ?_
  refine g_if_ne X72 hx (hb hby d3_5) 27 8 (by decide) (by decide) rfl (fun hc5 => ?_) (fun hc5 => False.elim (absurd (own_eqn (j := 0) (by omega) (by omega) hc5) (by omega)))
  obtain ⟨T73, X73, e73, st73⟩ := getS2 X72 hx hZ hown (host := "") (Or.inl (hw _ (List.mem_of_getElem? (i := 36) rfl))) Via.refl e72 S_COMPACT_STRINGS (g := (mkF m 27 #[.val (.ref a1), .val (.ref a2), .val (.int (0 : Int32)), .val (.int (Int32.ofNat us.length)), .val .null, .unset] [])) rfl (hb hby d3_27)
  refine Go.st st73 ?_
  show Go p e below _ (T73.setTop (mkF m 30 #[.val (.ref a1), .val (.ref a2), .val (.int (0 : Int32)), .val (.int (Int32.ofNat us.length)), .val .null, .unset] [(.int cs)]))
  refine g_if_eq X73 hx (hb hby d3_30) 58 33 (by decide) (by decide) rfl (fun hc30 => False.elim (hcs hc30)) (fun hc30 => ?_)
  refine g_aloadN X73 hx (hb hby d3_33) 34 rfl (v := (.ref a2)) rfl rfl ?_
  refine g_iloadN X73 hx (hb hby d3_34) 35 rfl (v := (0 : Int32)) rfl ?_
  refine g_iloadN X73 hx (hb hby d3_35) 36 rfl (v := (Int32.ofNat us.length)) rfl ?_
  obtain ⟨_, _, ⟨T74, L74, k74, n74⟩, -, X74, ⟨Lc74, hQ74, l74, y74, z74⟩, st74⟩ := Jvm.LawKit.callS X73 hx (y := (⟨"java/lang/StringUTF16", "compress", "([CII)[B"⟩ : MethodName)) hown (mvT hZ (hw _ (List.mem_of_getElem? (i := 37) rfl))) (mvT hZ (hw _ (List.mem_of_getElem? (i := 38) rfl))) (mvT hZ (hw _ (List.mem_of_getElem? (i := 39) rfl))) (mvT hZ (hw _ (List.mem_of_getElem? (i := 40) rfl))) (by decide) (backOf (W := 0) (rmcmpaL l Z a0 hw [] a2 kc us h0 n0 Z0 A_a2 hle h8) hZ (hw _ (List.mem_of_getElem? (i := 40) rfl)) (hw _ (List.mem_of_getElem? (i := 39) rfl)) (by decide) (by decide)) (g := (mkF m 36 #[.val (.ref a1), .val (.ref a2), .val (.int (0 : Int32)), .val (.int (Int32.ofNat us.length)), .val .null, .unset] [(.int (Int32.ofNat us.length)), (.int (0 : Int32)), (.ref a2)])) rfl (by rw [hml]; rfl) (argsL := [(.ref a2), (.int (0 : Int32)), (.int (Int32.ofNat us.length))]) (rest := []) (lenOf own_pd8 rfl) rfl (by show 2 * 0 + _ ≤ _; exact Nat.le_of_eq rfl) (hb hby d3_36) (fun _ _ => ⟨rfl, e73, (by decide : 0 + 1 ≤ _), (by decide : 0 + 4 ≤ _)⟩)
  dsimp only [Pt.U, Pt.locs, Pt.cells, Pt.slots] at X74 l74 y74 z74 st74 hQ74
  subst l74 y74 z74
  obtain ⟨ovb, okb, rfl, Nq74, Kq74, f74_0, f74_1⟩ := hQ74
  refine Go.st st74 ?_
  have N74 := Fr.app N0 Nq74
  have S_COMPACT_STRINGS_75 : Sta Z T74.heap "java/lang/String" "COMPACT_STRINGS" "Z" (.int cs) := own_Sta_keep S_COMPACT_STRINGS Kq74 all0
  have E_a1_75 : Exa Z T74.heap a1 "java/lang/String" := Exa.keep E_a1 Kq74
  have F_value_a1_75 : Fld Z T74.heap a1 "java/lang/String" "value" "[B" .null := Fld.keep F_value_a1 Kq74 nin0
  have F_coder_a1_75 : Fld Z T74.heap a1 "java/lang/String" "coder" "B" (.int (0 : Int32)) := Fld.keep F_coder_a1 Kq74 nin0
  have ne_a1_ovb : a1 ≠ ovb := Nat.ne_of_lt (Nat.lt_of_lt_of_le E_a1.lt f74_0)
  have g_ovb : n0 ≤ ovb := Nat.le_trans Z0 f74_0
  have mh_ovb : h0.size ≤ ovb := Nat.le_trans K0.1 f74_0
  have K74 : Keep h0 T74.heap [a1] := Keep.trans K0 Kq74 all0
  have Zs74 : n0 ≤ T74.heap.size := Nat.le_trans Z0 Kq74.1
  show Go p e below _ (T74.setTop (mkF m 39 #[.val (.ref a1), .val (.ref a2), .val (.int (0 : Int32)), .val (.int (Int32.ofNat us.length)), .val .null, .unset] [(.ref ovb)]))
  refine g_astore X74 hx (hb hby d3_39) 41 rfl rfl #[.val (.ref a1), .val (.ref a2), .val (.int (0 : Int32)), .val (.int (Int32.ofNat us.length)), .val .null, .val (.ref ovb)] rfl ?_
  refine g_aloadN X74 hx (hb hby d3_41) 42 rfl (v := (.ref a1)) rfl rfl ?_
  refine g_aload X74 hx (hb hby d3_42) 44 rfl (v := (.ref ovb)) rfl rfl ?_
  refine g_iloadN X74 hx (hb hby d3_44) 45 rfl (v := (Int32.ofNat us.length)) rfl ?_
  obtain ⟨_, _, ⟨T76, L76, k76, n76⟩, -, X76, ⟨Lc76, hQ76, l76, y76, z76⟩, st76⟩ := Jvm.LawKit.callS X74 hx (y := (⟨"java/lang/StringUTF16", "coderFromArrayLen", "([BI)B"⟩ : MethodName)) hown (mvT hZ (hw _ (List.mem_of_getElem? (i := 44) rfl))) (mvT hZ (hw _ (List.mem_of_getElem? (i := 45) rfl))) (mvT hZ (hw _ (List.mem_of_getElem? (i := 39) rfl))) (mvT hZ (hw _ (List.mem_of_getElem? (i := 46) rfl))) (by decide) (backOf (W := 1) (rmcflL l Z a0 hw [] ovb okb us T74.heap n0 Zs74 f74_1) hZ (hw _ (List.mem_of_getElem? (i := 46) rfl)) (hw _ (List.mem_of_getElem? (i := 39) rfl)) (by decide) (by decide)) (g := (mkF m 45 #[.val (.ref a1), .val (.ref a2), .val (.int (0 : Int32)), .val (.int (Int32.ofNat us.length)), .val .null, .val (.ref ovb)] [(.int (Int32.ofNat us.length)), (.ref ovb), (.ref a1)])) rfl (by rw [hml]; rfl) (argsL := [(.ref ovb), (.int (Int32.ofNat us.length))]) (rest := [(.ref a1)]) (lenOf own_pd10 rfl) rfl (by show 2 * 0 + _ ≤ _; exact Nat.le_of_eq rfl) (hb hby d3_45) (fun _ _ => ⟨rfl, rfl, (by decide : 1 + 0 ≤ _), (by decide : 4 + 0 ≤ _)⟩)
  dsimp only [Pt.U, Pt.locs, Pt.cells, Pt.slots] at X76 l76 y76 z76 st76 hQ76
  subst l76 y76 z76
  obtain ⟨rfl, Nq76, e76⟩ := hQ76
  refine Go.st st76 ?_
  have N76 := Fr.app N74 Nq76
  show Go p e below _ (T76.setTop (mkF m 48 #[.val (.ref a1), .val (.ref a2), .val (.int (0 : Int32)), .val (.int (Int32.ofNat us.length)), .val .null, .val (.ref ovb)] [(.int (0 : Int32)), (.ref a1)]))
  obtain ⟨T77, h77, X77, e77, W77, st77⟩ := putF X76 hx hZ hown (host := "") (Or.inl (hw _ (List.mem_of_getElem? (i := 26) rfl))) Via.refl e76 F_coder_a1_75 E_a1_75 (Or.inr ⟨(hw _ (List.mem_of_getElem? (i := 22) rfl)), rfl, hnm⟩) (hw _ (List.mem_of_getElem? (i := 6) rfl)) (ty := .byte) (by decide) rfl rfl (g := (mkF m 48 #[.val (.ref a1), .val (.ref a2), .val (.int (0 : Int32)), .val (.int (Int32.ofNat us.length)), .val .null, .val (.ref ovb)] [(.int (0 : Int32)), (.ref a1)])) rfl rfl (hb hby d3_48)
  refine Go.st st77 ?_
  have S_COMPACT_STRINGS_78 : Sta Z h77 "java/lang/String" "COMPACT_STRINGS" "Z" (.int cs) := Sta.wr W77 S_COMPACT_STRINGS_75
  have E_a1_78 : Exa Z h77 a1 "java/lang/String" := Exa.wr W77 E_a1_75
  have F_value_a1_78 : Fld Z h77 a1 "java/lang/String" "value" "[B" .null := Fld.other W77 F_value_a1_75 (Or.inr (slot_ne (Or.inr (hw _ (List.mem_of_getElem? (i := 21) rfl))) (Or.inr (hw _ (List.mem_of_getElem? (i := 22) rfl))) (by decide) (t := (.array .byte)) (t' := .byte) (by decide) (by decide)))
  have A_ovb_78 : Arv Z h77 ovb okb .byte (Int32.ofNat us.length) (own_bs us) (.int (0 : Int32)) := Arv.other f74_1 W77 (Ne.symm ne_a1_ovb)
  have F_coder_a1_77w : Fld Z h77 a1 "java/lang/String" "coder" "B" (.int (0 : Int32)) := Fld.same W77 F_coder_a1_75
  have K77 : Keep h0 h77 [a1] := Keep.wr K74 W77 (Or.inl (List.mem_of_getElem? (i := 0) rfl))
  have N77 := Fr.snoc X77 N76 g_a1
  have Zs77 : n0 ≤ h77.size := by rw [W77.size]; exact Zs74
  show Go p e below _ (T77.setTop (mkF m 51 #[.val (.ref a1), .val (.ref a2), .val (.int (0 : Int32)), .val (.int (Int32.ofNat us.length)), .val .null, .val (.ref ovb)] []))
  refine g_aloadN X77 hx (hb hby d3_51) 52 rfl (v := (.ref a1)) rfl rfl ?_
  refine g_aload X77 hx (hb hby d3_52) 54 rfl (v := (.ref ovb)) rfl rfl ?_
  obtain ⟨T79, h79, X79, e79, W79, st79⟩ := putF X77 hx hZ hown (host := "") (Or.inl (hw _ (List.mem_of_getElem? (i := 25) rfl))) Via.refl e77 F_value_a1_78 E_a1_78 (Or.inr ⟨(hw _ (List.mem_of_getElem? (i := 21) rfl)), rfl, hnm⟩) (hw _ (List.mem_of_getElem? (i := 6) rfl)) (ty := (.array .byte)) (by decide) rfl rfl (g := (mkF m 54 #[.val (.ref a1), .val (.ref a2), .val (.int (0 : Int32)), .val (.int (Int32.ofNat us.length)), .val .null, .val (.ref ovb)] [(.ref ovb), (.ref a1)])) rfl rfl (hb hby d3_54)
  refine Go.st st79 ?_
  have S_COMPACT_STRINGS_80 : Sta Z h79 "java/lang/String" "COMPACT_STRINGS" "Z" (.int cs) := Sta.wr W79 S_COMPACT_STRINGS_78
  have E_a1_80 : Exa Z h79 a1 "java/lang/String" := Exa.wr W79 E_a1_78
  have A_ovb_80 : Arv Z h79 ovb okb .byte (Int32.ofNat us.length) (own_bs us) (.int (0 : Int32)) := Arv.other A_ovb_78 W79 (Ne.symm ne_a1_ovb)
  have F_coder_a1_80 : Fld Z h79 a1 "java/lang/String" "coder" "B" (.int (0 : Int32)) := Fld.other W79 F_coder_a1_77w (Or.inr (slot_ne (Or.inr (hw _ (List.mem_of_getElem? (i := 22) rfl))) (Or.inr (hw _ (List.mem_of_getElem? (i := 21) rfl))) (by decide) (t := .byte) (t' := (.array .byte)) (by decide) (by decide)))
  have F_value_a1_79w : Fld Z h79 a1 "java/lang/String" "value" "[B" (.ref ovb) := Fld.same W79 F_value_a1_78
  have K79 : Keep h0 h79 [a1] := Keep.wr K77 W79 (Or.inl (List.mem_of_getElem? (i := 0) rfl))
  have N79 := Fr.snoc X79 N77 g_a1
  have Zs79 : n0 ≤ h79.size := by rw [W79.size]; exact Zs77
  show Go p e below _ (T79.setTop (mkF m 57 #[.val (.ref a1), .val (.ref a2), .val (.int (0 : Int32)), .val (.int (Int32.ofNat us.length)), .val .null, .val (.ref ovb)] []))
  refine Go.retV X79 hx hlk Bd.returns (hb hby d3_57) (by decide) (by decide) ?_
  show QsVL Z a1 a2 cs kc us h0 n0 _ T79.heap _
  rw [e79]
  exact ⟨ovb, okb, rfl, N79, K79, mh_ovb, E_a1_80, F_value_a1_79w, F_coder_a1_80, A_ovb_80⟩
theorem ef_sCL (m : MethodId) (x0 : Addr) (x1 : Addr) : entryFrame m #[(.ref x0), (.ref x1)] 2 = mkF m 0 #[.val (.ref x0), .val (.ref x1)] [] := by first | (simp [entryFrame, mkF, argsToLocals, Value.category]; done) | rfl
def QsCL (Z : State) (a1 : Addr) (a2 : Addr) (cs : Int32) (kc : ClassId) (us : List Int32) (h0 : Heap) (n0 : Nat) (v : Option Value) (h : Heap) (L : List Loc) : Prop := ∃ vb : Addr, ∃ kb : ClassId, v = none ∧ Fr n0 L ∧ Keep h0 h [a1] ∧ h0.size ≤ vb ∧ (Exa Z h a1 "java/lang/String") ∧ (Fld Z h a1 "java/lang/String" "value" "[B" (.ref vb)) ∧ (Fld Z h a1 "java/lang/String" "coder" "B" (.int (0 : Int32))) ∧ (Arv Z h vb kb .byte (Int32.ofNat us.length) (own_bs us) (.int (0 : Int32)))
set_option maxRecDepth 65536 in
set_option maxHeartbeats 40000000 in
theorem rmsCL (l : Launch) (Z : State) (a0 : Array Value) (hw : ∀ d ∈ tables_1, d.before a0 Z = true) (ws : List Jvm.Cond) (a1 : Addr) (a2 : Addr) (cs : Int32) (kc : ClassId) (us : List Int32) (h0 : Heap) (n0 : Nat) (Z0 : n0 ≤ h0.size) (S_COMPACT_STRINGS : Sta Z h0 "java/lang/String" "COMPACT_STRINGS" "Z" (.int cs)) (E_a1 : Exa Z h0 a1 "java/lang/String") (g_a1 : n0 ≤ a1) (F_value_a1 : Fld Z h0 a1 "java/lang/String" "value" "[B" .null) (F_coder_a1 : Fld Z h0 a1 "java/lang/String" "coder" "B" (.int (0 : Int32))) (A_a2 : Arv Z h0 a2 kc .char (Int32.ofNat us.length) (us.map Value.int) (.int (0 : Int32))) (ne_a1_a2 : a1 ≠ a2) (hcs : ¬ cs = 0) (hle : us.length ≤ 4) (hpos : 0 < us.length) (h8 : ∀ x ∈ us, ¬ (255 : Int32) < x) :
    MetFree l (⟨"java/lang/String", "<init>", "([C)V"⟩ : MethodName) (head1 (Jvm.Cond.code (⟨"java/lang/String", "<init>", "([C)V"⟩ : MethodName) jdk_42_method_3_code 2 none :: ws) ({ frames := 3, cells := 1, slots := 4, locals := 52 } : Room)) (fun a U => a = #[(.ref a1), (.ref a2)] ∧ Z.Warmed39 U.vm ∧ U.heap = h0) (fun _ _ _ _ _ => True) (fun _ U o U' => ∃ v L, o = .returned v ∧ QsCL Z a1 a2 cs kc us h0 n0 v U'.heap L ∧ FrameEnd U o U' L ({ frames := 3, cells := 1, slots := 4, locals := 52 } : Room).cells ({ frames := 3, cells := 1, slots := 4, locals := 52 } : Room).slots) := by
  refine MetFree.of_bodySF (plainFor_of_name own_pn_java_lang_String) hisR ?_
  intro p e s m args below meth c s₁ Bd hml0 hP hK
  obtain ⟨rfl, hZ, hh⟩ := hP
  have hx := Bd.exec
  have hby := Bd.bytes
  have hlk := Bd.notSynchronized
  have hml : c.maxLocals = 2 := hml0
  have hown : s.vm.findClass "java/lang/String" = some m.cls := findClass_of_methodNamed Bd.named
  have hnm := (name_of_methodNamed Bd.named Bd.method).1
  have X0 : Stand p l e ({ frames := 3, cells := 1, slots := 4, locals := 52 } : Room) s m #[(.ref a1), (.ref a2)] below meth c s₁ [] 0 0 := Stand.of_body Bd
  have e0 : s₁.heap = h0 := by rw [← hh, Bd.state]; rfl
  have N0 := Fr.nil n0
  have K0 : Keep h0 h0 [a1] := Keep.refl _ _
  show Go p e below (KQ s below (QsCL Z a1 a2 cs kc us h0 n0) ({ frames := 3, cells := 1, slots := 4, locals := 52 } : Room).cells ({ frames := 3, cells := 1, slots := 4, locals := 52 } : Room).slots) _
  refine Go.body (T := s₁) (σ := s₁) (g' := (mkF m 0 #[.val (.ref a1), .val (.ref a2)] [])) (ef_sCL m a1 a2) ?_
  refine g_aloadN X0 hx (hb hby d2_0) 1 rfl (v := (.ref a1)) rfl rfl ?_
  refine g_aloadN X0 hx (hb hby d2_1) 2 rfl (v := (.ref a2)) rfl rfl ?_
  refine g_iconst X0 hx (hb hby d2_2) 3 rfl (0 : Int32) rfl ?_
  refine g_aloadN X0 hx (hb hby d2_3) 4 rfl (v := (.ref a2)) rfl rfl ?_
  refine g_alen X0 hx (hb hby d2_4) 5 rfl hZ e0 A_a2 ?_
  refine g_null X0 hx (hb hby d2_5) 6 rfl ?_
  obtain ⟨_, _, ⟨T82, L82, k82, n82⟩, -, X82, ⟨Lc82, hQ82, l82, y82, z82⟩, st82⟩ := X0.specialBack hx (y := (⟨"java/lang/String", "<init>", "([CIILjava/lang/Void;)V"⟩ : MethodName)) rfl hown (mvT hZ (hw _ (List.mem_of_getElem? (i := 12) rfl))) (mvT hZ (hw _ (List.mem_of_getElem? (i := 13) rfl))) (mvT hZ (hw _ (List.mem_of_getElem? (i := 15) rfl))) (by decide) (backOf (W := 0) (rmsVL l Z a0 hw [] a1 a2 cs kc us h0 n0 Z0 S_COMPACT_STRINGS E_a1 g_a1 F_value_a1 F_coder_a1 A_a2 ne_a1_a2 hcs hle hpos h8) hZ (hw _ (List.mem_of_getElem? (i := 15) rfl)) (hw _ (List.mem_of_getElem? (i := 7) rfl)) (by decide) (by decide)) (g := (mkF m 6 #[.val (.ref a1), .val (.ref a2)] [.null, (.int (Int32.ofNat us.length)), (.int (0 : Int32)), (.ref a2), (.ref a1)])) rfl (by rw [hml]; rfl) (Steps.refl _) (a := a1) (argsL := [(.ref a2), (.int (0 : Int32)), (.int (Int32.ofNat us.length)), .null]) (rest := []) (lenOf own_pd0 rfl) rfl (by show 2 * 0 + _ ≤ _; exact Nat.le_of_eq rfl) (hb hby d2_6) (fun _ _ => ⟨rfl, e0, (by decide : 0 + 1 ≤ _), (by decide : 0 + 4 ≤ _)⟩)
  dsimp only [Pt.U, Pt.locs, Pt.cells, Pt.slots] at X82 l82 y82 z82 st82 hQ82
  subst l82 y82 z82
  obtain ⟨ovb, okb, rfl, Nq82, Kq82, f82_0, f82_1, f82_2, f82_3, f82_4⟩ := hQ82
  refine Go.tr st82 ?_
  have N82 := Fr.app N0 Nq82
  have S_COMPACT_STRINGS_83 : Sta Z T82.heap "java/lang/String" "COMPACT_STRINGS" "Z" (.int cs) := own_Sta_keep S_COMPACT_STRINGS Kq82 (allS (own_ns E_a1) all0)
  have E_a1_83 : Exa Z T82.heap a1 "java/lang/String" := Exa.keep E_a1 Kq82
  have ne_a1_ovb : a1 ≠ ovb := Nat.ne_of_lt (Nat.lt_of_lt_of_le E_a1.lt f82_0)
  have g_ovb : n0 ≤ ovb := Nat.le_trans Z0 f82_0
  have mh_ovb : h0.size ≤ ovb := Nat.le_trans K0.1 f82_0
  have K82 : Keep h0 T82.heap [a1] := Keep.trans K0 Kq82 (allS (Or.inl (List.mem_of_getElem? (i := 0) rfl)) all0)
  have Zs82 : n0 ≤ T82.heap.size := Nat.le_trans Z0 Kq82.1
  show Go p e below _ (T82.setTop (mkF m 9 #[.val (.ref a1), .val (.ref a2)] []))
  refine Go.retV X82 hx hlk Bd.returns (hb hby d2_9) (by decide) (by decide) ?_
  show QsCL Z a1 a2 cs kc us h0 n0 _ T82.heap _
  exact ⟨ovb, okb, rfl, N82, K82, mh_ovb, f82_1, f82_2, f82_3, f82_4⟩
theorem ef_sVU (m : MethodId) (x0 : Addr) (x1 : Addr) (x2 : Int32) (x3 : Int32) : entryFrame m #[(.ref x0), (.ref x1), (.int x2), (.int x3), .null] 6 = mkF m 0 #[.val (.ref x0), .val (.ref x1), .val (.int x2), .val (.int x3), .val .null, .unset] [] := by first | (simp [entryFrame, mkF, argsToLocals, Value.category]; done) | rfl
def QsVU (Z : State) (a1 : Addr) (a2 : Addr) (cs : Int32) (kc : ClassId) (us : List Int32) (h0 : Heap) (n0 : Nat) (v : Option Value) (h : Heap) (L : List Loc) : Prop := ∃ vb : Addr, ∃ kb : ClassId, v = none ∧ Fr n0 L ∧ Keep h0 h [a1] ∧ h0.size ≤ vb ∧ (Exa Z h a1 "java/lang/String") ∧ (Fld Z h a1 "java/lang/String" "value" "[B" (.ref vb)) ∧ (Fld Z h a1 "java/lang/String" "coder" "B" (.int (1 : Int32))) ∧ (Arv Z h vb kb .byte (Int32.ofNat (2 * us.length)) (own_ub us) (.int (0 : Int32)))
set_option maxRecDepth 65536 in
set_option maxHeartbeats 40000000 in
theorem rmsVU (l : Launch) (Z : State) (a0 : Array Value) (hw : ∀ d ∈ tables_1, d.before a0 Z = true) (ws : List Jvm.Cond) (a1 : Addr) (a2 : Addr) (cs : Int32) (kc : ClassId) (us : List Int32) (h0 : Heap) (n0 : Nat) (Z0 : n0 ≤ h0.size) (S_COMPACT_STRINGS : Sta Z h0 "java/lang/String" "COMPACT_STRINGS" "Z" (.int cs)) (S_assertionsDisabled : Sta Z h0 "java/lang/StringUTF16" "$assertionsDisabled" "Z" (.int (1 : Int32))) (S_HI_BYTE_SHIFT : Sta Z h0 "java/lang/StringUTF16" "HI_BYTE_SHIFT" "I" (.int (0 : Int32))) (S_LO_BYTE_SHIFT : Sta Z h0 "java/lang/StringUTF16" "LO_BYTE_SHIFT" "I" (.int (8 : Int32))) (E_a1 : Exa Z h0 a1 "java/lang/String") (g_a1 : n0 ≤ a1) (F_value_a1 : Fld Z h0 a1 "java/lang/String" "value" "[B" .null) (F_coder_a1 : Fld Z h0 a1 "java/lang/String" "coder" "B" (.int (0 : Int32))) (A_a2 : Arv Z h0 a2 kc .char (Int32.ofNat us.length) (us.map Value.int) (.int (0 : Int32))) (ne_a1_a2 : a1 ≠ a2) (hcs : ¬ cs = 0) (hle : us.length ≤ 4) (hpos : 0 < us.length) (hC : ∀ x ∈ us, own_C x) (hu : ¬ ∀ x ∈ us, ¬ (255 : Int32) < x) :
    MetFree l (⟨"java/lang/String", "<init>", "([CIILjava/lang/Void;)V"⟩ : MethodName) (head1 (Jvm.Cond.code (⟨"java/lang/String", "<init>", "([CIILjava/lang/Void;)V"⟩ : MethodName) jdk_42_method_149_code 6 none :: ws) ({ frames := 4, cells := 2, slots := 12, locals := 57 } : Room)) (fun a U => a = #[(.ref a1), (.ref a2), (.int (0 : Int32)), (.int (Int32.ofNat us.length)), .null] ∧ Z.Warmed39 U.vm ∧ U.heap = h0) (fun _ _ _ _ _ => True) (fun _ U o U' => ∃ v L, o = .returned v ∧ QsVU Z a1 a2 cs kc us h0 n0 v U'.heap L ∧ FrameEnd U o U' L ({ frames := 4, cells := 2, slots := 12, locals := 57 } : Room).cells ({ frames := 4, cells := 2, slots := 12, locals := 57 } : Room).slots) := by
  refine MetFree.of_bodySF (plainFor_of_name own_pn_java_lang_String) hisR ?_
  intro p e s m args below meth c s₁ Bd hml0 hP hK
  obtain ⟨rfl, hZ, hh⟩ := hP
  have hx := Bd.exec
  have hby := Bd.bytes
  have hlk := Bd.notSynchronized
  have hml : c.maxLocals = 6 := hml0
  have hown : s.vm.findClass "java/lang/String" = some m.cls := findClass_of_methodNamed Bd.named
  have hnm := (name_of_methodNamed Bd.named Bd.method).1
  have X0 : Stand p l e ({ frames := 4, cells := 2, slots := 12, locals := 57 } : Room) s m #[(.ref a1), (.ref a2), (.int (0 : Int32)), (.int (Int32.ofNat us.length)), .null] below meth c s₁ [] 0 0 := Stand.of_body Bd
  have e0 : s₁.heap = h0 := by rw [← hh, Bd.state]; rfl
  have N0 := Fr.nil n0
  have K0 : Keep h0 h0 [a1] := Keep.refl _ _
  show Go p e below (KQ s below (QsVU Z a1 a2 cs kc us h0 n0) ({ frames := 4, cells := 2, slots := 12, locals := 57 } : Room).cells ({ frames := 4, cells := 2, slots := 12, locals := 57 } : Room).slots) _
  refine Go.body (T := s₁) (σ := s₁) (g' := (mkF m 0 #[.val (.ref a1), .val (.ref a2), .val (.int (0 : Int32)), .val (.int (Int32.ofNat us.length)), .val .null, .unset] [])) (ef_sVU m a1 a2 (0 : Int32) (Int32.ofNat us.length)) ?_
  refine g_aloadN X0 hx (hb hby d3_0) 1 rfl (v := (.ref a1)) rfl rfl ?_
  obtain ⟨T84, X84, e84, st84⟩ := initO X0 hx hZ hown (hw _ (List.mem_of_getElem? (i := 16) rfl)) (hw _ (List.mem_of_getElem? (i := 17) rfl)) (hw _ (List.mem_of_getElem? (i := 18) rfl)) e0 (g := (mkF m 1 #[.val (.ref a1), .val (.ref a2), .val (.int (0 : Int32)), .val (.int (Int32.ofNat us.length)), .val .null, .unset] [(.ref a1)])) rfl (by rw [hml]; rfl) rfl (hb hby d3_1) (by decide) (W := 0) (by show 2 * 0 + _ ≤ _; exact Nat.le_of_eq rfl) (by decide)
  refine Go.st st84 ?_
  show Go p e below _ (T84.setTop (mkF m 4 #[.val (.ref a1), .val (.ref a2), .val (.int (0 : Int32)), .val (.int (Int32.ofNat us.length)), .val .null, .unset] []))
  refine g_iloadN X84 hx (hb hby d3_4) 5 rfl (v := (Int32.ofNat us.length)) rfl ?_
  refine g_if_ne X84 hx (hb hby d3_5) 27 8 (by decide) (by decide) rfl (fun hc5 => ?_) (fun hc5 => False.elim (absurd (own_eqn (j := 0) (by omega) (by omega) hc5) (by omega)))
  obtain ⟨T85, X85, e85, st85⟩ := getS2 X84 hx hZ hown (host := "") (Or.inl (hw _ (List.mem_of_getElem? (i := 36) rfl))) Via.refl e84 S_COMPACT_STRINGS (g := (mkF m 27 #[.val (.ref a1), .val (.ref a2), .val (.int (0 : Int32)), .val (.int (Int32.ofNat us.length)), .val .null, .unset] [])) rfl (hb hby d3_27)
  refine Go.st st85 ?_
  show Go p e below _ (T85.setTop (mkF m 30 #[.val (.ref a1), .val (.ref a2), .val (.int (0 : Int32)), .val (.int (Int32.ofNat us.length)), .val .null, .unset] [(.int cs)]))
  refine g_if_eq X85 hx (hb hby d3_30) 58 33 (by decide) (by decide) rfl (fun hc30 => False.elim (hcs hc30)) (fun hc30 => ?_)
  refine g_aloadN X85 hx (hb hby d3_33) 34 rfl (v := (.ref a2)) rfl rfl ?_
  refine g_iloadN X85 hx (hb hby d3_34) 35 rfl (v := (0 : Int32)) rfl ?_
  refine g_iloadN X85 hx (hb hby d3_35) 36 rfl (v := (Int32.ofNat us.length)) rfl ?_
  obtain ⟨_, _, ⟨T86, L86, k86, n86⟩, -, X86, ⟨Lc86, hQ86, l86, y86, z86⟩, st86⟩ := Jvm.LawKit.callS X85 hx (y := (⟨"java/lang/StringUTF16", "compress", "([CII)[B"⟩ : MethodName)) hown (mvT hZ (hw _ (List.mem_of_getElem? (i := 37) rfl))) (mvT hZ (hw _ (List.mem_of_getElem? (i := 38) rfl))) (mvT hZ (hw _ (List.mem_of_getElem? (i := 39) rfl))) (mvT hZ (hw _ (List.mem_of_getElem? (i := 40) rfl))) (by decide) (backOf (W := 0) (rmcmpaU l Z a0 hw [] a2 kc us h0 n0 Z0 S_assertionsDisabled S_HI_BYTE_SHIFT S_LO_BYTE_SHIFT A_a2 hle hC hu) hZ (hw _ (List.mem_of_getElem? (i := 40) rfl)) (hw _ (List.mem_of_getElem? (i := 39) rfl)) (by decide) (by decide)) (g := (mkF m 36 #[.val (.ref a1), .val (.ref a2), .val (.int (0 : Int32)), .val (.int (Int32.ofNat us.length)), .val .null, .unset] [(.int (Int32.ofNat us.length)), (.int (0 : Int32)), (.ref a2)])) rfl (by rw [hml]; rfl) (argsL := [(.ref a2), (.int (0 : Int32)), (.int (Int32.ofNat us.length))]) (rest := []) (lenOf own_pd8 rfl) rfl (by show 2 * 0 + _ ≤ _; exact Nat.le_of_eq rfl) (hb hby d3_36) (fun _ _ => ⟨rfl, e85, (by decide : 0 + 2 ≤ _), (by decide : 0 + 12 ≤ _)⟩)
  dsimp only [Pt.U, Pt.locs, Pt.cells, Pt.slots] at X86 l86 y86 z86 st86 hQ86
  subst l86 y86 z86
  obtain ⟨ovb, okb, rfl, Nq86, Kq86, f86_0, f86_1⟩ := hQ86
  refine Go.st st86 ?_
  have N86 := Fr.app N0 Nq86
  have S_COMPACT_STRINGS_87 : Sta Z T86.heap "java/lang/String" "COMPACT_STRINGS" "Z" (.int cs) := own_Sta_keep S_COMPACT_STRINGS Kq86 all0
  have S_assertionsDisabled_87 : Sta Z T86.heap "java/lang/StringUTF16" "$assertionsDisabled" "Z" (.int (1 : Int32)) := own_Sta_keep S_assertionsDisabled Kq86 all0
  have S_HI_BYTE_SHIFT_87 : Sta Z T86.heap "java/lang/StringUTF16" "HI_BYTE_SHIFT" "I" (.int (0 : Int32)) := own_Sta_keep S_HI_BYTE_SHIFT Kq86 all0
  have S_LO_BYTE_SHIFT_87 : Sta Z T86.heap "java/lang/StringUTF16" "LO_BYTE_SHIFT" "I" (.int (8 : Int32)) := own_Sta_keep S_LO_BYTE_SHIFT Kq86 all0
  have E_a1_87 : Exa Z T86.heap a1 "java/lang/String" := Exa.keep E_a1 Kq86
  have F_value_a1_87 : Fld Z T86.heap a1 "java/lang/String" "value" "[B" .null := Fld.keep F_value_a1 Kq86 nin0
  have F_coder_a1_87 : Fld Z T86.heap a1 "java/lang/String" "coder" "B" (.int (0 : Int32)) := Fld.keep F_coder_a1 Kq86 nin0
  have ne_a1_ovb : a1 ≠ ovb := Nat.ne_of_lt (Nat.lt_of_lt_of_le E_a1.lt f86_0)
  have g_ovb : n0 ≤ ovb := Nat.le_trans Z0 f86_0
  have mh_ovb : h0.size ≤ ovb := Nat.le_trans K0.1 f86_0
  have K86 : Keep h0 T86.heap [a1] := Keep.trans K0 Kq86 all0
  have Zs86 : n0 ≤ T86.heap.size := Nat.le_trans Z0 Kq86.1
  show Go p e below _ (T86.setTop (mkF m 39 #[.val (.ref a1), .val (.ref a2), .val (.int (0 : Int32)), .val (.int (Int32.ofNat us.length)), .val .null, .unset] [(.ref ovb)]))
  refine g_astore X86 hx (hb hby d3_39) 41 rfl rfl #[.val (.ref a1), .val (.ref a2), .val (.int (0 : Int32)), .val (.int (Int32.ofNat us.length)), .val .null, .val (.ref ovb)] rfl ?_
  refine g_aloadN X86 hx (hb hby d3_41) 42 rfl (v := (.ref a1)) rfl rfl ?_
  refine g_aload X86 hx (hb hby d3_42) 44 rfl (v := (.ref ovb)) rfl rfl ?_
  refine g_iloadN X86 hx (hb hby d3_44) 45 rfl (v := (Int32.ofNat us.length)) rfl ?_
  obtain ⟨_, _, ⟨T88, L88, k88, n88⟩, -, X88, ⟨Lc88, hQ88, l88, y88, z88⟩, st88⟩ := Jvm.LawKit.callS X86 hx (y := (⟨"java/lang/StringUTF16", "coderFromArrayLen", "([BI)B"⟩ : MethodName)) hown (mvT hZ (hw _ (List.mem_of_getElem? (i := 44) rfl))) (mvT hZ (hw _ (List.mem_of_getElem? (i := 45) rfl))) (mvT hZ (hw _ (List.mem_of_getElem? (i := 39) rfl))) (mvT hZ (hw _ (List.mem_of_getElem? (i := 46) rfl))) (by decide) (backOf (W := 1) (rmcflU l Z a0 hw [] ovb okb us T86.heap n0 Zs86 f86_1 hle hpos) hZ (hw _ (List.mem_of_getElem? (i := 46) rfl)) (hw _ (List.mem_of_getElem? (i := 39) rfl)) (by decide) (by decide)) (g := (mkF m 45 #[.val (.ref a1), .val (.ref a2), .val (.int (0 : Int32)), .val (.int (Int32.ofNat us.length)), .val .null, .val (.ref ovb)] [(.int (Int32.ofNat us.length)), (.ref ovb), (.ref a1)])) rfl (by rw [hml]; rfl) (argsL := [(.ref ovb), (.int (Int32.ofNat us.length))]) (rest := [(.ref a1)]) (lenOf own_pd10 rfl) rfl (by show 2 * 0 + _ ≤ _; exact Nat.le_of_eq rfl) (hb hby d3_45) (fun _ _ => ⟨rfl, rfl, (by decide : 2 + 0 ≤ _), (by decide : 12 + 0 ≤ _)⟩)
  dsimp only [Pt.U, Pt.locs, Pt.cells, Pt.slots] at X88 l88 y88 z88 st88 hQ88
  subst l88 y88 z88
  obtain ⟨rfl, Nq88, e88⟩ := hQ88
  refine Go.st st88 ?_
  have N88 := Fr.app N86 Nq88
  show Go p e below _ (T88.setTop (mkF m 48 #[.val (.ref a1), .val (.ref a2), .val (.int (0 : Int32)), .val (.int (Int32.ofNat us.length)), .val .null, .val (.ref ovb)] [(.int (1 : Int32)), (.ref a1)]))
  obtain ⟨T89, h89, X89, e89, W89, st89⟩ := putF X88 hx hZ hown (host := "") (Or.inl (hw _ (List.mem_of_getElem? (i := 26) rfl))) Via.refl e88 F_coder_a1_87 E_a1_87 (Or.inr ⟨(hw _ (List.mem_of_getElem? (i := 22) rfl)), rfl, hnm⟩) (hw _ (List.mem_of_getElem? (i := 6) rfl)) (ty := .byte) (by decide) rfl rfl (g := (mkF m 48 #[.val (.ref a1), .val (.ref a2), .val (.int (0 : Int32)), .val (.int (Int32.ofNat us.length)), .val .null, .val (.ref ovb)] [(.int (1 : Int32)), (.ref a1)])) rfl rfl (hb hby d3_48)
  refine Go.st st89 ?_
  have S_COMPACT_STRINGS_90 : Sta Z h89 "java/lang/String" "COMPACT_STRINGS" "Z" (.int cs) := Sta.wr W89 S_COMPACT_STRINGS_87
  have S_assertionsDisabled_90 : Sta Z h89 "java/lang/StringUTF16" "$assertionsDisabled" "Z" (.int (1 : Int32)) := Sta.wr W89 S_assertionsDisabled_87
  have S_HI_BYTE_SHIFT_90 : Sta Z h89 "java/lang/StringUTF16" "HI_BYTE_SHIFT" "I" (.int (0 : Int32)) := Sta.wr W89 S_HI_BYTE_SHIFT_87
  have S_LO_BYTE_SHIFT_90 : Sta Z h89 "java/lang/StringUTF16" "LO_BYTE_SHIFT" "I" (.int (8 : Int32)) := Sta.wr W89 S_LO_BYTE_SHIFT_87
  have E_a1_90 : Exa Z h89 a1 "java/lang/String" := Exa.wr W89 E_a1_87
  have F_value_a1_90 : Fld Z h89 a1 "java/lang/String" "value" "[B" .null := Fld.other W89 F_value_a1_87 (Or.inr (slot_ne (Or.inr (hw _ (List.mem_of_getElem? (i := 21) rfl))) (Or.inr (hw _ (List.mem_of_getElem? (i := 22) rfl))) (by decide) (t := (.array .byte)) (t' := .byte) (by decide) (by decide)))
  have A_ovb_90 : Arv Z h89 ovb okb .byte (Int32.ofNat (2 * us.length)) (own_ub us) (.int (0 : Int32)) := Arv.other f86_1 W89 (Ne.symm ne_a1_ovb)
  have F_coder_a1_89w : Fld Z h89 a1 "java/lang/String" "coder" "B" (.int (1 : Int32)) := Fld.same W89 F_coder_a1_87
  have K89 : Keep h0 h89 [a1] := Keep.wr K86 W89 (Or.inl (List.mem_of_getElem? (i := 0) rfl))
  have N89 := Fr.snoc X89 N88 g_a1
  have Zs89 : n0 ≤ h89.size := by rw [W89.size]; exact Zs86
  show Go p e below _ (T89.setTop (mkF m 51 #[.val (.ref a1), .val (.ref a2), .val (.int (0 : Int32)), .val (.int (Int32.ofNat us.length)), .val .null, .val (.ref ovb)] []))
  refine g_aloadN X89 hx (hb hby d3_51) 52 rfl (v := (.ref a1)) rfl rfl ?_
  refine g_aload X89 hx (hb hby d3_52) 54 rfl (v := (.ref ovb)) rfl rfl ?_
  obtain ⟨T91, h91, X91, e91, W91, st91⟩ := putF X89 hx hZ hown (host := "") (Or.inl (hw _ (List.mem_of_getElem? (i := 25) rfl))) Via.refl e89 F_value_a1_90 E_a1_90 (Or.inr ⟨(hw _ (List.mem_of_getElem? (i := 21) rfl)), rfl, hnm⟩) (hw _ (List.mem_of_getElem? (i := 6) rfl)) (ty := (.array .byte)) (by decide) rfl rfl (g := (mkF m 54 #[.val (.ref a1), .val (.ref a2), .val (.int (0 : Int32)), .val (.int (Int32.ofNat us.length)), .val .null, .val (.ref ovb)] [(.ref ovb), (.ref a1)])) rfl rfl (hb hby d3_54)
  refine Go.st st91 ?_
  have S_COMPACT_STRINGS_92 : Sta Z h91 "java/lang/String" "COMPACT_STRINGS" "Z" (.int cs) := Sta.wr W91 S_COMPACT_STRINGS_90
  have S_assertionsDisabled_92 : Sta Z h91 "java/lang/StringUTF16" "$assertionsDisabled" "Z" (.int (1 : Int32)) := Sta.wr W91 S_assertionsDisabled_90
  have S_HI_BYTE_SHIFT_92 : Sta Z h91 "java/lang/StringUTF16" "HI_BYTE_SHIFT" "I" (.int (0 : Int32)) := Sta.wr W91 S_HI_BYTE_SHIFT_90
  have S_LO_BYTE_SHIFT_92 : Sta Z h91 "java/lang/StringUTF16" "LO_BYTE_SHIFT" "I" (.int (8 : Int32)) := Sta.wr W91 S_LO_BYTE_SHIFT_90
  have E_a1_92 : Exa Z h91 a1 "java/lang/String" := Exa.wr W91 E_a1_90
  have A_ovb_92 : Arv Z h91 ovb okb .byte (Int32.ofNat (2 * us.length)) (own_ub us) (.int (0 : Int32)) := Arv.other A_ovb_90 W91 (Ne.symm ne_a1_ovb)
  have F_coder_a1_92 : Fld Z h91 a1 "java/lang/String" "coder" "B" (.int (1 : Int32)) := Fld.other W91 F_coder_a1_89w (Or.inr (slot_ne (Or.inr (hw _ (List.mem_of_getElem? (i := 22) rfl))) (Or.inr (hw _ (List.mem_of_getElem? (i := 21) rfl))) (by decide) (t := .byte) (t' := (.array .byte)) (by decide) (by decide)))
  have F_value_a1_91w : Fld Z h91 a1 "java/lang/String" "value" "[B" (.ref ovb) := Fld.same W91 F_value_a1_90
  have K91 : Keep h0 h91 [a1] := Keep.wr K89 W91 (Or.inl (List.mem_of_getElem? (i := 0) rfl))
  have N91 := Fr.snoc X91 N89 g_a1
  have Zs91 : n0 ≤ h91.size := by rw [W91.size]; exact Zs89
  show Go p e below _ (T91.setTop (mkF m 57 #[.val (.ref a1), .val (.ref a2), .val (.int (0 : Int32)), .val (.int (Int32.ofNat us.length)), .val .null, .val (.ref ovb)] []))
  refine Go.retV X91 hx hlk Bd.returns (hb hby d3_57) (by decide) (by decide) ?_
  show QsVU Z a1 a2 cs kc us h0 n0 _ T91.heap _
  rw [e91]
  exact ⟨ovb, okb, rfl, N91, K91, mh_ovb, E_a1_92, F_value_a1_91w, F_coder_a1_92, A_ovb_92⟩
theorem ef_sCU (m : MethodId) (x0 : Addr) (x1 : Addr) : entryFrame m #[(.ref x0), (.ref x1)] 2 = mkF m 0 #[.val (.ref x0), .val (.ref x1)] [] := by first | (simp [entryFrame, mkF, argsToLocals, Value.category]; done) | rfl
def QsCU (Z : State) (a1 : Addr) (a2 : Addr) (cs : Int32) (kc : ClassId) (us : List Int32) (h0 : Heap) (n0 : Nat) (v : Option Value) (h : Heap) (L : List Loc) : Prop := ∃ vb : Addr, ∃ kb : ClassId, v = none ∧ Fr n0 L ∧ Keep h0 h [a1] ∧ h0.size ≤ vb ∧ (Exa Z h a1 "java/lang/String") ∧ (Fld Z h a1 "java/lang/String" "value" "[B" (.ref vb)) ∧ (Fld Z h a1 "java/lang/String" "coder" "B" (.int (1 : Int32))) ∧ (Arv Z h vb kb .byte (Int32.ofNat (2 * us.length)) (own_ub us) (.int (0 : Int32)))
set_option maxRecDepth 65536 in
set_option maxHeartbeats 40000000 in
theorem rmsCU (l : Launch) (Z : State) (a0 : Array Value) (hw : ∀ d ∈ tables_1, d.before a0 Z = true) (ws : List Jvm.Cond) (a1 : Addr) (a2 : Addr) (cs : Int32) (kc : ClassId) (us : List Int32) (h0 : Heap) (n0 : Nat) (Z0 : n0 ≤ h0.size) (S_COMPACT_STRINGS : Sta Z h0 "java/lang/String" "COMPACT_STRINGS" "Z" (.int cs)) (S_assertionsDisabled : Sta Z h0 "java/lang/StringUTF16" "$assertionsDisabled" "Z" (.int (1 : Int32))) (S_HI_BYTE_SHIFT : Sta Z h0 "java/lang/StringUTF16" "HI_BYTE_SHIFT" "I" (.int (0 : Int32))) (S_LO_BYTE_SHIFT : Sta Z h0 "java/lang/StringUTF16" "LO_BYTE_SHIFT" "I" (.int (8 : Int32))) (E_a1 : Exa Z h0 a1 "java/lang/String") (g_a1 : n0 ≤ a1) (F_value_a1 : Fld Z h0 a1 "java/lang/String" "value" "[B" .null) (F_coder_a1 : Fld Z h0 a1 "java/lang/String" "coder" "B" (.int (0 : Int32))) (A_a2 : Arv Z h0 a2 kc .char (Int32.ofNat us.length) (us.map Value.int) (.int (0 : Int32))) (ne_a1_a2 : a1 ≠ a2) (hcs : ¬ cs = 0) (hle : us.length ≤ 4) (hpos : 0 < us.length) (hC : ∀ x ∈ us, own_C x) (hu : ¬ ∀ x ∈ us, ¬ (255 : Int32) < x) :
    MetFree l (⟨"java/lang/String", "<init>", "([C)V"⟩ : MethodName) (head1 (Jvm.Cond.code (⟨"java/lang/String", "<init>", "([C)V"⟩ : MethodName) jdk_42_method_3_code 2 none :: ws) ({ frames := 5, cells := 2, slots := 12, locals := 74 } : Room)) (fun a U => a = #[(.ref a1), (.ref a2)] ∧ Z.Warmed39 U.vm ∧ U.heap = h0) (fun _ _ _ _ _ => True) (fun _ U o U' => ∃ v L, o = .returned v ∧ QsCU Z a1 a2 cs kc us h0 n0 v U'.heap L ∧ FrameEnd U o U' L ({ frames := 5, cells := 2, slots := 12, locals := 74 } : Room).cells ({ frames := 5, cells := 2, slots := 12, locals := 74 } : Room).slots) := by
  refine MetFree.of_bodySF (plainFor_of_name own_pn_java_lang_String) hisR ?_
  intro p e s m args below meth c s₁ Bd hml0 hP hK
  obtain ⟨rfl, hZ, hh⟩ := hP
  have hx := Bd.exec
  have hby := Bd.bytes
  have hlk := Bd.notSynchronized
  have hml : c.maxLocals = 2 := hml0
  have hown : s.vm.findClass "java/lang/String" = some m.cls := findClass_of_methodNamed Bd.named
  have hnm := (name_of_methodNamed Bd.named Bd.method).1
  have X0 : Stand p l e ({ frames := 5, cells := 2, slots := 12, locals := 74 } : Room) s m #[(.ref a1), (.ref a2)] below meth c s₁ [] 0 0 := Stand.of_body Bd
  have e0 : s₁.heap = h0 := by rw [← hh, Bd.state]; rfl
  have N0 := Fr.nil n0
  have K0 : Keep h0 h0 [a1] := Keep.refl _ _
  show Go p e below (KQ s below (QsCU Z a1 a2 cs kc us h0 n0) ({ frames := 5, cells := 2, slots := 12, locals := 74 } : Room).cells ({ frames := 5, cells := 2, slots := 12, locals := 74 } : Room).slots) _
  refine Go.body (T := s₁) (σ := s₁) (g' := (mkF m 0 #[.val (.ref a1), .val (.ref a2)] [])) (ef_sCU m a1 a2) ?_
  refine g_aloadN X0 hx (hb hby d2_0) 1 rfl (v := (.ref a1)) rfl rfl ?_
  refine g_aloadN X0 hx (hb hby d2_1) 2 rfl (v := (.ref a2)) rfl rfl ?_
  refine g_iconst X0 hx (hb hby d2_2) 3 rfl (0 : Int32) rfl ?_
  refine g_aloadN X0 hx (hb hby d2_3) 4 rfl (v := (.ref a2)) rfl rfl ?_
  refine g_alen X0 hx (hb hby d2_4) 5 rfl hZ e0 A_a2 ?_
  refine g_null X0 hx (hb hby d2_5) 6 rfl ?_
  obtain ⟨_, _, ⟨T94, L94, k94, n94⟩, -, X94, ⟨Lc94, hQ94, l94, y94, z94⟩, st94⟩ := X0.specialBack hx (y := (⟨"java/lang/String", "<init>", "([CIILjava/lang/Void;)V"⟩ : MethodName)) rfl hown (mvT hZ (hw _ (List.mem_of_getElem? (i := 12) rfl))) (mvT hZ (hw _ (List.mem_of_getElem? (i := 13) rfl))) (mvT hZ (hw _ (List.mem_of_getElem? (i := 15) rfl))) (by decide) (backOf (W := 0) (rmsVU l Z a0 hw [] a1 a2 cs kc us h0 n0 Z0 S_COMPACT_STRINGS S_assertionsDisabled S_HI_BYTE_SHIFT S_LO_BYTE_SHIFT E_a1 g_a1 F_value_a1 F_coder_a1 A_a2 ne_a1_a2 hcs hle hpos hC hu) hZ (hw _ (List.mem_of_getElem? (i := 15) rfl)) (hw _ (List.mem_of_getElem? (i := 7) rfl)) (by decide) (by decide)) (g := (mkF m 6 #[.val (.ref a1), .val (.ref a2)] [.null, (.int (Int32.ofNat us.length)), (.int (0 : Int32)), (.ref a2), (.ref a1)])) rfl (by rw [hml]; rfl) (Steps.refl _) (a := a1) (argsL := [(.ref a2), (.int (0 : Int32)), (.int (Int32.ofNat us.length)), .null]) (rest := []) (lenOf own_pd0 rfl) rfl (by show 2 * 0 + _ ≤ _; exact Nat.le_of_eq rfl) (hb hby d2_6) (fun _ _ => ⟨rfl, e0, (by decide : 0 + 2 ≤ _), (by decide : 0 + 12 ≤ _)⟩)
  dsimp only [Pt.U, Pt.locs, Pt.cells, Pt.slots] at X94 l94 y94 z94 st94 hQ94
  subst l94 y94 z94
  obtain ⟨ovb, okb, rfl, Nq94, Kq94, f94_0, f94_1, f94_2, f94_3, f94_4⟩ := hQ94
  refine Go.tr st94 ?_
  have N94 := Fr.app N0 Nq94
  have S_COMPACT_STRINGS_95 : Sta Z T94.heap "java/lang/String" "COMPACT_STRINGS" "Z" (.int cs) := own_Sta_keep S_COMPACT_STRINGS Kq94 (allS (own_ns E_a1) all0)
  have S_assertionsDisabled_95 : Sta Z T94.heap "java/lang/StringUTF16" "$assertionsDisabled" "Z" (.int (1 : Int32)) := own_Sta_keep S_assertionsDisabled Kq94 (allS (own_ns E_a1) all0)
  have S_HI_BYTE_SHIFT_95 : Sta Z T94.heap "java/lang/StringUTF16" "HI_BYTE_SHIFT" "I" (.int (0 : Int32)) := own_Sta_keep S_HI_BYTE_SHIFT Kq94 (allS (own_ns E_a1) all0)
  have S_LO_BYTE_SHIFT_95 : Sta Z T94.heap "java/lang/StringUTF16" "LO_BYTE_SHIFT" "I" (.int (8 : Int32)) := own_Sta_keep S_LO_BYTE_SHIFT Kq94 (allS (own_ns E_a1) all0)
  have E_a1_95 : Exa Z T94.heap a1 "java/lang/String" := Exa.keep E_a1 Kq94
  have ne_a1_ovb : a1 ≠ ovb := Nat.ne_of_lt (Nat.lt_of_lt_of_le E_a1.lt f94_0)
  have g_ovb : n0 ≤ ovb := Nat.le_trans Z0 f94_0
  have mh_ovb : h0.size ≤ ovb := Nat.le_trans K0.1 f94_0
  have K94 : Keep h0 T94.heap [a1] := Keep.trans K0 Kq94 (allS (Or.inl (List.mem_of_getElem? (i := 0) rfl)) all0)
  have Zs94 : n0 ≤ T94.heap.size := Nat.le_trans Z0 Kq94.1
  show Go p e below _ (T94.setTop (mkF m 9 #[.val (.ref a1), .val (.ref a2)] []))
  refine Go.retV X94 hx hlk Bd.returns (hb hby d2_9) (by decide) (by decide) ?_
  show QsCU Z a1 a2 cs kc us h0 n0 _ T94.heap _
  exact ⟨ovb, okb, rfl, N94, K94, mh_ovb, f94_1, f94_2, f94_3, f94_4⟩
theorem ef_ceU (m : MethodId) (x0 : Int32) : entryFrame m #[(.int x0)] 1 = mkF m 0 #[.val (.int x0)] [] := by first | (simp [entryFrame, mkF, argsToLocals, Value.category]; done) | rfl
theorem d34_11 : decode jdk_43_method_3_code 11 = .ok (.iconst 0, 1) := by decide +kernel
def QceU (Z : State) (p1 : Int32) (h0 : Heap) (n0 : Nat) (v : Option Value) (h : Heap) (L : List Loc) : Prop := v = some (.int (0 : Int32)) ∧ Fr n0 L ∧ h = h0
set_option maxRecDepth 65536 in
set_option maxHeartbeats 40000000 in
theorem rmceU (l : Launch) (Z : State) (a0 : Array Value) (hw : ∀ d ∈ tables_1, d.before a0 Z = true) (ws : List Jvm.Cond) (p1 : Int32) (h0 : Heap) (n0 : Nat) (Z0 : n0 ≤ h0.size) (hp : (255 : Int32) < p1) :
    MetFree l (⟨"java/lang/StringLatin1", "canEncode", "(C)Z"⟩ : MethodName) (head1 (Jvm.Cond.code (⟨"java/lang/StringLatin1", "canEncode", "(C)Z"⟩ : MethodName) jdk_43_method_3_code 1 (some .boolean) :: ws) ({ frames := 0, cells := 0, slots := 0, locals := 0 } : Room)) (fun a U => a = #[(.int p1)] ∧ Z.Warmed39 U.vm ∧ U.heap = h0) (fun _ _ _ _ _ => True) (fun _ U o U' => ∃ v L, o = .returned v ∧ QceU Z p1 h0 n0 v U'.heap L ∧ FrameEnd U o U' L ({ frames := 0, cells := 0, slots := 0, locals := 0 } : Room).cells ({ frames := 0, cells := 0, slots := 0, locals := 0 } : Room).slots) := by
  refine MetFree.of_bodySF (plainFor_of_name own_pn_java_lang_StringLatin1) hisR ?_
  intro p e s m args below meth c s₁ Bd hml0 hP hK
  obtain ⟨rfl, hZ, hh⟩ := hP
  have hx := Bd.exec
  have hby := Bd.bytes
  have hlk := Bd.notSynchronized
  have hml : c.maxLocals = 1 := hml0
  have hown : s.vm.findClass "java/lang/StringLatin1" = some m.cls := findClass_of_methodNamed Bd.named
  have hnm := (name_of_methodNamed Bd.named Bd.method).1
  have X0 : Stand p l e ({ frames := 0, cells := 0, slots := 0, locals := 0 } : Room) s m #[(.int p1)] below meth c s₁ [] 0 0 := Stand.of_body Bd
  have e0 : s₁.heap = h0 := by rw [← hh, Bd.state]; rfl
  have N0 := Fr.nil n0
  show Go p e below (KQ s below (QceU Z p1 h0 n0) ({ frames := 0, cells := 0, slots := 0, locals := 0 } : Room).cells ({ frames := 0, cells := 0, slots := 0, locals := 0 } : Room).slots) _
  refine Go.body (T := s₁) (σ := s₁) (g' := (mkF m 0 #[.val (.int p1)] [])) (ef_ceU m p1) ?_
  refine g_iloadN X0 hx (hb hby d34_0) 1 rfl (v := p1) rfl ?_
  refine g_sipush X0 hx (hb hby d34_1) 4 rfl (255 : Int32) rfl ?_
  refine g_icmp_gt X0 hx (hb hby d34_4) 11 7 (by decide) (by decide) rfl (fun hc4 => ?_) (fun hc4 => False.elim (hc4 hp))
  refine g_iconst X0 hx (hb hby d34_11) 12 rfl (0 : Int32) rfl ?_
  refine Go.retN X0 hx hlk (t := .boolean) Bd.returns (by simp) (hb hby d34_12) (by decide) (by decide) ?_
  show QceU Z p1 h0 n0 _ s₁.heap _
  rw [e0]
  exact ⟨rfl, N0, rfl⟩
theorem ef_tbc (m : MethodId) (x0 : Int32) : entryFrame m #[(.int x0)] 2 = mkF m 0 #[.val (.int x0), .unset] [] := by first | (simp [entryFrame, mkF, argsToLocals, Value.category]; done) | rfl
theorem d37_0 : decode jdk_52_method_24_code 0 = .ok (.iconst 2, 1) := by decide +kernel
theorem d37_1 : decode jdk_52_method_24_code 1 = .ok (.newarray .byte, 2) := by decide +kernel
theorem d37_3 : decode jdk_52_method_24_code 3 = .ok (.astore_n 1, 1) := by decide +kernel
theorem d37_4 : decode jdk_52_method_24_code 4 = .ok (.aload_n 1, 1) := by decide +kernel
theorem d37_5 : decode jdk_52_method_24_code 5 = .ok (.iconst 0, 1) := by decide +kernel
theorem d37_6 : decode jdk_52_method_24_code 6 = .ok (.iload_n 0, 1) := by decide +kernel
theorem d37_7 : decode jdk_52_method_24_code 7 = .ok (.invokestatic 111, 3) := by decide +kernel
theorem d37_10 : decode jdk_52_method_24_code 10 = .ok (.aload_n 1, 1) := by decide +kernel
theorem d37_11 : decode jdk_52_method_24_code 11 = .ok (.areturn, 1) := by decide +kernel
def Qtbc (Z : State) (p1 : Int32) (h0 : Heap) (n0 : Nat) (v : Option Value) (h : Heap) (L : List Loc) : Prop := ∃ b : Addr, ∃ kb : ClassId, v = some (.ref b) ∧ Fr n0 L ∧ Keep h0 h [] ∧ h0.size ≤ b ∧ (Arv Z h b kb .byte (Int32.ofNat (2 * [p1].length)) (own_ub [p1]) (.int (0 : Int32)))
set_option maxRecDepth 65536 in
set_option maxHeartbeats 40000000 in
theorem rmtbc (l : Launch) (Z : State) (a0 : Array Value) (hw : ∀ d ∈ tables_1, d.before a0 Z = true) (ws : List Jvm.Cond) (p1 : Int32) (h0 : Heap) (n0 : Nat) (Z0 : n0 ≤ h0.size) (S_assertionsDisabled : Sta Z h0 "java/lang/StringUTF16" "$assertionsDisabled" "Z" (.int (1 : Int32))) (S_HI_BYTE_SHIFT : Sta Z h0 "java/lang/StringUTF16" "HI_BYTE_SHIFT" "I" (.int (0 : Int32))) (S_LO_BYTE_SHIFT : Sta Z h0 "java/lang/StringUTF16" "LO_BYTE_SHIFT" "I" (.int (8 : Int32))) :
    MetFree l (⟨"java/lang/StringUTF16", "toBytes", "(C)[B"⟩ : MethodName) (head1 (Jvm.Cond.code (⟨"java/lang/StringUTF16", "toBytes", "(C)[B"⟩ : MethodName) jdk_52_method_24_code 2 (some (.array .byte)) :: ws) ({ frames := 1, cells := 1, slots := 2, locals := 14 } : Room)) (fun a U => a = #[(.int p1)] ∧ Z.Warmed39 U.vm ∧ U.heap = h0) (fun _ _ _ _ _ => True) (fun _ U o U' => ∃ v L, o = .returned v ∧ Qtbc Z p1 h0 n0 v U'.heap L ∧ FrameEnd U o U' L ({ frames := 1, cells := 1, slots := 2, locals := 14 } : Room).cells ({ frames := 1, cells := 1, slots := 2, locals := 14 } : Room).slots) := by
  refine MetFree.of_bodySF (plainFor_of_name own_pn_java_lang_StringUTF16) hisR ?_
  intro p e s m args below meth c s₁ Bd hml0 hP hK
  obtain ⟨rfl, hZ, hh⟩ := hP
  have hx := Bd.exec
  have hby := Bd.bytes
  have hlk := Bd.notSynchronized
  have hml : c.maxLocals = 2 := hml0
  have hown : s.vm.findClass "java/lang/StringUTF16" = some m.cls := findClass_of_methodNamed Bd.named
  have hnm := (name_of_methodNamed Bd.named Bd.method).1
  have X0 : Stand p l e ({ frames := 1, cells := 1, slots := 2, locals := 14 } : Room) s m #[(.int p1)] below meth c s₁ [] 0 0 := Stand.of_body Bd
  have e0 : s₁.heap = h0 := by rw [← hh, Bd.state]; rfl
  have N0 := Fr.nil n0
  have K0 : Keep h0 h0 [] := Keep.refl _ _
  show Go p e below (KQ s below (Qtbc Z p1 h0 n0) ({ frames := 1, cells := 1, slots := 2, locals := 14 } : Room).cells ({ frames := 1, cells := 1, slots := 2, locals := 14 } : Room).slots) _
  refine Go.body (T := s₁) (σ := s₁) (g' := (mkF m 0 #[.val (.int p1), .unset] [])) (ef_tbc m p1) ?_
  refine g_iconst X0 hx (hb hby d37_0) 1 rfl (2 : Int32) rfl ?_
  obtain ⟨T96, h96, cA96, X96, e96, E96, A96, st96⟩ := newP X0 hx hZ (aty := .byte) (hw _ (List.mem_of_getElem? (i := 20) rfl)) e0 (g := (mkF m 1 #[.val (.int p1), .unset] [(.int (2 : Int32))])) rfl (hb hby d37_1) rfl (by decide) (cap := 2) (by decide) (by decide) (by decide) (by decide)
  refine Go.st st96 ?_
  obtain ⟨ob, q96⟩ : ∃ z, z = h0.size := ⟨_, rfl⟩
  rw [← q96] at A96 ⊢
  have g_ob : n0 ≤ ob := Nat.le_trans Z0 (Nat.le_of_eq q96.symm)
  have mh_ob : h0.size ≤ ob := Nat.le_trans K0.1 (Nat.le_of_eq q96.symm)
  have K96 : Keep h0 h96 [] := Keep.ext K0 E96
  have Zs96 : n0 ≤ h96.size := Nat.le_trans Z0 E96.1
  have Av_ob : Arv Z h96 ob cA96 .byte (2 : Int32) ([(.int (0 : Int32)), (.int (0 : Int32))]) (.int (0 : Int32)) := Arv.pad (Arv.new A96 (by decide)) (pad_rep [] (.int (0 : Int32)) 2)
  show Go p e below _ (T96.setTop (mkF m 3 #[.val (.int p1), .unset] [(.ref ob)]))
  refine g_astoreN X96 hx (hb hby d37_3) 4 rfl rfl #[.val (.int p1), .val (.ref ob)] rfl ?_
  refine g_aloadN X96 hx (hb hby d37_4) 5 rfl (v := (.ref ob)) rfl rfl ?_
  refine g_iconst X96 hx (hb hby d37_5) 6 rfl (0 : Int32) rfl ?_
  refine g_iloadN X96 hx (hb hby d37_6) 7 rfl (v := p1) rfl ?_
  have Avc : Arv Z h96 ob cA96 .byte (Int32.ofNat (2 * 1)) ([(.int (0 : Int32)), (.int (0 : Int32))]) (.int (0 : Int32)) := Av_ob
  obtain ⟨_, _, ⟨T98, L98, k98, n98⟩, -, X98, ⟨Lc98, hQ98, l98, y98, z98⟩, st98⟩ := Jvm.LawKit.callS X96 hx (y := (⟨"java/lang/StringUTF16", "putChar", "([BII)V"⟩ : MethodName)) hown (mvT hZ (hw _ (List.mem_of_getElem? (i := 103) rfl))) (mvT hZ (hw _ (List.mem_of_getElem? (i := 104) rfl))) (mvT hZ (hw _ (List.mem_of_getElem? (i := 39) rfl))) (mvT hZ (hw _ (List.mem_of_getElem? (i := 105) rfl))) (by decide) (backOf (W := 0) (rmpc l Z a0 hw [] ob p1 cA96 1 0 ([(.int (0 : Int32)), (.int (0 : Int32))]) h96 n0 Zs96 (own_Sta_keep S_assertionsDisabled K96 all0) (own_Sta_keep S_HI_BYTE_SHIFT K96 all0) (own_Sta_keep S_LO_BYTE_SHIFT K96 all0) Avc g_ob (by decide) (by decide) rfl) hZ (hw _ (List.mem_of_getElem? (i := 105) rfl)) (hw _ (List.mem_of_getElem? (i := 39) rfl)) (by decide) (by decide)) (g := (mkF m 7 #[.val (.int p1), .val (.ref ob)] [(.int p1), (.int (0 : Int32)), (.ref ob)])) rfl (by rw [hml]; rfl) (argsL := [(.ref ob), (.int (0 : Int32)), (.int p1)]) (rest := []) (lenOf own_pd6 rfl) rfl (by show 2 * 0 + _ ≤ _; exact Nat.le_of_eq rfl) (hb hby d37_7) (fun _ _ => ⟨rfl, e96, (by decide : 1 + 0 ≤ _), (by decide : 2 + 0 ≤ _)⟩)
  dsimp only [Pt.U, Pt.locs, Pt.cells, Pt.slots] at X98 l98 y98 z98 st98 hQ98
  subst l98 y98 z98
  obtain ⟨rfl, Nq98, Kq98, f98_0⟩ := hQ98
  refine Go.st st98 ?_
  have N98 := Fr.app N0 Nq98
  have K98 : Keep h0 T98.heap [] := Keep.trans K96 Kq98 (allS (Or.inr mh_ob) all0)
  have Zs98 : n0 ≤ T98.heap.size := Nat.le_trans Zs96 Kq98.1
  show Go p e below _ (T98.setTop (mkF m 10 #[.val (.int p1), .val (.ref ob)] []))
  refine g_aloadN X98 hx (hb hby d37_10) 11 rfl (v := (.ref ob)) rfl rfl ?_
  refine Go.retA X98 hx hlk Bd.returns rfl rfl (hb hby d37_11) (by decide) (by decide) ?_
  show Qtbc Z p1 h0 n0 _ T98.heap _
  exact ⟨ob, cA96, rfl, N98, K98, mh_ob, f98_0⟩
theorem ef_iniU (m : MethodId) (x0 : Addr) (x1 : Addr) (x2 : Int32) : entryFrame m #[(.ref x0), (.ref x1), (.int x2)] 3 = mkF m 0 #[.val (.ref x0), .val (.ref x1), .val (.int x2)] [] := by first | (simp [entryFrame, mkF, argsToLocals, Value.category]; done) | rfl
def QiniU (Z : State) (a1 : Addr) (a2 : Addr) (u1 : Value) (u2 : Value) (h0 : Heap) (n0 : Nat) (v : Option Value) (h : Heap) (L : List Loc) : Prop := v = none ∧ Fr n0 L ∧ Keep h0 h [a1] ∧ (Exa Z h a1 "java/lang/String") ∧ (Fld Z h a1 "java/lang/String" "value" "[B" (.ref a2)) ∧ (Fld Z h a1 "java/lang/String" "coder" "B" (.int (1 : Int32)))
set_option maxRecDepth 65536 in
set_option maxHeartbeats 40000000 in
theorem rminiU (l : Launch) (Z : State) (a0 : Array Value) (hw : ∀ d ∈ tables_1, d.before a0 Z = true) (ws : List Jvm.Cond) (a1 : Addr) (a2 : Addr) (u1 : Value) (u2 : Value) (h0 : Heap) (n0 : Nat) (Z0 : n0 ≤ h0.size) (E_a1 : Exa Z h0 a1 "java/lang/String") (g_a1 : n0 ≤ a1) (F_value_a1 : Fld Z h0 a1 "java/lang/String" "value" "[B" u1) (F_coder_a1 : Fld Z h0 a1 "java/lang/String" "coder" "B" u2) :
    MetFree l (⟨"java/lang/String", "<init>", "([BB)V"⟩ : MethodName) (head1 (Jvm.Cond.code (⟨"java/lang/String", "<init>", "([BB)V"⟩ : MethodName) jdk_42_method_151_code 3 none :: ws) ({ frames := 1, cells := 0, slots := 0, locals := 12 } : Room)) (fun a U => a = #[(.ref a1), (.ref a2), (.int (1 : Int32))] ∧ Z.Warmed39 U.vm ∧ U.heap = h0) (fun _ _ _ _ _ => True) (fun _ U o U' => ∃ v L, o = .returned v ∧ QiniU Z a1 a2 u1 u2 h0 n0 v U'.heap L ∧ FrameEnd U o U' L ({ frames := 1, cells := 0, slots := 0, locals := 12 } : Room).cells ({ frames := 1, cells := 0, slots := 0, locals := 12 } : Room).slots) := by
  refine MetFree.of_bodySF (plainFor_of_name own_pn_java_lang_String) hisR ?_
  intro p e s m args below meth c s₁ Bd hml0 hP hK
  obtain ⟨rfl, hZ, hh⟩ := hP
  have hx := Bd.exec
  have hby := Bd.bytes
  have hlk := Bd.notSynchronized
  have hml : c.maxLocals = 3 := hml0
  have hown : s.vm.findClass "java/lang/String" = some m.cls := findClass_of_methodNamed Bd.named
  have hnm := (name_of_methodNamed Bd.named Bd.method).1
  have X0 : Stand p l e ({ frames := 1, cells := 0, slots := 0, locals := 12 } : Room) s m #[(.ref a1), (.ref a2), (.int (1 : Int32))] below meth c s₁ [] 0 0 := Stand.of_body Bd
  have e0 : s₁.heap = h0 := by rw [← hh, Bd.state]; rfl
  have N0 := Fr.nil n0
  have K0 : Keep h0 h0 [a1] := Keep.refl _ _
  show Go p e below (KQ s below (QiniU Z a1 a2 u1 u2 h0 n0) ({ frames := 1, cells := 0, slots := 0, locals := 12 } : Room).cells ({ frames := 1, cells := 0, slots := 0, locals := 12 } : Room).slots) _
  refine Go.body (T := s₁) (σ := s₁) (g' := (mkF m 0 #[.val (.ref a1), .val (.ref a2), .val (.int (1 : Int32))] [])) (ef_iniU m a1 a2 (1 : Int32)) ?_
  refine g_aloadN X0 hx (hb hby d36_0) 1 rfl (v := (.ref a1)) rfl rfl ?_
  obtain ⟨T100, X100, e100, st100⟩ := initO X0 hx hZ hown (hw _ (List.mem_of_getElem? (i := 16) rfl)) (hw _ (List.mem_of_getElem? (i := 17) rfl)) (hw _ (List.mem_of_getElem? (i := 18) rfl)) e0 (g := (mkF m 1 #[.val (.ref a1), .val (.ref a2), .val (.int (1 : Int32))] [(.ref a1)])) rfl (by rw [hml]; rfl) rfl (hb hby d36_1) (by decide) (W := 0) (by show 2 * 0 + _ ≤ _; exact Nat.le_of_eq rfl) (by decide)
  refine Go.st st100 ?_
  show Go p e below _ (T100.setTop (mkF m 4 #[.val (.ref a1), .val (.ref a2), .val (.int (1 : Int32))] []))
  refine g_aloadN X100 hx (hb hby d36_4) 5 rfl (v := (.ref a1)) rfl rfl ?_
  refine g_aloadN X100 hx (hb hby d36_5) 6 rfl (v := (.ref a2)) rfl rfl ?_
  obtain ⟨T101, h101, X101, e101, W101, st101⟩ := putF X100 hx hZ hown (host := "") (Or.inl (hw _ (List.mem_of_getElem? (i := 25) rfl))) Via.refl e100 F_value_a1 E_a1 (Or.inr ⟨(hw _ (List.mem_of_getElem? (i := 21) rfl)), rfl, hnm⟩) (hw _ (List.mem_of_getElem? (i := 6) rfl)) (ty := (.array .byte)) (by decide) rfl rfl (g := (mkF m 6 #[.val (.ref a1), .val (.ref a2), .val (.int (1 : Int32))] [(.ref a2), (.ref a1)])) rfl rfl (hb hby d36_6)
  refine Go.st st101 ?_
  have E_a1_102 : Exa Z h101 a1 "java/lang/String" := Exa.wr W101 E_a1
  have F_coder_a1_102 : Fld Z h101 a1 "java/lang/String" "coder" "B" u2 := Fld.other W101 F_coder_a1 (Or.inr (slot_ne (Or.inr (hw _ (List.mem_of_getElem? (i := 22) rfl))) (Or.inr (hw _ (List.mem_of_getElem? (i := 21) rfl))) (by decide) (t := .byte) (t' := (.array .byte)) (by decide) (by decide)))
  have F_value_a1_101w : Fld Z h101 a1 "java/lang/String" "value" "[B" (.ref a2) := Fld.same W101 F_value_a1
  have K101 : Keep h0 h101 [a1] := Keep.wr K0 W101 (Or.inl (List.mem_of_getElem? (i := 0) rfl))
  have N101 := Fr.snoc X101 N0 g_a1
  have Zs101 : n0 ≤ h101.size := by rw [W101.size]; exact Z0
  show Go p e below _ (T101.setTop (mkF m 9 #[.val (.ref a1), .val (.ref a2), .val (.int (1 : Int32))] []))
  refine g_aloadN X101 hx (hb hby d36_9) 10 rfl (v := (.ref a1)) rfl rfl ?_
  refine g_iloadN X101 hx (hb hby d36_10) 11 rfl (v := (1 : Int32)) rfl ?_
  obtain ⟨T103, h103, X103, e103, W103, st103⟩ := putF X101 hx hZ hown (host := "") (Or.inl (hw _ (List.mem_of_getElem? (i := 26) rfl))) Via.refl e101 F_coder_a1_102 E_a1_102 (Or.inr ⟨(hw _ (List.mem_of_getElem? (i := 22) rfl)), rfl, hnm⟩) (hw _ (List.mem_of_getElem? (i := 6) rfl)) (ty := .byte) (by decide) rfl rfl (g := (mkF m 11 #[.val (.ref a1), .val (.ref a2), .val (.int (1 : Int32))] [(.int (1 : Int32)), (.ref a1)])) rfl rfl (hb hby d36_11)
  refine Go.st st103 ?_
  have E_a1_104 : Exa Z h103 a1 "java/lang/String" := Exa.wr W103 E_a1_102
  have F_value_a1_104 : Fld Z h103 a1 "java/lang/String" "value" "[B" (.ref a2) := Fld.other W103 F_value_a1_101w (Or.inr (slot_ne (Or.inr (hw _ (List.mem_of_getElem? (i := 21) rfl))) (Or.inr (hw _ (List.mem_of_getElem? (i := 22) rfl))) (by decide) (t := (.array .byte)) (t' := .byte) (by decide) (by decide)))
  have F_coder_a1_103w : Fld Z h103 a1 "java/lang/String" "coder" "B" (.int (1 : Int32)) := Fld.same W103 F_coder_a1_102
  have K103 : Keep h0 h103 [a1] := Keep.wr K101 W103 (Or.inl (List.mem_of_getElem? (i := 0) rfl))
  have N103 := Fr.snoc X103 N101 g_a1
  have Zs103 : n0 ≤ h103.size := by rw [W103.size]; exact Zs101
  show Go p e below _ (T103.setTop (mkF m 14 #[.val (.ref a1), .val (.ref a2), .val (.int (1 : Int32))] []))
  refine Go.retV X103 hx hlk Bd.returns (hb hby d36_14) (by decide) (by decide) ?_
  show QiniU Z a1 a2 u1 u2 h0 n0 _ T103.heap _
  rw [e103]
  exact ⟨rfl, N103, K103, E_a1_104, F_value_a1_104, F_coder_a1_103w⟩
theorem ef_vofU (m : MethodId) (x0 : Int32) : entryFrame m #[(.int x0)] 1 = mkF m 0 #[.val (.int x0)] [] := by first | (simp [entryFrame, mkF, argsToLocals, Value.category]; done) | rfl
theorem d33_26 : decode jdk_42_method_139_code 26 = .ok (.new 10, 3) := by decide +kernel
theorem d33_29 : decode jdk_42_method_139_code 29 = .ok (.dup, 1) := by decide +kernel
theorem d33_30 : decode jdk_42_method_139_code 30 = .ok (.iload_n 0, 1) := by decide +kernel
theorem d33_31 : decode jdk_42_method_139_code 31 = .ok (.invokestatic 1021, 3) := by decide +kernel
theorem d33_34 : decode jdk_42_method_139_code 34 = .ok (.iconst 1, 1) := by decide +kernel
theorem d33_35 : decode jdk_42_method_139_code 35 = .ok (.invokespecial 209, 3) := by decide +kernel
theorem d33_38 : decode jdk_42_method_139_code 38 = .ok (.areturn, 1) := by decide +kernel
def QvofU (Z : State) (p1 : Int32) (cs : Int32) (h0 : Heap) (n0 : Nat) (v : Option Value) (h : Heap) (L : List Loc) : Prop := ∃ b : Addr, ∃ vb : Addr, ∃ kb : ClassId, v = some (.ref b) ∧ Fr n0 L ∧ Keep h0 h [] ∧ h0.size ≤ b ∧ h0.size ≤ vb ∧ (b ≠ vb) ∧ (Exa Z h b "java/lang/String") ∧ (Fld Z h b "java/lang/String" "value" "[B" (.ref vb)) ∧ (Fld Z h b "java/lang/String" "coder" "B" (.int (1 : Int32))) ∧ (Arv Z h vb kb .byte (Int32.ofNat (2 * [p1].length)) (own_ub [p1]) (.int (0 : Int32)))
set_option maxRecDepth 65536 in
set_option maxHeartbeats 40000000 in
theorem rmvofU (l : Launch) (Z : State) (a0 : Array Value) (hw : ∀ d ∈ tables_1, d.before a0 Z = true) (ws : List Jvm.Cond) (p1 : Int32) (cs : Int32) (h0 : Heap) (n0 : Nat) (Z0 : n0 ≤ h0.size) (S_COMPACT_STRINGS : Sta Z h0 "java/lang/String" "COMPACT_STRINGS" "Z" (.int cs)) (S_assertionsDisabled : Sta Z h0 "java/lang/StringUTF16" "$assertionsDisabled" "Z" (.int (1 : Int32))) (S_HI_BYTE_SHIFT : Sta Z h0 "java/lang/StringUTF16" "HI_BYTE_SHIFT" "I" (.int (0 : Int32))) (S_LO_BYTE_SHIFT : Sta Z h0 "java/lang/StringUTF16" "LO_BYTE_SHIFT" "I" (.int (8 : Int32))) (hcs : ¬ cs = 0) (hp : (255 : Int32) < p1) :
    MetFree l (⟨"java/lang/String", "valueOf", "(C)Ljava/lang/String;"⟩ : MethodName) (head1 (Jvm.Cond.code (⟨"java/lang/String", "valueOf", "(C)Ljava/lang/String;"⟩ : MethodName) jdk_42_method_139_code 1 (some (.object "java/lang/String")) :: ws) ({ frames := 2, cells := 2, slots := 6, locals := 29 } : Room)) (fun a U => a = #[(.int p1)] ∧ Z.Warmed39 U.vm ∧ U.heap = h0) (fun _ _ _ _ _ => True) (fun _ U o U' => ∃ v L, o = .returned v ∧ QvofU Z p1 cs h0 n0 v U'.heap L ∧ FrameEnd U o U' L ({ frames := 2, cells := 2, slots := 6, locals := 29 } : Room).cells ({ frames := 2, cells := 2, slots := 6, locals := 29 } : Room).slots) := by
  refine MetFree.of_bodySF (plainFor_of_name own_pn_java_lang_String) hisR ?_
  intro p e s m args below meth c s₁ Bd hml0 hP hK
  obtain ⟨rfl, hZ, hh⟩ := hP
  have hx := Bd.exec
  have hby := Bd.bytes
  have hlk := Bd.notSynchronized
  have hml : c.maxLocals = 1 := hml0
  have hown : s.vm.findClass "java/lang/String" = some m.cls := findClass_of_methodNamed Bd.named
  have hnm := (name_of_methodNamed Bd.named Bd.method).1
  have X0 : Stand p l e ({ frames := 2, cells := 2, slots := 6, locals := 29 } : Room) s m #[(.int p1)] below meth c s₁ [] 0 0 := Stand.of_body Bd
  have e0 : s₁.heap = h0 := by rw [← hh, Bd.state]; rfl
  have N0 := Fr.nil n0
  have K0 : Keep h0 h0 [] := Keep.refl _ _
  show Go p e below (KQ s below (QvofU Z p1 cs h0 n0) ({ frames := 2, cells := 2, slots := 6, locals := 29 } : Room).cells ({ frames := 2, cells := 2, slots := 6, locals := 29 } : Room).slots) _
  refine Go.body (T := s₁) (σ := s₁) (g' := (mkF m 0 #[.val (.int p1)] [])) (ef_vofU m p1) ?_
  obtain ⟨T105, X105, e105, st105⟩ := getS2 X0 hx hZ hown (host := "") (Or.inl (hw _ (List.mem_of_getElem? (i := 36) rfl))) Via.refl e0 S_COMPACT_STRINGS (g := (mkF m 0 #[.val (.int p1)] [])) rfl (hb hby d33_0)
  refine Go.st st105 ?_
  show Go p e below _ (T105.setTop (mkF m 3 #[.val (.int p1)] [(.int cs)]))
  refine g_if_eq X105 hx (hb hby d33_3) 26 6 (by decide) (by decide) rfl (fun hc3 => False.elim (hcs hc3)) (fun hc3 => ?_)
  refine g_iloadN X105 hx (hb hby d33_6) 7 rfl (v := p1) rfl ?_
  obtain ⟨_, _, ⟨T106, L106, k106, n106⟩, -, X106, ⟨Lc106, hQ106, l106, y106, z106⟩, st106⟩ := Jvm.LawKit.callS X105 hx (y := (⟨"java/lang/StringLatin1", "canEncode", "(C)Z"⟩ : MethodName)) hown (mvT hZ (hw _ (List.mem_of_getElem? (i := 141) rfl))) (mvT hZ (hw _ (List.mem_of_getElem? (i := 142) rfl))) (mvT hZ (hw _ (List.mem_of_getElem? (i := 77) rfl))) (mvT hZ (hw _ (List.mem_of_getElem? (i := 143) rfl))) (by decide) (backOf (W := 0) (rmceU l Z a0 hw [] p1 h0 n0 Z0 hp) hZ (hw _ (List.mem_of_getElem? (i := 143) rfl)) (hw _ (List.mem_of_getElem? (i := 77) rfl)) (by decide) (by decide)) (g := (mkF m 7 #[.val (.int p1)] [(.int p1)])) rfl (by rw [hml]; rfl) (argsL := [(.int p1)]) (rest := []) (lenOf own_pd1 rfl) rfl (by show 2 * 0 + _ ≤ _; exact Nat.le_of_eq rfl) (hb hby d33_7) (fun _ _ => ⟨rfl, e105, (by decide : 0 + 0 ≤ _), (by decide : 0 + 0 ≤ _)⟩)
  dsimp only [Pt.U, Pt.locs, Pt.cells, Pt.slots] at X106 l106 y106 z106 st106 hQ106
  subst l106 y106 z106
  obtain ⟨rfl, Nq106, e106⟩ := hQ106
  refine Go.st st106 ?_
  have N106 := Fr.app N0 Nq106
  show Go p e below _ (T106.setTop (mkF m 10 #[.val (.int p1)] [(.int (0 : Int32))]))
  refine g_if_eq X106 hx (hb hby d33_10) 26 13 (by decide) (by decide) rfl (fun hc10 => ?_) (fun hc10 => False.elim (absurd rfl hc10))
  obtain ⟨T107, h107, X107, e107, E107, A107, D107, -, st107⟩ := newO X106 hx hZ hown (hw _ (List.mem_of_getElem? (i := 144) rfl)) (hw _ (List.mem_of_getElem? (i := 6) rfl)) (hw _ (List.mem_of_getElem? (i := 7) rfl)) e106 (g := (mkF m 26 #[.val (.int p1)] [])) rfl (hb hby d33_26) (by decide) (by decide)
  refine Go.st st107 ?_
  obtain ⟨ob, q107⟩ : ∃ z, z = h0.size := ⟨_, rfl⟩
  rw [← q107] at A107 D107 ⊢
  have g_ob : n0 ≤ ob := Nat.le_trans Z0 (Nat.le_of_eq q107.symm)
  have mh_ob : h0.size ≤ ob := Nat.le_trans K0.1 (Nat.le_of_eq q107.symm)
  have F_value_107 : Fld Z h107 ob "java/lang/String" "value" "[B" .null := D107 (Or.inr (hw _ (List.mem_of_getElem? (i := 21) rfl))) (ty := (.array .byte)) (by decide)
  have F_coder_107 : Fld Z h107 ob "java/lang/String" "coder" "B" (.int (0 : Int32)) := D107 (Or.inr (hw _ (List.mem_of_getElem? (i := 22) rfl))) (ty := .byte) (by decide)
  have K107 : Keep h0 h107 [] := Keep.ext K0 E107
  have Zs107 : n0 ≤ h107.size := Nat.le_trans Z0 E107.1
  show Go p e below _ (T107.setTop (mkF m 29 #[.val (.int p1)] [(.ref ob)]))
  refine g_dup X107 hx (hb hby d33_29) 30 rfl rfl ?_
  refine g_iloadN X107 hx (hb hby d33_30) 31 rfl (v := p1) rfl ?_
  obtain ⟨_, _, ⟨T109, L109, k109, n109⟩, -, X109, ⟨Lc109, hQ109, l109, y109, z109⟩, st109⟩ := Jvm.LawKit.callS X107 hx (y := (⟨"java/lang/StringUTF16", "toBytes", "(C)[B"⟩ : MethodName)) hown (mvT hZ (hw _ (List.mem_of_getElem? (i := 151) rfl))) (mvT hZ (hw _ (List.mem_of_getElem? (i := 152) rfl))) (mvT hZ (hw _ (List.mem_of_getElem? (i := 39) rfl))) (mvT hZ (hw _ (List.mem_of_getElem? (i := 153) rfl))) (by decide) (backOf (W := 2) (rmtbc l Z a0 hw [] p1 h107 n0 Zs107 (own_Sta_keep S_assertionsDisabled K107 all0) (own_Sta_keep S_HI_BYTE_SHIFT K107 all0) (own_Sta_keep S_LO_BYTE_SHIFT K107 all0)) hZ (hw _ (List.mem_of_getElem? (i := 153) rfl)) (hw _ (List.mem_of_getElem? (i := 39) rfl)) (by decide) (by decide)) (g := (mkF m 31 #[.val (.int p1)] [(.int p1), (.ref ob), (.ref ob)])) rfl (by rw [hml]; rfl) (argsL := [(.int p1)]) (rest := [(.ref ob), (.ref ob)]) (lenOf own_pd2 rfl) rfl (by show 2 * 0 + _ ≤ _; exact Nat.le_of_eq rfl) (hb hby d33_31) (fun _ _ => ⟨rfl, e107, (by decide : 1 + 1 ≤ _), (by decide : 4 + 2 ≤ _)⟩)
  dsimp only [Pt.U, Pt.locs, Pt.cells, Pt.slots] at X109 l109 y109 z109 st109 hQ109
  subst l109 y109 z109
  obtain ⟨ovb, okb, rfl, Nq109, Kq109, f109_0, f109_1⟩ := hQ109
  refine Go.st st109 ?_
  have N109 := Fr.app N106 Nq109
  have E_ob_110 : Exa Z T109.heap ob "java/lang/String" := Exa.keep A107 Kq109
  have F_value_ob_110 : Fld Z T109.heap ob "java/lang/String" "value" "[B" .null := Fld.keep F_value_107 Kq109 nin0
  have F_coder_ob_110 : Fld Z T109.heap ob "java/lang/String" "coder" "B" (.int (0 : Int32)) := Fld.keep F_coder_107 Kq109 nin0
  have ne_ob_ovb : ob ≠ ovb := Nat.ne_of_lt (Nat.lt_of_lt_of_le A107.lt f109_0)
  have g_ovb : n0 ≤ ovb := Nat.le_trans Zs107 f109_0
  have mh_ovb : h0.size ≤ ovb := Nat.le_trans K107.1 f109_0
  have K109 : Keep h0 T109.heap [] := Keep.trans K107 Kq109 all0
  have Zs109 : n0 ≤ T109.heap.size := Nat.le_trans Zs107 Kq109.1
  show Go p e below _ (T109.setTop (mkF m 34 #[.val (.int p1)] [(.ref ovb), (.ref ob), (.ref ob)]))
  refine g_iconst X109 hx (hb hby d33_34) 35 rfl (1 : Int32) rfl ?_
  obtain ⟨_, _, ⟨T111, L111, k111, n111⟩, -, X111, ⟨Lc111, hQ111, l111, y111, z111⟩, st111⟩ := X109.specialBack hx (y := (⟨"java/lang/String", "<init>", "([BB)V"⟩ : MethodName)) rfl hown (mvT hZ (hw _ (List.mem_of_getElem? (i := 148) rfl))) (mvT hZ (hw _ (List.mem_of_getElem? (i := 149) rfl))) (mvT hZ (hw _ (List.mem_of_getElem? (i := 150) rfl))) (by decide) (backOf (W := 1) (rminiU l Z a0 hw [] ob ovb .null (.int (0 : Int32)) T109.heap n0 Zs109 E_ob_110 g_ob F_value_ob_110 F_coder_ob_110) hZ (hw _ (List.mem_of_getElem? (i := 150) rfl)) (hw _ (List.mem_of_getElem? (i := 7) rfl)) (by decide) (by decide)) (g := (mkF m 35 #[.val (.int p1)] [(.int (1 : Int32)), (.ref ovb), (.ref ob), (.ref ob)])) rfl (by rw [hml]; rfl) (Steps.refl _) (a := ob) (argsL := [(.ref ovb), (.int (1 : Int32))]) (rest := [(.ref ob)]) (lenOf own_pd3 rfl) rfl (by show 2 * 0 + _ ≤ _; exact Nat.le_of_eq rfl) (hb hby d33_35) (fun _ _ => ⟨rfl, rfl, (by decide : 2 + 0 ≤ _), (by decide : 6 + 0 ≤ _)⟩)
  dsimp only [Pt.U, Pt.locs, Pt.cells, Pt.slots] at X111 l111 y111 z111 st111 hQ111
  subst l111 y111 z111
  obtain ⟨rfl, Nq111, Kq111, f111_0, f111_1, f111_2⟩ := hQ111
  refine Go.tr st111 ?_
  have N111 := Fr.app N109 Nq111
  have E_ob_112 : Exa Z T111.heap ob "java/lang/String" := Exa.keep E_ob_110 Kq111
  have A_ovb_112 : Arv Z T111.heap ovb okb .byte (Int32.ofNat (2 * [p1].length)) (own_ub [p1]) (.int (0 : Int32)) := Arv.keep f109_1 Kq111 (ninS (Ne.symm ne_ob_ovb) nin0)
  have K111 : Keep h0 T111.heap [] := Keep.trans K109 Kq111 (allS (Or.inr mh_ob) all0)
  have Zs111 : n0 ≤ T111.heap.size := Nat.le_trans Zs109 Kq111.1
  show Go p e below _ (T111.setTop (mkF m 38 #[.val (.int p1)] [(.ref ob)]))
  refine Go.retA X111 hx hlk Bd.returns rfl rfl (hb hby d33_38) (by decide) (by decide) ?_
  show QvofU Z p1 cs h0 n0 _ T111.heap _
  exact ⟨ob, ovb, okb, rfl, N111, K111, mh_ob, mh_ovb, ne_ob_ovb, f111_0, f111_1, f111_2, A_ovb_112⟩
theorem ef_mx0 (m : MethodId) (x0 : Int32) (x1 : Int32) : entryFrame m #[(.int x0), (.int x1)] 2 = mkF m 0 #[.val (.int x0), .val (.int x1)] [] := by first | (simp [entryFrame, mkF, argsToLocals, Value.category]; done) | rfl
theorem d18_0 : decode jdk_29_method_65_code 0 = .ok (.iload_n 0, 1) := by decide +kernel
theorem d18_1 : decode jdk_29_method_65_code 1 = .ok (.iload_n 1, 1) := by decide +kernel
theorem d18_2 : decode jdk_29_method_65_code 2 = .ok (.if_icmp .lt 7, 3) := by decide +kernel
theorem d18_5 : decode jdk_29_method_65_code 5 = .ok (.iload_n 0, 1) := by decide +kernel
theorem d18_6 : decode jdk_29_method_65_code 6 = .ok (.goto 4, 3) := by decide +kernel
theorem d18_10 : decode jdk_29_method_65_code 10 = .ok (.ireturn, 1) := by decide +kernel
def Qmx0 (Z : State)  (h0 : Heap) (n0 : Nat) (v : Option Value) (h : Heap) (L : List Loc) : Prop := v = some (.int (0 : Int32)) ∧ Fr n0 L ∧ h = h0
set_option maxRecDepth 65536 in
set_option maxHeartbeats 40000000 in
theorem rmmx0 (l : Launch) (Z : State) (a0 : Array Value) (hw : ∀ d ∈ tables_1, d.before a0 Z = true) (ws : List Jvm.Cond)  (h0 : Heap) (n0 : Nat) (Z0 : n0 ≤ h0.size)  :
    MetFree l (⟨"java/lang/Math", "max", "(II)I"⟩ : MethodName) (head1 (Jvm.Cond.code (⟨"java/lang/Math", "max", "(II)I"⟩ : MethodName) jdk_29_method_65_code 2 (some .int) :: ws) ({ frames := 0, cells := 0, slots := 0, locals := 0 } : Room)) (fun a U => a = #[(.int (0 : Int32)), (.int (0 : Int32))] ∧ Z.Warmed39 U.vm ∧ U.heap = h0) (fun _ _ _ _ _ => True) (fun _ U o U' => ∃ v L, o = .returned v ∧ Qmx0 Z  h0 n0 v U'.heap L ∧ FrameEnd U o U' L ({ frames := 0, cells := 0, slots := 0, locals := 0 } : Room).cells ({ frames := 0, cells := 0, slots := 0, locals := 0 } : Room).slots) := by
  refine MetFree.of_bodySF (Jvm.Free.JP.mathPlain rfl (by decide +kernel)) hisR ?_
  intro p e s m args below meth c s₁ Bd hml0 hP hK
  obtain ⟨rfl, hZ, hh⟩ := hP
  have hx := Bd.exec
  have hby := Bd.bytes
  have hlk := Bd.notSynchronized
  have hml : c.maxLocals = 2 := hml0
  have hown : s.vm.findClass "java/lang/Math" = some m.cls := findClass_of_methodNamed Bd.named
  have hnm := (name_of_methodNamed Bd.named Bd.method).1
  have X0 : Stand p l e ({ frames := 0, cells := 0, slots := 0, locals := 0 } : Room) s m #[(.int (0 : Int32)), (.int (0 : Int32))] below meth c s₁ [] 0 0 := Stand.of_body Bd
  have e0 : s₁.heap = h0 := by rw [← hh, Bd.state]; rfl
  have N0 := Fr.nil n0
  show Go p e below (KQ s below (Qmx0 Z  h0 n0) ({ frames := 0, cells := 0, slots := 0, locals := 0 } : Room).cells ({ frames := 0, cells := 0, slots := 0, locals := 0 } : Room).slots) _
  refine Go.body (T := s₁) (σ := s₁) (g' := (mkF m 0 #[.val (.int (0 : Int32)), .val (.int (0 : Int32))] [])) (ef_mx0 m (0 : Int32) (0 : Int32)) ?_
  refine g_iloadN X0 hx (hb hby d18_0) 1 rfl (v := (0 : Int32)) rfl ?_
  refine g_iloadN X0 hx (hb hby d18_1) 2 rfl (v := (0 : Int32)) rfl ?_
  refine g_icmp_lt X0 hx (hb hby d18_2) 9 5 (by decide) (by decide) rfl (fun hc2 => False.elim (absurd hc2 (by decide))) (fun hc2 => ?_)
  refine g_iloadN X0 hx (hb hby d18_5) 6 rfl (v := (0 : Int32)) rfl ?_
  refine g_goto X0 hx (hb hby d18_6) 10 (by decide) (by decide) ?_
  refine Go.retI X0 hx hlk Bd.returns (hb hby d18_10) (by decide) (by decide) ?_
  show Qmx0 Z  h0 n0 _ s₁.heap _
  rw [e0]
  exact ⟨rfl, N0, rfl⟩
theorem ef_mn (m : MethodId) (x0 : Int32) (x1 : Int32) : entryFrame m #[(.int x0), (.int x1)] 2 = mkF m 0 #[.val (.int x0), .val (.int x1)] [] := by first | (simp [entryFrame, mkF, argsToLocals, Value.category]; done) | rfl
theorem d19_0 : decode jdk_29_method_69_code 0 = .ok (.iload_n 0, 1) := by decide +kernel
theorem d19_1 : decode jdk_29_method_69_code 1 = .ok (.iload_n 1, 1) := by decide +kernel
theorem d19_2 : decode jdk_29_method_69_code 2 = .ok (.if_icmp .gt 7, 3) := by decide +kernel
theorem d19_5 : decode jdk_29_method_69_code 5 = .ok (.iload_n 0, 1) := by decide +kernel
theorem d19_6 : decode jdk_29_method_69_code 6 = .ok (.goto 4, 3) := by decide +kernel
theorem d19_10 : decode jdk_29_method_69_code 10 = .ok (.ireturn, 1) := by decide +kernel
def Qmn (Z : State) (p1 : Int32) (p2 : Int32) (h0 : Heap) (n0 : Nat) (v : Option Value) (h : Heap) (L : List Loc) : Prop := v = some (.int p1) ∧ Fr n0 L ∧ h = h0
set_option maxRecDepth 65536 in
set_option maxHeartbeats 40000000 in
theorem rmmn (l : Launch) (Z : State) (a0 : Array Value) (hw : ∀ d ∈ tables_1, d.before a0 Z = true) (ws : List Jvm.Cond) (p1 : Int32) (p2 : Int32) (h0 : Heap) (n0 : Nat) (Z0 : n0 ≤ h0.size) (hp : p1 = p2) :
    MetFree l (⟨"java/lang/Math", "min", "(II)I"⟩ : MethodName) (head1 (Jvm.Cond.code (⟨"java/lang/Math", "min", "(II)I"⟩ : MethodName) jdk_29_method_69_code 2 (some .int) :: ws) ({ frames := 0, cells := 0, slots := 0, locals := 0 } : Room)) (fun a U => a = #[(.int p1), (.int p2)] ∧ Z.Warmed39 U.vm ∧ U.heap = h0) (fun _ _ _ _ _ => True) (fun _ U o U' => ∃ v L, o = .returned v ∧ Qmn Z p1 p2 h0 n0 v U'.heap L ∧ FrameEnd U o U' L ({ frames := 0, cells := 0, slots := 0, locals := 0 } : Room).cells ({ frames := 0, cells := 0, slots := 0, locals := 0 } : Room).slots) := by
  refine MetFree.of_bodySF (Jvm.Free.JP.mathPlain rfl (by decide +kernel)) hisR ?_
  intro p e s m args below meth c s₁ Bd hml0 hP hK
  obtain ⟨rfl, hZ, hh⟩ := hP
  have hx := Bd.exec
  have hby := Bd.bytes
  have hlk := Bd.notSynchronized
  have hml : c.maxLocals = 2 := hml0
  have hown : s.vm.findClass "java/lang/Math" = some m.cls := findClass_of_methodNamed Bd.named
  have hnm := (name_of_methodNamed Bd.named Bd.method).1
  have X0 : Stand p l e ({ frames := 0, cells := 0, slots := 0, locals := 0 } : Room) s m #[(.int p1), (.int p2)] below meth c s₁ [] 0 0 := Stand.of_body Bd
  have e0 : s₁.heap = h0 := by rw [← hh, Bd.state]; rfl
  have N0 := Fr.nil n0
  show Go p e below (KQ s below (Qmn Z p1 p2 h0 n0) ({ frames := 0, cells := 0, slots := 0, locals := 0 } : Room).cells ({ frames := 0, cells := 0, slots := 0, locals := 0 } : Room).slots) _
  refine Go.body (T := s₁) (σ := s₁) (g' := (mkF m 0 #[.val (.int p1), .val (.int p2)] [])) (ef_mn m p1 p2) ?_
  refine g_iloadN X0 hx (hb hby d19_0) 1 rfl (v := p1) rfl ?_
  refine g_iloadN X0 hx (hb hby d19_1) 2 rfl (v := p2) rfl ?_
  refine g_icmp_gt X0 hx (hb hby d19_2) 9 5 (by decide) (by decide) rfl (fun hc2 => False.elim (Int32.lt_irrefl (a := p2) (by rw [hp] at hc2; exact hc2))) (fun hc2 => ?_)
  refine g_iloadN X0 hx (hb hby d19_5) 6 rfl (v := p1) rfl ?_
  refine g_goto X0 hx (hb hby d19_6) 10 (by decide) (by decide) ?_
  refine Go.retI X0 hx hlk Bd.returns (hb hby d19_10) (by decide) (by decide) ?_
  show Qmn Z p1 p2 h0 n0 _ s₁.heap _
  rw [e0]
  exact ⟨rfl, N0, rfl⟩
theorem ef_ceI (m : MethodId) (x0 : Int32) : entryFrame m #[(.int x0)] 1 = mkF m 0 #[.val (.int x0)] [] := by first | (simp [entryFrame, mkF, argsToLocals, Value.category]; done) | rfl
theorem d17_0 : decode jdk_43_method_4_code 0 = .ok (.iload_n 0, 1) := by decide +kernel
theorem d17_1 : decode jdk_43_method_4_code 1 = .ok (.ifCond .lt 14, 3) := by decide +kernel
theorem d17_4 : decode jdk_43_method_4_code 4 = .ok (.iload_n 0, 1) := by decide +kernel
theorem d17_5 : decode jdk_43_method_4_code 5 = .ok (.sipush 255, 3) := by decide +kernel
theorem d17_8 : decode jdk_43_method_4_code 8 = .ok (.if_icmp .gt 7, 3) := by decide +kernel
theorem d17_11 : decode jdk_43_method_4_code 11 = .ok (.iconst 1, 1) := by decide +kernel
theorem d17_12 : decode jdk_43_method_4_code 12 = .ok (.goto 4, 3) := by decide +kernel
theorem d17_16 : decode jdk_43_method_4_code 16 = .ok (.ireturn, 1) := by decide +kernel
def QceI (Z : State) (p1 : Int32) (h0 : Heap) (n0 : Nat) (v : Option Value) (h : Heap) (L : List Loc) : Prop := v = some (.int (1 : Int32)) ∧ Fr n0 L ∧ h = h0
set_option maxRecDepth 65536 in
set_option maxHeartbeats 40000000 in
theorem rmceI (l : Launch) (Z : State) (a0 : Array Value) (hw : ∀ d ∈ tables_1, d.before a0 Z = true) (ws : List Jvm.Cond) (p1 : Int32) (h0 : Heap) (n0 : Nat) (Z0 : n0 ≤ h0.size) (hp0 : own_C p1) (hp : ¬ (255 : Int32) < p1) :
    MetFree l (⟨"java/lang/StringLatin1", "canEncode", "(I)Z"⟩ : MethodName) (head1 (Jvm.Cond.code (⟨"java/lang/StringLatin1", "canEncode", "(I)Z"⟩ : MethodName) jdk_43_method_4_code 1 (some .boolean) :: ws) ({ frames := 0, cells := 0, slots := 0, locals := 0 } : Room)) (fun a U => a = #[(.int p1)] ∧ Z.Warmed39 U.vm ∧ U.heap = h0) (fun _ _ _ _ _ => True) (fun _ U o U' => ∃ v L, o = .returned v ∧ QceI Z p1 h0 n0 v U'.heap L ∧ FrameEnd U o U' L ({ frames := 0, cells := 0, slots := 0, locals := 0 } : Room).cells ({ frames := 0, cells := 0, slots := 0, locals := 0 } : Room).slots) := by
  refine MetFree.of_bodySF (plainFor_of_name own_pn_java_lang_StringLatin1) hisR ?_
  intro p e s m args below meth c s₁ Bd hml0 hP hK
  obtain ⟨rfl, hZ, hh⟩ := hP
  have hx := Bd.exec
  have hby := Bd.bytes
  have hlk := Bd.notSynchronized
  have hml : c.maxLocals = 1 := hml0
  have hown : s.vm.findClass "java/lang/StringLatin1" = some m.cls := findClass_of_methodNamed Bd.named
  have hnm := (name_of_methodNamed Bd.named Bd.method).1
  have X0 : Stand p l e ({ frames := 0, cells := 0, slots := 0, locals := 0 } : Room) s m #[(.int p1)] below meth c s₁ [] 0 0 := Stand.of_body Bd
  have e0 : s₁.heap = h0 := by rw [← hh, Bd.state]; rfl
  have N0 := Fr.nil n0
  show Go p e below (KQ s below (QceI Z p1 h0 n0) ({ frames := 0, cells := 0, slots := 0, locals := 0 } : Room).cells ({ frames := 0, cells := 0, slots := 0, locals := 0 } : Room).slots) _
  refine Go.body (T := s₁) (σ := s₁) (g' := (mkF m 0 #[.val (.int p1)] [])) (ef_ceI m p1) ?_
  refine g_iloadN X0 hx (hb hby d17_0) 1 rfl (v := p1) rfl ?_
  refine g_if_lt X0 hx (hb hby d17_1) 15 4 (by decide) (by decide) rfl (fun hc1 => False.elim (own_C0 hp0 hc1)) (fun hc1 => ?_)
  refine g_iloadN X0 hx (hb hby d17_4) 5 rfl (v := p1) rfl ?_
  refine g_sipush X0 hx (hb hby d17_5) 8 rfl (255 : Int32) rfl ?_
  refine g_icmp_gt X0 hx (hb hby d17_8) 15 11 (by decide) (by decide) rfl (fun hc8 => False.elim (hp hc8)) (fun hc8 => ?_)
  refine g_iconst X0 hx (hb hby d17_11) 12 rfl (1 : Int32) rfl ?_
  refine g_goto X0 hx (hb hby d17_12) 16 (by decide) (by decide) ?_
  refine Go.retN X0 hx hlk (t := .boolean) Bd.returns (by simp) (hb hby d17_16) (by decide) (by decide) ?_
  show QceI Z p1 h0 n0 _ s₁.heap _
  rw [e0]
  exact ⟨rfl, N0, rfl⟩
theorem ef_ulen (m : MethodId) (x0 : Addr) : entryFrame m #[(.ref x0)] 1 = mkF m 0 #[.val (.ref x0)] [] := by first | (simp [entryFrame, mkF, argsToLocals, Value.category]; done) | rfl
theorem d29_0 : decode jdk_52_method_6_code 0 = .ok (.aload_n 0, 1) := by decide +kernel
theorem d29_1 : decode jdk_52_method_6_code 1 = .ok (.arraylength, 1) := by decide +kernel
theorem d29_2 : decode jdk_52_method_6_code 2 = .ok (.iconst 1, 1) := by decide +kernel
theorem d29_3 : decode jdk_52_method_6_code 3 = .ok (.ishr, 1) := by decide +kernel
theorem d29_4 : decode jdk_52_method_6_code 4 = .ok (.ireturn, 1) := by decide +kernel
def Qulen (Z : State) (a1 : Addr) (kb : ClassId) (us : List Int32) (h0 : Heap) (n0 : Nat) (v : Option Value) (h : Heap) (L : List Loc) : Prop := v = some (.int (Int32.ofNat us.length)) ∧ Fr n0 L ∧ h = h0
set_option maxRecDepth 65536 in
set_option maxHeartbeats 40000000 in
theorem rmulen (l : Launch) (Z : State) (a0 : Array Value) (hw : ∀ d ∈ tables_1, d.before a0 Z = true) (ws : List Jvm.Cond) (a1 : Addr) (kb : ClassId) (us : List Int32) (h0 : Heap) (n0 : Nat) (Z0 : n0 ≤ h0.size) (A_a1 : Arv Z h0 a1 kb .byte (Int32.ofNat (2 * us.length)) (own_ub us) (.int (0 : Int32))) (hle : us.length ≤ 4) :
    MetFree l (⟨"java/lang/StringUTF16", "length", "([B)I"⟩ : MethodName) (head1 (Jvm.Cond.code (⟨"java/lang/StringUTF16", "length", "([B)I"⟩ : MethodName) jdk_52_method_6_code 1 (some .int) :: ws) ({ frames := 0, cells := 0, slots := 0, locals := 0 } : Room)) (fun a U => a = #[(.ref a1)] ∧ Z.Warmed39 U.vm ∧ U.heap = h0) (fun _ _ _ _ _ => True) (fun _ U o U' => ∃ v L, o = .returned v ∧ Qulen Z a1 kb us h0 n0 v U'.heap L ∧ FrameEnd U o U' L ({ frames := 0, cells := 0, slots := 0, locals := 0 } : Room).cells ({ frames := 0, cells := 0, slots := 0, locals := 0 } : Room).slots) := by
  refine MetFree.of_bodySF (plainFor_of_name own_pn_java_lang_StringUTF16) hisR ?_
  intro p e s m args below meth c s₁ Bd hml0 hP hK
  obtain ⟨rfl, hZ, hh⟩ := hP
  have hx := Bd.exec
  have hby := Bd.bytes
  have hlk := Bd.notSynchronized
  have hml : c.maxLocals = 1 := hml0
  have hown : s.vm.findClass "java/lang/StringUTF16" = some m.cls := findClass_of_methodNamed Bd.named
  have hnm := (name_of_methodNamed Bd.named Bd.method).1
  have X0 : Stand p l e ({ frames := 0, cells := 0, slots := 0, locals := 0 } : Room) s m #[(.ref a1)] below meth c s₁ [] 0 0 := Stand.of_body Bd
  have e0 : s₁.heap = h0 := by rw [← hh, Bd.state]; rfl
  have N0 := Fr.nil n0
  show Go p e below (KQ s below (Qulen Z a1 kb us h0 n0) ({ frames := 0, cells := 0, slots := 0, locals := 0 } : Room).cells ({ frames := 0, cells := 0, slots := 0, locals := 0 } : Room).slots) _
  refine Go.body (T := s₁) (σ := s₁) (g' := (mkF m 0 #[.val (.ref a1)] [])) (ef_ulen m a1) ?_
  refine g_aloadN X0 hx (hb hby d29_0) 1 rfl (v := (.ref a1)) rfl rfl ?_
  refine g_alen X0 hx (hb hby d29_1) 2 rfl hZ e0 A_a1 ?_
  refine g_iconst X0 hx (hb hby d29_2) 3 rfl (1 : Int32) rfl ?_
  refine g_ishr X0 hx (hb hby d29_3) 4 rfl (Int32.ofNat us.length) (own_shr1 hle) ?_
  refine Go.retI X0 hx hlk Bd.returns (hb hby d29_4) (by decide) (by decide) ?_
  show Qulen Z a1 kb us h0 n0 _ s₁.heap _
  rw [e0]
  exact ⟨rfl, N0, rfl⟩
theorem own_pn_jdk_internal_util_Preconditions : plainName "jdk/internal/util/Preconditions" = true := by first | (simp [plainName, overriddenIn]; done) | decide +kernel
theorem ef_cft (m : MethodId) (x0 : Int32) (x1 : Int32) (x2 : Int32) (x3 : Value) (c3 : x3.category = 1) : entryFrame m #[(.int x0), (.int x1), (.int x2), x3] 4 = mkF m 0 #[.val (.int x0), .val (.int x1), .val (.int x2), .val x3] [] := by cases x3 <;> simp [entryFrame, mkF, argsToLocals, Value.category] at c3 ⊢
theorem d31_0 : decode jdk_41_method_12_code 0 = .ok (.iload_n 0, 1) := by decide +kernel
theorem d31_1 : decode jdk_41_method_12_code 1 = .ok (.ifCond .lt 13, 3) := by decide +kernel
theorem d31_4 : decode jdk_41_method_12_code 4 = .ok (.iload_n 0, 1) := by decide +kernel
theorem d31_5 : decode jdk_41_method_12_code 5 = .ok (.iload_n 1, 1) := by decide +kernel
theorem d31_6 : decode jdk_41_method_12_code 6 = .ok (.if_icmp .gt 8, 3) := by decide +kernel
theorem d31_9 : decode jdk_41_method_12_code 9 = .ok (.iload_n 1, 1) := by decide +kernel
theorem d31_10 : decode jdk_41_method_12_code 10 = .ok (.iload_n 2, 1) := by decide +kernel
theorem d31_11 : decode jdk_41_method_12_code 11 = .ok (.if_icmp .le 11, 3) := by decide +kernel
theorem d31_22 : decode jdk_41_method_12_code 22 = .ok (.iload_n 0, 1) := by decide +kernel
theorem d31_23 : decode jdk_41_method_12_code 23 = .ok (.ireturn, 1) := by decide +kernel
def Qcft (Z : State) (p1 : Int32) (p2 : Int32) (p3 : Int32) (sf : Value) (h0 : Heap) (n0 : Nat) (v : Option Value) (h : Heap) (L : List Loc) : Prop := v = some (.int p1) ∧ Fr n0 L ∧ h = h0
set_option maxRecDepth 65536 in
set_option maxHeartbeats 40000000 in
theorem rmcft (l : Launch) (Z : State) (a0 : Array Value) (hw : ∀ d ∈ tables_1, d.before a0 Z = true) (ws : List Jvm.Cond) (p1 : Int32) (p2 : Int32) (p3 : Int32) (sf : Value) (h0 : Heap) (n0 : Nat) (Z0 : n0 ≤ h0.size) (hsf : sf.isRef = true) (h1 : ¬ p1 < 0) (h2 : ¬ p2 < p1) (h3 : ¬ p3 < p2) :
    MetFree l (⟨"jdk/internal/util/Preconditions", "checkFromToIndex", "(IIILjava/util/function/BiFunction;)I"⟩ : MethodName) (head1 (Jvm.Cond.code (⟨"jdk/internal/util/Preconditions", "checkFromToIndex", "(IIILjava/util/function/BiFunction;)I"⟩ : MethodName) jdk_41_method_12_code 4 (some .int) :: ws) ({ frames := 0, cells := 0, slots := 0, locals := 0 } : Room)) (fun a U => a = #[(.int p1), (.int p2), (.int p3), sf] ∧ Z.Warmed39 U.vm ∧ U.heap = h0) (fun _ _ _ _ _ => True) (fun _ U o U' => ∃ v L, o = .returned v ∧ Qcft Z p1 p2 p3 sf h0 n0 v U'.heap L ∧ FrameEnd U o U' L ({ frames := 0, cells := 0, slots := 0, locals := 0 } : Room).cells ({ frames := 0, cells := 0, slots := 0, locals := 0 } : Room).slots) := by
  refine MetFree.of_bodySF (plainFor_of_name own_pn_jdk_internal_util_Preconditions) hisR ?_
  intro p e s m args below meth c s₁ Bd hml0 hP hK
  obtain ⟨rfl, hZ, hh⟩ := hP
  have hx := Bd.exec
  have hby := Bd.bytes
  have hlk := Bd.notSynchronized
  have hml : c.maxLocals = 4 := hml0
  have hown : s.vm.findClass "jdk/internal/util/Preconditions" = some m.cls := findClass_of_methodNamed Bd.named
  have hnm := (name_of_methodNamed Bd.named Bd.method).1
  have X0 : Stand p l e ({ frames := 0, cells := 0, slots := 0, locals := 0 } : Room) s m #[(.int p1), (.int p2), (.int p3), sf] below meth c s₁ [] 0 0 := Stand.of_body Bd
  have e0 : s₁.heap = h0 := by rw [← hh, Bd.state]; rfl
  have N0 := Fr.nil n0
  show Go p e below (KQ s below (Qcft Z p1 p2 p3 sf h0 n0) ({ frames := 0, cells := 0, slots := 0, locals := 0 } : Room).cells ({ frames := 0, cells := 0, slots := 0, locals := 0 } : Room).slots) _
  refine Go.body (T := s₁) (σ := s₁) (g' := (mkF m 0 #[.val (.int p1), .val (.int p2), .val (.int p3), .val sf] [])) (ef_cft m p1 p2 p3 sf (own_cat hsf)) ?_
  refine g_iloadN X0 hx (hb hby d31_0) 1 rfl (v := p1) rfl ?_
  refine g_if_lt X0 hx (hb hby d31_1) 14 4 (by decide) (by decide) rfl (fun hc1 => False.elim (h1 hc1)) (fun hc1 => ?_)
  refine g_iloadN X0 hx (hb hby d31_4) 5 rfl (v := p1) rfl ?_
  refine g_iloadN X0 hx (hb hby d31_5) 6 rfl (v := p2) rfl ?_
  refine g_icmp_gt X0 hx (hb hby d31_6) 14 9 (by decide) (by decide) rfl (fun hc6 => False.elim (h2 hc6)) (fun hc6 => ?_)
  refine g_iloadN X0 hx (hb hby d31_9) 10 rfl (v := p2) rfl ?_
  refine g_iloadN X0 hx (hb hby d31_10) 11 rfl (v := p3) rfl ?_
  refine g_icmp_le X0 hx (hb hby d31_11) 22 14 (by decide) (by decide) rfl (fun hc11 => ?_) (fun hc11 => False.elim (h3 hc11))
  refine g_iloadN X0 hx (hb hby d31_22) 23 rfl (v := p1) rfl ?_
  refine Go.retI X0 hx hlk Bd.returns (hb hby d31_23) (by decide) (by decide) ?_
  show Qcft Z p1 p2 p3 sf h0 n0 _ s₁.heap _
  rw [e0]
  exact ⟨rfl, N0, rfl⟩
theorem ef_cbe (m : MethodId) (x0 : Int32) (x1 : Int32) (x2 : Int32) : entryFrame m #[(.int x0), (.int x1), (.int x2)] 3 = mkF m 0 #[.val (.int x0), .val (.int x1), .val (.int x2)] [] := by first | (simp [entryFrame, mkF, argsToLocals, Value.category]; done) | rfl
theorem d30_0 : decode jdk_42_method_158_code 0 = .ok (.iload_n 0, 1) := by decide +kernel
theorem d30_1 : decode jdk_42_method_158_code 1 = .ok (.iload_n 1, 1) := by decide +kernel
theorem d30_2 : decode jdk_42_method_158_code 2 = .ok (.iload_n 2, 1) := by decide +kernel
theorem d30_3 : decode jdk_42_method_158_code 3 = .ok (.getstatic 1053, 3) := by decide +kernel
theorem own_pd11 : parseMethodDescriptor "(IIILjava/util/function/BiFunction;)I" = some ⟨[.int, .int, .int, (.object "java/util/function/BiFunction")], some .int⟩ := by decide +kernel
theorem d30_6 : decode jdk_42_method_158_code 6 = .ok (.invokestatic 1062, 3) := by decide +kernel
theorem d30_9 : decode jdk_42_method_158_code 9 = .ok (.pop, 1) := by decide +kernel
theorem d30_10 : decode jdk_42_method_158_code 10 = .ok (.return_, 1) := by decide +kernel
def Qcbe (Z : State) (p1 : Int32) (p2 : Int32) (p3 : Int32) (sf : Value) (h0 : Heap) (n0 : Nat) (v : Option Value) (h : Heap) (L : List Loc) : Prop := v = none ∧ Fr n0 L ∧ h = h0
set_option maxRecDepth 65536 in
set_option maxHeartbeats 40000000 in
theorem rmcbe (l : Launch) (Z : State) (a0 : Array Value) (hw : ∀ d ∈ tables_1, d.before a0 Z = true) (ws : List Jvm.Cond) (p1 : Int32) (p2 : Int32) (p3 : Int32) (sf : Value) (h0 : Heap) (n0 : Nat) (Z0 : n0 ≤ h0.size) (S_SIOOBE_FORMATTER : Sta Z h0 "jdk/internal/util/Preconditions" "SIOOBE_FORMATTER" "Ljava/util/function/BiFunction;" sf) (hsf : sf.isRef = true) (h1 : ¬ p1 < 0) (h2 : ¬ p2 < p1) (h3 : ¬ p3 < p2) :
    MetFree l (⟨"java/lang/String", "checkBoundsBeginEnd", "(III)V"⟩ : MethodName) (head1 (Jvm.Cond.code (⟨"java/lang/String", "checkBoundsBeginEnd", "(III)V"⟩ : MethodName) jdk_42_method_158_code 3 none :: ws) ({ frames := 1, cells := 0, slots := 0, locals := 15 } : Room)) (fun a U => a = #[(.int p1), (.int p2), (.int p3)] ∧ Z.Warmed39 U.vm ∧ U.heap = h0) (fun _ _ _ _ _ => True) (fun _ U o U' => ∃ v L, o = .returned v ∧ Qcbe Z p1 p2 p3 sf h0 n0 v U'.heap L ∧ FrameEnd U o U' L ({ frames := 1, cells := 0, slots := 0, locals := 15 } : Room).cells ({ frames := 1, cells := 0, slots := 0, locals := 15 } : Room).slots) := by
  refine MetFree.of_bodySF (plainFor_of_name own_pn_java_lang_String) hisR ?_
  intro p e s m args below meth c s₁ Bd hml0 hP hK
  obtain ⟨rfl, hZ, hh⟩ := hP
  have hx := Bd.exec
  have hby := Bd.bytes
  have hlk := Bd.notSynchronized
  have hml : c.maxLocals = 3 := hml0
  have hown : s.vm.findClass "java/lang/String" = some m.cls := findClass_of_methodNamed Bd.named
  have hnm := (name_of_methodNamed Bd.named Bd.method).1
  have X0 : Stand p l e ({ frames := 1, cells := 0, slots := 0, locals := 15 } : Room) s m #[(.int p1), (.int p2), (.int p3)] below meth c s₁ [] 0 0 := Stand.of_body Bd
  have e0 : s₁.heap = h0 := by rw [← hh, Bd.state]; rfl
  have N0 := Fr.nil n0
  show Go p e below (KQ s below (Qcbe Z p1 p2 p3 sf h0 n0) ({ frames := 1, cells := 0, slots := 0, locals := 15 } : Room).cells ({ frames := 1, cells := 0, slots := 0, locals := 15 } : Room).slots) _
  refine Go.body (T := s₁) (σ := s₁) (g' := (mkF m 0 #[.val (.int p1), .val (.int p2), .val (.int p3)] [])) (ef_cbe m p1 p2 p3) ?_
  refine g_iloadN X0 hx (hb hby d30_0) 1 rfl (v := p1) rfl ?_
  refine g_iloadN X0 hx (hb hby d30_1) 2 rfl (v := p2) rfl ?_
  refine g_iloadN X0 hx (hb hby d30_2) 3 rfl (v := p3) rfl ?_
  obtain ⟨T114, X114, e114, st114⟩ := getS2 X0 hx hZ hown (host := "") (Or.inl (hw _ (List.mem_of_getElem? (i := 130) rfl))) Via.refl e0 S_SIOOBE_FORMATTER (g := (mkF m 3 #[.val (.int p1), .val (.int p2), .val (.int p3)] [(.int p3), (.int p2), (.int p1)])) rfl (hb hby d30_3)
  refine Go.st st114 ?_
  show Go p e below _ (T114.setTop (mkF m 6 #[.val (.int p1), .val (.int p2), .val (.int p3)] [sf, (.int p3), (.int p2), (.int p1)]))
  obtain ⟨_, _, ⟨T115, L115, k115, n115⟩, -, X115, ⟨Lc115, hQ115, l115, y115, z115⟩, st115⟩ := Jvm.LawKit.callS X114 hx (y := (⟨"jdk/internal/util/Preconditions", "checkFromToIndex", "(IIILjava/util/function/BiFunction;)I"⟩ : MethodName)) hown (mvT hZ (hw _ (List.mem_of_getElem? (i := 132) rfl))) (mvT hZ (hw _ (List.mem_of_getElem? (i := 133) rfl))) (mvT hZ (hw _ (List.mem_of_getElem? (i := 131) rfl))) (mvT hZ (hw _ (List.mem_of_getElem? (i := 134) rfl))) (by decide) (backOf (W := 0) (rmcft l Z a0 hw [] p1 p2 p3 sf h0 n0 Z0 hsf h1 h2 h3) hZ (hw _ (List.mem_of_getElem? (i := 134) rfl)) (hw _ (List.mem_of_getElem? (i := 131) rfl)) (by decide) (by decide)) (g := (mkF m 6 #[.val (.int p1), .val (.int p2), .val (.int p3)] [sf, (.int p3), (.int p2), (.int p1)])) rfl (by rw [hml]; rfl) (argsL := [(.int p1), (.int p2), (.int p3), sf]) (rest := []) (lenOf own_pd11 rfl) rfl (by show 2 * 0 + _ ≤ _; exact Nat.le_of_eq rfl) (hb hby d30_6) (fun _ _ => ⟨rfl, e114, (by decide : 0 + 0 ≤ _), (by decide : 0 + 0 ≤ _)⟩)
  dsimp only [Pt.U, Pt.locs, Pt.cells, Pt.slots] at X115 l115 y115 z115 st115 hQ115
  subst l115 y115 z115
  obtain ⟨rfl, Nq115, e115⟩ := hQ115
  refine Go.st st115 ?_
  have N115 := Fr.app N0 Nq115
  show Go p e below _ (T115.setTop (mkF m 9 #[.val (.int p1), .val (.int p2), .val (.int p3)] [(.int p1)]))
  refine g_pop X115 hx (hb hby d30_9) 10 rfl rfl ?_
  refine Go.retV X115 hx hlk Bd.returns (hb hby d30_10) (by decide) (by decide) ?_
  show Qcbe Z p1 p2 p3 sf h0 n0 _ T115.heap _
  rw [e115]
  exact ⟨rfl, N115, rfl⟩
theorem ef_cbb (m : MethodId) (x0 : Int32) (x1 : Int32) (x2 : Addr) : entryFrame m #[(.int x0), (.int x1), (.ref x2)] 3 = mkF m 0 #[.val (.int x0), .val (.int x1), .val (.ref x2)] [] := by first | (simp [entryFrame, mkF, argsToLocals, Value.category]; done) | rfl
theorem d28_0 : decode jdk_52_method_93_code 0 = .ok (.iload_n 0, 1) := by decide +kernel
theorem d28_1 : decode jdk_52_method_93_code 1 = .ok (.iload_n 1, 1) := by decide +kernel
theorem d28_2 : decode jdk_52_method_93_code 2 = .ok (.aload_n 2, 1) := by decide +kernel
theorem own_pd12 : parseMethodDescriptor "([B)I" = some ⟨[(.array .byte)], some .int⟩ := by decide +kernel
theorem d28_3 : decode jdk_52_method_93_code 3 = .ok (.invokestatic 48, 3) := by decide +kernel
theorem own_pd13 : parseMethodDescriptor "(III)V" = some ⟨[.int, .int, .int], none⟩ := by decide +kernel
theorem d28_6 : decode jdk_52_method_93_code 6 = .ok (.invokestatic 241, 3) := by decide +kernel
theorem d28_9 : decode jdk_52_method_93_code 9 = .ok (.return_, 1) := by decide +kernel
def Qcbb (Z : State) (a3 : Addr) (sf : Value) (kb : ClassId) (us : List Int32) (h0 : Heap) (n0 : Nat) (v : Option Value) (h : Heap) (L : List Loc) : Prop := v = none ∧ Fr n0 L ∧ h = h0
set_option maxRecDepth 65536 in
set_option maxHeartbeats 40000000 in
theorem rmcbb (l : Launch) (Z : State) (a0 : Array Value) (hw : ∀ d ∈ tables_1, d.before a0 Z = true) (ws : List Jvm.Cond) (a3 : Addr) (sf : Value) (kb : ClassId) (us : List Int32) (h0 : Heap) (n0 : Nat) (Z0 : n0 ≤ h0.size) (S_SIOOBE_FORMATTER : Sta Z h0 "jdk/internal/util/Preconditions" "SIOOBE_FORMATTER" "Ljava/util/function/BiFunction;" sf) (A_a3 : Arv Z h0 a3 kb .byte (Int32.ofNat (2 * us.length)) (own_ub us) (.int (0 : Int32))) (hsf : sf.isRef = true) (hle : us.length ≤ 4) :
    MetFree l (⟨"java/lang/StringUTF16", "checkBoundsBeginEnd", "(II[B)V"⟩ : MethodName) (head1 (Jvm.Cond.code (⟨"java/lang/StringUTF16", "checkBoundsBeginEnd", "(II[B)V"⟩ : MethodName) jdk_52_method_93_code 3 none :: ws) ({ frames := 2, cells := 0, slots := 0, locals := 29 } : Room)) (fun a U => a = #[(.int (0 : Int32)), (.int (Int32.ofNat us.length)), (.ref a3)] ∧ Z.Warmed39 U.vm ∧ U.heap = h0) (fun _ _ _ _ _ => True) (fun _ U o U' => ∃ v L, o = .returned v ∧ Qcbb Z a3 sf kb us h0 n0 v U'.heap L ∧ FrameEnd U o U' L ({ frames := 2, cells := 0, slots := 0, locals := 29 } : Room).cells ({ frames := 2, cells := 0, slots := 0, locals := 29 } : Room).slots) := by
  refine MetFree.of_bodySF (plainFor_of_name own_pn_java_lang_StringUTF16) hisR ?_
  intro p e s m args below meth c s₁ Bd hml0 hP hK
  obtain ⟨rfl, hZ, hh⟩ := hP
  have hx := Bd.exec
  have hby := Bd.bytes
  have hlk := Bd.notSynchronized
  have hml : c.maxLocals = 3 := hml0
  have hown : s.vm.findClass "java/lang/StringUTF16" = some m.cls := findClass_of_methodNamed Bd.named
  have hnm := (name_of_methodNamed Bd.named Bd.method).1
  have X0 : Stand p l e ({ frames := 2, cells := 0, slots := 0, locals := 29 } : Room) s m #[(.int (0 : Int32)), (.int (Int32.ofNat us.length)), (.ref a3)] below meth c s₁ [] 0 0 := Stand.of_body Bd
  have e0 : s₁.heap = h0 := by rw [← hh, Bd.state]; rfl
  have N0 := Fr.nil n0
  show Go p e below (KQ s below (Qcbb Z a3 sf kb us h0 n0) ({ frames := 2, cells := 0, slots := 0, locals := 29 } : Room).cells ({ frames := 2, cells := 0, slots := 0, locals := 29 } : Room).slots) _
  refine Go.body (T := s₁) (σ := s₁) (g' := (mkF m 0 #[.val (.int (0 : Int32)), .val (.int (Int32.ofNat us.length)), .val (.ref a3)] [])) (ef_cbb m (0 : Int32) (Int32.ofNat us.length) a3) ?_
  refine g_iloadN X0 hx (hb hby d28_0) 1 rfl (v := (0 : Int32)) rfl ?_
  refine g_iloadN X0 hx (hb hby d28_1) 2 rfl (v := (Int32.ofNat us.length)) rfl ?_
  refine g_aloadN X0 hx (hb hby d28_2) 3 rfl (v := (.ref a3)) rfl rfl ?_
  obtain ⟨_, _, ⟨T116, L116, k116, n116⟩, -, X116, ⟨Lc116, hQ116, l116, y116, z116⟩, st116⟩ := Jvm.LawKit.callS X0 hx (y := (⟨"java/lang/StringUTF16", "length", "([B)I"⟩ : MethodName)) hown (mvT hZ (hw _ (List.mem_of_getElem? (i := 124) rfl))) (mvT hZ (hw _ (List.mem_of_getElem? (i := 125) rfl))) (mvT hZ (hw _ (List.mem_of_getElem? (i := 39) rfl))) (mvT hZ (hw _ (List.mem_of_getElem? (i := 126) rfl))) (by decide) (backOf (W := 2) (rmulen l Z a0 hw [] a3 kb us h0 n0 Z0 A_a3 hle) hZ (hw _ (List.mem_of_getElem? (i := 126) rfl)) (hw _ (List.mem_of_getElem? (i := 39) rfl)) (by decide) (by decide)) (g := (mkF m 3 #[.val (.int (0 : Int32)), .val (.int (Int32.ofNat us.length)), .val (.ref a3)] [(.ref a3), (.int (Int32.ofNat us.length)), (.int (0 : Int32))])) rfl (by rw [hml]; rfl) (argsL := [(.ref a3)]) (rest := [(.int (Int32.ofNat us.length)), (.int (0 : Int32))]) (lenOf own_pd12 rfl) rfl (by show 2 * 0 + _ ≤ _; exact Nat.le_of_eq rfl) (hb hby d28_3) (fun _ _ => ⟨rfl, e0, (by decide : 0 + 0 ≤ _), (by decide : 0 + 0 ≤ _)⟩)
  dsimp only [Pt.U, Pt.locs, Pt.cells, Pt.slots] at X116 l116 y116 z116 st116 hQ116
  subst l116 y116 z116
  obtain ⟨rfl, Nq116, e116⟩ := hQ116
  refine Go.st st116 ?_
  have N116 := Fr.app N0 Nq116
  show Go p e below _ (T116.setTop (mkF m 6 #[.val (.int (0 : Int32)), .val (.int (Int32.ofNat us.length)), .val (.ref a3)] [(.int (Int32.ofNat us.length)), (.int (Int32.ofNat us.length)), (.int (0 : Int32))]))
  obtain ⟨_, _, ⟨T117, L117, k117, n117⟩, -, X117, ⟨Lc117, hQ117, l117, y117, z117⟩, st117⟩ := Jvm.LawKit.callS X116 hx (y := (⟨"java/lang/String", "checkBoundsBeginEnd", "(III)V"⟩ : MethodName)) hown (mvT hZ (hw _ (List.mem_of_getElem? (i := 127) rfl))) (mvT hZ (hw _ (List.mem_of_getElem? (i := 128) rfl))) (mvT hZ (hw _ (List.mem_of_getElem? (i := 7) rfl))) (mvT hZ (hw _ (List.mem_of_getElem? (i := 129) rfl))) (by decide) (backOf (W := 0) (rmcbe l Z a0 hw [] (0 : Int32) (Int32.ofNat us.length) (Int32.ofNat us.length) sf h0 n0 Z0 S_SIOOBE_FORMATTER hsf (by decide) (own_nn (by omega)) Int32.lt_irrefl) hZ (hw _ (List.mem_of_getElem? (i := 129) rfl)) (hw _ (List.mem_of_getElem? (i := 7) rfl)) (by decide) (by decide)) (g := (mkF m 6 #[.val (.int (0 : Int32)), .val (.int (Int32.ofNat us.length)), .val (.ref a3)] [(.int (Int32.ofNat us.length)), (.int (Int32.ofNat us.length)), (.int (0 : Int32))])) rfl (by rw [hml]; rfl) (argsL := [(.int (0 : Int32)), (.int (Int32.ofNat us.length)), (.int (Int32.ofNat us.length))]) (rest := []) (lenOf own_pd13 rfl) rfl (by show 2 * 0 + _ ≤ _; exact Nat.le_of_eq rfl) (hb hby d28_6) (fun _ _ => ⟨rfl, e116, (by decide : 0 + 0 ≤ _), (by decide : 0 + 0 ≤ _)⟩)
  dsimp only [Pt.U, Pt.locs, Pt.cells, Pt.slots] at X117 l117 y117 z117 st117 hQ117
  subst l117 y117 z117
  obtain ⟨rfl, Nq117, e117⟩ := hQ117
  refine Go.st st117 ?_
  have N117 := Fr.app N116 Nq117
  show Go p e below _ (T117.setTop (mkF m 9 #[.val (.int (0 : Int32)), .val (.int (Int32.ofNat us.length)), .val (.ref a3)] []))
  refine Go.retV X117 hx hlk Bd.returns (hb hby d28_9) (by decide) (by decide) ?_
  show Qcbb Z a3 sf kb us h0 n0 _ T117.heap _
  rw [e117]
  exact ⟨rfl, N117, rfl⟩
theorem ef_cdrL (m : MethodId) (x0 : Addr) : entryFrame m #[(.ref x0)] 1 = mkF m 0 #[.val (.ref x0)] [] := by first | (simp [entryFrame, mkF, argsToLocals, Value.category]; done) | rfl
theorem d15_0 : decode jdk_42_method_152_code 0 = .ok (.getstatic 38, 3) := by decide +kernel
theorem d15_3 : decode jdk_42_method_152_code 3 = .ok (.ifCond .eq 10, 3) := by decide +kernel
theorem d15_6 : decode jdk_42_method_152_code 6 = .ok (.aload_n 0, 1) := by decide +kernel
theorem d15_7 : decode jdk_42_method_152_code 7 = .ok (.getfield 15, 3) := by decide +kernel
theorem d15_10 : decode jdk_42_method_152_code 10 = .ok (.goto 4, 3) := by decide +kernel
theorem d15_14 : decode jdk_42_method_152_code 14 = .ok (.ireturn, 1) := by decide +kernel
def QcdrL (Z : State) (a1 : Addr) (cs : Int32) (h0 : Heap) (n0 : Nat) (v : Option Value) (h : Heap) (L : List Loc) : Prop := v = some (.int (0 : Int32)) ∧ Fr n0 L ∧ h = h0
set_option maxRecDepth 65536 in
set_option maxHeartbeats 40000000 in
theorem rmcdrL (l : Launch) (Z : State) (a0 : Array Value) (hw : ∀ d ∈ tables_1, d.before a0 Z = true) (ws : List Jvm.Cond) (a1 : Addr) (cs : Int32) (h0 : Heap) (n0 : Nat) (Z0 : n0 ≤ h0.size) (S_COMPACT_STRINGS : Sta Z h0 "java/lang/String" "COMPACT_STRINGS" "Z" (.int cs)) (F_coder_a1 : Fld Z h0 a1 "java/lang/String" "coder" "B" (.int (0 : Int32))) (hcs : ¬ cs = 0) :
    MetFree l (⟨"java/lang/String", "coder", "()B"⟩ : MethodName) (head1 (Jvm.Cond.code (⟨"java/lang/String", "coder", "()B"⟩ : MethodName) jdk_42_method_152_code 1 (some .byte) :: ws) ({ frames := 0, cells := 0, slots := 0, locals := 0 } : Room)) (fun a U => a = #[(.ref a1)] ∧ Z.Warmed39 U.vm ∧ U.heap = h0) (fun _ _ _ _ _ => True) (fun _ U o U' => ∃ v L, o = .returned v ∧ QcdrL Z a1 cs h0 n0 v U'.heap L ∧ FrameEnd U o U' L ({ frames := 0, cells := 0, slots := 0, locals := 0 } : Room).cells ({ frames := 0, cells := 0, slots := 0, locals := 0 } : Room).slots) := by
  refine MetFree.of_bodySF (plainFor_of_name own_pn_java_lang_String) hisR ?_
  intro p e s m args below meth c s₁ Bd hml0 hP hK
  obtain ⟨rfl, hZ, hh⟩ := hP
  have hx := Bd.exec
  have hby := Bd.bytes
  have hlk := Bd.notSynchronized
  have hml : c.maxLocals = 1 := hml0
  have hown : s.vm.findClass "java/lang/String" = some m.cls := findClass_of_methodNamed Bd.named
  have hnm := (name_of_methodNamed Bd.named Bd.method).1
  have X0 : Stand p l e ({ frames := 0, cells := 0, slots := 0, locals := 0 } : Room) s m #[(.ref a1)] below meth c s₁ [] 0 0 := Stand.of_body Bd
  have e0 : s₁.heap = h0 := by rw [← hh, Bd.state]; rfl
  have N0 := Fr.nil n0
  show Go p e below (KQ s below (QcdrL Z a1 cs h0 n0) ({ frames := 0, cells := 0, slots := 0, locals := 0 } : Room).cells ({ frames := 0, cells := 0, slots := 0, locals := 0 } : Room).slots) _
  refine Go.body (T := s₁) (σ := s₁) (g' := (mkF m 0 #[.val (.ref a1)] [])) (ef_cdrL m a1) ?_
  obtain ⟨T118, X118, e118, st118⟩ := getS2 X0 hx hZ hown (host := "") (Or.inl (hw _ (List.mem_of_getElem? (i := 36) rfl))) Via.refl e0 S_COMPACT_STRINGS (g := (mkF m 0 #[.val (.ref a1)] [])) rfl (hb hby d15_0)
  refine Go.st st118 ?_
  show Go p e below _ (T118.setTop (mkF m 3 #[.val (.ref a1)] [(.int cs)]))
  refine g_if_eq X118 hx (hb hby d15_3) 13 6 (by decide) (by decide) rfl (fun hc3 => False.elim (hcs hc3)) (fun hc3 => ?_)
  refine g_aloadN X118 hx (hb hby d15_6) 7 rfl (v := (.ref a1)) rfl rfl ?_
  obtain ⟨T119, X119, e119, st119⟩ := getF X118 hx hZ hown (host := "") (Or.inl (hw _ (List.mem_of_getElem? (i := 26) rfl))) Via.refl e118 F_coder_a1 (g := (mkF m 7 #[.val (.ref a1)] [(.ref a1)])) rfl rfl (hb hby d15_7)
  refine Go.st st119 ?_
  show Go p e below _ (T119.setTop (mkF m 10 #[.val (.ref a1)] [(.int (0 : Int32))]))
  refine g_goto X119 hx (hb hby d15_10) 14 (by decide) (by decide) ?_
  refine Go.retN X119 hx hlk (t := .byte) Bd.returns (by simp) (hb hby d15_14) (by decide) (by decide) ?_
  show QcdrL Z a1 cs h0 n0 _ T119.heap _
  rw [e119]
  exact ⟨rfl, N0, rfl⟩
theorem ef_islL (m : MethodId) (x0 : Addr) : entryFrame m #[(.ref x0)] 1 = mkF m 0 #[.val (.ref x0)] [] := by first | (simp [entryFrame, mkF, argsToLocals, Value.category]; done) | rfl
theorem d13_0 : decode jdk_42_method_154_code 0 = .ok (.getstatic 38, 3) := by decide +kernel
theorem d13_3 : decode jdk_42_method_154_code 3 = .ok (.ifCond .eq 14, 3) := by decide +kernel
theorem d13_6 : decode jdk_42_method_154_code 6 = .ok (.aload_n 0, 1) := by decide +kernel
theorem d13_7 : decode jdk_42_method_154_code 7 = .ok (.getfield 15, 3) := by decide +kernel
theorem d13_10 : decode jdk_42_method_154_code 10 = .ok (.ifCond .ne 7, 3) := by decide +kernel
theorem d13_13 : decode jdk_42_method_154_code 13 = .ok (.iconst 1, 1) := by decide +kernel
theorem d13_14 : decode jdk_42_method_154_code 14 = .ok (.goto 4, 3) := by decide +kernel
theorem d13_18 : decode jdk_42_method_154_code 18 = .ok (.ireturn, 1) := by decide +kernel
def QislL (Z : State) (a1 : Addr) (cs : Int32) (h0 : Heap) (n0 : Nat) (v : Option Value) (h : Heap) (L : List Loc) : Prop := v = some (.int (1 : Int32)) ∧ Fr n0 L ∧ h = h0
set_option maxRecDepth 65536 in
set_option maxHeartbeats 40000000 in
theorem rmislL (l : Launch) (Z : State) (a0 : Array Value) (hw : ∀ d ∈ tables_1, d.before a0 Z = true) (ws : List Jvm.Cond) (a1 : Addr) (cs : Int32) (h0 : Heap) (n0 : Nat) (Z0 : n0 ≤ h0.size) (S_COMPACT_STRINGS : Sta Z h0 "java/lang/String" "COMPACT_STRINGS" "Z" (.int cs)) (F_coder_a1 : Fld Z h0 a1 "java/lang/String" "coder" "B" (.int (0 : Int32))) (hcs : ¬ cs = 0) :
    MetFree l (⟨"java/lang/String", "isLatin1", "()Z"⟩ : MethodName) (head1 (Jvm.Cond.code (⟨"java/lang/String", "isLatin1", "()Z"⟩ : MethodName) jdk_42_method_154_code 1 (some .boolean) :: ws) ({ frames := 0, cells := 0, slots := 0, locals := 0 } : Room)) (fun a U => a = #[(.ref a1)] ∧ Z.Warmed39 U.vm ∧ U.heap = h0) (fun _ _ _ _ _ => True) (fun _ U o U' => ∃ v L, o = .returned v ∧ QislL Z a1 cs h0 n0 v U'.heap L ∧ FrameEnd U o U' L ({ frames := 0, cells := 0, slots := 0, locals := 0 } : Room).cells ({ frames := 0, cells := 0, slots := 0, locals := 0 } : Room).slots) := by
  refine MetFree.of_bodySF (plainFor_of_name own_pn_java_lang_String) hisR ?_
  intro p e s m args below meth c s₁ Bd hml0 hP hK
  obtain ⟨rfl, hZ, hh⟩ := hP
  have hx := Bd.exec
  have hby := Bd.bytes
  have hlk := Bd.notSynchronized
  have hml : c.maxLocals = 1 := hml0
  have hown : s.vm.findClass "java/lang/String" = some m.cls := findClass_of_methodNamed Bd.named
  have hnm := (name_of_methodNamed Bd.named Bd.method).1
  have X0 : Stand p l e ({ frames := 0, cells := 0, slots := 0, locals := 0 } : Room) s m #[(.ref a1)] below meth c s₁ [] 0 0 := Stand.of_body Bd
  have e0 : s₁.heap = h0 := by rw [← hh, Bd.state]; rfl
  have N0 := Fr.nil n0
  show Go p e below (KQ s below (QislL Z a1 cs h0 n0) ({ frames := 0, cells := 0, slots := 0, locals := 0 } : Room).cells ({ frames := 0, cells := 0, slots := 0, locals := 0 } : Room).slots) _
  refine Go.body (T := s₁) (σ := s₁) (g' := (mkF m 0 #[.val (.ref a1)] [])) (ef_islL m a1) ?_
  obtain ⟨T120, X120, e120, st120⟩ := getS2 X0 hx hZ hown (host := "") (Or.inl (hw _ (List.mem_of_getElem? (i := 36) rfl))) Via.refl e0 S_COMPACT_STRINGS (g := (mkF m 0 #[.val (.ref a1)] [])) rfl (hb hby d13_0)
  refine Go.st st120 ?_
  show Go p e below _ (T120.setTop (mkF m 3 #[.val (.ref a1)] [(.int cs)]))
  refine g_if_eq X120 hx (hb hby d13_3) 17 6 (by decide) (by decide) rfl (fun hc3 => False.elim (hcs hc3)) (fun hc3 => ?_)
  refine g_aloadN X120 hx (hb hby d13_6) 7 rfl (v := (.ref a1)) rfl rfl ?_
  obtain ⟨T121, X121, e121, st121⟩ := getF X120 hx hZ hown (host := "") (Or.inl (hw _ (List.mem_of_getElem? (i := 26) rfl))) Via.refl e120 F_coder_a1 (g := (mkF m 7 #[.val (.ref a1)] [(.ref a1)])) rfl rfl (hb hby d13_7)
  refine Go.st st121 ?_
  show Go p e below _ (T121.setTop (mkF m 10 #[.val (.ref a1)] [(.int (0 : Int32))]))
  refine g_if_ne X121 hx (hb hby d13_10) 17 13 (by decide) (by decide) rfl (fun hc10 => False.elim (absurd rfl hc10)) (fun hc10 => ?_)
  refine g_iconst X121 hx (hb hby d13_13) 14 rfl (1 : Int32) rfl ?_
  refine g_goto X121 hx (hb hby d13_14) 18 (by decide) (by decide) ?_
  refine Go.retN X121 hx hlk (t := .boolean) Bd.returns (by simp) (hb hby d13_18) (by decide) (by decide) ?_
  show QislL Z a1 cs h0 n0 _ T121.heap _
  rw [e121]
  exact ⟨rfl, N0, rfl⟩
theorem ef_cdrU (m : MethodId) (x0 : Addr) : entryFrame m #[(.ref x0)] 1 = mkF m 0 #[.val (.ref x0)] [] := by first | (simp [entryFrame, mkF, argsToLocals, Value.category]; done) | rfl
def QcdrU (Z : State) (a1 : Addr) (cs : Int32) (h0 : Heap) (n0 : Nat) (v : Option Value) (h : Heap) (L : List Loc) : Prop := v = some (.int (1 : Int32)) ∧ Fr n0 L ∧ h = h0
set_option maxRecDepth 65536 in
set_option maxHeartbeats 40000000 in
theorem rmcdrU (l : Launch) (Z : State) (a0 : Array Value) (hw : ∀ d ∈ tables_1, d.before a0 Z = true) (ws : List Jvm.Cond) (a1 : Addr) (cs : Int32) (h0 : Heap) (n0 : Nat) (Z0 : n0 ≤ h0.size) (S_COMPACT_STRINGS : Sta Z h0 "java/lang/String" "COMPACT_STRINGS" "Z" (.int cs)) (F_coder_a1 : Fld Z h0 a1 "java/lang/String" "coder" "B" (.int (1 : Int32))) (hcs : ¬ cs = 0) :
    MetFree l (⟨"java/lang/String", "coder", "()B"⟩ : MethodName) (head1 (Jvm.Cond.code (⟨"java/lang/String", "coder", "()B"⟩ : MethodName) jdk_42_method_152_code 1 (some .byte) :: ws) ({ frames := 0, cells := 0, slots := 0, locals := 0 } : Room)) (fun a U => a = #[(.ref a1)] ∧ Z.Warmed39 U.vm ∧ U.heap = h0) (fun _ _ _ _ _ => True) (fun _ U o U' => ∃ v L, o = .returned v ∧ QcdrU Z a1 cs h0 n0 v U'.heap L ∧ FrameEnd U o U' L ({ frames := 0, cells := 0, slots := 0, locals := 0 } : Room).cells ({ frames := 0, cells := 0, slots := 0, locals := 0 } : Room).slots) := by
  refine MetFree.of_bodySF (plainFor_of_name own_pn_java_lang_String) hisR ?_
  intro p e s m args below meth c s₁ Bd hml0 hP hK
  obtain ⟨rfl, hZ, hh⟩ := hP
  have hx := Bd.exec
  have hby := Bd.bytes
  have hlk := Bd.notSynchronized
  have hml : c.maxLocals = 1 := hml0
  have hown : s.vm.findClass "java/lang/String" = some m.cls := findClass_of_methodNamed Bd.named
  have hnm := (name_of_methodNamed Bd.named Bd.method).1
  have X0 : Stand p l e ({ frames := 0, cells := 0, slots := 0, locals := 0 } : Room) s m #[(.ref a1)] below meth c s₁ [] 0 0 := Stand.of_body Bd
  have e0 : s₁.heap = h0 := by rw [← hh, Bd.state]; rfl
  have N0 := Fr.nil n0
  show Go p e below (KQ s below (QcdrU Z a1 cs h0 n0) ({ frames := 0, cells := 0, slots := 0, locals := 0 } : Room).cells ({ frames := 0, cells := 0, slots := 0, locals := 0 } : Room).slots) _
  refine Go.body (T := s₁) (σ := s₁) (g' := (mkF m 0 #[.val (.ref a1)] [])) (ef_cdrU m a1) ?_
  obtain ⟨T122, X122, e122, st122⟩ := getS2 X0 hx hZ hown (host := "") (Or.inl (hw _ (List.mem_of_getElem? (i := 36) rfl))) Via.refl e0 S_COMPACT_STRINGS (g := (mkF m 0 #[.val (.ref a1)] [])) rfl (hb hby d15_0)
  refine Go.st st122 ?_
  show Go p e below _ (T122.setTop (mkF m 3 #[.val (.ref a1)] [(.int cs)]))
  refine g_if_eq X122 hx (hb hby d15_3) 13 6 (by decide) (by decide) rfl (fun hc3 => False.elim (hcs hc3)) (fun hc3 => ?_)
  refine g_aloadN X122 hx (hb hby d15_6) 7 rfl (v := (.ref a1)) rfl rfl ?_
  obtain ⟨T123, X123, e123, st123⟩ := getF X122 hx hZ hown (host := "") (Or.inl (hw _ (List.mem_of_getElem? (i := 26) rfl))) Via.refl e122 F_coder_a1 (g := (mkF m 7 #[.val (.ref a1)] [(.ref a1)])) rfl rfl (hb hby d15_7)
  refine Go.st st123 ?_
  show Go p e below _ (T123.setTop (mkF m 10 #[.val (.ref a1)] [(.int (1 : Int32))]))
  refine g_goto X123 hx (hb hby d15_10) 14 (by decide) (by decide) ?_
  refine Go.retN X123 hx hlk (t := .byte) Bd.returns (by simp) (hb hby d15_14) (by decide) (by decide) ?_
  show QcdrU Z a1 cs h0 n0 _ T123.heap _
  rw [e123]
  exact ⟨rfl, N0, rfl⟩
theorem ef_islU (m : MethodId) (x0 : Addr) : entryFrame m #[(.ref x0)] 1 = mkF m 0 #[.val (.ref x0)] [] := by first | (simp [entryFrame, mkF, argsToLocals, Value.category]; done) | rfl
theorem d13_17 : decode jdk_42_method_154_code 17 = .ok (.iconst 0, 1) := by decide +kernel
def QislU (Z : State) (a1 : Addr) (cs : Int32) (h0 : Heap) (n0 : Nat) (v : Option Value) (h : Heap) (L : List Loc) : Prop := v = some (.int (0 : Int32)) ∧ Fr n0 L ∧ h = h0
set_option maxRecDepth 65536 in
set_option maxHeartbeats 40000000 in
theorem rmislU (l : Launch) (Z : State) (a0 : Array Value) (hw : ∀ d ∈ tables_1, d.before a0 Z = true) (ws : List Jvm.Cond) (a1 : Addr) (cs : Int32) (h0 : Heap) (n0 : Nat) (Z0 : n0 ≤ h0.size) (S_COMPACT_STRINGS : Sta Z h0 "java/lang/String" "COMPACT_STRINGS" "Z" (.int cs)) (F_coder_a1 : Fld Z h0 a1 "java/lang/String" "coder" "B" (.int (1 : Int32))) (hcs : ¬ cs = 0) :
    MetFree l (⟨"java/lang/String", "isLatin1", "()Z"⟩ : MethodName) (head1 (Jvm.Cond.code (⟨"java/lang/String", "isLatin1", "()Z"⟩ : MethodName) jdk_42_method_154_code 1 (some .boolean) :: ws) ({ frames := 0, cells := 0, slots := 0, locals := 0 } : Room)) (fun a U => a = #[(.ref a1)] ∧ Z.Warmed39 U.vm ∧ U.heap = h0) (fun _ _ _ _ _ => True) (fun _ U o U' => ∃ v L, o = .returned v ∧ QislU Z a1 cs h0 n0 v U'.heap L ∧ FrameEnd U o U' L ({ frames := 0, cells := 0, slots := 0, locals := 0 } : Room).cells ({ frames := 0, cells := 0, slots := 0, locals := 0 } : Room).slots) := by
  refine MetFree.of_bodySF (plainFor_of_name own_pn_java_lang_String) hisR ?_
  intro p e s m args below meth c s₁ Bd hml0 hP hK
  obtain ⟨rfl, hZ, hh⟩ := hP
  have hx := Bd.exec
  have hby := Bd.bytes
  have hlk := Bd.notSynchronized
  have hml : c.maxLocals = 1 := hml0
  have hown : s.vm.findClass "java/lang/String" = some m.cls := findClass_of_methodNamed Bd.named
  have hnm := (name_of_methodNamed Bd.named Bd.method).1
  have X0 : Stand p l e ({ frames := 0, cells := 0, slots := 0, locals := 0 } : Room) s m #[(.ref a1)] below meth c s₁ [] 0 0 := Stand.of_body Bd
  have e0 : s₁.heap = h0 := by rw [← hh, Bd.state]; rfl
  have N0 := Fr.nil n0
  show Go p e below (KQ s below (QislU Z a1 cs h0 n0) ({ frames := 0, cells := 0, slots := 0, locals := 0 } : Room).cells ({ frames := 0, cells := 0, slots := 0, locals := 0 } : Room).slots) _
  refine Go.body (T := s₁) (σ := s₁) (g' := (mkF m 0 #[.val (.ref a1)] [])) (ef_islU m a1) ?_
  obtain ⟨T124, X124, e124, st124⟩ := getS2 X0 hx hZ hown (host := "") (Or.inl (hw _ (List.mem_of_getElem? (i := 36) rfl))) Via.refl e0 S_COMPACT_STRINGS (g := (mkF m 0 #[.val (.ref a1)] [])) rfl (hb hby d13_0)
  refine Go.st st124 ?_
  show Go p e below _ (T124.setTop (mkF m 3 #[.val (.ref a1)] [(.int cs)]))
  refine g_if_eq X124 hx (hb hby d13_3) 17 6 (by decide) (by decide) rfl (fun hc3 => False.elim (hcs hc3)) (fun hc3 => ?_)
  refine g_aloadN X124 hx (hb hby d13_6) 7 rfl (v := (.ref a1)) rfl rfl ?_
  obtain ⟨T125, X125, e125, st125⟩ := getF X124 hx hZ hown (host := "") (Or.inl (hw _ (List.mem_of_getElem? (i := 26) rfl))) Via.refl e124 F_coder_a1 (g := (mkF m 7 #[.val (.ref a1)] [(.ref a1)])) rfl rfl (hb hby d13_7)
  refine Go.st st125 ?_
  show Go p e below _ (T125.setTop (mkF m 10 #[.val (.ref a1)] [(.int (1 : Int32))]))
  refine g_if_ne X125 hx (hb hby d13_10) 17 13 (by decide) (by decide) rfl (fun hc10 => ?_) (fun hc10 => False.elim (absurd hc10 (by decide)))
  refine g_iconst X125 hx (hb hby d13_17) 18 rfl (0 : Int32) rfl ?_
  refine Go.retN X125 hx hlk (t := .boolean) Bd.returns (by simp) (hb hby d13_18) (by decide) (by decide) ?_
  show QislU Z a1 cs h0 n0 _ T125.heap _
  rw [e125]
  exact ⟨rfl, N0, rfl⟩
theorem ef_ise (m : MethodId) (x0 : Addr) : entryFrame m #[(.ref x0)] 1 = mkF m 0 #[.val (.ref x0)] [] := by first | (simp [entryFrame, mkF, argsToLocals, Value.category]; done) | rfl
theorem d6_0 : decode jdk_42_method_55_code 0 = .ok (.aload_n 0, 1) := by decide +kernel
theorem d6_1 : decode jdk_42_method_55_code 1 = .ok (.getfield 9, 3) := by decide +kernel
theorem d6_4 : decode jdk_42_method_55_code 4 = .ok (.arraylength, 1) := by decide +kernel
theorem d6_5 : decode jdk_42_method_55_code 5 = .ok (.ifCond .ne 7, 3) := by decide +kernel
theorem d6_12 : decode jdk_42_method_55_code 12 = .ok (.iconst 0, 1) := by decide +kernel
theorem d6_13 : decode jdk_42_method_55_code 13 = .ok (.ireturn, 1) := by decide +kernel
def Qise (Z : State) (a1 : Addr) (vb : Addr) (kb : ClassId) (z : Int32) (vs : List Value) (h0 : Heap) (n0 : Nat) (v : Option Value) (h : Heap) (L : List Loc) : Prop := v = some (.int (0 : Int32)) ∧ Fr n0 L ∧ h = h0
set_option maxRecDepth 65536 in
set_option maxHeartbeats 40000000 in
theorem rmise (l : Launch) (Z : State) (a0 : Array Value) (hw : ∀ d ∈ tables_1, d.before a0 Z = true) (ws : List Jvm.Cond) (a1 : Addr) (vb : Addr) (kb : ClassId) (z : Int32) (vs : List Value) (h0 : Heap) (n0 : Nat) (Z0 : n0 ≤ h0.size) (F_value_a1 : Fld Z h0 a1 "java/lang/String" "value" "[B" (.ref vb)) (A_vb : Arv Z h0 vb kb .byte z vs (.int (0 : Int32))) (hz : ¬ z = 0) :
    MetFree l (⟨"java/lang/String", "isEmpty", "()Z"⟩ : MethodName) (head1 (Jvm.Cond.code (⟨"java/lang/String", "isEmpty", "()Z"⟩ : MethodName) jdk_42_method_55_code 1 (some .boolean) :: ws) ({ frames := 0, cells := 0, slots := 0, locals := 0 } : Room)) (fun a U => a = #[(.ref a1)] ∧ Z.Warmed39 U.vm ∧ U.heap = h0) (fun _ _ _ _ _ => True) (fun _ U o U' => ∃ v L, o = .returned v ∧ Qise Z a1 vb kb z vs h0 n0 v U'.heap L ∧ FrameEnd U o U' L ({ frames := 0, cells := 0, slots := 0, locals := 0 } : Room).cells ({ frames := 0, cells := 0, slots := 0, locals := 0 } : Room).slots) := by
  refine MetFree.of_bodySF (plainFor_of_name own_pn_java_lang_String) hisR ?_
  intro p e s m args below meth c s₁ Bd hml0 hP hK
  obtain ⟨rfl, hZ, hh⟩ := hP
  have hx := Bd.exec
  have hby := Bd.bytes
  have hlk := Bd.notSynchronized
  have hml : c.maxLocals = 1 := hml0
  have hown : s.vm.findClass "java/lang/String" = some m.cls := findClass_of_methodNamed Bd.named
  have hnm := (name_of_methodNamed Bd.named Bd.method).1
  have X0 : Stand p l e ({ frames := 0, cells := 0, slots := 0, locals := 0 } : Room) s m #[(.ref a1)] below meth c s₁ [] 0 0 := Stand.of_body Bd
  have e0 : s₁.heap = h0 := by rw [← hh, Bd.state]; rfl
  have N0 := Fr.nil n0
  show Go p e below (KQ s below (Qise Z a1 vb kb z vs h0 n0) ({ frames := 0, cells := 0, slots := 0, locals := 0 } : Room).cells ({ frames := 0, cells := 0, slots := 0, locals := 0 } : Room).slots) _
  refine Go.body (T := s₁) (σ := s₁) (g' := (mkF m 0 #[.val (.ref a1)] [])) (ef_ise m a1) ?_
  refine g_aloadN X0 hx (hb hby d6_0) 1 rfl (v := (.ref a1)) rfl rfl ?_
  obtain ⟨T126, X126, e126, st126⟩ := getF X0 hx hZ hown (host := "") (Or.inl (hw _ (List.mem_of_getElem? (i := 25) rfl))) Via.refl e0 F_value_a1 (g := (mkF m 1 #[.val (.ref a1)] [(.ref a1)])) rfl rfl (hb hby d6_1)
  refine Go.st st126 ?_
  show Go p e below _ (T126.setTop (mkF m 4 #[.val (.ref a1)] [(.ref vb)]))
  refine g_alen X126 hx (hb hby d6_4) 5 rfl hZ e126 A_vb ?_
  refine g_if_ne X126 hx (hb hby d6_5) 12 8 (by decide) (by decide) rfl (fun hc5 => ?_) (fun hc5 => False.elim (hz hc5))
  refine g_iconst X126 hx (hb hby d6_12) 13 rfl (0 : Int32) rfl ?_
  refine Go.retN X126 hx hlk (t := .boolean) Bd.returns (by simp) (hb hby d6_13) (by decide) (by decide) ?_
  show Qise Z a1 vb kb z vs h0 n0 _ T126.heap _
  rw [e126]
  exact ⟨rfl, N0, rfl⟩
theorem ef_ise0 (m : MethodId) (x0 : Addr) : entryFrame m #[(.ref x0)] 1 = mkF m 0 #[.val (.ref x0)] [] := by first | (simp [entryFrame, mkF, argsToLocals, Value.category]; done) | rfl
theorem d6_8 : decode jdk_42_method_55_code 8 = .ok (.iconst 1, 1) := by decide +kernel
theorem d6_9 : decode jdk_42_method_55_code 9 = .ok (.goto 4, 3) := by decide +kernel
def Qise0 (Z : State) (a1 : Addr) (vb : Addr) (kb : ClassId) (vs : List Value) (h0 : Heap) (n0 : Nat) (v : Option Value) (h : Heap) (L : List Loc) : Prop := v = some (.int (1 : Int32)) ∧ Fr n0 L ∧ h = h0
set_option maxRecDepth 65536 in
set_option maxHeartbeats 40000000 in
theorem rmise0 (l : Launch) (Z : State) (a0 : Array Value) (hw : ∀ d ∈ tables_1, d.before a0 Z = true) (ws : List Jvm.Cond) (a1 : Addr) (vb : Addr) (kb : ClassId) (vs : List Value) (h0 : Heap) (n0 : Nat) (Z0 : n0 ≤ h0.size) (F_value_a1 : Fld Z h0 a1 "java/lang/String" "value" "[B" (.ref vb)) (A_vb : Arv Z h0 vb kb .byte (0 : Int32) vs (.int (0 : Int32))) :
    MetFree l (⟨"java/lang/String", "isEmpty", "()Z"⟩ : MethodName) (head1 (Jvm.Cond.code (⟨"java/lang/String", "isEmpty", "()Z"⟩ : MethodName) jdk_42_method_55_code 1 (some .boolean) :: ws) ({ frames := 0, cells := 0, slots := 0, locals := 0 } : Room)) (fun a U => a = #[(.ref a1)] ∧ Z.Warmed39 U.vm ∧ U.heap = h0) (fun _ _ _ _ _ => True) (fun _ U o U' => ∃ v L, o = .returned v ∧ Qise0 Z a1 vb kb vs h0 n0 v U'.heap L ∧ FrameEnd U o U' L ({ frames := 0, cells := 0, slots := 0, locals := 0 } : Room).cells ({ frames := 0, cells := 0, slots := 0, locals := 0 } : Room).slots) := by
  refine MetFree.of_bodySF (plainFor_of_name own_pn_java_lang_String) hisR ?_
  intro p e s m args below meth c s₁ Bd hml0 hP hK
  obtain ⟨rfl, hZ, hh⟩ := hP
  have hx := Bd.exec
  have hby := Bd.bytes
  have hlk := Bd.notSynchronized
  have hml : c.maxLocals = 1 := hml0
  have hown : s.vm.findClass "java/lang/String" = some m.cls := findClass_of_methodNamed Bd.named
  have hnm := (name_of_methodNamed Bd.named Bd.method).1
  have X0 : Stand p l e ({ frames := 0, cells := 0, slots := 0, locals := 0 } : Room) s m #[(.ref a1)] below meth c s₁ [] 0 0 := Stand.of_body Bd
  have e0 : s₁.heap = h0 := by rw [← hh, Bd.state]; rfl
  have N0 := Fr.nil n0
  show Go p e below (KQ s below (Qise0 Z a1 vb kb vs h0 n0) ({ frames := 0, cells := 0, slots := 0, locals := 0 } : Room).cells ({ frames := 0, cells := 0, slots := 0, locals := 0 } : Room).slots) _
  refine Go.body (T := s₁) (σ := s₁) (g' := (mkF m 0 #[.val (.ref a1)] [])) (ef_ise0 m a1) ?_
  refine g_aloadN X0 hx (hb hby d6_0) 1 rfl (v := (.ref a1)) rfl rfl ?_
  obtain ⟨T128, X128, e128, st128⟩ := getF X0 hx hZ hown (host := "") (Or.inl (hw _ (List.mem_of_getElem? (i := 25) rfl))) Via.refl e0 F_value_a1 (g := (mkF m 1 #[.val (.ref a1)] [(.ref a1)])) rfl rfl (hb hby d6_1)
  refine Go.st st128 ?_
  show Go p e below _ (T128.setTop (mkF m 4 #[.val (.ref a1)] [(.ref vb)]))
  refine g_alen X128 hx (hb hby d6_4) 5 rfl hZ e128 A_vb ?_
  refine g_if_ne X128 hx (hb hby d6_5) 12 8 (by decide) (by decide) rfl (fun hc5 => False.elim (absurd rfl hc5)) (fun hc5 => ?_)
  refine g_iconst X128 hx (hb hby d6_8) 9 rfl (1 : Int32) rfl ?_
  refine g_goto X128 hx (hb hby d6_9) 13 (by decide) (by decide) ?_
  refine Go.retN X128 hx hlk (t := .boolean) Bd.returns (by simp) (hb hby d6_13) (by decide) (by decide) ?_
  show Qise0 Z a1 vb kb vs h0 n0 _ T128.heap _
  rw [e128]
  exact ⟨rfl, N0, rfl⟩
theorem own_pn_com_example_varigraph_varigraph_generate_Operation : plainName "com/example/varigraph/varigraph/generate/Operation" = true := by first | (simp [plainName, overriddenIn]; done) | decide +kernel
theorem ef_can0 (m : MethodId) (x0 : Addr) : entryFrame m #[(.ref x0)] 1 = mkF m 0 #[.val (.ref x0)] [] := by first | (simp [entryFrame, mkF, argsToLocals, Value.category]; done) | rfl
theorem d5_0 : decode prog_62_method_2_code 0 = .ok (.aload_n 0, 1) := by decide +kernel
theorem own_pd14 : parseMethodDescriptor "()Z" = some ⟨[], some .boolean⟩ := by decide +kernel
theorem d5_1 : decode prog_62_method_2_code 1 = .ok (.invokevirtual 83, 3) := by decide +kernel
theorem d5_4 : decode prog_62_method_2_code 4 = .ok (.ifCond .ne 34, 3) := by decide +kernel
theorem d5_38 : decode prog_62_method_2_code 38 = .ok (.iconst 0, 1) := by decide +kernel
theorem d5_39 : decode prog_62_method_2_code 39 = .ok (.ireturn, 1) := by decide +kernel
def Qcan0 (Z : State) (a1 : Addr) (vb : Addr) (kb : ClassId) (vs : List Value) (h0 : Heap) (n0 : Nat) (v : Option Value) (h : Heap) (L : List Loc) : Prop := v = some (.int (0 : Int32)) ∧ Fr n0 L ∧ h = h0
set_option maxRecDepth 65536 in
set_option maxHeartbeats 40000000 in
theorem rmcan0 (l : Launch) (Z : State) (a0 : Array Value) (hw : ∀ d ∈ tables_1, d.before a0 Z = true) (ws : List Jvm.Cond) (a1 : Addr) (vb : Addr) (kb : ClassId) (vs : List Value) (h0 : Heap) (n0 : Nat) (Z0 : n0 ≤ h0.size) (E_a1 : Exa Z h0 a1 "java/lang/String") (F_value_a1 : Fld Z h0 a1 "java/lang/String" "value" "[B" (.ref vb)) (A_vb : Arv Z h0 vb kb .byte (0 : Int32) vs (.int (0 : Int32))) :
    MetFree l (⟨"com/example/varigraph/varigraph/generate/Operation", "canName", "(Ljava/lang/String;)Z"⟩ : MethodName) (head1 (Jvm.Cond.code (⟨"com/example/varigraph/varigraph/generate/Operation", "canName", "(Ljava/lang/String;)Z"⟩ : MethodName) prog_62_method_2_code 1 (some .boolean) :: ws) ({ frames := 1, cells := 0, slots := 0, locals := 12 } : Room)) (fun a U => a = #[(.ref a1)] ∧ Z.Warmed39 U.vm ∧ U.heap = h0) (fun _ _ _ _ _ => True) (fun _ U o U' => ∃ v L, o = .returned v ∧ Qcan0 Z a1 vb kb vs h0 n0 v U'.heap L ∧ FrameEnd U o U' L ({ frames := 1, cells := 0, slots := 0, locals := 12 } : Room).cells ({ frames := 1, cells := 0, slots := 0, locals := 12 } : Room).slots) := by
  refine MetFree.of_bodySF (plainFor_of_name own_pn_com_example_varigraph_varigraph_generate_Operation) hisR ?_
  intro p e s m args below meth c s₁ Bd hml0 hP hK
  obtain ⟨rfl, hZ, hh⟩ := hP
  have hx := Bd.exec
  have hby := Bd.bytes
  have hlk := Bd.notSynchronized
  have hml : c.maxLocals = 1 := hml0
  have hown : s.vm.findClass "com/example/varigraph/varigraph/generate/Operation" = some m.cls := findClass_of_methodNamed Bd.named
  have hnm := (name_of_methodNamed Bd.named Bd.method).1
  have X0 : Stand p l e ({ frames := 1, cells := 0, slots := 0, locals := 12 } : Room) s m #[(.ref a1)] below meth c s₁ [] 0 0 := Stand.of_body Bd
  have e0 : s₁.heap = h0 := by rw [← hh, Bd.state]; rfl
  have N0 := Fr.nil n0
  show Go p e below (KQ s below (Qcan0 Z a1 vb kb vs h0 n0) ({ frames := 1, cells := 0, slots := 0, locals := 12 } : Room).cells ({ frames := 1, cells := 0, slots := 0, locals := 12 } : Room).slots) _
  refine Go.body (T := s₁) (σ := s₁) (g' := (mkF m 0 #[.val (.ref a1)] [])) (ef_can0 m a1) ?_
  refine g_aloadN X0 hx (hb hby d5_0) 1 rfl (v := (.ref a1)) rfl rfl ?_
  obtain ⟨cq130, kq130, q130a, q130b, q130c⟩ := isOf hZ e0 E_a1
  obtain ⟨_, _, ⟨T130, L130, k130, n130⟩, -, X130, ⟨Lc130, hQ130, l130, y130, z130⟩, st130⟩ := X0.virtualBack hx (y := (⟨"java/lang/String", "isEmpty", "()Z"⟩ : MethodName)) (z := (⟨"java/lang/String", "isEmpty", "()Z"⟩ : MethodName)) hown (mvT hZ (hw _ (List.mem_of_getElem? (i := 31) rfl))) (mvT hZ (hw _ (List.mem_of_getElem? (i := 32) rfl))) (notFace_of_selects (args := #[]) (mvT hZ (hw _ (List.mem_of_getElem? (i := 34) rfl)))) (mvT hZ (hw _ (List.mem_of_getElem? (i := 34) rfl))) (mvT hZ (hw _ (List.mem_of_getElem? (i := 33) rfl))) (by decide) (backOf (W := 0) (rmise0 l Z a0 hw [] a1 vb kb vs h0 n0 Z0 F_value_a1 A_vb) hZ (hw _ (List.mem_of_getElem? (i := 35) rfl)) (hw _ (List.mem_of_getElem? (i := 7) rfl)) (by decide) (by decide)) q130a q130c (g := (mkF m 1 #[.val (.ref a1)] [(.ref a1)])) rfl (by rw [hml]; rfl) (Steps.refl _) (argsL := []) (rest := []) (lenOf own_pd14 rfl) rfl (by show 2 * 0 + _ ≤ _; exact Nat.le_of_eq rfl) (hb hby d5_1) (fun _ _ => ⟨rfl, e0, (by decide : 0 + 0 ≤ _), (by decide : 0 + 0 ≤ _)⟩)
  dsimp only [Pt.U, Pt.locs, Pt.cells, Pt.slots] at X130 l130 y130 z130 st130 hQ130
  subst l130 y130 z130
  obtain ⟨rfl, Nq130, e130⟩ := hQ130
  refine Go.tr st130 ?_
  have N130 := Fr.app N0 Nq130
  show Go p e below _ (T130.setTop (mkF m 4 #[.val (.ref a1)] [(.int (1 : Int32))]))
  refine g_if_ne X130 hx (hb hby d5_4) 38 7 (by decide) (by decide) rfl (fun hc4 => ?_) (fun hc4 => False.elim (absurd hc4 (by decide)))
  refine g_iconst X130 hx (hb hby d5_38) 39 rfl (0 : Int32) rfl ?_
  refine Go.retN X130 hx hlk (t := .boolean) Bd.returns (by simp) (hb hby d5_39) (by decide) (by decide) ?_
  show Qcan0 Z a1 vb kb vs h0 n0 _ T130.heap _
  rw [e130]
  exact ⟨rfl, N130, rfl⟩
theorem ef_lenL (m : MethodId) (x0 : Addr) : entryFrame m #[(.ref x0)] 1 = mkF m 0 #[.val (.ref x0)] [] := by first | (simp [entryFrame, mkF, argsToLocals, Value.category]; done) | rfl
theorem d14_0 : decode jdk_42_method_54_code 0 = .ok (.aload_n 0, 1) := by decide +kernel
theorem d14_1 : decode jdk_42_method_54_code 1 = .ok (.getfield 9, 3) := by decide +kernel
theorem d14_4 : decode jdk_42_method_54_code 4 = .ok (.arraylength, 1) := by decide +kernel
theorem d14_5 : decode jdk_42_method_54_code 5 = .ok (.aload_n 0, 1) := by decide +kernel
theorem own_pd15 : parseMethodDescriptor "()B" = some ⟨[], some .byte⟩ := by decide +kernel
theorem d14_6 : decode jdk_42_method_54_code 6 = .ok (.invokevirtual 335, 3) := by decide +kernel
theorem d14_9 : decode jdk_42_method_54_code 9 = .ok (.ishr, 1) := by decide +kernel
theorem d14_10 : decode jdk_42_method_54_code 10 = .ok (.ireturn, 1) := by decide +kernel
def QlenL (Z : State) (a1 : Addr) (cs : Int32) (vb : Addr) (kb : ClassId) (us : List Int32) (h0 : Heap) (n0 : Nat) (v : Option Value) (h : Heap) (L : List Loc) : Prop := v = some (.int (Int32.ofNat us.length)) ∧ Fr n0 L ∧ h = h0
set_option maxRecDepth 65536 in
set_option maxHeartbeats 40000000 in
theorem rmlenL (l : Launch) (Z : State) (a0 : Array Value) (hw : ∀ d ∈ tables_1, d.before a0 Z = true) (ws : List Jvm.Cond) (a1 : Addr) (cs : Int32) (vb : Addr) (kb : ClassId) (us : List Int32) (h0 : Heap) (n0 : Nat) (Z0 : n0 ≤ h0.size) (S_COMPACT_STRINGS : Sta Z h0 "java/lang/String" "COMPACT_STRINGS" "Z" (.int cs)) (E_a1 : Exa Z h0 a1 "java/lang/String") (F_value_a1 : Fld Z h0 a1 "java/lang/String" "value" "[B" (.ref vb)) (F_coder_a1 : Fld Z h0 a1 "java/lang/String" "coder" "B" (.int (0 : Int32))) (A_vb : Arv Z h0 vb kb .byte (Int32.ofNat us.length) (own_bs us) (.int (0 : Int32))) (hcs : ¬ cs = 0) (hle : us.length ≤ 4) :
    MetFree l (⟨"java/lang/String", "length", "()I"⟩ : MethodName) (head1 (Jvm.Cond.code (⟨"java/lang/String", "length", "()I"⟩ : MethodName) jdk_42_method_54_code 1 (some .int) :: ws) ({ frames := 1, cells := 0, slots := 0, locals := 13 } : Room)) (fun a U => a = #[(.ref a1)] ∧ Z.Warmed39 U.vm ∧ U.heap = h0) (fun _ _ _ _ _ => True) (fun _ U o U' => ∃ v L, o = .returned v ∧ QlenL Z a1 cs vb kb us h0 n0 v U'.heap L ∧ FrameEnd U o U' L ({ frames := 1, cells := 0, slots := 0, locals := 13 } : Room).cells ({ frames := 1, cells := 0, slots := 0, locals := 13 } : Room).slots) := by
  refine MetFree.of_bodySF (plainFor_of_name own_pn_java_lang_String) hisR ?_
  intro p e s m args below meth c s₁ Bd hml0 hP hK
  obtain ⟨rfl, hZ, hh⟩ := hP
  have hx := Bd.exec
  have hby := Bd.bytes
  have hlk := Bd.notSynchronized
  have hml : c.maxLocals = 1 := hml0
  have hown : s.vm.findClass "java/lang/String" = some m.cls := findClass_of_methodNamed Bd.named
  have hnm := (name_of_methodNamed Bd.named Bd.method).1
  have X0 : Stand p l e ({ frames := 1, cells := 0, slots := 0, locals := 13 } : Room) s m #[(.ref a1)] below meth c s₁ [] 0 0 := Stand.of_body Bd
  have e0 : s₁.heap = h0 := by rw [← hh, Bd.state]; rfl
  have N0 := Fr.nil n0
  show Go p e below (KQ s below (QlenL Z a1 cs vb kb us h0 n0) ({ frames := 1, cells := 0, slots := 0, locals := 13 } : Room).cells ({ frames := 1, cells := 0, slots := 0, locals := 13 } : Room).slots) _
  refine Go.body (T := s₁) (σ := s₁) (g' := (mkF m 0 #[.val (.ref a1)] [])) (ef_lenL m a1) ?_
  refine g_aloadN X0 hx (hb hby d14_0) 1 rfl (v := (.ref a1)) rfl rfl ?_
  obtain ⟨T131, X131, e131, st131⟩ := getF X0 hx hZ hown (host := "") (Or.inl (hw _ (List.mem_of_getElem? (i := 25) rfl))) Via.refl e0 F_value_a1 (g := (mkF m 1 #[.val (.ref a1)] [(.ref a1)])) rfl rfl (hb hby d14_1)
  refine Go.st st131 ?_
  show Go p e below _ (T131.setTop (mkF m 4 #[.val (.ref a1)] [(.ref vb)]))
  refine g_alen X131 hx (hb hby d14_4) 5 rfl hZ e131 A_vb ?_
  refine g_aloadN X131 hx (hb hby d14_5) 6 rfl (v := (.ref a1)) rfl rfl ?_
  obtain ⟨cq133, kq133, q133a, q133b, q133c⟩ := isOf hZ e131 E_a1
  obtain ⟨_, _, ⟨T133, L133, k133, n133⟩, -, X133, ⟨Lc133, hQ133, l133, y133, z133⟩, st133⟩ := X131.virtualBack hx (y := (⟨"java/lang/String", "coder", "()B"⟩ : MethodName)) (z := (⟨"java/lang/String", "coder", "()B"⟩ : MethodName)) hown (mvT hZ (hw _ (List.mem_of_getElem? (i := 70) rfl))) (mvT hZ (hw _ (List.mem_of_getElem? (i := 71) rfl))) (notFace_of_selects (args := #[]) (mvT hZ (hw _ (List.mem_of_getElem? (i := 73) rfl)))) (mvT hZ (hw _ (List.mem_of_getElem? (i := 73) rfl))) (mvT hZ (hw _ (List.mem_of_getElem? (i := 72) rfl))) (by decide) (backOf (W := 1) (rmcdrL l Z a0 hw [] a1 cs h0 n0 Z0 S_COMPACT_STRINGS F_coder_a1 hcs) hZ (hw _ (List.mem_of_getElem? (i := 74) rfl)) (hw _ (List.mem_of_getElem? (i := 7) rfl)) (by decide) (by decide)) q133a q133c (g := (mkF m 6 #[.val (.ref a1)] [(.ref a1), (.int (Int32.ofNat us.length))])) rfl (by rw [hml]; rfl) (Steps.refl _) (argsL := []) (rest := [(.int (Int32.ofNat us.length))]) (lenOf own_pd15 rfl) rfl (by show 2 * 0 + _ ≤ _; exact Nat.le_of_eq rfl) (hb hby d14_6) (fun _ _ => ⟨rfl, e131, (by decide : 0 + 0 ≤ _), (by decide : 0 + 0 ≤ _)⟩)
  dsimp only [Pt.U, Pt.locs, Pt.cells, Pt.slots] at X133 l133 y133 z133 st133 hQ133
  subst l133 y133 z133
  obtain ⟨rfl, Nq133, e133⟩ := hQ133
  refine Go.tr st133 ?_
  have N133 := Fr.app N0 Nq133
  show Go p e below _ (T133.setTop (mkF m 9 #[.val (.ref a1)] [(.int (0 : Int32)), (.int (Int32.ofNat us.length))]))
  refine g_ishr X133 hx (hb hby d14_9) 10 rfl (Int32.ofNat us.length) (own_shr0' _) ?_
  refine Go.retI X133 hx hlk Bd.returns (hb hby d14_10) (by decide) (by decide) ?_
  show QlenL Z a1 cs vb kb us h0 n0 _ T133.heap _
  rw [e133]
  exact ⟨rfl, N133, rfl⟩
theorem ef_lic (m : MethodId) (x0 : Addr) (x1 : Int32) (x2 : Int32) (x3 : Int32) : entryFrame m #[(.ref x0), (.int x1), (.int x2), (.int x3)] 6 = mkF m 0 #[.val (.ref x0), .val (.int x1), .val (.int x2), .val (.int x3), .unset, .unset] [] := by first | (simp [entryFrame, mkF, argsToLocals, Value.category]; done) | rfl
theorem d20_0 : decode jdk_43_method_23_code 0 = .ok (.iload_n 1, 1) := by decide +kernel
theorem d20_1 : decode jdk_43_method_23_code 1 = .ok (.i2b, 1) := by decide +kernel
theorem d20_2 : decode jdk_43_method_23_code 2 = .ok (.istore 4, 2) := by decide +kernel
theorem d20_4 : decode jdk_43_method_23_code 4 = .ok (.iload_n 2, 1) := by decide +kernel
theorem d20_5 : decode jdk_43_method_23_code 5 = .ok (.istore 5, 2) := by decide +kernel
theorem d20_7 : decode jdk_43_method_23_code 7 = .ok (.iload 5, 2) := by decide +kernel
theorem d20_9 : decode jdk_43_method_23_code 9 = .ok (.iload_n 3, 1) := by decide +kernel
theorem d20_10 : decode jdk_43_method_23_code 10 = .ok (.if_icmp .ge 21, 3) := by decide +kernel
theorem d20_31 : decode jdk_43_method_23_code 31 = .ok (.iconst (-1), 1) := by decide +kernel
theorem d20_32 : decode jdk_43_method_23_code 32 = .ok (.ireturn, 1) := by decide +kernel
theorem d20_13 : decode jdk_43_method_23_code 13 = .ok (.aload_n 0, 1) := by decide +kernel
theorem d20_14 : decode jdk_43_method_23_code 14 = .ok (.iload 5, 2) := by decide +kernel
theorem d20_16 : decode jdk_43_method_23_code 16 = .ok (.baload, 1) := by decide +kernel
theorem d20_17 : decode jdk_43_method_23_code 17 = .ok (.iload 4, 2) := by decide +kernel
theorem d20_19 : decode jdk_43_method_23_code 19 = .ok (.if_icmp .ne 6, 3) := by decide +kernel
theorem d20_25 : decode jdk_43_method_23_code 25 = .ok (.iinc 5 1, 3) := by decide +kernel
theorem d20_28 : decode jdk_43_method_23_code 28 = .ok (.goto (-21), 3) := by decide +kernel
theorem d20_22 : decode jdk_43_method_23_code 22 = .ok (.iload 5, 2) := by decide +kernel
theorem d20_24 : decode jdk_43_method_23_code 24 = .ok (.ireturn, 1) := by decide +kernel
def Qlic (Z : State) (a1 : Addr) (p2 : Int32) (kb : ClassId) (us : List Int32) (h0 : Heap) (n0 : Nat) (v : Option Value) (h : Heap) (L : List Loc) : Prop := ∃ r : Int32, v = some (.int r) ∧ Fr n0 L ∧ h = h0 ∧ (r < 0 ↔ (∀ x ∈ us, ¬ x = p2))
set_option maxRecDepth 65536 in
set_option maxHeartbeats 40000000 in
theorem rmlic (l : Launch) (Z : State) (a0 : Array Value) (hw : ∀ d ∈ tables_1, d.before a0 Z = true) (ws : List Jvm.Cond) (a1 : Addr) (p2 : Int32) (kb : ClassId) (us : List Int32) (h0 : Heap) (n0 : Nat) (Z0 : n0 ≤ h0.size) (A_a1 : Arv Z h0 a1 kb .byte (Int32.ofNat us.length) (own_bs us) (.int (0 : Int32))) (hle : us.length ≤ 4) (hC : ∀ x ∈ us, own_C x) (h8 : ∀ x ∈ us, ¬ (255 : Int32) < x) (hq0 : own_C p2) (hq9 : ¬ (255 : Int32) < p2) :
    MetFree l (⟨"java/lang/StringLatin1", "indexOfChar", "([BIII)I"⟩ : MethodName) (head1 (Jvm.Cond.code (⟨"java/lang/StringLatin1", "indexOfChar", "([BIII)I"⟩ : MethodName) jdk_43_method_23_code 6 (some .int) :: ws) ({ frames := 0, cells := 0, slots := 0, locals := 0 } : Room)) (fun a U => a = #[(.ref a1), (.int p2), (.int (0 : Int32)), (.int (Int32.ofNat us.length))] ∧ Z.Warmed39 U.vm ∧ U.heap = h0) (fun _ _ _ _ _ => True) (fun _ U o U' => ∃ v L, o = .returned v ∧ Qlic Z a1 p2 kb us h0 n0 v U'.heap L ∧ FrameEnd U o U' L ({ frames := 0, cells := 0, slots := 0, locals := 0 } : Room).cells ({ frames := 0, cells := 0, slots := 0, locals := 0 } : Room).slots) := by
  refine MetFree.of_bodySF (plainFor_of_name own_pn_java_lang_StringLatin1) hisR ?_
  intro p e s m args below meth c s₁ Bd hml0 hP hK
  obtain ⟨rfl, hZ, hh⟩ := hP
  have hx := Bd.exec
  have hby := Bd.bytes
  have hlk := Bd.notSynchronized
  have hml : c.maxLocals = 6 := hml0
  have hown : s.vm.findClass "java/lang/StringLatin1" = some m.cls := findClass_of_methodNamed Bd.named
  have hnm := (name_of_methodNamed Bd.named Bd.method).1
  have X0 : Stand p l e ({ frames := 0, cells := 0, slots := 0, locals := 0 } : Room) s m #[(.ref a1), (.int p2), (.int (0 : Int32)), (.int (Int32.ofNat us.length))] below meth c s₁ [] 0 0 := Stand.of_body Bd
  have e0 : s₁.heap = h0 := by rw [← hh, Bd.state]; rfl
  have N0 := Fr.nil n0
  show Go p e below (KQ s below (Qlic Z a1 p2 kb us h0 n0) ({ frames := 0, cells := 0, slots := 0, locals := 0 } : Room).cells ({ frames := 0, cells := 0, slots := 0, locals := 0 } : Room).slots) _
  refine Go.body (T := s₁) (σ := s₁) (g' := (mkF m 0 #[.val (.ref a1), .val (.int p2), .val (.int (0 : Int32)), .val (.int (Int32.ofNat us.length)), .unset, .unset] [])) (ef_lic m a1 p2 (0 : Int32) (Int32.ofNat us.length)) ?_
  refine g_iloadN X0 hx (hb hby d20_0) 1 rfl (v := p2) rfl ?_
  refine g_i2b X0 hx (hb hby d20_1) 2 rfl p2.toInt8.toInt32 rfl ?_
  refine g_istore X0 hx (hb hby d20_2) 4 rfl #[.val (.ref a1), .val (.int p2), .val (.int (0 : Int32)), .val (.int (Int32.ofNat us.length)), .val (.int p2.toInt8.toInt32), .unset] rfl ?_
  refine g_iloadN X0 hx (hb hby d20_4) 5 rfl (v := (0 : Int32)) rfl ?_
  refine g_istore X0 hx (hb hby d20_5) 7 rfl #[.val (.ref a1), .val (.int p2), .val (.int (0 : Int32)), .val (.int (Int32.ofNat us.length)), .val (.int p2.toInt8.toInt32), .val (.int (0 : Int32))] rfl ?_
  have lp : ∀ tl : Nat, ∀ (i : Nat) {Ts134 : State} {lc134 : List Loc} (Xs134 : Stand p l e ({ frames := 0, cells := 0, slots := 0, locals := 0 } : Room) s m #[(.ref a1), (.int p2), (.int (0 : Int32)), (.int (Int32.ofNat us.length))] below meth c Ts134 lc134 0 0) (es134 : Ts134.heap = h0) (Ns134 : Fr n0 lc134) (hj : ∀ j, j < i → ¬ us.getD j 0 = p2), i + tl = us.length → Go p e below (KQ s below (Qlic Z a1 p2 kb us h0 n0) ({ frames := 0, cells := 0, slots := 0, locals := 0 } : Room).cells ({ frames := 0, cells := 0, slots := 0, locals := 0 } : Room).slots) (Ts134.setTop (mkF m 7 #[.val (.ref a1), .val (.int p2), .val (.int (0 : Int32)), .val (.int (Int32.ofNat us.length)), .val (.int p2.toInt8.toInt32), .val (.int (Int32.ofNat i))] [])) := by
    intro tl
    induction tl with
    | zero => 
      intro i Ts134 lc134 Xs134 es134 Ns134 hj htl
      refine g_iload Xs134 hx (hb hby d20_7) 9 rfl (v := (Int32.ofNat i)) rfl ?_
      refine g_iloadN Xs134 hx (hb hby d20_9) 10 rfl (v := (Int32.ofNat us.length)) rfl ?_
      refine g_icmp_ge Xs134 hx (hb hby d20_10) 31 13 (by decide) (by decide) rfl (fun hc10 => ?_) (fun hc10 => False.elim (absurd (own_lt (by omega) (by omega) hc10) (by omega)))
      refine g_iconst Xs134 hx (hb hby d20_31) 32 rfl (-1 : Int32) rfl ?_
      refine Go.retI Xs134 hx hlk Bd.returns (hb hby d20_32) (by decide) (by decide) ?_
      show Qlic Z a1 p2 kb us h0 n0 _ Ts134.heap _
      rw [es134]
      exact ⟨(-1 : Int32), rfl, Ns134, rfl, ⟨fun _ => own_allj (fun j q => hj j (by omega)), fun _ => by decide⟩⟩
    | succ tl ih => 
      intro i Ts134 lc134 Xs134 es134 Ns134 hj htl
      refine g_iload Xs134 hx (hb hby d20_7) 9 rfl (v := (Int32.ofNat i)) rfl ?_
      refine g_iloadN Xs134 hx (hb hby d20_9) 10 rfl (v := (Int32.ofNat us.length)) rfl ?_
      refine g_icmp_ge Xs134 hx (hb hby d20_10) 31 13 (by decide) (by decide) rfl (fun hc10 => False.elim (hc10 (own_in (by omega) (by omega)).2)) (fun hc10 => ?_)
      refine g_aloadN Xs134 hx (hb hby d20_13) 14 rfl (v := (.ref a1)) rfl rfl ?_
      refine g_iload Xs134 hx (hb hby d20_14) 16 rfl (v := (Int32.ofNat i)) rfl ?_
      refine g_baload Xs134 hx (hb hby d20_16) 17 rfl hZ es134 A_a1 (own_in (by omega) (by omega)) (.int (us.getD i 0).toInt8.toInt32) (by rw [own_cl (by omega)]; exact own_bsget us (by omega)) ?_
      refine g_iload Xs134 hx (hb hby d20_17) 19 rfl (v := p2.toInt8.toInt32) rfl ?_
      refine g_icmp_ne Xs134 hx (hb hby d20_19) 25 22 (by decide) (by decide) rfl (fun hc19 => ?_) (fun hc19 => ?_)
      · refine g_iinc Xs134 hx (hb hby d20_25) 28 rfl (x := (Int32.ofNat i)) rfl (Int32.ofNat (i + 1)) (own_up i) #[.val (.ref a1), .val (.int p2), .val (.int (0 : Int32)), .val (.int (Int32.ofNat us.length)), .val (.int p2.toInt8.toInt32), .val (.int (Int32.ofNat (i + 1)))] rfl ?_
        refine g_goto Xs134 hx (hb hby d20_28) 7 (by decide) (by decide) ?_
        exact ih (i + 1) (own_mono Xs134 (by decide) (by decide)) es134 Ns134 (own_nextp hj (fun z => hc19 (by rw [z]))) (by omega)
      · refine g_iload Xs134 hx (hb hby d20_22) 24 rfl (v := (Int32.ofNat i)) rfl ?_
        refine Go.retI Xs134 hx hlk Bd.returns (hb hby d20_24) (by decide) (by decide) ?_
        show Qlic Z a1 p2 kb us h0 n0 _ Ts134.heap _
        rw [es134]
        exact ⟨(Int32.ofNat i), rfl, Ns134, rfl, ⟨fun q => absurd q (own_in (N := us.length) (by omega) (by omega)).1, fun q => absurd (own_b8 (hC _ (own_gm us (by omega))) (h8 _ (own_gm us (by omega))) hq0 hq9 hc19) (q _ (own_gm us (by omega)))⟩⟩
  exact lp us.length 0 (own_mono X0 (by decide) (by decide)) e0 N0 (fun j q => absurd q (by omega)) (by omega)
theorem ef_lix (m : MethodId) (x0 : Addr) (x1 : Int32) (x2 : Int32) (x3 : Int32) : entryFrame m #[(.ref x0), (.int x1), (.int x2), (.int x3)] 4 = mkF m 0 #[.val (.ref x0), .val (.int x1), .val (.int x2), .val (.int x3)] [] := by first | (simp [entryFrame, mkF, argsToLocals, Value.category]; done) | rfl
theorem d16_0 : decode jdk_43_method_22_code 0 = .ok (.iload_n 1, 1) := by decide +kernel
theorem own_pd16 : parseMethodDescriptor "(I)Z" = some ⟨[.int], some .boolean⟩ := by decide +kernel
theorem d16_1 : decode jdk_43_method_22_code 1 = .ok (.invokestatic 88, 3) := by decide +kernel
theorem d16_4 : decode jdk_43_method_22_code 4 = .ok (.ifCond .ne 5, 3) := by decide +kernel
theorem d16_9 : decode jdk_43_method_22_code 9 = .ok (.iload_n 2, 1) := by decide +kernel
theorem d16_10 : decode jdk_43_method_22_code 10 = .ok (.iconst 0, 1) := by decide +kernel
theorem own_pd17 : parseMethodDescriptor "(II)I" = some ⟨[.int, .int], some .int⟩ := by decide +kernel
theorem d16_11 : decode jdk_43_method_22_code 11 = .ok (.invokestatic 92, 3) := by decide +kernel
theorem d16_14 : decode jdk_43_method_22_code 14 = .ok (.istore_n 2, 1) := by decide +kernel
theorem d16_15 : decode jdk_43_method_22_code 15 = .ok (.iload_n 3, 1) := by decide +kernel
theorem d16_16 : decode jdk_43_method_22_code 16 = .ok (.aload_n 0, 1) := by decide +kernel
theorem d16_17 : decode jdk_43_method_22_code 17 = .ok (.arraylength, 1) := by decide +kernel
theorem d16_18 : decode jdk_43_method_22_code 18 = .ok (.invokestatic 38, 3) := by decide +kernel
theorem d16_21 : decode jdk_43_method_22_code 21 = .ok (.istore_n 3, 1) := by decide +kernel
theorem d16_22 : decode jdk_43_method_22_code 22 = .ok (.iload_n 2, 1) := by decide +kernel
theorem d16_23 : decode jdk_43_method_22_code 23 = .ok (.iload_n 3, 1) := by decide +kernel
theorem d16_24 : decode jdk_43_method_22_code 24 = .ok (.if_icmp .lt 5, 3) := by decide +kernel
theorem d16_29 : decode jdk_43_method_22_code 29 = .ok (.aload_n 0, 1) := by decide +kernel
theorem d16_30 : decode jdk_43_method_22_code 30 = .ok (.iload_n 1, 1) := by decide +kernel
theorem d16_31 : decode jdk_43_method_22_code 31 = .ok (.iload_n 2, 1) := by decide +kernel
theorem d16_32 : decode jdk_43_method_22_code 32 = .ok (.iload_n 3, 1) := by decide +kernel
theorem own_pd18 : parseMethodDescriptor "([BIII)I" = some ⟨[(.array .byte), .int, .int, .int], some .int⟩ := by decide +kernel
theorem d16_33 : decode jdk_43_method_22_code 33 = .ok (.invokestatic 95, 3) := by decide +kernel
theorem d16_36 : decode jdk_43_method_22_code 36 = .ok (.ireturn, 1) := by decide +kernel
def Qlix (Z : State) (a1 : Addr) (p2 : Int32) (kb : ClassId) (us : List Int32) (h0 : Heap) (n0 : Nat) (v : Option Value) (h : Heap) (L : List Loc) : Prop := ∃ r : Int32, v = some (.int r) ∧ Fr n0 L ∧ h = h0 ∧ (r < 0 ↔ (∀ x ∈ us, ¬ x = p2))
set_option maxRecDepth 65536 in
set_option maxHeartbeats 40000000 in
theorem rmlix (l : Launch) (Z : State) (a0 : Array Value) (hw : ∀ d ∈ tables_1, d.before a0 Z = true) (ws : List Jvm.Cond) (a1 : Addr) (p2 : Int32) (kb : ClassId) (us : List Int32) (h0 : Heap) (n0 : Nat) (Z0 : n0 ≤ h0.size) (A_a1 : Arv Z h0 a1 kb .byte (Int32.ofNat us.length) (own_bs us) (.int (0 : Int32))) (hpos : 0 < us.length) (hle : us.length ≤ 4) (hC : ∀ x ∈ us, own_C x) (h8 : ∀ x ∈ us, ¬ (255 : Int32) < x) (hq0 : own_C p2) (hq9 : ¬ (255 : Int32) < p2) :
    MetFree l (⟨"java/lang/StringLatin1", "indexOf", "([BIII)I"⟩ : MethodName) (head1 (Jvm.Cond.code (⟨"java/lang/StringLatin1", "indexOf", "([BIII)I"⟩ : MethodName) jdk_43_method_22_code 4 (some .int) :: ws) ({ frames := 1, cells := 0, slots := 0, locals := 17 } : Room)) (fun a U => a = #[(.ref a1), (.int p2), (.int (0 : Int32)), (.int (Int32.ofNat us.length))] ∧ Z.Warmed39 U.vm ∧ U.heap = h0) (fun _ _ _ _ _ => True) (fun _ U o U' => ∃ v L, o = .returned v ∧ Qlix Z a1 p2 kb us h0 n0 v U'.heap L ∧ FrameEnd U o U' L ({ frames := 1, cells := 0, slots := 0, locals := 17 } : Room).cells ({ frames := 1, cells := 0, slots := 0, locals := 17 } : Room).slots) := by
  refine MetFree.of_bodySF (plainFor_of_name own_pn_java_lang_StringLatin1) hisR ?_
  intro p e s m args below meth c s₁ Bd hml0 hP hK
  obtain ⟨rfl, hZ, hh⟩ := hP
  have hx := Bd.exec
  have hby := Bd.bytes
  have hlk := Bd.notSynchronized
  have hml : c.maxLocals = 4 := hml0
  have hown : s.vm.findClass "java/lang/StringLatin1" = some m.cls := findClass_of_methodNamed Bd.named
  have hnm := (name_of_methodNamed Bd.named Bd.method).1
  have X0 : Stand p l e ({ frames := 1, cells := 0, slots := 0, locals := 17 } : Room) s m #[(.ref a1), (.int p2), (.int (0 : Int32)), (.int (Int32.ofNat us.length))] below meth c s₁ [] 0 0 := Stand.of_body Bd
  have e0 : s₁.heap = h0 := by rw [← hh, Bd.state]; rfl
  have N0 := Fr.nil n0
  show Go p e below (KQ s below (Qlix Z a1 p2 kb us h0 n0) ({ frames := 1, cells := 0, slots := 0, locals := 17 } : Room).cells ({ frames := 1, cells := 0, slots := 0, locals := 17 } : Room).slots) _
  refine Go.body (T := s₁) (σ := s₁) (g' := (mkF m 0 #[.val (.ref a1), .val (.int p2), .val (.int (0 : Int32)), .val (.int (Int32.ofNat us.length))] [])) (ef_lix m a1 p2 (0 : Int32) (Int32.ofNat us.length)) ?_
  refine g_iloadN X0 hx (hb hby d16_0) 1 rfl (v := p2) rfl ?_
  obtain ⟨_, _, ⟨T136, L136, k136, n136⟩, -, X136, ⟨Lc136, hQ136, l136, y136, z136⟩, st136⟩ := Jvm.LawKit.callS X0 hx (y := (⟨"java/lang/StringLatin1", "canEncode", "(I)Z"⟩ : MethodName)) hown (mvT hZ (hw _ (List.mem_of_getElem? (i := 79) rfl))) (mvT hZ (hw _ (List.mem_of_getElem? (i := 80) rfl))) (mvT hZ (hw _ (List.mem_of_getElem? (i := 77) rfl))) (mvT hZ (hw _ (List.mem_of_getElem? (i := 81) rfl))) (by decide) (backOf (W := 0) (rmceI l Z a0 hw [] p2 h0 n0 Z0 hq0 hq9) hZ (hw _ (List.mem_of_getElem? (i := 81) rfl)) (hw _ (List.mem_of_getElem? (i := 77) rfl)) (by decide) (by decide)) (g := (mkF m 1 #[.val (.ref a1), .val (.int p2), .val (.int (0 : Int32)), .val (.int (Int32.ofNat us.length))] [(.int p2)])) rfl (by rw [hml]; rfl) (argsL := [(.int p2)]) (rest := []) (lenOf own_pd16 rfl) rfl (by show 2 * 0 + _ ≤ _; exact Nat.le_of_eq rfl) (hb hby d16_1) (fun _ _ => ⟨rfl, e0, (by decide : 0 + 0 ≤ _), (by decide : 0 + 0 ≤ _)⟩)
  dsimp only [Pt.U, Pt.locs, Pt.cells, Pt.slots] at X136 l136 y136 z136 st136 hQ136
  subst l136 y136 z136
  obtain ⟨rfl, Nq136, e136⟩ := hQ136
  refine Go.st st136 ?_
  have N136 := Fr.app N0 Nq136
  show Go p e below _ (T136.setTop (mkF m 4 #[.val (.ref a1), .val (.int p2), .val (.int (0 : Int32)), .val (.int (Int32.ofNat us.length))] [(.int (1 : Int32))]))
  refine g_if_ne X136 hx (hb hby d16_4) 9 7 (by decide) (by decide) rfl (fun hc4 => ?_) (fun hc4 => False.elim (absurd hc4 (by decide)))
  refine g_iloadN X136 hx (hb hby d16_9) 10 rfl (v := (0 : Int32)) rfl ?_
  refine g_iconst X136 hx (hb hby d16_10) 11 rfl (0 : Int32) rfl ?_
  obtain ⟨_, _, ⟨T137, L137, k137, n137⟩, -, X137, ⟨Lc137, hQ137, l137, y137, z137⟩, st137⟩ := Jvm.LawKit.callS X136 hx (y := (⟨"java/lang/Math", "max", "(II)I"⟩ : MethodName)) hown (mvT hZ (hw _ (List.mem_of_getElem? (i := 82) rfl))) (mvT hZ (hw _ (List.mem_of_getElem? (i := 83) rfl))) (mvT hZ (hw _ (List.mem_of_getElem? (i := 84) rfl))) (mvT hZ (hw _ (List.mem_of_getElem? (i := 85) rfl))) (by decide) (backOf (W := 0) (rmmx0 l Z a0 hw []  h0 n0 Z0 ) hZ (hw _ (List.mem_of_getElem? (i := 85) rfl)) (hw _ (List.mem_of_getElem? (i := 84) rfl)) (by decide) (by decide)) (g := (mkF m 11 #[.val (.ref a1), .val (.int p2), .val (.int (0 : Int32)), .val (.int (Int32.ofNat us.length))] [(.int (0 : Int32)), (.int (0 : Int32))])) rfl (by rw [hml]; rfl) (argsL := [(.int (0 : Int32)), (.int (0 : Int32))]) (rest := []) (lenOf own_pd17 rfl) rfl (by show 2 * 0 + _ ≤ _; exact Nat.le_of_eq rfl) (hb hby d16_11) (fun _ _ => ⟨rfl, e136, (by decide : 0 + 0 ≤ _), (by decide : 0 + 0 ≤ _)⟩)
  dsimp only [Pt.U, Pt.locs, Pt.cells, Pt.slots] at X137 l137 y137 z137 st137 hQ137
  subst l137 y137 z137
  obtain ⟨rfl, Nq137, e137⟩ := hQ137
  refine Go.st st137 ?_
  have N137 := Fr.app N136 Nq137
  show Go p e below _ (T137.setTop (mkF m 14 #[.val (.ref a1), .val (.int p2), .val (.int (0 : Int32)), .val (.int (Int32.ofNat us.length))] [(.int (0 : Int32))]))
  refine g_istoreN X137 hx (hb hby d16_14) 15 rfl #[.val (.ref a1), .val (.int p2), .val (.int (0 : Int32)), .val (.int (Int32.ofNat us.length))] rfl ?_
  refine g_iloadN X137 hx (hb hby d16_15) 16 rfl (v := (Int32.ofNat us.length)) rfl ?_
  refine g_aloadN X137 hx (hb hby d16_16) 17 rfl (v := (.ref a1)) rfl rfl ?_
  refine g_alen X137 hx (hb hby d16_17) 18 rfl hZ e137 A_a1 ?_
  obtain ⟨_, _, ⟨T139, L139, k139, n139⟩, -, X139, ⟨Lc139, hQ139, l139, y139, z139⟩, st139⟩ := Jvm.LawKit.callS X137 hx (y := (⟨"java/lang/Math", "min", "(II)I"⟩ : MethodName)) hown (mvT hZ (hw _ (List.mem_of_getElem? (i := 86) rfl))) (mvT hZ (hw _ (List.mem_of_getElem? (i := 87) rfl))) (mvT hZ (hw _ (List.mem_of_getElem? (i := 84) rfl))) (mvT hZ (hw _ (List.mem_of_getElem? (i := 88) rfl))) (by decide) (backOf (W := 0) (rmmn l Z a0 hw [] (Int32.ofNat us.length) (Int32.ofNat us.length) h0 n0 Z0 rfl) hZ (hw _ (List.mem_of_getElem? (i := 88) rfl)) (hw _ (List.mem_of_getElem? (i := 84) rfl)) (by decide) (by decide)) (g := (mkF m 18 #[.val (.ref a1), .val (.int p2), .val (.int (0 : Int32)), .val (.int (Int32.ofNat us.length))] [(.int (Int32.ofNat us.length)), (.int (Int32.ofNat us.length))])) rfl (by rw [hml]; rfl) (argsL := [(.int (Int32.ofNat us.length)), (.int (Int32.ofNat us.length))]) (rest := []) (lenOf own_pd17 rfl) rfl (by show 2 * 0 + _ ≤ _; exact Nat.le_of_eq rfl) (hb hby d16_18) (fun _ _ => ⟨rfl, e137, (by decide : 0 + 0 ≤ _), (by decide : 0 + 0 ≤ _)⟩)
  dsimp only [Pt.U, Pt.locs, Pt.cells, Pt.slots] at X139 l139 y139 z139 st139 hQ139
  subst l139 y139 z139
  obtain ⟨rfl, Nq139, e139⟩ := hQ139
  refine Go.st st139 ?_
  have N139 := Fr.app N137 Nq139
  show Go p e below _ (T139.setTop (mkF m 21 #[.val (.ref a1), .val (.int p2), .val (.int (0 : Int32)), .val (.int (Int32.ofNat us.length))] [(.int (Int32.ofNat us.length))]))
  refine g_istoreN X139 hx (hb hby d16_21) 22 rfl #[.val (.ref a1), .val (.int p2), .val (.int (0 : Int32)), .val (.int (Int32.ofNat us.length))] rfl ?_
  refine g_iloadN X139 hx (hb hby d16_22) 23 rfl (v := (0 : Int32)) rfl ?_
  refine g_iloadN X139 hx (hb hby d16_23) 24 rfl (v := (Int32.ofNat us.length)) rfl ?_
  refine g_icmp_lt X139 hx (hb hby d16_24) 29 27 (by decide) (by decide) rfl (fun hc24 => ?_) (fun hc24 => False.elim (hc24 (own_in (j := 0) (by omega) hpos).2))
  refine g_aloadN X139 hx (hb hby d16_29) 30 rfl (v := (.ref a1)) rfl rfl ?_
  refine g_iloadN X139 hx (hb hby d16_30) 31 rfl (v := p2) rfl ?_
  refine g_iloadN X139 hx (hb hby d16_31) 32 rfl (v := (0 : Int32)) rfl ?_
  refine g_iloadN X139 hx (hb hby d16_32) 33 rfl (v := (Int32.ofNat us.length)) rfl ?_
  obtain ⟨_, _, ⟨T140, L140, k140, n140⟩, -, X140, ⟨Lc140, hQ140, l140, y140, z140⟩, st140⟩ := Jvm.LawKit.callS X139 hx (y := (⟨"java/lang/StringLatin1", "indexOfChar", "([BIII)I"⟩ : MethodName)) hown (mvT hZ (hw _ (List.mem_of_getElem? (i := 89) rfl))) (mvT hZ (hw _ (List.mem_of_getElem? (i := 90) rfl))) (mvT hZ (hw _ (List.mem_of_getElem? (i := 77) rfl))) (mvT hZ (hw _ (List.mem_of_getElem? (i := 91) rfl))) (by decide) (backOf (W := 0) (rmlic l Z a0 hw [] a1 p2 kb us h0 n0 Z0 A_a1 hle hC h8 hq0 hq9) hZ (hw _ (List.mem_of_getElem? (i := 91) rfl)) (hw _ (List.mem_of_getElem? (i := 77) rfl)) (by decide) (by decide)) (g := (mkF m 33 #[.val (.ref a1), .val (.int p2), .val (.int (0 : Int32)), .val (.int (Int32.ofNat us.length))] [(.int (Int32.ofNat us.length)), (.int (0 : Int32)), (.int p2), (.ref a1)])) rfl (by rw [hml]; rfl) (argsL := [(.ref a1), (.int p2), (.int (0 : Int32)), (.int (Int32.ofNat us.length))]) (rest := []) (lenOf own_pd18 rfl) rfl (by show 2 * 0 + _ ≤ _; exact Nat.le_of_eq rfl) (hb hby d16_33) (fun _ _ => ⟨rfl, e139, (by decide : 0 + 0 ≤ _), (by decide : 0 + 0 ≤ _)⟩)
  dsimp only [Pt.U, Pt.locs, Pt.cells, Pt.slots] at X140 l140 y140 z140 st140 hQ140
  subst l140 y140 z140
  obtain ⟨r_140, rfl, Nq140, e140, p140_0⟩ := hQ140
  refine Go.st st140 ?_
  have N140 := Fr.app N139 Nq140
  show Go p e below _ (T140.setTop (mkF m 36 #[.val (.ref a1), .val (.int p2), .val (.int (0 : Int32)), .val (.int (Int32.ofNat us.length))] [(.int r_140)]))
  refine Go.retI X140 hx hlk Bd.returns (hb hby d16_36) (by decide) (by decide) ?_
  show Qlix Z a1 p2 kb us h0 n0 _ T140.heap _
  rw [e140]
  exact ⟨r_140, rfl, N140, rfl, p140_0⟩
theorem ef_si2L (m : MethodId) (x0 : Addr) (x1 : Int32) (x2 : Int32) : entryFrame m #[(.ref x0), (.int x1), (.int x2)] 3 = mkF m 0 #[.val (.ref x0), .val (.int x1), .val (.int x2)] [] := by first | (simp [entryFrame, mkF, argsToLocals, Value.category]; done) | rfl
theorem d12_0 : decode jdk_42_method_80_code 0 = .ok (.aload_n 0, 1) := by decide +kernel
theorem d12_1 : decode jdk_42_method_80_code 1 = .ok (.invokevirtual 492, 3) := by decide +kernel
theorem d12_4 : decode jdk_42_method_80_code 4 = .ok (.ifCond .eq 19, 3) := by decide +kernel
theorem d12_7 : decode jdk_42_method_80_code 7 = .ok (.aload_n 0, 1) := by decide +kernel
theorem d12_8 : decode jdk_42_method_80_code 8 = .ok (.getfield 9, 3) := by decide +kernel
theorem d12_11 : decode jdk_42_method_80_code 11 = .ok (.iload_n 1, 1) := by decide +kernel
theorem d12_12 : decode jdk_42_method_80_code 12 = .ok (.iload_n 2, 1) := by decide +kernel
theorem d12_13 : decode jdk_42_method_80_code 13 = .ok (.aload_n 0, 1) := by decide +kernel
theorem own_pd19 : parseMethodDescriptor "()I" = some ⟨[], some .int⟩ := by decide +kernel
theorem d12_14 : decode jdk_42_method_80_code 14 = .ok (.invokevirtual 505, 3) := by decide +kernel
theorem d12_17 : decode jdk_42_method_80_code 17 = .ok (.invokestatic 637, 3) := by decide +kernel
theorem d12_20 : decode jdk_42_method_80_code 20 = .ok (.goto 16, 3) := by decide +kernel
theorem d12_36 : decode jdk_42_method_80_code 36 = .ok (.ireturn, 1) := by decide +kernel
def Qsi2L (Z : State) (a1 : Addr) (p2 : Int32) (cs : Int32) (vb : Addr) (kb : ClassId) (us : List Int32) (h0 : Heap) (n0 : Nat) (v : Option Value) (h : Heap) (L : List Loc) : Prop := ∃ r : Int32, v = some (.int r) ∧ Fr n0 L ∧ h = h0 ∧ (r < 0 ↔ (∀ x ∈ us, ¬ x = p2))
set_option maxRecDepth 65536 in
set_option maxHeartbeats 40000000 in
theorem rmsi2L (l : Launch) (Z : State) (a0 : Array Value) (hw : ∀ d ∈ tables_1, d.before a0 Z = true) (ws : List Jvm.Cond) (a1 : Addr) (p2 : Int32) (cs : Int32) (vb : Addr) (kb : ClassId) (us : List Int32) (h0 : Heap) (n0 : Nat) (Z0 : n0 ≤ h0.size) (S_COMPACT_STRINGS : Sta Z h0 "java/lang/String" "COMPACT_STRINGS" "Z" (.int cs)) (E_a1 : Exa Z h0 a1 "java/lang/String") (F_value_a1 : Fld Z h0 a1 "java/lang/String" "value" "[B" (.ref vb)) (F_coder_a1 : Fld Z h0 a1 "java/lang/String" "coder" "B" (.int (0 : Int32))) (A_vb : Arv Z h0 vb kb .byte (Int32.ofNat us.length) (own_bs us) (.int (0 : Int32))) (hcs : ¬ cs = 0) (hpos : 0 < us.length) (hle : us.length ≤ 4) (hC : ∀ x ∈ us, own_C x) (h8 : ∀ x ∈ us, ¬ (255 : Int32) < x) (hq0 : own_C p2) (hq9 : ¬ (255 : Int32) < p2) :
    MetFree l (⟨"java/lang/String", "indexOf", "(II)I"⟩ : MethodName) (head1 (Jvm.Cond.code (⟨"java/lang/String", "indexOf", "(II)I"⟩ : MethodName) jdk_42_method_80_code 3 (some .int) :: ws) ({ frames := 2, cells := 0, slots := 0, locals := 32 } : Room)) (fun a U => a = #[(.ref a1), (.int p2), (.int (0 : Int32))] ∧ Z.Warmed39 U.vm ∧ U.heap = h0) (fun _ _ _ _ _ => True) (fun _ U o U' => ∃ v L, o = .returned v ∧ Qsi2L Z a1 p2 cs vb kb us h0 n0 v U'.heap L ∧ FrameEnd U o U' L ({ frames := 2, cells := 0, slots := 0, locals := 32 } : Room).cells ({ frames := 2, cells := 0, slots := 0, locals := 32 } : Room).slots) := by
  refine MetFree.of_bodySF (plainFor_of_name own_pn_java_lang_String) hisR ?_
  intro p e s m args below meth c s₁ Bd hml0 hP hK
  obtain ⟨rfl, hZ, hh⟩ := hP
  have hx := Bd.exec
  have hby := Bd.bytes
  have hlk := Bd.notSynchronized
  have hml : c.maxLocals = 3 := hml0
  have hown : s.vm.findClass "java/lang/String" = some m.cls := findClass_of_methodNamed Bd.named
  have hnm := (name_of_methodNamed Bd.named Bd.method).1
  have X0 : Stand p l e ({ frames := 2, cells := 0, slots := 0, locals := 32 } : Room) s m #[(.ref a1), (.int p2), (.int (0 : Int32))] below meth c s₁ [] 0 0 := Stand.of_body Bd
  have e0 : s₁.heap = h0 := by rw [← hh, Bd.state]; rfl
  have N0 := Fr.nil n0
  show Go p e below (KQ s below (Qsi2L Z a1 p2 cs vb kb us h0 n0) ({ frames := 2, cells := 0, slots := 0, locals := 32 } : Room).cells ({ frames := 2, cells := 0, slots := 0, locals := 32 } : Room).slots) _
  refine Go.body (T := s₁) (σ := s₁) (g' := (mkF m 0 #[.val (.ref a1), .val (.int p2), .val (.int (0 : Int32))] [])) (ef_si2L m a1 p2 (0 : Int32)) ?_
  refine g_aloadN X0 hx (hb hby d12_0) 1 rfl (v := (.ref a1)) rfl rfl ?_
  obtain ⟨cq141, kq141, q141a, q141b, q141c⟩ := isOf hZ e0 E_a1
  obtain ⟨_, _, ⟨T141, L141, k141, n141⟩, -, X141, ⟨Lc141, hQ141, l141, y141, z141⟩, st141⟩ := X0.virtualBack hx (y := (⟨"java/lang/String", "isLatin1", "()Z"⟩ : MethodName)) (z := (⟨"java/lang/String", "isLatin1", "()Z"⟩ : MethodName)) hown (mvT hZ (hw _ (List.mem_of_getElem? (i := 60) rfl))) (mvT hZ (hw _ (List.mem_of_getElem? (i := 61) rfl))) (notFace_of_selects (args := #[]) (mvT hZ (hw _ (List.mem_of_getElem? (i := 63) rfl)))) (mvT hZ (hw _ (List.mem_of_getElem? (i := 63) rfl))) (mvT hZ (hw _ (List.mem_of_getElem? (i := 62) rfl))) (by decide) (backOf (W := 0) (rmislL l Z a0 hw [] a1 cs h0 n0 Z0 S_COMPACT_STRINGS F_coder_a1 hcs) hZ (hw _ (List.mem_of_getElem? (i := 64) rfl)) (hw _ (List.mem_of_getElem? (i := 7) rfl)) (by decide) (by decide)) q141a q141c (g := (mkF m 1 #[.val (.ref a1), .val (.int p2), .val (.int (0 : Int32))] [(.ref a1)])) rfl (by rw [hml]; rfl) (Steps.refl _) (argsL := []) (rest := []) (lenOf own_pd14 rfl) rfl (by show 2 * 0 + _ ≤ _; exact Nat.le_of_eq rfl) (hb hby d12_1) (fun _ _ => ⟨rfl, e0, (by decide : 0 + 0 ≤ _), (by decide : 0 + 0 ≤ _)⟩)
  dsimp only [Pt.U, Pt.locs, Pt.cells, Pt.slots] at X141 l141 y141 z141 st141 hQ141
  subst l141 y141 z141
  obtain ⟨rfl, Nq141, e141⟩ := hQ141
  refine Go.tr st141 ?_
  have N141 := Fr.app N0 Nq141
  show Go p e below _ (T141.setTop (mkF m 4 #[.val (.ref a1), .val (.int p2), .val (.int (0 : Int32))] [(.int (1 : Int32))]))
  refine g_if_eq X141 hx (hb hby d12_4) 23 7 (by decide) (by decide) rfl (fun hc4 => False.elim (absurd hc4 (by decide))) (fun hc4 => ?_)
  refine g_aloadN X141 hx (hb hby d12_7) 8 rfl (v := (.ref a1)) rfl rfl ?_
  obtain ⟨T142, X142, e142, st142⟩ := getF X141 hx hZ hown (host := "") (Or.inl (hw _ (List.mem_of_getElem? (i := 25) rfl))) Via.refl e141 F_value_a1 (g := (mkF m 8 #[.val (.ref a1), .val (.int p2), .val (.int (0 : Int32))] [(.ref a1)])) rfl rfl (hb hby d12_8)
  refine Go.st st142 ?_
  show Go p e below _ (T142.setTop (mkF m 11 #[.val (.ref a1), .val (.int p2), .val (.int (0 : Int32))] [(.ref vb)]))
  refine g_iloadN X142 hx (hb hby d12_11) 12 rfl (v := p2) rfl ?_
  refine g_iloadN X142 hx (hb hby d12_12) 13 rfl (v := (0 : Int32)) rfl ?_
  refine g_aloadN X142 hx (hb hby d12_13) 14 rfl (v := (.ref a1)) rfl rfl ?_
  obtain ⟨cq143, kq143, q143a, q143b, q143c⟩ := isOf hZ e142 E_a1
  obtain ⟨_, _, ⟨T143, L143, k143, n143⟩, -, X143, ⟨Lc143, hQ143, l143, y143, z143⟩, st143⟩ := X142.virtualBack hx (y := (⟨"java/lang/String", "length", "()I"⟩ : MethodName)) (z := (⟨"java/lang/String", "length", "()I"⟩ : MethodName)) hown (mvT hZ (hw _ (List.mem_of_getElem? (i := 65) rfl))) (mvT hZ (hw _ (List.mem_of_getElem? (i := 66) rfl))) (notFace_of_selects (args := #[]) (mvT hZ (hw _ (List.mem_of_getElem? (i := 68) rfl)))) (mvT hZ (hw _ (List.mem_of_getElem? (i := 68) rfl))) (mvT hZ (hw _ (List.mem_of_getElem? (i := 67) rfl))) (by decide) (backOf (W := 3) (rmlenL l Z a0 hw [] a1 cs vb kb us h0 n0 Z0 S_COMPACT_STRINGS E_a1 F_value_a1 F_coder_a1 A_vb hcs hle) hZ (hw _ (List.mem_of_getElem? (i := 69) rfl)) (hw _ (List.mem_of_getElem? (i := 7) rfl)) (by decide) (by decide)) q143a q143c (g := (mkF m 14 #[.val (.ref a1), .val (.int p2), .val (.int (0 : Int32))] [(.ref a1), (.int (0 : Int32)), (.int p2), (.ref vb)])) rfl (by rw [hml]; rfl) (Steps.refl _) (argsL := []) (rest := [(.int (0 : Int32)), (.int p2), (.ref vb)]) (lenOf own_pd19 rfl) rfl (by show 2 * 0 + _ ≤ _; exact Nat.le_of_eq rfl) (hb hby d12_14) (fun _ _ => ⟨rfl, e142, (by decide : 0 + 0 ≤ _), (by decide : 0 + 0 ≤ _)⟩)
  dsimp only [Pt.U, Pt.locs, Pt.cells, Pt.slots] at X143 l143 y143 z143 st143 hQ143
  subst l143 y143 z143
  obtain ⟨rfl, Nq143, e143⟩ := hQ143
  refine Go.tr st143 ?_
  have N143 := Fr.app N141 Nq143
  show Go p e below _ (T143.setTop (mkF m 17 #[.val (.ref a1), .val (.int p2), .val (.int (0 : Int32))] [(.int (Int32.ofNat us.length)), (.int (0 : Int32)), (.int p2), (.ref vb)]))
  obtain ⟨_, _, ⟨T144, L144, k144, n144⟩, -, X144, ⟨Lc144, hQ144, l144, y144, z144⟩, st144⟩ := Jvm.LawKit.callS X143 hx (y := (⟨"java/lang/StringLatin1", "indexOf", "([BIII)I"⟩ : MethodName)) hown (mvT hZ (hw _ (List.mem_of_getElem? (i := 75) rfl))) (mvT hZ (hw _ (List.mem_of_getElem? (i := 76) rfl))) (mvT hZ (hw _ (List.mem_of_getElem? (i := 77) rfl))) (mvT hZ (hw _ (List.mem_of_getElem? (i := 78) rfl))) (by decide) (backOf (W := 0) (rmlix l Z a0 hw [] vb p2 kb us h0 n0 Z0 A_vb hpos hle hC h8 hq0 hq9) hZ (hw _ (List.mem_of_getElem? (i := 78) rfl)) (hw _ (List.mem_of_getElem? (i := 77) rfl)) (by decide) (by decide)) (g := (mkF m 17 #[.val (.ref a1), .val (.int p2), .val (.int (0 : Int32))] [(.int (Int32.ofNat us.length)), (.int (0 : Int32)), (.int p2), (.ref vb)])) rfl (by rw [hml]; rfl) (argsL := [(.ref vb), (.int p2), (.int (0 : Int32)), (.int (Int32.ofNat us.length))]) (rest := []) (lenOf own_pd18 rfl) rfl (by show 2 * 0 + _ ≤ _; exact Nat.le_of_eq rfl) (hb hby d12_17) (fun _ _ => ⟨rfl, e143, (by decide : 0 + 0 ≤ _), (by decide : 0 + 0 ≤ _)⟩)
  dsimp only [Pt.U, Pt.locs, Pt.cells, Pt.slots] at X144 l144 y144 z144 st144 hQ144
  subst l144 y144 z144
  obtain ⟨r_144, rfl, Nq144, e144, p144_0⟩ := hQ144
  refine Go.st st144 ?_
  have N144 := Fr.app N143 Nq144
  show Go p e below _ (T144.setTop (mkF m 20 #[.val (.ref a1), .val (.int p2), .val (.int (0 : Int32))] [(.int r_144)]))
  refine g_goto X144 hx (hb hby d12_20) 36 (by decide) (by decide) ?_
  refine Go.retI X144 hx hlk Bd.returns (hb hby d12_36) (by decide) (by decide) ?_
  show Qsi2L Z a1 p2 cs vb kb us h0 n0 _ T144.heap _
  rw [e144]
  exact ⟨r_144, rfl, N144, rfl, p144_0⟩
theorem ef_si1L (m : MethodId) (x0 : Addr) (x1 : Int32) : entryFrame m #[(.ref x0), (.int x1)] 2 = mkF m 0 #[.val (.ref x0), .val (.int x1)] [] := by first | (simp [entryFrame, mkF, argsToLocals, Value.category]; done) | rfl
theorem d11_0 : decode jdk_42_method_79_code 0 = .ok (.aload_n 0, 1) := by decide +kernel
theorem d11_1 : decode jdk_42_method_79_code 1 = .ok (.iload_n 1, 1) := by decide +kernel
theorem d11_2 : decode jdk_42_method_79_code 2 = .ok (.iconst 0, 1) := by decide +kernel
theorem d11_3 : decode jdk_42_method_79_code 3 = .ok (.invokevirtual 633, 3) := by decide +kernel
theorem d11_6 : decode jdk_42_method_79_code 6 = .ok (.ireturn, 1) := by decide +kernel
def Qsi1L (Z : State) (a1 : Addr) (p2 : Int32) (cs : Int32) (vb : Addr) (kb : ClassId) (us : List Int32) (h0 : Heap) (n0 : Nat) (v : Option Value) (h : Heap) (L : List Loc) : Prop := ∃ r : Int32, v = some (.int r) ∧ Fr n0 L ∧ h = h0 ∧ (r < 0 ↔ (∀ x ∈ us, ¬ x = p2))
set_option maxRecDepth 65536 in
set_option maxHeartbeats 40000000 in
theorem rmsi1L (l : Launch) (Z : State) (a0 : Array Value) (hw : ∀ d ∈ tables_1, d.before a0 Z = true) (ws : List Jvm.Cond) (a1 : Addr) (p2 : Int32) (cs : Int32) (vb : Addr) (kb : ClassId) (us : List Int32) (h0 : Heap) (n0 : Nat) (Z0 : n0 ≤ h0.size) (S_COMPACT_STRINGS : Sta Z h0 "java/lang/String" "COMPACT_STRINGS" "Z" (.int cs)) (E_a1 : Exa Z h0 a1 "java/lang/String") (F_value_a1 : Fld Z h0 a1 "java/lang/String" "value" "[B" (.ref vb)) (F_coder_a1 : Fld Z h0 a1 "java/lang/String" "coder" "B" (.int (0 : Int32))) (A_vb : Arv Z h0 vb kb .byte (Int32.ofNat us.length) (own_bs us) (.int (0 : Int32))) (hcs : ¬ cs = 0) (hpos : 0 < us.length) (hle : us.length ≤ 4) (hC : ∀ x ∈ us, own_C x) (h8 : ∀ x ∈ us, ¬ (255 : Int32) < x) (hq0 : own_C p2) (hq9 : ¬ (255 : Int32) < p2) :
    MetFree l (⟨"java/lang/String", "indexOf", "(I)I"⟩ : MethodName) (head1 (Jvm.Cond.code (⟨"java/lang/String", "indexOf", "(I)I"⟩ : MethodName) jdk_42_method_79_code 2 (some .int) :: ws) ({ frames := 3, cells := 0, slots := 0, locals := 46 } : Room)) (fun a U => a = #[(.ref a1), (.int p2)] ∧ Z.Warmed39 U.vm ∧ U.heap = h0) (fun _ _ _ _ _ => True) (fun _ U o U' => ∃ v L, o = .returned v ∧ Qsi1L Z a1 p2 cs vb kb us h0 n0 v U'.heap L ∧ FrameEnd U o U' L ({ frames := 3, cells := 0, slots := 0, locals := 46 } : Room).cells ({ frames := 3, cells := 0, slots := 0, locals := 46 } : Room).slots) := by
  refine MetFree.of_bodySF (plainFor_of_name own_pn_java_lang_String) hisR ?_
  intro p e s m args below meth c s₁ Bd hml0 hP hK
  obtain ⟨rfl, hZ, hh⟩ := hP
  have hx := Bd.exec
  have hby := Bd.bytes
  have hlk := Bd.notSynchronized
  have hml : c.maxLocals = 2 := hml0
  have hown : s.vm.findClass "java/lang/String" = some m.cls := findClass_of_methodNamed Bd.named
  have hnm := (name_of_methodNamed Bd.named Bd.method).1
  have X0 : Stand p l e ({ frames := 3, cells := 0, slots := 0, locals := 46 } : Room) s m #[(.ref a1), (.int p2)] below meth c s₁ [] 0 0 := Stand.of_body Bd
  have e0 : s₁.heap = h0 := by rw [← hh, Bd.state]; rfl
  have N0 := Fr.nil n0
  show Go p e below (KQ s below (Qsi1L Z a1 p2 cs vb kb us h0 n0) ({ frames := 3, cells := 0, slots := 0, locals := 46 } : Room).cells ({ frames := 3, cells := 0, slots := 0, locals := 46 } : Room).slots) _
  refine Go.body (T := s₁) (σ := s₁) (g' := (mkF m 0 #[.val (.ref a1), .val (.int p2)] [])) (ef_si1L m a1 p2) ?_
  refine g_aloadN X0 hx (hb hby d11_0) 1 rfl (v := (.ref a1)) rfl rfl ?_
  refine g_iloadN X0 hx (hb hby d11_1) 2 rfl (v := p2) rfl ?_
  refine g_iconst X0 hx (hb hby d11_2) 3 rfl (0 : Int32) rfl ?_
  obtain ⟨cq145, kq145, q145a, q145b, q145c⟩ := isOf hZ e0 E_a1
  obtain ⟨_, _, ⟨T145, L145, k145, n145⟩, -, X145, ⟨Lc145, hQ145, l145, y145, z145⟩, st145⟩ := X0.virtualBack hx (y := (⟨"java/lang/String", "indexOf", "(II)I"⟩ : MethodName)) (z := (⟨"java/lang/String", "indexOf", "(II)I"⟩ : MethodName)) hown (mvT hZ (hw _ (List.mem_of_getElem? (i := 55) rfl))) (mvT hZ (hw _ (List.mem_of_getElem? (i := 56) rfl))) (notFace_of_selects (args := #[]) (mvT hZ (hw _ (List.mem_of_getElem? (i := 58) rfl)))) (mvT hZ (hw _ (List.mem_of_getElem? (i := 58) rfl))) (mvT hZ (hw _ (List.mem_of_getElem? (i := 57) rfl))) (by decide) (backOf (W := 0) (rmsi2L l Z a0 hw [] a1 p2 cs vb kb us h0 n0 Z0 S_COMPACT_STRINGS E_a1 F_value_a1 F_coder_a1 A_vb hcs hpos hle hC h8 hq0 hq9) hZ (hw _ (List.mem_of_getElem? (i := 59) rfl)) (hw _ (List.mem_of_getElem? (i := 7) rfl)) (by decide) (by decide)) q145a q145c (g := (mkF m 3 #[.val (.ref a1), .val (.int p2)] [(.int (0 : Int32)), (.int p2), (.ref a1)])) rfl (by rw [hml]; rfl) (Steps.refl _) (argsL := [(.int p2), (.int (0 : Int32))]) (rest := []) (lenOf own_pd17 rfl) rfl (by show 2 * 0 + _ ≤ _; exact Nat.le_of_eq rfl) (hb hby d11_3) (fun _ _ => ⟨rfl, e0, (by decide : 0 + 0 ≤ _), (by decide : 0 + 0 ≤ _)⟩)
  dsimp only [Pt.U, Pt.locs, Pt.cells, Pt.slots] at X145 l145 y145 z145 st145 hQ145
  subst l145 y145 z145
  obtain ⟨r_145, rfl, Nq145, e145, p145_0⟩ := hQ145
  refine Go.tr st145 ?_
  have N145 := Fr.app N0 Nq145
  show Go p e below _ (T145.setTop (mkF m 6 #[.val (.ref a1), .val (.int p2)] [(.int r_145)]))
  refine Go.retI X145 hx hlk Bd.returns (hb hby d11_6) (by decide) (by decide) ?_
  show Qsi1L Z a1 p2 cs vb kb us h0 n0 _ T145.heap _
  rw [e145]
  exact ⟨r_145, rfl, N145, rfl, p145_0⟩
theorem ef_canL (m : MethodId) (x0 : Addr) : entryFrame m #[(.ref x0)] 1 = mkF m 0 #[.val (.ref x0)] [] := by first | (simp [entryFrame, mkF, argsToLocals, Value.category]; done) | rfl
theorem d5_7 : decode prog_62_method_2_code 7 = .ok (.aload_n 0, 1) := by decide +kernel
theorem d5_8 : decode prog_62_method_2_code 8 = .ok (.bipush 32, 2) := by decide +kernel
theorem d5_10 : decode prog_62_method_2_code 10 = .ok (.invokevirtual 101, 3) := by decide +kernel
theorem d5_13 : decode prog_62_method_2_code 13 = .ok (.ifCond .ge 25, 3) := by decide +kernel
theorem d5_16 : decode prog_62_method_2_code 16 = .ok (.aload_n 0, 1) := by decide +kernel
theorem d5_17 : decode prog_62_method_2_code 17 = .ok (.bipush 10, 2) := by decide +kernel
theorem d5_19 : decode prog_62_method_2_code 19 = .ok (.invokevirtual 101, 3) := by decide +kernel
theorem d5_22 : decode prog_62_method_2_code 22 = .ok (.ifCond .ge 16, 3) := by decide +kernel
theorem d5_25 : decode prog_62_method_2_code 25 = .ok (.aload_n 0, 1) := by decide +kernel
theorem d5_26 : decode prog_62_method_2_code 26 = .ok (.bipush 13, 2) := by decide +kernel
theorem d5_28 : decode prog_62_method_2_code 28 = .ok (.invokevirtual 101, 3) := by decide +kernel
theorem d5_31 : decode prog_62_method_2_code 31 = .ok (.ifCond .ge 7, 3) := by decide +kernel
theorem d5_34 : decode prog_62_method_2_code 34 = .ok (.iconst 1, 1) := by decide +kernel
theorem d5_35 : decode prog_62_method_2_code 35 = .ok (.goto 4, 3) := by decide +kernel
def QcanL (Z : State) (a1 : Addr) (cs : Int32) (vb : Addr) (kb : ClassId) (us : List Int32) (h0 : Heap) (n0 : Nat) (v : Option Value) (h : Heap) (L : List Loc) : Prop := ∃ r : Int32, v = some (.int r) ∧ Fr n0 L ∧ h = h0 ∧ (r = 0 ∨ r = 1) ∧ (r = 1 ↔ (∀ x ∈ us, own_ok x))
set_option maxRecDepth 65536 in
set_option maxHeartbeats 40000000 in
theorem rmcanL (l : Launch) (Z : State) (a0 : Array Value) (hw : ∀ d ∈ tables_1, d.before a0 Z = true) (ws : List Jvm.Cond) (a1 : Addr) (cs : Int32) (vb : Addr) (kb : ClassId) (us : List Int32) (h0 : Heap) (n0 : Nat) (Z0 : n0 ≤ h0.size) (S_COMPACT_STRINGS : Sta Z h0 "java/lang/String" "COMPACT_STRINGS" "Z" (.int cs)) (E_a1 : Exa Z h0 a1 "java/lang/String") (F_value_a1 : Fld Z h0 a1 "java/lang/String" "value" "[B" (.ref vb)) (F_coder_a1 : Fld Z h0 a1 "java/lang/String" "coder" "B" (.int (0 : Int32))) (A_vb : Arv Z h0 vb kb .byte (Int32.ofNat us.length) (own_bs us) (.int (0 : Int32))) (hcs : ¬ cs = 0) (hpos : 0 < us.length) (hle : us.length ≤ 4) (hC : ∀ x ∈ us, own_C x) (h8 : ∀ x ∈ us, ¬ (255 : Int32) < x) :
    MetFree l (⟨"com/example/varigraph/varigraph/generate/Operation", "canName", "(Ljava/lang/String;)Z"⟩ : MethodName) (head1 (Jvm.Cond.code (⟨"com/example/varigraph/varigraph/generate/Operation", "canName", "(Ljava/lang/String;)Z"⟩ : MethodName) prog_62_method_2_code 1 (some .boolean) :: ws) ({ frames := 4, cells := 0, slots := 0, locals := 59 } : Room)) (fun a U => a = #[(.ref a1)] ∧ Z.Warmed39 U.vm ∧ U.heap = h0) (fun _ _ _ _ _ => True) (fun _ U o U' => ∃ v L, o = .returned v ∧ QcanL Z a1 cs vb kb us h0 n0 v U'.heap L ∧ FrameEnd U o U' L ({ frames := 4, cells := 0, slots := 0, locals := 59 } : Room).cells ({ frames := 4, cells := 0, slots := 0, locals := 59 } : Room).slots) := by
  refine MetFree.of_bodySF (plainFor_of_name own_pn_com_example_varigraph_varigraph_generate_Operation) hisR ?_
  intro p e s m args below meth c s₁ Bd hml0 hP hK
  obtain ⟨rfl, hZ, hh⟩ := hP
  have hx := Bd.exec
  have hby := Bd.bytes
  have hlk := Bd.notSynchronized
  have hml : c.maxLocals = 1 := hml0
  have hown : s.vm.findClass "com/example/varigraph/varigraph/generate/Operation" = some m.cls := findClass_of_methodNamed Bd.named
  have hnm := (name_of_methodNamed Bd.named Bd.method).1
  have X0 : Stand p l e ({ frames := 4, cells := 0, slots := 0, locals := 59 } : Room) s m #[(.ref a1)] below meth c s₁ [] 0 0 := Stand.of_body Bd
  have e0 : s₁.heap = h0 := by rw [← hh, Bd.state]; rfl
  have N0 := Fr.nil n0
  show Go p e below (KQ s below (QcanL Z a1 cs vb kb us h0 n0) ({ frames := 4, cells := 0, slots := 0, locals := 59 } : Room).cells ({ frames := 4, cells := 0, slots := 0, locals := 59 } : Room).slots) _
  refine Go.body (T := s₁) (σ := s₁) (g' := (mkF m 0 #[.val (.ref a1)] [])) (ef_canL m a1) ?_
  refine g_aloadN X0 hx (hb hby d5_0) 1 rfl (v := (.ref a1)) rfl rfl ?_
  obtain ⟨cq146, kq146, q146a, q146b, q146c⟩ := isOf hZ e0 E_a1
  obtain ⟨_, _, ⟨T146, L146, k146, n146⟩, -, X146, ⟨Lc146, hQ146, l146, y146, z146⟩, st146⟩ := X0.virtualBack hx (y := (⟨"java/lang/String", "isEmpty", "()Z"⟩ : MethodName)) (z := (⟨"java/lang/String", "isEmpty", "()Z"⟩ : MethodName)) hown (mvT hZ (hw _ (List.mem_of_getElem? (i := 31) rfl))) (mvT hZ (hw _ (List.mem_of_getElem? (i := 32) rfl))) (notFace_of_selects (args := #[]) (mvT hZ (hw _ (List.mem_of_getElem? (i := 34) rfl)))) (mvT hZ (hw _ (List.mem_of_getElem? (i := 34) rfl))) (mvT hZ (hw _ (List.mem_of_getElem? (i := 33) rfl))) (by decide) (backOf (W := 0) (rmise l Z a0 hw [] a1 vb kb (Int32.ofNat us.length) (own_bs us) h0 n0 Z0 F_value_a1 A_vb (fun z => absurd (own_eqn (j := 0) (by omega) (by omega) z) (by omega))) hZ (hw _ (List.mem_of_getElem? (i := 35) rfl)) (hw _ (List.mem_of_getElem? (i := 7) rfl)) (by decide) (by decide)) q146a q146c (g := (mkF m 1 #[.val (.ref a1)] [(.ref a1)])) rfl (by rw [hml]; rfl) (Steps.refl _) (argsL := []) (rest := []) (lenOf own_pd14 rfl) rfl (by show 2 * 0 + _ ≤ _; exact Nat.le_of_eq rfl) (hb hby d5_1) (fun _ _ => ⟨rfl, e0, (by decide : 0 + 0 ≤ _), (by decide : 0 + 0 ≤ _)⟩)
  dsimp only [Pt.U, Pt.locs, Pt.cells, Pt.slots] at X146 l146 y146 z146 st146 hQ146
  subst l146 y146 z146
  obtain ⟨rfl, Nq146, e146⟩ := hQ146
  refine Go.tr st146 ?_
  have N146 := Fr.app N0 Nq146
  show Go p e below _ (T146.setTop (mkF m 4 #[.val (.ref a1)] [(.int (0 : Int32))]))
  refine g_if_ne X146 hx (hb hby d5_4) 38 7 (by decide) (by decide) rfl (fun hc4 => False.elim (hc4 rfl)) (fun hc4 => ?_)
  refine g_aloadN X146 hx (hb hby d5_7) 8 rfl (v := (.ref a1)) rfl rfl ?_
  refine g_bipush X146 hx (hb hby d5_8) 10 rfl (32 : Int32) rfl ?_
  obtain ⟨cq147, kq147, q147a, q147b, q147c⟩ := isOf hZ e146 E_a1
  obtain ⟨_, _, ⟨T147, L147, k147, n147⟩, -, X147, ⟨Lc147, hQ147, l147, y147, z147⟩, st147⟩ := X146.virtualBack hx (y := (⟨"java/lang/String", "indexOf", "(I)I"⟩ : MethodName)) (z := (⟨"java/lang/String", "indexOf", "(I)I"⟩ : MethodName)) hown (mvT hZ (hw _ (List.mem_of_getElem? (i := 50) rfl))) (mvT hZ (hw _ (List.mem_of_getElem? (i := 51) rfl))) (notFace_of_selects (args := #[]) (mvT hZ (hw _ (List.mem_of_getElem? (i := 53) rfl)))) (mvT hZ (hw _ (List.mem_of_getElem? (i := 53) rfl))) (mvT hZ (hw _ (List.mem_of_getElem? (i := 52) rfl))) (by decide) (backOf (W := 0) (rmsi1L l Z a0 hw [] a1 (32 : Int32) cs vb kb us h0 n0 Z0 S_COMPACT_STRINGS E_a1 F_value_a1 F_coder_a1 A_vb hcs hpos hle hC h8 (⟨by decide, by decide⟩) (by decide)) hZ (hw _ (List.mem_of_getElem? (i := 54) rfl)) (hw _ (List.mem_of_getElem? (i := 7) rfl)) (by decide) (by decide)) q147a q147c (g := (mkF m 10 #[.val (.ref a1)] [(.int (32 : Int32)), (.ref a1)])) rfl (by rw [hml]; rfl) (Steps.refl _) (argsL := [(.int (32 : Int32))]) (rest := []) (lenOf own_pd4 rfl) rfl (by show 2 * 0 + _ ≤ _; exact Nat.le_of_eq rfl) (hb hby d5_10) (fun _ _ => ⟨rfl, e146, (by decide : 0 + 0 ≤ _), (by decide : 0 + 0 ≤ _)⟩)
  dsimp only [Pt.U, Pt.locs, Pt.cells, Pt.slots] at X147 l147 y147 z147 st147 hQ147
  subst l147 y147 z147
  obtain ⟨r_147, rfl, Nq147, e147, p147_0⟩ := hQ147
  refine Go.tr st147 ?_
  have N147 := Fr.app N146 Nq147
  show Go p e below _ (T147.setTop (mkF m 13 #[.val (.ref a1)] [(.int r_147)]))
  refine g_if_ge X147 hx (hb hby d5_13) 38 16 (by decide) (by decide) rfl (fun hc13 => ?_) (fun hc13 => ?_)
  · refine g_iconst X147 hx (hb hby d5_38) 39 rfl (0 : Int32) rfl ?_
    refine Go.retN X147 hx hlk (t := .boolean) Bd.returns (by simp) (hb hby d5_39) (by decide) (by decide) ?_
    show QcanL Z a1 cs vb kb us h0 n0 _ T147.heap _
    rw [e147]
    exact ⟨(0 : Int32), rfl, N147, rfl, Or.inl rfl, ⟨fun q => absurd q (by decide), fun q => absurd (p147_0.mpr (fun x hx => (q x hx).1)) hc13⟩⟩
  · refine g_aloadN X147 hx (hb hby d5_16) 17 rfl (v := (.ref a1)) rfl rfl ?_
    refine g_bipush X147 hx (hb hby d5_17) 19 rfl (10 : Int32) rfl ?_
    obtain ⟨cq148, kq148, q148a, q148b, q148c⟩ := isOf hZ e147 E_a1
    obtain ⟨_, _, ⟨T148, L148, k148, n148⟩, -, X148, ⟨Lc148, hQ148, l148, y148, z148⟩, st148⟩ := X147.virtualBack hx (y := (⟨"java/lang/String", "indexOf", "(I)I"⟩ : MethodName)) (z := (⟨"java/lang/String", "indexOf", "(I)I"⟩ : MethodName)) hown (mvT hZ (hw _ (List.mem_of_getElem? (i := 50) rfl))) (mvT hZ (hw _ (List.mem_of_getElem? (i := 51) rfl))) (notFace_of_selects (args := #[]) (mvT hZ (hw _ (List.mem_of_getElem? (i := 53) rfl)))) (mvT hZ (hw _ (List.mem_of_getElem? (i := 53) rfl))) (mvT hZ (hw _ (List.mem_of_getElem? (i := 52) rfl))) (by decide) (backOf (W := 0) (rmsi1L l Z a0 hw [] a1 (10 : Int32) cs vb kb us h0 n0 Z0 S_COMPACT_STRINGS E_a1 F_value_a1 F_coder_a1 A_vb hcs hpos hle hC h8 (⟨by decide, by decide⟩) (by decide)) hZ (hw _ (List.mem_of_getElem? (i := 54) rfl)) (hw _ (List.mem_of_getElem? (i := 7) rfl)) (by decide) (by decide)) q148a q148c (g := (mkF m 19 #[.val (.ref a1)] [(.int (10 : Int32)), (.ref a1)])) rfl (by rw [hml]; rfl) (Steps.refl _) (argsL := [(.int (10 : Int32))]) (rest := []) (lenOf own_pd4 rfl) rfl (by show 2 * 0 + _ ≤ _; exact Nat.le_of_eq rfl) (hb hby d5_19) (fun _ _ => ⟨rfl, e147, (by decide : 0 + 0 ≤ _), (by decide : 0 + 0 ≤ _)⟩)
    dsimp only [Pt.U, Pt.locs, Pt.cells, Pt.slots] at X148 l148 y148 z148 st148 hQ148
    subst l148 y148 z148
    obtain ⟨r_148, rfl, Nq148, e148, p148_0⟩ := hQ148
    refine Go.tr st148 ?_
    have N148 := Fr.app N147 Nq148
    show Go p e below _ (T148.setTop (mkF m 22 #[.val (.ref a1)] [(.int r_148)]))
    refine g_if_ge X148 hx (hb hby d5_22) 38 25 (by decide) (by decide) rfl (fun hc22 => ?_) (fun hc22 => ?_)
    · refine g_iconst X148 hx (hb hby d5_38) 39 rfl (0 : Int32) rfl ?_
      refine Go.retN X148 hx hlk (t := .boolean) Bd.returns (by simp) (hb hby d5_39) (by decide) (by decide) ?_
      show QcanL Z a1 cs vb kb us h0 n0 _ T148.heap _
      rw [e148]
      exact ⟨(0 : Int32), rfl, N148, rfl, Or.inl rfl, ⟨fun q => absurd q (by decide), fun q => absurd (p148_0.mpr (fun x hx => (q x hx).2.1)) hc22⟩⟩
    · refine g_aloadN X148 hx (hb hby d5_25) 26 rfl (v := (.ref a1)) rfl rfl ?_
      refine g_bipush X148 hx (hb hby d5_26) 28 rfl (13 : Int32) rfl ?_
      obtain ⟨cq149, kq149, q149a, q149b, q149c⟩ := isOf hZ e148 E_a1
      obtain ⟨_, _, ⟨T149, L149, k149, n149⟩, -, X149, ⟨Lc149, hQ149, l149, y149, z149⟩, st149⟩ := X148.virtualBack hx (y := (⟨"java/lang/String", "indexOf", "(I)I"⟩ : MethodName)) (z := (⟨"java/lang/String", "indexOf", "(I)I"⟩ : MethodName)) hown (mvT hZ (hw _ (List.mem_of_getElem? (i := 50) rfl))) (mvT hZ (hw _ (List.mem_of_getElem? (i := 51) rfl))) (notFace_of_selects (args := #[]) (mvT hZ (hw _ (List.mem_of_getElem? (i := 53) rfl)))) (mvT hZ (hw _ (List.mem_of_getElem? (i := 53) rfl))) (mvT hZ (hw _ (List.mem_of_getElem? (i := 52) rfl))) (by decide) (backOf (W := 0) (rmsi1L l Z a0 hw [] a1 (13 : Int32) cs vb kb us h0 n0 Z0 S_COMPACT_STRINGS E_a1 F_value_a1 F_coder_a1 A_vb hcs hpos hle hC h8 (⟨by decide, by decide⟩) (by decide)) hZ (hw _ (List.mem_of_getElem? (i := 54) rfl)) (hw _ (List.mem_of_getElem? (i := 7) rfl)) (by decide) (by decide)) q149a q149c (g := (mkF m 28 #[.val (.ref a1)] [(.int (13 : Int32)), (.ref a1)])) rfl (by rw [hml]; rfl) (Steps.refl _) (argsL := [(.int (13 : Int32))]) (rest := []) (lenOf own_pd4 rfl) rfl (by show 2 * 0 + _ ≤ _; exact Nat.le_of_eq rfl) (hb hby d5_28) (fun _ _ => ⟨rfl, e148, (by decide : 0 + 0 ≤ _), (by decide : 0 + 0 ≤ _)⟩)
      dsimp only [Pt.U, Pt.locs, Pt.cells, Pt.slots] at X149 l149 y149 z149 st149 hQ149
      subst l149 y149 z149
      obtain ⟨r_149, rfl, Nq149, e149, p149_0⟩ := hQ149
      refine Go.tr st149 ?_
      have N149 := Fr.app N148 Nq149
      show Go p e below _ (T149.setTop (mkF m 31 #[.val (.ref a1)] [(.int r_149)]))
      refine g_if_ge X149 hx (hb hby d5_31) 38 34 (by decide) (by decide) rfl (fun hc31 => ?_) (fun hc31 => ?_)
      · refine g_iconst X149 hx (hb hby d5_38) 39 rfl (0 : Int32) rfl ?_
        refine Go.retN X149 hx hlk (t := .boolean) Bd.returns (by simp) (hb hby d5_39) (by decide) (by decide) ?_
        show QcanL Z a1 cs vb kb us h0 n0 _ T149.heap _
        rw [e149]
        exact ⟨(0 : Int32), rfl, N149, rfl, Or.inl rfl, ⟨fun q => absurd q (by decide), fun q => absurd (p149_0.mpr (fun x hx => (q x hx).2.2)) hc31⟩⟩
      · refine g_iconst X149 hx (hb hby d5_34) 35 rfl (1 : Int32) rfl ?_
        refine g_goto X149 hx (hb hby d5_35) 39 (by decide) (by decide) ?_
        refine Go.retN X149 hx hlk (t := .boolean) Bd.returns (by simp) (hb hby d5_39) (by decide) (by decide) ?_
        show QcanL Z a1 cs vb kb us h0 n0 _ T149.heap _
        rw [e149]
        exact ⟨(1 : Int32), rfl, N149, rfl, Or.inr rfl, ⟨fun _ x hx => ⟨p147_0.mp hc13 x hx, p148_0.mp hc22 x hx, p149_0.mp hc31 x hx⟩, fun _ => rfl⟩⟩
theorem ef_lenU (m : MethodId) (x0 : Addr) : entryFrame m #[(.ref x0)] 1 = mkF m 0 #[.val (.ref x0)] [] := by first | (simp [entryFrame, mkF, argsToLocals, Value.category]; done) | rfl
def QlenU (Z : State) (a1 : Addr) (cs : Int32) (vb : Addr) (kb : ClassId) (us : List Int32) (h0 : Heap) (n0 : Nat) (v : Option Value) (h : Heap) (L : List Loc) : Prop := v = some (.int (Int32.ofNat us.length)) ∧ Fr n0 L ∧ h = h0
set_option maxRecDepth 65536 in
set_option maxHeartbeats 40000000 in
theorem rmlenU (l : Launch) (Z : State) (a0 : Array Value) (hw : ∀ d ∈ tables_1, d.before a0 Z = true) (ws : List Jvm.Cond) (a1 : Addr) (cs : Int32) (vb : Addr) (kb : ClassId) (us : List Int32) (h0 : Heap) (n0 : Nat) (Z0 : n0 ≤ h0.size) (S_COMPACT_STRINGS : Sta Z h0 "java/lang/String" "COMPACT_STRINGS" "Z" (.int cs)) (E_a1 : Exa Z h0 a1 "java/lang/String") (F_value_a1 : Fld Z h0 a1 "java/lang/String" "value" "[B" (.ref vb)) (F_coder_a1 : Fld Z h0 a1 "java/lang/String" "coder" "B" (.int (1 : Int32))) (A_vb : Arv Z h0 vb kb .byte (Int32.ofNat (2 * us.length)) (own_ub us) (.int (0 : Int32))) (hcs : ¬ cs = 0) (hle : us.length ≤ 4) :
    MetFree l (⟨"java/lang/String", "length", "()I"⟩ : MethodName) (head1 (Jvm.Cond.code (⟨"java/lang/String", "length", "()I"⟩ : MethodName) jdk_42_method_54_code 1 (some .int) :: ws) ({ frames := 1, cells := 0, slots := 0, locals := 13 } : Room)) (fun a U => a = #[(.ref a1)] ∧ Z.Warmed39 U.vm ∧ U.heap = h0) (fun _ _ _ _ _ => True) (fun _ U o U' => ∃ v L, o = .returned v ∧ QlenU Z a1 cs vb kb us h0 n0 v U'.heap L ∧ FrameEnd U o U' L ({ frames := 1, cells := 0, slots := 0, locals := 13 } : Room).cells ({ frames := 1, cells := 0, slots := 0, locals := 13 } : Room).slots) := by
  refine MetFree.of_bodySF (plainFor_of_name own_pn_java_lang_String) hisR ?_
  intro p e s m args below meth c s₁ Bd hml0 hP hK
  obtain ⟨rfl, hZ, hh⟩ := hP
  have hx := Bd.exec
  have hby := Bd.bytes
  have hlk := Bd.notSynchronized
  have hml : c.maxLocals = 1 := hml0
  have hown : s.vm.findClass "java/lang/String" = some m.cls := findClass_of_methodNamed Bd.named
  have hnm := (name_of_methodNamed Bd.named Bd.method).1
  have X0 : Stand p l e ({ frames := 1, cells := 0, slots := 0, locals := 13 } : Room) s m #[(.ref a1)] below meth c s₁ [] 0 0 := Stand.of_body Bd
  have e0 : s₁.heap = h0 := by rw [← hh, Bd.state]; rfl
  have N0 := Fr.nil n0
  show Go p e below (KQ s below (QlenU Z a1 cs vb kb us h0 n0) ({ frames := 1, cells := 0, slots := 0, locals := 13 } : Room).cells ({ frames := 1, cells := 0, slots := 0, locals := 13 } : Room).slots) _
  refine Go.body (T := s₁) (σ := s₁) (g' := (mkF m 0 #[.val (.ref a1)] [])) (ef_lenU m a1) ?_
  refine g_aloadN X0 hx (hb hby d14_0) 1 rfl (v := (.ref a1)) rfl rfl ?_
  obtain ⟨T150, X150, e150, st150⟩ := getF X0 hx hZ hown (host := "") (Or.inl (hw _ (List.mem_of_getElem? (i := 25) rfl))) Via.refl e0 F_value_a1 (g := (mkF m 1 #[.val (.ref a1)] [(.ref a1)])) rfl rfl (hb hby d14_1)
  refine Go.st st150 ?_
  show Go p e below _ (T150.setTop (mkF m 4 #[.val (.ref a1)] [(.ref vb)]))
  refine g_alen X150 hx (hb hby d14_4) 5 rfl hZ e150 A_vb ?_
  refine g_aloadN X150 hx (hb hby d14_5) 6 rfl (v := (.ref a1)) rfl rfl ?_
  obtain ⟨cq152, kq152, q152a, q152b, q152c⟩ := isOf hZ e150 E_a1
  obtain ⟨_, _, ⟨T152, L152, k152, n152⟩, -, X152, ⟨Lc152, hQ152, l152, y152, z152⟩, st152⟩ := X150.virtualBack hx (y := (⟨"java/lang/String", "coder", "()B"⟩ : MethodName)) (z := (⟨"java/lang/String", "coder", "()B"⟩ : MethodName)) hown (mvT hZ (hw _ (List.mem_of_getElem? (i := 70) rfl))) (mvT hZ (hw _ (List.mem_of_getElem? (i := 71) rfl))) (notFace_of_selects (args := #[]) (mvT hZ (hw _ (List.mem_of_getElem? (i := 73) rfl)))) (mvT hZ (hw _ (List.mem_of_getElem? (i := 73) rfl))) (mvT hZ (hw _ (List.mem_of_getElem? (i := 72) rfl))) (by decide) (backOf (W := 1) (rmcdrU l Z a0 hw [] a1 cs h0 n0 Z0 S_COMPACT_STRINGS F_coder_a1 hcs) hZ (hw _ (List.mem_of_getElem? (i := 74) rfl)) (hw _ (List.mem_of_getElem? (i := 7) rfl)) (by decide) (by decide)) q152a q152c (g := (mkF m 6 #[.val (.ref a1)] [(.ref a1), (.int (Int32.ofNat (2 * us.length)))])) rfl (by rw [hml]; rfl) (Steps.refl _) (argsL := []) (rest := [(.int (Int32.ofNat (2 * us.length)))]) (lenOf own_pd15 rfl) rfl (by show 2 * 0 + _ ≤ _; exact Nat.le_of_eq rfl) (hb hby d14_6) (fun _ _ => ⟨rfl, e150, (by decide : 0 + 0 ≤ _), (by decide : 0 + 0 ≤ _)⟩)
  dsimp only [Pt.U, Pt.locs, Pt.cells, Pt.slots] at X152 l152 y152 z152 st152 hQ152
  subst l152 y152 z152
  obtain ⟨rfl, Nq152, e152⟩ := hQ152
  refine Go.tr st152 ?_
  have N152 := Fr.app N0 Nq152
  show Go p e below _ (T152.setTop (mkF m 9 #[.val (.ref a1)] [(.int (1 : Int32)), (.int (Int32.ofNat (2 * us.length)))]))
  refine g_ishr X152 hx (hb hby d14_9) 10 rfl (Int32.ofNat us.length) (own_shr1 hle) ?_
  refine Go.retI X152 hx hlk Bd.returns (hb hby d14_10) (by decide) (by decide) ?_
  show QlenU Z a1 cs vb kb us h0 n0 _ T152.heap _
  rw [e152]
  exact ⟨rfl, N152, rfl⟩
theorem ef_uiu (m : MethodId) (x0 : Addr) (x1 : Int32) (x2 : Int32) (x3 : Int32) : entryFrame m #[(.ref x0), (.int x1), (.int x2), (.int x3)] 5 = mkF m 0 #[.val (.ref x0), .val (.int x1), .val (.int x2), .val (.int x3), .unset] [] := by first | (simp [entryFrame, mkF, argsToLocals, Value.category]; done) | rfl
theorem d32_0 : decode jdk_52_method_48_code 0 = .ok (.iload_n 2, 1) := by decide +kernel
theorem d32_1 : decode jdk_52_method_48_code 1 = .ok (.istore 4, 2) := by decide +kernel
theorem d32_3 : decode jdk_52_method_48_code 3 = .ok (.iload 4, 2) := by decide +kernel
theorem d32_5 : decode jdk_52_method_48_code 5 = .ok (.iload_n 3, 1) := by decide +kernel
theorem d32_6 : decode jdk_52_method_48_code 6 = .ok (.if_icmp .ge 22, 3) := by decide +kernel
theorem d32_28 : decode jdk_52_method_48_code 28 = .ok (.iconst (-1), 1) := by decide +kernel
theorem d32_29 : decode jdk_52_method_48_code 29 = .ok (.ireturn, 1) := by decide +kernel
theorem d32_9 : decode jdk_52_method_48_code 9 = .ok (.aload_n 0, 1) := by decide +kernel
theorem d32_10 : decode jdk_52_method_48_code 10 = .ok (.iload 4, 2) := by decide +kernel
theorem d32_12 : decode jdk_52_method_48_code 12 = .ok (.invokestatic 71, 3) := by decide +kernel
theorem d32_15 : decode jdk_52_method_48_code 15 = .ok (.iload_n 1, 1) := by decide +kernel
theorem d32_16 : decode jdk_52_method_48_code 16 = .ok (.if_icmp .ne 6, 3) := by decide +kernel
theorem d32_22 : decode jdk_52_method_48_code 22 = .ok (.iinc 4 1, 3) := by decide +kernel
theorem d32_25 : decode jdk_52_method_48_code 25 = .ok (.goto (-22), 3) := by decide +kernel
theorem d32_19 : decode jdk_52_method_48_code 19 = .ok (.iload 4, 2) := by decide +kernel
theorem d32_21 : decode jdk_52_method_48_code 21 = .ok (.ireturn, 1) := by decide +kernel
def Quiu (Z : State) (a1 : Addr) (p2 : Int32) (kb : ClassId) (us : List Int32) (h0 : Heap) (n0 : Nat) (v : Option Value) (h : Heap) (L : List Loc) : Prop := ∃ r : Int32, v = some (.int r) ∧ Fr n0 L ∧ h = h0 ∧ (r < 0 ↔ (∀ x ∈ us, ¬ x = p2))
set_option maxRecDepth 65536 in
set_option maxHeartbeats 40000000 in
theorem rmuiu (l : Launch) (Z : State) (a0 : Array Value) (hw : ∀ d ∈ tables_1, d.before a0 Z = true) (ws : List Jvm.Cond) (a1 : Addr) (p2 : Int32) (kb : ClassId) (us : List Int32) (h0 : Heap) (n0 : Nat) (Z0 : n0 ≤ h0.size) (S_assertionsDisabled : Sta Z h0 "java/lang/StringUTF16" "$assertionsDisabled" "Z" (.int (1 : Int32))) (S_HI_BYTE_SHIFT : Sta Z h0 "java/lang/StringUTF16" "HI_BYTE_SHIFT" "I" (.int (0 : Int32))) (S_LO_BYTE_SHIFT : Sta Z h0 "java/lang/StringUTF16" "LO_BYTE_SHIFT" "I" (.int (8 : Int32))) (A_a1 : Arv Z h0 a1 kb .byte (Int32.ofNat (2 * us.length)) (own_ub us) (.int (0 : Int32))) (hle : us.length ≤ 4) (hC : ∀ x ∈ us, own_C x) (hq0 : own_C p2) (hq9 : ¬ (255 : Int32) < p2) :
    MetFree l (⟨"java/lang/StringUTF16", "indexOfCharUnsafe", "([BIII)I"⟩ : MethodName) (head1 (Jvm.Cond.code (⟨"java/lang/StringUTF16", "indexOfCharUnsafe", "([BIII)I"⟩ : MethodName) jdk_52_method_48_code 5 (some .int) :: ws) ({ frames := 1, cells := 0, slots := 0, locals := 13 } : Room)) (fun a U => a = #[(.ref a1), (.int p2), (.int (0 : Int32)), (.int (Int32.ofNat us.length))] ∧ Z.Warmed39 U.vm ∧ U.heap = h0) (fun _ _ _ _ _ => True) (fun _ U o U' => ∃ v L, o = .returned v ∧ Quiu Z a1 p2 kb us h0 n0 v U'.heap L ∧ FrameEnd U o U' L ({ frames := 1, cells := 0, slots := 0, locals := 13 } : Room).cells ({ frames := 1, cells := 0, slots := 0, locals := 13 } : Room).slots) := by
  refine MetFree.of_bodySF (plainFor_of_name own_pn_java_lang_StringUTF16) hisR ?_
  intro p e s m args below meth c s₁ Bd hml0 hP hK
  obtain ⟨rfl, hZ, hh⟩ := hP
  have hx := Bd.exec
  have hby := Bd.bytes
  have hlk := Bd.notSynchronized
  have hml : c.maxLocals = 5 := hml0
  have hown : s.vm.findClass "java/lang/StringUTF16" = some m.cls := findClass_of_methodNamed Bd.named
  have hnm := (name_of_methodNamed Bd.named Bd.method).1
  have X0 : Stand p l e ({ frames := 1, cells := 0, slots := 0, locals := 13 } : Room) s m #[(.ref a1), (.int p2), (.int (0 : Int32)), (.int (Int32.ofNat us.length))] below meth c s₁ [] 0 0 := Stand.of_body Bd
  have e0 : s₁.heap = h0 := by rw [← hh, Bd.state]; rfl
  have N0 := Fr.nil n0
  show Go p e below (KQ s below (Quiu Z a1 p2 kb us h0 n0) ({ frames := 1, cells := 0, slots := 0, locals := 13 } : Room).cells ({ frames := 1, cells := 0, slots := 0, locals := 13 } : Room).slots) _
  refine Go.body (T := s₁) (σ := s₁) (g' := (mkF m 0 #[.val (.ref a1), .val (.int p2), .val (.int (0 : Int32)), .val (.int (Int32.ofNat us.length)), .unset] [])) (ef_uiu m a1 p2 (0 : Int32) (Int32.ofNat us.length)) ?_
  refine g_iloadN X0 hx (hb hby d32_0) 1 rfl (v := (0 : Int32)) rfl ?_
  refine g_istore X0 hx (hb hby d32_1) 3 rfl #[.val (.ref a1), .val (.int p2), .val (.int (0 : Int32)), .val (.int (Int32.ofNat us.length)), .val (.int (0 : Int32))] rfl ?_
  have lp : ∀ tl : Nat, ∀ (i : Nat) {Ts153 : State} {lc153 : List Loc} (Xs153 : Stand p l e ({ frames := 1, cells := 0, slots := 0, locals := 13 } : Room) s m #[(.ref a1), (.int p2), (.int (0 : Int32)), (.int (Int32.ofNat us.length))] below meth c Ts153 lc153 0 0) (es153 : Ts153.heap = h0) (Ns153 : Fr n0 lc153) (hj : ∀ j, j < i → ¬ us.getD j 0 = p2), i + tl = us.length → Go p e below (KQ s below (Quiu Z a1 p2 kb us h0 n0) ({ frames := 1, cells := 0, slots := 0, locals := 13 } : Room).cells ({ frames := 1, cells := 0, slots := 0, locals := 13 } : Room).slots) (Ts153.setTop (mkF m 3 #[.val (.ref a1), .val (.int p2), .val (.int (0 : Int32)), .val (.int (Int32.ofNat us.length)), .val (.int (Int32.ofNat i))] [])) := by
    intro tl
    induction tl with
    | zero => 
      intro i Ts153 lc153 Xs153 es153 Ns153 hj htl
      refine g_iload Xs153 hx (hb hby d32_3) 5 rfl (v := (Int32.ofNat i)) rfl ?_
      refine g_iloadN Xs153 hx (hb hby d32_5) 6 rfl (v := (Int32.ofNat us.length)) rfl ?_
      refine g_icmp_ge Xs153 hx (hb hby d32_6) 28 9 (by decide) (by decide) rfl (fun hc6 => ?_) (fun hc6 => False.elim (absurd (own_lt (by omega) (by omega) hc6) (by omega)))
      refine g_iconst Xs153 hx (hb hby d32_28) 29 rfl (-1 : Int32) rfl ?_
      refine Go.retI Xs153 hx hlk Bd.returns (hb hby d32_29) (by decide) (by decide) ?_
      show Quiu Z a1 p2 kb us h0 n0 _ Ts153.heap _
      rw [es153]
      exact ⟨(-1 : Int32), rfl, Ns153, rfl, ⟨fun _ => own_allj (fun j q => hj j (by omega)), fun _ => by decide⟩⟩
    | succ tl ih => 
      intro i Ts153 lc153 Xs153 es153 Ns153 hj htl
      refine g_iload Xs153 hx (hb hby d32_3) 5 rfl (v := (Int32.ofNat i)) rfl ?_
      refine g_iloadN Xs153 hx (hb hby d32_5) 6 rfl (v := (Int32.ofNat us.length)) rfl ?_
      refine g_icmp_ge Xs153 hx (hb hby d32_6) 28 9 (by decide) (by decide) rfl (fun hc6 => False.elim (hc6 (own_in (by omega) (by omega)).2)) (fun hc6 => ?_)
      refine g_aloadN Xs153 hx (hb hby d32_9) 10 rfl (v := (.ref a1)) rfl rfl ?_
      refine g_iload Xs153 hx (hb hby d32_10) 12 rfl (v := (Int32.ofNat i)) rfl ?_
      obtain ⟨_, _, ⟨T154, L154, k154, n154⟩, -, X154, ⟨Lc154, hQ154, l154, y154, z154⟩, st154⟩ := Jvm.LawKit.callS Xs153 hx (y := (⟨"java/lang/StringUTF16", "getChar", "([BI)C"⟩ : MethodName)) hown (mvT hZ (hw _ (List.mem_of_getElem? (i := 109) rfl))) (mvT hZ (hw _ (List.mem_of_getElem? (i := 110) rfl))) (mvT hZ (hw _ (List.mem_of_getElem? (i := 39) rfl))) (mvT hZ (hw _ (List.mem_of_getElem? (i := 111) rfl))) (by decide) (backOf (W := 0) (rmgc l Z a0 hw [] a1 kb i us h0 n0 Z0 S_assertionsDisabled S_HI_BYTE_SHIFT S_LO_BYTE_SHIFT A_a1 hle (by omega) hC) hZ (hw _ (List.mem_of_getElem? (i := 111) rfl)) (hw _ (List.mem_of_getElem? (i := 39) rfl)) (by decide) (by decide)) (g := (mkF m 12 #[.val (.ref a1), .val (.int p2), .val (.int (0 : Int32)), .val (.int (Int32.ofNat us.length)), .val (.int (Int32.ofNat i))] [(.int (Int32.ofNat i)), (.ref a1)])) rfl (by rw [hml]; rfl) (argsL := [(.ref a1), (.int (Int32.ofNat i))]) (rest := []) (lenOf own_pd9 rfl) rfl (by show 2 * 0 + _ ≤ _; exact Nat.le_of_eq rfl) (hb hby d32_12) (fun _ _ => ⟨rfl, es153, (by decide : 0 + 0 ≤ _), (by decide : 0 + 0 ≤ _)⟩)
      dsimp only [Pt.U, Pt.locs, Pt.cells, Pt.slots] at X154 l154 y154 z154 st154 hQ154
      subst l154 y154 z154
      obtain ⟨rfl, Nq154, e154⟩ := hQ154
      refine Go.st st154 ?_
      have N154 := Fr.app Ns153 Nq154
      show Go p e below _ (T154.setTop (mkF m 15 #[.val (.ref a1), .val (.int p2), .val (.int (0 : Int32)), .val (.int (Int32.ofNat us.length)), .val (.int (Int32.ofNat i))] [(.int (us.getD i 0))]))
      refine g_iloadN X154 hx (hb hby d32_15) 16 rfl (v := p2) rfl ?_
      refine g_icmp_ne X154 hx (hb hby d32_16) 22 19 (by decide) (by decide) rfl (fun hc16 => ?_) (fun hc16 => ?_)
      · refine g_iinc X154 hx (hb hby d32_22) 25 rfl (x := (Int32.ofNat i)) rfl (Int32.ofNat (i + 1)) (own_up i) #[.val (.ref a1), .val (.int p2), .val (.int (0 : Int32)), .val (.int (Int32.ofNat us.length)), .val (.int (Int32.ofNat (i + 1)))] rfl ?_
        refine g_goto X154 hx (hb hby d32_25) 3 (by decide) (by decide) ?_
        exact ih (i + 1) (own_mono X154 (by decide) (by decide)) e154 N154 (own_nextp hj hc16) (by omega)
      · refine g_iload X154 hx (hb hby d32_19) 21 rfl (v := (Int32.ofNat i)) rfl ?_
        refine Go.retI X154 hx hlk Bd.returns (hb hby d32_21) (by decide) (by decide) ?_
        show Quiu Z a1 p2 kb us h0 n0 _ T154.heap _
        rw [e154]
        exact ⟨(Int32.ofNat i), rfl, N154, rfl, ⟨fun q => absurd q (own_in (N := us.length) (by omega) (by omega)).1, fun q => absurd hc16 (q _ (own_gm us (by omega)))⟩⟩
  exact lp us.length 0 (own_mono X0 (by decide) (by decide)) e0 N0 (fun j q => absurd q (by omega)) (by omega)
theorem ef_uic (m : MethodId) (x0 : Addr) (x1 : Int32) (x2 : Int32) (x3 : Int32) : entryFrame m #[(.ref x0), (.int x1), (.int x2), (.int x3)] 4 = mkF m 0 #[.val (.ref x0), .val (.int x1), .val (.int x2), .val (.int x3)] [] := by first | (simp [entryFrame, mkF, argsToLocals, Value.category]; done) | rfl
theorem d27_0 : decode jdk_52_method_47_code 0 = .ok (.iload_n 2, 1) := by decide +kernel
theorem d27_1 : decode jdk_52_method_47_code 1 = .ok (.iload_n 3, 1) := by decide +kernel
theorem d27_2 : decode jdk_52_method_47_code 2 = .ok (.aload_n 0, 1) := by decide +kernel
theorem own_pd20 : parseMethodDescriptor "(II[B)V" = some ⟨[.int, .int, (.array .byte)], none⟩ := by decide +kernel
theorem d27_3 : decode jdk_52_method_47_code 3 = .ok (.invokestatic 96, 3) := by decide +kernel
theorem d27_6 : decode jdk_52_method_47_code 6 = .ok (.aload_n 0, 1) := by decide +kernel
theorem d27_7 : decode jdk_52_method_47_code 7 = .ok (.iload_n 1, 1) := by decide +kernel
theorem d27_8 : decode jdk_52_method_47_code 8 = .ok (.iload_n 2, 1) := by decide +kernel
theorem d27_9 : decode jdk_52_method_47_code 9 = .ok (.iload_n 3, 1) := by decide +kernel
theorem d27_10 : decode jdk_52_method_47_code 10 = .ok (.invokestatic 244, 3) := by decide +kernel
theorem d27_13 : decode jdk_52_method_47_code 13 = .ok (.ireturn, 1) := by decide +kernel
def Quic (Z : State) (a1 : Addr) (p2 : Int32) (sf : Value) (kb : ClassId) (us : List Int32) (h0 : Heap) (n0 : Nat) (v : Option Value) (h : Heap) (L : List Loc) : Prop := ∃ r : Int32, v = some (.int r) ∧ Fr n0 L ∧ h = h0 ∧ (r < 0 ↔ (∀ x ∈ us, ¬ x = p2))
set_option maxRecDepth 65536 in
set_option maxHeartbeats 40000000 in
theorem rmuic (l : Launch) (Z : State) (a0 : Array Value) (hw : ∀ d ∈ tables_1, d.before a0 Z = true) (ws : List Jvm.Cond) (a1 : Addr) (p2 : Int32) (sf : Value) (kb : ClassId) (us : List Int32) (h0 : Heap) (n0 : Nat) (Z0 : n0 ≤ h0.size) (S_assertionsDisabled : Sta Z h0 "java/lang/StringUTF16" "$assertionsDisabled" "Z" (.int (1 : Int32))) (S_HI_BYTE_SHIFT : Sta Z h0 "java/lang/StringUTF16" "HI_BYTE_SHIFT" "I" (.int (0 : Int32))) (S_LO_BYTE_SHIFT : Sta Z h0 "java/lang/StringUTF16" "LO_BYTE_SHIFT" "I" (.int (8 : Int32))) (S_SIOOBE_FORMATTER : Sta Z h0 "jdk/internal/util/Preconditions" "SIOOBE_FORMATTER" "Ljava/util/function/BiFunction;" sf) (A_a1 : Arv Z h0 a1 kb .byte (Int32.ofNat (2 * us.length)) (own_ub us) (.int (0 : Int32))) (hsf : sf.isRef = true) (hle : us.length ≤ 4) (hC : ∀ x ∈ us, own_C x) (hq0 : own_C p2) (hq9 : ¬ (255 : Int32) < p2) :
    MetFree l (⟨"java/lang/StringUTF16", "indexOfChar", "([BIII)I"⟩ : MethodName) (head1 (Jvm.Cond.code (⟨"java/lang/StringUTF16", "indexOfChar", "([BIII)I"⟩ : MethodName) jdk_52_method_47_code 4 (some .int) :: ws) ({ frames := 3, cells := 0, slots := 0, locals := 43 } : Room)) (fun a U => a = #[(.ref a1), (.int p2), (.int (0 : Int32)), (.int (Int32.ofNat us.length))] ∧ Z.Warmed39 U.vm ∧ U.heap = h0) (fun _ _ _ _ _ => True) (fun _ U o U' => ∃ v L, o = .returned v ∧ Quic Z a1 p2 sf kb us h0 n0 v U'.heap L ∧ FrameEnd U o U' L ({ frames := 3, cells := 0, slots := 0, locals := 43 } : Room).cells ({ frames := 3, cells := 0, slots := 0, locals := 43 } : Room).slots) := by
  refine MetFree.of_bodySF (plainFor_of_name own_pn_java_lang_StringUTF16) hisR ?_
  intro p e s m args below meth c s₁ Bd hml0 hP hK
  obtain ⟨rfl, hZ, hh⟩ := hP
  have hx := Bd.exec
  have hby := Bd.bytes
  have hlk := Bd.notSynchronized
  have hml : c.maxLocals = 4 := hml0
  have hown : s.vm.findClass "java/lang/StringUTF16" = some m.cls := findClass_of_methodNamed Bd.named
  have hnm := (name_of_methodNamed Bd.named Bd.method).1
  have X0 : Stand p l e ({ frames := 3, cells := 0, slots := 0, locals := 43 } : Room) s m #[(.ref a1), (.int p2), (.int (0 : Int32)), (.int (Int32.ofNat us.length))] below meth c s₁ [] 0 0 := Stand.of_body Bd
  have e0 : s₁.heap = h0 := by rw [← hh, Bd.state]; rfl
  have N0 := Fr.nil n0
  show Go p e below (KQ s below (Quic Z a1 p2 sf kb us h0 n0) ({ frames := 3, cells := 0, slots := 0, locals := 43 } : Room).cells ({ frames := 3, cells := 0, slots := 0, locals := 43 } : Room).slots) _
  refine Go.body (T := s₁) (σ := s₁) (g' := (mkF m 0 #[.val (.ref a1), .val (.int p2), .val (.int (0 : Int32)), .val (.int (Int32.ofNat us.length))] [])) (ef_uic m a1 p2 (0 : Int32) (Int32.ofNat us.length)) ?_
  refine g_iloadN X0 hx (hb hby d27_0) 1 rfl (v := (0 : Int32)) rfl ?_
  refine g_iloadN X0 hx (hb hby d27_1) 2 rfl (v := (Int32.ofNat us.length)) rfl ?_
  refine g_aloadN X0 hx (hb hby d27_2) 3 rfl (v := (.ref a1)) rfl rfl ?_
  obtain ⟨_, _, ⟨T155, L155, k155, n155⟩, -, X155, ⟨Lc155, hQ155, l155, y155, z155⟩, st155⟩ := Jvm.LawKit.callS X0 hx (y := (⟨"java/lang/StringUTF16", "checkBoundsBeginEnd", "(II[B)V"⟩ : MethodName)) hown (mvT hZ (hw _ (List.mem_of_getElem? (i := 121) rfl))) (mvT hZ (hw _ (List.mem_of_getElem? (i := 122) rfl))) (mvT hZ (hw _ (List.mem_of_getElem? (i := 39) rfl))) (mvT hZ (hw _ (List.mem_of_getElem? (i := 123) rfl))) (by decide) (backOf (W := 0) (rmcbb l Z a0 hw [] a1 sf kb us h0 n0 Z0 S_SIOOBE_FORMATTER A_a1 hsf hle) hZ (hw _ (List.mem_of_getElem? (i := 123) rfl)) (hw _ (List.mem_of_getElem? (i := 39) rfl)) (by decide) (by decide)) (g := (mkF m 3 #[.val (.ref a1), .val (.int p2), .val (.int (0 : Int32)), .val (.int (Int32.ofNat us.length))] [(.ref a1), (.int (Int32.ofNat us.length)), (.int (0 : Int32))])) rfl (by rw [hml]; rfl) (argsL := [(.int (0 : Int32)), (.int (Int32.ofNat us.length)), (.ref a1)]) (rest := []) (lenOf own_pd20 rfl) rfl (by show 2 * 0 + _ ≤ _; exact Nat.le_of_eq rfl) (hb hby d27_3) (fun _ _ => ⟨rfl, e0, (by decide : 0 + 0 ≤ _), (by decide : 0 + 0 ≤ _)⟩)
  dsimp only [Pt.U, Pt.locs, Pt.cells, Pt.slots] at X155 l155 y155 z155 st155 hQ155
  subst l155 y155 z155
  obtain ⟨rfl, Nq155, e155⟩ := hQ155
  refine Go.st st155 ?_
  have N155 := Fr.app N0 Nq155
  show Go p e below _ (T155.setTop (mkF m 6 #[.val (.ref a1), .val (.int p2), .val (.int (0 : Int32)), .val (.int (Int32.ofNat us.length))] []))
  refine g_aloadN X155 hx (hb hby d27_6) 7 rfl (v := (.ref a1)) rfl rfl ?_
  refine g_iloadN X155 hx (hb hby d27_7) 8 rfl (v := p2) rfl ?_
  refine g_iloadN X155 hx (hb hby d27_8) 9 rfl (v := (0 : Int32)) rfl ?_
  refine g_iloadN X155 hx (hb hby d27_9) 10 rfl (v := (Int32.ofNat us.length)) rfl ?_
  obtain ⟨_, _, ⟨T156, L156, k156, n156⟩, -, X156, ⟨Lc156, hQ156, l156, y156, z156⟩, st156⟩ := Jvm.LawKit.callS X155 hx (y := (⟨"java/lang/StringUTF16", "indexOfCharUnsafe", "([BIII)I"⟩ : MethodName)) hown (mvT hZ (hw _ (List.mem_of_getElem? (i := 135) rfl))) (mvT hZ (hw _ (List.mem_of_getElem? (i := 136) rfl))) (mvT hZ (hw _ (List.mem_of_getElem? (i := 39) rfl))) (mvT hZ (hw _ (List.mem_of_getElem? (i := 137) rfl))) (by decide) (backOf (W := 0) (rmuiu l Z a0 hw [] a1 p2 kb us h0 n0 Z0 S_assertionsDisabled S_HI_BYTE_SHIFT S_LO_BYTE_SHIFT A_a1 hle hC hq0 hq9) hZ (hw _ (List.mem_of_getElem? (i := 137) rfl)) (hw _ (List.mem_of_getElem? (i := 39) rfl)) (by decide) (by decide)) (g := (mkF m 10 #[.val (.ref a1), .val (.int p2), .val (.int (0 : Int32)), .val (.int (Int32.ofNat us.length))] [(.int (Int32.ofNat us.length)), (.int (0 : Int32)), (.int p2), (.ref a1)])) rfl (by rw [hml]; rfl) (argsL := [(.ref a1), (.int p2), (.int (0 : Int32)), (.int (Int32.ofNat us.length))]) (rest := []) (lenOf own_pd18 rfl) rfl (by show 2 * 0 + _ ≤ _; exact Nat.le_of_eq rfl) (hb hby d27_10) (fun _ _ => ⟨rfl, e155, (by decide : 0 + 0 ≤ _), (by decide : 0 + 0 ≤ _)⟩)
  dsimp only [Pt.U, Pt.locs, Pt.cells, Pt.slots] at X156 l156 y156 z156 st156 hQ156
  subst l156 y156 z156
  obtain ⟨r_156, rfl, Nq156, e156, p156_0⟩ := hQ156
  refine Go.st st156 ?_
  have N156 := Fr.app N155 Nq156
  show Go p e below _ (T156.setTop (mkF m 13 #[.val (.ref a1), .val (.int p2), .val (.int (0 : Int32)), .val (.int (Int32.ofNat us.length))] [(.int r_156)]))
  refine Go.retI X156 hx hlk Bd.returns (hb hby d27_13) (by decide) (by decide) ?_
  show Quic Z a1 p2 sf kb us h0 n0 _ T156.heap _
  rw [e156]
  exact ⟨r_156, rfl, N156, rfl, p156_0⟩
theorem ef_uix (m : MethodId) (x0 : Addr) (x1 : Int32) (x2 : Int32) (x3 : Int32) : entryFrame m #[(.ref x0), (.int x1), (.int x2), (.int x3)] 4 = mkF m 0 #[.val (.ref x0), .val (.int x1), .val (.int x2), .val (.int x3)] [] := by first | (simp [entryFrame, mkF, argsToLocals, Value.category]; done) | rfl
theorem d26_0 : decode jdk_52_method_40_code 0 = .ok (.iload_n 2, 1) := by decide +kernel
theorem d26_1 : decode jdk_52_method_40_code 1 = .ok (.iconst 0, 1) := by decide +kernel
theorem d26_2 : decode jdk_52_method_40_code 2 = .ok (.invokestatic 224, 3) := by decide +kernel
theorem d26_5 : decode jdk_52_method_40_code 5 = .ok (.istore_n 2, 1) := by decide +kernel
theorem d26_6 : decode jdk_52_method_40_code 6 = .ok (.iload_n 3, 1) := by decide +kernel
theorem d26_7 : decode jdk_52_method_40_code 7 = .ok (.aload_n 0, 1) := by decide +kernel
theorem d26_8 : decode jdk_52_method_40_code 8 = .ok (.arraylength, 1) := by decide +kernel
theorem d26_9 : decode jdk_52_method_40_code 9 = .ok (.iconst 1, 1) := by decide +kernel
theorem d26_10 : decode jdk_52_method_40_code 10 = .ok (.ishr, 1) := by decide +kernel
theorem d26_11 : decode jdk_52_method_40_code 11 = .ok (.invokestatic 183, 3) := by decide +kernel
theorem d26_14 : decode jdk_52_method_40_code 14 = .ok (.istore_n 3, 1) := by decide +kernel
theorem d26_15 : decode jdk_52_method_40_code 15 = .ok (.iload_n 2, 1) := by decide +kernel
theorem d26_16 : decode jdk_52_method_40_code 16 = .ok (.iload_n 3, 1) := by decide +kernel
theorem d26_17 : decode jdk_52_method_40_code 17 = .ok (.if_icmp .lt 5, 3) := by decide +kernel
theorem d26_22 : decode jdk_52_method_40_code 22 = .ok (.iload_n 1, 1) := by decide +kernel
theorem d26_23 : decode jdk_52_method_40_code 23 = .ok (.ldc 227, 2) := by decide +kernel
theorem d26_25 : decode jdk_52_method_40_code 25 = .ok (.if_icmp .ge 11, 3) := by decide +kernel
theorem d26_28 : decode jdk_52_method_40_code 28 = .ok (.aload_n 0, 1) := by decide +kernel
theorem d26_29 : decode jdk_52_method_40_code 29 = .ok (.iload_n 1, 1) := by decide +kernel
theorem d26_30 : decode jdk_52_method_40_code 30 = .ok (.iload_n 2, 1) := by decide +kernel
theorem d26_31 : decode jdk_52_method_40_code 31 = .ok (.iload_n 3, 1) := by decide +kernel
theorem d26_32 : decode jdk_52_method_40_code 32 = .ok (.invokestatic 228, 3) := by decide +kernel
theorem d26_35 : decode jdk_52_method_40_code 35 = .ok (.ireturn, 1) := by decide +kernel
def Quix (Z : State) (a1 : Addr) (p2 : Int32) (sf : Value) (kb : ClassId) (us : List Int32) (h0 : Heap) (n0 : Nat) (v : Option Value) (h : Heap) (L : List Loc) : Prop := ∃ r : Int32, v = some (.int r) ∧ Fr n0 L ∧ h = h0 ∧ (r < 0 ↔ (∀ x ∈ us, ¬ x = p2))
set_option maxRecDepth 65536 in
set_option maxHeartbeats 40000000 in
theorem rmuix (l : Launch) (Z : State) (a0 : Array Value) (hw : ∀ d ∈ tables_1, d.before a0 Z = true) (ws : List Jvm.Cond) (a1 : Addr) (p2 : Int32) (sf : Value) (kb : ClassId) (us : List Int32) (h0 : Heap) (n0 : Nat) (Z0 : n0 ≤ h0.size) (S_assertionsDisabled : Sta Z h0 "java/lang/StringUTF16" "$assertionsDisabled" "Z" (.int (1 : Int32))) (S_HI_BYTE_SHIFT : Sta Z h0 "java/lang/StringUTF16" "HI_BYTE_SHIFT" "I" (.int (0 : Int32))) (S_LO_BYTE_SHIFT : Sta Z h0 "java/lang/StringUTF16" "LO_BYTE_SHIFT" "I" (.int (8 : Int32))) (S_SIOOBE_FORMATTER : Sta Z h0 "jdk/internal/util/Preconditions" "SIOOBE_FORMATTER" "Ljava/util/function/BiFunction;" sf) (A_a1 : Arv Z h0 a1 kb .byte (Int32.ofNat (2 * us.length)) (own_ub us) (.int (0 : Int32))) (hsf : sf.isRef = true) (hpos : 0 < us.length) (hle : us.length ≤ 4) (hC : ∀ x ∈ us, own_C x) (hq0 : own_C p2) (hq9 : ¬ (255 : Int32) < p2) :
    MetFree l (⟨"java/lang/StringUTF16", "indexOf", "([BIII)I"⟩ : MethodName) (head1 (Jvm.Cond.code (⟨"java/lang/StringUTF16", "indexOf", "([BIII)I"⟩ : MethodName) jdk_52_method_40_code 4 (some .int) :: ws) ({ frames := 4, cells := 0, slots := 0, locals := 58 } : Room)) (fun a U => a = #[(.ref a1), (.int p2), (.int (0 : Int32)), (.int (Int32.ofNat us.length))] ∧ Z.Warmed39 U.vm ∧ U.heap = h0) (fun _ _ _ _ _ => True) (fun _ U o U' => ∃ v L, o = .returned v ∧ Quix Z a1 p2 sf kb us h0 n0 v U'.heap L ∧ FrameEnd U o U' L ({ frames := 4, cells := 0, slots := 0, locals := 58 } : Room).cells ({ frames := 4, cells := 0, slots := 0, locals := 58 } : Room).slots) := by
  refine MetFree.of_bodySF (plainFor_of_name own_pn_java_lang_StringUTF16) hisR ?_
  intro p e s m args below meth c s₁ Bd hml0 hP hK
  obtain ⟨rfl, hZ, hh⟩ := hP
  have hx := Bd.exec
  have hby := Bd.bytes
  have hlk := Bd.notSynchronized
  have hml : c.maxLocals = 4 := hml0
  have hown : s.vm.findClass "java/lang/StringUTF16" = some m.cls := findClass_of_methodNamed Bd.named
  have hnm := (name_of_methodNamed Bd.named Bd.method).1
  have X0 : Stand p l e ({ frames := 4, cells := 0, slots := 0, locals := 58 } : Room) s m #[(.ref a1), (.int p2), (.int (0 : Int32)), (.int (Int32.ofNat us.length))] below meth c s₁ [] 0 0 := Stand.of_body Bd
  have e0 : s₁.heap = h0 := by rw [← hh, Bd.state]; rfl
  have N0 := Fr.nil n0
  show Go p e below (KQ s below (Quix Z a1 p2 sf kb us h0 n0) ({ frames := 4, cells := 0, slots := 0, locals := 58 } : Room).cells ({ frames := 4, cells := 0, slots := 0, locals := 58 } : Room).slots) _
  refine Go.body (T := s₁) (σ := s₁) (g' := (mkF m 0 #[.val (.ref a1), .val (.int p2), .val (.int (0 : Int32)), .val (.int (Int32.ofNat us.length))] [])) (ef_uix m a1 p2 (0 : Int32) (Int32.ofNat us.length)) ?_
  refine g_iloadN X0 hx (hb hby d26_0) 1 rfl (v := (0 : Int32)) rfl ?_
  refine g_iconst X0 hx (hb hby d26_1) 2 rfl (0 : Int32) rfl ?_
  obtain ⟨_, _, ⟨T157, L157, k157, n157⟩, -, X157, ⟨Lc157, hQ157, l157, y157, z157⟩, st157⟩ := Jvm.LawKit.callS X0 hx (y := (⟨"java/lang/Math", "max", "(II)I"⟩ : MethodName)) hown (mvT hZ (hw _ (List.mem_of_getElem? (i := 115) rfl))) (mvT hZ (hw _ (List.mem_of_getElem? (i := 83) rfl))) (mvT hZ (hw _ (List.mem_of_getElem? (i := 84) rfl))) (mvT hZ (hw _ (List.mem_of_getElem? (i := 85) rfl))) (by decide) (backOf (W := 0) (rmmx0 l Z a0 hw []  h0 n0 Z0 ) hZ (hw _ (List.mem_of_getElem? (i := 85) rfl)) (hw _ (List.mem_of_getElem? (i := 84) rfl)) (by decide) (by decide)) (g := (mkF m 2 #[.val (.ref a1), .val (.int p2), .val (.int (0 : Int32)), .val (.int (Int32.ofNat us.length))] [(.int (0 : Int32)), (.int (0 : Int32))])) rfl (by rw [hml]; rfl) (argsL := [(.int (0 : Int32)), (.int (0 : Int32))]) (rest := []) (lenOf own_pd17 rfl) rfl (by show 2 * 0 + _ ≤ _; exact Nat.le_of_eq rfl) (hb hby d26_2) (fun _ _ => ⟨rfl, e0, (by decide : 0 + 0 ≤ _), (by decide : 0 + 0 ≤ _)⟩)
  dsimp only [Pt.U, Pt.locs, Pt.cells, Pt.slots] at X157 l157 y157 z157 st157 hQ157
  subst l157 y157 z157
  obtain ⟨rfl, Nq157, e157⟩ := hQ157
  refine Go.st st157 ?_
  have N157 := Fr.app N0 Nq157
  show Go p e below _ (T157.setTop (mkF m 5 #[.val (.ref a1), .val (.int p2), .val (.int (0 : Int32)), .val (.int (Int32.ofNat us.length))] [(.int (0 : Int32))]))
  refine g_istoreN X157 hx (hb hby d26_5) 6 rfl #[.val (.ref a1), .val (.int p2), .val (.int (0 : Int32)), .val (.int (Int32.ofNat us.length))] rfl ?_
  refine g_iloadN X157 hx (hb hby d26_6) 7 rfl (v := (Int32.ofNat us.length)) rfl ?_
  refine g_aloadN X157 hx (hb hby d26_7) 8 rfl (v := (.ref a1)) rfl rfl ?_
  refine g_alen X157 hx (hb hby d26_8) 9 rfl hZ e157 A_a1 ?_
  refine g_iconst X157 hx (hb hby d26_9) 10 rfl (1 : Int32) rfl ?_
  refine g_ishr X157 hx (hb hby d26_10) 11 rfl (Int32.ofNat us.length) (own_shr1 hle) ?_
  obtain ⟨_, _, ⟨T159, L159, k159, n159⟩, -, X159, ⟨Lc159, hQ159, l159, y159, z159⟩, st159⟩ := Jvm.LawKit.callS X157 hx (y := (⟨"java/lang/Math", "min", "(II)I"⟩ : MethodName)) hown (mvT hZ (hw _ (List.mem_of_getElem? (i := 116) rfl))) (mvT hZ (hw _ (List.mem_of_getElem? (i := 87) rfl))) (mvT hZ (hw _ (List.mem_of_getElem? (i := 84) rfl))) (mvT hZ (hw _ (List.mem_of_getElem? (i := 88) rfl))) (by decide) (backOf (W := 0) (rmmn l Z a0 hw [] (Int32.ofNat us.length) (Int32.ofNat us.length) h0 n0 Z0 rfl) hZ (hw _ (List.mem_of_getElem? (i := 88) rfl)) (hw _ (List.mem_of_getElem? (i := 84) rfl)) (by decide) (by decide)) (g := (mkF m 11 #[.val (.ref a1), .val (.int p2), .val (.int (0 : Int32)), .val (.int (Int32.ofNat us.length))] [(.int (Int32.ofNat us.length)), (.int (Int32.ofNat us.length))])) rfl (by rw [hml]; rfl) (argsL := [(.int (Int32.ofNat us.length)), (.int (Int32.ofNat us.length))]) (rest := []) (lenOf own_pd17 rfl) rfl (by show 2 * 0 + _ ≤ _; exact Nat.le_of_eq rfl) (hb hby d26_11) (fun _ _ => ⟨rfl, e157, (by decide : 0 + 0 ≤ _), (by decide : 0 + 0 ≤ _)⟩)
  dsimp only [Pt.U, Pt.locs, Pt.cells, Pt.slots] at X159 l159 y159 z159 st159 hQ159
  subst l159 y159 z159
  obtain ⟨rfl, Nq159, e159⟩ := hQ159
  refine Go.st st159 ?_
  have N159 := Fr.app N157 Nq159
  show Go p e below _ (T159.setTop (mkF m 14 #[.val (.ref a1), .val (.int p2), .val (.int (0 : Int32)), .val (.int (Int32.ofNat us.length))] [(.int (Int32.ofNat us.length))]))
  refine g_istoreN X159 hx (hb hby d26_14) 15 rfl #[.val (.ref a1), .val (.int p2), .val (.int (0 : Int32)), .val (.int (Int32.ofNat us.length))] rfl ?_
  refine g_iloadN X159 hx (hb hby d26_15) 16 rfl (v := (0 : Int32)) rfl ?_
  refine g_iloadN X159 hx (hb hby d26_16) 17 rfl (v := (Int32.ofNat us.length)) rfl ?_
  refine g_icmp_lt X159 hx (hb hby d26_17) 22 20 (by decide) (by decide) rfl (fun hc17 => ?_) (fun hc17 => False.elim (hc17 (own_in (j := 0) (by omega) hpos).2))
  refine g_iloadN X159 hx (hb hby d26_22) 23 rfl (v := p2) rfl ?_
  refine Go.st (X159.ldcInt hx hown (mvT hZ (hw _ (List.mem_of_getElem? (i := 117) rfl))) (g := (mkF m 23 #[.val (.ref a1), .val (.int p2), .val (.int (0 : Int32)), .val (.int (Int32.ofNat us.length))] [(.int p2)])) rfl (hb hby d26_23)) ?_
  show Go p e below _ (T159.setTop (mkF m 25 #[.val (.ref a1), .val (.int p2), .val (.int (0 : Int32)), .val (.int (Int32.ofNat us.length))] [(.int (65536 : Int32)), (.int p2)]))
  refine g_icmp_ge X159 hx (hb hby d26_25) 36 28 (by decide) (by decide) rfl (fun hc25 => False.elim (hc25 (own_C9 hq9))) (fun hc25 => ?_)
  refine g_aloadN X159 hx (hb hby d26_28) 29 rfl (v := (.ref a1)) rfl rfl ?_
  refine g_iloadN X159 hx (hb hby d26_29) 30 rfl (v := p2) rfl ?_
  refine g_iloadN X159 hx (hb hby d26_30) 31 rfl (v := (0 : Int32)) rfl ?_
  refine g_iloadN X159 hx (hb hby d26_31) 32 rfl (v := (Int32.ofNat us.length)) rfl ?_
  obtain ⟨_, _, ⟨T160, L160, k160, n160⟩, -, X160, ⟨Lc160, hQ160, l160, y160, z160⟩, st160⟩ := Jvm.LawKit.callS X159 hx (y := (⟨"java/lang/StringUTF16", "indexOfChar", "([BIII)I"⟩ : MethodName)) hown (mvT hZ (hw _ (List.mem_of_getElem? (i := 118) rfl))) (mvT hZ (hw _ (List.mem_of_getElem? (i := 119) rfl))) (mvT hZ (hw _ (List.mem_of_getElem? (i := 39) rfl))) (mvT hZ (hw _ (List.mem_of_getElem? (i := 120) rfl))) (by decide) (backOf (W := 0) (rmuic l Z a0 hw [] a1 p2 sf kb us h0 n0 Z0 S_assertionsDisabled S_HI_BYTE_SHIFT S_LO_BYTE_SHIFT S_SIOOBE_FORMATTER A_a1 hsf hle hC hq0 hq9) hZ (hw _ (List.mem_of_getElem? (i := 120) rfl)) (hw _ (List.mem_of_getElem? (i := 39) rfl)) (by decide) (by decide)) (g := (mkF m 32 #[.val (.ref a1), .val (.int p2), .val (.int (0 : Int32)), .val (.int (Int32.ofNat us.length))] [(.int (Int32.ofNat us.length)), (.int (0 : Int32)), (.int p2), (.ref a1)])) rfl (by rw [hml]; rfl) (argsL := [(.ref a1), (.int p2), (.int (0 : Int32)), (.int (Int32.ofNat us.length))]) (rest := []) (lenOf own_pd18 rfl) rfl (by show 2 * 0 + _ ≤ _; exact Nat.le_of_eq rfl) (hb hby d26_32) (fun _ _ => ⟨rfl, e159, (by decide : 0 + 0 ≤ _), (by decide : 0 + 0 ≤ _)⟩)
  dsimp only [Pt.U, Pt.locs, Pt.cells, Pt.slots] at X160 l160 y160 z160 st160 hQ160
  subst l160 y160 z160
  obtain ⟨r_160, rfl, Nq160, e160, p160_0⟩ := hQ160
  refine Go.st st160 ?_
  have N160 := Fr.app N159 Nq160
  show Go p e below _ (T160.setTop (mkF m 35 #[.val (.ref a1), .val (.int p2), .val (.int (0 : Int32)), .val (.int (Int32.ofNat us.length))] [(.int r_160)]))
  refine Go.retI X160 hx hlk Bd.returns (hb hby d26_35) (by decide) (by decide) ?_
  show Quix Z a1 p2 sf kb us h0 n0 _ T160.heap _
  rw [e160]
  exact ⟨r_160, rfl, N160, rfl, p160_0⟩
theorem ef_si2U (m : MethodId) (x0 : Addr) (x1 : Int32) (x2 : Int32) : entryFrame m #[(.ref x0), (.int x1), (.int x2)] 3 = mkF m 0 #[.val (.ref x0), .val (.int x1), .val (.int x2)] [] := by first | (simp [entryFrame, mkF, argsToLocals, Value.category]; done) | rfl
theorem d12_23 : decode jdk_42_method_80_code 23 = .ok (.aload_n 0, 1) := by decide +kernel
theorem d12_24 : decode jdk_42_method_80_code 24 = .ok (.getfield 9, 3) := by decide +kernel
theorem d12_27 : decode jdk_42_method_80_code 27 = .ok (.iload_n 1, 1) := by decide +kernel
theorem d12_28 : decode jdk_42_method_80_code 28 = .ok (.iload_n 2, 1) := by decide +kernel
theorem d12_29 : decode jdk_42_method_80_code 29 = .ok (.aload_n 0, 1) := by decide +kernel
theorem d12_30 : decode jdk_42_method_80_code 30 = .ok (.invokevirtual 505, 3) := by decide +kernel
theorem d12_33 : decode jdk_42_method_80_code 33 = .ok (.invokestatic 640, 3) := by decide +kernel
def Qsi2U (Z : State) (a1 : Addr) (p2 : Int32) (cs : Int32) (sf : Value) (vb : Addr) (kb : ClassId) (us : List Int32) (h0 : Heap) (n0 : Nat) (v : Option Value) (h : Heap) (L : List Loc) : Prop := ∃ r : Int32, v = some (.int r) ∧ Fr n0 L ∧ h = h0 ∧ (r < 0 ↔ (∀ x ∈ us, ¬ x = p2))
set_option maxRecDepth 65536 in
set_option maxHeartbeats 40000000 in
theorem rmsi2U (l : Launch) (Z : State) (a0 : Array Value) (hw : ∀ d ∈ tables_1, d.before a0 Z = true) (ws : List Jvm.Cond) (a1 : Addr) (p2 : Int32) (cs : Int32) (sf : Value) (vb : Addr) (kb : ClassId) (us : List Int32) (h0 : Heap) (n0 : Nat) (Z0 : n0 ≤ h0.size) (S_COMPACT_STRINGS : Sta Z h0 "java/lang/String" "COMPACT_STRINGS" "Z" (.int cs)) (S_assertionsDisabled : Sta Z h0 "java/lang/StringUTF16" "$assertionsDisabled" "Z" (.int (1 : Int32))) (S_HI_BYTE_SHIFT : Sta Z h0 "java/lang/StringUTF16" "HI_BYTE_SHIFT" "I" (.int (0 : Int32))) (S_LO_BYTE_SHIFT : Sta Z h0 "java/lang/StringUTF16" "LO_BYTE_SHIFT" "I" (.int (8 : Int32))) (S_SIOOBE_FORMATTER : Sta Z h0 "jdk/internal/util/Preconditions" "SIOOBE_FORMATTER" "Ljava/util/function/BiFunction;" sf) (E_a1 : Exa Z h0 a1 "java/lang/String") (F_value_a1 : Fld Z h0 a1 "java/lang/String" "value" "[B" (.ref vb)) (F_coder_a1 : Fld Z h0 a1 "java/lang/String" "coder" "B" (.int (1 : Int32))) (A_vb : Arv Z h0 vb kb .byte (Int32.ofNat (2 * us.length)) (own_ub us) (.int (0 : Int32))) (hcs : ¬ cs = 0) (hsf : sf.isRef = true) (hpos : 0 < us.length) (hle : us.length ≤ 4) (hC : ∀ x ∈ us, own_C x) (hq0 : own_C p2) (hq9 : ¬ (255 : Int32) < p2) :
    MetFree l (⟨"java/lang/String", "indexOf", "(II)I"⟩ : MethodName) (head1 (Jvm.Cond.code (⟨"java/lang/String", "indexOf", "(II)I"⟩ : MethodName) jdk_42_method_80_code 3 (some .int) :: ws) ({ frames := 5, cells := 0, slots := 0, locals := 73 } : Room)) (fun a U => a = #[(.ref a1), (.int p2), (.int (0 : Int32))] ∧ Z.Warmed39 U.vm ∧ U.heap = h0) (fun _ _ _ _ _ => True) (fun _ U o U' => ∃ v L, o = .returned v ∧ Qsi2U Z a1 p2 cs sf vb kb us h0 n0 v U'.heap L ∧ FrameEnd U o U' L ({ frames := 5, cells := 0, slots := 0, locals := 73 } : Room).cells ({ frames := 5, cells := 0, slots := 0, locals := 73 } : Room).slots) := by
  refine MetFree.of_bodySF (plainFor_of_name own_pn_java_lang_String) hisR ?_
  intro p e s m args below meth c s₁ Bd hml0 hP hK
  obtain ⟨rfl, hZ, hh⟩ := hP
  have hx := Bd.exec
  have hby := Bd.bytes
  have hlk := Bd.notSynchronized
  have hml : c.maxLocals = 3 := hml0
  have hown : s.vm.findClass "java/lang/String" = some m.cls := findClass_of_methodNamed Bd.named
  have hnm := (name_of_methodNamed Bd.named Bd.method).1
  have X0 : Stand p l e ({ frames := 5, cells := 0, slots := 0, locals := 73 } : Room) s m #[(.ref a1), (.int p2), (.int (0 : Int32))] below meth c s₁ [] 0 0 := Stand.of_body Bd
  have e0 : s₁.heap = h0 := by rw [← hh, Bd.state]; rfl
  have N0 := Fr.nil n0
  show Go p e below (KQ s below (Qsi2U Z a1 p2 cs sf vb kb us h0 n0) ({ frames := 5, cells := 0, slots := 0, locals := 73 } : Room).cells ({ frames := 5, cells := 0, slots := 0, locals := 73 } : Room).slots) _
  refine Go.body (T := s₁) (σ := s₁) (g' := (mkF m 0 #[.val (.ref a1), .val (.int p2), .val (.int (0 : Int32))] [])) (ef_si2U m a1 p2 (0 : Int32)) ?_
  refine g_aloadN X0 hx (hb hby d12_0) 1 rfl (v := (.ref a1)) rfl rfl ?_
  obtain ⟨cq161, kq161, q161a, q161b, q161c⟩ := isOf hZ e0 E_a1
  obtain ⟨_, _, ⟨T161, L161, k161, n161⟩, -, X161, ⟨Lc161, hQ161, l161, y161, z161⟩, st161⟩ := X0.virtualBack hx (y := (⟨"java/lang/String", "isLatin1", "()Z"⟩ : MethodName)) (z := (⟨"java/lang/String", "isLatin1", "()Z"⟩ : MethodName)) hown (mvT hZ (hw _ (List.mem_of_getElem? (i := 60) rfl))) (mvT hZ (hw _ (List.mem_of_getElem? (i := 61) rfl))) (notFace_of_selects (args := #[]) (mvT hZ (hw _ (List.mem_of_getElem? (i := 63) rfl)))) (mvT hZ (hw _ (List.mem_of_getElem? (i := 63) rfl))) (mvT hZ (hw _ (List.mem_of_getElem? (i := 62) rfl))) (by decide) (backOf (W := 0) (rmislU l Z a0 hw [] a1 cs h0 n0 Z0 S_COMPACT_STRINGS F_coder_a1 hcs) hZ (hw _ (List.mem_of_getElem? (i := 64) rfl)) (hw _ (List.mem_of_getElem? (i := 7) rfl)) (by decide) (by decide)) q161a q161c (g := (mkF m 1 #[.val (.ref a1), .val (.int p2), .val (.int (0 : Int32))] [(.ref a1)])) rfl (by rw [hml]; rfl) (Steps.refl _) (argsL := []) (rest := []) (lenOf own_pd14 rfl) rfl (by show 2 * 0 + _ ≤ _; exact Nat.le_of_eq rfl) (hb hby d12_1) (fun _ _ => ⟨rfl, e0, (by decide : 0 + 0 ≤ _), (by decide : 0 + 0 ≤ _)⟩)
  dsimp only [Pt.U, Pt.locs, Pt.cells, Pt.slots] at X161 l161 y161 z161 st161 hQ161
  subst l161 y161 z161
  obtain ⟨rfl, Nq161, e161⟩ := hQ161
  refine Go.tr st161 ?_
  have N161 := Fr.app N0 Nq161
  show Go p e below _ (T161.setTop (mkF m 4 #[.val (.ref a1), .val (.int p2), .val (.int (0 : Int32))] [(.int (0 : Int32))]))
  refine g_if_eq X161 hx (hb hby d12_4) 23 7 (by decide) (by decide) rfl (fun hc4 => ?_) (fun hc4 => False.elim (absurd rfl hc4))
  refine g_aloadN X161 hx (hb hby d12_23) 24 rfl (v := (.ref a1)) rfl rfl ?_
  obtain ⟨T162, X162, e162, st162⟩ := getF X161 hx hZ hown (host := "") (Or.inl (hw _ (List.mem_of_getElem? (i := 25) rfl))) Via.refl e161 F_value_a1 (g := (mkF m 24 #[.val (.ref a1), .val (.int p2), .val (.int (0 : Int32))] [(.ref a1)])) rfl rfl (hb hby d12_24)
  refine Go.st st162 ?_
  show Go p e below _ (T162.setTop (mkF m 27 #[.val (.ref a1), .val (.int p2), .val (.int (0 : Int32))] [(.ref vb)]))
  refine g_iloadN X162 hx (hb hby d12_27) 28 rfl (v := p2) rfl ?_
  refine g_iloadN X162 hx (hb hby d12_28) 29 rfl (v := (0 : Int32)) rfl ?_
  refine g_aloadN X162 hx (hb hby d12_29) 30 rfl (v := (.ref a1)) rfl rfl ?_
  obtain ⟨cq163, kq163, q163a, q163b, q163c⟩ := isOf hZ e162 E_a1
  obtain ⟨_, _, ⟨T163, L163, k163, n163⟩, -, X163, ⟨Lc163, hQ163, l163, y163, z163⟩, st163⟩ := X162.virtualBack hx (y := (⟨"java/lang/String", "length", "()I"⟩ : MethodName)) (z := (⟨"java/lang/String", "length", "()I"⟩ : MethodName)) hown (mvT hZ (hw _ (List.mem_of_getElem? (i := 65) rfl))) (mvT hZ (hw _ (List.mem_of_getElem? (i := 66) rfl))) (notFace_of_selects (args := #[]) (mvT hZ (hw _ (List.mem_of_getElem? (i := 68) rfl)))) (mvT hZ (hw _ (List.mem_of_getElem? (i := 68) rfl))) (mvT hZ (hw _ (List.mem_of_getElem? (i := 67) rfl))) (by decide) (backOf (W := 3) (rmlenU l Z a0 hw [] a1 cs vb kb us h0 n0 Z0 S_COMPACT_STRINGS E_a1 F_value_a1 F_coder_a1 A_vb hcs hle) hZ (hw _ (List.mem_of_getElem? (i := 69) rfl)) (hw _ (List.mem_of_getElem? (i := 7) rfl)) (by decide) (by decide)) q163a q163c (g := (mkF m 30 #[.val (.ref a1), .val (.int p2), .val (.int (0 : Int32))] [(.ref a1), (.int (0 : Int32)), (.int p2), (.ref vb)])) rfl (by rw [hml]; rfl) (Steps.refl _) (argsL := []) (rest := [(.int (0 : Int32)), (.int p2), (.ref vb)]) (lenOf own_pd19 rfl) rfl (by show 2 * 0 + _ ≤ _; exact Nat.le_of_eq rfl) (hb hby d12_30) (fun _ _ => ⟨rfl, e162, (by decide : 0 + 0 ≤ _), (by decide : 0 + 0 ≤ _)⟩)
  dsimp only [Pt.U, Pt.locs, Pt.cells, Pt.slots] at X163 l163 y163 z163 st163 hQ163
  subst l163 y163 z163
  obtain ⟨rfl, Nq163, e163⟩ := hQ163
  refine Go.tr st163 ?_
  have N163 := Fr.app N161 Nq163
  show Go p e below _ (T163.setTop (mkF m 33 #[.val (.ref a1), .val (.int p2), .val (.int (0 : Int32))] [(.int (Int32.ofNat us.length)), (.int (0 : Int32)), (.int p2), (.ref vb)]))
  obtain ⟨_, _, ⟨T164, L164, k164, n164⟩, -, X164, ⟨Lc164, hQ164, l164, y164, z164⟩, st164⟩ := Jvm.LawKit.callS X163 hx (y := (⟨"java/lang/StringUTF16", "indexOf", "([BIII)I"⟩ : MethodName)) hown (mvT hZ (hw _ (List.mem_of_getElem? (i := 112) rfl))) (mvT hZ (hw _ (List.mem_of_getElem? (i := 113) rfl))) (mvT hZ (hw _ (List.mem_of_getElem? (i := 39) rfl))) (mvT hZ (hw _ (List.mem_of_getElem? (i := 114) rfl))) (by decide) (backOf (W := 0) (rmuix l Z a0 hw [] vb p2 sf kb us h0 n0 Z0 S_assertionsDisabled S_HI_BYTE_SHIFT S_LO_BYTE_SHIFT S_SIOOBE_FORMATTER A_vb hsf hpos hle hC hq0 hq9) hZ (hw _ (List.mem_of_getElem? (i := 114) rfl)) (hw _ (List.mem_of_getElem? (i := 39) rfl)) (by decide) (by decide)) (g := (mkF m 33 #[.val (.ref a1), .val (.int p2), .val (.int (0 : Int32))] [(.int (Int32.ofNat us.length)), (.int (0 : Int32)), (.int p2), (.ref vb)])) rfl (by rw [hml]; rfl) (argsL := [(.ref vb), (.int p2), (.int (0 : Int32)), (.int (Int32.ofNat us.length))]) (rest := []) (lenOf own_pd18 rfl) rfl (by show 2 * 0 + _ ≤ _; exact Nat.le_of_eq rfl) (hb hby d12_33) (fun _ _ => ⟨rfl, e163, (by decide : 0 + 0 ≤ _), (by decide : 0 + 0 ≤ _)⟩)
  dsimp only [Pt.U, Pt.locs, Pt.cells, Pt.slots] at X164 l164 y164 z164 st164 hQ164
  subst l164 y164 z164
  obtain ⟨r_164, rfl, Nq164, e164, p164_0⟩ := hQ164
  refine Go.st st164 ?_
  have N164 := Fr.app N163 Nq164
  show Go p e below _ (T164.setTop (mkF m 36 #[.val (.ref a1), .val (.int p2), .val (.int (0 : Int32))] [(.int r_164)]))
  refine Go.retI X164 hx hlk Bd.returns (hb hby d12_36) (by decide) (by decide) ?_
  show Qsi2U Z a1 p2 cs sf vb kb us h0 n0 _ T164.heap _
  rw [e164]
  exact ⟨r_164, rfl, N164, rfl, p164_0⟩
theorem ef_si1U (m : MethodId) (x0 : Addr) (x1 : Int32) : entryFrame m #[(.ref x0), (.int x1)] 2 = mkF m 0 #[.val (.ref x0), .val (.int x1)] [] := by first | (simp [entryFrame, mkF, argsToLocals, Value.category]; done) | rfl
def Qsi1U (Z : State) (a1 : Addr) (p2 : Int32) (cs : Int32) (sf : Value) (vb : Addr) (kb : ClassId) (us : List Int32) (h0 : Heap) (n0 : Nat) (v : Option Value) (h : Heap) (L : List Loc) : Prop := ∃ r : Int32, v = some (.int r) ∧ Fr n0 L ∧ h = h0 ∧ (r < 0 ↔ (∀ x ∈ us, ¬ x = p2))
set_option maxRecDepth 65536 in
set_option maxHeartbeats 40000000 in
theorem rmsi1U (l : Launch) (Z : State) (a0 : Array Value) (hw : ∀ d ∈ tables_1, d.before a0 Z = true) (ws : List Jvm.Cond) (a1 : Addr) (p2 : Int32) (cs : Int32) (sf : Value) (vb : Addr) (kb : ClassId) (us : List Int32) (h0 : Heap) (n0 : Nat) (Z0 : n0 ≤ h0.size) (S_COMPACT_STRINGS : Sta Z h0 "java/lang/String" "COMPACT_STRINGS" "Z" (.int cs)) (S_assertionsDisabled : Sta Z h0 "java/lang/StringUTF16" "$assertionsDisabled" "Z" (.int (1 : Int32))) (S_HI_BYTE_SHIFT : Sta Z h0 "java/lang/StringUTF16" "HI_BYTE_SHIFT" "I" (.int (0 : Int32))) (S_LO_BYTE_SHIFT : Sta Z h0 "java/lang/StringUTF16" "LO_BYTE_SHIFT" "I" (.int (8 : Int32))) (S_SIOOBE_FORMATTER : Sta Z h0 "jdk/internal/util/Preconditions" "SIOOBE_FORMATTER" "Ljava/util/function/BiFunction;" sf) (E_a1 : Exa Z h0 a1 "java/lang/String") (F_value_a1 : Fld Z h0 a1 "java/lang/String" "value" "[B" (.ref vb)) (F_coder_a1 : Fld Z h0 a1 "java/lang/String" "coder" "B" (.int (1 : Int32))) (A_vb : Arv Z h0 vb kb .byte (Int32.ofNat (2 * us.length)) (own_ub us) (.int (0 : Int32))) (hcs : ¬ cs = 0) (hsf : sf.isRef = true) (hpos : 0 < us.length) (hle : us.length ≤ 4) (hC : ∀ x ∈ us, own_C x) (hq0 : own_C p2) (hq9 : ¬ (255 : Int32) < p2) :
    MetFree l (⟨"java/lang/String", "indexOf", "(I)I"⟩ : MethodName) (head1 (Jvm.Cond.code (⟨"java/lang/String", "indexOf", "(I)I"⟩ : MethodName) jdk_42_method_79_code 2 (some .int) :: ws) ({ frames := 6, cells := 0, slots := 0, locals := 87 } : Room)) (fun a U => a = #[(.ref a1), (.int p2)] ∧ Z.Warmed39 U.vm ∧ U.heap = h0) (fun _ _ _ _ _ => True) (fun _ U o U' => ∃ v L, o = .returned v ∧ Qsi1U Z a1 p2 cs sf vb kb us h0 n0 v U'.heap L ∧ FrameEnd U o U' L ({ frames := 6, cells := 0, slots := 0, locals := 87 } : Room).cells ({ frames := 6, cells := 0, slots := 0, locals := 87 } : Room).slots) := by
  refine MetFree.of_bodySF (plainFor_of_name own_pn_java_lang_String) hisR ?_
  intro p e s m args below meth c s₁ Bd hml0 hP hK
  obtain ⟨rfl, hZ, hh⟩ := hP
  have hx := Bd.exec
  have hby := Bd.bytes
  have hlk := Bd.notSynchronized
  have hml : c.maxLocals = 2 := hml0
  have hown : s.vm.findClass "java/lang/String" = some m.cls := findClass_of_methodNamed Bd.named
  have hnm := (name_of_methodNamed Bd.named Bd.method).1
  have X0 : Stand p l e ({ frames := 6, cells := 0, slots := 0, locals := 87 } : Room) s m #[(.ref a1), (.int p2)] below meth c s₁ [] 0 0 := Stand.of_body Bd
  have e0 : s₁.heap = h0 := by rw [← hh, Bd.state]; rfl
  have N0 := Fr.nil n0
  show Go p e below (KQ s below (Qsi1U Z a1 p2 cs sf vb kb us h0 n0) ({ frames := 6, cells := 0, slots := 0, locals := 87 } : Room).cells ({ frames := 6, cells := 0, slots := 0, locals := 87 } : Room).slots) _
  refine Go.body (T := s₁) (σ := s₁) (g' := (mkF m 0 #[.val (.ref a1), .val (.int p2)] [])) (ef_si1U m a1 p2) ?_
  refine g_aloadN X0 hx (hb hby d11_0) 1 rfl (v := (.ref a1)) rfl rfl ?_
  refine g_iloadN X0 hx (hb hby d11_1) 2 rfl (v := p2) rfl ?_
  refine g_iconst X0 hx (hb hby d11_2) 3 rfl (0 : Int32) rfl ?_
  obtain ⟨cq165, kq165, q165a, q165b, q165c⟩ := isOf hZ e0 E_a1
  obtain ⟨_, _, ⟨T165, L165, k165, n165⟩, -, X165, ⟨Lc165, hQ165, l165, y165, z165⟩, st165⟩ := X0.virtualBack hx (y := (⟨"java/lang/String", "indexOf", "(II)I"⟩ : MethodName)) (z := (⟨"java/lang/String", "indexOf", "(II)I"⟩ : MethodName)) hown (mvT hZ (hw _ (List.mem_of_getElem? (i := 55) rfl))) (mvT hZ (hw _ (List.mem_of_getElem? (i := 56) rfl))) (notFace_of_selects (args := #[]) (mvT hZ (hw _ (List.mem_of_getElem? (i := 58) rfl)))) (mvT hZ (hw _ (List.mem_of_getElem? (i := 58) rfl))) (mvT hZ (hw _ (List.mem_of_getElem? (i := 57) rfl))) (by decide) (backOf (W := 0) (rmsi2U l Z a0 hw [] a1 p2 cs sf vb kb us h0 n0 Z0 S_COMPACT_STRINGS S_assertionsDisabled S_HI_BYTE_SHIFT S_LO_BYTE_SHIFT S_SIOOBE_FORMATTER E_a1 F_value_a1 F_coder_a1 A_vb hcs hsf hpos hle hC hq0 hq9) hZ (hw _ (List.mem_of_getElem? (i := 59) rfl)) (hw _ (List.mem_of_getElem? (i := 7) rfl)) (by decide) (by decide)) q165a q165c (g := (mkF m 3 #[.val (.ref a1), .val (.int p2)] [(.int (0 : Int32)), (.int p2), (.ref a1)])) rfl (by rw [hml]; rfl) (Steps.refl _) (argsL := [(.int p2), (.int (0 : Int32))]) (rest := []) (lenOf own_pd17 rfl) rfl (by show 2 * 0 + _ ≤ _; exact Nat.le_of_eq rfl) (hb hby d11_3) (fun _ _ => ⟨rfl, e0, (by decide : 0 + 0 ≤ _), (by decide : 0 + 0 ≤ _)⟩)
  dsimp only [Pt.U, Pt.locs, Pt.cells, Pt.slots] at X165 l165 y165 z165 st165 hQ165
  subst l165 y165 z165
  obtain ⟨r_165, rfl, Nq165, e165, p165_0⟩ := hQ165
  refine Go.tr st165 ?_
  have N165 := Fr.app N0 Nq165
  show Go p e below _ (T165.setTop (mkF m 6 #[.val (.ref a1), .val (.int p2)] [(.int r_165)]))
  refine Go.retI X165 hx hlk Bd.returns (hb hby d11_6) (by decide) (by decide) ?_
  show Qsi1U Z a1 p2 cs sf vb kb us h0 n0 _ T165.heap _
  rw [e165]
  exact ⟨r_165, rfl, N165, rfl, p165_0⟩
theorem ef_canU (m : MethodId) (x0 : Addr) : entryFrame m #[(.ref x0)] 1 = mkF m 0 #[.val (.ref x0)] [] := by first | (simp [entryFrame, mkF, argsToLocals, Value.category]; done) | rfl
def QcanU (Z : State) (a1 : Addr) (cs : Int32) (sf : Value) (vb : Addr) (kb : ClassId) (us : List Int32) (h0 : Heap) (n0 : Nat) (v : Option Value) (h : Heap) (L : List Loc) : Prop := ∃ r : Int32, v = some (.int r) ∧ Fr n0 L ∧ h = h0 ∧ (r = 0 ∨ r = 1) ∧ (r = 1 ↔ (∀ x ∈ us, own_ok x))
set_option maxRecDepth 65536 in
set_option maxHeartbeats 40000000 in
theorem rmcanU (l : Launch) (Z : State) (a0 : Array Value) (hw : ∀ d ∈ tables_1, d.before a0 Z = true) (ws : List Jvm.Cond) (a1 : Addr) (cs : Int32) (sf : Value) (vb : Addr) (kb : ClassId) (us : List Int32) (h0 : Heap) (n0 : Nat) (Z0 : n0 ≤ h0.size) (S_COMPACT_STRINGS : Sta Z h0 "java/lang/String" "COMPACT_STRINGS" "Z" (.int cs)) (S_assertionsDisabled : Sta Z h0 "java/lang/StringUTF16" "$assertionsDisabled" "Z" (.int (1 : Int32))) (S_HI_BYTE_SHIFT : Sta Z h0 "java/lang/StringUTF16" "HI_BYTE_SHIFT" "I" (.int (0 : Int32))) (S_LO_BYTE_SHIFT : Sta Z h0 "java/lang/StringUTF16" "LO_BYTE_SHIFT" "I" (.int (8 : Int32))) (S_SIOOBE_FORMATTER : Sta Z h0 "jdk/internal/util/Preconditions" "SIOOBE_FORMATTER" "Ljava/util/function/BiFunction;" sf) (E_a1 : Exa Z h0 a1 "java/lang/String") (F_value_a1 : Fld Z h0 a1 "java/lang/String" "value" "[B" (.ref vb)) (F_coder_a1 : Fld Z h0 a1 "java/lang/String" "coder" "B" (.int (1 : Int32))) (A_vb : Arv Z h0 vb kb .byte (Int32.ofNat (2 * us.length)) (own_ub us) (.int (0 : Int32))) (hcs : ¬ cs = 0) (hsf : sf.isRef = true) (hpos : 0 < us.length) (hle : us.length ≤ 4) (hC : ∀ x ∈ us, own_C x) :
    MetFree l (⟨"com/example/varigraph/varigraph/generate/Operation", "canName", "(Ljava/lang/String;)Z"⟩ : MethodName) (head1 (Jvm.Cond.code (⟨"com/example/varigraph/varigraph/generate/Operation", "canName", "(Ljava/lang/String;)Z"⟩ : MethodName) prog_62_method_2_code 1 (some .boolean) :: ws) ({ frames := 7, cells := 0, slots := 0, locals := 100 } : Room)) (fun a U => a = #[(.ref a1)] ∧ Z.Warmed39 U.vm ∧ U.heap = h0) (fun _ _ _ _ _ => True) (fun _ U o U' => ∃ v L, o = .returned v ∧ QcanU Z a1 cs sf vb kb us h0 n0 v U'.heap L ∧ FrameEnd U o U' L ({ frames := 7, cells := 0, slots := 0, locals := 100 } : Room).cells ({ frames := 7, cells := 0, slots := 0, locals := 100 } : Room).slots) := by
  refine MetFree.of_bodySF (plainFor_of_name own_pn_com_example_varigraph_varigraph_generate_Operation) hisR ?_
  intro p e s m args below meth c s₁ Bd hml0 hP hK
  obtain ⟨rfl, hZ, hh⟩ := hP
  have hx := Bd.exec
  have hby := Bd.bytes
  have hlk := Bd.notSynchronized
  have hml : c.maxLocals = 1 := hml0
  have hown : s.vm.findClass "com/example/varigraph/varigraph/generate/Operation" = some m.cls := findClass_of_methodNamed Bd.named
  have hnm := (name_of_methodNamed Bd.named Bd.method).1
  have X0 : Stand p l e ({ frames := 7, cells := 0, slots := 0, locals := 100 } : Room) s m #[(.ref a1)] below meth c s₁ [] 0 0 := Stand.of_body Bd
  have e0 : s₁.heap = h0 := by rw [← hh, Bd.state]; rfl
  have N0 := Fr.nil n0
  show Go p e below (KQ s below (QcanU Z a1 cs sf vb kb us h0 n0) ({ frames := 7, cells := 0, slots := 0, locals := 100 } : Room).cells ({ frames := 7, cells := 0, slots := 0, locals := 100 } : Room).slots) _
  refine Go.body (T := s₁) (σ := s₁) (g' := (mkF m 0 #[.val (.ref a1)] [])) (ef_canU m a1) ?_
  refine g_aloadN X0 hx (hb hby d5_0) 1 rfl (v := (.ref a1)) rfl rfl ?_
  obtain ⟨cq166, kq166, q166a, q166b, q166c⟩ := isOf hZ e0 E_a1
  obtain ⟨_, _, ⟨T166, L166, k166, n166⟩, -, X166, ⟨Lc166, hQ166, l166, y166, z166⟩, st166⟩ := X0.virtualBack hx (y := (⟨"java/lang/String", "isEmpty", "()Z"⟩ : MethodName)) (z := (⟨"java/lang/String", "isEmpty", "()Z"⟩ : MethodName)) hown (mvT hZ (hw _ (List.mem_of_getElem? (i := 31) rfl))) (mvT hZ (hw _ (List.mem_of_getElem? (i := 32) rfl))) (notFace_of_selects (args := #[]) (mvT hZ (hw _ (List.mem_of_getElem? (i := 34) rfl)))) (mvT hZ (hw _ (List.mem_of_getElem? (i := 34) rfl))) (mvT hZ (hw _ (List.mem_of_getElem? (i := 33) rfl))) (by decide) (backOf (W := 0) (rmise l Z a0 hw [] a1 vb kb (Int32.ofNat (2 * us.length)) (own_ub us) h0 n0 Z0 F_value_a1 A_vb (fun z => absurd (own_eqn (j := 0) (by omega) (by omega) z) (by omega))) hZ (hw _ (List.mem_of_getElem? (i := 35) rfl)) (hw _ (List.mem_of_getElem? (i := 7) rfl)) (by decide) (by decide)) q166a q166c (g := (mkF m 1 #[.val (.ref a1)] [(.ref a1)])) rfl (by rw [hml]; rfl) (Steps.refl _) (argsL := []) (rest := []) (lenOf own_pd14 rfl) rfl (by show 2 * 0 + _ ≤ _; exact Nat.le_of_eq rfl) (hb hby d5_1) (fun _ _ => ⟨rfl, e0, (by decide : 0 + 0 ≤ _), (by decide : 0 + 0 ≤ _)⟩)
  dsimp only [Pt.U, Pt.locs, Pt.cells, Pt.slots] at X166 l166 y166 z166 st166 hQ166
  subst l166 y166 z166
  obtain ⟨rfl, Nq166, e166⟩ := hQ166
  refine Go.tr st166 ?_
  have N166 := Fr.app N0 Nq166
  show Go p e below _ (T166.setTop (mkF m 4 #[.val (.ref a1)] [(.int (0 : Int32))]))
  refine g_if_ne X166 hx (hb hby d5_4) 38 7 (by decide) (by decide) rfl (fun hc4 => False.elim (hc4 rfl)) (fun hc4 => ?_)
  refine g_aloadN X166 hx (hb hby d5_7) 8 rfl (v := (.ref a1)) rfl rfl ?_
  refine g_bipush X166 hx (hb hby d5_8) 10 rfl (32 : Int32) rfl ?_
  obtain ⟨cq167, kq167, q167a, q167b, q167c⟩ := isOf hZ e166 E_a1
  obtain ⟨_, _, ⟨T167, L167, k167, n167⟩, -, X167, ⟨Lc167, hQ167, l167, y167, z167⟩, st167⟩ := X166.virtualBack hx (y := (⟨"java/lang/String", "indexOf", "(I)I"⟩ : MethodName)) (z := (⟨"java/lang/String", "indexOf", "(I)I"⟩ : MethodName)) hown (mvT hZ (hw _ (List.mem_of_getElem? (i := 50) rfl))) (mvT hZ (hw _ (List.mem_of_getElem? (i := 51) rfl))) (notFace_of_selects (args := #[]) (mvT hZ (hw _ (List.mem_of_getElem? (i := 53) rfl)))) (mvT hZ (hw _ (List.mem_of_getElem? (i := 53) rfl))) (mvT hZ (hw _ (List.mem_of_getElem? (i := 52) rfl))) (by decide) (backOf (W := 0) (rmsi1U l Z a0 hw [] a1 (32 : Int32) cs sf vb kb us h0 n0 Z0 S_COMPACT_STRINGS S_assertionsDisabled S_HI_BYTE_SHIFT S_LO_BYTE_SHIFT S_SIOOBE_FORMATTER E_a1 F_value_a1 F_coder_a1 A_vb hcs hsf hpos hle hC (⟨by decide, by decide⟩) (by decide)) hZ (hw _ (List.mem_of_getElem? (i := 54) rfl)) (hw _ (List.mem_of_getElem? (i := 7) rfl)) (by decide) (by decide)) q167a q167c (g := (mkF m 10 #[.val (.ref a1)] [(.int (32 : Int32)), (.ref a1)])) rfl (by rw [hml]; rfl) (Steps.refl _) (argsL := [(.int (32 : Int32))]) (rest := []) (lenOf own_pd4 rfl) rfl (by show 2 * 0 + _ ≤ _; exact Nat.le_of_eq rfl) (hb hby d5_10) (fun _ _ => ⟨rfl, e166, (by decide : 0 + 0 ≤ _), (by decide : 0 + 0 ≤ _)⟩)
  dsimp only [Pt.U, Pt.locs, Pt.cells, Pt.slots] at X167 l167 y167 z167 st167 hQ167
  subst l167 y167 z167
  obtain ⟨r_167, rfl, Nq167, e167, p167_0⟩ := hQ167
  refine Go.tr st167 ?_
  have N167 := Fr.app N166 Nq167
  show Go p e below _ (T167.setTop (mkF m 13 #[.val (.ref a1)] [(.int r_167)]))
  refine g_if_ge X167 hx (hb hby d5_13) 38 16 (by decide) (by decide) rfl (fun hc13 => ?_) (fun hc13 => ?_)
  · refine g_iconst X167 hx (hb hby d5_38) 39 rfl (0 : Int32) rfl ?_
    refine Go.retN X167 hx hlk (t := .boolean) Bd.returns (by simp) (hb hby d5_39) (by decide) (by decide) ?_
    show QcanU Z a1 cs sf vb kb us h0 n0 _ T167.heap _
    rw [e167]
    exact ⟨(0 : Int32), rfl, N167, rfl, Or.inl rfl, ⟨fun q => absurd q (by decide), fun q => absurd (p167_0.mpr (fun x hx => (q x hx).1)) hc13⟩⟩
  · refine g_aloadN X167 hx (hb hby d5_16) 17 rfl (v := (.ref a1)) rfl rfl ?_
    refine g_bipush X167 hx (hb hby d5_17) 19 rfl (10 : Int32) rfl ?_
    obtain ⟨cq168, kq168, q168a, q168b, q168c⟩ := isOf hZ e167 E_a1
    obtain ⟨_, _, ⟨T168, L168, k168, n168⟩, -, X168, ⟨Lc168, hQ168, l168, y168, z168⟩, st168⟩ := X167.virtualBack hx (y := (⟨"java/lang/String", "indexOf", "(I)I"⟩ : MethodName)) (z := (⟨"java/lang/String", "indexOf", "(I)I"⟩ : MethodName)) hown (mvT hZ (hw _ (List.mem_of_getElem? (i := 50) rfl))) (mvT hZ (hw _ (List.mem_of_getElem? (i := 51) rfl))) (notFace_of_selects (args := #[]) (mvT hZ (hw _ (List.mem_of_getElem? (i := 53) rfl)))) (mvT hZ (hw _ (List.mem_of_getElem? (i := 53) rfl))) (mvT hZ (hw _ (List.mem_of_getElem? (i := 52) rfl))) (by decide) (backOf (W := 0) (rmsi1U l Z a0 hw [] a1 (10 : Int32) cs sf vb kb us h0 n0 Z0 S_COMPACT_STRINGS S_assertionsDisabled S_HI_BYTE_SHIFT S_LO_BYTE_SHIFT S_SIOOBE_FORMATTER E_a1 F_value_a1 F_coder_a1 A_vb hcs hsf hpos hle hC (⟨by decide, by decide⟩) (by decide)) hZ (hw _ (List.mem_of_getElem? (i := 54) rfl)) (hw _ (List.mem_of_getElem? (i := 7) rfl)) (by decide) (by decide)) q168a q168c (g := (mkF m 19 #[.val (.ref a1)] [(.int (10 : Int32)), (.ref a1)])) rfl (by rw [hml]; rfl) (Steps.refl _) (argsL := [(.int (10 : Int32))]) (rest := []) (lenOf own_pd4 rfl) rfl (by show 2 * 0 + _ ≤ _; exact Nat.le_of_eq rfl) (hb hby d5_19) (fun _ _ => ⟨rfl, e167, (by decide : 0 + 0 ≤ _), (by decide : 0 + 0 ≤ _)⟩)
    dsimp only [Pt.U, Pt.locs, Pt.cells, Pt.slots] at X168 l168 y168 z168 st168 hQ168
    subst l168 y168 z168
    obtain ⟨r_168, rfl, Nq168, e168, p168_0⟩ := hQ168
    refine Go.tr st168 ?_
    have N168 := Fr.app N167 Nq168
    show Go p e below _ (T168.setTop (mkF m 22 #[.val (.ref a1)] [(.int r_168)]))
    refine g_if_ge X168 hx (hb hby d5_22) 38 25 (by decide) (by decide) rfl (fun hc22 => ?_) (fun hc22 => ?_)
    · refine g_iconst X168 hx (hb hby d5_38) 39 rfl (0 : Int32) rfl ?_
      refine Go.retN X168 hx hlk (t := .boolean) Bd.returns (by simp) (hb hby d5_39) (by decide) (by decide) ?_
      show QcanU Z a1 cs sf vb kb us h0 n0 _ T168.heap _
      rw [e168]
      exact ⟨(0 : Int32), rfl, N168, rfl, Or.inl rfl, ⟨fun q => absurd q (by decide), fun q => absurd (p168_0.mpr (fun x hx => (q x hx).2.1)) hc22⟩⟩
    · refine g_aloadN X168 hx (hb hby d5_25) 26 rfl (v := (.ref a1)) rfl rfl ?_
      refine g_bipush X168 hx (hb hby d5_26) 28 rfl (13 : Int32) rfl ?_
      obtain ⟨cq169, kq169, q169a, q169b, q169c⟩ := isOf hZ e168 E_a1
      obtain ⟨_, _, ⟨T169, L169, k169, n169⟩, -, X169, ⟨Lc169, hQ169, l169, y169, z169⟩, st169⟩ := X168.virtualBack hx (y := (⟨"java/lang/String", "indexOf", "(I)I"⟩ : MethodName)) (z := (⟨"java/lang/String", "indexOf", "(I)I"⟩ : MethodName)) hown (mvT hZ (hw _ (List.mem_of_getElem? (i := 50) rfl))) (mvT hZ (hw _ (List.mem_of_getElem? (i := 51) rfl))) (notFace_of_selects (args := #[]) (mvT hZ (hw _ (List.mem_of_getElem? (i := 53) rfl)))) (mvT hZ (hw _ (List.mem_of_getElem? (i := 53) rfl))) (mvT hZ (hw _ (List.mem_of_getElem? (i := 52) rfl))) (by decide) (backOf (W := 0) (rmsi1U l Z a0 hw [] a1 (13 : Int32) cs sf vb kb us h0 n0 Z0 S_COMPACT_STRINGS S_assertionsDisabled S_HI_BYTE_SHIFT S_LO_BYTE_SHIFT S_SIOOBE_FORMATTER E_a1 F_value_a1 F_coder_a1 A_vb hcs hsf hpos hle hC (⟨by decide, by decide⟩) (by decide)) hZ (hw _ (List.mem_of_getElem? (i := 54) rfl)) (hw _ (List.mem_of_getElem? (i := 7) rfl)) (by decide) (by decide)) q169a q169c (g := (mkF m 28 #[.val (.ref a1)] [(.int (13 : Int32)), (.ref a1)])) rfl (by rw [hml]; rfl) (Steps.refl _) (argsL := [(.int (13 : Int32))]) (rest := []) (lenOf own_pd4 rfl) rfl (by show 2 * 0 + _ ≤ _; exact Nat.le_of_eq rfl) (hb hby d5_28) (fun _ _ => ⟨rfl, e168, (by decide : 0 + 0 ≤ _), (by decide : 0 + 0 ≤ _)⟩)
      dsimp only [Pt.U, Pt.locs, Pt.cells, Pt.slots] at X169 l169 y169 z169 st169 hQ169
      subst l169 y169 z169
      obtain ⟨r_169, rfl, Nq169, e169, p169_0⟩ := hQ169
      refine Go.tr st169 ?_
      have N169 := Fr.app N168 Nq169
      show Go p e below _ (T169.setTop (mkF m 31 #[.val (.ref a1)] [(.int r_169)]))
      refine g_if_ge X169 hx (hb hby d5_31) 38 34 (by decide) (by decide) rfl (fun hc31 => ?_) (fun hc31 => ?_)
      · refine g_iconst X169 hx (hb hby d5_38) 39 rfl (0 : Int32) rfl ?_
        refine Go.retN X169 hx hlk (t := .boolean) Bd.returns (by simp) (hb hby d5_39) (by decide) (by decide) ?_
        show QcanU Z a1 cs sf vb kb us h0 n0 _ T169.heap _
        rw [e169]
        exact ⟨(0 : Int32), rfl, N169, rfl, Or.inl rfl, ⟨fun q => absurd q (by decide), fun q => absurd (p169_0.mpr (fun x hx => (q x hx).2.2)) hc31⟩⟩
      · refine g_iconst X169 hx (hb hby d5_34) 35 rfl (1 : Int32) rfl ?_
        refine g_goto X169 hx (hb hby d5_35) 39 (by decide) (by decide) ?_
        refine Go.retN X169 hx hlk (t := .boolean) Bd.returns (by simp) (hb hby d5_39) (by decide) (by decide) ?_
        show QcanU Z a1 cs sf vb kb us h0 n0 _ T169.heap _
        rw [e169]
        exact ⟨(1 : Int32), rfl, N169, rfl, Or.inr rfl, ⟨fun _ x hx => ⟨p167_0.mp hc13 x hx, p168_0.mp hc22 x hx, p169_0.mp hc31 x hx⟩, fun _ => rfl⟩⟩
theorem own_pn_com_example_varigraph_varigraph_generate_OperationCanNamePinLaw : plainName "com/example/varigraph/varigraph/generate/OperationCanNamePinLaw" = true := by first | (simp [plainName, overriddenIn]; done) | decide +kernel
theorem ef_pick (m : MethodId) (x0 : Int32) : entryFrame m #[(.int x0)] 2 = mkF m 0 #[.val (.int x0), .unset] [] := by first | (simp [entryFrame, mkF, argsToLocals, Value.category]; done) | rfl
theorem d1_0 : decode method_2_code 0 = .ok (.iload_n 0, 1) := by decide +kernel
theorem d1_1 : decode method_2_code 1 = .ok (.bipush 16, 2) := by decide +kernel
theorem d1_3 : decode method_2_code 3 = .ok (.iushr, 1) := by decide +kernel
theorem d1_4 : decode method_2_code 4 = .ok (.iconst 3, 1) := by decide +kernel
theorem d1_5 : decode method_2_code 5 = .ok (.iand, 1) := by decide +kernel
theorem d1_6 : decode method_2_code 6 = .ok (.istore_n 1, 1) := by decide +kernel
theorem d1_7 : decode method_2_code 7 = .ok (.iload_n 1, 1) := by decide +kernel
theorem d1_8 : decode method_2_code 8 = .ok (.ifCond .ne 6, 3) := by decide +kernel
theorem d1_14 : decode method_2_code 14 = .ok (.iload_n 1, 1) := by decide +kernel
theorem d1_15 : decode method_2_code 15 = .ok (.iconst 1, 1) := by decide +kernel
theorem d1_16 : decode method_2_code 16 = .ok (.if_icmp .ne 6, 3) := by decide +kernel
theorem d1_22 : decode method_2_code 22 = .ok (.iload_n 1, 1) := by decide +kernel
theorem d1_23 : decode method_2_code 23 = .ok (.iconst 2, 1) := by decide +kernel
theorem d1_24 : decode method_2_code 24 = .ok (.if_icmp .ne 6, 3) := by decide +kernel
theorem d1_30 : decode method_2_code 30 = .ok (.iload_n 0, 1) := by decide +kernel
theorem d1_31 : decode method_2_code 31 = .ok (.ldc 7, 2) := by decide +kernel
theorem d1_33 : decode method_2_code 33 = .ok (.iand, 1) := by decide +kernel
theorem d1_34 : decode method_2_code 34 = .ok (.i2c, 1) := by decide +kernel
theorem d1_35 : decode method_2_code 35 = .ok (.ireturn, 1) := by decide +kernel
theorem d1_27 : decode method_2_code 27 = .ok (.bipush 13, 2) := by decide +kernel
theorem d1_29 : decode method_2_code 29 = .ok (.ireturn, 1) := by decide +kernel
theorem d1_19 : decode method_2_code 19 = .ok (.bipush 10, 2) := by decide +kernel
theorem d1_21 : decode method_2_code 21 = .ok (.ireturn, 1) := by decide +kernel
theorem d1_11 : decode method_2_code 11 = .ok (.bipush 32, 2) := by decide +kernel
theorem d1_13 : decode method_2_code 13 = .ok (.ireturn, 1) := by decide +kernel
def Qpick (Z : State) (p1 : Int32) (h0 : Heap) (n0 : Nat) (v : Option Value) (h : Heap) (L : List Loc) : Prop := ∃ r : Int32, v = some (.int r) ∧ Fr n0 L ∧ h = h0 ∧ (own_C r)
set_option maxRecDepth 65536 in
set_option maxHeartbeats 40000000 in
theorem rmpick (l : Launch) (Z : State) (a0 : Array Value) (hw : ∀ d ∈ tables_1, d.before a0 Z = true) (ws : List Jvm.Cond) (p1 : Int32) (h0 : Heap) (n0 : Nat) (Z0 : n0 ≤ h0.size)  :
    MetFree l (⟨"com/example/varigraph/varigraph/generate/OperationCanNamePinLaw", "pick", "(I)C"⟩ : MethodName) (head1 (Jvm.Cond.code (⟨"com/example/varigraph/varigraph/generate/OperationCanNamePinLaw", "pick", "(I)C"⟩ : MethodName) method_2_code 2 (some .char) :: ws) ({ frames := 0, cells := 0, slots := 0, locals := 0 } : Room)) (fun a U => a = #[(.int p1)] ∧ Z.Warmed39 U.vm ∧ U.heap = h0) (fun _ _ _ _ _ => True) (fun _ U o U' => ∃ v L, o = .returned v ∧ Qpick Z p1 h0 n0 v U'.heap L ∧ FrameEnd U o U' L ({ frames := 0, cells := 0, slots := 0, locals := 0 } : Room).cells ({ frames := 0, cells := 0, slots := 0, locals := 0 } : Room).slots) := by
  refine MetFree.of_bodySF (plainFor_of_name own_pn_com_example_varigraph_varigraph_generate_OperationCanNamePinLaw) hisR ?_
  intro p e s m args below meth c s₁ Bd hml0 hP hK
  obtain ⟨rfl, hZ, hh⟩ := hP
  have hx := Bd.exec
  have hby := Bd.bytes
  have hlk := Bd.notSynchronized
  have hml : c.maxLocals = 2 := hml0
  have hown : s.vm.findClass "com/example/varigraph/varigraph/generate/OperationCanNamePinLaw" = some m.cls := findClass_of_methodNamed Bd.named
  have hnm := (name_of_methodNamed Bd.named Bd.method).1
  have X0 : Stand p l e ({ frames := 0, cells := 0, slots := 0, locals := 0 } : Room) s m #[(.int p1)] below meth c s₁ [] 0 0 := Stand.of_body Bd
  have e0 : s₁.heap = h0 := by rw [← hh, Bd.state]; rfl
  have N0 := Fr.nil n0
  show Go p e below (KQ s below (Qpick Z p1 h0 n0) ({ frames := 0, cells := 0, slots := 0, locals := 0 } : Room).cells ({ frames := 0, cells := 0, slots := 0, locals := 0 } : Room).slots) _
  refine Go.body (T := s₁) (σ := s₁) (g' := (mkF m 0 #[.val (.int p1), .unset] [])) (ef_pick m p1) ?_
  refine g_iloadN X0 hx (hb hby d1_0) 1 rfl (v := p1) rfl ?_
  refine g_bipush X0 hx (hb hby d1_1) 3 rfl (16 : Int32) rfl ?_
  refine g_iushr X0 hx (hb hby d1_3) 4 rfl (XT.ushr p1 (16 : Int32)) rfl ?_
  refine g_iconst X0 hx (hb hby d1_4) 5 rfl (3 : Int32) rfl ?_
  obtain ⟨sl, e_sl⟩ : ∃ z, ((XT.ushr p1 (16 : Int32)) &&& (3 : Int32)) = z := ⟨_, rfl⟩
  refine g_iand X0 hx (hb hby d1_5) 6 rfl sl e_sl ?_
  refine g_istoreN X0 hx (hb hby d1_6) 7 rfl #[.val (.int p1), .val (.int sl)] rfl ?_
  refine g_iloadN X0 hx (hb hby d1_7) 8 rfl (v := sl) rfl ?_
  refine g_if_ne X0 hx (hb hby d1_8) 14 11 (by decide) (by decide) rfl (fun hc8 => ?_) (fun hc8 => ?_)
  · refine g_iloadN X0 hx (hb hby d1_14) 15 rfl (v := sl) rfl ?_
    refine g_iconst X0 hx (hb hby d1_15) 16 rfl (1 : Int32) rfl ?_
    refine g_icmp_ne X0 hx (hb hby d1_16) 22 19 (by decide) (by decide) rfl (fun hc16 => ?_) (fun hc16 => ?_)
    · refine g_iloadN X0 hx (hb hby d1_22) 23 rfl (v := sl) rfl ?_
      refine g_iconst X0 hx (hb hby d1_23) 24 rfl (2 : Int32) rfl ?_
      refine g_icmp_ne X0 hx (hb hby d1_24) 30 27 (by decide) (by decide) rfl (fun hc24 => ?_) (fun hc24 => ?_)
      · refine g_iloadN X0 hx (hb hby d1_30) 31 rfl (v := p1) rfl ?_
        refine Go.st (X0.ldcInt hx hown (mvT hZ (hw _ (List.mem_of_getElem? (i := 92) rfl))) (g := (mkF m 31 #[.val (.int p1), .val (.int sl)] [(.int p1)])) rfl (hb hby d1_31)) ?_
        show Go p e below _ (s₁.setTop (mkF m 33 #[.val (.int p1), .val (.int sl)] [(.int (65535 : Int32)), (.int p1)]))
        refine g_iand X0 hx (hb hby d1_33) 34 rfl (p1 &&& (65535 : Int32)) rfl ?_
        refine g_i2c X0 hx (hb hby d1_34) 35 rfl (p1 &&& (65535 : Int32)).toUInt32.toUInt16.toUInt32.toInt32 rfl ?_
        refine Go.retN X0 hx hlk (t := .char) Bd.returns (by simp) (hb hby d1_35) (by decide) (by decide) ?_
        show Qpick Z p1 h0 n0 _ s₁.heap _
        rw [e0]
        exact ⟨(p1 &&& (65535 : Int32)).toUInt32.toUInt16.toUInt32.toInt32, (by rw [own_nc2 rfl]), N0, rfl, (own_Ci _)⟩
      · refine g_bipush X0 hx (hb hby d1_27) 29 rfl (13 : Int32) rfl ?_
        refine Go.retN X0 hx hlk (t := .char) Bd.returns (by simp) (hb hby d1_29) (by decide) (by decide) ?_
        show Qpick Z p1 h0 n0 _ s₁.heap _
        rw [e0]
        exact ⟨(13 : Int32), rfl, N0, rfl, ⟨by decide, by decide⟩⟩
    · refine g_bipush X0 hx (hb hby d1_19) 21 rfl (10 : Int32) rfl ?_
      refine Go.retN X0 hx hlk (t := .char) Bd.returns (by simp) (hb hby d1_21) (by decide) (by decide) ?_
      show Qpick Z p1 h0 n0 _ s₁.heap _
      rw [e0]
      exact ⟨(10 : Int32), rfl, N0, rfl, ⟨by decide, by decide⟩⟩
  · refine g_bipush X0 hx (hb hby d1_11) 13 rfl (32 : Int32) rfl ?_
    refine Go.retN X0 hx hlk (t := .char) Bd.returns (by simp) (hb hby d1_13) (by decide) (by decide) ?_
    show Qpick Z p1 h0 n0 _ s₁.heap _
    rw [e0]
    exact ⟨(32 : Int32), rfl, N0, rfl, ⟨by decide, by decide⟩⟩
theorem ef_ok (m : MethodId) (x0 : Int32) : entryFrame m #[(.int x0)] 1 = mkF m 0 #[.val (.int x0)] [] := by first | (simp [entryFrame, mkF, argsToLocals, Value.category]; done) | rfl
theorem d10_0 : decode method_3_code 0 = .ok (.iload_n 0, 1) := by decide +kernel
theorem d10_1 : decode method_3_code 1 = .ok (.bipush 32, 2) := by decide +kernel
theorem d10_3 : decode method_3_code 3 = .ok (.if_icmp .eq 19, 3) := by decide +kernel
theorem d10_22 : decode method_3_code 22 = .ok (.iconst 0, 1) := by decide +kernel
theorem d10_23 : decode method_3_code 23 = .ok (.ireturn, 1) := by decide +kernel
theorem d10_6 : decode method_3_code 6 = .ok (.iload_n 0, 1) := by decide +kernel
theorem d10_7 : decode method_3_code 7 = .ok (.bipush 10, 2) := by decide +kernel
theorem d10_9 : decode method_3_code 9 = .ok (.if_icmp .eq 13, 3) := by decide +kernel
theorem d10_12 : decode method_3_code 12 = .ok (.iload_n 0, 1) := by decide +kernel
theorem d10_13 : decode method_3_code 13 = .ok (.bipush 13, 2) := by decide +kernel
theorem d10_15 : decode method_3_code 15 = .ok (.if_icmp .eq 7, 3) := by decide +kernel
theorem d10_18 : decode method_3_code 18 = .ok (.iconst 1, 1) := by decide +kernel
theorem d10_19 : decode method_3_code 19 = .ok (.goto 4, 3) := by decide +kernel
def Qok (Z : State) (p1 : Int32) (h0 : Heap) (n0 : Nat) (v : Option Value) (h : Heap) (L : List Loc) : Prop := ∃ r : Int32, v = some (.int r) ∧ Fr n0 L ∧ h = h0 ∧ (r = 0 ∨ r = 1) ∧ (r = 1 ↔ own_ok p1)
set_option maxRecDepth 65536 in
set_option maxHeartbeats 40000000 in
theorem rmok (l : Launch) (Z : State) (a0 : Array Value) (hw : ∀ d ∈ tables_1, d.before a0 Z = true) (ws : List Jvm.Cond) (p1 : Int32) (h0 : Heap) (n0 : Nat) (Z0 : n0 ≤ h0.size)  :
    MetFree l (⟨"com/example/varigraph/varigraph/generate/OperationCanNamePinLaw", "ok", "(C)Z"⟩ : MethodName) (head1 (Jvm.Cond.code (⟨"com/example/varigraph/varigraph/generate/OperationCanNamePinLaw", "ok", "(C)Z"⟩ : MethodName) method_3_code 1 (some .boolean) :: ws) ({ frames := 0, cells := 0, slots := 0, locals := 0 } : Room)) (fun a U => a = #[(.int p1)] ∧ Z.Warmed39 U.vm ∧ U.heap = h0) (fun _ _ _ _ _ => True) (fun _ U o U' => ∃ v L, o = .returned v ∧ Qok Z p1 h0 n0 v U'.heap L ∧ FrameEnd U o U' L ({ frames := 0, cells := 0, slots := 0, locals := 0 } : Room).cells ({ frames := 0, cells := 0, slots := 0, locals := 0 } : Room).slots) := by
  refine MetFree.of_bodySF (plainFor_of_name own_pn_com_example_varigraph_varigraph_generate_OperationCanNamePinLaw) hisR ?_
  intro p e s m args below meth c s₁ Bd hml0 hP hK
  obtain ⟨rfl, hZ, hh⟩ := hP
  have hx := Bd.exec
  have hby := Bd.bytes
  have hlk := Bd.notSynchronized
  have hml : c.maxLocals = 1 := hml0
  have hown : s.vm.findClass "com/example/varigraph/varigraph/generate/OperationCanNamePinLaw" = some m.cls := findClass_of_methodNamed Bd.named
  have hnm := (name_of_methodNamed Bd.named Bd.method).1
  have X0 : Stand p l e ({ frames := 0, cells := 0, slots := 0, locals := 0 } : Room) s m #[(.int p1)] below meth c s₁ [] 0 0 := Stand.of_body Bd
  have e0 : s₁.heap = h0 := by rw [← hh, Bd.state]; rfl
  have N0 := Fr.nil n0
  show Go p e below (KQ s below (Qok Z p1 h0 n0) ({ frames := 0, cells := 0, slots := 0, locals := 0 } : Room).cells ({ frames := 0, cells := 0, slots := 0, locals := 0 } : Room).slots) _
  refine Go.body (T := s₁) (σ := s₁) (g' := (mkF m 0 #[.val (.int p1)] [])) (ef_ok m p1) ?_
  refine g_iloadN X0 hx (hb hby d10_0) 1 rfl (v := p1) rfl ?_
  refine g_bipush X0 hx (hb hby d10_1) 3 rfl (32 : Int32) rfl ?_
  refine g_icmp_eq X0 hx (hb hby d10_3) 22 6 (by decide) (by decide) rfl (fun hc3 => ?_) (fun hc3 => ?_)
  · refine g_iconst X0 hx (hb hby d10_22) 23 rfl (0 : Int32) rfl ?_
    refine Go.retN X0 hx hlk (t := .boolean) Bd.returns (by simp) (hb hby d10_23) (by decide) (by decide) ?_
    show Qok Z p1 h0 n0 _ s₁.heap _
    rw [e0]
    exact ⟨(0 : Int32), rfl, N0, rfl, Or.inl rfl, ⟨fun q => absurd q (by decide), fun q => absurd hc3 q.1⟩⟩
  · refine g_iloadN X0 hx (hb hby d10_6) 7 rfl (v := p1) rfl ?_
    refine g_bipush X0 hx (hb hby d10_7) 9 rfl (10 : Int32) rfl ?_
    refine g_icmp_eq X0 hx (hb hby d10_9) 22 12 (by decide) (by decide) rfl (fun hc9 => ?_) (fun hc9 => ?_)
    · refine g_iconst X0 hx (hb hby d10_22) 23 rfl (0 : Int32) rfl ?_
      refine Go.retN X0 hx hlk (t := .boolean) Bd.returns (by simp) (hb hby d10_23) (by decide) (by decide) ?_
      show Qok Z p1 h0 n0 _ s₁.heap _
      rw [e0]
      exact ⟨(0 : Int32), rfl, N0, rfl, Or.inl rfl, ⟨fun q => absurd q (by decide), fun q => absurd hc9 q.2.1⟩⟩
    · refine g_iloadN X0 hx (hb hby d10_12) 13 rfl (v := p1) rfl ?_
      refine g_bipush X0 hx (hb hby d10_13) 15 rfl (13 : Int32) rfl ?_
      refine g_icmp_eq X0 hx (hb hby d10_15) 22 18 (by decide) (by decide) rfl (fun hc15 => ?_) (fun hc15 => ?_)
      · refine g_iconst X0 hx (hb hby d10_22) 23 rfl (0 : Int32) rfl ?_
        refine Go.retN X0 hx hlk (t := .boolean) Bd.returns (by simp) (hb hby d10_23) (by decide) (by decide) ?_
        show Qok Z p1 h0 n0 _ s₁.heap _
        rw [e0]
        exact ⟨(0 : Int32), rfl, N0, rfl, Or.inl rfl, ⟨fun q => absurd q (by decide), fun q => absurd hc15 q.2.2⟩⟩
      · refine g_iconst X0 hx (hb hby d10_18) 19 rfl (1 : Int32) rfl ?_
        refine g_goto X0 hx (hb hby d10_19) 23 (by decide) (by decide) ?_
        refine Go.retN X0 hx hlk (t := .boolean) Bd.returns (by simp) (hb hby d10_23) (by decide) (by decide) ?_
        show Qok Z p1 h0 n0 _ s₁.heap _
        rw [e0]
        exact ⟨(1 : Int32), rfl, N0, rfl, Or.inr rfl, ⟨fun _ => ⟨hc3, hc9, hc15⟩, fun _ => rfl⟩⟩
theorem ef_0 (m : MethodId) (x0 : Int32) (x1 : Int32) (x2 : Int32) (x3 : Int32) (x4 : Int32) : entryFrame m #[(.int x0), (.int x1), (.int x2), (.int x3), (.int x4)] maxLocals = mkF m 0 #[.val (.int x0), .val (.int x1), .val (.int x2), .val (.int x3), .val (.int x4), .unset, .unset, .unset, .unset, .unset, .unset, .unset] [] := by first | (simp [entryFrame, mkF, argsToLocals, Value.category, maxLocals]; done) | rfl
theorem own_pd21 : parseMethodDescriptor "(I)C" = some ⟨[.int], some .char⟩ := by decide +kernel
theorem own_pd22 : parseMethodDescriptor "([C)V" = some ⟨[(.array .char)], none⟩ := by decide +kernel
theorem own_pd23 : parseMethodDescriptor "(Ljava/lang/String;)Z" = some ⟨[(.object "java/lang/String")], some .boolean⟩ := by decide +kernel
theorem own_pd24 : parseMethodDescriptor "(C)Ljava/lang/String;" = some ⟨[.char], some (.object "java/lang/String")⟩ := by decide +kernel
def Q0 (Z : State) (p1 : Int32) (p2 : Int32) (p3 : Int32) (p4 : Int32) (p5 : Int32) (s_COMPACT_STRINGS : Int32) (s_SIOOBE_FORMATTER : Value) (h0 : Heap) (n0 : Nat) (v : Option Value) (h : Heap) (L : List Loc) : Prop := v = some (.int (1 : Int32)) ∧ Fr n0 L
set_option maxRecDepth 65536 in
set_option maxHeartbeats 40000000 in
theorem rm0 (l : Launch) (Z : State) (a0 : Array Value) (hw : ∀ d ∈ tables_1, d.before a0 Z = true) (ws : List Jvm.Cond) (p1 : Int32) (p2 : Int32) (p3 : Int32) (p4 : Int32) (p5 : Int32) (s_COMPACT_STRINGS : Int32) (s_SIOOBE_FORMATTER : Value) (h0 : Heap) (n0 : Nat) (Z0 : n0 ≤ h0.size) (S_COMPACT_STRINGS : Sta Z h0 "java/lang/String" "COMPACT_STRINGS" "Z" (.int s_COMPACT_STRINGS)) (S_SIOOBE_FORMATTER : Sta Z h0 "jdk/internal/util/Preconditions" "SIOOBE_FORMATTER" "Ljava/util/function/BiFunction;" s_SIOOBE_FORMATTER) (S_assertionsDisabled : Sta Z h0 "java/lang/StringUTF16" "$assertionsDisabled" "Z" (.int (1 : Int32))) (S_HI_BYTE_SHIFT : Sta Z h0 "java/lang/StringUTF16" "HI_BYTE_SHIFT" "I" (.int (0 : Int32))) (S_LO_BYTE_SHIFT : Sta Z h0 "java/lang/StringUTF16" "LO_BYTE_SHIFT" "I" (.int (8 : Int32))) (hn0 : h0.size = n0) (hz_s_COMPACT_STRINGS : ¬ s_COMPACT_STRINGS = 0) (hR_s_SIOOBE_FORMATTER : s_SIOOBE_FORMATTER.isRef = true) :
    MetFree l x (head1 (Jvm.Cond.code x code maxLocals ret :: ws) room_1) (fun a U => a = #[(.int p1), (.int p2), (.int p3), (.int p4), (.int p5)] ∧ Z.Warmed39 U.vm ∧ U.heap = h0 ∧ CHv Z own_EL U.vm h0) (fun _ _ _ _ _ => True) (fun _ U o U' => ∃ v L, o = .returned v ∧ Q0 Z p1 p2 p3 p4 p5 s_COMPACT_STRINGS s_SIOOBE_FORMATTER h0 n0 v U'.heap L ∧ CHr Z own_EL U.vm U.heap U'.vm U'.heap ∧ ReturnedEndW U o U' L 24 1152) := by
  refine MetFree.of_bodySF (plainFor_of_name own_pn_com_example_varigraph_varigraph_generate_OperationCanNamePinLaw) hisR ?_
  intro p e s m args below meth c s₁ Bd hml0 hP hK
  obtain ⟨rfl, hZ, hh, hCH⟩ := hP
  have hx := Bd.exec
  have hby := Bd.bytes
  have hlk := Bd.notSynchronized
  have hml : c.maxLocals = 12 := hml0
  have hown : s.vm.findClass "com/example/varigraph/varigraph/generate/OperationCanNamePinLaw" = some m.cls := findClass_of_methodNamed Bd.named
  have hnm := (name_of_methodNamed Bd.named Bd.method).1
  have X0 : Stand p l e room_1 (s.setVm s.vm) m #[(.int p1), (.int p2), (.int p3), (.int p4), (.int p5)] below meth c s₁ [] 0 0 := Stand.of_body Bd
  have hZ : Z.Warmed39 (s.setVm s.vm).vm := hZ
  have hown : (s.setVm s.vm).vm.findClass "com/example/varigraph/varigraph/generate/OperationCanNamePinLaw" = some m.cls := hown
  have hS0 : s.Since s.vm 0 := (State.WarmedH.refl s).since 0
  have R0 : CHr Z own_EL s.vm h0 s.vm h0 := CHr.refl hCH
  have e0 : s₁.heap = h0 := by rw [← hh, Bd.state]; rfl
  have N0 := Fr.nil n0
  have K0 : Keep h0 h0 [] := Keep.refl _ _
  show Go p e below (KS s below Z own_EL (Q0 Z p1 p2 p3 p4 p5 s_COMPACT_STRINGS s_SIOOBE_FORMATTER h0 n0) 24 1152) _
  refine Go.body (T := s₁) (σ := s₁) (g' := (mkF m 0 #[.val (.int p1), .val (.int p2), .val (.int p3), .val (.int p4), .val (.int p5), .unset, .unset, .unset, .unset, .unset, .unset, .unset] [])) (ef_0 m p1 p2 p3 p4 p5) ?_
  refine g_iloadN X0 hx (hb hby at_0) 1 rfl (v := p1) rfl ?_
  refine Go.st (X0.ldcInt hx hown (mvT hZ (hw _ (List.mem_of_getElem? (i := 0) rfl))) (g := (mkF m 1 #[.val (.int p1), .val (.int p2), .val (.int p3), .val (.int p4), .val (.int p5), .unset, .unset, .unset, .unset, .unset, .unset, .unset] [(.int p1)])) rfl (hb hby at_1)) ?_
  show Go p e below _ (s₁.setTop (mkF m 3 #[.val (.int p1), .val (.int p2), .val (.int p3), .val (.int p4), .val (.int p5), .unset, .unset, .unset, .unset, .unset, .unset, .unset] [(.int (2147483647 : Int32)), (.int p1)]))
  refine g_iand X0 hx (hb hby at_3) 4 rfl (p1 &&& (2147483647 : Int32)) rfl ?_
  refine g_iconst X0 hx (hb hby at_4) 5 rfl (5 : Int32) rfl ?_
  obtain ⟨nn, e_nn⟩ : ∃ z, ((p1 &&& (2147483647 : Int32)) % (5 : Int32)) = z := ⟨_, rfl⟩
  refine g_irem X0 hx (hb hby at_5) 6 rfl (by decide) nn e_nn ?_
  refine g_istore X0 hx (hb hby at_6) 8 rfl #[.val (.int p1), .val (.int p2), .val (.int p3), .val (.int p4), .val (.int p5), .val (.int nn), .unset, .unset, .unset, .unset, .unset, .unset] rfl ?_
  refine g_iloadN X0 hx (hb hby at_8) 9 rfl (v := p2) rfl ?_
  obtain ⟨_, _, ⟨T170, L170, k170, n170⟩, -, X170, ⟨Lc170, hQ170, l170, y170, z170⟩, st170⟩ := Jvm.LawKit.callS X0 hx (y := (⟨"com/example/varigraph/varigraph/generate/OperationCanNamePinLaw", "pick", "(I)C"⟩ : MethodName)) hown (mvT hZ (hw _ (List.mem_of_getElem? (i := 1) rfl))) (mvT hZ (hw _ (List.mem_of_getElem? (i := 2) rfl))) (mvT hZ (hw _ (List.mem_of_getElem? (i := 3) rfl))) (mvT hZ (hw _ (List.mem_of_getElem? (i := 4) rfl))) (by decide) (backOf (W := 0) (rmpick l Z a0 hw [] p2 h0 n0 Z0 ) hZ (hw _ (List.mem_of_getElem? (i := 4) rfl)) (hw _ (List.mem_of_getElem? (i := 3) rfl)) (by decide) (by decide)) (g := (mkF m 9 #[.val (.int p1), .val (.int p2), .val (.int p3), .val (.int p4), .val (.int p5), .val (.int nn), .unset, .unset, .unset, .unset, .unset, .unset] [(.int p2)])) rfl (by rw [hml]; rfl) (argsL := [(.int p2)]) (rest := []) (lenOf own_pd21 rfl) rfl (by show 2 * 0 + _ ≤ _; exact Nat.le_of_eq rfl) (hb hby at_9) (fun _ _ => ⟨rfl, e0, (by decide : 0 + 0 ≤ _), (by decide : 0 + 0 ≤ _)⟩)
  dsimp only [Pt.U, Pt.locs, Pt.cells, Pt.slots] at X170 l170 y170 z170 st170 hQ170
  subst l170 y170 z170
  obtain ⟨c0, rfl, Nq170, e170, p170_0⟩ := hQ170
  refine Go.st st170 ?_
  have N170 := Fr.app N0 Nq170
  show Go p e below _ (T170.setTop (mkF m 12 #[.val (.int p1), .val (.int p2), .val (.int p3), .val (.int p4), .val (.int p5), .val (.int nn), .unset, .unset, .unset, .unset, .unset, .unset] [(.int c0)]))
  refine g_istore X170 hx (hb hby at_12) 14 rfl #[.val (.int p1), .val (.int p2), .val (.int p3), .val (.int p4), .val (.int p5), .val (.int nn), .val (.int c0), .unset, .unset, .unset, .unset, .unset] rfl ?_
  refine g_iloadN X170 hx (hb hby at_14) 15 rfl (v := p3) rfl ?_
  obtain ⟨_, _, ⟨T171, L171, k171, n171⟩, -, X171, ⟨Lc171, hQ171, l171, y171, z171⟩, st171⟩ := Jvm.LawKit.callS X170 hx (y := (⟨"com/example/varigraph/varigraph/generate/OperationCanNamePinLaw", "pick", "(I)C"⟩ : MethodName)) hown (mvT hZ (hw _ (List.mem_of_getElem? (i := 1) rfl))) (mvT hZ (hw _ (List.mem_of_getElem? (i := 2) rfl))) (mvT hZ (hw _ (List.mem_of_getElem? (i := 3) rfl))) (mvT hZ (hw _ (List.mem_of_getElem? (i := 4) rfl))) (by decide) (backOf (W := 0) (rmpick l Z a0 hw [] p3 h0 n0 Z0 ) hZ (hw _ (List.mem_of_getElem? (i := 4) rfl)) (hw _ (List.mem_of_getElem? (i := 3) rfl)) (by decide) (by decide)) (g := (mkF m 15 #[.val (.int p1), .val (.int p2), .val (.int p3), .val (.int p4), .val (.int p5), .val (.int nn), .val (.int c0), .unset, .unset, .unset, .unset, .unset] [(.int p3)])) rfl (by rw [hml]; rfl) (argsL := [(.int p3)]) (rest := []) (lenOf own_pd21 rfl) rfl (by show 2 * 0 + _ ≤ _; exact Nat.le_of_eq rfl) (hb hby at_15) (fun _ _ => ⟨rfl, e170, (by decide : 0 + 0 ≤ _), (by decide : 0 + 0 ≤ _)⟩)
  dsimp only [Pt.U, Pt.locs, Pt.cells, Pt.slots] at X171 l171 y171 z171 st171 hQ171
  subst l171 y171 z171
  obtain ⟨c1, rfl, Nq171, e171, p171_0⟩ := hQ171
  refine Go.st st171 ?_
  have N171 := Fr.app N170 Nq171
  show Go p e below _ (T171.setTop (mkF m 18 #[.val (.int p1), .val (.int p2), .val (.int p3), .val (.int p4), .val (.int p5), .val (.int nn), .val (.int c0), .unset, .unset, .unset, .unset, .unset] [(.int c1)]))
  refine g_istore X171 hx (hb hby at_18) 20 rfl #[.val (.int p1), .val (.int p2), .val (.int p3), .val (.int p4), .val (.int p5), .val (.int nn), .val (.int c0), .val (.int c1), .unset, .unset, .unset, .unset] rfl ?_
  refine g_iloadN X171 hx (hb hby at_20) 21 rfl (v := p4) rfl ?_
  obtain ⟨_, _, ⟨T172, L172, k172, n172⟩, -, X172, ⟨Lc172, hQ172, l172, y172, z172⟩, st172⟩ := Jvm.LawKit.callS X171 hx (y := (⟨"com/example/varigraph/varigraph/generate/OperationCanNamePinLaw", "pick", "(I)C"⟩ : MethodName)) hown (mvT hZ (hw _ (List.mem_of_getElem? (i := 1) rfl))) (mvT hZ (hw _ (List.mem_of_getElem? (i := 2) rfl))) (mvT hZ (hw _ (List.mem_of_getElem? (i := 3) rfl))) (mvT hZ (hw _ (List.mem_of_getElem? (i := 4) rfl))) (by decide) (backOf (W := 0) (rmpick l Z a0 hw [] p4 h0 n0 Z0 ) hZ (hw _ (List.mem_of_getElem? (i := 4) rfl)) (hw _ (List.mem_of_getElem? (i := 3) rfl)) (by decide) (by decide)) (g := (mkF m 21 #[.val (.int p1), .val (.int p2), .val (.int p3), .val (.int p4), .val (.int p5), .val (.int nn), .val (.int c0), .val (.int c1), .unset, .unset, .unset, .unset] [(.int p4)])) rfl (by rw [hml]; rfl) (argsL := [(.int p4)]) (rest := []) (lenOf own_pd21 rfl) rfl (by show 2 * 0 + _ ≤ _; exact Nat.le_of_eq rfl) (hb hby at_21) (fun _ _ => ⟨rfl, e171, (by decide : 0 + 0 ≤ _), (by decide : 0 + 0 ≤ _)⟩)
  dsimp only [Pt.U, Pt.locs, Pt.cells, Pt.slots] at X172 l172 y172 z172 st172 hQ172
  subst l172 y172 z172
  obtain ⟨c2, rfl, Nq172, e172, p172_0⟩ := hQ172
  refine Go.st st172 ?_
  have N172 := Fr.app N171 Nq172
  show Go p e below _ (T172.setTop (mkF m 24 #[.val (.int p1), .val (.int p2), .val (.int p3), .val (.int p4), .val (.int p5), .val (.int nn), .val (.int c0), .val (.int c1), .unset, .unset, .unset, .unset] [(.int c2)]))
  refine g_istore X172 hx (hb hby at_24) 26 rfl #[.val (.int p1), .val (.int p2), .val (.int p3), .val (.int p4), .val (.int p5), .val (.int nn), .val (.int c0), .val (.int c1), .val (.int c2), .unset, .unset, .unset] rfl ?_
  refine g_iload X172 hx (hb hby at_26) 28 rfl (v := p5) rfl ?_
  obtain ⟨_, _, ⟨T173, L173, k173, n173⟩, -, X173, ⟨Lc173, hQ173, l173, y173, z173⟩, st173⟩ := Jvm.LawKit.callS X172 hx (y := (⟨"com/example/varigraph/varigraph/generate/OperationCanNamePinLaw", "pick", "(I)C"⟩ : MethodName)) hown (mvT hZ (hw _ (List.mem_of_getElem? (i := 1) rfl))) (mvT hZ (hw _ (List.mem_of_getElem? (i := 2) rfl))) (mvT hZ (hw _ (List.mem_of_getElem? (i := 3) rfl))) (mvT hZ (hw _ (List.mem_of_getElem? (i := 4) rfl))) (by decide) (backOf (W := 0) (rmpick l Z a0 hw [] p5 h0 n0 Z0 ) hZ (hw _ (List.mem_of_getElem? (i := 4) rfl)) (hw _ (List.mem_of_getElem? (i := 3) rfl)) (by decide) (by decide)) (g := (mkF m 28 #[.val (.int p1), .val (.int p2), .val (.int p3), .val (.int p4), .val (.int p5), .val (.int nn), .val (.int c0), .val (.int c1), .val (.int c2), .unset, .unset, .unset] [(.int p5)])) rfl (by rw [hml]; rfl) (argsL := [(.int p5)]) (rest := []) (lenOf own_pd21 rfl) rfl (by show 2 * 0 + _ ≤ _; exact Nat.le_of_eq rfl) (hb hby at_28) (fun _ _ => ⟨rfl, e172, (by decide : 0 + 0 ≤ _), (by decide : 0 + 0 ≤ _)⟩)
  dsimp only [Pt.U, Pt.locs, Pt.cells, Pt.slots] at X173 l173 y173 z173 st173 hQ173
  subst l173 y173 z173
  obtain ⟨c3, rfl, Nq173, e173, p173_0⟩ := hQ173
  refine Go.st st173 ?_
  have N173 := Fr.app N172 Nq173
  show Go p e below _ (T173.setTop (mkF m 31 #[.val (.int p1), .val (.int p2), .val (.int p3), .val (.int p4), .val (.int p5), .val (.int nn), .val (.int c0), .val (.int c1), .val (.int c2), .unset, .unset, .unset] [(.int c3)]))
  refine g_istore X173 hx (hb hby at_31) 33 rfl #[.val (.int p1), .val (.int p2), .val (.int p3), .val (.int p4), .val (.int p5), .val (.int nn), .val (.int c0), .val (.int c1), .val (.int c2), .val (.int c3), .unset, .unset] rfl ?_
  refine g_iload X173 hx (hb hby at_33) 35 rfl (v := nn) rfl ?_
  refine g_if_ne X173 hx (hb hby at_35) 53 38 (by decide) (by decide) rfl (fun hc35 => ?_) (fun hc35 => ?_)
  · refine g_iload X173 hx (hb hby at_53) 55 rfl (v := nn) rfl ?_
    refine g_iconst X173 hx (hb hby at_55) 56 rfl (1 : Int32) rfl ?_
    refine g_icmp_ne X173 hx (hb hby at_56) 69 59 (by decide) (by decide) rfl (fun hc56 => ?_) (fun hc56 => ?_)
    · refine g_iload X173 hx (hb hby at_69) 71 rfl (v := nn) rfl ?_
      refine g_iconst X173 hx (hb hby at_71) 72 rfl (2 : Int32) rfl ?_
      refine g_icmp_ne X173 hx (hb hby at_72) 100 75 (by decide) (by decide) rfl (fun hc72 => ?_) (fun hc72 => ?_)
      · refine g_iload X173 hx (hb hby at_100) 102 rfl (v := nn) rfl ?_
        refine g_iconst X173 hx (hb hby at_102) 103 rfl (3 : Int32) rfl ?_
        refine g_icmp_ne X173 hx (hb hby at_103) 136 106 (by decide) (by decide) rfl (fun hc103 => ?_) (fun hc103 => ?_)
        · have hn4 : nn = 4 := own_n4 (e_nn ▸ own_n5 p1) hc35 hc56 hc72 hc103
          subst hn4
          have hCa : ∀ x ∈ [c0, c1, c2, c3], own_C x := List.forall_mem_cons.mpr ⟨p170_0, List.forall_mem_cons.mpr ⟨p171_0, List.forall_mem_cons.mpr ⟨p172_0, List.forall_mem_cons.mpr ⟨p173_0, fun _ q => nomatch q⟩⟩⟩⟩
          obtain ⟨T174, h174, X174, e174, E174, A174, D174, -, st174⟩ := newO X173 hx hZ hown (hw _ (List.mem_of_getElem? (i := 5) rfl)) (hw _ (List.mem_of_getElem? (i := 6) rfl)) (hw _ (List.mem_of_getElem? (i := 7) rfl)) e173 (g := (mkF m 136 #[.val (.int p1), .val (.int p2), .val (.int p3), .val (.int p4), .val (.int p5), .val (.int (4 : Int32)), .val (.int c0), .val (.int c1), .val (.int c2), .val (.int c3), .unset, .unset] [])) rfl (hb hby at_136) (by decide) (by decide)
          refine Go.st st174 ?_
          obtain ⟨os, q174⟩ : ∃ z, z = h0.size := ⟨_, rfl⟩
          rw [← q174] at A174 D174 ⊢
          have g_os : n0 ≤ os := Nat.le_trans Z0 (Nat.le_of_eq q174.symm)
          have Sf_os : Safe Z own_EL s.vm h0 os := Safe.new (Nat.le_of_eq q174.symm)
          have mh_os : h0.size ≤ os := Nat.le_trans K0.1 (Nat.le_of_eq q174.symm)
          have Sf_os_175 : Safe Z own_EL s.vm h174 os := Safe.ext E174 R0.1 Sf_os
          have R175 : CHr Z own_EL s.vm h0 s.vm h174 := CHr.trans R0 (CHr.ext E174 R0.1)
          have hk175 : _ ≤ h174.size := Nat.le_trans (Nat.zero_le _) (E174.1)
          have F_value_174 : Fld Z h174 os "java/lang/String" "value" "[B" .null := D174 (Or.inr (hw _ (List.mem_of_getElem? (i := 21) rfl))) (ty := (.array .byte)) (by decide)
          have F_coder_174 : Fld Z h174 os "java/lang/String" "coder" "B" (.int (0 : Int32)) := D174 (Or.inr (hw _ (List.mem_of_getElem? (i := 22) rfl))) (ty := .byte) (by decide)
          have K174 : Keep h0 h174 [] := Keep.ext K0 E174
          have Zs174 : n0 ≤ h174.size := Nat.le_trans Z0 E174.1
          show Go p e below _ (T174.setTop (mkF m 139 #[.val (.int p1), .val (.int p2), .val (.int p3), .val (.int p4), .val (.int p5), .val (.int (4 : Int32)), .val (.int c0), .val (.int c1), .val (.int c2), .val (.int c3), .unset, .unset] [(.ref os)]))
          refine g_dup X174 hx (hb hby at_139) 140 rfl rfl ?_
          refine g_iconst X174 hx (hb hby at_140) 141 rfl (4 : Int32) rfl ?_
          obtain ⟨T177, h177, cA177, X177, e177, E177, A177, st177⟩ := newP X174 hx hZ (aty := .char) (hw _ (List.mem_of_getElem? (i := 8) rfl)) e174 (g := (mkF m 141 #[.val (.int p1), .val (.int p2), .val (.int p3), .val (.int p4), .val (.int p5), .val (.int (4 : Int32)), .val (.int c0), .val (.int c1), .val (.int c2), .val (.int c3), .unset, .unset] [(.int (4 : Int32)), (.ref os), (.ref os)])) rfl (hb hby at_141) rfl (by decide) (cap := 4) (by decide) (by decide) (by decide) (by decide)
          refine Go.st st177 ?_
          obtain ⟨oc, q177⟩ : ∃ z, z = h174.size := ⟨_, rfl⟩
          rw [← q177] at A177 ⊢
          have ne_os_oc : os ≠ oc := Nat.ne_of_lt (Nat.lt_of_lt_of_eq A174.lt q177.symm)
          have g_oc : n0 ≤ oc := Nat.le_trans Zs174 (Nat.le_of_eq q177.symm)
          have Sf_oc : Safe Z own_EL s.vm h174 oc := Safe.new (Nat.le_of_eq q177.symm)
          have mh_oc : h0.size ≤ oc := Nat.le_trans K174.1 (Nat.le_of_eq q177.symm)
          have Sf_os_178 : Safe Z own_EL s.vm h177 os := Safe.ext E177 R175.1 Sf_os_175
          have Sf_oc_178 : Safe Z own_EL s.vm h177 oc := Safe.ext E177 R175.1 Sf_oc
          have R178 : CHr Z own_EL s.vm h0 s.vm h177 := CHr.trans R175 (CHr.ext E177 R175.1)
          have hk178 : _ ≤ h177.size := Nat.le_trans hk175 (E177.1)
          have E_os_179 : Exa Z h177 os "java/lang/String" := Exa.ext E177 A174
          have F_value_os_179 : Fld Z h177 os "java/lang/String" "value" "[B" .null := Fld.ext E177 F_value_174
          have F_coder_os_179 : Fld Z h177 os "java/lang/String" "coder" "B" (.int (0 : Int32)) := Fld.ext E177 F_coder_174
          have K177 : Keep h0 h177 [] := Keep.ext K174 E177
          have Zs177 : n0 ≤ h177.size := Nat.le_trans Zs174 E177.1
          have Av_oc : Arv Z h177 oc cA177 .char (4 : Int32) ([(.int (0 : Int32)), (.int (0 : Int32)), (.int (0 : Int32)), (.int (0 : Int32))]) (.int (0 : Int32)) := Arv.pad (Arv.new A177 (by decide)) (pad_rep [] (.int (0 : Int32)) 4)
          show Go p e below _ (T177.setTop (mkF m 143 #[.val (.int p1), .val (.int p2), .val (.int p3), .val (.int p4), .val (.int p5), .val (.int (4 : Int32)), .val (.int c0), .val (.int c1), .val (.int c2), .val (.int c3), .unset, .unset] [(.ref oc), (.ref os), (.ref os)]))
          refine g_dup X177 hx (hb hby at_143) 144 rfl rfl ?_
          refine g_iconst X177 hx (hb hby at_144) 145 rfl (0 : Int32) rfl ?_
          refine g_iload X177 hx (hb hby at_145) 147 rfl (v := c0) rfl ?_
          obtain ⟨T180, h180, X180, e180, W180, B180, st180⟩ := g_castore X177 hx (hb hby at_147) hZ e177 Av_oc (show ¬ (0 : Int32) < 0 ∧ (0 : Int32) < (4 : Int32) from by decide) (i := 0) (by decide) (by simp)  (L := #[.val (.int p1), .val (.int p2), .val (.int p3), .val (.int p4), .val (.int p5), .val (.int (4 : Int32)), .val (.int c0), .val (.int c1), .val (.int c2), .val (.int c3), .unset, .unset]) (S := [(.ref oc), (.ref os), (.ref os)])
          refine Go.st st180 ?_
          have Sf_os_181 : Safe Z own_EL s.vm h180 os := Safe.wr W180 Sf_oc_178 R178.1 Sf_os_178
          have Sf_oc_181 : Safe Z own_EL s.vm h180 oc := Safe.wr W180 Sf_oc_178 R178.1 Sf_oc_178
          have R181 : CHr Z own_EL s.vm h0 s.vm h180 := CHr.trans R178 (CHr.wr W180 Sf_oc_178 R178.1)
          have hk181 : _ ≤ h180.size := Nat.le_trans hk178 (Nat.le_of_eq W180.size.symm)
          have E_os_182 : Exa Z h180 os "java/lang/String" := Exa.wr W180 E_os_179
          have F_value_os_182 : Fld Z h180 os "java/lang/String" "value" "[B" .null := Fld.other W180 F_value_os_179 (Or.inl ne_os_oc)
          have F_coder_os_182 : Fld Z h180 os "java/lang/String" "coder" "B" (.int (0 : Int32)) := Fld.other W180 F_coder_os_179 (Or.inl ne_os_oc)
          have Av_oc_180 : Arv Z h180 oc cA177 .char (4 : Int32) ([(.int c0), (.int (0 : Int32)), (.int (0 : Int32)), (.int (0 : Int32))]) (.int (0 : Int32)) := (by have q := B180; rw [own_nC p170_0] at q; exact q)
          have K180 : Keep h0 h180 [] := Keep.wr K177 W180 (Or.inr mh_oc)
          have N180 := Fr.snoc X180 N173 g_oc
          have Zs180 : n0 ≤ h180.size := by rw [W180.size]; exact Zs177
          show Go p e below _ (T180.setTop (mkF m 148 #[.val (.int p1), .val (.int p2), .val (.int p3), .val (.int p4), .val (.int p5), .val (.int (4 : Int32)), .val (.int c0), .val (.int c1), .val (.int c2), .val (.int c3), .unset, .unset] [(.ref oc), (.ref os), (.ref os)]))
          refine g_dup X180 hx (hb hby at_148) 149 rfl rfl ?_
          refine g_iconst X180 hx (hb hby at_149) 150 rfl (1 : Int32) rfl ?_
          refine g_iload X180 hx (hb hby at_150) 152 rfl (v := c1) rfl ?_
          obtain ⟨T183, h183, X183, e183, W183, B183, st183⟩ := g_castore X180 hx (hb hby at_152) hZ e180 Av_oc_180 (show ¬ (1 : Int32) < 0 ∧ (1 : Int32) < (4 : Int32) from by decide) (i := 1) (by decide) (by simp)  (L := #[.val (.int p1), .val (.int p2), .val (.int p3), .val (.int p4), .val (.int p5), .val (.int (4 : Int32)), .val (.int c0), .val (.int c1), .val (.int c2), .val (.int c3), .unset, .unset]) (S := [(.ref oc), (.ref os), (.ref os)])
          refine Go.st st183 ?_
          have Sf_os_184 : Safe Z own_EL s.vm h183 os := Safe.wr W183 Sf_oc_181 R181.1 Sf_os_181
          have Sf_oc_184 : Safe Z own_EL s.vm h183 oc := Safe.wr W183 Sf_oc_181 R181.1 Sf_oc_181
          have R184 : CHr Z own_EL s.vm h0 s.vm h183 := CHr.trans R181 (CHr.wr W183 Sf_oc_181 R181.1)
          have hk184 : _ ≤ h183.size := Nat.le_trans hk181 (Nat.le_of_eq W183.size.symm)
          have E_os_185 : Exa Z h183 os "java/lang/String" := Exa.wr W183 E_os_182
          have F_value_os_185 : Fld Z h183 os "java/lang/String" "value" "[B" .null := Fld.other W183 F_value_os_182 (Or.inl ne_os_oc)
          have F_coder_os_185 : Fld Z h183 os "java/lang/String" "coder" "B" (.int (0 : Int32)) := Fld.other W183 F_coder_os_182 (Or.inl ne_os_oc)
          have Av_oc_183 : Arv Z h183 oc cA177 .char (4 : Int32) ([(.int c0), (.int c1), (.int (0 : Int32)), (.int (0 : Int32))]) (.int (0 : Int32)) := (by have q := B183; rw [own_nC p171_0] at q; exact q)
          have K183 : Keep h0 h183 [] := Keep.wr K180 W183 (Or.inr mh_oc)
          have N183 := Fr.snoc X183 N180 g_oc
          have Zs183 : n0 ≤ h183.size := by rw [W183.size]; exact Zs180
          show Go p e below _ (T183.setTop (mkF m 153 #[.val (.int p1), .val (.int p2), .val (.int p3), .val (.int p4), .val (.int p5), .val (.int (4 : Int32)), .val (.int c0), .val (.int c1), .val (.int c2), .val (.int c3), .unset, .unset] [(.ref oc), (.ref os), (.ref os)]))
          refine g_dup X183 hx (hb hby at_153) 154 rfl rfl ?_
          refine g_iconst X183 hx (hb hby at_154) 155 rfl (2 : Int32) rfl ?_
          refine g_iload X183 hx (hb hby at_155) 157 rfl (v := c2) rfl ?_
          obtain ⟨T186, h186, X186, e186, W186, B186, st186⟩ := g_castore X183 hx (hb hby at_157) hZ e183 Av_oc_183 (show ¬ (2 : Int32) < 0 ∧ (2 : Int32) < (4 : Int32) from by decide) (i := 2) (by decide) (by simp)  (L := #[.val (.int p1), .val (.int p2), .val (.int p3), .val (.int p4), .val (.int p5), .val (.int (4 : Int32)), .val (.int c0), .val (.int c1), .val (.int c2), .val (.int c3), .unset, .unset]) (S := [(.ref oc), (.ref os), (.ref os)])
          refine Go.st st186 ?_
          have Sf_os_187 : Safe Z own_EL s.vm h186 os := Safe.wr W186 Sf_oc_184 R184.1 Sf_os_184
          have Sf_oc_187 : Safe Z own_EL s.vm h186 oc := Safe.wr W186 Sf_oc_184 R184.1 Sf_oc_184
          have R187 : CHr Z own_EL s.vm h0 s.vm h186 := CHr.trans R184 (CHr.wr W186 Sf_oc_184 R184.1)
          have hk187 : _ ≤ h186.size := Nat.le_trans hk184 (Nat.le_of_eq W186.size.symm)
          have E_os_188 : Exa Z h186 os "java/lang/String" := Exa.wr W186 E_os_185
          have F_value_os_188 : Fld Z h186 os "java/lang/String" "value" "[B" .null := Fld.other W186 F_value_os_185 (Or.inl ne_os_oc)
          have F_coder_os_188 : Fld Z h186 os "java/lang/String" "coder" "B" (.int (0 : Int32)) := Fld.other W186 F_coder_os_185 (Or.inl ne_os_oc)
          have Av_oc_186 : Arv Z h186 oc cA177 .char (4 : Int32) ([(.int c0), (.int c1), (.int c2), (.int (0 : Int32))]) (.int (0 : Int32)) := (by have q := B186; rw [own_nC p172_0] at q; exact q)
          have K186 : Keep h0 h186 [] := Keep.wr K183 W186 (Or.inr mh_oc)
          have N186 := Fr.snoc X186 N183 g_oc
          have Zs186 : n0 ≤ h186.size := by rw [W186.size]; exact Zs183
          show Go p e below _ (T186.setTop (mkF m 158 #[.val (.int p1), .val (.int p2), .val (.int p3), .val (.int p4), .val (.int p5), .val (.int (4 : Int32)), .val (.int c0), .val (.int c1), .val (.int c2), .val (.int c3), .unset, .unset] [(.ref oc), (.ref os), (.ref os)]))
          refine g_dup X186 hx (hb hby at_158) 159 rfl rfl ?_
          refine g_iconst X186 hx (hb hby at_159) 160 rfl (3 : Int32) rfl ?_
          refine g_iload X186 hx (hb hby at_160) 162 rfl (v := c3) rfl ?_
          obtain ⟨T189, h189, X189, e189, W189, B189, st189⟩ := g_castore X186 hx (hb hby at_162) hZ e186 Av_oc_186 (show ¬ (3 : Int32) < 0 ∧ (3 : Int32) < (4 : Int32) from by decide) (i := 3) (by decide) (by simp)  (L := #[.val (.int p1), .val (.int p2), .val (.int p3), .val (.int p4), .val (.int p5), .val (.int (4 : Int32)), .val (.int c0), .val (.int c1), .val (.int c2), .val (.int c3), .unset, .unset]) (S := [(.ref oc), (.ref os), (.ref os)])
          refine Go.st st189 ?_
          have Sf_os_190 : Safe Z own_EL s.vm h189 os := Safe.wr W189 Sf_oc_187 R187.1 Sf_os_187
          have Sf_oc_190 : Safe Z own_EL s.vm h189 oc := Safe.wr W189 Sf_oc_187 R187.1 Sf_oc_187
          have R190 : CHr Z own_EL s.vm h0 s.vm h189 := CHr.trans R187 (CHr.wr W189 Sf_oc_187 R187.1)
          have hk190 : _ ≤ h189.size := Nat.le_trans hk187 (Nat.le_of_eq W189.size.symm)
          have E_os_191 : Exa Z h189 os "java/lang/String" := Exa.wr W189 E_os_188
          have F_value_os_191 : Fld Z h189 os "java/lang/String" "value" "[B" .null := Fld.other W189 F_value_os_188 (Or.inl ne_os_oc)
          have F_coder_os_191 : Fld Z h189 os "java/lang/String" "coder" "B" (.int (0 : Int32)) := Fld.other W189 F_coder_os_188 (Or.inl ne_os_oc)
          have Av_oc_189 : Arv Z h189 oc cA177 .char (4 : Int32) ([(.int c0), (.int c1), (.int c2), (.int c3)]) (.int (0 : Int32)) := (by have q := B189; rw [own_nC p173_0] at q; exact q)
          have K189 : Keep h0 h189 [] := Keep.wr K186 W189 (Or.inr mh_oc)
          have N189 := Fr.snoc X189 N186 g_oc
          have Zs189 : n0 ≤ h189.size := by rw [W189.size]; exact Zs186
          show Go p e below _ (T189.setTop (mkF m 163 #[.val (.int p1), .val (.int p2), .val (.int p3), .val (.int p4), .val (.int p5), .val (.int (4 : Int32)), .val (.int c0), .val (.int c1), .val (.int c2), .val (.int c3), .unset, .unset] [(.ref oc), (.ref os), (.ref os)]))
          have Avc : Arv Z h189 oc cA177 .char (Int32.ofNat [c0, c1, c2, c3].length) ([c0, c1, c2, c3].map Value.int) (.int (0 : Int32)) := Av_oc_189
          by_cases qf : ∀ x ∈ [c0, c1, c2, c3], ¬ (255 : Int32) < x
          · obtain ⟨_, _, ⟨T192, L192, k192, n192⟩, -, X192, ⟨Lc192, hQ192, l192, y192, z192⟩, st192⟩ := X189.specialBack hx (y := (⟨"java/lang/String", "<init>", "([C)V"⟩ : MethodName)) rfl hown (mvT hZ (hw _ (List.mem_of_getElem? (i := 9) rfl))) (mvT hZ (hw _ (List.mem_of_getElem? (i := 10) rfl))) (mvT hZ (hw _ (List.mem_of_getElem? (i := 11) rfl))) (by decide) (backOf (W := 1) (rmsCL l Z a0 hw [] os oc s_COMPACT_STRINGS cA177 ([c0, c1, c2, c3]) h189 n0 Zs189 (own_Sta_keep S_COMPACT_STRINGS K189 all0) E_os_191 g_os F_value_os_191 F_coder_os_191 Avc ne_os_oc hz_s_COMPACT_STRINGS (by simp) (by simp) qf) hZ (hw _ (List.mem_of_getElem? (i := 11) rfl)) (hw _ (List.mem_of_getElem? (i := 7) rfl)) (by decide) (by decide)) (g := (mkF m 163 #[.val (.int p1), .val (.int p2), .val (.int p3), .val (.int p4), .val (.int p5), .val (.int (4 : Int32)), .val (.int c0), .val (.int c1), .val (.int c2), .val (.int c3), .unset, .unset] [(.ref oc), (.ref os), (.ref os)])) rfl (by rw [hml]; rfl) (Steps.refl _) (a := os) (argsL := [(.ref oc)]) (rest := [(.ref os)]) (lenOf own_pd22 rfl) rfl (by show 2 * 0 + _ ≤ _; exact Nat.le_of_eq rfl) (hb hby at_163) (fun _ _ => ⟨rfl, e189, (by decide : 2 + 1 ≤ _), (by decide : 8 + 4 ≤ _)⟩)
            dsimp only [Pt.U, Pt.locs, Pt.cells, Pt.slots] at X192 l192 y192 z192 st192 hQ192
            subst l192 y192 z192
            obtain ⟨vb_192, kb_192, rfl, Nq192, Kq192, f192_0, f192_1, f192_2, f192_3, f192_4⟩ := hQ192
            refine Go.tr st192 ?_
            have N192 := Fr.app N189 Nq192
            have Sf_vb_192 : Safe Z own_EL s.vm h189 vb_192 := Safe.new f192_0
            have Sf_os_193 : Safe Z own_EL s.vm T192.heap os := Safe.keep Kq192 (allS Sf_os_190 all0) R190.1 Sf_os_190
            have Sf_oc_193 : Safe Z own_EL s.vm T192.heap oc := Safe.keep Kq192 (allS Sf_os_190 all0) R190.1 Sf_oc_190
            have Sf_vb_192_193 : Safe Z own_EL s.vm T192.heap vb_192 := Safe.keep Kq192 (allS Sf_os_190 all0) R190.1 Sf_vb_192
            have R193 : CHr Z own_EL s.vm h0 s.vm T192.heap := CHr.trans R190 (CHr.keep Kq192 (allS Sf_os_190 all0) R190.1)
            have hk193 : _ ≤ T192.heap.size := Nat.le_trans hk190 (Kq192.1)
            have E_os_194 : Exa Z T192.heap os "java/lang/String" := Exa.keep E_os_191 Kq192
            have A_oc_194 : Arv Z T192.heap oc cA177 .char (Int32.ofNat [c0, c1, c2, c3].length) ([c0, c1, c2, c3].map Value.int) (.int (0 : Int32)) := Arv.keep Avc Kq192 (ninS (Ne.symm ne_os_oc) nin0)
            have ne_os_vb_192 : os ≠ vb_192 := Nat.ne_of_lt (Nat.lt_of_lt_of_le E_os_191.lt f192_0)
            have ne_oc_vb_192 : oc ≠ vb_192 := Nat.ne_of_lt (Nat.lt_of_lt_of_le Avc.lt f192_0)
            have g_vb_192 : n0 ≤ vb_192 := Nat.le_trans Zs189 f192_0
            have mh_vb_192 : h0.size ≤ vb_192 := Nat.le_trans K189.1 f192_0
            have K192 : Keep h0 T192.heap [] := Keep.trans K189 Kq192 (allS (Or.inr mh_os) all0)
            have Zs192 : n0 ≤ T192.heap.size := Nat.le_trans Zs189 Kq192.1
            show Go p e below _ (T192.setTop (mkF m 166 #[.val (.int p1), .val (.int p2), .val (.int p3), .val (.int p4), .val (.int p5), .val (.int (4 : Int32)), .val (.int c0), .val (.int c1), .val (.int c2), .val (.int c3), .unset, .unset] [(.ref os)]))
            refine g_astore X192 hx (hb hby at_166) 168 rfl rfl #[.val (.int p1), .val (.int p2), .val (.int p3), .val (.int p4), .val (.int p5), .val (.int (4 : Int32)), .val (.int c0), .val (.int c1), .val (.int c2), .val (.int c3), .val (.ref os), .unset] rfl ?_
            have tl : ∀ (ee : Int32) {Ts195 : State} {lc195 : List Loc} {hs195 : Heap} {vs195 : Vm} {ks195 : Nat} (Xs195 : Stand p l e room_1 (s.setVm vs195) m #[(.int p1), (.int p2), (.int p3), (.int p4), (.int p5)] below meth c Ts195 lc195 3 12) (es195 : Ts195.heap = hs195) (Ns195 : Fr n0 lc195) (Ks195 : Keep h0 hs195 []) (Zs195 : n0 ≤ hs195.size) (Ss195 : s.Since vs195 ks195) (kk195 : ks195 ≤ hs195.size) (_ : Z.Warmed39 (s.setVm vs195).vm) (_ : (s.setVm vs195).vm.findClass "com/example/varigraph/varigraph/generate/OperationCanNamePinLaw" = some m.cls) (Rs195 : CHr Z own_EL s.vm h0 vs195 hs195) (Exa_s195_0 : Exa Z hs195 os "java/lang/String") (Fld_s195_1 : Fld Z hs195 os "java/lang/String" "value" "[B" (.ref vb_192)) (Fld_s195_2 : Fld Z hs195 os "java/lang/String" "coder" "B" (.int (0 : Int32))) (Arv_s195_3 : Arv Z hs195 vb_192 kb_192 .byte (Int32.ofNat ([c0, c1, c2, c3]).length) (own_bs ([c0, c1, c2, c3])) (.int (0 : Int32))) (he0 : ee = 0 ∨ ee = 1) (he1 : ee = 1 ↔ (∀ x ∈ [c0, c1, c2, c3], own_ok x)), Go p e below (KS s below Z own_EL (Q0 Z p1 p2 p3 p4 p5 s_COMPACT_STRINGS s_SIOOBE_FORMATTER h0 n0) 24 1152) (Ts195.setTop (mkF m 234 #[.val (.int p1), .val (.int p2), .val (.int p3), .val (.int p4), .val (.int p5), .val (.int (4 : Int32)), .val (.int c0), .val (.int c1), .val (.int c2), .val (.int c3), .val (.ref os), .unset] [(.int ee)])) := by
              intro ee Ts195 lc195 hs195 vs195 ks195 Xs195 es195 Ns195 Ks195 Zs195 Ss195 kk195 hZ hown Rs195 Exa_s195_0 Fld_s195_1 Fld_s195_2 Arv_s195_3 he0 he1
              refine g_istore Xs195 hx (hb hby at_234) 236 rfl #[.val (.int p1), .val (.int p2), .val (.int p3), .val (.int p4), .val (.int p5), .val (.int (4 : Int32)), .val (.int c0), .val (.int c1), .val (.int c2), .val (.int c3), .val (.ref os), .val (.int ee)] rfl ?_
              refine g_aload Xs195 hx (hb hby at_236) 238 rfl (v := (.ref os)) rfl rfl ?_
              obtain ⟨_, _, ⟨T196, L196, k196, n196⟩, -, X196, ⟨Lc196, hQ196, l196, y196, z196⟩, st196⟩ := Jvm.LawKit.callS Xs195 hx (y := (⟨"com/example/varigraph/varigraph/generate/Operation", "canName", "(Ljava/lang/String;)Z"⟩ : MethodName)) hown (mvT hZ (hw _ (List.mem_of_getElem? (i := 27) rfl))) (mvT hZ (hw _ (List.mem_of_getElem? (i := 28) rfl))) (mvT hZ (hw _ (List.mem_of_getElem? (i := 29) rfl))) (mvT hZ (hw _ (List.mem_of_getElem? (i := 30) rfl))) (by decide) (backOf (W := 0) (rmcanL l Z a0 hw [] os s_COMPACT_STRINGS vb_192 kb_192 ([c0, c1, c2, c3]) hs195 n0 Zs195 (own_Sta_keep S_COMPACT_STRINGS Ks195 all0) Exa_s195_0 Fld_s195_1 Fld_s195_2 Arv_s195_3 hz_s_COMPACT_STRINGS (by simp) (by simp) hCa qf) hZ (hw _ (List.mem_of_getElem? (i := 30) rfl)) (hw _ (List.mem_of_getElem? (i := 29) rfl)) (by decide) (by decide)) (g := (mkF m 238 #[.val (.int p1), .val (.int p2), .val (.int p3), .val (.int p4), .val (.int p5), .val (.int (4 : Int32)), .val (.int c0), .val (.int c1), .val (.int c2), .val (.int c3), .val (.ref os), .val (.int ee)] [(.ref os)])) rfl (by rw [hml]; rfl) (argsL := [(.ref os)]) (rest := []) (lenOf own_pd23 rfl) rfl (by show 2 * 0 + _ ≤ _; exact Nat.le_of_eq rfl) (hb hby at_238) (fun _ _ => ⟨rfl, es195, (by decide : 3 + 0 ≤ _), (by decide : 12 + 0 ≤ _)⟩)
              dsimp only [Pt.U, Pt.locs, Pt.cells, Pt.slots] at X196 l196 y196 z196 st196 hQ196
              subst l196 y196 z196
              obtain ⟨r_196, rfl, Nq196, e196, p196_0, p196_1⟩ := hQ196
              refine Go.st st196 ?_
              have N196 := Fr.app Ns195 Nq196
              show Go p e below _ (T196.setTop (mkF m 241 #[.val (.int p1), .val (.int p2), .val (.int p3), .val (.int p4), .val (.int p5), .val (.int (4 : Int32)), .val (.int c0), .val (.int c1), .val (.int c2), .val (.int c3), .val (.ref os), .val (.int ee)] [(.int r_196)]))
              refine g_iload X196 hx (hb hby at_241) 243 rfl (v := ee) rfl ?_
              refine g_icmp_ne X196 hx (hb hby at_243) 250 246 (by decide) (by decide) rfl (fun hc243 => False.elim (hc243 (own_bb p196_0 he0 p196_1 he1))) (fun hc243 => ?_)
              refine g_iconst X196 hx (hb hby at_246) 247 rfl (1 : Int32) rfl ?_
              refine g_goto X196 hx (hb hby at_247) 251 (by decide) (by decide) ?_
              refine Go.retNS X196 hx hlk (t := .boolean) Bd.returns (by simp) (hb hby at_251) (by decide) (by decide) Ss195 (by rw [e196]; exact kk195) (own_EW hw) hZ (by rw [hh, e196]; exact Rs195) ?_
              exact ⟨rfl, N196⟩
            refine g_iload X192 hx (hb hby at_168) 170 rfl (v := (4 : Int32)) rfl ?_
            refine g_if_le X192 hx (hb hby at_170) 233 173 (by decide) (by decide) rfl (fun hc170 => False.elim (absurd (by decide) hc170)) (fun hc170 => ?_)
            refine g_iload X192 hx (hb hby at_173) 175 rfl (v := (4 : Int32)) rfl ?_
            refine g_iconst X192 hx (hb hby at_175) 176 rfl (1 : Int32) rfl ?_
            refine g_icmp_lt X192 hx (hb hby at_176) 187 179 (by decide) (by decide) rfl (fun hc176 => False.elim (absurd hc176 (by decide))) (fun hc176 => ?_)
            refine g_iload X192 hx (hb hby at_179) 181 rfl (v := c0) rfl ?_
            obtain ⟨_, _, ⟨T197, L197, k197, n197⟩, -, X197, ⟨Lc197, hQ197, l197, y197, z197⟩, st197⟩ := Jvm.LawKit.callS X192 hx (y := (⟨"com/example/varigraph/varigraph/generate/OperationCanNamePinLaw", "ok", "(C)Z"⟩ : MethodName)) hown (mvT hZ (hw _ (List.mem_of_getElem? (i := 47) rfl))) (mvT hZ (hw _ (List.mem_of_getElem? (i := 48) rfl))) (mvT hZ (hw _ (List.mem_of_getElem? (i := 3) rfl))) (mvT hZ (hw _ (List.mem_of_getElem? (i := 49) rfl))) (by decide) (backOf (W := 0) (rmok l Z a0 hw [] c0 T192.heap n0 Zs192 ) hZ (hw _ (List.mem_of_getElem? (i := 49) rfl)) (hw _ (List.mem_of_getElem? (i := 3) rfl)) (by decide) (by decide)) (g := (mkF m 181 #[.val (.int p1), .val (.int p2), .val (.int p3), .val (.int p4), .val (.int p5), .val (.int (4 : Int32)), .val (.int c0), .val (.int c1), .val (.int c2), .val (.int c3), .val (.ref os), .unset] [(.int c0)])) rfl (by rw [hml]; rfl) (argsL := [(.int c0)]) (rest := []) (lenOf own_pd1 rfl) rfl (by show 2 * 0 + _ ≤ _; exact Nat.le_of_eq rfl) (hb hby at_181) (fun _ _ => ⟨rfl, rfl, (by decide : 3 + 0 ≤ _), (by decide : 12 + 0 ≤ _)⟩)
            dsimp only [Pt.U, Pt.locs, Pt.cells, Pt.slots] at X197 l197 y197 z197 st197 hQ197
            subst l197 y197 z197
            obtain ⟨r_197, rfl, Nq197, e197, p197_0, p197_1⟩ := hQ197
            refine Go.st st197 ?_
            have N197 := Fr.app N192 Nq197
            show Go p e below _ (T197.setTop (mkF m 184 #[.val (.int p1), .val (.int p2), .val (.int p3), .val (.int p4), .val (.int p5), .val (.int (4 : Int32)), .val (.int c0), .val (.int c1), .val (.int c2), .val (.int c3), .val (.ref os), .unset] [(.int r_197)]))
            refine g_if_eq X197 hx (hb hby at_184) 233 187 (by decide) (by decide) rfl (fun hc184 => ?_) (fun hc184 => ?_)
            · refine g_iconst X197 hx (hb hby at_233) 234 rfl (0 : Int32) rfl ?_
              exact tl (0 : Int32) (own_mono X197 (by decide) (by decide)) e197 N197 K192 Zs192 hS0 hk193 hZ hown R193 f192_1 f192_2 f192_3 f192_4 (Or.inl rfl) (⟨fun q => absurd q (by decide), fun q => absurd (hc184.symm.trans (p197_1.mpr (q c0 (by simp)))) (by decide)⟩)
            · refine g_iload X197 hx (hb hby at_187) 189 rfl (v := (4 : Int32)) rfl ?_
              refine g_iconst X197 hx (hb hby at_189) 190 rfl (2 : Int32) rfl ?_
              refine g_icmp_lt X197 hx (hb hby at_190) 201 193 (by decide) (by decide) rfl (fun hc190 => False.elim (absurd hc190 (by decide))) (fun hc190 => ?_)
              refine g_iload X197 hx (hb hby at_193) 195 rfl (v := c1) rfl ?_
              obtain ⟨_, _, ⟨T198, L198, k198, n198⟩, -, X198, ⟨Lc198, hQ198, l198, y198, z198⟩, st198⟩ := Jvm.LawKit.callS X197 hx (y := (⟨"com/example/varigraph/varigraph/generate/OperationCanNamePinLaw", "ok", "(C)Z"⟩ : MethodName)) hown (mvT hZ (hw _ (List.mem_of_getElem? (i := 47) rfl))) (mvT hZ (hw _ (List.mem_of_getElem? (i := 48) rfl))) (mvT hZ (hw _ (List.mem_of_getElem? (i := 3) rfl))) (mvT hZ (hw _ (List.mem_of_getElem? (i := 49) rfl))) (by decide) (backOf (W := 0) (rmok l Z a0 hw [] c1 T192.heap n0 Zs192 ) hZ (hw _ (List.mem_of_getElem? (i := 49) rfl)) (hw _ (List.mem_of_getElem? (i := 3) rfl)) (by decide) (by decide)) (g := (mkF m 195 #[.val (.int p1), .val (.int p2), .val (.int p3), .val (.int p4), .val (.int p5), .val (.int (4 : Int32)), .val (.int c0), .val (.int c1), .val (.int c2), .val (.int c3), .val (.ref os), .unset] [(.int c1)])) rfl (by rw [hml]; rfl) (argsL := [(.int c1)]) (rest := []) (lenOf own_pd1 rfl) rfl (by show 2 * 0 + _ ≤ _; exact Nat.le_of_eq rfl) (hb hby at_195) (fun _ _ => ⟨rfl, e197, (by decide : 3 + 0 ≤ _), (by decide : 12 + 0 ≤ _)⟩)
              dsimp only [Pt.U, Pt.locs, Pt.cells, Pt.slots] at X198 l198 y198 z198 st198 hQ198
              subst l198 y198 z198
              obtain ⟨r_198, rfl, Nq198, e198, p198_0, p198_1⟩ := hQ198
              refine Go.st st198 ?_
              have N198 := Fr.app N197 Nq198
              show Go p e below _ (T198.setTop (mkF m 198 #[.val (.int p1), .val (.int p2), .val (.int p3), .val (.int p4), .val (.int p5), .val (.int (4 : Int32)), .val (.int c0), .val (.int c1), .val (.int c2), .val (.int c3), .val (.ref os), .unset] [(.int r_198)]))
              refine g_if_eq X198 hx (hb hby at_198) 233 201 (by decide) (by decide) rfl (fun hc198 => ?_) (fun hc198 => ?_)
              · refine g_iconst X198 hx (hb hby at_233) 234 rfl (0 : Int32) rfl ?_
                exact tl (0 : Int32) (own_mono X198 (by decide) (by decide)) e198 N198 K192 Zs192 hS0 hk193 hZ hown R193 f192_1 f192_2 f192_3 f192_4 (Or.inl rfl) (⟨fun q => absurd q (by decide), fun q => absurd (hc198.symm.trans (p198_1.mpr (q c1 (by simp)))) (by decide)⟩)
              · refine g_iload X198 hx (hb hby at_201) 203 rfl (v := (4 : Int32)) rfl ?_
                refine g_iconst X198 hx (hb hby at_203) 204 rfl (3 : Int32) rfl ?_
                refine g_icmp_lt X198 hx (hb hby at_204) 215 207 (by decide) (by decide) rfl (fun hc204 => False.elim (absurd hc204 (by decide))) (fun hc204 => ?_)
                refine g_iload X198 hx (hb hby at_207) 209 rfl (v := c2) rfl ?_
                obtain ⟨_, _, ⟨T199, L199, k199, n199⟩, -, X199, ⟨Lc199, hQ199, l199, y199, z199⟩, st199⟩ := Jvm.LawKit.callS X198 hx (y := (⟨"com/example/varigraph/varigraph/generate/OperationCanNamePinLaw", "ok", "(C)Z"⟩ : MethodName)) hown (mvT hZ (hw _ (List.mem_of_getElem? (i := 47) rfl))) (mvT hZ (hw _ (List.mem_of_getElem? (i := 48) rfl))) (mvT hZ (hw _ (List.mem_of_getElem? (i := 3) rfl))) (mvT hZ (hw _ (List.mem_of_getElem? (i := 49) rfl))) (by decide) (backOf (W := 0) (rmok l Z a0 hw [] c2 T192.heap n0 Zs192 ) hZ (hw _ (List.mem_of_getElem? (i := 49) rfl)) (hw _ (List.mem_of_getElem? (i := 3) rfl)) (by decide) (by decide)) (g := (mkF m 209 #[.val (.int p1), .val (.int p2), .val (.int p3), .val (.int p4), .val (.int p5), .val (.int (4 : Int32)), .val (.int c0), .val (.int c1), .val (.int c2), .val (.int c3), .val (.ref os), .unset] [(.int c2)])) rfl (by rw [hml]; rfl) (argsL := [(.int c2)]) (rest := []) (lenOf own_pd1 rfl) rfl (by show 2 * 0 + _ ≤ _; exact Nat.le_of_eq rfl) (hb hby at_209) (fun _ _ => ⟨rfl, e198, (by decide : 3 + 0 ≤ _), (by decide : 12 + 0 ≤ _)⟩)
                dsimp only [Pt.U, Pt.locs, Pt.cells, Pt.slots] at X199 l199 y199 z199 st199 hQ199
                subst l199 y199 z199
                obtain ⟨r_199, rfl, Nq199, e199, p199_0, p199_1⟩ := hQ199
                refine Go.st st199 ?_
                have N199 := Fr.app N198 Nq199
                show Go p e below _ (T199.setTop (mkF m 212 #[.val (.int p1), .val (.int p2), .val (.int p3), .val (.int p4), .val (.int p5), .val (.int (4 : Int32)), .val (.int c0), .val (.int c1), .val (.int c2), .val (.int c3), .val (.ref os), .unset] [(.int r_199)]))
                refine g_if_eq X199 hx (hb hby at_212) 233 215 (by decide) (by decide) rfl (fun hc212 => ?_) (fun hc212 => ?_)
                · refine g_iconst X199 hx (hb hby at_233) 234 rfl (0 : Int32) rfl ?_
                  exact tl (0 : Int32) (own_mono X199 (by decide) (by decide)) e199 N199 K192 Zs192 hS0 hk193 hZ hown R193 f192_1 f192_2 f192_3 f192_4 (Or.inl rfl) (⟨fun q => absurd q (by decide), fun q => absurd (hc212.symm.trans (p199_1.mpr (q c2 (by simp)))) (by decide)⟩)
                · refine g_iload X199 hx (hb hby at_215) 217 rfl (v := (4 : Int32)) rfl ?_
                  refine g_iconst X199 hx (hb hby at_217) 218 rfl (4 : Int32) rfl ?_
                  refine g_icmp_lt X199 hx (hb hby at_218) 229 221 (by decide) (by decide) rfl (fun hc218 => False.elim (absurd hc218 (by decide))) (fun hc218 => ?_)
                  refine g_iload X199 hx (hb hby at_221) 223 rfl (v := c3) rfl ?_
                  obtain ⟨_, _, ⟨T200, L200, k200, n200⟩, -, X200, ⟨Lc200, hQ200, l200, y200, z200⟩, st200⟩ := Jvm.LawKit.callS X199 hx (y := (⟨"com/example/varigraph/varigraph/generate/OperationCanNamePinLaw", "ok", "(C)Z"⟩ : MethodName)) hown (mvT hZ (hw _ (List.mem_of_getElem? (i := 47) rfl))) (mvT hZ (hw _ (List.mem_of_getElem? (i := 48) rfl))) (mvT hZ (hw _ (List.mem_of_getElem? (i := 3) rfl))) (mvT hZ (hw _ (List.mem_of_getElem? (i := 49) rfl))) (by decide) (backOf (W := 0) (rmok l Z a0 hw [] c3 T192.heap n0 Zs192 ) hZ (hw _ (List.mem_of_getElem? (i := 49) rfl)) (hw _ (List.mem_of_getElem? (i := 3) rfl)) (by decide) (by decide)) (g := (mkF m 223 #[.val (.int p1), .val (.int p2), .val (.int p3), .val (.int p4), .val (.int p5), .val (.int (4 : Int32)), .val (.int c0), .val (.int c1), .val (.int c2), .val (.int c3), .val (.ref os), .unset] [(.int c3)])) rfl (by rw [hml]; rfl) (argsL := [(.int c3)]) (rest := []) (lenOf own_pd1 rfl) rfl (by show 2 * 0 + _ ≤ _; exact Nat.le_of_eq rfl) (hb hby at_223) (fun _ _ => ⟨rfl, e199, (by decide : 3 + 0 ≤ _), (by decide : 12 + 0 ≤ _)⟩)
                  dsimp only [Pt.U, Pt.locs, Pt.cells, Pt.slots] at X200 l200 y200 z200 st200 hQ200
                  subst l200 y200 z200
                  obtain ⟨r_200, rfl, Nq200, e200, p200_0, p200_1⟩ := hQ200
                  refine Go.st st200 ?_
                  have N200 := Fr.app N199 Nq200
                  show Go p e below _ (T200.setTop (mkF m 226 #[.val (.int p1), .val (.int p2), .val (.int p3), .val (.int p4), .val (.int p5), .val (.int (4 : Int32)), .val (.int c0), .val (.int c1), .val (.int c2), .val (.int c3), .val (.ref os), .unset] [(.int r_200)]))
                  refine g_if_eq X200 hx (hb hby at_226) 233 229 (by decide) (by decide) rfl (fun hc226 => ?_) (fun hc226 => ?_)
                  · refine g_iconst X200 hx (hb hby at_233) 234 rfl (0 : Int32) rfl ?_
                    exact tl (0 : Int32) (own_mono X200 (by decide) (by decide)) e200 N200 K192 Zs192 hS0 hk193 hZ hown R193 f192_1 f192_2 f192_3 f192_4 (Or.inl rfl) (⟨fun q => absurd q (by decide), fun q => absurd (hc226.symm.trans (p200_1.mpr (q c3 (by simp)))) (by decide)⟩)
                  · refine g_iconst X200 hx (hb hby at_229) 230 rfl (1 : Int32) rfl ?_
                    refine g_goto X200 hx (hb hby at_230) 234 (by decide) (by decide) ?_
                    exact tl (1 : Int32) (own_mono X200 (by decide) (by decide)) e200 N200 K192 Zs192 hS0 hk193 hZ hown R193 f192_1 f192_2 f192_3 f192_4 (Or.inr rfl) (⟨fun _ => List.forall_mem_cons.mpr ⟨p197_1.mp (p197_0.resolve_left hc184), List.forall_mem_cons.mpr ⟨p198_1.mp (p198_0.resolve_left hc198), List.forall_mem_cons.mpr ⟨p199_1.mp (p199_0.resolve_left hc212), List.forall_mem_cons.mpr ⟨p200_1.mp (p200_0.resolve_left hc226), fun _ q => nomatch q⟩⟩⟩⟩, fun _ => rfl⟩)
          · obtain ⟨_, _, ⟨T201, L201, k201, n201⟩, -, X201, ⟨Lc201, hQ201, l201, y201, z201⟩, st201⟩ := X189.specialBack hx (y := (⟨"java/lang/String", "<init>", "([C)V"⟩ : MethodName)) rfl hown (mvT hZ (hw _ (List.mem_of_getElem? (i := 9) rfl))) (mvT hZ (hw _ (List.mem_of_getElem? (i := 10) rfl))) (mvT hZ (hw _ (List.mem_of_getElem? (i := 11) rfl))) (by decide) (backOf (W := 1) (rmsCU l Z a0 hw [] os oc s_COMPACT_STRINGS cA177 ([c0, c1, c2, c3]) h189 n0 Zs189 (own_Sta_keep S_COMPACT_STRINGS K189 all0) (own_Sta_keep S_assertionsDisabled K189 all0) (own_Sta_keep S_HI_BYTE_SHIFT K189 all0) (own_Sta_keep S_LO_BYTE_SHIFT K189 all0) E_os_191 g_os F_value_os_191 F_coder_os_191 Avc ne_os_oc hz_s_COMPACT_STRINGS (by simp) (by simp) hCa qf) hZ (hw _ (List.mem_of_getElem? (i := 11) rfl)) (hw _ (List.mem_of_getElem? (i := 7) rfl)) (by decide) (by decide)) (g := (mkF m 163 #[.val (.int p1), .val (.int p2), .val (.int p3), .val (.int p4), .val (.int p5), .val (.int (4 : Int32)), .val (.int c0), .val (.int c1), .val (.int c2), .val (.int c3), .unset, .unset] [(.ref oc), (.ref os), (.ref os)])) rfl (by rw [hml]; rfl) (Steps.refl _) (a := os) (argsL := [(.ref oc)]) (rest := [(.ref os)]) (lenOf own_pd22 rfl) rfl (by show 2 * 0 + _ ≤ _; exact Nat.le_of_eq rfl) (hb hby at_163) (fun _ _ => ⟨rfl, e189, (by decide : 2 + 2 ≤ _), (by decide : 8 + 12 ≤ _)⟩)
            dsimp only [Pt.U, Pt.locs, Pt.cells, Pt.slots] at X201 l201 y201 z201 st201 hQ201
            subst l201 y201 z201
            obtain ⟨vb_201, kb_201, rfl, Nq201, Kq201, f201_0, f201_1, f201_2, f201_3, f201_4⟩ := hQ201
            refine Go.tr st201 ?_
            have N201 := Fr.app N189 Nq201
            have Sf_vb_201 : Safe Z own_EL s.vm h189 vb_201 := Safe.new f201_0
            have Sf_os_202 : Safe Z own_EL s.vm T201.heap os := Safe.keep Kq201 (allS Sf_os_190 all0) R190.1 Sf_os_190
            have Sf_oc_202 : Safe Z own_EL s.vm T201.heap oc := Safe.keep Kq201 (allS Sf_os_190 all0) R190.1 Sf_oc_190
            have Sf_vb_201_202 : Safe Z own_EL s.vm T201.heap vb_201 := Safe.keep Kq201 (allS Sf_os_190 all0) R190.1 Sf_vb_201
            have R202 : CHr Z own_EL s.vm h0 s.vm T201.heap := CHr.trans R190 (CHr.keep Kq201 (allS Sf_os_190 all0) R190.1)
            have hk202 : _ ≤ T201.heap.size := Nat.le_trans hk190 (Kq201.1)
            have E_os_203 : Exa Z T201.heap os "java/lang/String" := Exa.keep E_os_191 Kq201
            have A_oc_203 : Arv Z T201.heap oc cA177 .char (Int32.ofNat [c0, c1, c2, c3].length) ([c0, c1, c2, c3].map Value.int) (.int (0 : Int32)) := Arv.keep Avc Kq201 (ninS (Ne.symm ne_os_oc) nin0)
            have ne_os_vb_201 : os ≠ vb_201 := Nat.ne_of_lt (Nat.lt_of_lt_of_le E_os_191.lt f201_0)
            have ne_oc_vb_201 : oc ≠ vb_201 := Nat.ne_of_lt (Nat.lt_of_lt_of_le Avc.lt f201_0)
            have g_vb_201 : n0 ≤ vb_201 := Nat.le_trans Zs189 f201_0
            have mh_vb_201 : h0.size ≤ vb_201 := Nat.le_trans K189.1 f201_0
            have K201 : Keep h0 T201.heap [] := Keep.trans K189 Kq201 (allS (Or.inr mh_os) all0)
            have Zs201 : n0 ≤ T201.heap.size := Nat.le_trans Zs189 Kq201.1
            show Go p e below _ (T201.setTop (mkF m 166 #[.val (.int p1), .val (.int p2), .val (.int p3), .val (.int p4), .val (.int p5), .val (.int (4 : Int32)), .val (.int c0), .val (.int c1), .val (.int c2), .val (.int c3), .unset, .unset] [(.ref os)]))
            refine g_astore X201 hx (hb hby at_166) 168 rfl rfl #[.val (.int p1), .val (.int p2), .val (.int p3), .val (.int p4), .val (.int p5), .val (.int (4 : Int32)), .val (.int c0), .val (.int c1), .val (.int c2), .val (.int c3), .val (.ref os), .unset] rfl ?_
            have tl : ∀ (ee : Int32) {Ts204 : State} {lc204 : List Loc} {hs204 : Heap} {vs204 : Vm} {ks204 : Nat} (Xs204 : Stand p l e room_1 (s.setVm vs204) m #[(.int p1), (.int p2), (.int p3), (.int p4), (.int p5)] below meth c Ts204 lc204 4 20) (es204 : Ts204.heap = hs204) (Ns204 : Fr n0 lc204) (Ks204 : Keep h0 hs204 []) (Zs204 : n0 ≤ hs204.size) (Ss204 : s.Since vs204 ks204) (kk204 : ks204 ≤ hs204.size) (_ : Z.Warmed39 (s.setVm vs204).vm) (_ : (s.setVm vs204).vm.findClass "com/example/varigraph/varigraph/generate/OperationCanNamePinLaw" = some m.cls) (Rs204 : CHr Z own_EL s.vm h0 vs204 hs204) (Exa_s204_0 : Exa Z hs204 os "java/lang/String") (Fld_s204_1 : Fld Z hs204 os "java/lang/String" "value" "[B" (.ref vb_201)) (Fld_s204_2 : Fld Z hs204 os "java/lang/String" "coder" "B" (.int (1 : Int32))) (Arv_s204_3 : Arv Z hs204 vb_201 kb_201 .byte (Int32.ofNat (2 * ([c0, c1, c2, c3]).length)) (own_ub ([c0, c1, c2, c3])) (.int (0 : Int32))) (he0 : ee = 0 ∨ ee = 1) (he1 : ee = 1 ↔ (∀ x ∈ [c0, c1, c2, c3], own_ok x)), Go p e below (KS s below Z own_EL (Q0 Z p1 p2 p3 p4 p5 s_COMPACT_STRINGS s_SIOOBE_FORMATTER h0 n0) 24 1152) (Ts204.setTop (mkF m 234 #[.val (.int p1), .val (.int p2), .val (.int p3), .val (.int p4), .val (.int p5), .val (.int (4 : Int32)), .val (.int c0), .val (.int c1), .val (.int c2), .val (.int c3), .val (.ref os), .unset] [(.int ee)])) := by
              intro ee Ts204 lc204 hs204 vs204 ks204 Xs204 es204 Ns204 Ks204 Zs204 Ss204 kk204 hZ hown Rs204 Exa_s204_0 Fld_s204_1 Fld_s204_2 Arv_s204_3 he0 he1
              refine g_istore Xs204 hx (hb hby at_234) 236 rfl #[.val (.int p1), .val (.int p2), .val (.int p3), .val (.int p4), .val (.int p5), .val (.int (4 : Int32)), .val (.int c0), .val (.int c1), .val (.int c2), .val (.int c3), .val (.ref os), .val (.int ee)] rfl ?_
              refine g_aload Xs204 hx (hb hby at_236) 238 rfl (v := (.ref os)) rfl rfl ?_
              obtain ⟨_, _, ⟨T205, L205, k205, n205⟩, -, X205, ⟨Lc205, hQ205, l205, y205, z205⟩, st205⟩ := Jvm.LawKit.callS Xs204 hx (y := (⟨"com/example/varigraph/varigraph/generate/Operation", "canName", "(Ljava/lang/String;)Z"⟩ : MethodName)) hown (mvT hZ (hw _ (List.mem_of_getElem? (i := 27) rfl))) (mvT hZ (hw _ (List.mem_of_getElem? (i := 28) rfl))) (mvT hZ (hw _ (List.mem_of_getElem? (i := 29) rfl))) (mvT hZ (hw _ (List.mem_of_getElem? (i := 30) rfl))) (by decide) (backOf (W := 0) (rmcanU l Z a0 hw [] os s_COMPACT_STRINGS s_SIOOBE_FORMATTER vb_201 kb_201 ([c0, c1, c2, c3]) hs204 n0 Zs204 (own_Sta_keep S_COMPACT_STRINGS Ks204 all0) (own_Sta_keep S_assertionsDisabled Ks204 all0) (own_Sta_keep S_HI_BYTE_SHIFT Ks204 all0) (own_Sta_keep S_LO_BYTE_SHIFT Ks204 all0) (own_Sta_keep S_SIOOBE_FORMATTER Ks204 all0) Exa_s204_0 Fld_s204_1 Fld_s204_2 Arv_s204_3 hz_s_COMPACT_STRINGS hR_s_SIOOBE_FORMATTER (by simp) (by simp) hCa) hZ (hw _ (List.mem_of_getElem? (i := 30) rfl)) (hw _ (List.mem_of_getElem? (i := 29) rfl)) (by decide) (by decide)) (g := (mkF m 238 #[.val (.int p1), .val (.int p2), .val (.int p3), .val (.int p4), .val (.int p5), .val (.int (4 : Int32)), .val (.int c0), .val (.int c1), .val (.int c2), .val (.int c3), .val (.ref os), .val (.int ee)] [(.ref os)])) rfl (by rw [hml]; rfl) (argsL := [(.ref os)]) (rest := []) (lenOf own_pd23 rfl) rfl (by show 2 * 0 + _ ≤ _; exact Nat.le_of_eq rfl) (hb hby at_238) (fun _ _ => ⟨rfl, es204, (by decide : 4 + 0 ≤ _), (by decide : 20 + 0 ≤ _)⟩)
              dsimp only [Pt.U, Pt.locs, Pt.cells, Pt.slots] at X205 l205 y205 z205 st205 hQ205
              subst l205 y205 z205
              obtain ⟨r_205, rfl, Nq205, e205, p205_0, p205_1⟩ := hQ205
              refine Go.st st205 ?_
              have N205 := Fr.app Ns204 Nq205
              show Go p e below _ (T205.setTop (mkF m 241 #[.val (.int p1), .val (.int p2), .val (.int p3), .val (.int p4), .val (.int p5), .val (.int (4 : Int32)), .val (.int c0), .val (.int c1), .val (.int c2), .val (.int c3), .val (.ref os), .val (.int ee)] [(.int r_205)]))
              refine g_iload X205 hx (hb hby at_241) 243 rfl (v := ee) rfl ?_
              refine g_icmp_ne X205 hx (hb hby at_243) 250 246 (by decide) (by decide) rfl (fun hc243 => False.elim (hc243 (own_bb p205_0 he0 p205_1 he1))) (fun hc243 => ?_)
              refine g_iconst X205 hx (hb hby at_246) 247 rfl (1 : Int32) rfl ?_
              refine g_goto X205 hx (hb hby at_247) 251 (by decide) (by decide) ?_
              refine Go.retNS X205 hx hlk (t := .boolean) Bd.returns (by simp) (hb hby at_251) (by decide) (by decide) Ss204 (by rw [e205]; exact kk204) (own_EW hw) hZ (by rw [hh, e205]; exact Rs204) ?_
              exact ⟨rfl, N205⟩
            refine g_iload X201 hx (hb hby at_168) 170 rfl (v := (4 : Int32)) rfl ?_
            refine g_if_le X201 hx (hb hby at_170) 233 173 (by decide) (by decide) rfl (fun hc170 => False.elim (absurd (by decide) hc170)) (fun hc170 => ?_)
            refine g_iload X201 hx (hb hby at_173) 175 rfl (v := (4 : Int32)) rfl ?_
            refine g_iconst X201 hx (hb hby at_175) 176 rfl (1 : Int32) rfl ?_
            refine g_icmp_lt X201 hx (hb hby at_176) 187 179 (by decide) (by decide) rfl (fun hc176 => False.elim (absurd hc176 (by decide))) (fun hc176 => ?_)
            refine g_iload X201 hx (hb hby at_179) 181 rfl (v := c0) rfl ?_
            obtain ⟨_, _, ⟨T206, L206, k206, n206⟩, -, X206, ⟨Lc206, hQ206, l206, y206, z206⟩, st206⟩ := Jvm.LawKit.callS X201 hx (y := (⟨"com/example/varigraph/varigraph/generate/OperationCanNamePinLaw", "ok", "(C)Z"⟩ : MethodName)) hown (mvT hZ (hw _ (List.mem_of_getElem? (i := 47) rfl))) (mvT hZ (hw _ (List.mem_of_getElem? (i := 48) rfl))) (mvT hZ (hw _ (List.mem_of_getElem? (i := 3) rfl))) (mvT hZ (hw _ (List.mem_of_getElem? (i := 49) rfl))) (by decide) (backOf (W := 0) (rmok l Z a0 hw [] c0 T201.heap n0 Zs201 ) hZ (hw _ (List.mem_of_getElem? (i := 49) rfl)) (hw _ (List.mem_of_getElem? (i := 3) rfl)) (by decide) (by decide)) (g := (mkF m 181 #[.val (.int p1), .val (.int p2), .val (.int p3), .val (.int p4), .val (.int p5), .val (.int (4 : Int32)), .val (.int c0), .val (.int c1), .val (.int c2), .val (.int c3), .val (.ref os), .unset] [(.int c0)])) rfl (by rw [hml]; rfl) (argsL := [(.int c0)]) (rest := []) (lenOf own_pd1 rfl) rfl (by show 2 * 0 + _ ≤ _; exact Nat.le_of_eq rfl) (hb hby at_181) (fun _ _ => ⟨rfl, rfl, (by decide : 4 + 0 ≤ _), (by decide : 20 + 0 ≤ _)⟩)
            dsimp only [Pt.U, Pt.locs, Pt.cells, Pt.slots] at X206 l206 y206 z206 st206 hQ206
            subst l206 y206 z206
            obtain ⟨r_206, rfl, Nq206, e206, p206_0, p206_1⟩ := hQ206
            refine Go.st st206 ?_
            have N206 := Fr.app N201 Nq206
            show Go p e below _ (T206.setTop (mkF m 184 #[.val (.int p1), .val (.int p2), .val (.int p3), .val (.int p4), .val (.int p5), .val (.int (4 : Int32)), .val (.int c0), .val (.int c1), .val (.int c2), .val (.int c3), .val (.ref os), .unset] [(.int r_206)]))
            refine g_if_eq X206 hx (hb hby at_184) 233 187 (by decide) (by decide) rfl (fun hc184 => ?_) (fun hc184 => ?_)
            · refine g_iconst X206 hx (hb hby at_233) 234 rfl (0 : Int32) rfl ?_
              exact tl (0 : Int32) (own_mono X206 (by decide) (by decide)) e206 N206 K201 Zs201 hS0 hk202 hZ hown R202 f201_1 f201_2 f201_3 f201_4 (Or.inl rfl) (⟨fun q => absurd q (by decide), fun q => absurd (hc184.symm.trans (p206_1.mpr (q c0 (by simp)))) (by decide)⟩)
            · refine g_iload X206 hx (hb hby at_187) 189 rfl (v := (4 : Int32)) rfl ?_
              refine g_iconst X206 hx (hb hby at_189) 190 rfl (2 : Int32) rfl ?_
              refine g_icmp_lt X206 hx (hb hby at_190) 201 193 (by decide) (by decide) rfl (fun hc190 => False.elim (absurd hc190 (by decide))) (fun hc190 => ?_)
              refine g_iload X206 hx (hb hby at_193) 195 rfl (v := c1) rfl ?_
              obtain ⟨_, _, ⟨T207, L207, k207, n207⟩, -, X207, ⟨Lc207, hQ207, l207, y207, z207⟩, st207⟩ := Jvm.LawKit.callS X206 hx (y := (⟨"com/example/varigraph/varigraph/generate/OperationCanNamePinLaw", "ok", "(C)Z"⟩ : MethodName)) hown (mvT hZ (hw _ (List.mem_of_getElem? (i := 47) rfl))) (mvT hZ (hw _ (List.mem_of_getElem? (i := 48) rfl))) (mvT hZ (hw _ (List.mem_of_getElem? (i := 3) rfl))) (mvT hZ (hw _ (List.mem_of_getElem? (i := 49) rfl))) (by decide) (backOf (W := 0) (rmok l Z a0 hw [] c1 T201.heap n0 Zs201 ) hZ (hw _ (List.mem_of_getElem? (i := 49) rfl)) (hw _ (List.mem_of_getElem? (i := 3) rfl)) (by decide) (by decide)) (g := (mkF m 195 #[.val (.int p1), .val (.int p2), .val (.int p3), .val (.int p4), .val (.int p5), .val (.int (4 : Int32)), .val (.int c0), .val (.int c1), .val (.int c2), .val (.int c3), .val (.ref os), .unset] [(.int c1)])) rfl (by rw [hml]; rfl) (argsL := [(.int c1)]) (rest := []) (lenOf own_pd1 rfl) rfl (by show 2 * 0 + _ ≤ _; exact Nat.le_of_eq rfl) (hb hby at_195) (fun _ _ => ⟨rfl, e206, (by decide : 4 + 0 ≤ _), (by decide : 20 + 0 ≤ _)⟩)
              dsimp only [Pt.U, Pt.locs, Pt.cells, Pt.slots] at X207 l207 y207 z207 st207 hQ207
              subst l207 y207 z207
              obtain ⟨r_207, rfl, Nq207, e207, p207_0, p207_1⟩ := hQ207
              refine Go.st st207 ?_
              have N207 := Fr.app N206 Nq207
              show Go p e below _ (T207.setTop (mkF m 198 #[.val (.int p1), .val (.int p2), .val (.int p3), .val (.int p4), .val (.int p5), .val (.int (4 : Int32)), .val (.int c0), .val (.int c1), .val (.int c2), .val (.int c3), .val (.ref os), .unset] [(.int r_207)]))
              refine g_if_eq X207 hx (hb hby at_198) 233 201 (by decide) (by decide) rfl (fun hc198 => ?_) (fun hc198 => ?_)
              · refine g_iconst X207 hx (hb hby at_233) 234 rfl (0 : Int32) rfl ?_
                exact tl (0 : Int32) (own_mono X207 (by decide) (by decide)) e207 N207 K201 Zs201 hS0 hk202 hZ hown R202 f201_1 f201_2 f201_3 f201_4 (Or.inl rfl) (⟨fun q => absurd q (by decide), fun q => absurd (hc198.symm.trans (p207_1.mpr (q c1 (by simp)))) (by decide)⟩)
              · refine g_iload X207 hx (hb hby at_201) 203 rfl (v := (4 : Int32)) rfl ?_
                refine g_iconst X207 hx (hb hby at_203) 204 rfl (3 : Int32) rfl ?_
                refine g_icmp_lt X207 hx (hb hby at_204) 215 207 (by decide) (by decide) rfl (fun hc204 => False.elim (absurd hc204 (by decide))) (fun hc204 => ?_)
                refine g_iload X207 hx (hb hby at_207) 209 rfl (v := c2) rfl ?_
                obtain ⟨_, _, ⟨T208, L208, k208, n208⟩, -, X208, ⟨Lc208, hQ208, l208, y208, z208⟩, st208⟩ := Jvm.LawKit.callS X207 hx (y := (⟨"com/example/varigraph/varigraph/generate/OperationCanNamePinLaw", "ok", "(C)Z"⟩ : MethodName)) hown (mvT hZ (hw _ (List.mem_of_getElem? (i := 47) rfl))) (mvT hZ (hw _ (List.mem_of_getElem? (i := 48) rfl))) (mvT hZ (hw _ (List.mem_of_getElem? (i := 3) rfl))) (mvT hZ (hw _ (List.mem_of_getElem? (i := 49) rfl))) (by decide) (backOf (W := 0) (rmok l Z a0 hw [] c2 T201.heap n0 Zs201 ) hZ (hw _ (List.mem_of_getElem? (i := 49) rfl)) (hw _ (List.mem_of_getElem? (i := 3) rfl)) (by decide) (by decide)) (g := (mkF m 209 #[.val (.int p1), .val (.int p2), .val (.int p3), .val (.int p4), .val (.int p5), .val (.int (4 : Int32)), .val (.int c0), .val (.int c1), .val (.int c2), .val (.int c3), .val (.ref os), .unset] [(.int c2)])) rfl (by rw [hml]; rfl) (argsL := [(.int c2)]) (rest := []) (lenOf own_pd1 rfl) rfl (by show 2 * 0 + _ ≤ _; exact Nat.le_of_eq rfl) (hb hby at_209) (fun _ _ => ⟨rfl, e207, (by decide : 4 + 0 ≤ _), (by decide : 20 + 0 ≤ _)⟩)
                dsimp only [Pt.U, Pt.locs, Pt.cells, Pt.slots] at X208 l208 y208 z208 st208 hQ208
                subst l208 y208 z208
                obtain ⟨r_208, rfl, Nq208, e208, p208_0, p208_1⟩ := hQ208
                refine Go.st st208 ?_
                have N208 := Fr.app N207 Nq208
                show Go p e below _ (T208.setTop (mkF m 212 #[.val (.int p1), .val (.int p2), .val (.int p3), .val (.int p4), .val (.int p5), .val (.int (4 : Int32)), .val (.int c0), .val (.int c1), .val (.int c2), .val (.int c3), .val (.ref os), .unset] [(.int r_208)]))
                refine g_if_eq X208 hx (hb hby at_212) 233 215 (by decide) (by decide) rfl (fun hc212 => ?_) (fun hc212 => ?_)
                · refine g_iconst X208 hx (hb hby at_233) 234 rfl (0 : Int32) rfl ?_
                  exact tl (0 : Int32) (own_mono X208 (by decide) (by decide)) e208 N208 K201 Zs201 hS0 hk202 hZ hown R202 f201_1 f201_2 f201_3 f201_4 (Or.inl rfl) (⟨fun q => absurd q (by decide), fun q => absurd (hc212.symm.trans (p208_1.mpr (q c2 (by simp)))) (by decide)⟩)
                · refine g_iload X208 hx (hb hby at_215) 217 rfl (v := (4 : Int32)) rfl ?_
                  refine g_iconst X208 hx (hb hby at_217) 218 rfl (4 : Int32) rfl ?_
                  refine g_icmp_lt X208 hx (hb hby at_218) 229 221 (by decide) (by decide) rfl (fun hc218 => False.elim (absurd hc218 (by decide))) (fun hc218 => ?_)
                  refine g_iload X208 hx (hb hby at_221) 223 rfl (v := c3) rfl ?_
                  obtain ⟨_, _, ⟨T209, L209, k209, n209⟩, -, X209, ⟨Lc209, hQ209, l209, y209, z209⟩, st209⟩ := Jvm.LawKit.callS X208 hx (y := (⟨"com/example/varigraph/varigraph/generate/OperationCanNamePinLaw", "ok", "(C)Z"⟩ : MethodName)) hown (mvT hZ (hw _ (List.mem_of_getElem? (i := 47) rfl))) (mvT hZ (hw _ (List.mem_of_getElem? (i := 48) rfl))) (mvT hZ (hw _ (List.mem_of_getElem? (i := 3) rfl))) (mvT hZ (hw _ (List.mem_of_getElem? (i := 49) rfl))) (by decide) (backOf (W := 0) (rmok l Z a0 hw [] c3 T201.heap n0 Zs201 ) hZ (hw _ (List.mem_of_getElem? (i := 49) rfl)) (hw _ (List.mem_of_getElem? (i := 3) rfl)) (by decide) (by decide)) (g := (mkF m 223 #[.val (.int p1), .val (.int p2), .val (.int p3), .val (.int p4), .val (.int p5), .val (.int (4 : Int32)), .val (.int c0), .val (.int c1), .val (.int c2), .val (.int c3), .val (.ref os), .unset] [(.int c3)])) rfl (by rw [hml]; rfl) (argsL := [(.int c3)]) (rest := []) (lenOf own_pd1 rfl) rfl (by show 2 * 0 + _ ≤ _; exact Nat.le_of_eq rfl) (hb hby at_223) (fun _ _ => ⟨rfl, e208, (by decide : 4 + 0 ≤ _), (by decide : 20 + 0 ≤ _)⟩)
                  dsimp only [Pt.U, Pt.locs, Pt.cells, Pt.slots] at X209 l209 y209 z209 st209 hQ209
                  subst l209 y209 z209
                  obtain ⟨r_209, rfl, Nq209, e209, p209_0, p209_1⟩ := hQ209
                  refine Go.st st209 ?_
                  have N209 := Fr.app N208 Nq209
                  show Go p e below _ (T209.setTop (mkF m 226 #[.val (.int p1), .val (.int p2), .val (.int p3), .val (.int p4), .val (.int p5), .val (.int (4 : Int32)), .val (.int c0), .val (.int c1), .val (.int c2), .val (.int c3), .val (.ref os), .unset] [(.int r_209)]))
                  refine g_if_eq X209 hx (hb hby at_226) 233 229 (by decide) (by decide) rfl (fun hc226 => ?_) (fun hc226 => ?_)
                  · refine g_iconst X209 hx (hb hby at_233) 234 rfl (0 : Int32) rfl ?_
                    exact tl (0 : Int32) (own_mono X209 (by decide) (by decide)) e209 N209 K201 Zs201 hS0 hk202 hZ hown R202 f201_1 f201_2 f201_3 f201_4 (Or.inl rfl) (⟨fun q => absurd q (by decide), fun q => absurd (hc226.symm.trans (p209_1.mpr (q c3 (by simp)))) (by decide)⟩)
                  · refine g_iconst X209 hx (hb hby at_229) 230 rfl (1 : Int32) rfl ?_
                    refine g_goto X209 hx (hb hby at_230) 234 (by decide) (by decide) ?_
                    exact tl (1 : Int32) (own_mono X209 (by decide) (by decide)) e209 N209 K201 Zs201 hS0 hk202 hZ hown R202 f201_1 f201_2 f201_3 f201_4 (Or.inr rfl) (⟨fun _ => List.forall_mem_cons.mpr ⟨p206_1.mp (p206_0.resolve_left hc184), List.forall_mem_cons.mpr ⟨p207_1.mp (p207_0.resolve_left hc198), List.forall_mem_cons.mpr ⟨p208_1.mp (p208_0.resolve_left hc212), List.forall_mem_cons.mpr ⟨p209_1.mp (p209_0.resolve_left hc226), fun _ q => nomatch q⟩⟩⟩⟩, fun _ => rfl⟩)
        · subst hc103
          have hCa : ∀ x ∈ [c0, c1, c2], own_C x := List.forall_mem_cons.mpr ⟨p170_0, List.forall_mem_cons.mpr ⟨p171_0, List.forall_mem_cons.mpr ⟨p172_0, fun _ q => nomatch q⟩⟩⟩
          obtain ⟨T210, h210, X210, e210, E210, A210, D210, -, st210⟩ := newO X173 hx hZ hown (hw _ (List.mem_of_getElem? (i := 5) rfl)) (hw _ (List.mem_of_getElem? (i := 6) rfl)) (hw _ (List.mem_of_getElem? (i := 7) rfl)) e173 (g := (mkF m 106 #[.val (.int p1), .val (.int p2), .val (.int p3), .val (.int p4), .val (.int p5), .val (.int (3 : Int32)), .val (.int c0), .val (.int c1), .val (.int c2), .val (.int c3), .unset, .unset] [])) rfl (hb hby at_106) (by decide) (by decide)
          refine Go.st st210 ?_
          obtain ⟨os, q210⟩ : ∃ z, z = h0.size := ⟨_, rfl⟩
          rw [← q210] at A210 D210 ⊢
          have g_os : n0 ≤ os := Nat.le_trans Z0 (Nat.le_of_eq q210.symm)
          have Sf_os : Safe Z own_EL s.vm h0 os := Safe.new (Nat.le_of_eq q210.symm)
          have mh_os : h0.size ≤ os := Nat.le_trans K0.1 (Nat.le_of_eq q210.symm)
          have Sf_os_211 : Safe Z own_EL s.vm h210 os := Safe.ext E210 R0.1 Sf_os
          have R211 : CHr Z own_EL s.vm h0 s.vm h210 := CHr.trans R0 (CHr.ext E210 R0.1)
          have hk211 : _ ≤ h210.size := Nat.le_trans (Nat.zero_le _) (E210.1)
          have F_value_210 : Fld Z h210 os "java/lang/String" "value" "[B" .null := D210 (Or.inr (hw _ (List.mem_of_getElem? (i := 21) rfl))) (ty := (.array .byte)) (by decide)
          have F_coder_210 : Fld Z h210 os "java/lang/String" "coder" "B" (.int (0 : Int32)) := D210 (Or.inr (hw _ (List.mem_of_getElem? (i := 22) rfl))) (ty := .byte) (by decide)
          have K210 : Keep h0 h210 [] := Keep.ext K0 E210
          have Zs210 : n0 ≤ h210.size := Nat.le_trans Z0 E210.1
          show Go p e below _ (T210.setTop (mkF m 109 #[.val (.int p1), .val (.int p2), .val (.int p3), .val (.int p4), .val (.int p5), .val (.int (3 : Int32)), .val (.int c0), .val (.int c1), .val (.int c2), .val (.int c3), .unset, .unset] [(.ref os)]))
          refine g_dup X210 hx (hb hby at_109) 110 rfl rfl ?_
          refine g_iconst X210 hx (hb hby at_110) 111 rfl (3 : Int32) rfl ?_
          obtain ⟨T213, h213, cA213, X213, e213, E213, A213, st213⟩ := newP X210 hx hZ (aty := .char) (hw _ (List.mem_of_getElem? (i := 8) rfl)) e210 (g := (mkF m 111 #[.val (.int p1), .val (.int p2), .val (.int p3), .val (.int p4), .val (.int p5), .val (.int (3 : Int32)), .val (.int c0), .val (.int c1), .val (.int c2), .val (.int c3), .unset, .unset] [(.int (3 : Int32)), (.ref os), (.ref os)])) rfl (hb hby at_111) rfl (by decide) (cap := 3) (by decide) (by decide) (by decide) (by decide)
          refine Go.st st213 ?_
          obtain ⟨oc, q213⟩ : ∃ z, z = h210.size := ⟨_, rfl⟩
          rw [← q213] at A213 ⊢
          have ne_os_oc : os ≠ oc := Nat.ne_of_lt (Nat.lt_of_lt_of_eq A210.lt q213.symm)
          have g_oc : n0 ≤ oc := Nat.le_trans Zs210 (Nat.le_of_eq q213.symm)
          have Sf_oc : Safe Z own_EL s.vm h210 oc := Safe.new (Nat.le_of_eq q213.symm)
          have mh_oc : h0.size ≤ oc := Nat.le_trans K210.1 (Nat.le_of_eq q213.symm)
          have Sf_os_214 : Safe Z own_EL s.vm h213 os := Safe.ext E213 R211.1 Sf_os_211
          have Sf_oc_214 : Safe Z own_EL s.vm h213 oc := Safe.ext E213 R211.1 Sf_oc
          have R214 : CHr Z own_EL s.vm h0 s.vm h213 := CHr.trans R211 (CHr.ext E213 R211.1)
          have hk214 : _ ≤ h213.size := Nat.le_trans hk211 (E213.1)
          have E_os_215 : Exa Z h213 os "java/lang/String" := Exa.ext E213 A210
          have F_value_os_215 : Fld Z h213 os "java/lang/String" "value" "[B" .null := Fld.ext E213 F_value_210
          have F_coder_os_215 : Fld Z h213 os "java/lang/String" "coder" "B" (.int (0 : Int32)) := Fld.ext E213 F_coder_210
          have K213 : Keep h0 h213 [] := Keep.ext K210 E213
          have Zs213 : n0 ≤ h213.size := Nat.le_trans Zs210 E213.1
          have Av_oc : Arv Z h213 oc cA213 .char (3 : Int32) ([(.int (0 : Int32)), (.int (0 : Int32)), (.int (0 : Int32))]) (.int (0 : Int32)) := Arv.pad (Arv.new A213 (by decide)) (pad_rep [] (.int (0 : Int32)) 3)
          show Go p e below _ (T213.setTop (mkF m 113 #[.val (.int p1), .val (.int p2), .val (.int p3), .val (.int p4), .val (.int p5), .val (.int (3 : Int32)), .val (.int c0), .val (.int c1), .val (.int c2), .val (.int c3), .unset, .unset] [(.ref oc), (.ref os), (.ref os)]))
          refine g_dup X213 hx (hb hby at_113) 114 rfl rfl ?_
          refine g_iconst X213 hx (hb hby at_114) 115 rfl (0 : Int32) rfl ?_
          refine g_iload X213 hx (hb hby at_115) 117 rfl (v := c0) rfl ?_
          obtain ⟨T216, h216, X216, e216, W216, B216, st216⟩ := g_castore X213 hx (hb hby at_117) hZ e213 Av_oc (show ¬ (0 : Int32) < 0 ∧ (0 : Int32) < (3 : Int32) from by decide) (i := 0) (by decide) (by simp)  (L := #[.val (.int p1), .val (.int p2), .val (.int p3), .val (.int p4), .val (.int p5), .val (.int (3 : Int32)), .val (.int c0), .val (.int c1), .val (.int c2), .val (.int c3), .unset, .unset]) (S := [(.ref oc), (.ref os), (.ref os)])
          refine Go.st st216 ?_
          have Sf_os_217 : Safe Z own_EL s.vm h216 os := Safe.wr W216 Sf_oc_214 R214.1 Sf_os_214
          have Sf_oc_217 : Safe Z own_EL s.vm h216 oc := Safe.wr W216 Sf_oc_214 R214.1 Sf_oc_214
          have R217 : CHr Z own_EL s.vm h0 s.vm h216 := CHr.trans R214 (CHr.wr W216 Sf_oc_214 R214.1)
          have hk217 : _ ≤ h216.size := Nat.le_trans hk214 (Nat.le_of_eq W216.size.symm)
          have E_os_218 : Exa Z h216 os "java/lang/String" := Exa.wr W216 E_os_215
          have F_value_os_218 : Fld Z h216 os "java/lang/String" "value" "[B" .null := Fld.other W216 F_value_os_215 (Or.inl ne_os_oc)
          have F_coder_os_218 : Fld Z h216 os "java/lang/String" "coder" "B" (.int (0 : Int32)) := Fld.other W216 F_coder_os_215 (Or.inl ne_os_oc)
          have Av_oc_216 : Arv Z h216 oc cA213 .char (3 : Int32) ([(.int c0), (.int (0 : Int32)), (.int (0 : Int32))]) (.int (0 : Int32)) := (by have q := B216; rw [own_nC p170_0] at q; exact q)
          have K216 : Keep h0 h216 [] := Keep.wr K213 W216 (Or.inr mh_oc)
          have N216 := Fr.snoc X216 N173 g_oc
          have Zs216 : n0 ≤ h216.size := by rw [W216.size]; exact Zs213
          show Go p e below _ (T216.setTop (mkF m 118 #[.val (.int p1), .val (.int p2), .val (.int p3), .val (.int p4), .val (.int p5), .val (.int (3 : Int32)), .val (.int c0), .val (.int c1), .val (.int c2), .val (.int c3), .unset, .unset] [(.ref oc), (.ref os), (.ref os)]))
          refine g_dup X216 hx (hb hby at_118) 119 rfl rfl ?_
          refine g_iconst X216 hx (hb hby at_119) 120 rfl (1 : Int32) rfl ?_
          refine g_iload X216 hx (hb hby at_120) 122 rfl (v := c1) rfl ?_
          obtain ⟨T219, h219, X219, e219, W219, B219, st219⟩ := g_castore X216 hx (hb hby at_122) hZ e216 Av_oc_216 (show ¬ (1 : Int32) < 0 ∧ (1 : Int32) < (3 : Int32) from by decide) (i := 1) (by decide) (by simp)  (L := #[.val (.int p1), .val (.int p2), .val (.int p3), .val (.int p4), .val (.int p5), .val (.int (3 : Int32)), .val (.int c0), .val (.int c1), .val (.int c2), .val (.int c3), .unset, .unset]) (S := [(.ref oc), (.ref os), (.ref os)])
          refine Go.st st219 ?_
          have Sf_os_220 : Safe Z own_EL s.vm h219 os := Safe.wr W219 Sf_oc_217 R217.1 Sf_os_217
          have Sf_oc_220 : Safe Z own_EL s.vm h219 oc := Safe.wr W219 Sf_oc_217 R217.1 Sf_oc_217
          have R220 : CHr Z own_EL s.vm h0 s.vm h219 := CHr.trans R217 (CHr.wr W219 Sf_oc_217 R217.1)
          have hk220 : _ ≤ h219.size := Nat.le_trans hk217 (Nat.le_of_eq W219.size.symm)
          have E_os_221 : Exa Z h219 os "java/lang/String" := Exa.wr W219 E_os_218
          have F_value_os_221 : Fld Z h219 os "java/lang/String" "value" "[B" .null := Fld.other W219 F_value_os_218 (Or.inl ne_os_oc)
          have F_coder_os_221 : Fld Z h219 os "java/lang/String" "coder" "B" (.int (0 : Int32)) := Fld.other W219 F_coder_os_218 (Or.inl ne_os_oc)
          have Av_oc_219 : Arv Z h219 oc cA213 .char (3 : Int32) ([(.int c0), (.int c1), (.int (0 : Int32))]) (.int (0 : Int32)) := (by have q := B219; rw [own_nC p171_0] at q; exact q)
          have K219 : Keep h0 h219 [] := Keep.wr K216 W219 (Or.inr mh_oc)
          have N219 := Fr.snoc X219 N216 g_oc
          have Zs219 : n0 ≤ h219.size := by rw [W219.size]; exact Zs216
          show Go p e below _ (T219.setTop (mkF m 123 #[.val (.int p1), .val (.int p2), .val (.int p3), .val (.int p4), .val (.int p5), .val (.int (3 : Int32)), .val (.int c0), .val (.int c1), .val (.int c2), .val (.int c3), .unset, .unset] [(.ref oc), (.ref os), (.ref os)]))
          refine g_dup X219 hx (hb hby at_123) 124 rfl rfl ?_
          refine g_iconst X219 hx (hb hby at_124) 125 rfl (2 : Int32) rfl ?_
          refine g_iload X219 hx (hb hby at_125) 127 rfl (v := c2) rfl ?_
          obtain ⟨T222, h222, X222, e222, W222, B222, st222⟩ := g_castore X219 hx (hb hby at_127) hZ e219 Av_oc_219 (show ¬ (2 : Int32) < 0 ∧ (2 : Int32) < (3 : Int32) from by decide) (i := 2) (by decide) (by simp)  (L := #[.val (.int p1), .val (.int p2), .val (.int p3), .val (.int p4), .val (.int p5), .val (.int (3 : Int32)), .val (.int c0), .val (.int c1), .val (.int c2), .val (.int c3), .unset, .unset]) (S := [(.ref oc), (.ref os), (.ref os)])
          refine Go.st st222 ?_
          have Sf_os_223 : Safe Z own_EL s.vm h222 os := Safe.wr W222 Sf_oc_220 R220.1 Sf_os_220
          have Sf_oc_223 : Safe Z own_EL s.vm h222 oc := Safe.wr W222 Sf_oc_220 R220.1 Sf_oc_220
          have R223 : CHr Z own_EL s.vm h0 s.vm h222 := CHr.trans R220 (CHr.wr W222 Sf_oc_220 R220.1)
          have hk223 : _ ≤ h222.size := Nat.le_trans hk220 (Nat.le_of_eq W222.size.symm)
          have E_os_224 : Exa Z h222 os "java/lang/String" := Exa.wr W222 E_os_221
          have F_value_os_224 : Fld Z h222 os "java/lang/String" "value" "[B" .null := Fld.other W222 F_value_os_221 (Or.inl ne_os_oc)
          have F_coder_os_224 : Fld Z h222 os "java/lang/String" "coder" "B" (.int (0 : Int32)) := Fld.other W222 F_coder_os_221 (Or.inl ne_os_oc)
          have Av_oc_222 : Arv Z h222 oc cA213 .char (3 : Int32) ([(.int c0), (.int c1), (.int c2)]) (.int (0 : Int32)) := (by have q := B222; rw [own_nC p172_0] at q; exact q)
          have K222 : Keep h0 h222 [] := Keep.wr K219 W222 (Or.inr mh_oc)
          have N222 := Fr.snoc X222 N219 g_oc
          have Zs222 : n0 ≤ h222.size := by rw [W222.size]; exact Zs219
          show Go p e below _ (T222.setTop (mkF m 128 #[.val (.int p1), .val (.int p2), .val (.int p3), .val (.int p4), .val (.int p5), .val (.int (3 : Int32)), .val (.int c0), .val (.int c1), .val (.int c2), .val (.int c3), .unset, .unset] [(.ref oc), (.ref os), (.ref os)]))
          have Avc : Arv Z h222 oc cA213 .char (Int32.ofNat [c0, c1, c2].length) ([c0, c1, c2].map Value.int) (.int (0 : Int32)) := Av_oc_222
          by_cases qf : ∀ x ∈ [c0, c1, c2], ¬ (255 : Int32) < x
          · obtain ⟨_, _, ⟨T225, L225, k225, n225⟩, -, X225, ⟨Lc225, hQ225, l225, y225, z225⟩, st225⟩ := X222.specialBack hx (y := (⟨"java/lang/String", "<init>", "([C)V"⟩ : MethodName)) rfl hown (mvT hZ (hw _ (List.mem_of_getElem? (i := 9) rfl))) (mvT hZ (hw _ (List.mem_of_getElem? (i := 10) rfl))) (mvT hZ (hw _ (List.mem_of_getElem? (i := 11) rfl))) (by decide) (backOf (W := 1) (rmsCL l Z a0 hw [] os oc s_COMPACT_STRINGS cA213 ([c0, c1, c2]) h222 n0 Zs222 (own_Sta_keep S_COMPACT_STRINGS K222 all0) E_os_224 g_os F_value_os_224 F_coder_os_224 Avc ne_os_oc hz_s_COMPACT_STRINGS (by simp) (by simp) qf) hZ (hw _ (List.mem_of_getElem? (i := 11) rfl)) (hw _ (List.mem_of_getElem? (i := 7) rfl)) (by decide) (by decide)) (g := (mkF m 128 #[.val (.int p1), .val (.int p2), .val (.int p3), .val (.int p4), .val (.int p5), .val (.int (3 : Int32)), .val (.int c0), .val (.int c1), .val (.int c2), .val (.int c3), .unset, .unset] [(.ref oc), (.ref os), (.ref os)])) rfl (by rw [hml]; rfl) (Steps.refl _) (a := os) (argsL := [(.ref oc)]) (rest := [(.ref os)]) (lenOf own_pd22 rfl) rfl (by show 2 * 0 + _ ≤ _; exact Nat.le_of_eq rfl) (hb hby at_128) (fun _ _ => ⟨rfl, e222, (by decide : 2 + 1 ≤ _), (by decide : 7 + 4 ≤ _)⟩)
            dsimp only [Pt.U, Pt.locs, Pt.cells, Pt.slots] at X225 l225 y225 z225 st225 hQ225
            subst l225 y225 z225
            obtain ⟨vb_225, kb_225, rfl, Nq225, Kq225, f225_0, f225_1, f225_2, f225_3, f225_4⟩ := hQ225
            refine Go.tr st225 ?_
            have N225 := Fr.app N222 Nq225
            have Sf_vb_225 : Safe Z own_EL s.vm h222 vb_225 := Safe.new f225_0
            have Sf_os_226 : Safe Z own_EL s.vm T225.heap os := Safe.keep Kq225 (allS Sf_os_223 all0) R223.1 Sf_os_223
            have Sf_oc_226 : Safe Z own_EL s.vm T225.heap oc := Safe.keep Kq225 (allS Sf_os_223 all0) R223.1 Sf_oc_223
            have Sf_vb_225_226 : Safe Z own_EL s.vm T225.heap vb_225 := Safe.keep Kq225 (allS Sf_os_223 all0) R223.1 Sf_vb_225
            have R226 : CHr Z own_EL s.vm h0 s.vm T225.heap := CHr.trans R223 (CHr.keep Kq225 (allS Sf_os_223 all0) R223.1)
            have hk226 : _ ≤ T225.heap.size := Nat.le_trans hk223 (Kq225.1)
            have E_os_227 : Exa Z T225.heap os "java/lang/String" := Exa.keep E_os_224 Kq225
            have A_oc_227 : Arv Z T225.heap oc cA213 .char (Int32.ofNat [c0, c1, c2].length) ([c0, c1, c2].map Value.int) (.int (0 : Int32)) := Arv.keep Avc Kq225 (ninS (Ne.symm ne_os_oc) nin0)
            have ne_os_vb_225 : os ≠ vb_225 := Nat.ne_of_lt (Nat.lt_of_lt_of_le E_os_224.lt f225_0)
            have ne_oc_vb_225 : oc ≠ vb_225 := Nat.ne_of_lt (Nat.lt_of_lt_of_le Avc.lt f225_0)
            have g_vb_225 : n0 ≤ vb_225 := Nat.le_trans Zs222 f225_0
            have mh_vb_225 : h0.size ≤ vb_225 := Nat.le_trans K222.1 f225_0
            have K225 : Keep h0 T225.heap [] := Keep.trans K222 Kq225 (allS (Or.inr mh_os) all0)
            have Zs225 : n0 ≤ T225.heap.size := Nat.le_trans Zs222 Kq225.1
            show Go p e below _ (T225.setTop (mkF m 131 #[.val (.int p1), .val (.int p2), .val (.int p3), .val (.int p4), .val (.int p5), .val (.int (3 : Int32)), .val (.int c0), .val (.int c1), .val (.int c2), .val (.int c3), .unset, .unset] [(.ref os)]))
            refine g_astore X225 hx (hb hby at_131) 133 rfl rfl #[.val (.int p1), .val (.int p2), .val (.int p3), .val (.int p4), .val (.int p5), .val (.int (3 : Int32)), .val (.int c0), .val (.int c1), .val (.int c2), .val (.int c3), .val (.ref os), .unset] rfl ?_
            refine g_goto X225 hx (hb hby at_133) 168 (by decide) (by decide) ?_
            have tl : ∀ (ee : Int32) {Ts228 : State} {lc228 : List Loc} {hs228 : Heap} {vs228 : Vm} {ks228 : Nat} (Xs228 : Stand p l e room_1 (s.setVm vs228) m #[(.int p1), (.int p2), (.int p3), (.int p4), (.int p5)] below meth c Ts228 lc228 3 11) (es228 : Ts228.heap = hs228) (Ns228 : Fr n0 lc228) (Ks228 : Keep h0 hs228 []) (Zs228 : n0 ≤ hs228.size) (Ss228 : s.Since vs228 ks228) (kk228 : ks228 ≤ hs228.size) (_ : Z.Warmed39 (s.setVm vs228).vm) (_ : (s.setVm vs228).vm.findClass "com/example/varigraph/varigraph/generate/OperationCanNamePinLaw" = some m.cls) (Rs228 : CHr Z own_EL s.vm h0 vs228 hs228) (Exa_s228_0 : Exa Z hs228 os "java/lang/String") (Fld_s228_1 : Fld Z hs228 os "java/lang/String" "value" "[B" (.ref vb_225)) (Fld_s228_2 : Fld Z hs228 os "java/lang/String" "coder" "B" (.int (0 : Int32))) (Arv_s228_3 : Arv Z hs228 vb_225 kb_225 .byte (Int32.ofNat ([c0, c1, c2]).length) (own_bs ([c0, c1, c2])) (.int (0 : Int32))) (he0 : ee = 0 ∨ ee = 1) (he1 : ee = 1 ↔ (∀ x ∈ [c0, c1, c2], own_ok x)), Go p e below (KS s below Z own_EL (Q0 Z p1 p2 p3 p4 p5 s_COMPACT_STRINGS s_SIOOBE_FORMATTER h0 n0) 24 1152) (Ts228.setTop (mkF m 234 #[.val (.int p1), .val (.int p2), .val (.int p3), .val (.int p4), .val (.int p5), .val (.int (3 : Int32)), .val (.int c0), .val (.int c1), .val (.int c2), .val (.int c3), .val (.ref os), .unset] [(.int ee)])) := by
              intro ee Ts228 lc228 hs228 vs228 ks228 Xs228 es228 Ns228 Ks228 Zs228 Ss228 kk228 hZ hown Rs228 Exa_s228_0 Fld_s228_1 Fld_s228_2 Arv_s228_3 he0 he1
              refine g_istore Xs228 hx (hb hby at_234) 236 rfl #[.val (.int p1), .val (.int p2), .val (.int p3), .val (.int p4), .val (.int p5), .val (.int (3 : Int32)), .val (.int c0), .val (.int c1), .val (.int c2), .val (.int c3), .val (.ref os), .val (.int ee)] rfl ?_
              refine g_aload Xs228 hx (hb hby at_236) 238 rfl (v := (.ref os)) rfl rfl ?_
              obtain ⟨_, _, ⟨T229, L229, k229, n229⟩, -, X229, ⟨Lc229, hQ229, l229, y229, z229⟩, st229⟩ := Jvm.LawKit.callS Xs228 hx (y := (⟨"com/example/varigraph/varigraph/generate/Operation", "canName", "(Ljava/lang/String;)Z"⟩ : MethodName)) hown (mvT hZ (hw _ (List.mem_of_getElem? (i := 27) rfl))) (mvT hZ (hw _ (List.mem_of_getElem? (i := 28) rfl))) (mvT hZ (hw _ (List.mem_of_getElem? (i := 29) rfl))) (mvT hZ (hw _ (List.mem_of_getElem? (i := 30) rfl))) (by decide) (backOf (W := 0) (rmcanL l Z a0 hw [] os s_COMPACT_STRINGS vb_225 kb_225 ([c0, c1, c2]) hs228 n0 Zs228 (own_Sta_keep S_COMPACT_STRINGS Ks228 all0) Exa_s228_0 Fld_s228_1 Fld_s228_2 Arv_s228_3 hz_s_COMPACT_STRINGS (by simp) (by simp) hCa qf) hZ (hw _ (List.mem_of_getElem? (i := 30) rfl)) (hw _ (List.mem_of_getElem? (i := 29) rfl)) (by decide) (by decide)) (g := (mkF m 238 #[.val (.int p1), .val (.int p2), .val (.int p3), .val (.int p4), .val (.int p5), .val (.int (3 : Int32)), .val (.int c0), .val (.int c1), .val (.int c2), .val (.int c3), .val (.ref os), .val (.int ee)] [(.ref os)])) rfl (by rw [hml]; rfl) (argsL := [(.ref os)]) (rest := []) (lenOf own_pd23 rfl) rfl (by show 2 * 0 + _ ≤ _; exact Nat.le_of_eq rfl) (hb hby at_238) (fun _ _ => ⟨rfl, es228, (by decide : 3 + 0 ≤ _), (by decide : 11 + 0 ≤ _)⟩)
              dsimp only [Pt.U, Pt.locs, Pt.cells, Pt.slots] at X229 l229 y229 z229 st229 hQ229
              subst l229 y229 z229
              obtain ⟨r_229, rfl, Nq229, e229, p229_0, p229_1⟩ := hQ229
              refine Go.st st229 ?_
              have N229 := Fr.app Ns228 Nq229
              show Go p e below _ (T229.setTop (mkF m 241 #[.val (.int p1), .val (.int p2), .val (.int p3), .val (.int p4), .val (.int p5), .val (.int (3 : Int32)), .val (.int c0), .val (.int c1), .val (.int c2), .val (.int c3), .val (.ref os), .val (.int ee)] [(.int r_229)]))
              refine g_iload X229 hx (hb hby at_241) 243 rfl (v := ee) rfl ?_
              refine g_icmp_ne X229 hx (hb hby at_243) 250 246 (by decide) (by decide) rfl (fun hc243 => False.elim (hc243 (own_bb p229_0 he0 p229_1 he1))) (fun hc243 => ?_)
              refine g_iconst X229 hx (hb hby at_246) 247 rfl (1 : Int32) rfl ?_
              refine g_goto X229 hx (hb hby at_247) 251 (by decide) (by decide) ?_
              refine Go.retNS X229 hx hlk (t := .boolean) Bd.returns (by simp) (hb hby at_251) (by decide) (by decide) Ss228 (by rw [e229]; exact kk228) (own_EW hw) hZ (by rw [hh, e229]; exact Rs228) ?_
              exact ⟨rfl, N229⟩
            refine g_iload X225 hx (hb hby at_168) 170 rfl (v := (3 : Int32)) rfl ?_
            refine g_if_le X225 hx (hb hby at_170) 233 173 (by decide) (by decide) rfl (fun hc170 => False.elim (absurd (by decide) hc170)) (fun hc170 => ?_)
            refine g_iload X225 hx (hb hby at_173) 175 rfl (v := (3 : Int32)) rfl ?_
            refine g_iconst X225 hx (hb hby at_175) 176 rfl (1 : Int32) rfl ?_
            refine g_icmp_lt X225 hx (hb hby at_176) 187 179 (by decide) (by decide) rfl (fun hc176 => False.elim (absurd hc176 (by decide))) (fun hc176 => ?_)
            refine g_iload X225 hx (hb hby at_179) 181 rfl (v := c0) rfl ?_
            obtain ⟨_, _, ⟨T230, L230, k230, n230⟩, -, X230, ⟨Lc230, hQ230, l230, y230, z230⟩, st230⟩ := Jvm.LawKit.callS X225 hx (y := (⟨"com/example/varigraph/varigraph/generate/OperationCanNamePinLaw", "ok", "(C)Z"⟩ : MethodName)) hown (mvT hZ (hw _ (List.mem_of_getElem? (i := 47) rfl))) (mvT hZ (hw _ (List.mem_of_getElem? (i := 48) rfl))) (mvT hZ (hw _ (List.mem_of_getElem? (i := 3) rfl))) (mvT hZ (hw _ (List.mem_of_getElem? (i := 49) rfl))) (by decide) (backOf (W := 0) (rmok l Z a0 hw [] c0 T225.heap n0 Zs225 ) hZ (hw _ (List.mem_of_getElem? (i := 49) rfl)) (hw _ (List.mem_of_getElem? (i := 3) rfl)) (by decide) (by decide)) (g := (mkF m 181 #[.val (.int p1), .val (.int p2), .val (.int p3), .val (.int p4), .val (.int p5), .val (.int (3 : Int32)), .val (.int c0), .val (.int c1), .val (.int c2), .val (.int c3), .val (.ref os), .unset] [(.int c0)])) rfl (by rw [hml]; rfl) (argsL := [(.int c0)]) (rest := []) (lenOf own_pd1 rfl) rfl (by show 2 * 0 + _ ≤ _; exact Nat.le_of_eq rfl) (hb hby at_181) (fun _ _ => ⟨rfl, rfl, (by decide : 3 + 0 ≤ _), (by decide : 11 + 0 ≤ _)⟩)
            dsimp only [Pt.U, Pt.locs, Pt.cells, Pt.slots] at X230 l230 y230 z230 st230 hQ230
            subst l230 y230 z230
            obtain ⟨r_230, rfl, Nq230, e230, p230_0, p230_1⟩ := hQ230
            refine Go.st st230 ?_
            have N230 := Fr.app N225 Nq230
            show Go p e below _ (T230.setTop (mkF m 184 #[.val (.int p1), .val (.int p2), .val (.int p3), .val (.int p4), .val (.int p5), .val (.int (3 : Int32)), .val (.int c0), .val (.int c1), .val (.int c2), .val (.int c3), .val (.ref os), .unset] [(.int r_230)]))
            refine g_if_eq X230 hx (hb hby at_184) 233 187 (by decide) (by decide) rfl (fun hc184 => ?_) (fun hc184 => ?_)
            · refine g_iconst X230 hx (hb hby at_233) 234 rfl (0 : Int32) rfl ?_
              exact tl (0 : Int32) (own_mono X230 (by decide) (by decide)) e230 N230 K225 Zs225 hS0 hk226 hZ hown R226 f225_1 f225_2 f225_3 f225_4 (Or.inl rfl) (⟨fun q => absurd q (by decide), fun q => absurd (hc184.symm.trans (p230_1.mpr (q c0 (by simp)))) (by decide)⟩)
            · refine g_iload X230 hx (hb hby at_187) 189 rfl (v := (3 : Int32)) rfl ?_
              refine g_iconst X230 hx (hb hby at_189) 190 rfl (2 : Int32) rfl ?_
              refine g_icmp_lt X230 hx (hb hby at_190) 201 193 (by decide) (by decide) rfl (fun hc190 => False.elim (absurd hc190 (by decide))) (fun hc190 => ?_)
              refine g_iload X230 hx (hb hby at_193) 195 rfl (v := c1) rfl ?_
              obtain ⟨_, _, ⟨T231, L231, k231, n231⟩, -, X231, ⟨Lc231, hQ231, l231, y231, z231⟩, st231⟩ := Jvm.LawKit.callS X230 hx (y := (⟨"com/example/varigraph/varigraph/generate/OperationCanNamePinLaw", "ok", "(C)Z"⟩ : MethodName)) hown (mvT hZ (hw _ (List.mem_of_getElem? (i := 47) rfl))) (mvT hZ (hw _ (List.mem_of_getElem? (i := 48) rfl))) (mvT hZ (hw _ (List.mem_of_getElem? (i := 3) rfl))) (mvT hZ (hw _ (List.mem_of_getElem? (i := 49) rfl))) (by decide) (backOf (W := 0) (rmok l Z a0 hw [] c1 T225.heap n0 Zs225 ) hZ (hw _ (List.mem_of_getElem? (i := 49) rfl)) (hw _ (List.mem_of_getElem? (i := 3) rfl)) (by decide) (by decide)) (g := (mkF m 195 #[.val (.int p1), .val (.int p2), .val (.int p3), .val (.int p4), .val (.int p5), .val (.int (3 : Int32)), .val (.int c0), .val (.int c1), .val (.int c2), .val (.int c3), .val (.ref os), .unset] [(.int c1)])) rfl (by rw [hml]; rfl) (argsL := [(.int c1)]) (rest := []) (lenOf own_pd1 rfl) rfl (by show 2 * 0 + _ ≤ _; exact Nat.le_of_eq rfl) (hb hby at_195) (fun _ _ => ⟨rfl, e230, (by decide : 3 + 0 ≤ _), (by decide : 11 + 0 ≤ _)⟩)
              dsimp only [Pt.U, Pt.locs, Pt.cells, Pt.slots] at X231 l231 y231 z231 st231 hQ231
              subst l231 y231 z231
              obtain ⟨r_231, rfl, Nq231, e231, p231_0, p231_1⟩ := hQ231
              refine Go.st st231 ?_
              have N231 := Fr.app N230 Nq231
              show Go p e below _ (T231.setTop (mkF m 198 #[.val (.int p1), .val (.int p2), .val (.int p3), .val (.int p4), .val (.int p5), .val (.int (3 : Int32)), .val (.int c0), .val (.int c1), .val (.int c2), .val (.int c3), .val (.ref os), .unset] [(.int r_231)]))
              refine g_if_eq X231 hx (hb hby at_198) 233 201 (by decide) (by decide) rfl (fun hc198 => ?_) (fun hc198 => ?_)
              · refine g_iconst X231 hx (hb hby at_233) 234 rfl (0 : Int32) rfl ?_
                exact tl (0 : Int32) (own_mono X231 (by decide) (by decide)) e231 N231 K225 Zs225 hS0 hk226 hZ hown R226 f225_1 f225_2 f225_3 f225_4 (Or.inl rfl) (⟨fun q => absurd q (by decide), fun q => absurd (hc198.symm.trans (p231_1.mpr (q c1 (by simp)))) (by decide)⟩)
              · refine g_iload X231 hx (hb hby at_201) 203 rfl (v := (3 : Int32)) rfl ?_
                refine g_iconst X231 hx (hb hby at_203) 204 rfl (3 : Int32) rfl ?_
                refine g_icmp_lt X231 hx (hb hby at_204) 215 207 (by decide) (by decide) rfl (fun hc204 => False.elim (absurd hc204 (by decide))) (fun hc204 => ?_)
                refine g_iload X231 hx (hb hby at_207) 209 rfl (v := c2) rfl ?_
                obtain ⟨_, _, ⟨T232, L232, k232, n232⟩, -, X232, ⟨Lc232, hQ232, l232, y232, z232⟩, st232⟩ := Jvm.LawKit.callS X231 hx (y := (⟨"com/example/varigraph/varigraph/generate/OperationCanNamePinLaw", "ok", "(C)Z"⟩ : MethodName)) hown (mvT hZ (hw _ (List.mem_of_getElem? (i := 47) rfl))) (mvT hZ (hw _ (List.mem_of_getElem? (i := 48) rfl))) (mvT hZ (hw _ (List.mem_of_getElem? (i := 3) rfl))) (mvT hZ (hw _ (List.mem_of_getElem? (i := 49) rfl))) (by decide) (backOf (W := 0) (rmok l Z a0 hw [] c2 T225.heap n0 Zs225 ) hZ (hw _ (List.mem_of_getElem? (i := 49) rfl)) (hw _ (List.mem_of_getElem? (i := 3) rfl)) (by decide) (by decide)) (g := (mkF m 209 #[.val (.int p1), .val (.int p2), .val (.int p3), .val (.int p4), .val (.int p5), .val (.int (3 : Int32)), .val (.int c0), .val (.int c1), .val (.int c2), .val (.int c3), .val (.ref os), .unset] [(.int c2)])) rfl (by rw [hml]; rfl) (argsL := [(.int c2)]) (rest := []) (lenOf own_pd1 rfl) rfl (by show 2 * 0 + _ ≤ _; exact Nat.le_of_eq rfl) (hb hby at_209) (fun _ _ => ⟨rfl, e231, (by decide : 3 + 0 ≤ _), (by decide : 11 + 0 ≤ _)⟩)
                dsimp only [Pt.U, Pt.locs, Pt.cells, Pt.slots] at X232 l232 y232 z232 st232 hQ232
                subst l232 y232 z232
                obtain ⟨r_232, rfl, Nq232, e232, p232_0, p232_1⟩ := hQ232
                refine Go.st st232 ?_
                have N232 := Fr.app N231 Nq232
                show Go p e below _ (T232.setTop (mkF m 212 #[.val (.int p1), .val (.int p2), .val (.int p3), .val (.int p4), .val (.int p5), .val (.int (3 : Int32)), .val (.int c0), .val (.int c1), .val (.int c2), .val (.int c3), .val (.ref os), .unset] [(.int r_232)]))
                refine g_if_eq X232 hx (hb hby at_212) 233 215 (by decide) (by decide) rfl (fun hc212 => ?_) (fun hc212 => ?_)
                · refine g_iconst X232 hx (hb hby at_233) 234 rfl (0 : Int32) rfl ?_
                  exact tl (0 : Int32) (own_mono X232 (by decide) (by decide)) e232 N232 K225 Zs225 hS0 hk226 hZ hown R226 f225_1 f225_2 f225_3 f225_4 (Or.inl rfl) (⟨fun q => absurd q (by decide), fun q => absurd (hc212.symm.trans (p232_1.mpr (q c2 (by simp)))) (by decide)⟩)
                · refine g_iload X232 hx (hb hby at_215) 217 rfl (v := (3 : Int32)) rfl ?_
                  refine g_iconst X232 hx (hb hby at_217) 218 rfl (4 : Int32) rfl ?_
                  refine g_icmp_lt X232 hx (hb hby at_218) 229 221 (by decide) (by decide) rfl (fun hc218 => ?_) (fun hc218 => False.elim (hc218 (by decide)))
                  refine g_iconst X232 hx (hb hby at_229) 230 rfl (1 : Int32) rfl ?_
                  refine g_goto X232 hx (hb hby at_230) 234 (by decide) (by decide) ?_
                  exact tl (1 : Int32) (own_mono X232 (by decide) (by decide)) e232 N232 K225 Zs225 hS0 hk226 hZ hown R226 f225_1 f225_2 f225_3 f225_4 (Or.inr rfl) (⟨fun _ => List.forall_mem_cons.mpr ⟨p230_1.mp (p230_0.resolve_left hc184), List.forall_mem_cons.mpr ⟨p231_1.mp (p231_0.resolve_left hc198), List.forall_mem_cons.mpr ⟨p232_1.mp (p232_0.resolve_left hc212), fun _ q => nomatch q⟩⟩⟩, fun _ => rfl⟩)
          · obtain ⟨_, _, ⟨T233, L233, k233, n233⟩, -, X233, ⟨Lc233, hQ233, l233, y233, z233⟩, st233⟩ := X222.specialBack hx (y := (⟨"java/lang/String", "<init>", "([C)V"⟩ : MethodName)) rfl hown (mvT hZ (hw _ (List.mem_of_getElem? (i := 9) rfl))) (mvT hZ (hw _ (List.mem_of_getElem? (i := 10) rfl))) (mvT hZ (hw _ (List.mem_of_getElem? (i := 11) rfl))) (by decide) (backOf (W := 1) (rmsCU l Z a0 hw [] os oc s_COMPACT_STRINGS cA213 ([c0, c1, c2]) h222 n0 Zs222 (own_Sta_keep S_COMPACT_STRINGS K222 all0) (own_Sta_keep S_assertionsDisabled K222 all0) (own_Sta_keep S_HI_BYTE_SHIFT K222 all0) (own_Sta_keep S_LO_BYTE_SHIFT K222 all0) E_os_224 g_os F_value_os_224 F_coder_os_224 Avc ne_os_oc hz_s_COMPACT_STRINGS (by simp) (by simp) hCa qf) hZ (hw _ (List.mem_of_getElem? (i := 11) rfl)) (hw _ (List.mem_of_getElem? (i := 7) rfl)) (by decide) (by decide)) (g := (mkF m 128 #[.val (.int p1), .val (.int p2), .val (.int p3), .val (.int p4), .val (.int p5), .val (.int (3 : Int32)), .val (.int c0), .val (.int c1), .val (.int c2), .val (.int c3), .unset, .unset] [(.ref oc), (.ref os), (.ref os)])) rfl (by rw [hml]; rfl) (Steps.refl _) (a := os) (argsL := [(.ref oc)]) (rest := [(.ref os)]) (lenOf own_pd22 rfl) rfl (by show 2 * 0 + _ ≤ _; exact Nat.le_of_eq rfl) (hb hby at_128) (fun _ _ => ⟨rfl, e222, (by decide : 2 + 2 ≤ _), (by decide : 7 + 12 ≤ _)⟩)
            dsimp only [Pt.U, Pt.locs, Pt.cells, Pt.slots] at X233 l233 y233 z233 st233 hQ233
            subst l233 y233 z233
            obtain ⟨vb_233, kb_233, rfl, Nq233, Kq233, f233_0, f233_1, f233_2, f233_3, f233_4⟩ := hQ233
            refine Go.tr st233 ?_
            have N233 := Fr.app N222 Nq233
            have Sf_vb_233 : Safe Z own_EL s.vm h222 vb_233 := Safe.new f233_0
            have Sf_os_234 : Safe Z own_EL s.vm T233.heap os := Safe.keep Kq233 (allS Sf_os_223 all0) R223.1 Sf_os_223
            have Sf_oc_234 : Safe Z own_EL s.vm T233.heap oc := Safe.keep Kq233 (allS Sf_os_223 all0) R223.1 Sf_oc_223
            have Sf_vb_233_234 : Safe Z own_EL s.vm T233.heap vb_233 := Safe.keep Kq233 (allS Sf_os_223 all0) R223.1 Sf_vb_233
            have R234 : CHr Z own_EL s.vm h0 s.vm T233.heap := CHr.trans R223 (CHr.keep Kq233 (allS Sf_os_223 all0) R223.1)
            have hk234 : _ ≤ T233.heap.size := Nat.le_trans hk223 (Kq233.1)
            have E_os_235 : Exa Z T233.heap os "java/lang/String" := Exa.keep E_os_224 Kq233
            have A_oc_235 : Arv Z T233.heap oc cA213 .char (Int32.ofNat [c0, c1, c2].length) ([c0, c1, c2].map Value.int) (.int (0 : Int32)) := Arv.keep Avc Kq233 (ninS (Ne.symm ne_os_oc) nin0)
            have ne_os_vb_233 : os ≠ vb_233 := Nat.ne_of_lt (Nat.lt_of_lt_of_le E_os_224.lt f233_0)
            have ne_oc_vb_233 : oc ≠ vb_233 := Nat.ne_of_lt (Nat.lt_of_lt_of_le Avc.lt f233_0)
            have g_vb_233 : n0 ≤ vb_233 := Nat.le_trans Zs222 f233_0
            have mh_vb_233 : h0.size ≤ vb_233 := Nat.le_trans K222.1 f233_0
            have K233 : Keep h0 T233.heap [] := Keep.trans K222 Kq233 (allS (Or.inr mh_os) all0)
            have Zs233 : n0 ≤ T233.heap.size := Nat.le_trans Zs222 Kq233.1
            show Go p e below _ (T233.setTop (mkF m 131 #[.val (.int p1), .val (.int p2), .val (.int p3), .val (.int p4), .val (.int p5), .val (.int (3 : Int32)), .val (.int c0), .val (.int c1), .val (.int c2), .val (.int c3), .unset, .unset] [(.ref os)]))
            refine g_astore X233 hx (hb hby at_131) 133 rfl rfl #[.val (.int p1), .val (.int p2), .val (.int p3), .val (.int p4), .val (.int p5), .val (.int (3 : Int32)), .val (.int c0), .val (.int c1), .val (.int c2), .val (.int c3), .val (.ref os), .unset] rfl ?_
            refine g_goto X233 hx (hb hby at_133) 168 (by decide) (by decide) ?_
            have tl : ∀ (ee : Int32) {Ts236 : State} {lc236 : List Loc} {hs236 : Heap} {vs236 : Vm} {ks236 : Nat} (Xs236 : Stand p l e room_1 (s.setVm vs236) m #[(.int p1), (.int p2), (.int p3), (.int p4), (.int p5)] below meth c Ts236 lc236 4 19) (es236 : Ts236.heap = hs236) (Ns236 : Fr n0 lc236) (Ks236 : Keep h0 hs236 []) (Zs236 : n0 ≤ hs236.size) (Ss236 : s.Since vs236 ks236) (kk236 : ks236 ≤ hs236.size) (_ : Z.Warmed39 (s.setVm vs236).vm) (_ : (s.setVm vs236).vm.findClass "com/example/varigraph/varigraph/generate/OperationCanNamePinLaw" = some m.cls) (Rs236 : CHr Z own_EL s.vm h0 vs236 hs236) (Exa_s236_0 : Exa Z hs236 os "java/lang/String") (Fld_s236_1 : Fld Z hs236 os "java/lang/String" "value" "[B" (.ref vb_233)) (Fld_s236_2 : Fld Z hs236 os "java/lang/String" "coder" "B" (.int (1 : Int32))) (Arv_s236_3 : Arv Z hs236 vb_233 kb_233 .byte (Int32.ofNat (2 * ([c0, c1, c2]).length)) (own_ub ([c0, c1, c2])) (.int (0 : Int32))) (he0 : ee = 0 ∨ ee = 1) (he1 : ee = 1 ↔ (∀ x ∈ [c0, c1, c2], own_ok x)), Go p e below (KS s below Z own_EL (Q0 Z p1 p2 p3 p4 p5 s_COMPACT_STRINGS s_SIOOBE_FORMATTER h0 n0) 24 1152) (Ts236.setTop (mkF m 234 #[.val (.int p1), .val (.int p2), .val (.int p3), .val (.int p4), .val (.int p5), .val (.int (3 : Int32)), .val (.int c0), .val (.int c1), .val (.int c2), .val (.int c3), .val (.ref os), .unset] [(.int ee)])) := by
              intro ee Ts236 lc236 hs236 vs236 ks236 Xs236 es236 Ns236 Ks236 Zs236 Ss236 kk236 hZ hown Rs236 Exa_s236_0 Fld_s236_1 Fld_s236_2 Arv_s236_3 he0 he1
              refine g_istore Xs236 hx (hb hby at_234) 236 rfl #[.val (.int p1), .val (.int p2), .val (.int p3), .val (.int p4), .val (.int p5), .val (.int (3 : Int32)), .val (.int c0), .val (.int c1), .val (.int c2), .val (.int c3), .val (.ref os), .val (.int ee)] rfl ?_
              refine g_aload Xs236 hx (hb hby at_236) 238 rfl (v := (.ref os)) rfl rfl ?_
              obtain ⟨_, _, ⟨T237, L237, k237, n237⟩, -, X237, ⟨Lc237, hQ237, l237, y237, z237⟩, st237⟩ := Jvm.LawKit.callS Xs236 hx (y := (⟨"com/example/varigraph/varigraph/generate/Operation", "canName", "(Ljava/lang/String;)Z"⟩ : MethodName)) hown (mvT hZ (hw _ (List.mem_of_getElem? (i := 27) rfl))) (mvT hZ (hw _ (List.mem_of_getElem? (i := 28) rfl))) (mvT hZ (hw _ (List.mem_of_getElem? (i := 29) rfl))) (mvT hZ (hw _ (List.mem_of_getElem? (i := 30) rfl))) (by decide) (backOf (W := 0) (rmcanU l Z a0 hw [] os s_COMPACT_STRINGS s_SIOOBE_FORMATTER vb_233 kb_233 ([c0, c1, c2]) hs236 n0 Zs236 (own_Sta_keep S_COMPACT_STRINGS Ks236 all0) (own_Sta_keep S_assertionsDisabled Ks236 all0) (own_Sta_keep S_HI_BYTE_SHIFT Ks236 all0) (own_Sta_keep S_LO_BYTE_SHIFT Ks236 all0) (own_Sta_keep S_SIOOBE_FORMATTER Ks236 all0) Exa_s236_0 Fld_s236_1 Fld_s236_2 Arv_s236_3 hz_s_COMPACT_STRINGS hR_s_SIOOBE_FORMATTER (by simp) (by simp) hCa) hZ (hw _ (List.mem_of_getElem? (i := 30) rfl)) (hw _ (List.mem_of_getElem? (i := 29) rfl)) (by decide) (by decide)) (g := (mkF m 238 #[.val (.int p1), .val (.int p2), .val (.int p3), .val (.int p4), .val (.int p5), .val (.int (3 : Int32)), .val (.int c0), .val (.int c1), .val (.int c2), .val (.int c3), .val (.ref os), .val (.int ee)] [(.ref os)])) rfl (by rw [hml]; rfl) (argsL := [(.ref os)]) (rest := []) (lenOf own_pd23 rfl) rfl (by show 2 * 0 + _ ≤ _; exact Nat.le_of_eq rfl) (hb hby at_238) (fun _ _ => ⟨rfl, es236, (by decide : 4 + 0 ≤ _), (by decide : 19 + 0 ≤ _)⟩)
              dsimp only [Pt.U, Pt.locs, Pt.cells, Pt.slots] at X237 l237 y237 z237 st237 hQ237
              subst l237 y237 z237
              obtain ⟨r_237, rfl, Nq237, e237, p237_0, p237_1⟩ := hQ237
              refine Go.st st237 ?_
              have N237 := Fr.app Ns236 Nq237
              show Go p e below _ (T237.setTop (mkF m 241 #[.val (.int p1), .val (.int p2), .val (.int p3), .val (.int p4), .val (.int p5), .val (.int (3 : Int32)), .val (.int c0), .val (.int c1), .val (.int c2), .val (.int c3), .val (.ref os), .val (.int ee)] [(.int r_237)]))
              refine g_iload X237 hx (hb hby at_241) 243 rfl (v := ee) rfl ?_
              refine g_icmp_ne X237 hx (hb hby at_243) 250 246 (by decide) (by decide) rfl (fun hc243 => False.elim (hc243 (own_bb p237_0 he0 p237_1 he1))) (fun hc243 => ?_)
              refine g_iconst X237 hx (hb hby at_246) 247 rfl (1 : Int32) rfl ?_
              refine g_goto X237 hx (hb hby at_247) 251 (by decide) (by decide) ?_
              refine Go.retNS X237 hx hlk (t := .boolean) Bd.returns (by simp) (hb hby at_251) (by decide) (by decide) Ss236 (by rw [e237]; exact kk236) (own_EW hw) hZ (by rw [hh, e237]; exact Rs236) ?_
              exact ⟨rfl, N237⟩
            refine g_iload X233 hx (hb hby at_168) 170 rfl (v := (3 : Int32)) rfl ?_
            refine g_if_le X233 hx (hb hby at_170) 233 173 (by decide) (by decide) rfl (fun hc170 => False.elim (absurd (by decide) hc170)) (fun hc170 => ?_)
            refine g_iload X233 hx (hb hby at_173) 175 rfl (v := (3 : Int32)) rfl ?_
            refine g_iconst X233 hx (hb hby at_175) 176 rfl (1 : Int32) rfl ?_
            refine g_icmp_lt X233 hx (hb hby at_176) 187 179 (by decide) (by decide) rfl (fun hc176 => False.elim (absurd hc176 (by decide))) (fun hc176 => ?_)
            refine g_iload X233 hx (hb hby at_179) 181 rfl (v := c0) rfl ?_
            obtain ⟨_, _, ⟨T238, L238, k238, n238⟩, -, X238, ⟨Lc238, hQ238, l238, y238, z238⟩, st238⟩ := Jvm.LawKit.callS X233 hx (y := (⟨"com/example/varigraph/varigraph/generate/OperationCanNamePinLaw", "ok", "(C)Z"⟩ : MethodName)) hown (mvT hZ (hw _ (List.mem_of_getElem? (i := 47) rfl))) (mvT hZ (hw _ (List.mem_of_getElem? (i := 48) rfl))) (mvT hZ (hw _ (List.mem_of_getElem? (i := 3) rfl))) (mvT hZ (hw _ (List.mem_of_getElem? (i := 49) rfl))) (by decide) (backOf (W := 0) (rmok l Z a0 hw [] c0 T233.heap n0 Zs233 ) hZ (hw _ (List.mem_of_getElem? (i := 49) rfl)) (hw _ (List.mem_of_getElem? (i := 3) rfl)) (by decide) (by decide)) (g := (mkF m 181 #[.val (.int p1), .val (.int p2), .val (.int p3), .val (.int p4), .val (.int p5), .val (.int (3 : Int32)), .val (.int c0), .val (.int c1), .val (.int c2), .val (.int c3), .val (.ref os), .unset] [(.int c0)])) rfl (by rw [hml]; rfl) (argsL := [(.int c0)]) (rest := []) (lenOf own_pd1 rfl) rfl (by show 2 * 0 + _ ≤ _; exact Nat.le_of_eq rfl) (hb hby at_181) (fun _ _ => ⟨rfl, rfl, (by decide : 4 + 0 ≤ _), (by decide : 19 + 0 ≤ _)⟩)
            dsimp only [Pt.U, Pt.locs, Pt.cells, Pt.slots] at X238 l238 y238 z238 st238 hQ238
            subst l238 y238 z238
            obtain ⟨r_238, rfl, Nq238, e238, p238_0, p238_1⟩ := hQ238
            refine Go.st st238 ?_
            have N238 := Fr.app N233 Nq238
            show Go p e below _ (T238.setTop (mkF m 184 #[.val (.int p1), .val (.int p2), .val (.int p3), .val (.int p4), .val (.int p5), .val (.int (3 : Int32)), .val (.int c0), .val (.int c1), .val (.int c2), .val (.int c3), .val (.ref os), .unset] [(.int r_238)]))
            refine g_if_eq X238 hx (hb hby at_184) 233 187 (by decide) (by decide) rfl (fun hc184 => ?_) (fun hc184 => ?_)
            · refine g_iconst X238 hx (hb hby at_233) 234 rfl (0 : Int32) rfl ?_
              exact tl (0 : Int32) (own_mono X238 (by decide) (by decide)) e238 N238 K233 Zs233 hS0 hk234 hZ hown R234 f233_1 f233_2 f233_3 f233_4 (Or.inl rfl) (⟨fun q => absurd q (by decide), fun q => absurd (hc184.symm.trans (p238_1.mpr (q c0 (by simp)))) (by decide)⟩)
            · refine g_iload X238 hx (hb hby at_187) 189 rfl (v := (3 : Int32)) rfl ?_
              refine g_iconst X238 hx (hb hby at_189) 190 rfl (2 : Int32) rfl ?_
              refine g_icmp_lt X238 hx (hb hby at_190) 201 193 (by decide) (by decide) rfl (fun hc190 => False.elim (absurd hc190 (by decide))) (fun hc190 => ?_)
              refine g_iload X238 hx (hb hby at_193) 195 rfl (v := c1) rfl ?_
              obtain ⟨_, _, ⟨T239, L239, k239, n239⟩, -, X239, ⟨Lc239, hQ239, l239, y239, z239⟩, st239⟩ := Jvm.LawKit.callS X238 hx (y := (⟨"com/example/varigraph/varigraph/generate/OperationCanNamePinLaw", "ok", "(C)Z"⟩ : MethodName)) hown (mvT hZ (hw _ (List.mem_of_getElem? (i := 47) rfl))) (mvT hZ (hw _ (List.mem_of_getElem? (i := 48) rfl))) (mvT hZ (hw _ (List.mem_of_getElem? (i := 3) rfl))) (mvT hZ (hw _ (List.mem_of_getElem? (i := 49) rfl))) (by decide) (backOf (W := 0) (rmok l Z a0 hw [] c1 T233.heap n0 Zs233 ) hZ (hw _ (List.mem_of_getElem? (i := 49) rfl)) (hw _ (List.mem_of_getElem? (i := 3) rfl)) (by decide) (by decide)) (g := (mkF m 195 #[.val (.int p1), .val (.int p2), .val (.int p3), .val (.int p4), .val (.int p5), .val (.int (3 : Int32)), .val (.int c0), .val (.int c1), .val (.int c2), .val (.int c3), .val (.ref os), .unset] [(.int c1)])) rfl (by rw [hml]; rfl) (argsL := [(.int c1)]) (rest := []) (lenOf own_pd1 rfl) rfl (by show 2 * 0 + _ ≤ _; exact Nat.le_of_eq rfl) (hb hby at_195) (fun _ _ => ⟨rfl, e238, (by decide : 4 + 0 ≤ _), (by decide : 19 + 0 ≤ _)⟩)
              dsimp only [Pt.U, Pt.locs, Pt.cells, Pt.slots] at X239 l239 y239 z239 st239 hQ239
              subst l239 y239 z239
              obtain ⟨r_239, rfl, Nq239, e239, p239_0, p239_1⟩ := hQ239
              refine Go.st st239 ?_
              have N239 := Fr.app N238 Nq239
              show Go p e below _ (T239.setTop (mkF m 198 #[.val (.int p1), .val (.int p2), .val (.int p3), .val (.int p4), .val (.int p5), .val (.int (3 : Int32)), .val (.int c0), .val (.int c1), .val (.int c2), .val (.int c3), .val (.ref os), .unset] [(.int r_239)]))
              refine g_if_eq X239 hx (hb hby at_198) 233 201 (by decide) (by decide) rfl (fun hc198 => ?_) (fun hc198 => ?_)
              · refine g_iconst X239 hx (hb hby at_233) 234 rfl (0 : Int32) rfl ?_
                exact tl (0 : Int32) (own_mono X239 (by decide) (by decide)) e239 N239 K233 Zs233 hS0 hk234 hZ hown R234 f233_1 f233_2 f233_3 f233_4 (Or.inl rfl) (⟨fun q => absurd q (by decide), fun q => absurd (hc198.symm.trans (p239_1.mpr (q c1 (by simp)))) (by decide)⟩)
              · refine g_iload X239 hx (hb hby at_201) 203 rfl (v := (3 : Int32)) rfl ?_
                refine g_iconst X239 hx (hb hby at_203) 204 rfl (3 : Int32) rfl ?_
                refine g_icmp_lt X239 hx (hb hby at_204) 215 207 (by decide) (by decide) rfl (fun hc204 => False.elim (absurd hc204 (by decide))) (fun hc204 => ?_)
                refine g_iload X239 hx (hb hby at_207) 209 rfl (v := c2) rfl ?_
                obtain ⟨_, _, ⟨T240, L240, k240, n240⟩, -, X240, ⟨Lc240, hQ240, l240, y240, z240⟩, st240⟩ := Jvm.LawKit.callS X239 hx (y := (⟨"com/example/varigraph/varigraph/generate/OperationCanNamePinLaw", "ok", "(C)Z"⟩ : MethodName)) hown (mvT hZ (hw _ (List.mem_of_getElem? (i := 47) rfl))) (mvT hZ (hw _ (List.mem_of_getElem? (i := 48) rfl))) (mvT hZ (hw _ (List.mem_of_getElem? (i := 3) rfl))) (mvT hZ (hw _ (List.mem_of_getElem? (i := 49) rfl))) (by decide) (backOf (W := 0) (rmok l Z a0 hw [] c2 T233.heap n0 Zs233 ) hZ (hw _ (List.mem_of_getElem? (i := 49) rfl)) (hw _ (List.mem_of_getElem? (i := 3) rfl)) (by decide) (by decide)) (g := (mkF m 209 #[.val (.int p1), .val (.int p2), .val (.int p3), .val (.int p4), .val (.int p5), .val (.int (3 : Int32)), .val (.int c0), .val (.int c1), .val (.int c2), .val (.int c3), .val (.ref os), .unset] [(.int c2)])) rfl (by rw [hml]; rfl) (argsL := [(.int c2)]) (rest := []) (lenOf own_pd1 rfl) rfl (by show 2 * 0 + _ ≤ _; exact Nat.le_of_eq rfl) (hb hby at_209) (fun _ _ => ⟨rfl, e239, (by decide : 4 + 0 ≤ _), (by decide : 19 + 0 ≤ _)⟩)
                dsimp only [Pt.U, Pt.locs, Pt.cells, Pt.slots] at X240 l240 y240 z240 st240 hQ240
                subst l240 y240 z240
                obtain ⟨r_240, rfl, Nq240, e240, p240_0, p240_1⟩ := hQ240
                refine Go.st st240 ?_
                have N240 := Fr.app N239 Nq240
                show Go p e below _ (T240.setTop (mkF m 212 #[.val (.int p1), .val (.int p2), .val (.int p3), .val (.int p4), .val (.int p5), .val (.int (3 : Int32)), .val (.int c0), .val (.int c1), .val (.int c2), .val (.int c3), .val (.ref os), .unset] [(.int r_240)]))
                refine g_if_eq X240 hx (hb hby at_212) 233 215 (by decide) (by decide) rfl (fun hc212 => ?_) (fun hc212 => ?_)
                · refine g_iconst X240 hx (hb hby at_233) 234 rfl (0 : Int32) rfl ?_
                  exact tl (0 : Int32) (own_mono X240 (by decide) (by decide)) e240 N240 K233 Zs233 hS0 hk234 hZ hown R234 f233_1 f233_2 f233_3 f233_4 (Or.inl rfl) (⟨fun q => absurd q (by decide), fun q => absurd (hc212.symm.trans (p240_1.mpr (q c2 (by simp)))) (by decide)⟩)
                · refine g_iload X240 hx (hb hby at_215) 217 rfl (v := (3 : Int32)) rfl ?_
                  refine g_iconst X240 hx (hb hby at_217) 218 rfl (4 : Int32) rfl ?_
                  refine g_icmp_lt X240 hx (hb hby at_218) 229 221 (by decide) (by decide) rfl (fun hc218 => ?_) (fun hc218 => False.elim (hc218 (by decide)))
                  refine g_iconst X240 hx (hb hby at_229) 230 rfl (1 : Int32) rfl ?_
                  refine g_goto X240 hx (hb hby at_230) 234 (by decide) (by decide) ?_
                  exact tl (1 : Int32) (own_mono X240 (by decide) (by decide)) e240 N240 K233 Zs233 hS0 hk234 hZ hown R234 f233_1 f233_2 f233_3 f233_4 (Or.inr rfl) (⟨fun _ => List.forall_mem_cons.mpr ⟨p238_1.mp (p238_0.resolve_left hc184), List.forall_mem_cons.mpr ⟨p239_1.mp (p239_0.resolve_left hc198), List.forall_mem_cons.mpr ⟨p240_1.mp (p240_0.resolve_left hc212), fun _ q => nomatch q⟩⟩⟩, fun _ => rfl⟩)
      · subst hc72
        have hCa : ∀ x ∈ [c0, c1], own_C x := List.forall_mem_cons.mpr ⟨p170_0, List.forall_mem_cons.mpr ⟨p171_0, fun _ q => nomatch q⟩⟩
        obtain ⟨T241, h241, X241, e241, E241, A241, D241, -, st241⟩ := newO X173 hx hZ hown (hw _ (List.mem_of_getElem? (i := 5) rfl)) (hw _ (List.mem_of_getElem? (i := 6) rfl)) (hw _ (List.mem_of_getElem? (i := 7) rfl)) e173 (g := (mkF m 75 #[.val (.int p1), .val (.int p2), .val (.int p3), .val (.int p4), .val (.int p5), .val (.int (2 : Int32)), .val (.int c0), .val (.int c1), .val (.int c2), .val (.int c3), .unset, .unset] [])) rfl (hb hby at_75) (by decide) (by decide)
        refine Go.st st241 ?_
        obtain ⟨os, q241⟩ : ∃ z, z = h0.size := ⟨_, rfl⟩
        rw [← q241] at A241 D241 ⊢
        have g_os : n0 ≤ os := Nat.le_trans Z0 (Nat.le_of_eq q241.symm)
        have Sf_os : Safe Z own_EL s.vm h0 os := Safe.new (Nat.le_of_eq q241.symm)
        have mh_os : h0.size ≤ os := Nat.le_trans K0.1 (Nat.le_of_eq q241.symm)
        have Sf_os_242 : Safe Z own_EL s.vm h241 os := Safe.ext E241 R0.1 Sf_os
        have R242 : CHr Z own_EL s.vm h0 s.vm h241 := CHr.trans R0 (CHr.ext E241 R0.1)
        have hk242 : _ ≤ h241.size := Nat.le_trans (Nat.zero_le _) (E241.1)
        have F_value_241 : Fld Z h241 os "java/lang/String" "value" "[B" .null := D241 (Or.inr (hw _ (List.mem_of_getElem? (i := 21) rfl))) (ty := (.array .byte)) (by decide)
        have F_coder_241 : Fld Z h241 os "java/lang/String" "coder" "B" (.int (0 : Int32)) := D241 (Or.inr (hw _ (List.mem_of_getElem? (i := 22) rfl))) (ty := .byte) (by decide)
        have K241 : Keep h0 h241 [] := Keep.ext K0 E241
        have Zs241 : n0 ≤ h241.size := Nat.le_trans Z0 E241.1
        show Go p e below _ (T241.setTop (mkF m 78 #[.val (.int p1), .val (.int p2), .val (.int p3), .val (.int p4), .val (.int p5), .val (.int (2 : Int32)), .val (.int c0), .val (.int c1), .val (.int c2), .val (.int c3), .unset, .unset] [(.ref os)]))
        refine g_dup X241 hx (hb hby at_78) 79 rfl rfl ?_
        refine g_iconst X241 hx (hb hby at_79) 80 rfl (2 : Int32) rfl ?_
        obtain ⟨T244, h244, cA244, X244, e244, E244, A244, st244⟩ := newP X241 hx hZ (aty := .char) (hw _ (List.mem_of_getElem? (i := 8) rfl)) e241 (g := (mkF m 80 #[.val (.int p1), .val (.int p2), .val (.int p3), .val (.int p4), .val (.int p5), .val (.int (2 : Int32)), .val (.int c0), .val (.int c1), .val (.int c2), .val (.int c3), .unset, .unset] [(.int (2 : Int32)), (.ref os), (.ref os)])) rfl (hb hby at_80) rfl (by decide) (cap := 2) (by decide) (by decide) (by decide) (by decide)
        refine Go.st st244 ?_
        obtain ⟨oc, q244⟩ : ∃ z, z = h241.size := ⟨_, rfl⟩
        rw [← q244] at A244 ⊢
        have ne_os_oc : os ≠ oc := Nat.ne_of_lt (Nat.lt_of_lt_of_eq A241.lt q244.symm)
        have g_oc : n0 ≤ oc := Nat.le_trans Zs241 (Nat.le_of_eq q244.symm)
        have Sf_oc : Safe Z own_EL s.vm h241 oc := Safe.new (Nat.le_of_eq q244.symm)
        have mh_oc : h0.size ≤ oc := Nat.le_trans K241.1 (Nat.le_of_eq q244.symm)
        have Sf_os_245 : Safe Z own_EL s.vm h244 os := Safe.ext E244 R242.1 Sf_os_242
        have Sf_oc_245 : Safe Z own_EL s.vm h244 oc := Safe.ext E244 R242.1 Sf_oc
        have R245 : CHr Z own_EL s.vm h0 s.vm h244 := CHr.trans R242 (CHr.ext E244 R242.1)
        have hk245 : _ ≤ h244.size := Nat.le_trans hk242 (E244.1)
        have E_os_246 : Exa Z h244 os "java/lang/String" := Exa.ext E244 A241
        have F_value_os_246 : Fld Z h244 os "java/lang/String" "value" "[B" .null := Fld.ext E244 F_value_241
        have F_coder_os_246 : Fld Z h244 os "java/lang/String" "coder" "B" (.int (0 : Int32)) := Fld.ext E244 F_coder_241
        have K244 : Keep h0 h244 [] := Keep.ext K241 E244
        have Zs244 : n0 ≤ h244.size := Nat.le_trans Zs241 E244.1
        have Av_oc : Arv Z h244 oc cA244 .char (2 : Int32) ([(.int (0 : Int32)), (.int (0 : Int32))]) (.int (0 : Int32)) := Arv.pad (Arv.new A244 (by decide)) (pad_rep [] (.int (0 : Int32)) 2)
        show Go p e below _ (T244.setTop (mkF m 82 #[.val (.int p1), .val (.int p2), .val (.int p3), .val (.int p4), .val (.int p5), .val (.int (2 : Int32)), .val (.int c0), .val (.int c1), .val (.int c2), .val (.int c3), .unset, .unset] [(.ref oc), (.ref os), (.ref os)]))
        refine g_dup X244 hx (hb hby at_82) 83 rfl rfl ?_
        refine g_iconst X244 hx (hb hby at_83) 84 rfl (0 : Int32) rfl ?_
        refine g_iload X244 hx (hb hby at_84) 86 rfl (v := c0) rfl ?_
        obtain ⟨T247, h247, X247, e247, W247, B247, st247⟩ := g_castore X244 hx (hb hby at_86) hZ e244 Av_oc (show ¬ (0 : Int32) < 0 ∧ (0 : Int32) < (2 : Int32) from by decide) (i := 0) (by decide) (by simp)  (L := #[.val (.int p1), .val (.int p2), .val (.int p3), .val (.int p4), .val (.int p5), .val (.int (2 : Int32)), .val (.int c0), .val (.int c1), .val (.int c2), .val (.int c3), .unset, .unset]) (S := [(.ref oc), (.ref os), (.ref os)])
        refine Go.st st247 ?_
        have Sf_os_248 : Safe Z own_EL s.vm h247 os := Safe.wr W247 Sf_oc_245 R245.1 Sf_os_245
        have Sf_oc_248 : Safe Z own_EL s.vm h247 oc := Safe.wr W247 Sf_oc_245 R245.1 Sf_oc_245
        have R248 : CHr Z own_EL s.vm h0 s.vm h247 := CHr.trans R245 (CHr.wr W247 Sf_oc_245 R245.1)
        have hk248 : _ ≤ h247.size := Nat.le_trans hk245 (Nat.le_of_eq W247.size.symm)
        have E_os_249 : Exa Z h247 os "java/lang/String" := Exa.wr W247 E_os_246
        have F_value_os_249 : Fld Z h247 os "java/lang/String" "value" "[B" .null := Fld.other W247 F_value_os_246 (Or.inl ne_os_oc)
        have F_coder_os_249 : Fld Z h247 os "java/lang/String" "coder" "B" (.int (0 : Int32)) := Fld.other W247 F_coder_os_246 (Or.inl ne_os_oc)
        have Av_oc_247 : Arv Z h247 oc cA244 .char (2 : Int32) ([(.int c0), (.int (0 : Int32))]) (.int (0 : Int32)) := (by have q := B247; rw [own_nC p170_0] at q; exact q)
        have K247 : Keep h0 h247 [] := Keep.wr K244 W247 (Or.inr mh_oc)
        have N247 := Fr.snoc X247 N173 g_oc
        have Zs247 : n0 ≤ h247.size := by rw [W247.size]; exact Zs244
        show Go p e below _ (T247.setTop (mkF m 87 #[.val (.int p1), .val (.int p2), .val (.int p3), .val (.int p4), .val (.int p5), .val (.int (2 : Int32)), .val (.int c0), .val (.int c1), .val (.int c2), .val (.int c3), .unset, .unset] [(.ref oc), (.ref os), (.ref os)]))
        refine g_dup X247 hx (hb hby at_87) 88 rfl rfl ?_
        refine g_iconst X247 hx (hb hby at_88) 89 rfl (1 : Int32) rfl ?_
        refine g_iload X247 hx (hb hby at_89) 91 rfl (v := c1) rfl ?_
        obtain ⟨T250, h250, X250, e250, W250, B250, st250⟩ := g_castore X247 hx (hb hby at_91) hZ e247 Av_oc_247 (show ¬ (1 : Int32) < 0 ∧ (1 : Int32) < (2 : Int32) from by decide) (i := 1) (by decide) (by simp)  (L := #[.val (.int p1), .val (.int p2), .val (.int p3), .val (.int p4), .val (.int p5), .val (.int (2 : Int32)), .val (.int c0), .val (.int c1), .val (.int c2), .val (.int c3), .unset, .unset]) (S := [(.ref oc), (.ref os), (.ref os)])
        refine Go.st st250 ?_
        have Sf_os_251 : Safe Z own_EL s.vm h250 os := Safe.wr W250 Sf_oc_248 R248.1 Sf_os_248
        have Sf_oc_251 : Safe Z own_EL s.vm h250 oc := Safe.wr W250 Sf_oc_248 R248.1 Sf_oc_248
        have R251 : CHr Z own_EL s.vm h0 s.vm h250 := CHr.trans R248 (CHr.wr W250 Sf_oc_248 R248.1)
        have hk251 : _ ≤ h250.size := Nat.le_trans hk248 (Nat.le_of_eq W250.size.symm)
        have E_os_252 : Exa Z h250 os "java/lang/String" := Exa.wr W250 E_os_249
        have F_value_os_252 : Fld Z h250 os "java/lang/String" "value" "[B" .null := Fld.other W250 F_value_os_249 (Or.inl ne_os_oc)
        have F_coder_os_252 : Fld Z h250 os "java/lang/String" "coder" "B" (.int (0 : Int32)) := Fld.other W250 F_coder_os_249 (Or.inl ne_os_oc)
        have Av_oc_250 : Arv Z h250 oc cA244 .char (2 : Int32) ([(.int c0), (.int c1)]) (.int (0 : Int32)) := (by have q := B250; rw [own_nC p171_0] at q; exact q)
        have K250 : Keep h0 h250 [] := Keep.wr K247 W250 (Or.inr mh_oc)
        have N250 := Fr.snoc X250 N247 g_oc
        have Zs250 : n0 ≤ h250.size := by rw [W250.size]; exact Zs247
        show Go p e below _ (T250.setTop (mkF m 92 #[.val (.int p1), .val (.int p2), .val (.int p3), .val (.int p4), .val (.int p5), .val (.int (2 : Int32)), .val (.int c0), .val (.int c1), .val (.int c2), .val (.int c3), .unset, .unset] [(.ref oc), (.ref os), (.ref os)]))
        have Avc : Arv Z h250 oc cA244 .char (Int32.ofNat [c0, c1].length) ([c0, c1].map Value.int) (.int (0 : Int32)) := Av_oc_250
        by_cases qf : ∀ x ∈ [c0, c1], ¬ (255 : Int32) < x
        · obtain ⟨_, _, ⟨T253, L253, k253, n253⟩, -, X253, ⟨Lc253, hQ253, l253, y253, z253⟩, st253⟩ := X250.specialBack hx (y := (⟨"java/lang/String", "<init>", "([C)V"⟩ : MethodName)) rfl hown (mvT hZ (hw _ (List.mem_of_getElem? (i := 9) rfl))) (mvT hZ (hw _ (List.mem_of_getElem? (i := 10) rfl))) (mvT hZ (hw _ (List.mem_of_getElem? (i := 11) rfl))) (by decide) (backOf (W := 1) (rmsCL l Z a0 hw [] os oc s_COMPACT_STRINGS cA244 ([c0, c1]) h250 n0 Zs250 (own_Sta_keep S_COMPACT_STRINGS K250 all0) E_os_252 g_os F_value_os_252 F_coder_os_252 Avc ne_os_oc hz_s_COMPACT_STRINGS (by simp) (by simp) qf) hZ (hw _ (List.mem_of_getElem? (i := 11) rfl)) (hw _ (List.mem_of_getElem? (i := 7) rfl)) (by decide) (by decide)) (g := (mkF m 92 #[.val (.int p1), .val (.int p2), .val (.int p3), .val (.int p4), .val (.int p5), .val (.int (2 : Int32)), .val (.int c0), .val (.int c1), .val (.int c2), .val (.int c3), .unset, .unset] [(.ref oc), (.ref os), (.ref os)])) rfl (by rw [hml]; rfl) (Steps.refl _) (a := os) (argsL := [(.ref oc)]) (rest := [(.ref os)]) (lenOf own_pd22 rfl) rfl (by show 2 * 0 + _ ≤ _; exact Nat.le_of_eq rfl) (hb hby at_92) (fun _ _ => ⟨rfl, e250, (by decide : 2 + 1 ≤ _), (by decide : 6 + 4 ≤ _)⟩)
          dsimp only [Pt.U, Pt.locs, Pt.cells, Pt.slots] at X253 l253 y253 z253 st253 hQ253
          subst l253 y253 z253
          obtain ⟨vb_253, kb_253, rfl, Nq253, Kq253, f253_0, f253_1, f253_2, f253_3, f253_4⟩ := hQ253
          refine Go.tr st253 ?_
          have N253 := Fr.app N250 Nq253
          have Sf_vb_253 : Safe Z own_EL s.vm h250 vb_253 := Safe.new f253_0
          have Sf_os_254 : Safe Z own_EL s.vm T253.heap os := Safe.keep Kq253 (allS Sf_os_251 all0) R251.1 Sf_os_251
          have Sf_oc_254 : Safe Z own_EL s.vm T253.heap oc := Safe.keep Kq253 (allS Sf_os_251 all0) R251.1 Sf_oc_251
          have Sf_vb_253_254 : Safe Z own_EL s.vm T253.heap vb_253 := Safe.keep Kq253 (allS Sf_os_251 all0) R251.1 Sf_vb_253
          have R254 : CHr Z own_EL s.vm h0 s.vm T253.heap := CHr.trans R251 (CHr.keep Kq253 (allS Sf_os_251 all0) R251.1)
          have hk254 : _ ≤ T253.heap.size := Nat.le_trans hk251 (Kq253.1)
          have E_os_255 : Exa Z T253.heap os "java/lang/String" := Exa.keep E_os_252 Kq253
          have A_oc_255 : Arv Z T253.heap oc cA244 .char (Int32.ofNat [c0, c1].length) ([c0, c1].map Value.int) (.int (0 : Int32)) := Arv.keep Avc Kq253 (ninS (Ne.symm ne_os_oc) nin0)
          have ne_os_vb_253 : os ≠ vb_253 := Nat.ne_of_lt (Nat.lt_of_lt_of_le E_os_252.lt f253_0)
          have ne_oc_vb_253 : oc ≠ vb_253 := Nat.ne_of_lt (Nat.lt_of_lt_of_le Avc.lt f253_0)
          have g_vb_253 : n0 ≤ vb_253 := Nat.le_trans Zs250 f253_0
          have mh_vb_253 : h0.size ≤ vb_253 := Nat.le_trans K250.1 f253_0
          have K253 : Keep h0 T253.heap [] := Keep.trans K250 Kq253 (allS (Or.inr mh_os) all0)
          have Zs253 : n0 ≤ T253.heap.size := Nat.le_trans Zs250 Kq253.1
          show Go p e below _ (T253.setTop (mkF m 95 #[.val (.int p1), .val (.int p2), .val (.int p3), .val (.int p4), .val (.int p5), .val (.int (2 : Int32)), .val (.int c0), .val (.int c1), .val (.int c2), .val (.int c3), .unset, .unset] [(.ref os)]))
          refine g_astore X253 hx (hb hby at_95) 97 rfl rfl #[.val (.int p1), .val (.int p2), .val (.int p3), .val (.int p4), .val (.int p5), .val (.int (2 : Int32)), .val (.int c0), .val (.int c1), .val (.int c2), .val (.int c3), .val (.ref os), .unset] rfl ?_
          refine g_goto X253 hx (hb hby at_97) 168 (by decide) (by decide) ?_
          have tl : ∀ (ee : Int32) {Ts256 : State} {lc256 : List Loc} {hs256 : Heap} {vs256 : Vm} {ks256 : Nat} (Xs256 : Stand p l e room_1 (s.setVm vs256) m #[(.int p1), (.int p2), (.int p3), (.int p4), (.int p5)] below meth c Ts256 lc256 3 10) (es256 : Ts256.heap = hs256) (Ns256 : Fr n0 lc256) (Ks256 : Keep h0 hs256 []) (Zs256 : n0 ≤ hs256.size) (Ss256 : s.Since vs256 ks256) (kk256 : ks256 ≤ hs256.size) (_ : Z.Warmed39 (s.setVm vs256).vm) (_ : (s.setVm vs256).vm.findClass "com/example/varigraph/varigraph/generate/OperationCanNamePinLaw" = some m.cls) (Rs256 : CHr Z own_EL s.vm h0 vs256 hs256) (Exa_s256_0 : Exa Z hs256 os "java/lang/String") (Fld_s256_1 : Fld Z hs256 os "java/lang/String" "value" "[B" (.ref vb_253)) (Fld_s256_2 : Fld Z hs256 os "java/lang/String" "coder" "B" (.int (0 : Int32))) (Arv_s256_3 : Arv Z hs256 vb_253 kb_253 .byte (Int32.ofNat ([c0, c1]).length) (own_bs ([c0, c1])) (.int (0 : Int32))) (he0 : ee = 0 ∨ ee = 1) (he1 : ee = 1 ↔ (∀ x ∈ [c0, c1], own_ok x)), Go p e below (KS s below Z own_EL (Q0 Z p1 p2 p3 p4 p5 s_COMPACT_STRINGS s_SIOOBE_FORMATTER h0 n0) 24 1152) (Ts256.setTop (mkF m 234 #[.val (.int p1), .val (.int p2), .val (.int p3), .val (.int p4), .val (.int p5), .val (.int (2 : Int32)), .val (.int c0), .val (.int c1), .val (.int c2), .val (.int c3), .val (.ref os), .unset] [(.int ee)])) := by
            intro ee Ts256 lc256 hs256 vs256 ks256 Xs256 es256 Ns256 Ks256 Zs256 Ss256 kk256 hZ hown Rs256 Exa_s256_0 Fld_s256_1 Fld_s256_2 Arv_s256_3 he0 he1
            refine g_istore Xs256 hx (hb hby at_234) 236 rfl #[.val (.int p1), .val (.int p2), .val (.int p3), .val (.int p4), .val (.int p5), .val (.int (2 : Int32)), .val (.int c0), .val (.int c1), .val (.int c2), .val (.int c3), .val (.ref os), .val (.int ee)] rfl ?_
            refine g_aload Xs256 hx (hb hby at_236) 238 rfl (v := (.ref os)) rfl rfl ?_
            obtain ⟨_, _, ⟨T257, L257, k257, n257⟩, -, X257, ⟨Lc257, hQ257, l257, y257, z257⟩, st257⟩ := Jvm.LawKit.callS Xs256 hx (y := (⟨"com/example/varigraph/varigraph/generate/Operation", "canName", "(Ljava/lang/String;)Z"⟩ : MethodName)) hown (mvT hZ (hw _ (List.mem_of_getElem? (i := 27) rfl))) (mvT hZ (hw _ (List.mem_of_getElem? (i := 28) rfl))) (mvT hZ (hw _ (List.mem_of_getElem? (i := 29) rfl))) (mvT hZ (hw _ (List.mem_of_getElem? (i := 30) rfl))) (by decide) (backOf (W := 0) (rmcanL l Z a0 hw [] os s_COMPACT_STRINGS vb_253 kb_253 ([c0, c1]) hs256 n0 Zs256 (own_Sta_keep S_COMPACT_STRINGS Ks256 all0) Exa_s256_0 Fld_s256_1 Fld_s256_2 Arv_s256_3 hz_s_COMPACT_STRINGS (by simp) (by simp) hCa qf) hZ (hw _ (List.mem_of_getElem? (i := 30) rfl)) (hw _ (List.mem_of_getElem? (i := 29) rfl)) (by decide) (by decide)) (g := (mkF m 238 #[.val (.int p1), .val (.int p2), .val (.int p3), .val (.int p4), .val (.int p5), .val (.int (2 : Int32)), .val (.int c0), .val (.int c1), .val (.int c2), .val (.int c3), .val (.ref os), .val (.int ee)] [(.ref os)])) rfl (by rw [hml]; rfl) (argsL := [(.ref os)]) (rest := []) (lenOf own_pd23 rfl) rfl (by show 2 * 0 + _ ≤ _; exact Nat.le_of_eq rfl) (hb hby at_238) (fun _ _ => ⟨rfl, es256, (by decide : 3 + 0 ≤ _), (by decide : 10 + 0 ≤ _)⟩)
            dsimp only [Pt.U, Pt.locs, Pt.cells, Pt.slots] at X257 l257 y257 z257 st257 hQ257
            subst l257 y257 z257
            obtain ⟨r_257, rfl, Nq257, e257, p257_0, p257_1⟩ := hQ257
            refine Go.st st257 ?_
            have N257 := Fr.app Ns256 Nq257
            show Go p e below _ (T257.setTop (mkF m 241 #[.val (.int p1), .val (.int p2), .val (.int p3), .val (.int p4), .val (.int p5), .val (.int (2 : Int32)), .val (.int c0), .val (.int c1), .val (.int c2), .val (.int c3), .val (.ref os), .val (.int ee)] [(.int r_257)]))
            refine g_iload X257 hx (hb hby at_241) 243 rfl (v := ee) rfl ?_
            refine g_icmp_ne X257 hx (hb hby at_243) 250 246 (by decide) (by decide) rfl (fun hc243 => False.elim (hc243 (own_bb p257_0 he0 p257_1 he1))) (fun hc243 => ?_)
            refine g_iconst X257 hx (hb hby at_246) 247 rfl (1 : Int32) rfl ?_
            refine g_goto X257 hx (hb hby at_247) 251 (by decide) (by decide) ?_
            refine Go.retNS X257 hx hlk (t := .boolean) Bd.returns (by simp) (hb hby at_251) (by decide) (by decide) Ss256 (by rw [e257]; exact kk256) (own_EW hw) hZ (by rw [hh, e257]; exact Rs256) ?_
            exact ⟨rfl, N257⟩
          refine g_iload X253 hx (hb hby at_168) 170 rfl (v := (2 : Int32)) rfl ?_
          refine g_if_le X253 hx (hb hby at_170) 233 173 (by decide) (by decide) rfl (fun hc170 => False.elim (absurd (by decide) hc170)) (fun hc170 => ?_)
          refine g_iload X253 hx (hb hby at_173) 175 rfl (v := (2 : Int32)) rfl ?_
          refine g_iconst X253 hx (hb hby at_175) 176 rfl (1 : Int32) rfl ?_
          refine g_icmp_lt X253 hx (hb hby at_176) 187 179 (by decide) (by decide) rfl (fun hc176 => False.elim (absurd hc176 (by decide))) (fun hc176 => ?_)
          refine g_iload X253 hx (hb hby at_179) 181 rfl (v := c0) rfl ?_
          obtain ⟨_, _, ⟨T258, L258, k258, n258⟩, -, X258, ⟨Lc258, hQ258, l258, y258, z258⟩, st258⟩ := Jvm.LawKit.callS X253 hx (y := (⟨"com/example/varigraph/varigraph/generate/OperationCanNamePinLaw", "ok", "(C)Z"⟩ : MethodName)) hown (mvT hZ (hw _ (List.mem_of_getElem? (i := 47) rfl))) (mvT hZ (hw _ (List.mem_of_getElem? (i := 48) rfl))) (mvT hZ (hw _ (List.mem_of_getElem? (i := 3) rfl))) (mvT hZ (hw _ (List.mem_of_getElem? (i := 49) rfl))) (by decide) (backOf (W := 0) (rmok l Z a0 hw [] c0 T253.heap n0 Zs253 ) hZ (hw _ (List.mem_of_getElem? (i := 49) rfl)) (hw _ (List.mem_of_getElem? (i := 3) rfl)) (by decide) (by decide)) (g := (mkF m 181 #[.val (.int p1), .val (.int p2), .val (.int p3), .val (.int p4), .val (.int p5), .val (.int (2 : Int32)), .val (.int c0), .val (.int c1), .val (.int c2), .val (.int c3), .val (.ref os), .unset] [(.int c0)])) rfl (by rw [hml]; rfl) (argsL := [(.int c0)]) (rest := []) (lenOf own_pd1 rfl) rfl (by show 2 * 0 + _ ≤ _; exact Nat.le_of_eq rfl) (hb hby at_181) (fun _ _ => ⟨rfl, rfl, (by decide : 3 + 0 ≤ _), (by decide : 10 + 0 ≤ _)⟩)
          dsimp only [Pt.U, Pt.locs, Pt.cells, Pt.slots] at X258 l258 y258 z258 st258 hQ258
          subst l258 y258 z258
          obtain ⟨r_258, rfl, Nq258, e258, p258_0, p258_1⟩ := hQ258
          refine Go.st st258 ?_
          have N258 := Fr.app N253 Nq258
          show Go p e below _ (T258.setTop (mkF m 184 #[.val (.int p1), .val (.int p2), .val (.int p3), .val (.int p4), .val (.int p5), .val (.int (2 : Int32)), .val (.int c0), .val (.int c1), .val (.int c2), .val (.int c3), .val (.ref os), .unset] [(.int r_258)]))
          refine g_if_eq X258 hx (hb hby at_184) 233 187 (by decide) (by decide) rfl (fun hc184 => ?_) (fun hc184 => ?_)
          · refine g_iconst X258 hx (hb hby at_233) 234 rfl (0 : Int32) rfl ?_
            exact tl (0 : Int32) (own_mono X258 (by decide) (by decide)) e258 N258 K253 Zs253 hS0 hk254 hZ hown R254 f253_1 f253_2 f253_3 f253_4 (Or.inl rfl) (⟨fun q => absurd q (by decide), fun q => absurd (hc184.symm.trans (p258_1.mpr (q c0 (by simp)))) (by decide)⟩)
          · refine g_iload X258 hx (hb hby at_187) 189 rfl (v := (2 : Int32)) rfl ?_
            refine g_iconst X258 hx (hb hby at_189) 190 rfl (2 : Int32) rfl ?_
            refine g_icmp_lt X258 hx (hb hby at_190) 201 193 (by decide) (by decide) rfl (fun hc190 => False.elim (absurd hc190 (by decide))) (fun hc190 => ?_)
            refine g_iload X258 hx (hb hby at_193) 195 rfl (v := c1) rfl ?_
            obtain ⟨_, _, ⟨T259, L259, k259, n259⟩, -, X259, ⟨Lc259, hQ259, l259, y259, z259⟩, st259⟩ := Jvm.LawKit.callS X258 hx (y := (⟨"com/example/varigraph/varigraph/generate/OperationCanNamePinLaw", "ok", "(C)Z"⟩ : MethodName)) hown (mvT hZ (hw _ (List.mem_of_getElem? (i := 47) rfl))) (mvT hZ (hw _ (List.mem_of_getElem? (i := 48) rfl))) (mvT hZ (hw _ (List.mem_of_getElem? (i := 3) rfl))) (mvT hZ (hw _ (List.mem_of_getElem? (i := 49) rfl))) (by decide) (backOf (W := 0) (rmok l Z a0 hw [] c1 T253.heap n0 Zs253 ) hZ (hw _ (List.mem_of_getElem? (i := 49) rfl)) (hw _ (List.mem_of_getElem? (i := 3) rfl)) (by decide) (by decide)) (g := (mkF m 195 #[.val (.int p1), .val (.int p2), .val (.int p3), .val (.int p4), .val (.int p5), .val (.int (2 : Int32)), .val (.int c0), .val (.int c1), .val (.int c2), .val (.int c3), .val (.ref os), .unset] [(.int c1)])) rfl (by rw [hml]; rfl) (argsL := [(.int c1)]) (rest := []) (lenOf own_pd1 rfl) rfl (by show 2 * 0 + _ ≤ _; exact Nat.le_of_eq rfl) (hb hby at_195) (fun _ _ => ⟨rfl, e258, (by decide : 3 + 0 ≤ _), (by decide : 10 + 0 ≤ _)⟩)
            dsimp only [Pt.U, Pt.locs, Pt.cells, Pt.slots] at X259 l259 y259 z259 st259 hQ259
            subst l259 y259 z259
            obtain ⟨r_259, rfl, Nq259, e259, p259_0, p259_1⟩ := hQ259
            refine Go.st st259 ?_
            have N259 := Fr.app N258 Nq259
            show Go p e below _ (T259.setTop (mkF m 198 #[.val (.int p1), .val (.int p2), .val (.int p3), .val (.int p4), .val (.int p5), .val (.int (2 : Int32)), .val (.int c0), .val (.int c1), .val (.int c2), .val (.int c3), .val (.ref os), .unset] [(.int r_259)]))
            refine g_if_eq X259 hx (hb hby at_198) 233 201 (by decide) (by decide) rfl (fun hc198 => ?_) (fun hc198 => ?_)
            · refine g_iconst X259 hx (hb hby at_233) 234 rfl (0 : Int32) rfl ?_
              exact tl (0 : Int32) (own_mono X259 (by decide) (by decide)) e259 N259 K253 Zs253 hS0 hk254 hZ hown R254 f253_1 f253_2 f253_3 f253_4 (Or.inl rfl) (⟨fun q => absurd q (by decide), fun q => absurd (hc198.symm.trans (p259_1.mpr (q c1 (by simp)))) (by decide)⟩)
            · refine g_iload X259 hx (hb hby at_201) 203 rfl (v := (2 : Int32)) rfl ?_
              refine g_iconst X259 hx (hb hby at_203) 204 rfl (3 : Int32) rfl ?_
              refine g_icmp_lt X259 hx (hb hby at_204) 215 207 (by decide) (by decide) rfl (fun hc204 => ?_) (fun hc204 => False.elim (hc204 (by decide)))
              refine g_iload X259 hx (hb hby at_215) 217 rfl (v := (2 : Int32)) rfl ?_
              refine g_iconst X259 hx (hb hby at_217) 218 rfl (4 : Int32) rfl ?_
              refine g_icmp_lt X259 hx (hb hby at_218) 229 221 (by decide) (by decide) rfl (fun hc218 => ?_) (fun hc218 => False.elim (hc218 (by decide)))
              refine g_iconst X259 hx (hb hby at_229) 230 rfl (1 : Int32) rfl ?_
              refine g_goto X259 hx (hb hby at_230) 234 (by decide) (by decide) ?_
              exact tl (1 : Int32) (own_mono X259 (by decide) (by decide)) e259 N259 K253 Zs253 hS0 hk254 hZ hown R254 f253_1 f253_2 f253_3 f253_4 (Or.inr rfl) (⟨fun _ => List.forall_mem_cons.mpr ⟨p258_1.mp (p258_0.resolve_left hc184), List.forall_mem_cons.mpr ⟨p259_1.mp (p259_0.resolve_left hc198), fun _ q => nomatch q⟩⟩, fun _ => rfl⟩)
        · obtain ⟨_, _, ⟨T260, L260, k260, n260⟩, -, X260, ⟨Lc260, hQ260, l260, y260, z260⟩, st260⟩ := X250.specialBack hx (y := (⟨"java/lang/String", "<init>", "([C)V"⟩ : MethodName)) rfl hown (mvT hZ (hw _ (List.mem_of_getElem? (i := 9) rfl))) (mvT hZ (hw _ (List.mem_of_getElem? (i := 10) rfl))) (mvT hZ (hw _ (List.mem_of_getElem? (i := 11) rfl))) (by decide) (backOf (W := 1) (rmsCU l Z a0 hw [] os oc s_COMPACT_STRINGS cA244 ([c0, c1]) h250 n0 Zs250 (own_Sta_keep S_COMPACT_STRINGS K250 all0) (own_Sta_keep S_assertionsDisabled K250 all0) (own_Sta_keep S_HI_BYTE_SHIFT K250 all0) (own_Sta_keep S_LO_BYTE_SHIFT K250 all0) E_os_252 g_os F_value_os_252 F_coder_os_252 Avc ne_os_oc hz_s_COMPACT_STRINGS (by simp) (by simp) hCa qf) hZ (hw _ (List.mem_of_getElem? (i := 11) rfl)) (hw _ (List.mem_of_getElem? (i := 7) rfl)) (by decide) (by decide)) (g := (mkF m 92 #[.val (.int p1), .val (.int p2), .val (.int p3), .val (.int p4), .val (.int p5), .val (.int (2 : Int32)), .val (.int c0), .val (.int c1), .val (.int c2), .val (.int c3), .unset, .unset] [(.ref oc), (.ref os), (.ref os)])) rfl (by rw [hml]; rfl) (Steps.refl _) (a := os) (argsL := [(.ref oc)]) (rest := [(.ref os)]) (lenOf own_pd22 rfl) rfl (by show 2 * 0 + _ ≤ _; exact Nat.le_of_eq rfl) (hb hby at_92) (fun _ _ => ⟨rfl, e250, (by decide : 2 + 2 ≤ _), (by decide : 6 + 12 ≤ _)⟩)
          dsimp only [Pt.U, Pt.locs, Pt.cells, Pt.slots] at X260 l260 y260 z260 st260 hQ260
          subst l260 y260 z260
          obtain ⟨vb_260, kb_260, rfl, Nq260, Kq260, f260_0, f260_1, f260_2, f260_3, f260_4⟩ := hQ260
          refine Go.tr st260 ?_
          have N260 := Fr.app N250 Nq260
          have Sf_vb_260 : Safe Z own_EL s.vm h250 vb_260 := Safe.new f260_0
          have Sf_os_261 : Safe Z own_EL s.vm T260.heap os := Safe.keep Kq260 (allS Sf_os_251 all0) R251.1 Sf_os_251
          have Sf_oc_261 : Safe Z own_EL s.vm T260.heap oc := Safe.keep Kq260 (allS Sf_os_251 all0) R251.1 Sf_oc_251
          have Sf_vb_260_261 : Safe Z own_EL s.vm T260.heap vb_260 := Safe.keep Kq260 (allS Sf_os_251 all0) R251.1 Sf_vb_260
          have R261 : CHr Z own_EL s.vm h0 s.vm T260.heap := CHr.trans R251 (CHr.keep Kq260 (allS Sf_os_251 all0) R251.1)
          have hk261 : _ ≤ T260.heap.size := Nat.le_trans hk251 (Kq260.1)
          have E_os_262 : Exa Z T260.heap os "java/lang/String" := Exa.keep E_os_252 Kq260
          have A_oc_262 : Arv Z T260.heap oc cA244 .char (Int32.ofNat [c0, c1].length) ([c0, c1].map Value.int) (.int (0 : Int32)) := Arv.keep Avc Kq260 (ninS (Ne.symm ne_os_oc) nin0)
          have ne_os_vb_260 : os ≠ vb_260 := Nat.ne_of_lt (Nat.lt_of_lt_of_le E_os_252.lt f260_0)
          have ne_oc_vb_260 : oc ≠ vb_260 := Nat.ne_of_lt (Nat.lt_of_lt_of_le Avc.lt f260_0)
          have g_vb_260 : n0 ≤ vb_260 := Nat.le_trans Zs250 f260_0
          have mh_vb_260 : h0.size ≤ vb_260 := Nat.le_trans K250.1 f260_0
          have K260 : Keep h0 T260.heap [] := Keep.trans K250 Kq260 (allS (Or.inr mh_os) all0)
          have Zs260 : n0 ≤ T260.heap.size := Nat.le_trans Zs250 Kq260.1
          show Go p e below _ (T260.setTop (mkF m 95 #[.val (.int p1), .val (.int p2), .val (.int p3), .val (.int p4), .val (.int p5), .val (.int (2 : Int32)), .val (.int c0), .val (.int c1), .val (.int c2), .val (.int c3), .unset, .unset] [(.ref os)]))
          refine g_astore X260 hx (hb hby at_95) 97 rfl rfl #[.val (.int p1), .val (.int p2), .val (.int p3), .val (.int p4), .val (.int p5), .val (.int (2 : Int32)), .val (.int c0), .val (.int c1), .val (.int c2), .val (.int c3), .val (.ref os), .unset] rfl ?_
          refine g_goto X260 hx (hb hby at_97) 168 (by decide) (by decide) ?_
          have tl : ∀ (ee : Int32) {Ts263 : State} {lc263 : List Loc} {hs263 : Heap} {vs263 : Vm} {ks263 : Nat} (Xs263 : Stand p l e room_1 (s.setVm vs263) m #[(.int p1), (.int p2), (.int p3), (.int p4), (.int p5)] below meth c Ts263 lc263 4 18) (es263 : Ts263.heap = hs263) (Ns263 : Fr n0 lc263) (Ks263 : Keep h0 hs263 []) (Zs263 : n0 ≤ hs263.size) (Ss263 : s.Since vs263 ks263) (kk263 : ks263 ≤ hs263.size) (_ : Z.Warmed39 (s.setVm vs263).vm) (_ : (s.setVm vs263).vm.findClass "com/example/varigraph/varigraph/generate/OperationCanNamePinLaw" = some m.cls) (Rs263 : CHr Z own_EL s.vm h0 vs263 hs263) (Exa_s263_0 : Exa Z hs263 os "java/lang/String") (Fld_s263_1 : Fld Z hs263 os "java/lang/String" "value" "[B" (.ref vb_260)) (Fld_s263_2 : Fld Z hs263 os "java/lang/String" "coder" "B" (.int (1 : Int32))) (Arv_s263_3 : Arv Z hs263 vb_260 kb_260 .byte (Int32.ofNat (2 * ([c0, c1]).length)) (own_ub ([c0, c1])) (.int (0 : Int32))) (he0 : ee = 0 ∨ ee = 1) (he1 : ee = 1 ↔ (∀ x ∈ [c0, c1], own_ok x)), Go p e below (KS s below Z own_EL (Q0 Z p1 p2 p3 p4 p5 s_COMPACT_STRINGS s_SIOOBE_FORMATTER h0 n0) 24 1152) (Ts263.setTop (mkF m 234 #[.val (.int p1), .val (.int p2), .val (.int p3), .val (.int p4), .val (.int p5), .val (.int (2 : Int32)), .val (.int c0), .val (.int c1), .val (.int c2), .val (.int c3), .val (.ref os), .unset] [(.int ee)])) := by
            intro ee Ts263 lc263 hs263 vs263 ks263 Xs263 es263 Ns263 Ks263 Zs263 Ss263 kk263 hZ hown Rs263 Exa_s263_0 Fld_s263_1 Fld_s263_2 Arv_s263_3 he0 he1
            refine g_istore Xs263 hx (hb hby at_234) 236 rfl #[.val (.int p1), .val (.int p2), .val (.int p3), .val (.int p4), .val (.int p5), .val (.int (2 : Int32)), .val (.int c0), .val (.int c1), .val (.int c2), .val (.int c3), .val (.ref os), .val (.int ee)] rfl ?_
            refine g_aload Xs263 hx (hb hby at_236) 238 rfl (v := (.ref os)) rfl rfl ?_
            obtain ⟨_, _, ⟨T264, L264, k264, n264⟩, -, X264, ⟨Lc264, hQ264, l264, y264, z264⟩, st264⟩ := Jvm.LawKit.callS Xs263 hx (y := (⟨"com/example/varigraph/varigraph/generate/Operation", "canName", "(Ljava/lang/String;)Z"⟩ : MethodName)) hown (mvT hZ (hw _ (List.mem_of_getElem? (i := 27) rfl))) (mvT hZ (hw _ (List.mem_of_getElem? (i := 28) rfl))) (mvT hZ (hw _ (List.mem_of_getElem? (i := 29) rfl))) (mvT hZ (hw _ (List.mem_of_getElem? (i := 30) rfl))) (by decide) (backOf (W := 0) (rmcanU l Z a0 hw [] os s_COMPACT_STRINGS s_SIOOBE_FORMATTER vb_260 kb_260 ([c0, c1]) hs263 n0 Zs263 (own_Sta_keep S_COMPACT_STRINGS Ks263 all0) (own_Sta_keep S_assertionsDisabled Ks263 all0) (own_Sta_keep S_HI_BYTE_SHIFT Ks263 all0) (own_Sta_keep S_LO_BYTE_SHIFT Ks263 all0) (own_Sta_keep S_SIOOBE_FORMATTER Ks263 all0) Exa_s263_0 Fld_s263_1 Fld_s263_2 Arv_s263_3 hz_s_COMPACT_STRINGS hR_s_SIOOBE_FORMATTER (by simp) (by simp) hCa) hZ (hw _ (List.mem_of_getElem? (i := 30) rfl)) (hw _ (List.mem_of_getElem? (i := 29) rfl)) (by decide) (by decide)) (g := (mkF m 238 #[.val (.int p1), .val (.int p2), .val (.int p3), .val (.int p4), .val (.int p5), .val (.int (2 : Int32)), .val (.int c0), .val (.int c1), .val (.int c2), .val (.int c3), .val (.ref os), .val (.int ee)] [(.ref os)])) rfl (by rw [hml]; rfl) (argsL := [(.ref os)]) (rest := []) (lenOf own_pd23 rfl) rfl (by show 2 * 0 + _ ≤ _; exact Nat.le_of_eq rfl) (hb hby at_238) (fun _ _ => ⟨rfl, es263, (by decide : 4 + 0 ≤ _), (by decide : 18 + 0 ≤ _)⟩)
            dsimp only [Pt.U, Pt.locs, Pt.cells, Pt.slots] at X264 l264 y264 z264 st264 hQ264
            subst l264 y264 z264
            obtain ⟨r_264, rfl, Nq264, e264, p264_0, p264_1⟩ := hQ264
            refine Go.st st264 ?_
            have N264 := Fr.app Ns263 Nq264
            show Go p e below _ (T264.setTop (mkF m 241 #[.val (.int p1), .val (.int p2), .val (.int p3), .val (.int p4), .val (.int p5), .val (.int (2 : Int32)), .val (.int c0), .val (.int c1), .val (.int c2), .val (.int c3), .val (.ref os), .val (.int ee)] [(.int r_264)]))
            refine g_iload X264 hx (hb hby at_241) 243 rfl (v := ee) rfl ?_
            refine g_icmp_ne X264 hx (hb hby at_243) 250 246 (by decide) (by decide) rfl (fun hc243 => False.elim (hc243 (own_bb p264_0 he0 p264_1 he1))) (fun hc243 => ?_)
            refine g_iconst X264 hx (hb hby at_246) 247 rfl (1 : Int32) rfl ?_
            refine g_goto X264 hx (hb hby at_247) 251 (by decide) (by decide) ?_
            refine Go.retNS X264 hx hlk (t := .boolean) Bd.returns (by simp) (hb hby at_251) (by decide) (by decide) Ss263 (by rw [e264]; exact kk263) (own_EW hw) hZ (by rw [hh, e264]; exact Rs263) ?_
            exact ⟨rfl, N264⟩
          refine g_iload X260 hx (hb hby at_168) 170 rfl (v := (2 : Int32)) rfl ?_
          refine g_if_le X260 hx (hb hby at_170) 233 173 (by decide) (by decide) rfl (fun hc170 => False.elim (absurd (by decide) hc170)) (fun hc170 => ?_)
          refine g_iload X260 hx (hb hby at_173) 175 rfl (v := (2 : Int32)) rfl ?_
          refine g_iconst X260 hx (hb hby at_175) 176 rfl (1 : Int32) rfl ?_
          refine g_icmp_lt X260 hx (hb hby at_176) 187 179 (by decide) (by decide) rfl (fun hc176 => False.elim (absurd hc176 (by decide))) (fun hc176 => ?_)
          refine g_iload X260 hx (hb hby at_179) 181 rfl (v := c0) rfl ?_
          obtain ⟨_, _, ⟨T265, L265, k265, n265⟩, -, X265, ⟨Lc265, hQ265, l265, y265, z265⟩, st265⟩ := Jvm.LawKit.callS X260 hx (y := (⟨"com/example/varigraph/varigraph/generate/OperationCanNamePinLaw", "ok", "(C)Z"⟩ : MethodName)) hown (mvT hZ (hw _ (List.mem_of_getElem? (i := 47) rfl))) (mvT hZ (hw _ (List.mem_of_getElem? (i := 48) rfl))) (mvT hZ (hw _ (List.mem_of_getElem? (i := 3) rfl))) (mvT hZ (hw _ (List.mem_of_getElem? (i := 49) rfl))) (by decide) (backOf (W := 0) (rmok l Z a0 hw [] c0 T260.heap n0 Zs260 ) hZ (hw _ (List.mem_of_getElem? (i := 49) rfl)) (hw _ (List.mem_of_getElem? (i := 3) rfl)) (by decide) (by decide)) (g := (mkF m 181 #[.val (.int p1), .val (.int p2), .val (.int p3), .val (.int p4), .val (.int p5), .val (.int (2 : Int32)), .val (.int c0), .val (.int c1), .val (.int c2), .val (.int c3), .val (.ref os), .unset] [(.int c0)])) rfl (by rw [hml]; rfl) (argsL := [(.int c0)]) (rest := []) (lenOf own_pd1 rfl) rfl (by show 2 * 0 + _ ≤ _; exact Nat.le_of_eq rfl) (hb hby at_181) (fun _ _ => ⟨rfl, rfl, (by decide : 4 + 0 ≤ _), (by decide : 18 + 0 ≤ _)⟩)
          dsimp only [Pt.U, Pt.locs, Pt.cells, Pt.slots] at X265 l265 y265 z265 st265 hQ265
          subst l265 y265 z265
          obtain ⟨r_265, rfl, Nq265, e265, p265_0, p265_1⟩ := hQ265
          refine Go.st st265 ?_
          have N265 := Fr.app N260 Nq265
          show Go p e below _ (T265.setTop (mkF m 184 #[.val (.int p1), .val (.int p2), .val (.int p3), .val (.int p4), .val (.int p5), .val (.int (2 : Int32)), .val (.int c0), .val (.int c1), .val (.int c2), .val (.int c3), .val (.ref os), .unset] [(.int r_265)]))
          refine g_if_eq X265 hx (hb hby at_184) 233 187 (by decide) (by decide) rfl (fun hc184 => ?_) (fun hc184 => ?_)
          · refine g_iconst X265 hx (hb hby at_233) 234 rfl (0 : Int32) rfl ?_
            exact tl (0 : Int32) (own_mono X265 (by decide) (by decide)) e265 N265 K260 Zs260 hS0 hk261 hZ hown R261 f260_1 f260_2 f260_3 f260_4 (Or.inl rfl) (⟨fun q => absurd q (by decide), fun q => absurd (hc184.symm.trans (p265_1.mpr (q c0 (by simp)))) (by decide)⟩)
          · refine g_iload X265 hx (hb hby at_187) 189 rfl (v := (2 : Int32)) rfl ?_
            refine g_iconst X265 hx (hb hby at_189) 190 rfl (2 : Int32) rfl ?_
            refine g_icmp_lt X265 hx (hb hby at_190) 201 193 (by decide) (by decide) rfl (fun hc190 => False.elim (absurd hc190 (by decide))) (fun hc190 => ?_)
            refine g_iload X265 hx (hb hby at_193) 195 rfl (v := c1) rfl ?_
            obtain ⟨_, _, ⟨T266, L266, k266, n266⟩, -, X266, ⟨Lc266, hQ266, l266, y266, z266⟩, st266⟩ := Jvm.LawKit.callS X265 hx (y := (⟨"com/example/varigraph/varigraph/generate/OperationCanNamePinLaw", "ok", "(C)Z"⟩ : MethodName)) hown (mvT hZ (hw _ (List.mem_of_getElem? (i := 47) rfl))) (mvT hZ (hw _ (List.mem_of_getElem? (i := 48) rfl))) (mvT hZ (hw _ (List.mem_of_getElem? (i := 3) rfl))) (mvT hZ (hw _ (List.mem_of_getElem? (i := 49) rfl))) (by decide) (backOf (W := 0) (rmok l Z a0 hw [] c1 T260.heap n0 Zs260 ) hZ (hw _ (List.mem_of_getElem? (i := 49) rfl)) (hw _ (List.mem_of_getElem? (i := 3) rfl)) (by decide) (by decide)) (g := (mkF m 195 #[.val (.int p1), .val (.int p2), .val (.int p3), .val (.int p4), .val (.int p5), .val (.int (2 : Int32)), .val (.int c0), .val (.int c1), .val (.int c2), .val (.int c3), .val (.ref os), .unset] [(.int c1)])) rfl (by rw [hml]; rfl) (argsL := [(.int c1)]) (rest := []) (lenOf own_pd1 rfl) rfl (by show 2 * 0 + _ ≤ _; exact Nat.le_of_eq rfl) (hb hby at_195) (fun _ _ => ⟨rfl, e265, (by decide : 4 + 0 ≤ _), (by decide : 18 + 0 ≤ _)⟩)
            dsimp only [Pt.U, Pt.locs, Pt.cells, Pt.slots] at X266 l266 y266 z266 st266 hQ266
            subst l266 y266 z266
            obtain ⟨r_266, rfl, Nq266, e266, p266_0, p266_1⟩ := hQ266
            refine Go.st st266 ?_
            have N266 := Fr.app N265 Nq266
            show Go p e below _ (T266.setTop (mkF m 198 #[.val (.int p1), .val (.int p2), .val (.int p3), .val (.int p4), .val (.int p5), .val (.int (2 : Int32)), .val (.int c0), .val (.int c1), .val (.int c2), .val (.int c3), .val (.ref os), .unset] [(.int r_266)]))
            refine g_if_eq X266 hx (hb hby at_198) 233 201 (by decide) (by decide) rfl (fun hc198 => ?_) (fun hc198 => ?_)
            · refine g_iconst X266 hx (hb hby at_233) 234 rfl (0 : Int32) rfl ?_
              exact tl (0 : Int32) (own_mono X266 (by decide) (by decide)) e266 N266 K260 Zs260 hS0 hk261 hZ hown R261 f260_1 f260_2 f260_3 f260_4 (Or.inl rfl) (⟨fun q => absurd q (by decide), fun q => absurd (hc198.symm.trans (p266_1.mpr (q c1 (by simp)))) (by decide)⟩)
            · refine g_iload X266 hx (hb hby at_201) 203 rfl (v := (2 : Int32)) rfl ?_
              refine g_iconst X266 hx (hb hby at_203) 204 rfl (3 : Int32) rfl ?_
              refine g_icmp_lt X266 hx (hb hby at_204) 215 207 (by decide) (by decide) rfl (fun hc204 => ?_) (fun hc204 => False.elim (hc204 (by decide)))
              refine g_iload X266 hx (hb hby at_215) 217 rfl (v := (2 : Int32)) rfl ?_
              refine g_iconst X266 hx (hb hby at_217) 218 rfl (4 : Int32) rfl ?_
              refine g_icmp_lt X266 hx (hb hby at_218) 229 221 (by decide) (by decide) rfl (fun hc218 => ?_) (fun hc218 => False.elim (hc218 (by decide)))
              refine g_iconst X266 hx (hb hby at_229) 230 rfl (1 : Int32) rfl ?_
              refine g_goto X266 hx (hb hby at_230) 234 (by decide) (by decide) ?_
              exact tl (1 : Int32) (own_mono X266 (by decide) (by decide)) e266 N266 K260 Zs260 hS0 hk261 hZ hown R261 f260_1 f260_2 f260_3 f260_4 (Or.inr rfl) (⟨fun _ => List.forall_mem_cons.mpr ⟨p265_1.mp (p265_0.resolve_left hc184), List.forall_mem_cons.mpr ⟨p266_1.mp (p266_0.resolve_left hc198), fun _ q => nomatch q⟩⟩, fun _ => rfl⟩)
    · subst hc56
      have hCa : ∀ x ∈ [c0], own_C x := List.forall_mem_cons.mpr ⟨p170_0, fun _ q => nomatch q⟩
      refine g_iload X173 hx (hb hby at_59) 61 rfl (v := c0) rfl ?_
      by_cases qf : (255 : Int32) < c0
      · obtain ⟨_, _, ⟨T267, L267, k267, n267⟩, -, X267, ⟨Lc267, hQ267, l267, y267, z267⟩, st267⟩ := Jvm.LawKit.callS X173 hx (y := (⟨"java/lang/String", "valueOf", "(C)Ljava/lang/String;"⟩ : MethodName)) hown (mvT hZ (hw _ (List.mem_of_getElem? (i := 138) rfl))) (mvT hZ (hw _ (List.mem_of_getElem? (i := 139) rfl))) (mvT hZ (hw _ (List.mem_of_getElem? (i := 7) rfl))) (mvT hZ (hw _ (List.mem_of_getElem? (i := 140) rfl))) (by decide) (backOf (W := 0) (rmvofU l Z a0 hw [] c0 s_COMPACT_STRINGS h0 n0 Z0 S_COMPACT_STRINGS S_assertionsDisabled S_HI_BYTE_SHIFT S_LO_BYTE_SHIFT hz_s_COMPACT_STRINGS qf) hZ (hw _ (List.mem_of_getElem? (i := 140) rfl)) (hw _ (List.mem_of_getElem? (i := 7) rfl)) (by decide) (by decide)) (g := (mkF m 61 #[.val (.int p1), .val (.int p2), .val (.int p3), .val (.int p4), .val (.int p5), .val (.int (1 : Int32)), .val (.int c0), .val (.int c1), .val (.int c2), .val (.int c3), .unset, .unset] [(.int c0)])) rfl (by rw [hml]; rfl) (argsL := [(.int c0)]) (rest := []) (lenOf own_pd24 rfl) rfl (by show 2 * 0 + _ ≤ _; exact Nat.le_of_eq rfl) (hb hby at_61) (fun _ _ => ⟨rfl, e173, (by decide : 0 + 2 ≤ _), (by decide : 0 + 6 ≤ _)⟩)
        dsimp only [Pt.U, Pt.locs, Pt.cells, Pt.slots] at X267 l267 y267 z267 st267 hQ267
        subst l267 y267 z267
        obtain ⟨b_267, vb_267, kb_267, rfl, Nq267, Kq267, f267_0, f267_1, f267_2, f267_3, f267_4, f267_5, f267_6⟩ := hQ267
        refine Go.st st267 ?_
        have N267 := Fr.app N173 Nq267
        have Sf_b_267 : Safe Z own_EL s.vm h0 b_267 := Safe.new f267_0
        have Sf_vb_267 : Safe Z own_EL s.vm h0 vb_267 := Safe.new f267_1
        have Sf_b_267_268 : Safe Z own_EL s.vm T267.heap b_267 := Safe.keep Kq267 all0 R0.1 Sf_b_267
        have Sf_vb_267_268 : Safe Z own_EL s.vm T267.heap vb_267 := Safe.keep Kq267 all0 R0.1 Sf_vb_267
        have R268 : CHr Z own_EL s.vm h0 s.vm T267.heap := CHr.trans R0 (CHr.keep Kq267 all0 R0.1)
        have hk268 : _ ≤ T267.heap.size := Nat.le_trans (Nat.zero_le _) (Kq267.1)
        have g_b_267 : n0 ≤ b_267 := Nat.le_trans Z0 f267_0
        have mh_b_267 : h0.size ≤ b_267 := Nat.le_trans K0.1 f267_0
        have g_vb_267 : n0 ≤ vb_267 := Nat.le_trans Z0 f267_1
        have mh_vb_267 : h0.size ≤ vb_267 := Nat.le_trans K0.1 f267_1
        have K267 : Keep h0 T267.heap [] := Keep.trans K0 Kq267 all0
        have Zs267 : n0 ≤ T267.heap.size := Nat.le_trans Z0 Kq267.1
        show Go p e below _ (T267.setTop (mkF m 64 #[.val (.int p1), .val (.int p2), .val (.int p3), .val (.int p4), .val (.int p5), .val (.int (1 : Int32)), .val (.int c0), .val (.int c1), .val (.int c2), .val (.int c3), .unset, .unset] [(.ref b_267)]))
        refine g_astore X267 hx (hb hby at_64) 66 rfl rfl #[.val (.int p1), .val (.int p2), .val (.int p3), .val (.int p4), .val (.int p5), .val (.int (1 : Int32)), .val (.int c0), .val (.int c1), .val (.int c2), .val (.int c3), .val (.ref b_267), .unset] rfl ?_
        refine g_goto X267 hx (hb hby at_66) 168 (by decide) (by decide) ?_
        have tl : ∀ (ee : Int32) {Ts270 : State} {lc270 : List Loc} {hs270 : Heap} {vs270 : Vm} {ks270 : Nat} (Xs270 : Stand p l e room_1 (s.setVm vs270) m #[(.int p1), (.int p2), (.int p3), (.int p4), (.int p5)] below meth c Ts270 lc270 2 6) (es270 : Ts270.heap = hs270) (Ns270 : Fr n0 lc270) (Ks270 : Keep h0 hs270 []) (Zs270 : n0 ≤ hs270.size) (Ss270 : s.Since vs270 ks270) (kk270 : ks270 ≤ hs270.size) (_ : Z.Warmed39 (s.setVm vs270).vm) (_ : (s.setVm vs270).vm.findClass "com/example/varigraph/varigraph/generate/OperationCanNamePinLaw" = some m.cls) (Rs270 : CHr Z own_EL s.vm h0 vs270 hs270) (Exa_s270_0 : Exa Z hs270 b_267 "java/lang/String") (Fld_s270_1 : Fld Z hs270 b_267 "java/lang/String" "value" "[B" (.ref vb_267)) (Fld_s270_2 : Fld Z hs270 b_267 "java/lang/String" "coder" "B" (.int (1 : Int32))) (Arv_s270_3 : Arv Z hs270 vb_267 kb_267 .byte (Int32.ofNat (2 * [c0].length)) (own_ub [c0]) (.int (0 : Int32))) (he0 : ee = 0 ∨ ee = 1) (he1 : ee = 1 ↔ (∀ x ∈ [c0], own_ok x)), Go p e below (KS s below Z own_EL (Q0 Z p1 p2 p3 p4 p5 s_COMPACT_STRINGS s_SIOOBE_FORMATTER h0 n0) 24 1152) (Ts270.setTop (mkF m 234 #[.val (.int p1), .val (.int p2), .val (.int p3), .val (.int p4), .val (.int p5), .val (.int (1 : Int32)), .val (.int c0), .val (.int c1), .val (.int c2), .val (.int c3), .val (.ref b_267), .unset] [(.int ee)])) := by
          intro ee Ts270 lc270 hs270 vs270 ks270 Xs270 es270 Ns270 Ks270 Zs270 Ss270 kk270 hZ hown Rs270 Exa_s270_0 Fld_s270_1 Fld_s270_2 Arv_s270_3 he0 he1
          refine g_istore Xs270 hx (hb hby at_234) 236 rfl #[.val (.int p1), .val (.int p2), .val (.int p3), .val (.int p4), .val (.int p5), .val (.int (1 : Int32)), .val (.int c0), .val (.int c1), .val (.int c2), .val (.int c3), .val (.ref b_267), .val (.int ee)] rfl ?_
          refine g_aload Xs270 hx (hb hby at_236) 238 rfl (v := (.ref b_267)) rfl rfl ?_
          obtain ⟨_, _, ⟨T271, L271, k271, n271⟩, -, X271, ⟨Lc271, hQ271, l271, y271, z271⟩, st271⟩ := Jvm.LawKit.callS Xs270 hx (y := (⟨"com/example/varigraph/varigraph/generate/Operation", "canName", "(Ljava/lang/String;)Z"⟩ : MethodName)) hown (mvT hZ (hw _ (List.mem_of_getElem? (i := 27) rfl))) (mvT hZ (hw _ (List.mem_of_getElem? (i := 28) rfl))) (mvT hZ (hw _ (List.mem_of_getElem? (i := 29) rfl))) (mvT hZ (hw _ (List.mem_of_getElem? (i := 30) rfl))) (by decide) (backOf (W := 0) (rmcanU l Z a0 hw [] b_267 s_COMPACT_STRINGS s_SIOOBE_FORMATTER vb_267 kb_267 [c0] hs270 n0 Zs270 (own_Sta_keep S_COMPACT_STRINGS Ks270 all0) (own_Sta_keep S_assertionsDisabled Ks270 all0) (own_Sta_keep S_HI_BYTE_SHIFT Ks270 all0) (own_Sta_keep S_LO_BYTE_SHIFT Ks270 all0) (own_Sta_keep S_SIOOBE_FORMATTER Ks270 all0) Exa_s270_0 Fld_s270_1 Fld_s270_2 Arv_s270_3 hz_s_COMPACT_STRINGS hR_s_SIOOBE_FORMATTER (by simp) (by simp) hCa) hZ (hw _ (List.mem_of_getElem? (i := 30) rfl)) (hw _ (List.mem_of_getElem? (i := 29) rfl)) (by decide) (by decide)) (g := (mkF m 238 #[.val (.int p1), .val (.int p2), .val (.int p3), .val (.int p4), .val (.int p5), .val (.int (1 : Int32)), .val (.int c0), .val (.int c1), .val (.int c2), .val (.int c3), .val (.ref b_267), .val (.int ee)] [(.ref b_267)])) rfl (by rw [hml]; rfl) (argsL := [(.ref b_267)]) (rest := []) (lenOf own_pd23 rfl) rfl (by show 2 * 0 + _ ≤ _; exact Nat.le_of_eq rfl) (hb hby at_238) (fun _ _ => ⟨rfl, es270, (by decide : 2 + 0 ≤ _), (by decide : 6 + 0 ≤ _)⟩)
          dsimp only [Pt.U, Pt.locs, Pt.cells, Pt.slots] at X271 l271 y271 z271 st271 hQ271
          subst l271 y271 z271
          obtain ⟨r_271, rfl, Nq271, e271, p271_0, p271_1⟩ := hQ271
          refine Go.st st271 ?_
          have N271 := Fr.app Ns270 Nq271
          show Go p e below _ (T271.setTop (mkF m 241 #[.val (.int p1), .val (.int p2), .val (.int p3), .val (.int p4), .val (.int p5), .val (.int (1 : Int32)), .val (.int c0), .val (.int c1), .val (.int c2), .val (.int c3), .val (.ref b_267), .val (.int ee)] [(.int r_271)]))
          refine g_iload X271 hx (hb hby at_241) 243 rfl (v := ee) rfl ?_
          refine g_icmp_ne X271 hx (hb hby at_243) 250 246 (by decide) (by decide) rfl (fun hc243 => False.elim (hc243 (own_bb p271_0 he0 p271_1 he1))) (fun hc243 => ?_)
          refine g_iconst X271 hx (hb hby at_246) 247 rfl (1 : Int32) rfl ?_
          refine g_goto X271 hx (hb hby at_247) 251 (by decide) (by decide) ?_
          refine Go.retNS X271 hx hlk (t := .boolean) Bd.returns (by simp) (hb hby at_251) (by decide) (by decide) Ss270 (by rw [e271]; exact kk270) (own_EW hw) hZ (by rw [hh, e271]; exact Rs270) ?_
          exact ⟨rfl, N271⟩
        refine g_iload X267 hx (hb hby at_168) 170 rfl (v := (1 : Int32)) rfl ?_
        refine g_if_le X267 hx (hb hby at_170) 233 173 (by decide) (by decide) rfl (fun hc170 => False.elim (absurd (by decide) hc170)) (fun hc170 => ?_)
        refine g_iload X267 hx (hb hby at_173) 175 rfl (v := (1 : Int32)) rfl ?_
        refine g_iconst X267 hx (hb hby at_175) 176 rfl (1 : Int32) rfl ?_
        refine g_icmp_lt X267 hx (hb hby at_176) 187 179 (by decide) (by decide) rfl (fun hc176 => False.elim (absurd hc176 (by decide))) (fun hc176 => ?_)
        refine g_iload X267 hx (hb hby at_179) 181 rfl (v := c0) rfl ?_
        obtain ⟨_, _, ⟨T272, L272, k272, n272⟩, -, X272, ⟨Lc272, hQ272, l272, y272, z272⟩, st272⟩ := Jvm.LawKit.callS X267 hx (y := (⟨"com/example/varigraph/varigraph/generate/OperationCanNamePinLaw", "ok", "(C)Z"⟩ : MethodName)) hown (mvT hZ (hw _ (List.mem_of_getElem? (i := 47) rfl))) (mvT hZ (hw _ (List.mem_of_getElem? (i := 48) rfl))) (mvT hZ (hw _ (List.mem_of_getElem? (i := 3) rfl))) (mvT hZ (hw _ (List.mem_of_getElem? (i := 49) rfl))) (by decide) (backOf (W := 0) (rmok l Z a0 hw [] c0 T267.heap n0 Zs267 ) hZ (hw _ (List.mem_of_getElem? (i := 49) rfl)) (hw _ (List.mem_of_getElem? (i := 3) rfl)) (by decide) (by decide)) (g := (mkF m 181 #[.val (.int p1), .val (.int p2), .val (.int p3), .val (.int p4), .val (.int p5), .val (.int (1 : Int32)), .val (.int c0), .val (.int c1), .val (.int c2), .val (.int c3), .val (.ref b_267), .unset] [(.int c0)])) rfl (by rw [hml]; rfl) (argsL := [(.int c0)]) (rest := []) (lenOf own_pd1 rfl) rfl (by show 2 * 0 + _ ≤ _; exact Nat.le_of_eq rfl) (hb hby at_181) (fun _ _ => ⟨rfl, rfl, (by decide : 2 + 0 ≤ _), (by decide : 6 + 0 ≤ _)⟩)
        dsimp only [Pt.U, Pt.locs, Pt.cells, Pt.slots] at X272 l272 y272 z272 st272 hQ272
        subst l272 y272 z272
        obtain ⟨r_272, rfl, Nq272, e272, p272_0, p272_1⟩ := hQ272
        refine Go.st st272 ?_
        have N272 := Fr.app N267 Nq272
        show Go p e below _ (T272.setTop (mkF m 184 #[.val (.int p1), .val (.int p2), .val (.int p3), .val (.int p4), .val (.int p5), .val (.int (1 : Int32)), .val (.int c0), .val (.int c1), .val (.int c2), .val (.int c3), .val (.ref b_267), .unset] [(.int r_272)]))
        refine g_if_eq X272 hx (hb hby at_184) 233 187 (by decide) (by decide) rfl (fun hc184 => ?_) (fun hc184 => ?_)
        · refine g_iconst X272 hx (hb hby at_233) 234 rfl (0 : Int32) rfl ?_
          exact tl (0 : Int32) (own_mono X272 (by decide) (by decide)) e272 N272 K267 Zs267 hS0 hk268 hZ hown R268 f267_3 f267_4 f267_5 f267_6 (Or.inl rfl) (⟨fun q => absurd q (by decide), fun q => absurd (hc184.symm.trans (p272_1.mpr (q c0 (by simp)))) (by decide)⟩)
        · refine g_iload X272 hx (hb hby at_187) 189 rfl (v := (1 : Int32)) rfl ?_
          refine g_iconst X272 hx (hb hby at_189) 190 rfl (2 : Int32) rfl ?_
          refine g_icmp_lt X272 hx (hb hby at_190) 201 193 (by decide) (by decide) rfl (fun hc190 => ?_) (fun hc190 => False.elim (hc190 (by decide)))
          refine g_iload X272 hx (hb hby at_201) 203 rfl (v := (1 : Int32)) rfl ?_
          refine g_iconst X272 hx (hb hby at_203) 204 rfl (3 : Int32) rfl ?_
          refine g_icmp_lt X272 hx (hb hby at_204) 215 207 (by decide) (by decide) rfl (fun hc204 => ?_) (fun hc204 => False.elim (hc204 (by decide)))
          refine g_iload X272 hx (hb hby at_215) 217 rfl (v := (1 : Int32)) rfl ?_
          refine g_iconst X272 hx (hb hby at_217) 218 rfl (4 : Int32) rfl ?_
          refine g_icmp_lt X272 hx (hb hby at_218) 229 221 (by decide) (by decide) rfl (fun hc218 => ?_) (fun hc218 => False.elim (hc218 (by decide)))
          refine g_iconst X272 hx (hb hby at_229) 230 rfl (1 : Int32) rfl ?_
          refine g_goto X272 hx (hb hby at_230) 234 (by decide) (by decide) ?_
          exact tl (1 : Int32) (own_mono X272 (by decide) (by decide)) e272 N272 K267 Zs267 hS0 hk268 hZ hown R268 f267_3 f267_4 f267_5 f267_6 (Or.inr rfl) (⟨fun _ => List.forall_mem_cons.mpr ⟨p272_1.mp (p272_0.resolve_left hc184), fun _ q => nomatch q⟩, fun _ => rfl⟩)
      · obtain ⟨_, _, ⟨T273, L273, k273, n273⟩, -, X273, ⟨Lc273, hQ273, l273, y273, z273⟩, st273⟩ := Jvm.LawKit.callS X173 hx (y := (⟨"java/lang/String", "valueOf", "(C)Ljava/lang/String;"⟩ : MethodName)) hown (mvT hZ (hw _ (List.mem_of_getElem? (i := 138) rfl))) (mvT hZ (hw _ (List.mem_of_getElem? (i := 139) rfl))) (mvT hZ (hw _ (List.mem_of_getElem? (i := 7) rfl))) (mvT hZ (hw _ (List.mem_of_getElem? (i := 140) rfl))) (by decide) (backOf (W := 0) (rm33 l Z a0 hw [] c0 s_COMPACT_STRINGS h0 n0 Z0 S_COMPACT_STRINGS hz_s_COMPACT_STRINGS qf) hZ (hw _ (List.mem_of_getElem? (i := 140) rfl)) (hw _ (List.mem_of_getElem? (i := 7) rfl)) (by decide) (by decide)) (g := (mkF m 61 #[.val (.int p1), .val (.int p2), .val (.int p3), .val (.int p4), .val (.int p5), .val (.int (1 : Int32)), .val (.int c0), .val (.int c1), .val (.int c2), .val (.int c3), .unset, .unset] [(.int c0)])) rfl (by rw [hml]; rfl) (argsL := [(.int c0)]) (rest := []) (lenOf own_pd24 rfl) rfl (by show 2 * 0 + _ ≤ _; exact Nat.le_of_eq rfl) (hb hby at_61) (fun _ _ => ⟨rfl, e173, (by decide : 0 + 2 ≤ _), (by decide : 0 + 5 ≤ _)⟩)
        dsimp only [Pt.U, Pt.locs, Pt.cells, Pt.slots] at X273 l273 y273 z273 st273 hQ273
        subst l273 y273 z273
        obtain ⟨b_273, vb_273, kb_273, rfl, Nq273, Kq273, f273_0, f273_1, f273_2, f273_3, f273_4, f273_5, f273_6⟩ := hQ273
        refine Go.st st273 ?_
        have N273 := Fr.app N173 Nq273
        have Sf_b_273 : Safe Z own_EL s.vm h0 b_273 := Safe.new f273_0
        have Sf_vb_273 : Safe Z own_EL s.vm h0 vb_273 := Safe.new f273_1
        have Sf_b_273_274 : Safe Z own_EL s.vm T273.heap b_273 := Safe.keep Kq273 all0 R0.1 Sf_b_273
        have Sf_vb_273_274 : Safe Z own_EL s.vm T273.heap vb_273 := Safe.keep Kq273 all0 R0.1 Sf_vb_273
        have R274 : CHr Z own_EL s.vm h0 s.vm T273.heap := CHr.trans R0 (CHr.keep Kq273 all0 R0.1)
        have hk274 : _ ≤ T273.heap.size := Nat.le_trans (Nat.zero_le _) (Kq273.1)
        have g_b_273 : n0 ≤ b_273 := Nat.le_trans Z0 f273_0
        have mh_b_273 : h0.size ≤ b_273 := Nat.le_trans K0.1 f273_0
        have g_vb_273 : n0 ≤ vb_273 := Nat.le_trans Z0 f273_1
        have mh_vb_273 : h0.size ≤ vb_273 := Nat.le_trans K0.1 f273_1
        have K273 : Keep h0 T273.heap [] := Keep.trans K0 Kq273 all0
        have Zs273 : n0 ≤ T273.heap.size := Nat.le_trans Z0 Kq273.1
        show Go p e below _ (T273.setTop (mkF m 64 #[.val (.int p1), .val (.int p2), .val (.int p3), .val (.int p4), .val (.int p5), .val (.int (1 : Int32)), .val (.int c0), .val (.int c1), .val (.int c2), .val (.int c3), .unset, .unset] [(.ref b_273)]))
        refine g_astore X273 hx (hb hby at_64) 66 rfl rfl #[.val (.int p1), .val (.int p2), .val (.int p3), .val (.int p4), .val (.int p5), .val (.int (1 : Int32)), .val (.int c0), .val (.int c1), .val (.int c2), .val (.int c3), .val (.ref b_273), .unset] rfl ?_
        refine g_goto X273 hx (hb hby at_66) 168 (by decide) (by decide) ?_
        have Avc : Arv Z T273.heap vb_273 kb_273 .byte (Int32.ofNat [c0].length) (own_bs [c0]) (.int (0 : Int32)) := f273_6
        have tl : ∀ (ee : Int32) {Ts276 : State} {lc276 : List Loc} {hs276 : Heap} {vs276 : Vm} {ks276 : Nat} (Xs276 : Stand p l e room_1 (s.setVm vs276) m #[(.int p1), (.int p2), (.int p3), (.int p4), (.int p5)] below meth c Ts276 lc276 2 5) (es276 : Ts276.heap = hs276) (Ns276 : Fr n0 lc276) (Ks276 : Keep h0 hs276 []) (Zs276 : n0 ≤ hs276.size) (Ss276 : s.Since vs276 ks276) (kk276 : ks276 ≤ hs276.size) (_ : Z.Warmed39 (s.setVm vs276).vm) (_ : (s.setVm vs276).vm.findClass "com/example/varigraph/varigraph/generate/OperationCanNamePinLaw" = some m.cls) (Rs276 : CHr Z own_EL s.vm h0 vs276 hs276) (Exa_s276_0 : Exa Z hs276 b_273 "java/lang/String") (Fld_s276_1 : Fld Z hs276 b_273 "java/lang/String" "value" "[B" (.ref vb_273)) (Fld_s276_2 : Fld Z hs276 b_273 "java/lang/String" "coder" "B" (.int (0 : Int32))) (Arv_s276_3 : Arv Z hs276 vb_273 kb_273 .byte (Int32.ofNat [c0].length) (own_bs [c0]) (.int (0 : Int32))) (he0 : ee = 0 ∨ ee = 1) (he1 : ee = 1 ↔ (∀ x ∈ [c0], own_ok x)), Go p e below (KS s below Z own_EL (Q0 Z p1 p2 p3 p4 p5 s_COMPACT_STRINGS s_SIOOBE_FORMATTER h0 n0) 24 1152) (Ts276.setTop (mkF m 234 #[.val (.int p1), .val (.int p2), .val (.int p3), .val (.int p4), .val (.int p5), .val (.int (1 : Int32)), .val (.int c0), .val (.int c1), .val (.int c2), .val (.int c3), .val (.ref b_273), .unset] [(.int ee)])) := by
          intro ee Ts276 lc276 hs276 vs276 ks276 Xs276 es276 Ns276 Ks276 Zs276 Ss276 kk276 hZ hown Rs276 Exa_s276_0 Fld_s276_1 Fld_s276_2 Arv_s276_3 he0 he1
          refine g_istore Xs276 hx (hb hby at_234) 236 rfl #[.val (.int p1), .val (.int p2), .val (.int p3), .val (.int p4), .val (.int p5), .val (.int (1 : Int32)), .val (.int c0), .val (.int c1), .val (.int c2), .val (.int c3), .val (.ref b_273), .val (.int ee)] rfl ?_
          refine g_aload Xs276 hx (hb hby at_236) 238 rfl (v := (.ref b_273)) rfl rfl ?_
          obtain ⟨_, _, ⟨T277, L277, k277, n277⟩, -, X277, ⟨Lc277, hQ277, l277, y277, z277⟩, st277⟩ := Jvm.LawKit.callS Xs276 hx (y := (⟨"com/example/varigraph/varigraph/generate/Operation", "canName", "(Ljava/lang/String;)Z"⟩ : MethodName)) hown (mvT hZ (hw _ (List.mem_of_getElem? (i := 27) rfl))) (mvT hZ (hw _ (List.mem_of_getElem? (i := 28) rfl))) (mvT hZ (hw _ (List.mem_of_getElem? (i := 29) rfl))) (mvT hZ (hw _ (List.mem_of_getElem? (i := 30) rfl))) (by decide) (backOf (W := 0) (rmcanL l Z a0 hw [] b_273 s_COMPACT_STRINGS vb_273 kb_273 [c0] hs276 n0 Zs276 (own_Sta_keep S_COMPACT_STRINGS Ks276 all0) Exa_s276_0 Fld_s276_1 Fld_s276_2 Arv_s276_3 hz_s_COMPACT_STRINGS (by simp) (by simp) hCa (List.forall_mem_cons.mpr ⟨qf, fun _ q => nomatch q⟩)) hZ (hw _ (List.mem_of_getElem? (i := 30) rfl)) (hw _ (List.mem_of_getElem? (i := 29) rfl)) (by decide) (by decide)) (g := (mkF m 238 #[.val (.int p1), .val (.int p2), .val (.int p3), .val (.int p4), .val (.int p5), .val (.int (1 : Int32)), .val (.int c0), .val (.int c1), .val (.int c2), .val (.int c3), .val (.ref b_273), .val (.int ee)] [(.ref b_273)])) rfl (by rw [hml]; rfl) (argsL := [(.ref b_273)]) (rest := []) (lenOf own_pd23 rfl) rfl (by show 2 * 0 + _ ≤ _; exact Nat.le_of_eq rfl) (hb hby at_238) (fun _ _ => ⟨rfl, es276, (by decide : 2 + 0 ≤ _), (by decide : 5 + 0 ≤ _)⟩)
          dsimp only [Pt.U, Pt.locs, Pt.cells, Pt.slots] at X277 l277 y277 z277 st277 hQ277
          subst l277 y277 z277
          obtain ⟨r_277, rfl, Nq277, e277, p277_0, p277_1⟩ := hQ277
          refine Go.st st277 ?_
          have N277 := Fr.app Ns276 Nq277
          show Go p e below _ (T277.setTop (mkF m 241 #[.val (.int p1), .val (.int p2), .val (.int p3), .val (.int p4), .val (.int p5), .val (.int (1 : Int32)), .val (.int c0), .val (.int c1), .val (.int c2), .val (.int c3), .val (.ref b_273), .val (.int ee)] [(.int r_277)]))
          refine g_iload X277 hx (hb hby at_241) 243 rfl (v := ee) rfl ?_
          refine g_icmp_ne X277 hx (hb hby at_243) 250 246 (by decide) (by decide) rfl (fun hc243 => False.elim (hc243 (own_bb p277_0 he0 p277_1 he1))) (fun hc243 => ?_)
          refine g_iconst X277 hx (hb hby at_246) 247 rfl (1 : Int32) rfl ?_
          refine g_goto X277 hx (hb hby at_247) 251 (by decide) (by decide) ?_
          refine Go.retNS X277 hx hlk (t := .boolean) Bd.returns (by simp) (hb hby at_251) (by decide) (by decide) Ss276 (by rw [e277]; exact kk276) (own_EW hw) hZ (by rw [hh, e277]; exact Rs276) ?_
          exact ⟨rfl, N277⟩
        refine g_iload X273 hx (hb hby at_168) 170 rfl (v := (1 : Int32)) rfl ?_
        refine g_if_le X273 hx (hb hby at_170) 233 173 (by decide) (by decide) rfl (fun hc170 => False.elim (absurd (by decide) hc170)) (fun hc170 => ?_)
        refine g_iload X273 hx (hb hby at_173) 175 rfl (v := (1 : Int32)) rfl ?_
        refine g_iconst X273 hx (hb hby at_175) 176 rfl (1 : Int32) rfl ?_
        refine g_icmp_lt X273 hx (hb hby at_176) 187 179 (by decide) (by decide) rfl (fun hc176 => False.elim (absurd hc176 (by decide))) (fun hc176 => ?_)
        refine g_iload X273 hx (hb hby at_179) 181 rfl (v := c0) rfl ?_
        obtain ⟨_, _, ⟨T278, L278, k278, n278⟩, -, X278, ⟨Lc278, hQ278, l278, y278, z278⟩, st278⟩ := Jvm.LawKit.callS X273 hx (y := (⟨"com/example/varigraph/varigraph/generate/OperationCanNamePinLaw", "ok", "(C)Z"⟩ : MethodName)) hown (mvT hZ (hw _ (List.mem_of_getElem? (i := 47) rfl))) (mvT hZ (hw _ (List.mem_of_getElem? (i := 48) rfl))) (mvT hZ (hw _ (List.mem_of_getElem? (i := 3) rfl))) (mvT hZ (hw _ (List.mem_of_getElem? (i := 49) rfl))) (by decide) (backOf (W := 0) (rmok l Z a0 hw [] c0 T273.heap n0 Zs273 ) hZ (hw _ (List.mem_of_getElem? (i := 49) rfl)) (hw _ (List.mem_of_getElem? (i := 3) rfl)) (by decide) (by decide)) (g := (mkF m 181 #[.val (.int p1), .val (.int p2), .val (.int p3), .val (.int p4), .val (.int p5), .val (.int (1 : Int32)), .val (.int c0), .val (.int c1), .val (.int c2), .val (.int c3), .val (.ref b_273), .unset] [(.int c0)])) rfl (by rw [hml]; rfl) (argsL := [(.int c0)]) (rest := []) (lenOf own_pd1 rfl) rfl (by show 2 * 0 + _ ≤ _; exact Nat.le_of_eq rfl) (hb hby at_181) (fun _ _ => ⟨rfl, rfl, (by decide : 2 + 0 ≤ _), (by decide : 5 + 0 ≤ _)⟩)
        dsimp only [Pt.U, Pt.locs, Pt.cells, Pt.slots] at X278 l278 y278 z278 st278 hQ278
        subst l278 y278 z278
        obtain ⟨r_278, rfl, Nq278, e278, p278_0, p278_1⟩ := hQ278
        refine Go.st st278 ?_
        have N278 := Fr.app N273 Nq278
        show Go p e below _ (T278.setTop (mkF m 184 #[.val (.int p1), .val (.int p2), .val (.int p3), .val (.int p4), .val (.int p5), .val (.int (1 : Int32)), .val (.int c0), .val (.int c1), .val (.int c2), .val (.int c3), .val (.ref b_273), .unset] [(.int r_278)]))
        refine g_if_eq X278 hx (hb hby at_184) 233 187 (by decide) (by decide) rfl (fun hc184 => ?_) (fun hc184 => ?_)
        · refine g_iconst X278 hx (hb hby at_233) 234 rfl (0 : Int32) rfl ?_
          exact tl (0 : Int32) (own_mono X278 (by decide) (by decide)) e278 N278 K273 Zs273 hS0 hk274 hZ hown R274 f273_3 f273_4 f273_5 Avc (Or.inl rfl) (⟨fun q => absurd q (by decide), fun q => absurd (hc184.symm.trans (p278_1.mpr (q c0 (by simp)))) (by decide)⟩)
        · refine g_iload X278 hx (hb hby at_187) 189 rfl (v := (1 : Int32)) rfl ?_
          refine g_iconst X278 hx (hb hby at_189) 190 rfl (2 : Int32) rfl ?_
          refine g_icmp_lt X278 hx (hb hby at_190) 201 193 (by decide) (by decide) rfl (fun hc190 => ?_) (fun hc190 => False.elim (hc190 (by decide)))
          refine g_iload X278 hx (hb hby at_201) 203 rfl (v := (1 : Int32)) rfl ?_
          refine g_iconst X278 hx (hb hby at_203) 204 rfl (3 : Int32) rfl ?_
          refine g_icmp_lt X278 hx (hb hby at_204) 215 207 (by decide) (by decide) rfl (fun hc204 => ?_) (fun hc204 => False.elim (hc204 (by decide)))
          refine g_iload X278 hx (hb hby at_215) 217 rfl (v := (1 : Int32)) rfl ?_
          refine g_iconst X278 hx (hb hby at_217) 218 rfl (4 : Int32) rfl ?_
          refine g_icmp_lt X278 hx (hb hby at_218) 229 221 (by decide) (by decide) rfl (fun hc218 => ?_) (fun hc218 => False.elim (hc218 (by decide)))
          refine g_iconst X278 hx (hb hby at_229) 230 rfl (1 : Int32) rfl ?_
          refine g_goto X278 hx (hb hby at_230) 234 (by decide) (by decide) ?_
          exact tl (1 : Int32) (own_mono X278 (by decide) (by decide)) e278 N278 K273 Zs273 hS0 hk274 hZ hown R274 f273_3 f273_4 f273_5 Avc (Or.inr rfl) (⟨fun _ => List.forall_mem_cons.mpr ⟨p278_1.mp (p278_0.resolve_left hc184), fun _ q => nomatch q⟩, fun _ => rfl⟩)
  · subst hc35
    obtain ⟨T279, h279, X279, e279, E279, A279, D279, -, st279⟩ := newO X173 hx hZ hown (hw _ (List.mem_of_getElem? (i := 5) rfl)) (hw _ (List.mem_of_getElem? (i := 6) rfl)) (hw _ (List.mem_of_getElem? (i := 7) rfl)) e173 (g := (mkF m 38 #[.val (.int p1), .val (.int p2), .val (.int p3), .val (.int p4), .val (.int p5), .val (.int (0 : Int32)), .val (.int c0), .val (.int c1), .val (.int c2), .val (.int c3), .unset, .unset] [])) rfl (hb hby at_38) (by decide) (by decide)
    refine Go.st st279 ?_
    obtain ⟨os, q279⟩ : ∃ z, z = h0.size := ⟨_, rfl⟩
    rw [← q279] at A279 D279 ⊢
    have g_os : n0 ≤ os := Nat.le_trans Z0 (Nat.le_of_eq q279.symm)
    have Sf_os : Safe Z own_EL s.vm h0 os := Safe.new (Nat.le_of_eq q279.symm)
    have mh_os : h0.size ≤ os := Nat.le_trans K0.1 (Nat.le_of_eq q279.symm)
    have Sf_os_280 : Safe Z own_EL s.vm h279 os := Safe.ext E279 R0.1 Sf_os
    have R280 : CHr Z own_EL s.vm h0 s.vm h279 := CHr.trans R0 (CHr.ext E279 R0.1)
    have hk280 : _ ≤ h279.size := Nat.le_trans (Nat.zero_le _) (E279.1)
    have F_value_279 : Fld Z h279 os "java/lang/String" "value" "[B" .null := D279 (Or.inr (hw _ (List.mem_of_getElem? (i := 21) rfl))) (ty := (.array .byte)) (by decide)
    have F_coder_279 : Fld Z h279 os "java/lang/String" "coder" "B" (.int (0 : Int32)) := D279 (Or.inr (hw _ (List.mem_of_getElem? (i := 22) rfl))) (ty := .byte) (by decide)
    have K279 : Keep h0 h279 [] := Keep.ext K0 E279
    have Zs279 : n0 ≤ h279.size := Nat.le_trans Z0 E279.1
    show Go p e below _ (T279.setTop (mkF m 41 #[.val (.int p1), .val (.int p2), .val (.int p3), .val (.int p4), .val (.int p5), .val (.int (0 : Int32)), .val (.int c0), .val (.int c1), .val (.int c2), .val (.int c3), .unset, .unset] [(.ref os)]))
    refine g_dup X279 hx (hb hby at_41) 42 rfl rfl ?_
    refine g_iconst X279 hx (hb hby at_42) 43 rfl (0 : Int32) rfl ?_
    obtain ⟨T282, h282, cA282, X282, e282, E282, A282, st282⟩ := newP X279 hx hZ (aty := .char) (hw _ (List.mem_of_getElem? (i := 8) rfl)) e279 (g := (mkF m 43 #[.val (.int p1), .val (.int p2), .val (.int p3), .val (.int p4), .val (.int p5), .val (.int (0 : Int32)), .val (.int c0), .val (.int c1), .val (.int c2), .val (.int c3), .unset, .unset] [(.int (0 : Int32)), (.ref os), (.ref os)])) rfl (hb hby at_43) rfl (by decide) (cap := 0) (by decide) (by decide) (by decide) (by decide)
    refine Go.st st282 ?_
    obtain ⟨oc, q282⟩ : ∃ z, z = h279.size := ⟨_, rfl⟩
    rw [← q282] at A282 ⊢
    have ne_os_oc : os ≠ oc := Nat.ne_of_lt (Nat.lt_of_lt_of_eq A279.lt q282.symm)
    have g_oc : n0 ≤ oc := Nat.le_trans Zs279 (Nat.le_of_eq q282.symm)
    have Sf_oc : Safe Z own_EL s.vm h279 oc := Safe.new (Nat.le_of_eq q282.symm)
    have mh_oc : h0.size ≤ oc := Nat.le_trans K279.1 (Nat.le_of_eq q282.symm)
    have Sf_os_283 : Safe Z own_EL s.vm h282 os := Safe.ext E282 R280.1 Sf_os_280
    have Sf_oc_283 : Safe Z own_EL s.vm h282 oc := Safe.ext E282 R280.1 Sf_oc
    have R283 : CHr Z own_EL s.vm h0 s.vm h282 := CHr.trans R280 (CHr.ext E282 R280.1)
    have hk283 : _ ≤ h282.size := Nat.le_trans hk280 (E282.1)
    have E_os_284 : Exa Z h282 os "java/lang/String" := Exa.ext E282 A279
    have F_value_os_284 : Fld Z h282 os "java/lang/String" "value" "[B" .null := Fld.ext E282 F_value_279
    have F_coder_os_284 : Fld Z h282 os "java/lang/String" "coder" "B" (.int (0 : Int32)) := Fld.ext E282 F_coder_279
    have K282 : Keep h0 h282 [] := Keep.ext K279 E282
    have Zs282 : n0 ≤ h282.size := Nat.le_trans Zs279 E282.1
    have Av_oc : Arv Z h282 oc cA282 .char (0 : Int32) [] (.int (0 : Int32)) := Arv.pad (Arv.new A282 (by decide)) (pad_rep [] (.int (0 : Int32)) 0)
    show Go p e below _ (T282.setTop (mkF m 45 #[.val (.int p1), .val (.int p2), .val (.int p3), .val (.int p4), .val (.int p5), .val (.int (0 : Int32)), .val (.int c0), .val (.int c1), .val (.int c2), .val (.int c3), .unset, .unset] [(.ref oc), (.ref os), (.ref os)]))
    obtain ⟨_, _, ⟨T285, L285, k285, n285⟩, -, X285, hS285, gr285, ⟨Lc285, hQ285, l285, y285, z285, C285⟩, st285⟩ := X282.specialBackS hx (y := (⟨"java/lang/String", "<init>", "([C)V"⟩ : MethodName)) rfl hown (mvT hZ (hw _ (List.mem_of_getElem? (i := 9) rfl))) (mvT hZ (hw _ (List.mem_of_getElem? (i := 10) rfl))) (mvT hZ (hw _ (List.mem_of_getElem? (i := 11) rfl))) (by decide) (backOfSH (W := 1) (rmsC0 l Z a0 hw [] os oc cA282 h282 n0 Zs282 E_os_284 g_os F_value_os_284 F_coder_os_284 Av_oc ne_os_oc) hZ (hw _ (List.mem_of_getElem? (i := 11) rfl)) (hw _ (List.mem_of_getElem? (i := 7) rfl)) (by decide) (by decide) (own_EW hw) R283.1) (g := (mkF m 45 #[.val (.int p1), .val (.int p2), .val (.int p3), .val (.int p4), .val (.int p5), .val (.int (0 : Int32)), .val (.int c0), .val (.int c1), .val (.int c2), .val (.int c3), .unset, .unset] [(.ref oc), (.ref os), (.ref os)])) rfl (by rw [hml]; rfl) (Steps.refl _) (a := os) (argsL := [(.ref oc)]) (rest := [(.ref os)]) (lenOf own_pd22 rfl) rfl (by show 2 * 0 + _ ≤ _; exact Nat.le_of_eq rfl) (hb hby at_45) (fun _ _ => ⟨rfl, e282, (by decide : 2 + 4 ≤ _), (by decide : 4 + 8 ≤ _)⟩)
    dsimp only [Pt.U, Pt.locs, Pt.cells, Pt.slots] at X285 l285 y285 z285 st285 hQ285 hS285 gr285 C285
    subst l285 y285 z285
    obtain ⟨vb_285, kb_285, rfl, Nq285, Kq285, f285_0, f285_1, f285_2, f285_3, f285_4⟩ := hQ285
    refine Go.tr st285 ?_
    obtain ⟨X285, hS285, hZ, hown⟩ := rebS hS0 (by rw [e282]; exact hk283) X285 hS285 gr285 hZ hown
    have Sf_os_285 : Safe Z own_EL T285.vm T285.heap os := CHr.safe C285 E_os_284.lt Sf_os_283
    have Sf_oc_285 : Safe Z own_EL T285.vm T285.heap oc := CHr.safe C285 Av_oc.lt Sf_oc_283
    have R285 : CHr Z own_EL s.vm h0 T285.vm T285.heap := CHr.trans R283 C285
    have N285 := Fr.app N173 Nq285
    have E_os_286 : Exa Z T285.heap os "java/lang/String" := Exa.keep E_os_284 Kq285
    have A_oc_286 : Arv Z T285.heap oc cA282 .char (0 : Int32) [] (.int (0 : Int32)) := Arv.keep Av_oc Kq285 (ninS (Ne.symm ne_os_oc) nin0)
    have K285 : Keep h0 T285.heap [] := Keep.trans K282 Kq285 (allS (Or.inr mh_os) all0)
    have Zs285 : n0 ≤ T285.heap.size := Nat.le_trans Zs282 Kq285.1
    show Go p e below _ (T285.setTop (mkF m 48 #[.val (.int p1), .val (.int p2), .val (.int p3), .val (.int p4), .val (.int p5), .val (.int (0 : Int32)), .val (.int c0), .val (.int c1), .val (.int c2), .val (.int c3), .unset, .unset] [(.ref os)]))
    refine g_astore X285 hx (hb hby at_48) 50 rfl rfl #[.val (.int p1), .val (.int p2), .val (.int p3), .val (.int p4), .val (.int p5), .val (.int (0 : Int32)), .val (.int c0), .val (.int c1), .val (.int c2), .val (.int c3), .val (.ref os), .unset] rfl ?_
    refine g_goto X285 hx (hb hby at_50) 168 (by decide) (by decide) ?_
    refine g_iload X285 hx (hb hby at_168) 170 rfl (v := (0 : Int32)) rfl ?_
    refine g_if_le X285 hx (hb hby at_170) 233 173 (by decide) (by decide) rfl (fun hc170 => ?_) (fun hc170 => False.elim (absurd hc170 (by decide)))
    refine g_iconst X285 hx (hb hby at_233) 234 rfl (0 : Int32) rfl ?_
    refine g_istore X285 hx (hb hby at_234) 236 rfl #[.val (.int p1), .val (.int p2), .val (.int p3), .val (.int p4), .val (.int p5), .val (.int (0 : Int32)), .val (.int c0), .val (.int c1), .val (.int c2), .val (.int c3), .val (.ref os), .val (.int (0 : Int32))] rfl ?_
    refine g_aload X285 hx (hb hby at_236) 238 rfl (v := (.ref os)) rfl rfl ?_
    obtain ⟨_, _, ⟨T287, L287, k287, n287⟩, -, X287, ⟨Lc287, hQ287, l287, y287, z287⟩, st287⟩ := Jvm.LawKit.callS X285 hx (y := (⟨"com/example/varigraph/varigraph/generate/Operation", "canName", "(Ljava/lang/String;)Z"⟩ : MethodName)) hown (mvT hZ (hw _ (List.mem_of_getElem? (i := 27) rfl))) (mvT hZ (hw _ (List.mem_of_getElem? (i := 28) rfl))) (mvT hZ (hw _ (List.mem_of_getElem? (i := 29) rfl))) (mvT hZ (hw _ (List.mem_of_getElem? (i := 30) rfl))) (by decide) (backOf (W := 0) (rmcan0 l Z a0 hw [] os vb_285 kb_285 [] T285.heap n0 Zs285 f285_0 f285_1 f285_3) hZ (hw _ (List.mem_of_getElem? (i := 30) rfl)) (hw _ (List.mem_of_getElem? (i := 29) rfl)) (by decide) (by decide)) (g := (mkF m 238 #[.val (.int p1), .val (.int p2), .val (.int p3), .val (.int p4), .val (.int p5), .val (.int (0 : Int32)), .val (.int c0), .val (.int c1), .val (.int c2), .val (.int c3), .val (.ref os), .val (.int (0 : Int32))] [(.ref os)])) rfl (by rw [hml]; rfl) (argsL := [(.ref os)]) (rest := []) (lenOf own_pd23 rfl) rfl (by show 2 * 0 + _ ≤ _; exact Nat.le_of_eq rfl) (hb hby at_238) (fun _ _ => ⟨rfl, rfl, (by decide : 6 + 0 ≤ _), (by decide : 12 + 0 ≤ _)⟩)
    dsimp only [Pt.U, Pt.locs, Pt.cells, Pt.slots] at X287 l287 y287 z287 st287 hQ287
    subst l287 y287 z287
    obtain ⟨rfl, Nq287, e287⟩ := hQ287
    refine Go.st st287 ?_
    have N287 := Fr.app N285 Nq287
    show Go p e below _ (T287.setTop (mkF m 241 #[.val (.int p1), .val (.int p2), .val (.int p3), .val (.int p4), .val (.int p5), .val (.int (0 : Int32)), .val (.int c0), .val (.int c1), .val (.int c2), .val (.int c3), .val (.ref os), .val (.int (0 : Int32))] [(.int (0 : Int32))]))
    refine g_iload X287 hx (hb hby at_241) 243 rfl (v := (0 : Int32)) rfl ?_
    refine g_icmp_ne X287 hx (hb hby at_243) 250 246 (by decide) (by decide) rfl (fun hc243 => False.elim (hc243 rfl)) (fun hc243 => ?_)
    refine g_iconst X287 hx (hb hby at_246) 247 rfl (1 : Int32) rfl ?_
    refine g_goto X287 hx (hb hby at_247) 251 (by decide) (by decide) ?_
    refine Go.retNS X287 hx hlk (t := .boolean) Bd.returns (by simp) (hb hby at_251) (by decide) (by decide) hS285 (by rw [e287]; exact (Nat.le_refl _)) (own_EW hw) hZ (by rw [hh, e287]; exact R285) ?_
    exact ⟨rfl, N287⟩
theorem own_held {s : State} {own : String} {i : Nat} (h : constHeld s own i) : Jvm.Lit.constHeld s own i := h
theorem own_cin : ∀ q ∈ own_EL, q ∈ consts_1 := by decide
set_option maxRecDepth 65536 in
set_option maxHeartbeats 40000000 in
theorem comes_1 {Post : Tables → Env → Array Value → State → Outcome → State → Prop} (hpost : ∀ tb e args s v u, (limb_1_1.after args s (.returned v) u = true ∧ limb_1_2.after args s (.returned v) u = true ∧ True) → ReturnedEndW s (.returned v) u (Jvm.fieldLocs frame_1_writes args s ++ Jvm.arrayLocs frame_1_arrays args s ++ Jvm.staticLocs frame_1_statics s) 24 1152 → Post tb e args s (.returned v) u) :
    ArmFor flags0 classFile x code maxLocals ret World_1 tables_1 room_1 Calls_1 rest_1 Pre_1 Post := by
  intro l hfl _ _ p e ha hc hk s m args below hf hA hF happ hP
  obtain ⟨hcalls, hrest, hpre⟩ := hP
  obtain ⟨-, -, -, hnamed, -, -, -, hat⟩ := (Spec.applies_iff hf).mp happ
  obtain ⟨hg, hn⟩ := and_e (Cond.before_iff.mp (show (Jvm.Cond.and given_1 narrow_1).before args s = true from hpre))
  obtain ⟨c0, r0⟩ := and_e hg
  obtain ⟨c1, r1⟩ := and_e r0
  obtain ⟨c2, r2⟩ := and_e r1
  obtain ⟨c3, r3⟩ := and_e r2
  obtain ⟨c4, r4⟩ := and_e r3
  obtain ⟨w0, w1, w2, w3, w4, rfl⟩ : ∃ w0 w1 w2 w3 w4 : Value, args = #[w0, w1, w2, w3, w4] := by
    have hs : args.size = 5 := by simpa [Cond.value, given_1] using c0
    obtain ⟨L⟩ := args
    match L, hs with
    | [w0, w1, w2, w3, w4], _ => exact ⟨w0, w1, w2, w3, w4, rfl⟩
  have hw := fun d (hd : d ∈ tables_1) => atoms_spec (ws := Jvm.Cond.code x code maxLocals ret :: tables_1) hat d (List.mem_cons_of_mem _ hd)
  have hfit : Fit s := fun {y c} hc i hi => by
    obtain ⟨ha, rfl⟩ := Array.getElem?_eq_some_iff.mp hc
    have q := List.all_eq_true.mp ((Array.all_eq_true_iff_forall_mem.mp hF) _ (Array.getElem_mem ha)) i (List.mem_range.mpr hi)
    simpa [Array.getElem?_eq_getElem hi] using q
  obtain ⟨i0, ei0⟩ := is_v c1
  obtain rfl : w0 = (.int i0) := Option.some.inj ei0
  obtain ⟨i1, ei1⟩ := is_v c2
  obtain rfl : w1 = (.int i1) := Option.some.inj ei1
  obtain ⟨i2, ei2⟩ := is_v c3
  obtain rfl : w2 = (.int i2) := Option.some.inj ei2
  obtain ⟨i3, ei3⟩ := is_v c4
  obtain rfl : w3 = (.int i3) := Option.some.inj ei3
  obtain ⟨i4, ei4⟩ := is_v r4
  obtain rfl : w4 = (.int i4) := Option.some.inj ei4
  obtain ⟨hsets, hown0⟩ := atoms_of _ (rest_1_c_eq ▸ (show rest_1_c.before _ s = true from hrest))
  obtain ⟨s_COMPACT_STRINGS, e_s_COMPACT_STRINGS⟩ := is_v (Cond.before_iff.mp (hsets _ (List.mem_of_getElem? (i := 1) rfl)))
  have S_COMPACT_STRINGS : Sta s s.heap "java/lang/String" "COMPACT_STRINGS" "Z" (.int s_COMPACT_STRINGS) := Sta.start e_s_COMPACT_STRINGS (Or.inl (hsets _ (List.mem_of_getElem? (i := 0) rfl)))
  obtain ⟨s_SIOOBE_FORMATTER, e_s_SIOOBE_FORMATTER, r_s_SIOOBE_FORMATTER⟩ := isR_v (Cond.before_iff.mp (hsets _ (List.mem_of_getElem? (i := 8) rfl)))
  have S_SIOOBE_FORMATTER : Sta s s.heap "jdk/internal/util/Preconditions" "SIOOBE_FORMATTER" "Ljava/util/function/BiFunction;" s_SIOOBE_FORMATTER := Sta.start e_s_SIOOBE_FORMATTER (Or.inl (hsets _ (List.mem_of_getElem? (i := 7) rfl)))
  have S_assertionsDisabled : Sta s s.heap "java/lang/StringUTF16" "$assertionsDisabled" "Z" (.int (1 : Int32)) := Sta.start (own_eqi (Cond.before_iff.mp (hsets _ (List.mem_of_getElem? (i := 12) rfl)))) (Or.inl (hsets _ (List.mem_of_getElem? (i := 11) rfl)))
  have S_HI_BYTE_SHIFT : Sta s s.heap "java/lang/StringUTF16" "HI_BYTE_SHIFT" "I" (.int (0 : Int32)) := Sta.start (own_eqi (Cond.before_iff.mp (hsets _ (List.mem_of_getElem? (i := 15) rfl)))) (Or.inl (hsets _ (List.mem_of_getElem? (i := 14) rfl)))
  have S_LO_BYTE_SHIFT : Sta s s.heap "java/lang/StringUTF16" "LO_BYTE_SHIFT" "I" (.int (8 : Int32)) := Sta.start (own_eqi (Cond.before_iff.mp (hsets _ (List.mem_of_getElem? (i := 18) rfl)))) (Or.inl (hsets _ (List.mem_of_getElem? (i := 17) rfl)))
  have z_s_COMPACT_STRINGS : ¬ s_COMPACT_STRINGS = 0 := own_nz e_s_COMPACT_STRINGS (Cond.before_iff.mp (hsets _ (List.mem_of_getElem? (i := 2) rfl)))
  obtain ⟨n, o, h1, h2, h3, _, L, rfl, ⟨rfl, N⟩, -, hq⟩ := rm0 l s _ hw tables_1 i0 i1 i2 i3 i4 s_COMPACT_STRINGS s_SIOOBE_FORMATTER s.heap s.heap.size (Nat.le_refl _) S_COMPACT_STRINGS S_SIOOBE_FORMATTER S_assertionsDisabled S_HI_BYTE_SHIFT S_LO_BYTE_SHIFT rfl z_s_COMPACT_STRINGS r_s_SIOOBE_FORMATTER p e ha hc hk s m _ below hf ((Spec.applies_iff_loose hf).mp happ).1 ⟨rfl, State.Warmed39.refl s, rfl, (CHv.start (own_EW hw) (fun q hq => own_held (hcalls.1 q (own_cin q hq))) (hsets _ (List.mem_of_getElem? (i := 2) rfl)) (hw _ (List.mem_of_getElem? (i := 20) rfl)) (hw _ (List.mem_of_getElem? (i := 6) rfl)))⟩ trivial
  refine ⟨n, _, h1, h2, h3, hpost _ _ _ _ _ _ ⟨Cond.after_iff.mpr rfl, Cond.after_iff.mpr (eq_i res_at (Term.int_eval (1)) rfl), trivial⟩ ⟨hq.1, hq.2.1, hq.2.2.1, (hq.2.2.2.sift fun y hy => Or.inr (N y hy)).mono (by decide) (by decide)⟩⟩
theorem main_1_1 : Claimed_1_1 := comes_1 fun _ _ _ _ _ _ h hF => ⟨h.1, hF⟩
theorem main_1_2 : Claimed_1_2 := comes_1 fun _ _ _ _ _ _ h hF => ⟨h.2.1, hF⟩
end Jvm.Pilot.@@N@@
namespace Jvm.Pilot.@@N@@
open Jvm Jvm.ClassFile Sem Op Lib Jvm.Free Jvm.Stand Jvm.Pilot.@@N@@.Jvm.D
/-! MADE BY PROGRAM (witnessworld.py) out of the Statement's table words and the real class files: 22 classes; the members and pool entries that the words name. The judged class is class 1, her method 3. -/
namespace start1
open Jvm.ClassFile
def u (s : String) : CpInfo := .utf8 (stringToUtf16 s)
/-- a pool by its gaps: so many unusable entries, then the entry; so many at the end -/
def gap : Nat → List CpInfo → List CpInfo
  | 0, r => r
  | n + 1, r => .unusable :: gap n r
def poolList (es : List (Nat × CpInfo)) (last : Nat) : List CpInfo := es.foldr (fun e r => gap e.1 (e.2 :: r)) (gap last [])
def pool (es : List (Nat × CpInfo)) (last : Nat) : Array CpInfo := ⟨poolList es last⟩
def fileOf (pool : Array CpInfo) (this : Nat) (attrs : Array Attribute := #[]) (ms : Array MethodInfo := #[]) (fl : Nat := 33) (sup : Nat := 0) (ifs : Array Nat := #[]) (fds : Array FieldInfo := #[]) : ClassFile where
  minorVersion := 0
  majorVersion := 65
  constantPool := pool
  accessFlags := fl
  thisClass := this
  superClass := sup
  interfaces := ifs
  fields := fds
  methods := ms
  attributes := attrs
def plain (name : String) (sup : Option ClassId) : Class where
  name := name
  kind := .ordinary
  loader := none
  accessFlags := 33
  super := sup
  interfaces := #[]
  cf := none
  fields := #[]
  methods := #[]
  instanceTypes := #[]
  staticTypes := #[]
  resolved := #[]
  callSites := []
  init := .initialized
  statics := none
  mirror := none

def pool0 : Array CpInfo := pool [(5, u "<init>"), (0, u "()V"), (1, .class_ 10), (1, u "java/lang/Object")] 113

def k0c0 : Code := { maxStack := 0, maxLocals := 1, code := object_method_1_code, exceptionTable := #[], attributes := #[] }
def k0m0 : Method := { name := "<init>", desc := "()V", sig := { parameters := [], returnType := none }, accessFlags := 1, code := some k0c0 }
/-- java/lang/Object -/
def k0 : Class := { plain "java/lang/Object" none with
  accessFlags := 33
  interfaces := #[]
  cf := some (fileOf pool0 8 #[] #[{ accessFlags := 1, nameIndex := 5, descriptorIndex := 6, attributes := #[] }] 33 0 #[] #[])
  fields := #[]
  methods := #[k0m0]
  instanceTypes := #[]
  staticTypes := #[]
  resolved := Array.replicate 124 none
  statics := none }

def pool1 : Array CpInfo := pool [(2, .class_ 4), (1, u "java/lang/Object"), (0, u "<init>"), (0, u "()V"), (0, .integer 65535), (0, .integer 2147483647), (0, .methodref 10 11), (0, .class_ 12), (0, .nameAndType 13 14), (0, u "com/example/varigraph/varigraph/generate/OperationCanNamePinLaw"), (0, u "pick"), (0, u "(I)C"), (0, .class_ 16), (0, u "java/lang/String"), (0, .methodref 15 18), (0, .nameAndType 5 19), (0, u "([C)V"), (0, .methodref 15 21), (0, .nameAndType 22 23), (0, u "valueOf"), (0, u "(C)Ljava/lang/String;"), (0, .methodref 10 25), (0, .nameAndType 26 27), (0, u "ok"), (0, u "(C)Z"), (0, .methodref 29 30), (0, .class_ 31), (0, .nameAndType 32 33), (0, u "com/example/varigraph/varigraph/generate/Operation"), (0, u "canName"), (0, u "(Ljava/lang/String;)Z"), (3, u "law"), (0, u "(IIIII)Z")] 2

def k1m0 : Method := { name := "<init>", desc := "()V", sig := { parameters := [], returnType := none }, accessFlags := 2, code := none }
def k1c1 : Code := { maxStack := 2, maxLocals := 2, code := method_2_code, exceptionTable := #[], attributes := #[] }
def k1m1 : Method := { name := "pick", desc := "(I)C", sig := { parameters := [.int], returnType := some .char }, accessFlags := 10, code := some k1c1 }
def k1c2 : Code := { maxStack := 2, maxLocals := 1, code := method_3_code, exceptionTable := #[], attributes := #[] }
def k1m2 : Method := { name := "ok", desc := "(C)Z", sig := { parameters := [.char], returnType := some .boolean }, accessFlags := 10, code := some k1c2 }
def k1c3 : Code := { maxStack := 6, maxLocals := 12, code := code, exceptionTable := #[], attributes := #[] }
def k1m3 : Method := { name := "law", desc := "(IIIII)Z", sig := { parameters := [.int, .int, .int, .int, .int], returnType := some .boolean }, accessFlags := 9, code := some k1c3 }
/-- com/example/varigraph/varigraph/generate/OperationCanNamePinLaw -/
def k1 : Class := { plain "com/example/varigraph/varigraph/generate/OperationCanNamePinLaw" (some 0) with
  accessFlags := 49
  interfaces := #[]
  cf := some (fileOf pool1 10 #[] #[{ accessFlags := 2, nameIndex := 5, descriptorIndex := 6, attributes := #[] }, { accessFlags := 10, nameIndex := 13, descriptorIndex := 14, attributes := #[] }, { accessFlags := 10, nameIndex := 26, descriptorIndex := 27, attributes := #[] }, { accessFlags := 9, nameIndex := 37, descriptorIndex := 38, attributes := #[] }] 49 2 #[] #[])
  fields := #[]
  methods := #[k1m0, k1m1, k1m2, k1m3]
  instanceTypes := #[]
  staticTypes := #[]
  resolved := Array.replicate 41 none
  statics := none }

def pool2 : Array CpInfo := pool [(1, .class_ 2), (0, u "java/io/Serializable"), (0, .class_ 4), (0, u "java/lang/Object")] 2

/-- java/io/Serializable -/
def k2 : Class := { plain "java/io/Serializable" (some 0) with
  accessFlags := 1537
  interfaces := #[]
  cf := some (fileOf pool2 1 #[] #[] 1537 3 #[] #[])
  fields := #[]
  methods := #[]
  instanceTypes := #[]
  staticTypes := #[]
  resolved := Array.replicate 7 none
  statics := none }

def pool3 : Array CpInfo := pool [(1, .class_ 2), (0, u "java/lang/Comparable"), (0, .class_ 4), (0, u "java/lang/Object")] 7

/-- java/lang/Comparable -/
def k3 : Class := { plain "java/lang/Comparable" (some 0) with
  accessFlags := 1537
  interfaces := #[]
  cf := some (fileOf pool3 1 #[] #[] 1537 3 #[] #[])
  fields := #[]
  methods := #[]
  instanceTypes := #[]
  staticTypes := #[]
  resolved := Array.replicate 12 none
  statics := none }

def pool4 : Array CpInfo := pool [(2, .class_ 4), (1, u "java/lang/CharSequence"), (42, .class_ 48), (0, u "java/lang/CharSequence$1CodePointIterator"), (10, .class_ 60), (0, u "java/lang/CharSequence$1CharIterator"), (5, .class_ 67), (0, u "java/lang/Object")] 63

/-- java/lang/CharSequence -/
def k4 : Class := { plain "java/lang/CharSequence" (some 0) with
  accessFlags := 1537
  interfaces := #[]
  cf := some (fileOf pool4 2 #[.nestMembers #[47, 59]] #[] 1537 66 #[] #[])
  fields := #[]
  methods := #[]
  instanceTypes := #[]
  staticTypes := #[]
  resolved := Array.replicate 131 none
  statics := none }

def pool5 : Array CpInfo := pool [(1, .class_ 2), (0, u "java/lang/constant/Constable"), (0, .class_ 4), (0, u "java/lang/Object")] 6

/-- java/lang/constant/Constable -/
def k5 : Class := { plain "java/lang/constant/Constable" (some 0) with
  accessFlags := 1537
  interfaces := #[]
  cf := some (fileOf pool5 1 #[] #[] 1537 3 #[] #[])
  fields := #[]
  methods := #[]
  instanceTypes := #[]
  staticTypes := #[]
  resolved := Array.replicate 11 none
  statics := none }

def pool6 : Array CpInfo := pool [(1, .class_ 2), (0, u "java/lang/constant/ConstantDesc"), (0, .class_ 4), (0, u "java/lang/Object")] 32

/-- java/lang/constant/ConstantDesc -/
def k6 : Class := { plain "java/lang/constant/ConstantDesc" (some 0) with
  accessFlags := 1537
  interfaces := #[]
  cf := some (fileOf pool6 1 #[] #[] 1537 3 #[] #[])
  fields := #[]
  methods := #[]
  instanceTypes := #[]
  staticTypes := #[]
  resolved := Array.replicate 37 none
  statics := none }

def pool7 : Array CpInfo := pool [(1, .methodref 2 3), (0, .class_ 4), (0, .nameAndType 5 6), (0, u "java/lang/Object"), (0, u "<init>"), (0, u "()V"), (0, .string 8), (0, u ""), (0, .fieldref 10 11), (0, .class_ 12), (0, .nameAndType 13 14), (0, u "java/lang/String"), (0, u "value"), (0, u "[B"), (0, .fieldref 10 16), (0, .nameAndType 17 18), (0, u "coder"), (0, u "B"), (2, u "hash"), (0, u "I"), (2, u "hashIsZero"), (0, u "Z"), (0, .methodref 10 28), (0, .nameAndType 5 29), (0, u "([CIILjava/lang/Void;)V"), (8, .fieldref 10 39), (0, .nameAndType 40 26), (0, u "COMPACT_STRINGS"), (1, .class_ 44), (1, u "java/lang/StringUTF16"), (0, u "compress"), (1, .methodref 42 48), (0, .nameAndType 49 50), (0, u "coderFromArrayLen"), (0, u "([BI)B"), (2, u "toBytes"), (53, .class_ 109), (1, u "java/lang/StringLatin1"), (32, u "()Z"), (34, .methodref 42 178), (0, .nameAndType 45 179), (0, u "([CII)[B"), (29, .methodref 10 210), (0, .nameAndType 5 211), (0, u "([BB)V"), (122, u "()I"), (0, .methodref 10 336), (0, .nameAndType 17 337), (0, u "()B"), (31, u "(C)Z"), (122, .methodref 10 493), (0, .nameAndType 494 142), (0, u "isLatin1"), (10, .methodref 10 506), (0, .nameAndType 507 334), (0, u "length"), (5, u "checkFromToIndex"), (9, u "checkBoundsBeginEnd"), (0, u "(III)V"), (50, .class_ 576), (0, u "java/lang/CharSequence"), (22, u "CASE_INSENSITIVE_ORDER"), (0, u "Ljava/util/Comparator;"), (32, .methodref 10 634), (0, .nameAndType 635 636), (0, u "indexOf"), (0, u "(II)I"), (0, .methodref 107 638), (0, .nameAndType 635 639), (0, u "([BIII)I"), (0, .methodref 42 638), (51, u "isEmpty"), (72, u "(I)I"), (16, u "valueOf"), (0, u "(C)Ljava/lang/String;"), (226, u "([C)V"), (4, .methodref 107 1016), (0, .nameAndType 1017 369), (0, u "canEncode"), (0, .methodref 107 1019), (0, .nameAndType 53 1020), (0, u "(C)[B"), (0, .methodref 42 1019), (31, .fieldref 1054 1055), (0, .class_ 1056), (0, .nameAndType 1057 1058), (0, u "jdk/internal/util/Preconditions"), (0, u "SIOOBE_FORMATTER"), (0, u "Ljava/util/function/BiFunction;"), (3, .methodref 1054 1063), (0, .nameAndType 513 1064), (0, u "(IIILjava/util/function/BiFunction;)I"), (36, u "serialPersistentFields"), (0, u "[Ljava/io/ObjectStreamField;"), (0, .class_ 1104), (0, u "java/lang/String$CaseInsensitiveComparator"), (1, .class_ 1107), (0, u "java/io/Serializable"), (0, .class_ 1109), (0, u "java/lang/Comparable"), (0, .class_ 1111), (0, u "java/lang/constant/Constable"), (0, .class_ 1113), (0, u "java/lang/constant/ConstantDesc"), (2, u "serialVersionUID"), (0, u "J"), (3, u "REPL"), (0, u "C"), (2, u "LATIN1"), (1, u "UTF16")] 323

def k7m0 : Method := { name := "<init>", desc := "()V", sig := { parameters := [], returnType := none }, accessFlags := 1, code := none }
def k7c1 : Code := { maxStack := 5, maxLocals := 2, code := jdk_42_method_3_code, exceptionTable := #[], attributes := #[] }
def k7m1 : Method := { name := "<init>", desc := "([C)V", sig := { parameters := [(.array .char)], returnType := none }, accessFlags := 1, code := some k7c1 }
def k7c2 : Code := { maxStack := 2, maxLocals := 1, code := jdk_42_method_54_code, exceptionTable := #[], attributes := #[] }
def k7m2 : Method := { name := "length", desc := "()I", sig := { parameters := [], returnType := some .int }, accessFlags := 1, code := some k7c2 }
def k7c3 : Code := { maxStack := 1, maxLocals := 1, code := jdk_42_method_55_code, exceptionTable := #[], attributes := #[] }
def k7m3 : Method := { name := "isEmpty", desc := "()Z", sig := { parameters := [], returnType := some .boolean }, accessFlags := 1, code := some k7c3 }
def k7c4 : Code := { maxStack := 3, maxLocals := 2, code := jdk_42_method_79_code, exceptionTable := #[], attributes := #[] }
def k7m4 : Method := { name := "indexOf", desc := "(I)I", sig := { parameters := [.int], returnType := some .int }, accessFlags := 1, code := some k7c4 }
def k7c5 : Code := { maxStack := 4, maxLocals := 3, code := jdk_42_method_80_code, exceptionTable := #[], attributes := #[] }
def k7m5 : Method := { name := "indexOf", desc := "(II)I", sig := { parameters := [.int, .int], returnType := some .int }, accessFlags := 1, code := some k7c5 }
def k7c6 : Code := { maxStack := 4, maxLocals := 1, code := jdk_42_method_139_code, exceptionTable := #[], attributes := #[] }
def k7m6 : Method := { name := "valueOf", desc := "(C)Ljava/lang/String;", sig := { parameters := [.char], returnType := some (.object "java/lang/String") }, accessFlags := 9, code := some k7c6 }
def k7c7 : Code := { maxStack := 4, maxLocals := 6, code := jdk_42_method_149_code, exceptionTable := #[], attributes := #[] }
def k7m7 : Method := { name := "<init>", desc := "([CIILjava/lang/Void;)V", sig := { parameters := [(.array .char), .int, .int, (.object "java/lang/Void")], returnType := none }, accessFlags := 2, code := some k7c7 }
def k7c8 : Code := { maxStack := 2, maxLocals := 3, code := jdk_42_method_151_code, exceptionTable := #[], attributes := #[] }
def k7m8 : Method := { name := "<init>", desc := "([BB)V", sig := { parameters := [(.array .byte), .byte], returnType := none }, accessFlags := 0, code := some k7c8 }
def k7c9 : Code := { maxStack := 1, maxLocals := 1, code := jdk_42_method_152_code, exceptionTable := #[], attributes := #[] }
def k7m9 : Method := { name := "coder", desc := "()B", sig := { parameters := [], returnType := some .byte }, accessFlags := 0, code := some k7c9 }
def k7c10 : Code := { maxStack := 1, maxLocals := 1, code := jdk_42_method_154_code, exceptionTable := #[], attributes := #[] }
def k7m10 : Method := { name := "isLatin1", desc := "()Z", sig := { parameters := [], returnType := some .boolean }, accessFlags := 0, code := some k7c10 }
def k7c11 : Code := { maxStack := 4, maxLocals := 3, code := jdk_42_method_158_code, exceptionTable := #[], attributes := #[] }
def k7m11 : Method := { name := "checkBoundsBeginEnd", desc := "(III)V", sig := { parameters := [.int, .int, .int], returnType := none }, accessFlags := 8, code := some k7c11 }
/-- java/lang/String -/
def k7 : Class := { plain "java/lang/String" (some 0) with
  accessFlags := 49
  interfaces := #[2, 3, 4, 5, 6]
  cf := some (fileOf pool7 10 #[.nestMembers #[1103]] #[{ accessFlags := 1, nameIndex := 5, descriptorIndex := 6, attributes := #[] }, { accessFlags := 1, nameIndex := 5, descriptorIndex := 1010, attributes := #[] }, { accessFlags := 1, nameIndex := 507, descriptorIndex := 334, attributes := #[] }, { accessFlags := 1, nameIndex := 692, descriptorIndex := 142, attributes := #[] }, { accessFlags := 1, nameIndex := 635, descriptorIndex := 765, attributes := #[] }, { accessFlags := 1, nameIndex := 635, descriptorIndex := 636, attributes := #[] }, { accessFlags := 9, nameIndex := 782, descriptorIndex := 783, attributes := #[] }, { accessFlags := 2, nameIndex := 5, descriptorIndex := 29, attributes := #[] }, { accessFlags := 0, nameIndex := 5, descriptorIndex := 211, attributes := #[] }, { accessFlags := 0, nameIndex := 17, descriptorIndex := 337, attributes := #[] }, { accessFlags := 0, nameIndex := 494, descriptorIndex := 142, attributes := #[] }, { accessFlags := 8, nameIndex := 523, descriptorIndex := 524, attributes := #[] }] 49 2 #[1106, 1108, 575, 1110, 1112] #[{ accessFlags := 18, nameIndex := 13, descriptorIndex := 14, attributes := #[] }, { accessFlags := 18, nameIndex := 17, descriptorIndex := 18, attributes := #[] }, { accessFlags := 2, nameIndex := 21, descriptorIndex := 22, attributes := #[] }, { accessFlags := 2, nameIndex := 25, descriptorIndex := 26, attributes := #[] }, { accessFlags := 26, nameIndex := 1116, descriptorIndex := 1117, attributes := #[] }, { accessFlags := 24, nameIndex := 40, descriptorIndex := 26, attributes := #[] }, { accessFlags := 26, nameIndex := 1101, descriptorIndex := 1102, attributes := #[] }, { accessFlags := 26, nameIndex := 1121, descriptorIndex := 1122, attributes := #[] }, { accessFlags := 25, nameIndex := 599, descriptorIndex := 600, attributes := #[] }, { accessFlags := 24, nameIndex := 1125, descriptorIndex := 18, attributes := #[] }, { accessFlags := 24, nameIndex := 1127, descriptorIndex := 18, attributes := #[] }])
  fields := #[{ name := "value", type := (.array .byte), accessFlags := 18, slot := 0, constantValue := 0 }, { name := "coder", type := .byte, accessFlags := 18, slot := 1, constantValue := 0 }, { name := "hash", type := .int, accessFlags := 2, slot := 2, constantValue := 0 }, { name := "hashIsZero", type := .boolean, accessFlags := 2, slot := 3, constantValue := 0 }, { name := "serialVersionUID", type := .long, accessFlags := 26, slot := 0, constantValue := 0 }, { name := "COMPACT_STRINGS", type := .boolean, accessFlags := 24, slot := 1, constantValue := 0 }, { name := "serialPersistentFields", type := (.array (.object "java/io/ObjectStreamField")), accessFlags := 26, slot := 2, constantValue := 0 }, { name := "REPL", type := .char, accessFlags := 26, slot := 3, constantValue := 0 }, { name := "CASE_INSENSITIVE_ORDER", type := (.object "java/util/Comparator"), accessFlags := 25, slot := 4, constantValue := 0 }, { name := "LATIN1", type := .byte, accessFlags := 24, slot := 5, constantValue := 0 }, { name := "UTF16", type := .byte, accessFlags := 24, slot := 6, constantValue := 0 }]
  methods := #[k7m0, k7m1, k7m2, k7m3, k7m4, k7m5, k7m6, k7m7, k7m8, k7m9, k7m10, k7m11]
  instanceTypes := #[(.array .byte), .byte, .int, .boolean]
  staticTypes := #[.long, .boolean, (.array (.object "java/io/ObjectStreamField")), .char, (.object "java/util/Comparator"), .byte, .byte]
  resolved := Array.replicate 1451 none
  statics := some 0 }

def pool8 : Array CpInfo := pool [(2, .class_ 4), (1, u "java/lang/Object"), (0, u "<init>"), (0, u "()V"), (0, .class_ 8), (0, u "java/lang/Record")] 13

def k8m0 : Method := { name := "<init>", desc := "()V", sig := { parameters := [], returnType := none }, accessFlags := 4, code := none }
/-- java/lang/Record -/
def k8 : Class := { plain "java/lang/Record" (some 0) with
  accessFlags := 1057
  interfaces := #[]
  cf := some (fileOf pool8 7 #[] #[{ accessFlags := 4, nameIndex := 5, descriptorIndex := 6, attributes := #[] }] 1057 2 #[] #[])
  fields := #[]
  methods := #[k8m0]
  instanceTypes := #[]
  staticTypes := #[]
  resolved := Array.replicate 22 none
  statics := none }

def pool9 : Array CpInfo := pool [(2, .class_ 4), (1, u "java/lang/Record"), (3, u "kind"), (13, u "name"), (5, .class_ 30), (1, u "com/example/varigraph/varigraph/generate/Operation$Kind"), (0, u "ids"), (6, u "Ljava/lang/String;"), (16, u "()Z"), (4, .class_ 61), (0, u "java/lang/String"), (1, .class_ 65), (1, u "com/example/varigraph/varigraph/generate/Operation"), (0, u "canName"), (0, u "(Ljava/lang/String;)Z"), (6, u "Lcom/example/varigraph/varigraph/generate/Operation$Kind;"), (8, .methodref 60 84), (0, .nameAndType 85 55), (0, u "isEmpty"), (12, u "Ljava/util/List;"), (2, .methodref 60 102), (0, .nameAndType 103 104), (0, u "indexOf"), (0, u "(I)I")] 215

def k9c0 : Code := { maxStack := 2, maxLocals := 1, code := prog_62_method_2_code, exceptionTable := #[], attributes := #[] }
def k9m0 : Method := { name := "canName", desc := "(Ljava/lang/String;)Z", sig := { parameters := [(.object "java/lang/String")], returnType := some .boolean }, accessFlags := 9, code := some k9c0 }
/-- com/example/varigraph/varigraph/generate/Operation -/
def k9 : Class := { plain "com/example/varigraph/varigraph/generate/Operation" (some 8) with
  accessFlags := 49
  interfaces := #[]
  cf := some (fileOf pool9 63 #[.nestMembers #[28]] #[{ accessFlags := 9, nameIndex := 66, descriptorIndex := 67, attributes := #[] }] 49 2 #[] #[{ accessFlags := 18, nameIndex := 8, descriptorIndex := 74, attributes := #[] }, { accessFlags := 18, nameIndex := 31, descriptorIndex := 98, attributes := #[] }, { accessFlags := 18, nameIndex := 22, descriptorIndex := 38, attributes := #[] }])
  fields := #[{ name := "kind", type := (.object "com/example/varigraph/varigraph/generate/Operation$Kind"), accessFlags := 18, slot := 0, constantValue := 0 }, { name := "ids", type := (.object "java/util/List"), accessFlags := 18, slot := 1, constantValue := 0 }, { name := "name", type := (.object "java/lang/String"), accessFlags := 18, slot := 2, constantValue := 0 }]
  methods := #[k9m0]
  instanceTypes := #[(.object "com/example/varigraph/varigraph/generate/Operation$Kind"), (.object "java/util/List"), (.object "java/lang/String")]
  staticTypes := #[]
  resolved := Array.replicate 320 none
  statics := none }

def pool10 : Array CpInfo := pool [(3, .class_ 4), (0, u "java/lang/String"), (1, .class_ 8), (1, u "java/lang/Object"), (0, u "<init>"), (0, u "()V"), (0, .methodref 12 13), (0, .class_ 14), (0, .nameAndType 15 16), (0, u "java/lang/StringUTF16"), (0, u "newBytesLength"), (0, u "(I)I"), (3, .integer 1073741823), (23, .fieldref 12 45), (0, .nameAndType 46 47), (0, u "$assertionsDisabled"), (0, u "Z"), (0, .methodref 12 49), (0, .nameAndType 50 51), (0, u "length"), (0, u "([B)I"), (7, .fieldref 12 60), (0, .nameAndType 61 62), (0, u "HI_BYTE_SHIFT"), (0, u "I"), (0, .fieldref 12 64), (0, .nameAndType 65 62), (0, u "LO_BYTE_SHIFT"), (5, .methodref 12 72), (0, .nameAndType 73 74), (0, u "getChar"), (0, u "([BI)C"), (21, .methodref 12 97), (0, .nameAndType 98 99), (0, u "checkBoundsBeginEnd"), (0, u "(II[B)V"), (7, .methodref 12 108), (0, .nameAndType 109 110), (0, u "newBytesFor"), (0, u "(I)[B"), (0, .methodref 12 112), (0, .nameAndType 113 114), (0, u "putChar"), (0, u "([BII)V"), (0, .methodref 12 116), (0, .nameAndType 117 118), (0, u "compress"), (0, u "([CI[BII)I"), (0, .methodref 12 120), (0, .nameAndType 121 122), (0, u "toBytes"), (0, u "([CII)[B"), (60, .methodref 184 185), (0, .class_ 186), (0, .nameAndType 187 188), (0, u "java/lang/Math"), (0, u "min"), (0, u "(II)I"), (35, .methodref 184 225), (0, .nameAndType 226 188), (0, u "max"), (0, .integer 65536), (0, .methodref 12 229), (0, .nameAndType 230 231), (0, u "indexOfChar"), (0, u "([BIII)I"), (9, .methodref 3 242), (0, .nameAndType 98 243), (0, u "(III)V"), (0, .methodref 12 245), (0, .nameAndType 246 231), (0, u "indexOfCharUnsafe"), (14, u "coderFromArrayLen"), (0, u "([BI)B"), (5, u "indexOf"), (100, .class_ 371), (1, u "java/lang/StringUTF16$LinesSpliterator"), (58, u "MAX_LENGTH"), (44, u "(C)[B"), (151, .class_ 628), (0, u "java/lang/StringUTF16$CodePointsSpliterator"), (0, .class_ 630), (0, u "java/lang/StringUTF16$CharsSpliterator")] 4

def k10m0 : Method := { name := "<init>", desc := "()V", sig := { parameters := [], returnType := none }, accessFlags := 0, code := none }
def k10c1 : Code := { maxStack := 1, maxLocals := 1, code := jdk_52_method_2_code, exceptionTable := #[], attributes := #[] }
def k10m1 : Method := { name := "newBytesFor", desc := "(I)[B", sig := { parameters := [.int], returnType := some (.array .byte) }, accessFlags := 9, code := some k10c1 }
def k10c2 : Code := { maxStack := 4, maxLocals := 1, code := jdk_52_method_3_code, exceptionTable := #[], attributes := #[] }
def k10m2 : Method := { name := "newBytesLength", desc := "(I)I", sig := { parameters := [.int], returnType := some .int }, accessFlags := 9, code := some k10c2 }
def k10c3 : Code := { maxStack := 4, maxLocals := 3, code := jdk_52_method_4_code, exceptionTable := #[], attributes := #[] }
def k10m3 : Method := { name := "putChar", desc := "([BII)V", sig := { parameters := [(.array .byte), .int, .int], returnType := none }, accessFlags := 8, code := some k10c3 }
def k10c4 : Code := { maxStack := 3, maxLocals := 2, code := jdk_52_method_5_code, exceptionTable := #[], attributes := #[] }
def k10m4 : Method := { name := "getChar", desc := "([BI)C", sig := { parameters := [(.array .byte), .int], returnType := some .char }, accessFlags := 8, code := some k10c4 }
def k10c5 : Code := { maxStack := 2, maxLocals := 1, code := jdk_52_method_6_code, exceptionTable := #[], attributes := #[] }
def k10m5 : Method := { name := "length", desc := "([B)I", sig := { parameters := [(.array .byte)], returnType := some .int }, accessFlags := 9, code := some k10c5 }
def k10c6 : Code := { maxStack := 4, maxLocals := 5, code := jdk_52_method_14_code, exceptionTable := #[], attributes := #[] }
def k10m6 : Method := { name := "toBytes", desc := "([CII)[B", sig := { parameters := [(.array .char), .int, .int], returnType := some (.array .byte) }, accessFlags := 9, code := some k10c6 }
def k10c7 : Code := { maxStack := 2, maxLocals := 2, code := jdk_52_method_15_code, exceptionTable := #[], attributes := #[] }
def k10m7 : Method := { name := "coderFromArrayLen", desc := "([BI)B", sig := { parameters := [(.array .byte), .int], returnType := some .byte }, accessFlags := 8, code := some k10c7 }
def k10c8 : Code := { maxStack := 5, maxLocals := 6, code := jdk_52_method_16_code, exceptionTable := #[], attributes := #[] }
def k10m8 : Method := { name := "compress", desc := "([CII)[B", sig := { parameters := [(.array .char), .int, .int], returnType := some (.array .byte) }, accessFlags := 9, code := some k10c8 }
def k10c9 : Code := { maxStack := 3, maxLocals := 7, code := jdk_52_method_21_code, exceptionTable := #[], attributes := #[] }
def k10m9 : Method := { name := "compress", desc := "([CI[BII)I", sig := { parameters := [(.array .char), .int, (.array .byte), .int, .int], returnType := some .int }, accessFlags := 9, code := some k10c9 }
def k10c10 : Code := { maxStack := 3, maxLocals := 2, code := jdk_52_method_24_code, exceptionTable := #[], attributes := #[] }
def k10m10 : Method := { name := "toBytes", desc := "(C)[B", sig := { parameters := [.char], returnType := some (.array .byte) }, accessFlags := 9, code := some k10c10 }
def k10c11 : Code := { maxStack := 4, maxLocals := 4, code := jdk_52_method_40_code, exceptionTable := #[], attributes := #[] }
def k10m11 : Method := { name := "indexOf", desc := "([BIII)I", sig := { parameters := [(.array .byte), .int, .int, .int], returnType := some .int }, accessFlags := 9, code := some k10c11 }
def k10c12 : Code := { maxStack := 4, maxLocals := 4, code := jdk_52_method_47_code, exceptionTable := #[], attributes := #[] }
def k10m12 : Method := { name := "indexOfChar", desc := "([BIII)I", sig := { parameters := [(.array .byte), .int, .int, .int], returnType := some .int }, accessFlags := 10, code := some k10c12 }
def k10c13 : Code := { maxStack := 2, maxLocals := 5, code := jdk_52_method_48_code, exceptionTable := #[], attributes := #[] }
def k10m13 : Method := { name := "indexOfCharUnsafe", desc := "([BIII)I", sig := { parameters := [(.array .byte), .int, .int, .int], returnType := some .int }, accessFlags := 10, code := some k10c13 }
def k10c14 : Code := { maxStack := 3, maxLocals := 3, code := jdk_52_method_93_code, exceptionTable := #[], attributes := #[] }
def k10m14 : Method := { name := "checkBoundsBeginEnd", desc := "(II[B)V", sig := { parameters := [.int, .int, (.array .byte)], returnType := none }, accessFlags := 9, code := some k10c14 }
/-- java/lang/StringUTF16 -/
def k10 : Class := { plain "java/lang/StringUTF16" (some 0) with
  accessFlags := 48
  interfaces := #[]
  cf := some (fileOf pool10 12 #[.nestMembers #[627, 629, 369]] #[{ accessFlags := 0, nameIndex := 9, descriptorIndex := 10, attributes := #[] }, { accessFlags := 9, nameIndex := 109, descriptorIndex := 110, attributes := #[] }, { accessFlags := 9, nameIndex := 15, descriptorIndex := 16, attributes := #[] }, { accessFlags := 8, nameIndex := 113, descriptorIndex := 114, attributes := #[] }, { accessFlags := 8, nameIndex := 73, descriptorIndex := 74, attributes := #[] }, { accessFlags := 9, nameIndex := 50, descriptorIndex := 51, attributes := #[] }, { accessFlags := 9, nameIndex := 121, descriptorIndex := 122, attributes := #[] }, { accessFlags := 8, nameIndex := 261, descriptorIndex := 262, attributes := #[] }, { accessFlags := 9, nameIndex := 117, descriptorIndex := 122, attributes := #[] }, { accessFlags := 9, nameIndex := 117, descriptorIndex := 118, attributes := #[] }, { accessFlags := 9, nameIndex := 121, descriptorIndex := 475, attributes := #[] }, { accessFlags := 9, nameIndex := 268, descriptorIndex := 231, attributes := #[] }, { accessFlags := 10, nameIndex := 230, descriptorIndex := 231, attributes := #[] }, { accessFlags := 10, nameIndex := 246, descriptorIndex := 231, attributes := #[] }, { accessFlags := 9, nameIndex := 98, descriptorIndex := 99, attributes := #[] }] 48 6 #[] #[{ accessFlags := 26, nameIndex := 61, descriptorIndex := 62, attributes := #[] }, { accessFlags := 26, nameIndex := 65, descriptorIndex := 62, attributes := #[] }, { accessFlags := 24, nameIndex := 430, descriptorIndex := 62, attributes := #[] }, { accessFlags := 4120, nameIndex := 46, descriptorIndex := 47, attributes := #[] }])
  fields := #[{ name := "HI_BYTE_SHIFT", type := .int, accessFlags := 26, slot := 0, constantValue := 0 }, { name := "LO_BYTE_SHIFT", type := .int, accessFlags := 26, slot := 1, constantValue := 0 }, { name := "MAX_LENGTH", type := .int, accessFlags := 24, slot := 2, constantValue := 0 }, { name := "$assertionsDisabled", type := .boolean, accessFlags := 4120, slot := 3, constantValue := 0 }]
  methods := #[k10m0, k10m1, k10m2, k10m3, k10m4, k10m5, k10m6, k10m7, k10m8, k10m9, k10m10, k10m11, k10m12, k10m13, k10m14]
  instanceTypes := #[]
  staticTypes := #[.int, .int, .int, .boolean]
  resolved := Array.replicate 635 none
  statics := some 1 }

def pool11 : Array CpInfo := pool [(4, .class_ 6), (1, u "java/lang/Object"), (0, u "<init>"), (0, u "()V"), (5, .class_ 16), (1, u "java/lang/StringLatin1"), (21, .methodref 39 40), (0, .class_ 41), (0, .nameAndType 42 43), (0, u "java/lang/Math"), (0, u "min"), (0, u "(II)I"), (44, .methodref 14 89), (0, .nameAndType 90 91), (0, u "canEncode"), (0, u "(I)Z"), (0, .methodref 39 93), (0, .nameAndType 94 43), (0, u "max"), (0, .methodref 14 96), (0, .nameAndType 97 98), (0, u "indexOfChar"), (0, u "([BIII)I"), (2, u "indexOf"), (3, u "(C)Z"), (15, u "$assertionsDisabled"), (0, u "Z"), (98, .class_ 223), (1, u "java/lang/StringLatin1$LinesSpliterator"), (156, u "toBytes"), (1, u "(C)[B"), (7, .class_ 391), (0, u "java/lang/StringLatin1$CharsSpliterator")] 3

def k11m0 : Method := { name := "<init>", desc := "()V", sig := { parameters := [], returnType := none }, accessFlags := 0, code := none }
def k11c1 : Code := { maxStack := 2, maxLocals := 1, code := jdk_43_method_3_code, exceptionTable := #[], attributes := #[] }
def k11m1 : Method := { name := "canEncode", desc := "(C)Z", sig := { parameters := [.char], returnType := some .boolean }, accessFlags := 9, code := some k11c1 }
def k11c2 : Code := { maxStack := 2, maxLocals := 1, code := jdk_43_method_4_code, exceptionTable := #[], attributes := #[] }
def k11m2 : Method := { name := "canEncode", desc := "(I)Z", sig := { parameters := [.int], returnType := some .boolean }, accessFlags := 9, code := some k11c2 }
def k11c3 : Code := { maxStack := 4, maxLocals := 4, code := jdk_43_method_22_code, exceptionTable := #[], attributes := #[] }
def k11m3 : Method := { name := "indexOf", desc := "([BIII)I", sig := { parameters := [(.array .byte), .int, .int, .int], returnType := some .int }, accessFlags := 9, code := some k11c3 }
def k11c4 : Code := { maxStack := 2, maxLocals := 6, code := jdk_43_method_23_code, exceptionTable := #[], attributes := #[] }
def k11m4 : Method := { name := "indexOfChar", desc := "([BIII)I", sig := { parameters := [(.array .byte), .int, .int, .int], returnType := some .int }, accessFlags := 10, code := some k11c4 }
def k11c5 : Code := { maxStack := 4, maxLocals := 1, code := jdk_43_method_46_code, exceptionTable := #[], attributes := #[] }
def k11m5 : Method := { name := "toBytes", desc := "(C)[B", sig := { parameters := [.char], returnType := some (.array .byte) }, accessFlags := 9, code := some k11c5 }
/-- java/lang/StringLatin1 -/
def k11 : Class := { plain "java/lang/StringLatin1" (some 0) with
  accessFlags := 48
  interfaces := #[]
  cf := some (fileOf pool11 14 #[.nestMembers #[390, 221]] #[{ accessFlags := 0, nameIndex := 7, descriptorIndex := 8, attributes := #[] }, { accessFlags := 9, nameIndex := 90, descriptorIndex := 105, attributes := #[] }, { accessFlags := 9, nameIndex := 90, descriptorIndex := 91, attributes := #[] }, { accessFlags := 9, nameIndex := 101, descriptorIndex := 98, attributes := #[] }, { accessFlags := 10, nameIndex := 97, descriptorIndex := 98, attributes := #[] }, { accessFlags := 9, nameIndex := 380, descriptorIndex := 382, attributes := #[] }] 48 4 #[] #[{ accessFlags := 4120, nameIndex := 121, descriptorIndex := 122, attributes := #[] }])
  fields := #[{ name := "$assertionsDisabled", type := .boolean, accessFlags := 4120, slot := 0, constantValue := 0 }]
  methods := #[k11m0, k11m1, k11m2, k11m3, k11m4, k11m5]
  instanceTypes := #[]
  staticTypes := #[.boolean]
  resolved := Array.replicate 395 none
  statics := none }

def pool12 : Array CpInfo := pool [(1, .class_ 2), (0, u "java/lang/Math"), (1, .class_ 6), (1, u "java/lang/Object"), (0, u "<init>"), (0, u "()V"), (89, .class_ 100), (1, u "java/lang/Math$RandomNumberGeneratorHolder"), (71, u "negativeZeroFloatBits"), (0, u "J"), (2, u "negativeZeroDoubleBits"), (21, u "max"), (2, u "min"), (43, u "$assertionsDisabled"), (0, u "Z"), (88, u "(II)I"), (2, u "twoToTheDoubleScaleDown"), (0, u "D"), (4, u "twoToTheDoubleScaleUp"), (9, u "E"), (3, u "PI"), (2, u "TAU"), (2, u "DEGREES_TO_RADIANS"), (0, u "RADIANS_TO_DEGREES")] 94

def k12m0 : Method := { name := "<init>", desc := "()V", sig := { parameters := [], returnType := none }, accessFlags := 2, code := none }
def k12c1 : Code := { maxStack := 2, maxLocals := 2, code := jdk_29_method_65_code, exceptionTable := #[], attributes := #[] }
def k12m1 : Method := { name := "max", desc := "(II)I", sig := { parameters := [.int, .int], returnType := some .int }, accessFlags := 9, code := some k12c1 }
def k12c2 : Code := { maxStack := 2, maxLocals := 2, code := jdk_29_method_69_code, exceptionTable := #[], attributes := #[] }
def k12m2 : Method := { name := "min", desc := "(II)I", sig := { parameters := [.int, .int], returnType := some .int }, accessFlags := 9, code := some k12c2 }
/-- java/lang/Math -/
def k12 : Class := { plain "java/lang/Math" (some 0) with
  accessFlags := 49
  interfaces := #[]
  cf := some (fileOf pool12 1 #[.nestMembers #[98]] #[{ accessFlags := 2, nameIndex := 7, descriptorIndex := 8, attributes := #[] }, { accessFlags := 9, nameIndex := 198, descriptorIndex := 335, attributes := #[] }, { accessFlags := 9, nameIndex := 201, descriptorIndex := 335, attributes := #[] }] 49 4 #[] #[{ accessFlags := 25, nameIndex := 354, descriptorIndex := 339, attributes := #[] }, { accessFlags := 25, nameIndex := 358, descriptorIndex := 339, attributes := #[] }, { accessFlags := 25, nameIndex := 361, descriptorIndex := 339, attributes := #[] }, { accessFlags := 26, nameIndex := 364, descriptorIndex := 339, attributes := #[] }, { accessFlags := 26, nameIndex := 365, descriptorIndex := 339, attributes := #[] }, { accessFlags := 26, nameIndex := 172, descriptorIndex := 173, attributes := #[] }, { accessFlags := 26, nameIndex := 176, descriptorIndex := 173, attributes := #[] }, { accessFlags := 8, nameIndex := 344, descriptorIndex := 339, attributes := #[] }, { accessFlags := 8, nameIndex := 338, descriptorIndex := 339, attributes := #[] }, { accessFlags := 4120, nameIndex := 245, descriptorIndex := 246, attributes := #[] }])
  fields := #[{ name := "E", type := .double, accessFlags := 25, slot := 0, constantValue := 0 }, { name := "PI", type := .double, accessFlags := 25, slot := 1, constantValue := 0 }, { name := "TAU", type := .double, accessFlags := 25, slot := 2, constantValue := 0 }, { name := "DEGREES_TO_RADIANS", type := .double, accessFlags := 26, slot := 3, constantValue := 0 }, { name := "RADIANS_TO_DEGREES", type := .double, accessFlags := 26, slot := 4, constantValue := 0 }, { name := "negativeZeroFloatBits", type := .long, accessFlags := 26, slot := 5, constantValue := 0 }, { name := "negativeZeroDoubleBits", type := .long, accessFlags := 26, slot := 6, constantValue := 0 }, { name := "twoToTheDoubleScaleUp", type := .double, accessFlags := 8, slot := 7, constantValue := 0 }, { name := "twoToTheDoubleScaleDown", type := .double, accessFlags := 8, slot := 8, constantValue := 0 }, { name := "$assertionsDisabled", type := .boolean, accessFlags := 4120, slot := 9, constantValue := 0 }]
  methods := #[k12m0, k12m1, k12m2]
  instanceTypes := #[]
  staticTypes := #[.double, .double, .double, .double, .double, .long, .long, .double, .double, .boolean]
  resolved := Array.replicate 460 none
  statics := none }

def pool13 : Array CpInfo := pool [(2, .class_ 4), (1, u "java/lang/Object"), (0, u "<init>"), (0, u "()V"), (17, .class_ 26), (1, u "jdk/internal/util/Preconditions"), (20, u "checkFromToIndex"), (7, .class_ 56), (0, u "jdk/internal/util/Preconditions$4"), (57, .class_ 115), (0, u "jdk/internal/util/Preconditions$1"), (7, u "SIOOBE_FORMATTER"), (0, u "Ljava/util/function/BiFunction;"), (0, .class_ 126), (0, u "jdk/internal/util/Preconditions$2"), (3, u "AIOOBE_FORMATTER"), (0, .class_ 132), (0, u "jdk/internal/util/Preconditions$3"), (3, u "IOOBE_FORMATTER"), (46, u "(IIILjava/util/function/BiFunction;)I")] 10

def k13m0 : Method := { name := "<init>", desc := "()V", sig := { parameters := [], returnType := none }, accessFlags := 1, code := none }
def k13c1 : Code := { maxStack := 4, maxLocals := 4, code := jdk_41_method_12_code, exceptionTable := #[], attributes := #[] }
def k13m1 : Method := { name := "checkFromToIndex", desc := "(IIILjava/util/function/BiFunction;)I", sig := { parameters := [.int, .int, .int, (.object "java/util/function/BiFunction")], returnType := some .int }, accessFlags := 9, code := some k13c1 }
/-- jdk/internal/util/Preconditions -/
def k13 : Class := { plain "jdk/internal/util/Preconditions" (some 0) with
  accessFlags := 33
  interfaces := #[]
  cf := some (fileOf pool13 24 #[.nestMembers #[55, 131, 125, 114]] #[{ accessFlags := 1, nameIndex := 5, descriptorIndex := 6, attributes := #[] }, { accessFlags := 9, nameIndex := 47, descriptorIndex := 183, attributes := #[] }] 33 2 #[] #[{ accessFlags := 25, nameIndex := 123, descriptorIndex := 124, attributes := #[] }, { accessFlags := 25, nameIndex := 130, descriptorIndex := 124, attributes := #[] }, { accessFlags := 25, nameIndex := 136, descriptorIndex := 124, attributes := #[] }])
  fields := #[{ name := "SIOOBE_FORMATTER", type := (.object "java/util/function/BiFunction"), accessFlags := 25, slot := 0, constantValue := 0 }, { name := "AIOOBE_FORMATTER", type := (.object "java/util/function/BiFunction"), accessFlags := 25, slot := 1, constantValue := 0 }, { name := "IOOBE_FORMATTER", type := (.object "java/util/function/BiFunction"), accessFlags := 25, slot := 2, constantValue := 0 }]
  methods := #[k13m0, k13m1]
  instanceTypes := #[]
  staticTypes := #[(.object "java/util/function/BiFunction"), (.object "java/util/function/BiFunction"), (.object "java/util/function/BiFunction")]
  resolved := Array.replicate 194 none
  statics := some 2 }

def pool14 : Array CpInfo := pool [(9, u "<init>"), (6, .class_ 18), (1, u "java/lang/Object"), (0, u "()V"), (1, .class_ 23), (1, u "jdk/internal/util/ArraysSupport"), (0, u "LOG2_ARRAY_LONG_INDEX_SCALE"), (0, u "I"), (2, u "U"), (0, u "Ljdk/internal/misc/Unsafe;"), (8, u "BIG_ENDIAN"), (0, u "Z"), (8, u "LOG2_BYTE_BIT_SIZE"), (4, u "LOG2_ARRAY_INT_INDEX_SCALE"), (54, u "JLA"), (0, u "Ljdk/internal/access/JavaLangAccess;"), (11, u "LOG2_ARRAY_BOOLEAN_INDEX_SCALE"), (9, u "LOG2_ARRAY_BYTE_INDEX_SCALE"), (5, u "LOG2_ARRAY_CHAR_INDEX_SCALE"), (5, u "LOG2_ARRAY_SHORT_INDEX_SCALE"), (18, u "LOG2_ARRAY_FLOAT_INDEX_SCALE"), (24, u "LOG2_ARRAY_DOUBLE_INDEX_SCALE"), (89, u "T_BOOLEAN"), (2, u "T_CHAR"), (1, u "T_FLOAT"), (1, u "T_DOUBLE"), (1, u "T_BYTE"), (1, u "T_SHORT"), (1, u "T_INT"), (1, u "T_LONG"), (1, u "SOFT_MAX_ARRAY_LENGTH")] 83

def k14m0 : Method := { name := "<init>", desc := "()V", sig := { parameters := [], returnType := none }, accessFlags := 2, code := none }
/-- jdk/internal/util/ArraysSupport -/
def k14 : Class := { plain "jdk/internal/util/ArraysSupport" (some 0) with
  accessFlags := 33
  interfaces := #[]
  cf := some (fileOf pool14 21 #[] #[{ accessFlags := 2, nameIndex := 9, descriptorIndex := 19, attributes := #[] }] 33 16 #[] #[{ accessFlags := 24, nameIndex := 28, descriptorIndex := 29, attributes := #[] }, { accessFlags := 26, nameIndex := 38, descriptorIndex := 39, attributes := #[] }, { accessFlags := 25, nameIndex := 121, descriptorIndex := 25, attributes := #[] }, { accessFlags := 25, nameIndex := 131, descriptorIndex := 25, attributes := #[] }, { accessFlags := 25, nameIndex := 137, descriptorIndex := 25, attributes := #[] }, { accessFlags := 25, nameIndex := 143, descriptorIndex := 25, attributes := #[] }, { accessFlags := 25, nameIndex := 53, descriptorIndex := 25, attributes := #[] }, { accessFlags := 25, nameIndex := 24, descriptorIndex := 25, attributes := #[] }, { accessFlags := 25, nameIndex := 162, descriptorIndex := 25, attributes := #[] }, { accessFlags := 25, nameIndex := 187, descriptorIndex := 25, attributes := #[] }, { accessFlags := 26, nameIndex := 48, descriptorIndex := 25, attributes := #[] }, { accessFlags := 25, nameIndex := 277, descriptorIndex := 25, attributes := #[] }, { accessFlags := 25, nameIndex := 280, descriptorIndex := 25, attributes := #[] }, { accessFlags := 25, nameIndex := 282, descriptorIndex := 25, attributes := #[] }, { accessFlags := 25, nameIndex := 284, descriptorIndex := 25, attributes := #[] }, { accessFlags := 25, nameIndex := 286, descriptorIndex := 25, attributes := #[] }, { accessFlags := 25, nameIndex := 288, descriptorIndex := 25, attributes := #[] }, { accessFlags := 25, nameIndex := 290, descriptorIndex := 25, attributes := #[] }, { accessFlags := 25, nameIndex := 292, descriptorIndex := 25, attributes := #[] }, { accessFlags := 26, nameIndex := 108, descriptorIndex := 109, attributes := #[] }, { accessFlags := 25, nameIndex := 294, descriptorIndex := 25, attributes := #[] }])
  fields := #[{ name := "U", type := (.object "jdk/internal/misc/Unsafe"), accessFlags := 24, slot := 0, constantValue := 0 }, { name := "BIG_ENDIAN", type := .boolean, accessFlags := 26, slot := 1, constantValue := 0 }, { name := "LOG2_ARRAY_BOOLEAN_INDEX_SCALE", type := .int, accessFlags := 25, slot := 2, constantValue := 0 }, { name := "LOG2_ARRAY_BYTE_INDEX_SCALE", type := .int, accessFlags := 25, slot := 3, constantValue := 0 }, { name := "LOG2_ARRAY_CHAR_INDEX_SCALE", type := .int, accessFlags := 25, slot := 4, constantValue := 0 }, { name := "LOG2_ARRAY_SHORT_INDEX_SCALE", type := .int, accessFlags := 25, slot := 5, constantValue := 0 }, { name := "LOG2_ARRAY_INT_INDEX_SCALE", type := .int, accessFlags := 25, slot := 6, constantValue := 0 }, { name := "LOG2_ARRAY_LONG_INDEX_SCALE", type := .int, accessFlags := 25, slot := 7, constantValue := 0 }, { name := "LOG2_ARRAY_FLOAT_INDEX_SCALE", type := .int, accessFlags := 25, slot := 8, constantValue := 0 }, { name := "LOG2_ARRAY_DOUBLE_INDEX_SCALE", type := .int, accessFlags := 25, slot := 9, constantValue := 0 }, { name := "LOG2_BYTE_BIT_SIZE", type := .int, accessFlags := 26, slot := 10, constantValue := 0 }, { name := "T_BOOLEAN", type := .int, accessFlags := 25, slot := 11, constantValue := 0 }, { name := "T_CHAR", type := .int, accessFlags := 25, slot := 12, constantValue := 0 }, { name := "T_FLOAT", type := .int, accessFlags := 25, slot := 13, constantValue := 0 }, { name := "T_DOUBLE", type := .int, accessFlags := 25, slot := 14, constantValue := 0 }, { name := "T_BYTE", type := .int, accessFlags := 25, slot := 15, constantValue := 0 }, { name := "T_SHORT", type := .int, accessFlags := 25, slot := 16, constantValue := 0 }, { name := "T_INT", type := .int, accessFlags := 25, slot := 17, constantValue := 0 }, { name := "T_LONG", type := .int, accessFlags := 25, slot := 18, constantValue := 0 }, { name := "JLA", type := (.object "jdk/internal/access/JavaLangAccess"), accessFlags := 26, slot := 19, constantValue := 0 }, { name := "SOFT_MAX_ARRAY_LENGTH", type := .int, accessFlags := 25, slot := 20, constantValue := 0 }]
  methods := #[k14m0]
  instanceTypes := #[]
  staticTypes := #[(.object "jdk/internal/misc/Unsafe"), .boolean, .int, .int, .int, .int, .int, .int, .int, .int, .int, .int, .int, .int, .int, .int, .int, .int, .int, (.object "jdk/internal/access/JavaLangAccess"), .int]
  resolved := Array.replicate 378 none
  statics := none }

def pool15 : Array CpInfo := pool [(1, u "java/lang/Cloneable"), (0, .class_ 1), (0, u "java/lang/Object"), (0, .class_ 3)] 3

/-- java/lang/Cloneable -/
def k15 : Class := { plain "java/lang/Cloneable" (some 0) with
  accessFlags := 1537
  interfaces := #[]
  cf := some (fileOf pool15 2 #[] #[] 1537 4 #[] #[])
  fields := #[]
  methods := #[]
  instanceTypes := #[]
  staticTypes := #[]
  resolved := Array.replicate 8 none
  statics := none }

/-- the primitive byte -/
def k16 : Class := { plain "byte" none with kind := .primitive 'B', accessFlags := 0x411 }
/-- [B -/
def k17 : Class := { plain "[B" (some 0) with kind := .array 16 .byte, interfaces := #[15, 2], accessFlags := 1041 }

/-- the primitive char -/
def k18 : Class := { plain "char" none with kind := .primitive 'C', accessFlags := 0x411 }
/-- [C -/
def k19 : Class := { plain "[C" (some 0) with kind := .array 18 .char, interfaces := #[15, 2], accessFlags := 1041 }

/-- the primitive int -/
def k20 : Class := { plain "int" none with kind := .primitive 'I', accessFlags := 0x411 }
/-- [I -/
def k21 : Class := { plain "[I" (some 0) with kind := .array 20 .int, interfaces := #[15, 2], accessFlags := 1041 }

def heap : Heap := #[{ cls := 7, slots := #[.long 0, .int 1, .null, .int 0, .null, .int 0, .int 0], vm := .statics 7 },
  { cls := 10, slots := #[.int 0, .int 8, .int 0, .int 1], vm := .statics 10 },
  { cls := 13, slots := #[.null, .null, .null], vm := .statics 13 }]
def classes : Array Class := #[k0, k1, k2, k3, k4, k5, k6, k7, k8, k9, k10, k11, k12, k13, k14, k15, k16, k17, k18, k19, k20, k21]
def interned : List (Array UInt16 × Addr) := []
def slotsUsed : Nat := 14
def theMethod : MethodId := ⟨1, 3⟩
def args0 : Array Value := #[.int 1, .int 2, .int 3, .int 4, .int 5]
def aboutOver (below : List Frame) : State where
  vm := { classes := classes, interned := interned.toArray }
  heap := heap
  slotsUsed := slotsUsed
  threads := #[{ frames := .invoking theMethod args0 :: below }]
def below0 : List Frame := [.native { method := ⟨0, 0⟩, args := #[] }]
def about1 : State := aboutOver below0
def p0 : Program := .bare "" "" ""
def e0 : Env := launch0.env 0 0 0
theorem w_frames : about1.frames = Frame.invoking theMethod args0 :: below0 := rfl
set_option maxRecDepth 65536 in
theorem w_args : argsFit about1.vm theMethod args0 = true := by decide +kernel
set_option maxRecDepth 65536 in
theorem w_heap : heapFits about1 = true := by decide +kernel
set_option maxRecDepth 65536 in
theorem w_runnable : about1.curStatus? = some .runnable := by decide +kernel
set_option maxRecDepth 65536 in
theorem w_alone : about1.alone = true := by decide +kernel
set_option maxRecDepth 65536 in
theorem w_named : about1.methodNamed? x = some theMethod := by decide +kernel
set_option maxRecDepth 65536 in
theorem w_hears : about1.hears theMethod below0 = true := by decide +kernel
set_option maxRecDepth 65536 in
theorem w_ripe : about1.ripe theMethod args0 below0 = true := by decide +kernel
theorem w_running : about1.status = .running := rfl
set_option maxRecDepth 65536 in
theorem w_room : about1.hasRoom e0.platform room_1 = true :=
  launch0.hasRoom_least _ room_1 (by decide +kernel) (by decide +kernel) (by decide +kernel) (by decide +kernel) (by decide +kernel) (by decide +kernel)
theorem allAtoms_all (ts : List Jvm.Cond) (a : Array Jvm.Value) (st : Jvm.State) : (allAtoms ts).before a st = ts.all (fun c => c.before a st) := by
  induction ts with
  | nil => rfl
  | cons c t ih =>
    show (Jvm.Cond.and c (allAtoms t)).before a st = _
    rw [Jvm.Cond.before_and, ih, List.all_cons]
def words1 : List Jvm.Cond := Jvm.Cond.code x code maxLocals ret :: tables_1
/-- a 'code' word, met by the world's own term for the bytes: nothing is compared byte by byte -/
theorem code_word {y : MethodName} {bytes : ByteArray} {mx : Nat} {rt : Option FieldType} {a : Array Value} {s : State} {m : MethodId} {meth : Method} {c : Code} (h1 : s.methodNamed? y = some m) (h2 : s.vm.method? m = some meth) (h3 : meth.code = some c) (h4 : c.code = bytes)
    (h5 : (c.maxLocals == mx && c.exceptionTable.isEmpty && decide (c.maxStack ≤ mostOperands) && decide (meth.sig.returnType = rt) && !meth.locks && decide (parseMethodDescriptor y.desc = some meth.sig)) = true) : (Jvm.Cond.code y bytes mx rt).before a s = true := by
  simp only [Bool.and_eq_true, beq_iff_eq, Bool.not_eq_true', decide_eq_true_eq] at h5
  obtain ⟨⟨⟨⟨⟨g1, g2⟩, g3⟩, g4⟩, g5⟩, g6⟩ := h5
  simp [Cond.before, Cond.holds, Cond.value, h1, h2, h3, h4, g1, g2, g3, g4, g5, g6]
def isCode : Jvm.Cond → Bool
  | .code _ _ _ _ => true
  | _ => false
theorem all_split {L : List Jvm.Cond} {P : Jvm.Cond → Bool} (h1 : L.all (fun c => isCode c || P c) = true) (h2 : ∀ c ∈ L.filter isCode, P c = true) : L.all P = true := by
  refine List.all_eq_true.mpr fun c hc => ?_
  have h := List.all_eq_true.mp h1 c hc
  rcases Bool.eq_false_or_eq_true (isCode c) with hi | hi
  · exact h2 c (List.mem_filter.mpr ⟨hc, hi⟩)
  · simpa [hi] using h
set_option maxRecDepth 65536 in
theorem w_c0 : (Jvm.Cond.code x code maxLocals ret).before args0 about1 = true := code_word (m := ⟨1, 3⟩) (meth := k1m3) (c := k1c3) (by decide +kernel) rfl rfl rfl (by decide +kernel)
set_option maxRecDepth 65536 in
theorem w_c1 : (Jvm.Cond.code ({ cls := "com/example/varigraph/varigraph/generate/OperationCanNamePinLaw", name := "pick", desc := "(I)C" } : Jvm.MethodName) method_2_code (2 : Nat) (Option.some Jvm.ClassFile.FieldType.char)).before args0 about1 = true := code_word (m := ⟨1, 1⟩) (meth := k1m1) (c := k1c1) (by decide +kernel) rfl rfl rfl (by decide +kernel)
set_option maxRecDepth 65536 in
theorem w_c2 : (Jvm.Cond.code ({ cls := "java/lang/String", name := "<init>", desc := "([C)V" } : Jvm.MethodName) jdk_42_method_3_code (2 : Nat) (Option.none : Option Jvm.ClassFile.FieldType)).before args0 about1 = true := code_word (m := ⟨7, 1⟩) (meth := k7m1) (c := k7c1) (by decide +kernel) rfl rfl rfl (by decide +kernel)
set_option maxRecDepth 65536 in
theorem w_c3 : (Jvm.Cond.code ({ cls := "java/lang/String", name := "<init>", desc := "([CIILjava/lang/Void;)V" } : Jvm.MethodName) jdk_42_method_149_code (6 : Nat) (Option.none : Option Jvm.ClassFile.FieldType)).before args0 about1 = true := code_word (m := ⟨7, 7⟩) (meth := k7m7) (c := k7c7) (by decide +kernel) rfl rfl rfl (by decide +kernel)
set_option maxRecDepth 65536 in
theorem w_c4 : (Jvm.Cond.code ({ cls := "java/lang/Object", name := "<init>", desc := "()V" } : Jvm.MethodName) object_method_1_code (1 : Nat) (Option.none : Option Jvm.ClassFile.FieldType)).before args0 about1 = true := code_word (m := ⟨0, 0⟩) (meth := k0m0) (c := k0c0) (by decide +kernel) rfl rfl rfl (by decide +kernel)
set_option maxRecDepth 65536 in
theorem w_c5 : (Jvm.Cond.code ({ cls := "com/example/varigraph/varigraph/generate/Operation", name := "canName", desc := "(Ljava/lang/String;)Z" } : Jvm.MethodName) prog_62_method_2_code (1 : Nat) (Option.some Jvm.ClassFile.FieldType.boolean)).before args0 about1 = true := code_word (m := ⟨9, 0⟩) (meth := k9m0) (c := k9c0) (by decide +kernel) rfl rfl rfl (by decide +kernel)
set_option maxRecDepth 65536 in
theorem w_c6 : (Jvm.Cond.code ({ cls := "java/lang/String", name := "isEmpty", desc := "()Z" } : Jvm.MethodName) jdk_42_method_55_code (1 : Nat) (Option.some Jvm.ClassFile.FieldType.boolean)).before args0 about1 = true := code_word (m := ⟨7, 3⟩) (meth := k7m3) (c := k7c3) (by decide +kernel) rfl rfl rfl (by decide +kernel)
set_option maxRecDepth 65536 in
theorem w_c7 : (Jvm.Cond.code ({ cls := "java/lang/StringUTF16", name := "compress", desc := "([CII)[B" } : Jvm.MethodName) jdk_52_method_16_code (6 : Nat) (Option.some (Jvm.ClassFile.FieldType.array Jvm.ClassFile.FieldType.byte))).before args0 about1 = true := code_word (m := ⟨10, 8⟩) (meth := k10m8) (c := k10c8) (by decide +kernel) rfl rfl rfl (by decide +kernel)
set_option maxRecDepth 65536 in
theorem w_c8 : (Jvm.Cond.code ({ cls := "java/lang/StringUTF16", name := "compress", desc := "([CI[BII)I" } : Jvm.MethodName) jdk_52_method_21_code (7 : Nat) (Option.some Jvm.ClassFile.FieldType.int)).before args0 about1 = true := code_word (m := ⟨10, 9⟩) (meth := k10m9) (c := k10c9) (by decide +kernel) rfl rfl rfl (by decide +kernel)
set_option maxRecDepth 65536 in
theorem w_c9 : (Jvm.Cond.code ({ cls := "java/lang/StringUTF16", name := "coderFromArrayLen", desc := "([BI)B" } : Jvm.MethodName) jdk_52_method_15_code (2 : Nat) (Option.some Jvm.ClassFile.FieldType.byte)).before args0 about1 = true := code_word (m := ⟨10, 7⟩) (meth := k10m7) (c := k10c7) (by decide +kernel) rfl rfl rfl (by decide +kernel)
set_option maxRecDepth 65536 in
theorem w_c10 : (Jvm.Cond.code ({ cls := "com/example/varigraph/varigraph/generate/OperationCanNamePinLaw", name := "ok", desc := "(C)Z" } : Jvm.MethodName) method_3_code (1 : Nat) (Option.some Jvm.ClassFile.FieldType.boolean)).before args0 about1 = true := code_word (m := ⟨1, 2⟩) (meth := k1m2) (c := k1c2) (by decide +kernel) rfl rfl rfl (by decide +kernel)
set_option maxRecDepth 65536 in
theorem w_c11 : (Jvm.Cond.code ({ cls := "java/lang/String", name := "indexOf", desc := "(I)I" } : Jvm.MethodName) jdk_42_method_79_code (2 : Nat) (Option.some Jvm.ClassFile.FieldType.int)).before args0 about1 = true := code_word (m := ⟨7, 4⟩) (meth := k7m4) (c := k7c4) (by decide +kernel) rfl rfl rfl (by decide +kernel)
set_option maxRecDepth 65536 in
theorem w_c12 : (Jvm.Cond.code ({ cls := "java/lang/String", name := "indexOf", desc := "(II)I" } : Jvm.MethodName) jdk_42_method_80_code (3 : Nat) (Option.some Jvm.ClassFile.FieldType.int)).before args0 about1 = true := code_word (m := ⟨7, 5⟩) (meth := k7m5) (c := k7c5) (by decide +kernel) rfl rfl rfl (by decide +kernel)
set_option maxRecDepth 65536 in
theorem w_c13 : (Jvm.Cond.code ({ cls := "java/lang/String", name := "isLatin1", desc := "()Z" } : Jvm.MethodName) jdk_42_method_154_code (1 : Nat) (Option.some Jvm.ClassFile.FieldType.boolean)).before args0 about1 = true := code_word (m := ⟨7, 10⟩) (meth := k7m10) (c := k7c10) (by decide +kernel) rfl rfl rfl (by decide +kernel)
set_option maxRecDepth 65536 in
theorem w_c14 : (Jvm.Cond.code ({ cls := "java/lang/String", name := "length", desc := "()I" } : Jvm.MethodName) jdk_42_method_54_code (1 : Nat) (Option.some Jvm.ClassFile.FieldType.int)).before args0 about1 = true := code_word (m := ⟨7, 2⟩) (meth := k7m2) (c := k7c2) (by decide +kernel) rfl rfl rfl (by decide +kernel)
set_option maxRecDepth 65536 in
theorem w_c15 : (Jvm.Cond.code ({ cls := "java/lang/String", name := "coder", desc := "()B" } : Jvm.MethodName) jdk_42_method_152_code (1 : Nat) (Option.some Jvm.ClassFile.FieldType.byte)).before args0 about1 = true := code_word (m := ⟨7, 9⟩) (meth := k7m9) (c := k7c9) (by decide +kernel) rfl rfl rfl (by decide +kernel)
set_option maxRecDepth 65536 in
theorem w_c16 : (Jvm.Cond.code ({ cls := "java/lang/StringLatin1", name := "indexOf", desc := "([BIII)I" } : Jvm.MethodName) jdk_43_method_22_code (4 : Nat) (Option.some Jvm.ClassFile.FieldType.int)).before args0 about1 = true := code_word (m := ⟨11, 3⟩) (meth := k11m3) (c := k11c3) (by decide +kernel) rfl rfl rfl (by decide +kernel)
set_option maxRecDepth 65536 in
theorem w_c17 : (Jvm.Cond.code ({ cls := "java/lang/StringLatin1", name := "canEncode", desc := "(I)Z" } : Jvm.MethodName) jdk_43_method_4_code (1 : Nat) (Option.some Jvm.ClassFile.FieldType.boolean)).before args0 about1 = true := code_word (m := ⟨11, 2⟩) (meth := k11m2) (c := k11c2) (by decide +kernel) rfl rfl rfl (by decide +kernel)
set_option maxRecDepth 65536 in
theorem w_c18 : (Jvm.Cond.code ({ cls := "java/lang/Math", name := "max", desc := "(II)I" } : Jvm.MethodName) jdk_29_method_65_code (2 : Nat) (Option.some Jvm.ClassFile.FieldType.int)).before args0 about1 = true := code_word (m := ⟨12, 1⟩) (meth := k12m1) (c := k12c1) (by decide +kernel) rfl rfl rfl (by decide +kernel)
set_option maxRecDepth 65536 in
theorem w_c19 : (Jvm.Cond.code ({ cls := "java/lang/Math", name := "min", desc := "(II)I" } : Jvm.MethodName) jdk_29_method_69_code (2 : Nat) (Option.some Jvm.ClassFile.FieldType.int)).before args0 about1 = true := code_word (m := ⟨12, 2⟩) (meth := k12m2) (c := k12c2) (by decide +kernel) rfl rfl rfl (by decide +kernel)
set_option maxRecDepth 65536 in
theorem w_c20 : (Jvm.Cond.code ({ cls := "java/lang/StringLatin1", name := "indexOfChar", desc := "([BIII)I" } : Jvm.MethodName) jdk_43_method_23_code (6 : Nat) (Option.some Jvm.ClassFile.FieldType.int)).before args0 about1 = true := code_word (m := ⟨11, 4⟩) (meth := k11m4) (c := k11c4) (by decide +kernel) rfl rfl rfl (by decide +kernel)
set_option maxRecDepth 65536 in
theorem w_c21 : (Jvm.Cond.code ({ cls := "java/lang/StringUTF16", name := "toBytes", desc := "([CII)[B" } : Jvm.MethodName) jdk_52_method_14_code (5 : Nat) (Option.some (Jvm.ClassFile.FieldType.array Jvm.ClassFile.FieldType.byte))).before args0 about1 = true := code_word (m := ⟨10, 6⟩) (meth := k10m6) (c := k10c6) (by decide +kernel) rfl rfl rfl (by decide +kernel)
set_option maxRecDepth 65536 in
theorem w_c22 : (Jvm.Cond.code ({ cls := "java/lang/StringUTF16", name := "newBytesFor", desc := "(I)[B" } : Jvm.MethodName) jdk_52_method_2_code (1 : Nat) (Option.some (Jvm.ClassFile.FieldType.array Jvm.ClassFile.FieldType.byte))).before args0 about1 = true := code_word (m := ⟨10, 1⟩) (meth := k10m1) (c := k10c1) (by decide +kernel) rfl rfl rfl (by decide +kernel)
set_option maxRecDepth 65536 in
theorem w_c23 : (Jvm.Cond.code ({ cls := "java/lang/StringUTF16", name := "newBytesLength", desc := "(I)I" } : Jvm.MethodName) jdk_52_method_3_code (1 : Nat) (Option.some Jvm.ClassFile.FieldType.int)).before args0 about1 = true := code_word (m := ⟨10, 2⟩) (meth := k10m2) (c := k10c2) (by decide +kernel) rfl rfl rfl (by decide +kernel)
set_option maxRecDepth 65536 in
theorem w_c24 : (Jvm.Cond.code ({ cls := "java/lang/StringUTF16", name := "putChar", desc := "([BII)V" } : Jvm.MethodName) jdk_52_method_4_code (3 : Nat) (Option.none : Option Jvm.ClassFile.FieldType)).before args0 about1 = true := code_word (m := ⟨10, 3⟩) (meth := k10m3) (c := k10c3) (by decide +kernel) rfl rfl rfl (by decide +kernel)
set_option maxRecDepth 65536 in
theorem w_c25 : (Jvm.Cond.code ({ cls := "java/lang/StringUTF16", name := "getChar", desc := "([BI)C" } : Jvm.MethodName) jdk_52_method_5_code (2 : Nat) (Option.some Jvm.ClassFile.FieldType.char)).before args0 about1 = true := code_word (m := ⟨10, 4⟩) (meth := k10m4) (c := k10c4) (by decide +kernel) rfl rfl rfl (by decide +kernel)
set_option maxRecDepth 65536 in
theorem w_c26 : (Jvm.Cond.code ({ cls := "java/lang/StringUTF16", name := "indexOf", desc := "([BIII)I" } : Jvm.MethodName) jdk_52_method_40_code (4 : Nat) (Option.some Jvm.ClassFile.FieldType.int)).before args0 about1 = true := code_word (m := ⟨10, 11⟩) (meth := k10m11) (c := k10c11) (by decide +kernel) rfl rfl rfl (by decide +kernel)
set_option maxRecDepth 65536 in
theorem w_c27 : (Jvm.Cond.code ({ cls := "java/lang/StringUTF16", name := "indexOfChar", desc := "([BIII)I" } : Jvm.MethodName) jdk_52_method_47_code (4 : Nat) (Option.some Jvm.ClassFile.FieldType.int)).before args0 about1 = true := code_word (m := ⟨10, 12⟩) (meth := k10m12) (c := k10c12) (by decide +kernel) rfl rfl rfl (by decide +kernel)
set_option maxRecDepth 65536 in
theorem w_c28 : (Jvm.Cond.code ({ cls := "java/lang/StringUTF16", name := "checkBoundsBeginEnd", desc := "(II[B)V" } : Jvm.MethodName) jdk_52_method_93_code (3 : Nat) (Option.none : Option Jvm.ClassFile.FieldType)).before args0 about1 = true := code_word (m := ⟨10, 14⟩) (meth := k10m14) (c := k10c14) (by decide +kernel) rfl rfl rfl (by decide +kernel)
set_option maxRecDepth 65536 in
theorem w_c29 : (Jvm.Cond.code ({ cls := "java/lang/StringUTF16", name := "length", desc := "([B)I" } : Jvm.MethodName) jdk_52_method_6_code (1 : Nat) (Option.some Jvm.ClassFile.FieldType.int)).before args0 about1 = true := code_word (m := ⟨10, 5⟩) (meth := k10m5) (c := k10c5) (by decide +kernel) rfl rfl rfl (by decide +kernel)
set_option maxRecDepth 65536 in
theorem w_c30 : (Jvm.Cond.code ({ cls := "java/lang/String", name := "checkBoundsBeginEnd", desc := "(III)V" } : Jvm.MethodName) jdk_42_method_158_code (3 : Nat) (Option.none : Option Jvm.ClassFile.FieldType)).before args0 about1 = true := code_word (m := ⟨7, 11⟩) (meth := k7m11) (c := k7c11) (by decide +kernel) rfl rfl rfl (by decide +kernel)
set_option maxRecDepth 65536 in
theorem w_c31 : (Jvm.Cond.code ({ cls := "jdk/internal/util/Preconditions", name := "checkFromToIndex", desc := "(IIILjava/util/function/BiFunction;)I" } : Jvm.MethodName) jdk_41_method_12_code (4 : Nat) (Option.some Jvm.ClassFile.FieldType.int)).before args0 about1 = true := code_word (m := ⟨13, 1⟩) (meth := k13m1) (c := k13c1) (by decide +kernel) rfl rfl rfl (by decide +kernel)
set_option maxRecDepth 65536 in
theorem w_c32 : (Jvm.Cond.code ({ cls := "java/lang/StringUTF16", name := "indexOfCharUnsafe", desc := "([BIII)I" } : Jvm.MethodName) jdk_52_method_48_code (5 : Nat) (Option.some Jvm.ClassFile.FieldType.int)).before args0 about1 = true := code_word (m := ⟨10, 13⟩) (meth := k10m13) (c := k10c13) (by decide +kernel) rfl rfl rfl (by decide +kernel)
set_option maxRecDepth 65536 in
theorem w_c33 : (Jvm.Cond.code ({ cls := "java/lang/String", name := "valueOf", desc := "(C)Ljava/lang/String;" } : Jvm.MethodName) jdk_42_method_139_code (1 : Nat) (Option.some (Jvm.ClassFile.FieldType.object "java/lang/String"))).before args0 about1 = true := code_word (m := ⟨7, 6⟩) (meth := k7m6) (c := k7c6) (by decide +kernel) rfl rfl rfl (by decide +kernel)
set_option maxRecDepth 65536 in
theorem w_c34 : (Jvm.Cond.code ({ cls := "java/lang/StringLatin1", name := "canEncode", desc := "(C)Z" } : Jvm.MethodName) jdk_43_method_3_code (1 : Nat) (Option.some Jvm.ClassFile.FieldType.boolean)).before args0 about1 = true := code_word (m := ⟨11, 1⟩) (meth := k11m1) (c := k11c1) (by decide +kernel) rfl rfl rfl (by decide +kernel)
set_option maxRecDepth 65536 in
theorem w_c35 : (Jvm.Cond.code ({ cls := "java/lang/StringLatin1", name := "toBytes", desc := "(C)[B" } : Jvm.MethodName) jdk_43_method_46_code (1 : Nat) (Option.some (Jvm.ClassFile.FieldType.array Jvm.ClassFile.FieldType.byte))).before args0 about1 = true := code_word (m := ⟨11, 5⟩) (meth := k11m5) (c := k11c5) (by decide +kernel) rfl rfl rfl (by decide +kernel)
set_option maxRecDepth 65536 in
theorem w_c36 : (Jvm.Cond.code ({ cls := "java/lang/String", name := "<init>", desc := "([BB)V" } : Jvm.MethodName) jdk_42_method_151_code (3 : Nat) (Option.none : Option Jvm.ClassFile.FieldType)).before args0 about1 = true := code_word (m := ⟨7, 8⟩) (meth := k7m8) (c := k7c8) (by decide +kernel) rfl rfl rfl (by decide +kernel)
set_option maxRecDepth 65536 in
theorem w_c37 : (Jvm.Cond.code ({ cls := "java/lang/StringUTF16", name := "toBytes", desc := "(C)[B" } : Jvm.MethodName) jdk_52_method_24_code (2 : Nat) (Option.some (Jvm.ClassFile.FieldType.array Jvm.ClassFile.FieldType.byte))).before args0 about1 = true := code_word (m := ⟨10, 10⟩) (meth := k10m10) (c := k10c10) (by decide +kernel) rfl rfl rfl (by decide +kernel)
def codes1 : List Jvm.Cond := [Jvm.Cond.code x code maxLocals ret, Jvm.Cond.code ({ cls := "com/example/varigraph/varigraph/generate/OperationCanNamePinLaw", name := "pick", desc := "(I)C" } : Jvm.MethodName) method_2_code (2 : Nat) (Option.some Jvm.ClassFile.FieldType.char), Jvm.Cond.code ({ cls := "java/lang/String", name := "<init>", desc := "([C)V" } : Jvm.MethodName) jdk_42_method_3_code (2 : Nat) (Option.none : Option Jvm.ClassFile.FieldType), Jvm.Cond.code ({ cls := "java/lang/String", name := "<init>", desc := "([CIILjava/lang/Void;)V" } : Jvm.MethodName) jdk_42_method_149_code (6 : Nat) (Option.none : Option Jvm.ClassFile.FieldType), Jvm.Cond.code ({ cls := "java/lang/Object", name := "<init>", desc := "()V" } : Jvm.MethodName) object_method_1_code (1 : Nat) (Option.none : Option Jvm.ClassFile.FieldType), Jvm.Cond.code ({ cls := "com/example/varigraph/varigraph/generate/Operation", name := "canName", desc := "(Ljava/lang/String;)Z" } : Jvm.MethodName) prog_62_method_2_code (1 : Nat) (Option.some Jvm.ClassFile.FieldType.boolean), Jvm.Cond.code ({ cls := "java/lang/String", name := "isEmpty", desc := "()Z" } : Jvm.MethodName) jdk_42_method_55_code (1 : Nat) (Option.some Jvm.ClassFile.FieldType.boolean), Jvm.Cond.code ({ cls := "java/lang/StringUTF16", name := "compress", desc := "([CII)[B" } : Jvm.MethodName) jdk_52_method_16_code (6 : Nat) (Option.some (Jvm.ClassFile.FieldType.array Jvm.ClassFile.FieldType.byte)), Jvm.Cond.code ({ cls := "java/lang/StringUTF16", name := "compress", desc := "([CI[BII)I" } : Jvm.MethodName) jdk_52_method_21_code (7 : Nat) (Option.some Jvm.ClassFile.FieldType.int), Jvm.Cond.code ({ cls := "java/lang/StringUTF16", name := "coderFromArrayLen", desc := "([BI)B" } : Jvm.MethodName) jdk_52_method_15_code (2 : Nat) (Option.some Jvm.ClassFile.FieldType.byte), Jvm.Cond.code ({ cls := "com/example/varigraph/varigraph/generate/OperationCanNamePinLaw", name := "ok", desc := "(C)Z" } : Jvm.MethodName) method_3_code (1 : Nat) (Option.some Jvm.ClassFile.FieldType.boolean), Jvm.Cond.code ({ cls := "java/lang/String", name := "indexOf", desc := "(I)I" } : Jvm.MethodName) jdk_42_method_79_code (2 : Nat) (Option.some Jvm.ClassFile.FieldType.int), Jvm.Cond.code ({ cls := "java/lang/String", name := "indexOf", desc := "(II)I" } : Jvm.MethodName) jdk_42_method_80_code (3 : Nat) (Option.some Jvm.ClassFile.FieldType.int), Jvm.Cond.code ({ cls := "java/lang/String", name := "isLatin1", desc := "()Z" } : Jvm.MethodName) jdk_42_method_154_code (1 : Nat) (Option.some Jvm.ClassFile.FieldType.boolean), Jvm.Cond.code ({ cls := "java/lang/String", name := "length", desc := "()I" } : Jvm.MethodName) jdk_42_method_54_code (1 : Nat) (Option.some Jvm.ClassFile.FieldType.int), Jvm.Cond.code ({ cls := "java/lang/String", name := "coder", desc := "()B" } : Jvm.MethodName) jdk_42_method_152_code (1 : Nat) (Option.some Jvm.ClassFile.FieldType.byte), Jvm.Cond.code ({ cls := "java/lang/StringLatin1", name := "indexOf", desc := "([BIII)I" } : Jvm.MethodName) jdk_43_method_22_code (4 : Nat) (Option.some Jvm.ClassFile.FieldType.int), Jvm.Cond.code ({ cls := "java/lang/StringLatin1", name := "canEncode", desc := "(I)Z" } : Jvm.MethodName) jdk_43_method_4_code (1 : Nat) (Option.some Jvm.ClassFile.FieldType.boolean), Jvm.Cond.code ({ cls := "java/lang/Math", name := "max", desc := "(II)I" } : Jvm.MethodName) jdk_29_method_65_code (2 : Nat) (Option.some Jvm.ClassFile.FieldType.int), Jvm.Cond.code ({ cls := "java/lang/Math", name := "min", desc := "(II)I" } : Jvm.MethodName) jdk_29_method_69_code (2 : Nat) (Option.some Jvm.ClassFile.FieldType.int), Jvm.Cond.code ({ cls := "java/lang/StringLatin1", name := "indexOfChar", desc := "([BIII)I" } : Jvm.MethodName) jdk_43_method_23_code (6 : Nat) (Option.some Jvm.ClassFile.FieldType.int), Jvm.Cond.code ({ cls := "java/lang/StringUTF16", name := "toBytes", desc := "([CII)[B" } : Jvm.MethodName) jdk_52_method_14_code (5 : Nat) (Option.some (Jvm.ClassFile.FieldType.array Jvm.ClassFile.FieldType.byte)), Jvm.Cond.code ({ cls := "java/lang/StringUTF16", name := "newBytesFor", desc := "(I)[B" } : Jvm.MethodName) jdk_52_method_2_code (1 : Nat) (Option.some (Jvm.ClassFile.FieldType.array Jvm.ClassFile.FieldType.byte)), Jvm.Cond.code ({ cls := "java/lang/StringUTF16", name := "newBytesLength", desc := "(I)I" } : Jvm.MethodName) jdk_52_method_3_code (1 : Nat) (Option.some Jvm.ClassFile.FieldType.int), Jvm.Cond.code ({ cls := "java/lang/StringUTF16", name := "putChar", desc := "([BII)V" } : Jvm.MethodName) jdk_52_method_4_code (3 : Nat) (Option.none : Option Jvm.ClassFile.FieldType), Jvm.Cond.code ({ cls := "java/lang/StringUTF16", name := "getChar", desc := "([BI)C" } : Jvm.MethodName) jdk_52_method_5_code (2 : Nat) (Option.some Jvm.ClassFile.FieldType.char), Jvm.Cond.code ({ cls := "java/lang/StringUTF16", name := "indexOf", desc := "([BIII)I" } : Jvm.MethodName) jdk_52_method_40_code (4 : Nat) (Option.some Jvm.ClassFile.FieldType.int), Jvm.Cond.code ({ cls := "java/lang/StringUTF16", name := "indexOfChar", desc := "([BIII)I" } : Jvm.MethodName) jdk_52_method_47_code (4 : Nat) (Option.some Jvm.ClassFile.FieldType.int), Jvm.Cond.code ({ cls := "java/lang/StringUTF16", name := "checkBoundsBeginEnd", desc := "(II[B)V" } : Jvm.MethodName) jdk_52_method_93_code (3 : Nat) (Option.none : Option Jvm.ClassFile.FieldType), Jvm.Cond.code ({ cls := "java/lang/StringUTF16", name := "length", desc := "([B)I" } : Jvm.MethodName) jdk_52_method_6_code (1 : Nat) (Option.some Jvm.ClassFile.FieldType.int), Jvm.Cond.code ({ cls := "java/lang/String", name := "checkBoundsBeginEnd", desc := "(III)V" } : Jvm.MethodName) jdk_42_method_158_code (3 : Nat) (Option.none : Option Jvm.ClassFile.FieldType), Jvm.Cond.code ({ cls := "jdk/internal/util/Preconditions", name := "checkFromToIndex", desc := "(IIILjava/util/function/BiFunction;)I" } : Jvm.MethodName) jdk_41_method_12_code (4 : Nat) (Option.some Jvm.ClassFile.FieldType.int), Jvm.Cond.code ({ cls := "java/lang/StringUTF16", name := "indexOfCharUnsafe", desc := "([BIII)I" } : Jvm.MethodName) jdk_52_method_48_code (5 : Nat) (Option.some Jvm.ClassFile.FieldType.int), Jvm.Cond.code ({ cls := "java/lang/String", name := "valueOf", desc := "(C)Ljava/lang/String;" } : Jvm.MethodName) jdk_42_method_139_code (1 : Nat) (Option.some (Jvm.ClassFile.FieldType.object "java/lang/String")), Jvm.Cond.code ({ cls := "java/lang/StringLatin1", name := "canEncode", desc := "(C)Z" } : Jvm.MethodName) jdk_43_method_3_code (1 : Nat) (Option.some Jvm.ClassFile.FieldType.boolean), Jvm.Cond.code ({ cls := "java/lang/StringLatin1", name := "toBytes", desc := "(C)[B" } : Jvm.MethodName) jdk_43_method_46_code (1 : Nat) (Option.some (Jvm.ClassFile.FieldType.array Jvm.ClassFile.FieldType.byte)), Jvm.Cond.code ({ cls := "java/lang/String", name := "<init>", desc := "([BB)V" } : Jvm.MethodName) jdk_42_method_151_code (3 : Nat) (Option.none : Option Jvm.ClassFile.FieldType), Jvm.Cond.code ({ cls := "java/lang/StringUTF16", name := "toBytes", desc := "(C)[B" } : Jvm.MethodName) jdk_52_method_24_code (2 : Nat) (Option.some (Jvm.ClassFile.FieldType.array Jvm.ClassFile.FieldType.byte))]
set_option maxRecDepth 65536 in
theorem codes_eq : words1.filter isCode = codes1 := rfl
theorem w_codes : ∀ c ∈ words1.filter isCode, c.before args0 about1 = true := by
  rw [codes_eq]
  intro c hc
  simp only [codes1, List.mem_cons, List.not_mem_nil, or_false] at hc
  rcases hc with rfl | rfl | rfl | rfl | rfl | rfl | rfl | rfl | rfl | rfl | rfl | rfl | rfl | rfl | rfl | rfl | rfl | rfl | rfl | rfl | rfl | rfl | rfl | rfl | rfl | rfl | rfl | rfl | rfl | rfl | rfl | rfl | rfl | rfl | rfl | rfl | rfl | rfl
  · exact w_c0
  · exact w_c1
  · exact w_c2
  · exact w_c3
  · exact w_c4
  · exact w_c5
  · exact w_c6
  · exact w_c7
  · exact w_c8
  · exact w_c9
  · exact w_c10
  · exact w_c11
  · exact w_c12
  · exact w_c13
  · exact w_c14
  · exact w_c15
  · exact w_c16
  · exact w_c17
  · exact w_c18
  · exact w_c19
  · exact w_c20
  · exact w_c21
  · exact w_c22
  · exact w_c23
  · exact w_c24
  · exact w_c25
  · exact w_c26
  · exact w_c27
  · exact w_c28
  · exact w_c29
  · exact w_c30
  · exact w_c31
  · exact w_c32
  · exact w_c33
  · exact w_c34
  · exact w_c35
  · exact w_c36
  · exact w_c37
set_option maxRecDepth 65536 in
theorem w_t1 : (words1.take 24).all (fun c => isCode c || c.before args0 about1) = true := by decide +kernel
set_option maxRecDepth 65536 in
theorem w_t2 : ((words1.drop 24).take 24).all (fun c => isCode c || c.before args0 about1) = true := by decide +kernel
set_option maxRecDepth 65536 in
theorem w_t3 : (((words1.drop 24).drop 24).take 24).all (fun c => isCode c || c.before args0 about1) = true := by decide +kernel
set_option maxRecDepth 65536 in
theorem w_t4 : ((((words1.drop 24).drop 24).drop 24).take 24).all (fun c => isCode c || c.before args0 about1) = true := by decide +kernel
set_option maxRecDepth 65536 in
theorem w_t5 : (((((words1.drop 24).drop 24).drop 24).drop 24).take 24).all (fun c => isCode c || c.before args0 about1) = true := by decide +kernel
set_option maxRecDepth 65536 in
theorem w_t6 : ((((((words1.drop 24).drop 24).drop 24).drop 24).drop 24).take 24).all (fun c => isCode c || c.before args0 about1) = true := by decide +kernel
set_option maxRecDepth 65536 in
theorem w_t7 : ((((((words1.drop 24).drop 24).drop 24).drop 24).drop 24).drop 24).all (fun c => isCode c || c.before args0 about1) = true := by decide +kernel
theorem w_tables : (allAtoms (Jvm.Cond.code x code maxLocals ret :: tables_1)).before args0 about1 = true := by
  rw [allAtoms_all]
  show words1.all (fun c => c.before args0 about1) = true
  refine all_split ?_ w_codes
  rw [← List.take_append_drop 24 words1, List.all_append, w_t1, ← List.take_append_drop 24 (words1.drop 24), List.all_append, w_t2, ← List.take_append_drop 24 ((words1.drop 24).drop 24), List.all_append, w_t3, ← List.take_append_drop 24 (((words1.drop 24).drop 24).drop 24), List.all_append, w_t4, ← List.take_append_drop 24 ((((words1.drop 24).drop 24).drop 24).drop 24), List.all_append, w_t5, ← List.take_append_drop 24 (((((words1.drop 24).drop 24).drop 24).drop 24).drop 24), List.all_append, w_t6, w_t7]
  rfl
set_option maxRecDepth 65536 in
theorem w_rest : rest_1_c.before args0 about1 = true := by decide +kernel
set_option maxRecDepth 65536 in
theorem w_case : (Jvm.Cond.and given_1 narrow_1).before args0 about1 = true := by decide +kernel
set_option maxRecDepth 65536 in
theorem w_consts : constsHeld consts_1 about1 := Jvm.Lit.constsHeldB_iff.mp (by decide +kernel)
theorem w_applies : (headSpec (Jvm.Cond.code x code maxLocals ret :: tables_1) room_1).applies x e0.platform about1 = true :=
  (Spec.applies_iff w_frames).mpr ⟨w_running, w_runnable, w_alone, w_named, w_hears, w_ripe, w_room, w_tables⟩
theorem atStart : AtStart classFile x code maxLocals ret World_1 tables_1 room_1 Calls_1 rest_1 Pre_1 launch0 p0 e0 about1 theMethod args0 below0 :=
  ⟨lists_1, trivial, launch0.admits_env _ _ _, launch0.least_env, fairChoices_fair.cas, fairChoices_fair.clock, w_frames, w_args, w_heap, w_applies, ⟨w_consts, trivial⟩, w_rest, w_case⟩
end start1
theorem witness_1 : WitnessClaimed_1 := ⟨start1.p0, start1.e0, start1.about1, start1.theMethod, start1.args0, start1.below0, start1.atStart⟩
end Jvm.Pilot.@@N@@
