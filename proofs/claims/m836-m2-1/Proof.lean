import JvmDerived
import JvmDerived.Pilot.@@N@@Statement
import JvmDerived.Pilot.@@N@@Code
set_option linter.unusedVariables false
set_option linter.unusedSimpArgs false
namespace Jvm.Pilot.@@N@@
open Jvm Jvm.ClassFile Sem Op Lib Jvm.Free Jvm.Stand Jvm.LawKit Jvm.RoadKit Bundle Jvm.Pilot.@@N@@.Jvm.D
theorem own_selP {s : State} {args a : Array Value} {y : MethodName} {n : Nat} (wi : (Jvm.Cond.instantiable y.cls n).before a s = true) (hpriv : s.PrivateAt y) (hinst : (Jvm.Cond.instanceMethod y).before args s = true) (hy : y.cls ≠ "java/lang/invoke/MethodHandle" ∧ y.cls ≠ "java/lang/invoke/VarHandle") : (Jvm.Cond.selects y.cls y y).before args s = true := by
  obtain ⟨c, k, h1, h2, -, h4, -⟩ := Cond.instantiable_spec wi
  rw [Bool.or_eq_false_iff] at h4
  exact selects_self_of_private h1 h2 h4.1 hpriv hinst hy
theorem own_nz {args : Array Value} {s : State} {tm : Term} {z : Int32} (ev : tm.eval args s none [] s = some (.int z)) (h : (Jvm.Cond.not (Jvm.Cond.eq tm (Term.int 0))).value args s none s [] = some true) : ¬ z = 0 := by
  have h1 := not_v h
  have e2 : (Term.int 0).eval args s none [] s = some (.int 0) := Term.int_eval 0
  intro q
  subst q
  simp [Jvm.Cond.value, ev, e2] at h1
theorem own_eqi {args : Array Value} {s : State} {tm : Term} {z : Int32} (h : (Jvm.Cond.eq tm (Term.int z)).value args s none s [] = some true) : tm.eval args s none [] s = some (.int z) := by
  have e2 : (Term.int z).eval args s none [] s = some (.int z) := Term.int_eval z
  cases e1 : tm.eval args s none [] s with
  | none => simp [Jvm.Cond.value, e1, e2] at h
  | some x => cases x <;> simp [Jvm.Cond.value, e1, e2] at h ⊢ <;> exact h
theorem own_mono {p : Program} {l : Launch} {e : Env} {R : Room} {s : State} {m : MethodId} {args : Array Value} {below : List Frame} {meth : Method} {c : Code} {T : State} {locs : List Loc} {cells slots C S : Nat} (X : Stand p l e R s m args below meth c T locs cells slots) (hC : cells ≤ C) (hS : slots ≤ S) : Stand p l e R s m args below meth c T locs C S := { X with same := X.same.mono hC hS }
theorem own_one {L L' : Array Slot} {i : Nat} {sl : Slot} {v : Int32} (h : One sl) (hl : L[i]? = some sl) (hs : storeSelf L i (.int v) = some L') : storeLocals L i (.int v) = some L' := by
  unfold storeLocals
  rw [hl]
  rcases h with rfl | ⟨w, rfl, hw⟩
  · exact hs
  · show (if w.category = 2 then _ else storeSelf L i (.int v)) = some L'
    rw [if_neg (by rw [hw]; decide)]
    exact hs
theorem own_ns {Z : State} {h : Heap} {a : Addr} {C : String} (F : Exa Z h a C) : ∃ c : Cell, h[a]? = some c ∧ c.vm.isStatics = false := by
  obtain ⟨c, k, h1, -, -, h4, -⟩ := F
  exact ⟨c, h1, h4⟩
theorem own_nsA {Z : State} {h : Heap} {a : Addr} {k : ClassId} {ty : FieldType} {z : Int32} {vs : List Value} {dv : Value} (F : Arv Z h a k ty z vs dv) : ∃ c : Cell, h[a]? = some c ∧ c.vm.isStatics = false := by
  obtain ⟨c, A, -⟩ := F
  exact ⟨c, A.1, A.plain⟩
theorem own_Sta_keep {Z : State} {h h' : Heap} {C n d : String} {v : Value} {ws : List Addr} (F : Sta Z h C n d v) (K : Keep h h' ws) (q : ∀ a ∈ ws, ∃ c : Cell, h[a]? = some c ∧ c.vm.isStatics = false) : Sta Z h' C n d v := by
  obtain ⟨cf, i, k, f, st, cell, h1, h2, h3, h4, h5, h6, h7⟩ := F
  refine ⟨cf, i, k, f, st, cell, h1, h2, h3, h4, K.2.1 st cell h5 (fun z => ?_), h6, h7⟩
  obtain ⟨c, e1, e2⟩ := q st z
  cases h5.symm.trans e1
  rw [e2] at h6
  cases h6
theorem own_fld_int {args : Array Value} {s : State} {tm : Term} {O f d : String} {t : Addr} {z : Int32} (ev : tm.eval args s none [] s = some (.ref t)) (h : (Jvm.Cond.eq (Term.field tm O f d) (Term.int z)).value args s none s [] = some true) : Fld s s.heap t O f d (.int z) := by
  have e2 : (Term.int z).eval args s none [] s = some (.int z) := Term.int_eval z
  refine Fld.start ?_
  cases e1 : s.fieldOf? t O f d with
  | none => simp [Jvm.Cond.value, fld_at ev, e1, e2] at h
  | some x => cases x <;> simp [Jvm.Cond.value, fld_at ev, e1, e2] at h ⊢ <;> exact h
theorem own_cat {v : Value} (h : v.isRef = true) : v.category = 1 := by cases v <;> simp [Value.isRef, Value.category] at h ⊢
theorem own_fits_nar (t : FieldType) (x : Int32) (ht : t = .boolean ∨ t = .byte ∨ t = .char ∨ t = .short) : fits t (.int (nar t x)) = true := by
  rcases ht with rfl | rfl | rfl | rfl
  · exact fits_nar_bool x
  · exact fits_nar_byte x
  · exact fits_nar_char x
  · exact fits_nar_short x
section Layer
variable {p : Program} {l : Launch} {e : Env} {R : Room} {s : State} {m : MethodId} {args : Array Value} {below : List Frame} {meth : Method} {c : Code} {T : State} {locs : List Loc} {cells slots : Nat}
/-- the walk from σ comes to an end at which K holds -/
def Go (p : Program) (e : Env) (below : List Frame) (K : State → Outcome → Prop) (σ : State) : Prop := ∃ s₂ o, Steps p.tables e below σ s₂ ∧ K s₂ o
theorem Go.st {K : State → Outcome → Prop} {σ σ' : State} (h : ∀ t, Steps p.tables e below σ' t → Steps p.tables e below σ t) (k : Go p e below K σ') : Go p e below K σ := by
  obtain ⟨a, b, c, d⟩ := k
  exact ⟨a, b, h _ c, d⟩
theorem Go.tr {K : State → Outcome → Prop} {σ σ' : State} (h : Steps p.tables e below σ σ') (k : Go p e below K σ') : Go p e below K σ := Go.st (fun _ q => h.trans q) k
/-- what a contract asks of the end -/
def KQ (s : State) (below : List Frame) (Q : Option Value → Heap → List Loc → Prop) (C S : Nat) (s₂ : State) (o : Outcome) : Prop :=
  s₂.status = .running ∧ Ended s₂ below o ∧ ∃ v L, o = .returned v ∧ Q v s₂.heap L ∧ FrameEnd s o s₂ L C S
theorem Go.body {K : State → Outcome → Prop} {σ : State} {g g' : JFrame} (hg : g = g') (k : Go p e below K (T.setTop g')) : Go p e below K (T.setTop g) := hg ▸ k
/-- return of nothing -/
theorem Go.retV {Q : Option Value → Heap → List Loc → Prop} {C S : Nat} (X : Stand p l e R s m args below meth c T locs cells slots) (hx : p.tables.exec = Jvm.exec) (hlk : meth.locks = false) (hret : meth.sig.returnType = none) {pc : Nat} {Ls : Array Slot} (hd : decode c.code pc = .ok (.return_, 1)) (hC : cells ≤ C) (hS : slots ≤ S) (q : Q none T.heap locs) :
    Go p e below (KQ s below Q C S) (T.setTop (mkF m pc Ls [])) := by
  obtain ⟨fs, hr, hrun, hended, hW, hsame⟩ := X.leave (v := none) (fun _ => rfl)
  exact ⟨_, _, X.returnOut hx hret hd hr, hrun, hended, _, _, rfl, q, ⟨_, rfl⟩, hW, hsame.mono hC hS⟩
/-- return of an int -/
theorem Go.retI {Q : Option Value → Heap → List Loc → Prop} {C S : Nat} (X : Stand p l e R s m args below meth c T locs cells slots) (hx : p.tables.exec = Jvm.exec) (hlk : meth.locks = false) (hret : meth.sig.returnType = some .int) {pc : Nat} {Ls : Array Slot} {z : Int32} {rest : List Value} (hd : decode c.code pc = .ok (.ireturn, 1)) (hC : cells ≤ C) (hS : slots ≤ S) (q : Q (some (.int z)) T.heap locs) :
    Go p e below (KQ s below Q C S) (T.setTop (mkF m pc Ls (.int z :: rest))) := by
  obtain ⟨fs, hr, hrun, hended, hW, hsame⟩ := X.leave (v := some (.int z)) (fun h => by rw [hret] at h; cases h)
  exact ⟨_, _, retOut X hx hret rfl (Or.inl ⟨rfl, Or.inl rfl, _, rfl⟩) hd hr, hrun, hended, _, _, rfl, q, ⟨_, rfl⟩, hW, hsame.mono hC hS⟩
/-- return of a boolean, byte, char or short -/
theorem Go.retN {Q : Option Value → Heap → List Loc → Prop} {C S : Nat} (X : Stand p l e R s m args below meth c T locs cells slots) (hx : p.tables.exec = Jvm.exec) (hlk : meth.locks = false) {t : FieldType} (hret : meth.sig.returnType = some t) (ht : t = .boolean ∨ t = .byte ∨ t = .char ∨ t = .short) {pc : Nat} {Ls : Array Slot} {z : Int32} {rest : List Value} (hd : decode c.code pc = .ok (.ireturn, 1)) (hC : cells ≤ C) (hS : slots ≤ S) (q : Q (some (.int (nar t z))) T.heap locs) :
    Go p e below (KQ s below Q C S) (T.setTop (mkF m pc Ls (.int z :: rest))) := by
  obtain ⟨fs, hr, hrun, hended, hW, hsame⟩ := X.leave (v := some (.int (nar t z))) (fun h => by rw [hret] at h; cases h)
  exact ⟨_, _, RoadKit.retN X hx hret ht hd hr, hrun, hended, _, _, rfl, q, ⟨_, rfl⟩, hW, hsame.mono hC hS⟩
/-- return of a reference -/
theorem Go.retA {Q : Option Value → Heap → List Loc → Prop} {C S : Nat} (X : Stand p l e R s m args below meth c T locs cells slots) (hx : p.tables.exec = Jvm.exec) (hlk : meth.locks = false) {t : FieldType} (hret : meth.sig.returnType = some t) (ht : t.isReference = true) {pc : Nat} {Ls : Array Slot} {w : Value} (hw : w.isRef = true) {rest : List Value} (hd : decode c.code pc = .ok (.areturn, 1)) (hC : cells ≤ C) (hS : slots ≤ S) (q : Q (some w) T.heap locs) :
    Go p e below (KQ s below Q C S) (T.setTop (mkF m pc Ls (w :: rest))) := by
  obtain ⟨fs, hr, hrun, hended, hW, hsame⟩ := X.leave (v := some w) (fun h => by rw [hret] at h; cases h)
  exact ⟨_, _, retOut X hx hret (by cases t <;> cases w <;> simp_all [narrow, Value.isRef, FieldType.isReference]) (Or.inr (Or.inr (Or.inr (Or.inr ⟨rfl, ht, hw⟩)))) hd hr, hrun, hended, _, _, rfl, q, ⟨_, rfl⟩, hW, hsame.mono hC hS⟩
/-- return of a long -/
theorem Go.retJ {Q : Option Value → Heap → List Loc → Prop} {C S : Nat} (X : Stand p l e R s m args below meth c T locs cells slots) (hx : p.tables.exec = Jvm.exec) (hlk : meth.locks = false) (hret : meth.sig.returnType = some .long) {pc : Nat} {Ls : Array Slot} {z : Int64} {rest : List Value} (hd : decode c.code pc = .ok (.lreturn, 1)) (hC : cells ≤ C) (hS : slots ≤ S) (q : Q (some (.long z)) T.heap locs) :
    Go p e below (KQ s below Q C S) (T.setTop (mkF m pc Ls (.long z :: rest))) := by
  obtain ⟨fs, hr, hrun, hended, hW, hsame⟩ := X.leave (v := some (.long z)) (fun h => by rw [hret] at h; cases h)
  exact ⟨_, _, retOut X hx hret rfl (Or.inr (Or.inl ⟨rfl, rfl, _, rfl⟩)) hd hr, hrun, hended, _, _, rfl, q, ⟨_, rfl⟩, hW, hsame.mono hC hS⟩
/-- return of a double -/
theorem Go.retD {Q : Option Value → Heap → List Loc → Prop} {C S : Nat} (X : Stand p l e R s m args below meth c T locs cells slots) (hx : p.tables.exec = Jvm.exec) (hlk : meth.locks = false) (hret : meth.sig.returnType = some .double) {pc : Nat} {Ls : Array Slot} {z : UInt64} {rest : List Value} (hd : decode c.code pc = .ok (.dreturn, 1)) (hC : cells ≤ C) (hS : slots ≤ S) (q : Q (some (.double z)) T.heap locs) :
    Go p e below (KQ s below Q C S) (T.setTop (mkF m pc Ls (.double z :: rest))) := by
  obtain ⟨fs, hr, hrun, hended, hW, hsame⟩ := X.leave (v := some (.double z)) (fun h => by rw [hret] at h; cases h)
  exact ⟨_, _, retOut X hx hret rfl (Or.inr (Or.inr (Or.inl ⟨rfl, rfl, _, rfl⟩))) hd hr, hrun, hended, _, _, rfl, q, ⟨_, rfl⟩, hW, hsame.mono hC hS⟩
theorem g_iloadN {K : State → Outcome → Prop} (X : Stand p l e R s m args below meth c T locs cells slots) (hx : p.tables.exec = Jvm.exec) {pc : Nat} {L : Array Slot} {S : List Value} {k : Fin 4} {v : Int32} (hd : decode c.code pc = .ok (.iload_n k, 1)) (pc' : Nat) (hp : pc + 1 = pc') (hl : L[k.val]? = some (.val (.int v))) (r : Go p e below K (T.setTop (mkF m pc' L (.int v :: S)))) : Go p e below K (T.setTop (mkF m pc L S)) := by
  subst hp
  exact Go.st (fun _ => XS.iloadN X.here hx rfl hd hl) r
theorem g_iload {K : State → Outcome → Prop} (X : Stand p l e R s m args below meth c T locs cells slots) (hx : p.tables.exec = Jvm.exec) {pc : Nat} {L : Array Slot} {S : List Value} {k : Nat} {v : Int32} (hd : decode c.code pc = .ok (.iload k, 2)) (pc' : Nat) (hp : pc + 2 = pc') (hl : L[k]? = some (.val (.int v))) (r : Go p e below K (T.setTop (mkF m pc' L (.int v :: S)))) : Go p e below K (T.setTop (mkF m pc L S)) := by
  subst hp
  exact Go.st (fun _ => XS.iload X.here hx rfl hd hl) r
theorem g_aloadN {K : State → Outcome → Prop} (X : Stand p l e R s m args below meth c T locs cells slots) (hx : p.tables.exec = Jvm.exec) {pc : Nat} {L : Array Slot} {S : List Value} {k : Fin 4} {v : Value} (hd : decode c.code pc = .ok (.aload_n k, 1)) (pc' : Nat) (hp : pc + 1 = pc') (hl : L[k.val]? = some (.val v)) (hv : v.isRef = true) (r : Go p e below K (T.setTop (mkF m pc' L (v :: S)))) : Go p e below K (T.setTop (mkF m pc L S)) := by
  subst hp
  exact Go.st (fun _ => XS.aloadN X.here hx rfl hd hl hv) r
theorem g_aload {K : State → Outcome → Prop} (X : Stand p l e R s m args below meth c T locs cells slots) (hx : p.tables.exec = Jvm.exec) {pc : Nat} {L : Array Slot} {S : List Value} {k : Nat} {v : Value} (hd : decode c.code pc = .ok (.aload k, 2)) (pc' : Nat) (hp : pc + 2 = pc') (hl : L[k]? = some (.val v)) (hv : v.isRef = true) (r : Go p e below K (T.setTop (mkF m pc' L (v :: S)))) : Go p e below K (T.setTop (mkF m pc L S)) := by
  subst hp
  exact Go.st (fun _ => XS.aload X.here hx rfl hd hl hv) r
theorem g_istoreN {K : State → Outcome → Prop} (X : Stand p l e R s m args below meth c T locs cells slots) (hx : p.tables.exec = Jvm.exec) {pc : Nat} {L : Array Slot} {S : List Value} {k : Fin 4} {v : Int32} (hd : decode c.code pc = .ok (.istore_n k, 1)) (pc' : Nat) (hp : pc + 1 = pc') (L' : Array Slot) (hl : storeLocals L k.val (.int v) = some L') (r : Go p e below K (T.setTop (mkF m pc' L' S))) : Go p e below K (T.setTop (mkF m pc L (.int v :: S))) := by
  subst hp
  exact Go.st (fun _ => XS.istoreN X.here hx rfl hd rfl hl) r
theorem g_istore {K : State → Outcome → Prop} (X : Stand p l e R s m args below meth c T locs cells slots) (hx : p.tables.exec = Jvm.exec) {pc : Nat} {L : Array Slot} {S : List Value} {k : Nat} {v : Int32} (hd : decode c.code pc = .ok (.istore k, 2)) (pc' : Nat) (hp : pc + 2 = pc') (L' : Array Slot) (hl : storeLocals L k (.int v) = some L') (r : Go p e below K (T.setTop (mkF m pc' L' S))) : Go p e below K (T.setTop (mkF m pc L (.int v :: S))) := by
  subst hp
  exact Go.st (fun _ => XS.istore X.here hx rfl hd rfl hl) r
theorem g_astoreN {K : State → Outcome → Prop} (X : Stand p l e R s m args below meth c T locs cells slots) (hx : p.tables.exec = Jvm.exec) {pc : Nat} {L : Array Slot} {S : List Value} {k : Fin 4} {v : Value} (hd : decode c.code pc = .ok (.astore_n k, 1)) (pc' : Nat) (hp : pc + 1 = pc') (hv : v.isRef = true) (L' : Array Slot) (hl : storeLocals L k.val v = some L') (r : Go p e below K (T.setTop (mkF m pc' L' S))) : Go p e below K (T.setTop (mkF m pc L (v :: S))) := by
  subst hp
  exact Go.st (fun _ => XS.astoreN X.here hx rfl hd rfl hv hl) r
theorem g_astore {K : State → Outcome → Prop} (X : Stand p l e R s m args below meth c T locs cells slots) (hx : p.tables.exec = Jvm.exec) {pc : Nat} {L : Array Slot} {S : List Value} {k : Nat} {v : Value} (hd : decode c.code pc = .ok (.astore k, 2)) (pc' : Nat) (hp : pc + 2 = pc') (hv : v.isRef = true) (L' : Array Slot) (hl : storeLocals L k v = some L') (r : Go p e below K (T.setTop (mkF m pc' L' S))) : Go p e below K (T.setTop (mkF m pc L (v :: S))) := by
  subst hp
  exact Go.st (fun _ => XS.astore X.here hx rfl hd rfl hv hl) r
theorem g_iconst {K : State → Outcome → Prop} (X : Stand p l e R s m args below meth c T locs cells slots) (hx : p.tables.exec = Jvm.exec) {pc : Nat} {L : Array Slot} {S : List Value} {i : Int} (hd : decode c.code pc = .ok (.iconst i, 1)) (pc' : Nat) (hp : pc + 1 = pc') (z : Int32) (hz : Int32.ofInt i = z) (r : Go p e below K (T.setTop (mkF m pc' L (.int z :: S)))) : Go p e below K (T.setTop (mkF m pc L S)) := by
  subst hp; subst hz
  exact Go.st (fun _ => XS.iconst X.here hx rfl hd) r
theorem g_bipush {K : State → Outcome → Prop} (X : Stand p l e R s m args below meth c T locs cells slots) (hx : p.tables.exec = Jvm.exec) {pc : Nat} {L : Array Slot} {S : List Value} {i : Int} (hd : decode c.code pc = .ok (.bipush i, 2)) (pc' : Nat) (hp : pc + 2 = pc') (z : Int32) (hz : (Int8.ofInt i).toInt32 = z) (r : Go p e below K (T.setTop (mkF m pc' L (.int z :: S)))) : Go p e below K (T.setTop (mkF m pc L S)) := by
  subst hp; subst hz
  exact Go.st (fun _ => XS.bipush X.here hx rfl hd) r
theorem g_sipush {K : State → Outcome → Prop} (X : Stand p l e R s m args below meth c T locs cells slots) (hx : p.tables.exec = Jvm.exec) {pc : Nat} {L : Array Slot} {S : List Value} {i : Int} (hd : decode c.code pc = .ok (.sipush i, 3)) (pc' : Nat) (hp : pc + 3 = pc') (z : Int32) (hz : (Int16.ofInt i).toInt32 = z) (r : Go p e below K (T.setTop (mkF m pc' L (.int z :: S)))) : Go p e below K (T.setTop (mkF m pc L S)) := by
  subst hp; subst hz
  exact Go.st (fun _ => XS.sipush X.here hx rfl hd) r
theorem g_null {K : State → Outcome → Prop} (X : Stand p l e R s m args below meth c T locs cells slots) (hx : p.tables.exec = Jvm.exec) {pc : Nat} {L : Array Slot} {S : List Value} (hd : decode c.code pc = .ok (.aconst_null, 1)) (pc' : Nat) (hp : pc + 1 = pc') (r : Go p e below K (T.setTop (mkF m pc' L (.null :: S)))) : Go p e below K (T.setTop (mkF m pc L S)) := by
  subst hp
  exact Go.st (fun _ => XS.aconstNull X.here hx rfl hd) r
theorem g_iadd {K : State → Outcome → Prop} (X : Stand p l e R s m args below meth c T locs cells slots) (hx : p.tables.exec = Jvm.exec) {pc : Nat} {L : Array Slot} {S : List Value} {x y : Int32} (hd : decode c.code pc = .ok (.iadd, 1)) (pc' : Nat) (hp : pc + 1 = pc') (z : Int32) (hz : x + y = z) (r : Go p e below K (T.setTop (mkF m pc' L (.int z :: S)))) : Go p e below K (T.setTop (mkF m pc L (.int y :: .int x :: S))) := by
  subst hp; subst hz
  exact Go.st (fun _ => XS.iadd X.here hx rfl hd rfl) r
theorem g_isub {K : State → Outcome → Prop} (X : Stand p l e R s m args below meth c T locs cells slots) (hx : p.tables.exec = Jvm.exec) {pc : Nat} {L : Array Slot} {S : List Value} {x y : Int32} (hd : decode c.code pc = .ok (.isub, 1)) (pc' : Nat) (hp : pc + 1 = pc') (z : Int32) (hz : x - y = z) (r : Go p e below K (T.setTop (mkF m pc' L (.int z :: S)))) : Go p e below K (T.setTop (mkF m pc L (.int y :: .int x :: S))) := by
  subst hp; subst hz
  exact Go.st (fun _ => XS.isub X.here hx rfl hd rfl) r
theorem g_imul {K : State → Outcome → Prop} (X : Stand p l e R s m args below meth c T locs cells slots) (hx : p.tables.exec = Jvm.exec) {pc : Nat} {L : Array Slot} {S : List Value} {x y : Int32} (hd : decode c.code pc = .ok (.imul, 1)) (pc' : Nat) (hp : pc + 1 = pc') (z : Int32) (hz : x * y = z) (r : Go p e below K (T.setTop (mkF m pc' L (.int z :: S)))) : Go p e below K (T.setTop (mkF m pc L (.int y :: .int x :: S))) := by
  subst hp; subst hz
  exact Go.st (fun _ => XS.imul X.here hx rfl hd rfl) r
theorem g_iand {K : State → Outcome → Prop} (X : Stand p l e R s m args below meth c T locs cells slots) (hx : p.tables.exec = Jvm.exec) {pc : Nat} {L : Array Slot} {S : List Value} {x y : Int32} (hd : decode c.code pc = .ok (.iand, 1)) (pc' : Nat) (hp : pc + 1 = pc') (z : Int32) (hz : x &&& y = z) (r : Go p e below K (T.setTop (mkF m pc' L (.int z :: S)))) : Go p e below K (T.setTop (mkF m pc L (.int y :: .int x :: S))) := by
  subst hp; subst hz
  exact Go.st (fun _ => XS.iand X.here hx rfl hd rfl) r
theorem g_ishr {K : State → Outcome → Prop} (X : Stand p l e R s m args below meth c T locs cells slots) (hx : p.tables.exec = Jvm.exec) {pc : Nat} {L : Array Slot} {S : List Value} {x y : Int32} (hd : decode c.code pc = .ok (.ishr, 1)) (pc' : Nat) (hp : pc + 1 = pc') (z : Int32) (hz : x >>> (y &&& 31) = z) (r : Go p e below K (T.setTop (mkF m pc' L (.int z :: S)))) : Go p e below K (T.setTop (mkF m pc L (.int y :: .int x :: S))) := by
  subst hp; subst hz
  exact Go.st (fun _ => XT.ishr X.here hx rfl hd rfl) r
theorem g_iushr {K : State → Outcome → Prop} (X : Stand p l e R s m args below meth c T locs cells slots) (hx : p.tables.exec = Jvm.exec) {pc : Nat} {L : Array Slot} {S : List Value} {x y : Int32} (hd : decode c.code pc = .ok (.iushr, 1)) (pc' : Nat) (hp : pc + 1 = pc') (z : Int32) (hz : XT.ushr x y = z) (r : Go p e below K (T.setTop (mkF m pc' L (.int z :: S)))) : Go p e below K (T.setTop (mkF m pc L (.int y :: .int x :: S))) := by
  subst hp; subst hz
  exact Go.st (fun _ => XT.iushr X.here hx rfl hd rfl) r
theorem g_i2b {K : State → Outcome → Prop} (X : Stand p l e R s m args below meth c T locs cells slots) (hx : p.tables.exec = Jvm.exec) {pc : Nat} {L : Array Slot} {S : List Value} {x : Int32} (hd : decode c.code pc = .ok (.i2b, 1)) (pc' : Nat) (hp : pc + 1 = pc') (z : Int32) (hz : x.toInt8.toInt32 = z) (r : Go p e below K (T.setTop (mkF m pc' L (.int z :: S)))) : Go p e below K (T.setTop (mkF m pc L (.int x :: S))) := by
  subst hp; subst hz
  exact Go.st (fun _ => XT.i2b X.here hx rfl hd rfl) r
theorem g_i2c {K : State → Outcome → Prop} (X : Stand p l e R s m args below meth c T locs cells slots) (hx : p.tables.exec = Jvm.exec) {pc : Nat} {L : Array Slot} {S : List Value} {x : Int32} (hd : decode c.code pc = .ok (.i2c, 1)) (pc' : Nat) (hp : pc + 1 = pc') (z : Int32) (hz : x.toUInt32.toUInt16.toUInt32.toInt32 = z) (r : Go p e below K (T.setTop (mkF m pc' L (.int z :: S)))) : Go p e below K (T.setTop (mkF m pc L (.int x :: S))) := by
  subst hp; subst hz
  exact Go.st (fun _ => XT.i2c X.here hx rfl hd rfl) r
theorem g_iinc {K : State → Outcome → Prop} (X : Stand p l e R s m args below meth c T locs cells slots) (hx : p.tables.exec = Jvm.exec) {pc : Nat} {L : Array Slot} {S : List Value} {k : Nat} {i : Int} {x : Int32} (hd : decode c.code pc = .ok (.iinc k i, 3)) (pc' : Nat) (hp : pc + 3 = pc') (hl : L[k]? = some (.val (.int x))) (z : Int32) (hz : x + Int32.ofInt i = z) (L' : Array Slot) (hl' : storeLocals L k (.int z) = some L') (r : Go p e below K (T.setTop (mkF m pc' L' S))) : Go p e below K (T.setTop (mkF m pc L S)) := by
  subst hp; subst hz
  exact Go.st (fun _ => XS.iinc X.here hx rfl hd hl hl') r
theorem g_dup {K : State → Outcome → Prop} (X : Stand p l e R s m args below meth c T locs cells slots) (hx : p.tables.exec = Jvm.exec) {pc : Nat} {L : Array Slot} {S : List Value} {x : Value} (hd : decode c.code pc = .ok (.dup, 1)) (pc' : Nat) (hp : pc + 1 = pc') (hc : x.category = 1) (r : Go p e below K (T.setTop (mkF m pc' L (x :: x :: S)))) : Go p e below K (T.setTop (mkF m pc L (x :: S))) := by
  subst hp
  exact Go.st (fun _ => XS.dup X.here hx rfl hd rfl hc) r
theorem g_pop {K : State → Outcome → Prop} (X : Stand p l e R s m args below meth c T locs cells slots) (hx : p.tables.exec = Jvm.exec) {pc : Nat} {L : Array Slot} {S : List Value} {x : Value} (hd : decode c.code pc = .ok (.pop, 1)) (pc' : Nat) (hp : pc + 1 = pc') (hc : x.category = 1) (r : Go p e below K (T.setTop (mkF m pc' L S))) : Go p e below K (T.setTop (mkF m pc L (x :: S))) := by
  subst hp
  exact Go.st (fun _ => XT.pop X.here hx rfl hd rfl hc) r
theorem g_dupx1 {K : State → Outcome → Prop} (X : Stand p l e R s m args below meth c T locs cells slots) (hx : p.tables.exec = Jvm.exec) {pc : Nat} {L : Array Slot} {S : List Value} {x y : Value} (hd : decode c.code pc = .ok (.dup_x1, 1)) (pc' : Nat) (hp : pc + 1 = pc') (hc : x.category = 1) (hc' : y.category = 1) (r : Go p e below K (T.setTop (mkF m pc' L (x :: y :: x :: S)))) : Go p e below K (T.setTop (mkF m pc L (x :: y :: S))) := by
  subst hp
  exact Go.st (fun _ => XT.dupX1 X.here hx rfl hd rfl hc hc') r
theorem g_goto {K : State → Outcome → Prop} (X : Stand p l e R s m args below meth c T locs cells slots) (hx : p.tables.exec = Jvm.exec) {pc : Nat} {L : Array Slot} {S : List Value} {o : Int} (hd : decode c.code pc = .ok (.goto o, 3)) (pc' : Nat) (h0 : 0 ≤ (pc : Int) + o) (hp : ((pc : Int) + o).toNat = pc') (r : Go p e below K (T.setTop (mkF m pc' L S))) : Go p e below K (T.setTop (mkF m pc L S)) :=
  Go.st (fun _ => XS.goto X.here hx rfl (pc0 := pc) rfl hd h0 hp) r
theorem g_icmp {K : State → Outcome → Prop} (X : Stand p l e R s m args below meth c T locs cells slots) (hx : p.tables.exec = Jvm.exec) {pc : Nat} {L : Array Slot} {S : List Value} {cd : ClassFile.Cond} {o : Int} {x y : Int32} (hd : decode c.code pc = .ok (.if_icmp cd o, 3)) (pc1 pc2 : Nat) (h0 : 0 ≤ (pc : Int) + o) (h1 : ((pc : Int) + o).toNat = pc1) (h2 : pc + 3 = pc2) (yes : if_icmp.holds cd x y = true → Go p e below K (T.setTop (mkF m pc1 L S))) (no : if_icmp.holds cd x y = false → Go p e below K (T.setTop (mkF m pc2 L S))) : Go p e below K (T.setTop (mkF m pc L (.int y :: .int x :: S))) := by
  subst h2
  cases hc : if_icmp.holds cd x y with
  | true => exact Go.st (fun _ => XS.icmpYes X.here hx rfl (pc0 := pc) rfl hd rfl hc h0 h1) (yes hc)
  | false => exact Go.st (fun _ => XS.icmpNo X.here hx rfl hd rfl hc) (no hc)
theorem g_if {K : State → Outcome → Prop} (X : Stand p l e R s m args below meth c T locs cells slots) (hx : p.tables.exec = Jvm.exec) {pc : Nat} {L : Array Slot} {S : List Value} {cd : ClassFile.Cond} {o : Int} {x : Int32} (hd : decode c.code pc = .ok (.ifCond cd o, 3)) (pc1 pc2 : Nat) (h0 : 0 ≤ (pc : Int) + o) (h1 : ((pc : Int) + o).toNat = pc1) (h2 : pc + 3 = pc2) (yes : if_icmp.holds cd x 0 = true → Go p e below K (T.setTop (mkF m pc1 L S))) (no : if_icmp.holds cd x 0 = false → Go p e below K (T.setTop (mkF m pc2 L S))) : Go p e below K (T.setTop (mkF m pc L (.int x :: S))) := by
  subst h2
  cases hc : if_icmp.holds cd x 0 with
  | true => exact Go.st (fun _ => XS.ifYes X.here hx rfl (pc0 := pc) rfl hd rfl ((if0 cd x).trans hc) h0 h1) (yes hc)
  | false => exact Go.st (fun _ => XS.ifNo X.here hx rfl hd rfl ((if0 cd x).trans hc)) (no hc)
theorem g_icmp_eq {K : State → Outcome → Prop} (X : Stand p l e R s m args below meth c T locs cells slots) (hx : p.tables.exec = Jvm.exec) {pc : Nat} {L : Array Slot} {S : List Value} {o : Int} {x y : Int32} (hd : decode c.code pc = .ok (.if_icmp .eq o, 3)) (pc1 pc2 : Nat) (h0 : 0 ≤ (pc : Int) + o) (h1 : ((pc : Int) + o).toNat = pc1) (h2 : pc + 3 = pc2) (yes : x = y → Go p e below K (T.setTop (mkF m pc1 L S))) (no : ¬ x = y → Go p e below K (T.setTop (mkF m pc2 L S))) : Go p e below K (T.setTop (mkF m pc L (.int y :: .int x :: S))) := by
  refine g_icmp X hx hd pc1 pc2 h0 h1 h2 (fun hc => ?_) (fun hc => ?_)
  · by_cases q : x = y
    · exact yes q
    · rw [(feq q).1] at hc; cases hc
  · by_cases q : x = y
    · rw [(teq q).1] at hc; cases hc
    · exact no q
theorem g_if_eq {K : State → Outcome → Prop} (X : Stand p l e R s m args below meth c T locs cells slots) (hx : p.tables.exec = Jvm.exec) {pc : Nat} {L : Array Slot} {S : List Value} {o : Int} {x : Int32} (hd : decode c.code pc = .ok (.ifCond .eq o, 3)) (pc1 pc2 : Nat) (h0 : 0 ≤ (pc : Int) + o) (h1 : ((pc : Int) + o).toNat = pc1) (h2 : pc + 3 = pc2) (yes : x = (0 : Int32) → Go p e below K (T.setTop (mkF m pc1 L S))) (no : ¬ x = (0 : Int32) → Go p e below K (T.setTop (mkF m pc2 L S))) : Go p e below K (T.setTop (mkF m pc L (.int x :: S))) := by
  refine g_if X hx hd pc1 pc2 h0 h1 h2 (fun hc => ?_) (fun hc => ?_)
  · by_cases q : x = (0 : Int32)
    · exact yes q
    · rw [(feq q).1] at hc; cases hc
  · by_cases q : x = (0 : Int32)
    · rw [(teq q).1] at hc; cases hc
    · exact no q
theorem g_icmp_ne {K : State → Outcome → Prop} (X : Stand p l e R s m args below meth c T locs cells slots) (hx : p.tables.exec = Jvm.exec) {pc : Nat} {L : Array Slot} {S : List Value} {o : Int} {x y : Int32} (hd : decode c.code pc = .ok (.if_icmp .ne o, 3)) (pc1 pc2 : Nat) (h0 : 0 ≤ (pc : Int) + o) (h1 : ((pc : Int) + o).toNat = pc1) (h2 : pc + 3 = pc2) (yes : ¬ x = y → Go p e below K (T.setTop (mkF m pc1 L S))) (no : x = y → Go p e below K (T.setTop (mkF m pc2 L S))) : Go p e below K (T.setTop (mkF m pc L (.int y :: .int x :: S))) := by
  refine g_icmp X hx hd pc1 pc2 h0 h1 h2 (fun hc => ?_) (fun hc => ?_)
  · by_cases q : x = y
    · rw [(teq q).2] at hc; cases hc
    · exact yes q
  · by_cases q : x = y
    · exact no q
    · rw [(feq q).2] at hc; cases hc
theorem g_if_ne {K : State → Outcome → Prop} (X : Stand p l e R s m args below meth c T locs cells slots) (hx : p.tables.exec = Jvm.exec) {pc : Nat} {L : Array Slot} {S : List Value} {o : Int} {x : Int32} (hd : decode c.code pc = .ok (.ifCond .ne o, 3)) (pc1 pc2 : Nat) (h0 : 0 ≤ (pc : Int) + o) (h1 : ((pc : Int) + o).toNat = pc1) (h2 : pc + 3 = pc2) (yes : ¬ x = (0 : Int32) → Go p e below K (T.setTop (mkF m pc1 L S))) (no : x = (0 : Int32) → Go p e below K (T.setTop (mkF m pc2 L S))) : Go p e below K (T.setTop (mkF m pc L (.int x :: S))) := by
  refine g_if X hx hd pc1 pc2 h0 h1 h2 (fun hc => ?_) (fun hc => ?_)
  · by_cases q : x = (0 : Int32)
    · rw [(teq q).2] at hc; cases hc
    · exact yes q
  · by_cases q : x = (0 : Int32)
    · exact no q
    · rw [(feq q).2] at hc; cases hc
theorem g_icmp_lt {K : State → Outcome → Prop} (X : Stand p l e R s m args below meth c T locs cells slots) (hx : p.tables.exec = Jvm.exec) {pc : Nat} {L : Array Slot} {S : List Value} {o : Int} {x y : Int32} (hd : decode c.code pc = .ok (.if_icmp .lt o, 3)) (pc1 pc2 : Nat) (h0 : 0 ≤ (pc : Int) + o) (h1 : ((pc : Int) + o).toNat = pc1) (h2 : pc + 3 = pc2) (yes : x < y → Go p e below K (T.setTop (mkF m pc1 L S))) (no : ¬ x < y → Go p e below K (T.setTop (mkF m pc2 L S))) : Go p e below K (T.setTop (mkF m pc L (.int y :: .int x :: S))) := by
  refine g_icmp X hx hd pc1 pc2 h0 h1 h2 (fun hc => ?_) (fun hc => ?_)
  · by_cases q : x < y
    · exact yes q
    · rw [(flt q).1] at hc; cases hc
  · by_cases q : x < y
    · rw [(tlt q).1] at hc; cases hc
    · exact no q
theorem g_if_lt {K : State → Outcome → Prop} (X : Stand p l e R s m args below meth c T locs cells slots) (hx : p.tables.exec = Jvm.exec) {pc : Nat} {L : Array Slot} {S : List Value} {o : Int} {x : Int32} (hd : decode c.code pc = .ok (.ifCond .lt o, 3)) (pc1 pc2 : Nat) (h0 : 0 ≤ (pc : Int) + o) (h1 : ((pc : Int) + o).toNat = pc1) (h2 : pc + 3 = pc2) (yes : x < (0 : Int32) → Go p e below K (T.setTop (mkF m pc1 L S))) (no : ¬ x < (0 : Int32) → Go p e below K (T.setTop (mkF m pc2 L S))) : Go p e below K (T.setTop (mkF m pc L (.int x :: S))) := by
  refine g_if X hx hd pc1 pc2 h0 h1 h2 (fun hc => ?_) (fun hc => ?_)
  · by_cases q : x < (0 : Int32)
    · exact yes q
    · rw [(flt q).1] at hc; cases hc
  · by_cases q : x < (0 : Int32)
    · rw [(tlt q).1] at hc; cases hc
    · exact no q
theorem g_icmp_ge {K : State → Outcome → Prop} (X : Stand p l e R s m args below meth c T locs cells slots) (hx : p.tables.exec = Jvm.exec) {pc : Nat} {L : Array Slot} {S : List Value} {o : Int} {x y : Int32} (hd : decode c.code pc = .ok (.if_icmp .ge o, 3)) (pc1 pc2 : Nat) (h0 : 0 ≤ (pc : Int) + o) (h1 : ((pc : Int) + o).toNat = pc1) (h2 : pc + 3 = pc2) (yes : ¬ x < y → Go p e below K (T.setTop (mkF m pc1 L S))) (no : x < y → Go p e below K (T.setTop (mkF m pc2 L S))) : Go p e below K (T.setTop (mkF m pc L (.int y :: .int x :: S))) := by
  refine g_icmp X hx hd pc1 pc2 h0 h1 h2 (fun hc => ?_) (fun hc => ?_)
  · by_cases q : x < y
    · rw [(tlt q).2.1] at hc; cases hc
    · exact yes q
  · by_cases q : x < y
    · exact no q
    · rw [(flt q).2.1] at hc; cases hc
theorem g_if_ge {K : State → Outcome → Prop} (X : Stand p l e R s m args below meth c T locs cells slots) (hx : p.tables.exec = Jvm.exec) {pc : Nat} {L : Array Slot} {S : List Value} {o : Int} {x : Int32} (hd : decode c.code pc = .ok (.ifCond .ge o, 3)) (pc1 pc2 : Nat) (h0 : 0 ≤ (pc : Int) + o) (h1 : ((pc : Int) + o).toNat = pc1) (h2 : pc + 3 = pc2) (yes : ¬ x < (0 : Int32) → Go p e below K (T.setTop (mkF m pc1 L S))) (no : x < (0 : Int32) → Go p e below K (T.setTop (mkF m pc2 L S))) : Go p e below K (T.setTop (mkF m pc L (.int x :: S))) := by
  refine g_if X hx hd pc1 pc2 h0 h1 h2 (fun hc => ?_) (fun hc => ?_)
  · by_cases q : x < (0 : Int32)
    · rw [(tlt q).2.1] at hc; cases hc
    · exact yes q
  · by_cases q : x < (0 : Int32)
    · exact no q
    · rw [(flt q).2.1] at hc; cases hc
theorem g_icmp_gt {K : State → Outcome → Prop} (X : Stand p l e R s m args below meth c T locs cells slots) (hx : p.tables.exec = Jvm.exec) {pc : Nat} {L : Array Slot} {S : List Value} {o : Int} {x y : Int32} (hd : decode c.code pc = .ok (.if_icmp .gt o, 3)) (pc1 pc2 : Nat) (h0 : 0 ≤ (pc : Int) + o) (h1 : ((pc : Int) + o).toNat = pc1) (h2 : pc + 3 = pc2) (yes : y < x → Go p e below K (T.setTop (mkF m pc1 L S))) (no : ¬ y < x → Go p e below K (T.setTop (mkF m pc2 L S))) : Go p e below K (T.setTop (mkF m pc L (.int y :: .int x :: S))) := by
  refine g_icmp X hx hd pc1 pc2 h0 h1 h2 (fun hc => ?_) (fun hc => ?_)
  · by_cases q : y < x
    · exact yes q
    · rw [(flt q).2.2.1] at hc; cases hc
  · by_cases q : y < x
    · rw [(tlt q).2.2.1] at hc; cases hc
    · exact no q
theorem g_icmp_le {K : State → Outcome → Prop} (X : Stand p l e R s m args below meth c T locs cells slots) (hx : p.tables.exec = Jvm.exec) {pc : Nat} {L : Array Slot} {S : List Value} {o : Int} {x y : Int32} (hd : decode c.code pc = .ok (.if_icmp .le o, 3)) (pc1 pc2 : Nat) (h0 : 0 ≤ (pc : Int) + o) (h1 : ((pc : Int) + o).toNat = pc1) (h2 : pc + 3 = pc2) (yes : ¬ y < x → Go p e below K (T.setTop (mkF m pc1 L S))) (no : y < x → Go p e below K (T.setTop (mkF m pc2 L S))) : Go p e below K (T.setTop (mkF m pc L (.int y :: .int x :: S))) := by
  refine g_icmp X hx hd pc1 pc2 h0 h1 h2 (fun hc => ?_) (fun hc => ?_)
  · by_cases q : y < x
    · rw [(tlt q).2.2.2] at hc; cases hc
    · exact yes q
  · by_cases q : y < x
    · exact no q
    · rw [(flt q).2.2.2] at hc; cases hc
theorem g_if_le {K : State → Outcome → Prop} (X : Stand p l e R s m args below meth c T locs cells slots) (hx : p.tables.exec = Jvm.exec) {pc : Nat} {L : Array Slot} {S : List Value} {o : Int} {x : Int32} (hd : decode c.code pc = .ok (.ifCond .le o, 3)) (pc1 pc2 : Nat) (h0 : 0 ≤ (pc : Int) + o) (h1 : ((pc : Int) + o).toNat = pc1) (h2 : pc + 3 = pc2) (yes : ¬ (0 : Int32) < x → Go p e below K (T.setTop (mkF m pc1 L S))) (no : (0 : Int32) < x → Go p e below K (T.setTop (mkF m pc2 L S))) : Go p e below K (T.setTop (mkF m pc L (.int x :: S))) := by
  refine g_if X hx hd pc1 pc2 h0 h1 h2 (fun hc => ?_) (fun hc => ?_)
  · by_cases q : (0 : Int32) < x
    · rw [(tlt q).2.2.2] at hc; cases hc
    · exact yes q
  · by_cases q : (0 : Int32) < x
    · exact no q
    · rw [(flt q).2.2.2] at hc; cases hc
theorem g_ifnonnullY {K : State → Outcome → Prop} (X : Stand p l e R s m args below meth c T locs cells slots) (hx : p.tables.exec = Jvm.exec) {pc : Nat} {L : Array Slot} {S : List Value} {o : Int} {b : Addr} (hd : decode c.code pc = .ok (.ifnonnull o, 3)) (pc' : Nat) (h0 : 0 ≤ (pc : Int) + o) (hp : ((pc : Int) + o).toNat = pc') (r : Go p e below K (T.setTop (mkF m pc' L S))) : Go p e below K (T.setTop (mkF m pc L (.ref b :: S))) :=
  Go.st (fun _ => XT.ifnonnullYes X.here hx rfl (pc0 := pc) rfl hd rfl h0 hp) r
theorem g_acmp_ne {K : State → Outcome → Prop} (X : Stand p l e R s m args below meth c T locs cells slots) (hx : p.tables.exec = Jvm.exec) {pc : Nat} {L : Array Slot} {S : List Value} {o : Int} {x y : Value} (hd : decode c.code pc = .ok (.if_acmp .ne o, 3)) (pc1 pc2 : Nat) (h0 : 0 ≤ (pc : Int) + o) (h1 : ((pc : Int) + o).toNat = pc1) (h2 : pc + 3 = pc2) (hx' : x.isRef = true) (hy' : y.isRef = true) (yes : ¬ x = y → Go p e below K (T.setTop (mkF m pc1 L S))) (no : x = y → Go p e below K (T.setTop (mkF m pc2 L S))) : Go p e below K (T.setTop (mkF m pc L (y :: x :: S))) := by
  subst h2
  by_cases q : x = y
  · exact Go.st (fun _ => XT.acmpNo X.here hx rfl hd rfl hx' hy' (by simp [XT.acmp, q])) (no q)
  · exact Go.st (fun _ => XT.acmpYes X.here hx rfl (pc0 := pc) rfl hd rfl hx' hy' (by simp [XT.acmp, q]) h0 h1) (yes q)
theorem g_alen {K : State → Outcome → Prop} {Z : State} {h : Heap} {a : Addr} {k : ClassId} {ty : FieldType} {z : Int32} {vs : List Value} {dv : Value} (X : Stand p l e R s m args below meth c T locs cells slots) (hx : p.tables.exec = Jvm.exec) {pc : Nat} {L : Array Slot} {S : List Value} (hd : decode c.code pc = .ok (.arraylength, 1)) (pc' : Nat) (hp : pc + 1 = pc') (hZ : Z.Warmed39 s.vm) (eT : T.heap = h) (F : Arv Z h a k ty z vs dv) (r : Go p e below K (T.setTop (mkF m pc' L (.int z :: S)))) : Go p e below K (T.setTop (mkF m pc L (.ref a :: S))) := by
  subst hp
  obtain ⟨cl, A, r1, r2, r3, Hh, Gg⟩ := F
  refine Go.st (X.arraylength hx (by rw [eT]; exact A.1) (State.isArrayOf_alike hZ.alike A.2.1) (g := mkF m pc L (.ref a :: S)) rfl rfl hd) ?_
  rw [len_of r2 r3]
  exact r
theorem g_baload {K : State → Outcome → Prop} {Z : State} {h : Heap} {a : Addr} {k : ClassId} {z : Int32} {vs : List Value} {dv : Value} (X : Stand p l e R s m args below meth c T locs cells slots) (hx : p.tables.exec = Jvm.exec) {pc : Nat} {L : Array Slot} {S : List Value} {j : Int32} (hd : decode c.code pc = .ok (.baload, 1)) (pc' : Nat) (hp : pc + 1 = pc') (hZ : Z.Warmed39 s.vm) (eT : T.heap = h) (F : Arv Z h a k .byte z vs dv) (q : ¬ j < 0 ∧ j < z) (v : Value) (u : vs.getD j.toNatClampNeg dv = v) (r : Go p e below K (T.setTop (mkF m pc' L (v :: S)))) : Go p e below K (T.setTop (mkF m pc L (.int j :: .ref a :: S))) := by
  subst hp
  obtain ⟨cl, A, r1, r2, r3, Hh, Gg⟩ := F
  exact Go.st (X.baloadBytes hx (by rw [eT]; exact A.1) (State.isArrayOf_alike hZ.alike A.2.1) A.2.2 (inb_of r2 q) (Hh.at (inb_of r2 q) u) (g := mkF m pc L (.int j :: .ref a :: S)) rfl rfl hd) r
theorem g_baloadZ {K : State → Outcome → Prop} {Z : State} {h : Heap} {a : Addr} {k : ClassId} {z : Int32} {vs : List Value} {dv : Value} (X : Stand p l e R s m args below meth c T locs cells slots) (hx : p.tables.exec = Jvm.exec) {pc : Nat} {L : Array Slot} {S : List Value} {j : Int32} (hd : decode c.code pc = .ok (.baload, 1)) (pc' : Nat) (hp : pc + 1 = pc') (hZ : Z.Warmed39 s.vm) (eT : T.heap = h) (F : Arv Z h a k .boolean z vs dv) (q : ¬ j < 0 ∧ j < z) (v : Value) (u : vs.getD j.toNatClampNeg dv = v) (r : Go p e below K (T.setTop (mkF m pc' L (v :: S)))) : Go p e below K (T.setTop (mkF m pc L (.int j :: .ref a :: S))) := by
  subst hp
  obtain ⟨cl, A, r1, r2, r3, Hh, Gg⟩ := F
  exact Go.st (X.baloadBooleans hx (by rw [eT]; exact A.1) (State.isArrayOf_alike hZ.alike A.2.1) A.2.2 (inb_of r2 q) (Hh.at (inb_of r2 q) u) (g := mkF m pc L (.int j :: .ref a :: S)) rfl rfl hd) r
theorem g_caload {K : State → Outcome → Prop} {Z : State} {h : Heap} {a : Addr} {k : ClassId} {z : Int32} {vs : List Value} {dv : Value} (X : Stand p l e R s m args below meth c T locs cells slots) (hx : p.tables.exec = Jvm.exec) {pc : Nat} {L : Array Slot} {S : List Value} {j : Int32} (hd : decode c.code pc = .ok (.caload, 1)) (pc' : Nat) (hp : pc + 1 = pc') (hZ : Z.Warmed39 s.vm) (eT : T.heap = h) (F : Arv Z h a k .char z vs dv) (q : ¬ j < 0 ∧ j < z) (v : Value) (u : vs.getD j.toNatClampNeg dv = v) (r : Go p e below K (T.setTop (mkF m pc' L (v :: S)))) : Go p e below K (T.setTop (mkF m pc L (.int j :: .ref a :: S))) := by
  subst hp
  obtain ⟨cl, A, r1, r2, r3, Hh, Gg⟩ := F
  exact Go.st (X.caload hx (by rw [eT]; exact A.1) (State.isArrayOf_alike hZ.alike A.2.1) A.2.2 (inb_of r2 q) (Hh.at (inb_of r2 q) u) (g := mkF m pc L (.int j :: .ref a :: S)) rfl rfl hd) r
theorem g_bastore {Z : State} {h : Heap} {a : Addr} {k : ClassId} {z : Int32} {vs : List Value} {dv : Value} (X : Stand p l e R s m args below meth c T locs cells slots) (hx : p.tables.exec = Jvm.exec) {pc : Nat} {L : Array Slot} {S : List Value} {j : Int32} {x : Int32} (hd : decode c.code pc = .ok (.bastore, 1)) (hZ : Z.Warmed39 s.vm) (eT : T.heap = h) (F : Arv Z h a k .byte z vs dv) (q : ¬ j < 0 ∧ j < z) {i : Nat} (hj : j.toNatClampNeg = i) (hi : i < vs.length) :
    ∃ T' h', Stand p l e R s m args below meth c T' (locs ++ [⟨a, j.toNatClampNeg⟩]) cells slots ∧ T'.heap = h' ∧ Wr h h' a j.toNatClampNeg (.int (nar .byte x)) ∧ Arv Z h' a k .byte z (vs.set i (.int (nar .byte x))) dv ∧ ∀ target, Steps p.tables e below (T'.setTop (mkF m (pc + 1) L S)) target → Steps p.tables e below (T.setTop (mkF m pc L (.int x :: .int j :: .ref a :: S))) target := by
  obtain ⟨cl, A, r1, r2, r3, Hh, Gg⟩ := F
  obtain ⟨T', h', X', e', W', st⟩ := stB X hx hZ eT A (inb_of r2 q) (g := mkF m pc L (.int x :: .int j :: .ref a :: S)) rfl rfl hd
  exact ⟨T', h', X', e', W', Arv.set A r1 r2 r3 Hh Gg (own_fits_nar .byte x (by simp)) W' i hj hi, st⟩
end Layer
theorem own_i2b (x : Int32) : nar .byte x.toInt8.toInt32 = x.toInt8.toInt32 := by
  show x.toInt8.toInt32.toInt8.toInt32 = x.toInt8.toInt32
  rw [Int8.toInt8_toInt32]
theorem own_ch (x : Int32) : ¬ (255 : Int32) < (x &&& (255 : Int32)).toUInt32.toUInt16.toUInt32.toInt32 := by
  have h1 := c_and x (255 : Int32) (by decide)
  have h2 := c_i2c (x &&& (255 : Int32))
  have e1 : (255 : Int32).toInt = 255 := by decide
  rw [Int32.lt_iff_toInt_lt, e1]
  omega
theorem own_shr0 (z : Int32) : z >>> ((0 : Int32) &&& 31) = z := by
  have h := c_ishr z (0 : Int32) 0 (by decide)
  rw [← Int32.toInt_inj, h]
  omega
theorem own_chr (x : Int32) : nar .char (x &&& (255 : Int32)).toUInt32.toUInt16.toUInt32.toInt32 = x &&& (255 : Int32) := by
  show (x &&& (255 : Int32)).toUInt32.toUInt16.toUInt32.toInt32.toUInt32.toUInt16.toUInt32.toInt32 = _
  have h1 := c_and x (255 : Int32) (by decide)
  have h2 := c_i2c (x &&& (255 : Int32))
  have h3 := c_i2c ((x &&& (255 : Int32)).toUInt32.toUInt16.toUInt32.toInt32)
  have e1 : (255 : Int32).toInt = 255 := by decide
  rw [← Int32.toInt_inj]
  omega
theorem own_nc (x : Int32) : nar .char (x &&& (255 : Int32)) = x &&& (255 : Int32) := by
  show (x &&& (255 : Int32)).toUInt32.toUInt16.toUInt32.toInt32 = _
  have h1 := c_and x (255 : Int32) (by decide)
  have h2 := c_i2c (x &&& (255 : Int32))
  have e1 : (255 : Int32).toInt = 255 := by decide
  rw [← Int32.toInt_inj]
  omega
theorem own_ofNat {n : Nat} (h : n < 2147483648) : (Int32.ofNat n).toInt = n := Int32.toInt_ofNat_small h
theorem own_clamp (x : Int32) (h : 0 ≤ x.toInt) : (x.toNatClampNeg : Int) = x.toInt := by
  show ((x.toInt).toNat : Int) = x.toInt
  omega
theorem own_cl {n : Nat} (h : n < 2147483648) : (Int32.ofNat n).toNatClampNeg = n := by
  have h1 := own_ofNat h
  have h2 := own_clamp (Int32.ofNat n) (by omega)
  omega
theorem own_in {j N : Nat} (hN : N < 2147483648) (h : j < N) : ¬ Int32.ofNat j < 0 ∧ Int32.ofNat j < Int32.ofNat N := by
  rw [Int32.lt_iff_toInt_lt, Int32.lt_iff_toInt_lt, own_ofNat hN, own_ofNat (by omega)]
  have e0 : (0 : Int32).toInt = 0 := by decide
  omega
theorem own_lt {j N : Nat} (hj : j < 2147483648) (hN : N < 2147483648) (h : Int32.ofNat j < Int32.ofNat N) : j < N := by
  rw [Int32.lt_iff_toInt_lt, own_ofNat hN, own_ofNat hj] at h
  omega
theorem own_eqn {i j : Nat} (hi : i < 2147483648) (hj : j < 2147483648) (h : Int32.ofNat i = Int32.ofNat j) : i = j := by
  rw [← Int32.toInt_inj, own_ofNat hi, own_ofNat hj] at h
  omega
theorem own_up (N : Nat) : Int32.ofNat N + (1 : Int32) = Int32.ofNat (N + 1) := (Int32.ofNat_add N 1).symm
theorem own_nf {N c B : Nat} {p : Int32} (hc : (6 : Int32) * p = Int32.ofNat c) (h : N + c ≤ B) (hB : B < 2147483648) : ¬ Int32.ofNat B < Int32.ofNat N + (6 : Int32) * p := by
  rw [hc, ← Int32.ofNat_add]
  intro z
  have := own_lt (by omega) (by omega) z
  omega
theorem own_snoc {vs : List Value} {N : Nat} (h : vs.length = N) (d v : Value) : (vs ++ List.replicate 1 d).set N v = vs ++ [v] := by
  subst h
  simp [List.set_append_right]
theorem own_take (M n : Nat) (d : Value) (us : List Value) : (List.replicate M d).take 0 ++ us ++ (List.replicate M d).drop (0 + n) = us ++ List.replicate (M - n) d := by simp
theorem own_cpv {vs : List Value} {N : Nat} (d : Value) (h : vs.length = N) (i : Nat) : vs.getD i d = ((List.range N).map (fun i => vs.getD (0 + i) d) ++ List.replicate (N - N) d).getD i d := by
  subst h
  rw [Nat.sub_self, List.replicate_zero, List.append_nil]
  by_cases q : i < vs.length
  · simp [List.getD, q]
  · simp [List.getD, q]
theorem own_len {vs : List Value} {N : Nat} (h : vs.length = N) (v : Value) : (vs ++ [v]).length = N + 1 := by simp [h]
theorem own_b2 (c : Int32) : nar .byte ((c.toInt8.toInt32 &&& (255 : Int32)).toInt8.toInt32) = c.toInt8.toInt32 := by
  show (c.toInt8.toInt32 &&& (255 : Int32)).toInt8.toInt32.toInt8.toInt32 = c.toInt8.toInt32
  have h1 := c_i2b c
  have h2 := c_mask c.toInt8.toInt32 (255 : Int32) 8 (by decide) (by decide)
  have h3 := c_i2b (c.toInt8.toInt32 &&& (255 : Int32))
  have h4 := c_i2b (c.toInt8.toInt32 &&& (255 : Int32)).toInt8.toInt32
  rw [← Int32.toInt_inj]
  omega
theorem own_zg (n i : Nat) (d : Value) : (List.replicate n d).getD i d = d := by
  rw [List.getD_eq_getElem?_getD, List.getElem?_replicate]
  split <;> rfl
theorem own_zset (n i : Nat) (d : Value) : (List.replicate n d).set i d = List.replicate n d := by
  refine List.ext_getElem (by simp) fun j h1 h2 => ?_
  rw [List.getElem_set]
  simp
theorem own_alld {l : List Value} {d : Value} (h : ∀ x ∈ l, x = d) (i : Nat) : l.getD i d = d := by
  rw [List.getD_eq_getElem?_getD]
  cases q : l[i]? with
  | none => rfl
  | some x => exact h x (List.mem_of_getElem? q)
theorem own_cpz (M sp dp n : Nat) (d : Value) (a : List Value) (ha : ∀ i, a.getD i d = d) (j : Nat) : ([] : List Value).getD j d = ((List.replicate M d).take dp ++ (List.range n).map (fun i => a.getD (sp + i) d) ++ (List.replicate M d).drop (dp + n)).getD j d := by
  refine (own_alld (fun x hx => ?_) j).symm
  simp only [List.mem_append, List.mem_map, List.mem_range] at hx
  rcases hx with (hx | ⟨i, _, rfl⟩) | hx
  · exact List.eq_of_mem_replicate (List.mem_of_mem_take hx)
  · exact ha _
  · exact List.eq_of_mem_replicate (List.mem_of_mem_drop hx)
theorem own_0add (x : Int32) : (Int32.ofNat 0) + x = x := Int32.zero_add x
theorem own_mul6 (n : Nat) : (6 : Int32) * Int32.ofNat n = Int32.ofNat (6 * n) := (Int32.ofNat_mul 6 n).symm
theorem own_k (x : Int32) : ∃ n : Nat, n ≤ 4095 ∧ x &&& (4095 : Int32) = Int32.ofNat n := by
  have h := c_and x (4095 : Int32) (by decide)
  have e : (4095 : Int32).toInt = 4095 := by decide
  refine ⟨(x &&& (4095 : Int32)).toInt.toNat, by omega, ?_⟩
  rw [← Int32.toInt_inj, own_ofNat (by omega)]
  omega
theorem own_pred {N : Nat} (h : 0 < N) : Int32.ofNat N - (1 : Int32) = Int32.ofNat (N - 1) := by
  have e : N = (N - 1) + 1 := by omega
  have h1 : Int32.ofNat N = Int32.ofNat (N - 1) + (1 : Int32) := by rw [own_up, ← e]
  rw [h1]
  exact Int32.add_sub_cancel _ _
theorem own_fl {N j : Nat} (h : j < N) (d : Value) (l : List Value) : (List.replicate N d ++ l).getD j d = d := by
  rw [List.getD_eq_getElem?_getD, List.getElem?_append_left (by simpa using h), List.getElem?_replicate, if_pos h]
  rfl
theorem own_fr (N j : Nat) (d : Value) (l : List Value) : (List.replicate N d ++ l).getD (N + j) d = l.getD j d := by
  rw [List.getD_eq_getElem?_getD, List.getElem?_append_right (by simp), List.getD_eq_getElem?_getD]
  simp
theorem own_eqr {args : Array Value} {s : State} {tm tm' : Term} {t : Addr} (ev : tm.eval args s none [] s = some (.ref t)) (h : (Jvm.Cond.eq tm tm').value args s none s [] = some true) : tm'.eval args s none [] s = some (.ref t) := by
  cases e1 : tm'.eval args s none [] s with
  | none => simp [Jvm.Cond.value, ev, e1] at h
  | some x => cases x <;> simp [Jvm.Cond.value, ev, e1] at h ⊢ <;> exact h.symm
theorem own_lenA {args : Array Value} {s : State} {tm : Term} {a : Addr} {cl : Cell} {ty : FieldType} {z : Int32} (ev : tm.eval args s none [] s = some (.ref a)) (A : Arr s s.heap a cl ty) (hlen : (Term.length tm).eval args s none [] s = some (.int z)) : cl.slots.size < 2 ^ 31 ∧ cl.slots.size.toInt32 = z := by
  have ha := A.fin (Vm.Alike.refl _)
  obtain ⟨sd, SA, hev, harr, -⟩ := Term.length_spec hlen
  cases ev.symm.trans hev
  cases ha.symm.trans harr
  have h31 := SBG.length_lt hev harr hlen
  have e := len_f hev harr h31
  have e2 := e.symm.trans hlen
  simp only [Option.some.injEq, Value.int.injEq] at e2
  exact ⟨h31, e2⟩
theorem own_arvL {s : State} {a : Addr} {cl : Cell} {ty : FieldType} {z : Int32} {dv : Value} (hf : Fit s) (A : Arr s s.heap a cl ty) (q : cl.slots.size < 2 ^ 31) (e : cl.slots.size.toInt32 = z) (hz : ¬ z < 0) : Arv s s.heap a cl.cls ty z cl.slots.toList dv := by
  have S : cl.slots.size = z.toNatClampNeg := by rw [← e]; simp only [Int32.toNatClampNeg, len_toInt q]; rfl
  have H' : Has cl cl.slots.toList dv := fun j hj => by simp [List.getD, hj]
  refine ⟨cl, A, rfl, S, hz, H', fun j hj => ?_⟩
  have e1 : (Nat.toInt32 j).toNatClampNeg = j := by simp only [Int32.toNatClampNeg, len_toInt (Nat.lt_trans hj q)]; rfl
  exact elem_fits (j := Nat.toInt32 j) hf A (idx_in hj q) (by rw [e1]; exact H' j hj)
theorem own_ev0 {args : Array Value} {s : State} {tm : Term} {a : Addr} {cl : Cell} {ty : FieldType} (et : ∀ idx, tm.eval args s none idx s = some (.ref a)) (A : Arr s s.heap a cl ty) (hs : 0 < cl.slots.size)
    (h : (Jvm.Cond.all tm (Jvm.Cond.or (Jvm.Cond.le (Term.int 38) (Term.index 0)) (Jvm.Cond.eq (Term.elem tm (Term.index 0)) (Term.int 0)))).value args s none s [] = some true) : cl.slots.toList.getD 0 (.int (0 : Int32)) = .int 0 := by
  have ha := A.fin (Vm.Alike.refl _)
  have h0 := Cond.all_elim (et []) ha h 0 hs
  have ei : (Term.index 0).eval args s none [0] s = some (.int 0) := by simp [Term.eval]; decide
  have ee := elem_f (et [0]) ei ha (by decide)
  have e38 : (Term.int 38).eval args s none [0] s = some (.int 38) := Term.int_eval 38
  have e00 : (Term.int 0).eval args s none [0] s = some (.int 0) := Term.int_eval 0
  cases q : cl.slots[(0 : Int32).toNatClampNeg]? with
  | none =>
    rw [q] at ee
    simp [Jvm.Cond.value, ei, e38, e00, ee] at h0
  | some x =>
    rw [q] at ee
    have q' : cl.slots[0]? = some x := q
    have : x = .int 0 := by
      cases x <;> simp [Jvm.Cond.value, ei, e38, e00, ee] at h0 ⊢
      exact h0
    rw [List.getD_eq_getElem?_getD, Array.getElem?_toList, q', this]
    rfl
theorem own_ch7 (x : Int32) : ¬ (255 : Int32) < (x &&& (127 : Int32)).toUInt32.toUInt16.toUInt32.toInt32 := by
  have h1 := c_and x (127 : Int32) (by decide)
  have h2 := c_i2c (x &&& (127 : Int32))
  have e1 : (255 : Int32).toInt = 255 := by decide
  have e2 : (127 : Int32).toInt = 127 := by decide
  rw [Int32.lt_iff_toInt_lt, e1]
  omega

def own_EL : List (String × Nat) := [("java/lang/String", 7)]
theorem own_EW {Z : State} {a0 : Array Value} (hw : ∀ d ∈ tables_1, d.before a0 Z = true) : EW Z a0 own_EL := (EW.cons (hw _ (List.mem_of_getElem? (i := 206) rfl)) (by decide) EW.nil)
theorem own_wS {Z : State} {a0 : Array Value} (hw : ∀ d ∈ tables_1, d.before a0 Z = true) : ∀ a ∈ Bundle.stringAtoms, a.before a0 Z = true := fun d hd => by
  simp only [Bundle.stringAtoms, List.mem_cons, List.not_mem_nil, or_false] at hd
  rcases hd with rfl | rfl | rfl | rfl | rfl | rfl | rfl
  · exact (hw _ (List.mem_of_getElem? (i := 2) rfl))
  · exact (hw _ (List.mem_of_getElem? (i := 1) rfl))
  · exact (hw _ (List.mem_of_getElem? (i := 19) rfl))
  · exact (hw _ (List.mem_of_getElem? (i := 29) rfl))
  · exact (hw _ (List.mem_of_getElem? (i := 27) rfl))
  · exact (hw _ (List.mem_of_getElem? (i := 207) rfl))
  · exact (hw _ (List.mem_of_getElem? (i := 208) rfl))
theorem own_SafeArv {Z : State} {EL : List (String × Nat)} {vm : Vm} {h : Heap} {a : Addr} {k : ClassId} {ty : FieldType} {z : Int32} {vs : List Value} {dv : Value} (hal : Z.vm.Alike vm) (F : Arv Z h a k ty z vs dv) (ht : ty ≠ .byte) : Safe Z EL vm h a := by
  obtain ⟨cl, A, -⟩ := F
  exact Safe.arr hal A ht
/-- a String whose field value is null is no booked one -/
theorem own_SafeNull {Z : State} {EL : List (String × Nat)} {vm : Vm} {h : Heap} {x : Addr} (hal : Z.vm.Alike vm) (E : Exa Z h x "java/lang/String") (F0 : Fld Z h x "java/lang/String" "value" "[B" .null) : Safe Z EL vm h x := fun B => by
  obtain ⟨p, -, u, a, -, q, -, F, rfl | rfl⟩ := B
  · obtain ⟨cell, cf, k, i, f, h1, h2, -, -, -, -, h7⟩ := F0
    cases (show h[q.sa]? = some q.sC from F.ha).symm.trans h1
    obtain ⟨cS, ⟨⟨-, -, -, ⟨cv, kv, iv, s4, -⟩, -, -, -, s8, -⟩, -⟩, -⟩ := F
    obtain ⟨kv', z4⟩ := ff_back (U := Wst Z vm h) hal s4
    have e4 := z4.symm.trans h2
    simp only [Option.some.injEq, Prod.mk.injEq] at e4
    rw [← e4.2.2.2, s8] at h7
    cases h7
  · obtain ⟨cell, k, e1, e2, e3, -, -⟩ := E
    cases (show h[q.sd]? = some q.SA from F.hd).symm.trans e1
    obtain ⟨cS, -, -, f, -⟩ := F
    have f' : Z.vm.findClass "[B" = some q.SA.cls := by rw [← hal.findClass]; exact f
    obtain ⟨k1, q1, q2⟩ := Vm.findClass_spec f'
    obtain ⟨k2, q3, q4⟩ := Vm.findClass_spec e2
    cases q1.symm.trans q3
    exact absurd (q2.symm.trans q4) (by decide)
section LayerS
variable {p : Program} {l : Launch} {e : Env} {R : Room} {s : State} {m : MethodId} {args : Array Value} {below : List Frame} {meth : Method} {c : Code} {T : State} {locs : List Loc} {cells slots : Nat} {Z : State} {a0 : Array Value} {EL : List (String × Nat)} {vm0 : Vm} {k0 : Nat}
/-- what a contract asks of the end of a walk that may intern -/
def KS (s : State) (below : List Frame) (Z : State) (EL : List (String × Nat)) (Q : Option Value → Heap → List Loc → Prop) (C S : Nat) (s₂ : State) (o : Outcome) : Prop :=
  s₂.status = .running ∧ Ended s₂ below o ∧ ∃ v L, o = .returned v ∧ Q v s₂.heap L ∧ CHr Z EL s.vm s.heap s₂.vm s₂.heap ∧ ReturnedEndW s o s₂ L C S
theorem Go.endS {Q : Option Value → Heap → List Loc → Prop} {C S : Nat} (X : Stand p l e R (s.setVm vm0) m args below meth c T locs cells slots) (hlk : meth.locks = false) {v : Option Value} (hv : meth.sig.returnType = none → v = none) {σ : State}
    (go : ∀ fs, (∀ (f : JFrame) (acts : List Action), f.method = m → f.locked = none → f.entered = [] → (doReturn e (T.setTop f) acts v).1 = T.setFrames fs) → Steps p.tables e below σ (T.setFrames fs))
    (hC : cells ≤ C) (hS' : slots ≤ S) (hS : s.Since vm0 k0) (hk : k0 ≤ T.heap.size) (hEL : EW Z a0 EL) (hZ : Z.Warmed39 (s.setVm vm0).vm) (Rr : CHr Z EL s.vm s.heap vm0 T.heap) (q : Q v T.heap locs) : Go p e below (KS s below Z EL Q C S) σ := by
  obtain ⟨fs, hr, hrun, hended, hEnd⟩ := X.leaveW hS hk (v := v) hv
  exact ⟨_, _, go fs hr, hrun, hended, _, _, rfl, q, Rr.trans (show CHr Z EL vm0 T.heap T.vm T.heap from CHv.at X hZ hEL Rr.1), hEnd.1, hEnd.2.1, hEnd.2.2.1, hEnd.2.2.2.mono hC hS'⟩
theorem Go.retVS {Q : Option Value → Heap → List Loc → Prop} {C S : Nat} (X : Stand p l e R (s.setVm vm0) m args below meth c T locs cells slots) (hx : p.tables.exec = Jvm.exec) (hlk : meth.locks = false) (hret : meth.sig.returnType = none) {pc : Nat} {Ls : Array Slot} (hd : decode c.code pc = .ok (.return_, 1)) (hC : cells ≤ C) (hS' : slots ≤ S)
    (hS : s.Since vm0 k0) (hk : k0 ≤ T.heap.size) (hEL : EW Z a0 EL) (hZ : Z.Warmed39 (s.setVm vm0).vm) (Rr : CHr Z EL s.vm s.heap vm0 T.heap) (q : Q none T.heap locs) : Go p e below (KS s below Z EL Q C S) (T.setTop (mkF m pc Ls [])) :=
  Go.endS X hlk (fun _ => rfl) (fun fs hr => X.returnOut hx hret hd hr) hC hS' hS hk hEL hZ Rr q
theorem Go.retAS {Q : Option Value → Heap → List Loc → Prop} {C S : Nat} (X : Stand p l e R (s.setVm vm0) m args below meth c T locs cells slots) (hx : p.tables.exec = Jvm.exec) (hlk : meth.locks = false) {t : FieldType} (hret : meth.sig.returnType = some t) (ht : t.isReference = true) {pc : Nat} {Ls : Array Slot} {w : Value} (hw : w.isRef = true) {rest : List Value} (hd : decode c.code pc = .ok (.areturn, 1)) (hC : cells ≤ C) (hS' : slots ≤ S)
    (hS : s.Since vm0 k0) (hk : k0 ≤ T.heap.size) (hEL : EW Z a0 EL) (hZ : Z.Warmed39 (s.setVm vm0).vm) (Rr : CHr Z EL s.vm s.heap vm0 T.heap) (q : Q (some w) T.heap locs) : Go p e below (KS s below Z EL Q C S) (T.setTop (mkF m pc Ls (w :: rest))) :=
  Go.endS X hlk (fun h => by rw [hret] at h; cases h) (fun fs hr => retOut X hx hret (by cases t <;> cases w <;> simp_all [narrow, Value.isRef, FieldType.isReference]) (Or.inr (Or.inr (Or.inr (Or.inr ⟨rfl, ht, hw⟩)))) hd hr) hC hS' hS hk hEL hZ Rr q
theorem Go.retIS {Q : Option Value → Heap → List Loc → Prop} {C S : Nat} (X : Stand p l e R (s.setVm vm0) m args below meth c T locs cells slots) (hx : p.tables.exec = Jvm.exec) (hlk : meth.locks = false) (hret : meth.sig.returnType = some .int) {pc : Nat} {Ls : Array Slot} {z : Int32} {rest : List Value} (hd : decode c.code pc = .ok (.ireturn, 1)) (hC : cells ≤ C) (hS' : slots ≤ S)
    (hS : s.Since vm0 k0) (hk : k0 ≤ T.heap.size) (hEL : EW Z a0 EL) (hZ : Z.Warmed39 (s.setVm vm0).vm) (Rr : CHr Z EL s.vm s.heap vm0 T.heap) (q : Q (some (.int z)) T.heap locs) : Go p e below (KS s below Z EL Q C S) (T.setTop (mkF m pc Ls (.int z :: rest))) :=
  Go.endS X hlk (fun h => by rw [hret] at h; cases h) (fun fs hr => retOut X hx hret rfl (Or.inl ⟨rfl, Or.inl rfl, _, rfl⟩) hd hr) hC hS' hS hk hEL hZ Rr q
theorem Go.retNS {Q : Option Value → Heap → List Loc → Prop} {C S : Nat} (X : Stand p l e R (s.setVm vm0) m args below meth c T locs cells slots) (hx : p.tables.exec = Jvm.exec) (hlk : meth.locks = false) {t : FieldType} (hret : meth.sig.returnType = some t) (ht : t = .boolean ∨ t = .byte ∨ t = .char ∨ t = .short) {pc : Nat} {Ls : Array Slot} {z : Int32} {rest : List Value} (hd : decode c.code pc = .ok (.ireturn, 1)) (hC : cells ≤ C) (hS' : slots ≤ S)
    (hS : s.Since vm0 k0) (hk : k0 ≤ T.heap.size) (hEL : EW Z a0 EL) (hZ : Z.Warmed39 (s.setVm vm0).vm) (Rr : CHr Z EL s.vm s.heap vm0 T.heap) (q : Q (some (.int (nar t z))) T.heap locs) : Go p e below (KS s below Z EL Q C S) (T.setTop (mkF m pc Ls (.int z :: rest))) :=
  Go.endS X hlk (fun h => by rw [hret] at h; cases h) (fun fs hr => RoadKit.retN X hx hret ht hd hr) hC hS' hS hk hEL hZ Rr q
end LayerS

theorem own_pn_java_lang_String : plainName "java/lang/String" = true := by first | (simp [plainName, overriddenIn]; done) | decide +kernel
theorem ef_sV0 (m : MethodId) (x0 : Addr) (x1 : Addr) (x2 : Int32) (x3 : Int32) : entryFrame m #[(.ref x0), (.ref x1), (.int x2), (.int x3), .null] 6 = mkF m 0 #[.val (.ref x0), .val (.ref x1), .val (.int x2), .val (.int x3), .val .null, .unset] [] := by first | (simp [entryFrame, mkF, argsToLocals, Value.category]; done) | rfl
theorem d2_0 : decode jdk_42_method_149_code 0 = .ok (.aload_n 0, 1) := by decide +kernel
theorem d2_1 : decode jdk_42_method_149_code 1 = .ok (.invokespecial 1, 3) := by decide +kernel
theorem d2_4 : decode jdk_42_method_149_code 4 = .ok (.iload_n 3, 1) := by decide +kernel
theorem d2_5 : decode jdk_42_method_149_code 5 = .ok (.ifCond .ne 22, 3) := by decide +kernel
theorem d2_8 : decode jdk_42_method_149_code 8 = .ok (.aload_n 0, 1) := by decide +kernel
theorem d2_9 : decode jdk_42_method_149_code 9 = .ok (.ldc 7, 2) := by decide +kernel
theorem d2_11 : decode jdk_42_method_149_code 11 = .ok (.getfield 9, 3) := by decide +kernel
theorem d2_14 : decode jdk_42_method_149_code 14 = .ok (.putfield 9, 3) := by decide +kernel
theorem d2_17 : decode jdk_42_method_149_code 17 = .ok (.aload_n 0, 1) := by decide +kernel
theorem d2_18 : decode jdk_42_method_149_code 18 = .ok (.ldc 7, 2) := by decide +kernel
theorem d2_20 : decode jdk_42_method_149_code 20 = .ok (.getfield 15, 3) := by decide +kernel
theorem d2_23 : decode jdk_42_method_149_code 23 = .ok (.putfield 15, 3) := by decide +kernel
theorem d2_26 : decode jdk_42_method_149_code 26 = .ok (.return_, 1) := by decide +kernel
def QsV0 (Z : State) (a1 : Addr) (a2 : Addr) (h0 : Heap) (n0 : Nat) (v : Option Value) (h : Heap) (L : List Loc) : Prop := ∃ vb : Addr, ∃ kb : ClassId, v = none ∧ Fr n0 L ∧ Keep h0 h [a1] ∧ (Exa Z h a1 "java/lang/String") ∧ (Fld Z h a1 "java/lang/String" "value" "[B" (.ref vb)) ∧ (Fld Z h a1 "java/lang/String" "coder" "B" (.int (0 : Int32))) ∧ (Arv Z h vb kb .byte (0 : Int32) [] (.int (0 : Int32))) ∧ (a1 ≠ vb)
set_option maxRecDepth 65536 in
set_option maxHeartbeats 40000000 in
theorem rmsV0 (l : Launch) (Z : State) (a0 : Array Value) (hw : ∀ d ∈ tables_1, d.before a0 Z = true) (ws : List Jvm.Cond) (a1 : Addr) (a2 : Addr) (h0 : Heap) (n0 : Nat) (Z0 : n0 ≤ h0.size) (E_a1 : Exa Z h0 a1 "java/lang/String") (g_a1 : n0 ≤ a1) (F_value_a1 : Fld Z h0 a1 "java/lang/String" "value" "[B" .null) (F_coder_a1 : Fld Z h0 a1 "java/lang/String" "coder" "B" (.int (0 : Int32))) :
    MetFree l (⟨"java/lang/String", "<init>", "([CIILjava/lang/Void;)V"⟩ : MethodName) (head1 (Jvm.Cond.code (⟨"java/lang/String", "<init>", "([CIILjava/lang/Void;)V"⟩ : MethodName) jdk_42_method_149_code 6 none :: ws) ({ frames := 1, cells := 4, slots := 8, locals := 12 } : Room)) (fun a U => a = #[(.ref a1), (.ref a2), (.int (0 : Int32)), (.int (0 : Int32)), .null] ∧ Z.Warmed39 U.vm ∧ U.heap = h0 ∧ CHv Z own_EL U.vm h0) (fun _ _ _ _ _ => True) (fun _ U o U' => ∃ v L, o = .returned v ∧ QsV0 Z a1 a2 h0 n0 v U'.heap L ∧ CHr Z own_EL U.vm U.heap U'.vm U'.heap ∧ ReturnedEndW U o U' L ({ frames := 1, cells := 4, slots := 8, locals := 12 } : Room).cells ({ frames := 1, cells := 4, slots := 8, locals := 12 } : Room).slots) := by
  refine MetFree.of_bodySF (plainFor_of_name own_pn_java_lang_String) hisR ?_
  intro p e s m args below meth c s₁ Bd hml0 hP hK
  obtain ⟨rfl, hZ, hh, hCH⟩ := hP
  have hx := Bd.exec
  have hby := Bd.bytes
  have hlk := Bd.notSynchronized
  have hml : c.maxLocals = 6 := hml0
  have hown : s.vm.findClass "java/lang/String" = some m.cls := findClass_of_methodNamed Bd.named
  have hnm := (name_of_methodNamed Bd.named Bd.method).1
  have X0 : Stand p l e ({ frames := 1, cells := 4, slots := 8, locals := 12 } : Room) (s.setVm s.vm) m #[(.ref a1), (.ref a2), (.int (0 : Int32)), (.int (0 : Int32)), .null] below meth c s₁ [] 0 0 := Stand.of_body Bd
  have hZ : Z.Warmed39 (s.setVm s.vm).vm := hZ
  have hown : (s.setVm s.vm).vm.findClass "java/lang/String" = some m.cls := hown
  have hS0 : s.Since s.vm 0 := (State.WarmedH.refl s).since 0
  have R0 : CHr Z own_EL s.vm h0 s.vm h0 := CHr.refl hCH
  have e0 : s₁.heap = h0 := by rw [← hh, Bd.state]; rfl
  have N0 := Fr.nil n0
  have K0 : Keep h0 h0 [a1] := Keep.refl _ _
  show Go p e below (KS s below Z own_EL (QsV0 Z a1 a2 h0 n0) ({ frames := 1, cells := 4, slots := 8, locals := 12 } : Room).cells ({ frames := 1, cells := 4, slots := 8, locals := 12 } : Room).slots) _
  refine Go.body (T := s₁) (σ := s₁) (g' := (mkF m 0 #[.val (.ref a1), .val (.ref a2), .val (.int (0 : Int32)), .val (.int (0 : Int32)), .val .null, .unset] [])) (ef_sV0 m a1 a2 (0 : Int32) (0 : Int32)) ?_
  have Sf_a1 : Safe Z own_EL s.vm h0 a1 := own_SafeNull hZ.alike E_a1 F_value_a1
  refine g_aloadN X0 hx (hb hby d2_0) 1 rfl (v := (.ref a1)) rfl rfl ?_
  obtain ⟨T1, X1, e1, st1⟩ := initO X0 hx hZ hown (hw _ (List.mem_of_getElem? (i := 11) rfl)) (hw _ (List.mem_of_getElem? (i := 12) rfl)) (hw _ (List.mem_of_getElem? (i := 13) rfl)) e0 (g := (mkF m 1 #[.val (.ref a1), .val (.ref a2), .val (.int (0 : Int32)), .val (.int (0 : Int32)), .val .null, .unset] [(.ref a1)])) rfl (by rw [hml]; rfl) rfl (hb hby d2_1) (by decide) (W := 0) (by show 2 * 0 + _ ≤ _; exact Nat.le_of_eq rfl) (by decide)
  refine Go.st st1 ?_
  show Go p e below _ (T1.setTop (mkF m 4 #[.val (.ref a1), .val (.ref a2), .val (.int (0 : Int32)), .val (.int (0 : Int32)), .val .null, .unset] []))
  refine g_iloadN X1 hx (hb hby d2_4) 5 rfl (v := (0 : Int32)) rfl ?_
  refine g_if_ne X1 hx (hb hby d2_5) 27 8 (by decide) (by decide) rfl (fun hc5 => False.elim (absurd rfl hc5)) (fun hc5 => ?_)
  refine g_aloadN X1 hx (hb hby d2_8) 9 rfl (v := (.ref a1)) rfl rfl ?_
  obtain ⟨oa2, T2, h2, k12, ob2, kb2, X2, e2, E2, hS2, hk2, hZ, hown, f2a, f2c, f2v, f2b, lt2a, lt2b, C2, -, hne2, st2⟩ := ldcCH X1 hx hZ hown (hw _ (List.mem_of_getElem? (i := 206) rfl)) (own_wS hw) e1 hS0 (Nat.zero_le _) (own_EW hw) (by decide) R0.1 (vs := []) (z := (0 : Int32)) (by decide) (by decide) rfl (g := (mkF m 9 #[.val (.ref a1), .val (.ref a2), .val (.int (0 : Int32)), .val (.int (0 : Int32)), .val .null, .unset] [(.ref a1)])) rfl (hb hby d2_9) (n := 0) (by decide) (by decide) (by decide) (by decide)
  refine Go.st st2 ?_
  have Sf_a1_2 : Safe Z own_EL T2.vm h2 a1 := CHr.safe C2 E_a1.lt Sf_a1
  have R2 : CHr Z own_EL s.vm h0 T2.vm h2 := CHr.trans R0 C2
  have E_a1_3 : Exa Z h2 a1 "java/lang/String" := Exa.ext E2 E_a1
  have F_value_a1_3 : Fld Z h2 a1 "java/lang/String" "value" "[B" .null := Fld.ext E2 F_value_a1
  have F_coder_a1_3 : Fld Z h2 a1 "java/lang/String" "coder" "B" (.int (0 : Int32)) := Fld.ext E2 F_coder_a1
  have ne_a1_oa2 : a1 ≠ oa2 := (hne2 _ Sf_a1_2).1
  have ne_a1_ob2 : a1 ≠ ob2 := (hne2 _ Sf_a1_2).2
  have K2 : Keep h0 h2 [a1] := Keep.ext K0 E2
  have Zs2 : n0 ≤ h2.size := Nat.le_trans Z0 E2.1
  show Go p e below _ (T2.setTop (mkF m 11 #[.val (.ref a1), .val (.ref a2), .val (.int (0 : Int32)), .val (.int (0 : Int32)), .val .null, .unset] [(.ref oa2), (.ref a1)]))
  obtain ⟨T4, X4, e4, st4⟩ := getF X2 hx hZ hown (host := "") (Or.inl (hw _ (List.mem_of_getElem? (i := 28) rfl))) Via.refl e2 f2v (g := (mkF m 11 #[.val (.ref a1), .val (.ref a2), .val (.int (0 : Int32)), .val (.int (0 : Int32)), .val .null, .unset] [(.ref oa2), (.ref a1)])) rfl rfl (hb hby d2_11)
  refine Go.st st4 ?_
  show Go p e below _ (T4.setTop (mkF m 14 #[.val (.ref a1), .val (.ref a2), .val (.int (0 : Int32)), .val (.int (0 : Int32)), .val .null, .unset] [(.ref ob2), (.ref a1)]))
  obtain ⟨T5, h5, X5, e5, W5, st5⟩ := putF X4 hx hZ hown (host := "") (Or.inl (hw _ (List.mem_of_getElem? (i := 28) rfl))) Via.refl e4 F_value_a1_3 E_a1_3 (Or.inr ⟨(hw _ (List.mem_of_getElem? (i := 29) rfl)), rfl, hnm⟩) (hw _ (List.mem_of_getElem? (i := 1) rfl)) (ty := (.array .byte)) (by decide) rfl rfl (g := (mkF m 14 #[.val (.ref a1), .val (.ref a2), .val (.int (0 : Int32)), .val (.int (0 : Int32)), .val .null, .unset] [(.ref ob2), (.ref a1)])) rfl rfl (hb hby d2_14)
  refine Go.st st5 ?_
  have Sf_a1_6 : Safe Z own_EL T2.vm h5 a1 := Safe.wr W5 Sf_a1_2 R2.1 Sf_a1_2
  have R6 : CHr Z own_EL s.vm h0 T2.vm h5 := CHr.trans R2 (CHr.wr W5 Sf_a1_2 R2.1)
  have hk6 : _ ≤ h5.size := Nat.le_trans hk2 (Nat.le_of_eq W5.size.symm)
  have E_a1_7 : Exa Z h5 a1 "java/lang/String" := Exa.wr W5 E_a1_3
  have F_coder_a1_7 : Fld Z h5 a1 "java/lang/String" "coder" "B" (.int (0 : Int32)) := Fld.other W5 F_coder_a1_3 (Or.inr (slot_ne (Or.inr (hw _ (List.mem_of_getElem? (i := 27) rfl))) (Or.inr (hw _ (List.mem_of_getElem? (i := 29) rfl))) (by decide) (t := .byte) (t' := (.array .byte)) (by decide) (by decide)))
  have E_oa2_7 : Exa Z h5 oa2 "java/lang/String" := Exa.wr W5 f2a
  have F_coder_oa2_7 : Fld Z h5 oa2 "java/lang/String" "coder" "B" (.int (0 : Int32)) := Fld.other W5 f2c (Or.inl (Ne.symm ne_a1_oa2))
  have F_value_oa2_7 : Fld Z h5 oa2 "java/lang/String" "value" "[B" (.ref ob2) := Fld.other W5 f2v (Or.inl (Ne.symm ne_a1_oa2))
  have A_ob2_7 : Arv Z h5 ob2 kb2 .byte (0 : Int32) [] (.int (0 : Int32)) := Arv.other f2b W5 (Ne.symm ne_a1_ob2)
  have F_value_a1_5w : Fld Z h5 a1 "java/lang/String" "value" "[B" (.ref ob2) := Fld.same W5 F_value_a1_3
  have K5 : Keep h0 h5 [a1] := Keep.wr K2 W5 (Or.inl (List.mem_of_getElem? (i := 0) rfl))
  have N5 := Fr.snoc X5 N0 g_a1
  have Zs5 : n0 ≤ h5.size := by rw [W5.size]; exact Zs2
  show Go p e below _ (T5.setTop (mkF m 17 #[.val (.ref a1), .val (.ref a2), .val (.int (0 : Int32)), .val (.int (0 : Int32)), .val .null, .unset] []))
  refine g_aloadN X5 hx (hb hby d2_17) 18 rfl (v := (.ref a1)) rfl rfl ?_
  obtain ⟨oa8, T8, h8, k18, ob8, kb8, X8, e8, E8, hS8, hk8, hZ, hown, f8a, f8c, f8v, f8b, lt8a, lt8b, C8, -, hne8, st8⟩ := ldcCH X5 hx hZ hown (hw _ (List.mem_of_getElem? (i := 206) rfl)) (own_wS hw) e5 hS2 hk6 (own_EW hw) (by decide) R6.1 (vs := []) (z := (0 : Int32)) (by decide) (by decide) rfl (g := (mkF m 18 #[.val (.ref a1), .val (.ref a2), .val (.int (0 : Int32)), .val (.int (0 : Int32)), .val .null, .unset] [(.ref a1)])) rfl (hb hby d2_18) (n := 0) (by decide) (by decide) (by decide) (by decide)
  refine Go.st st8 ?_
  have Sf_a1_8 : Safe Z own_EL T8.vm h8 a1 := CHr.safe C8 E_a1_7.lt Sf_a1_6
  have R8 : CHr Z own_EL s.vm h0 T8.vm h8 := CHr.trans R6 C8
  have E_a1_9 : Exa Z h8 a1 "java/lang/String" := Exa.ext E8 E_a1_7
  have F_coder_a1_9 : Fld Z h8 a1 "java/lang/String" "coder" "B" (.int (0 : Int32)) := Fld.ext E8 F_coder_a1_7
  have E_oa2_9 : Exa Z h8 oa2 "java/lang/String" := Exa.ext E8 E_oa2_7
  have F_coder_oa2_9 : Fld Z h8 oa2 "java/lang/String" "coder" "B" (.int (0 : Int32)) := Fld.ext E8 F_coder_oa2_7
  have F_value_oa2_9 : Fld Z h8 oa2 "java/lang/String" "value" "[B" (.ref ob2) := Fld.ext E8 F_value_oa2_7
  have A_ob2_9 : Arv Z h8 ob2 kb2 .byte (0 : Int32) [] (.int (0 : Int32)) := Arv.ext A_ob2_7 E8
  have F_value_a1_9 : Fld Z h8 a1 "java/lang/String" "value" "[B" (.ref ob2) := Fld.ext E8 F_value_a1_5w
  have ne_a1_oa8 : a1 ≠ oa8 := (hne8 _ Sf_a1_8).1
  have ne_a1_ob8 : a1 ≠ ob8 := (hne8 _ Sf_a1_8).2
  have K8 : Keep h0 h8 [a1] := Keep.ext K5 E8
  have Zs8 : n0 ≤ h8.size := Nat.le_trans Zs5 E8.1
  show Go p e below _ (T8.setTop (mkF m 20 #[.val (.ref a1), .val (.ref a2), .val (.int (0 : Int32)), .val (.int (0 : Int32)), .val .null, .unset] [(.ref oa8), (.ref a1)]))
  obtain ⟨T10, X10, e10, st10⟩ := getF X8 hx hZ hown (host := "") (Or.inl (hw _ (List.mem_of_getElem? (i := 26) rfl))) Via.refl e8 f8c (g := (mkF m 20 #[.val (.ref a1), .val (.ref a2), .val (.int (0 : Int32)), .val (.int (0 : Int32)), .val .null, .unset] [(.ref oa8), (.ref a1)])) rfl rfl (hb hby d2_20)
  refine Go.st st10 ?_
  show Go p e below _ (T10.setTop (mkF m 23 #[.val (.ref a1), .val (.ref a2), .val (.int (0 : Int32)), .val (.int (0 : Int32)), .val .null, .unset] [(.int (0 : Int32)), (.ref a1)]))
  obtain ⟨T11, h11, X11, e11, W11, st11⟩ := putF X10 hx hZ hown (host := "") (Or.inl (hw _ (List.mem_of_getElem? (i := 26) rfl))) Via.refl e10 F_coder_a1_9 E_a1_9 (Or.inr ⟨(hw _ (List.mem_of_getElem? (i := 27) rfl)), rfl, hnm⟩) (hw _ (List.mem_of_getElem? (i := 1) rfl)) (ty := .byte) (by decide) rfl rfl (g := (mkF m 23 #[.val (.ref a1), .val (.ref a2), .val (.int (0 : Int32)), .val (.int (0 : Int32)), .val .null, .unset] [(.int (0 : Int32)), (.ref a1)])) rfl rfl (hb hby d2_23)
  refine Go.st st11 ?_
  have Sf_a1_12 : Safe Z own_EL T8.vm h11 a1 := Safe.wr W11 Sf_a1_8 R8.1 Sf_a1_8
  have R12 : CHr Z own_EL s.vm h0 T8.vm h11 := CHr.trans R8 (CHr.wr W11 Sf_a1_8 R8.1)
  have hk12 : _ ≤ h11.size := Nat.le_trans hk8 (Nat.le_of_eq W11.size.symm)
  have E_a1_13 : Exa Z h11 a1 "java/lang/String" := Exa.wr W11 E_a1_9
  have E_oa2_13 : Exa Z h11 oa2 "java/lang/String" := Exa.wr W11 E_oa2_9
  have F_coder_oa2_13 : Fld Z h11 oa2 "java/lang/String" "coder" "B" (.int (0 : Int32)) := Fld.other W11 F_coder_oa2_9 (Or.inl (Ne.symm ne_a1_oa2))
  have F_value_oa2_13 : Fld Z h11 oa2 "java/lang/String" "value" "[B" (.ref ob2) := Fld.other W11 F_value_oa2_9 (Or.inl (Ne.symm ne_a1_oa2))
  have A_ob2_13 : Arv Z h11 ob2 kb2 .byte (0 : Int32) [] (.int (0 : Int32)) := Arv.other A_ob2_9 W11 (Ne.symm ne_a1_ob2)
  have F_value_a1_13 : Fld Z h11 a1 "java/lang/String" "value" "[B" (.ref ob2) := Fld.other W11 F_value_a1_9 (Or.inr (slot_ne (Or.inr (hw _ (List.mem_of_getElem? (i := 29) rfl))) (Or.inr (hw _ (List.mem_of_getElem? (i := 27) rfl))) (by decide) (t := (.array .byte)) (t' := .byte) (by decide) (by decide)))
  have E_oa8_13 : Exa Z h11 oa8 "java/lang/String" := Exa.wr W11 f8a
  have F_coder_oa8_13 : Fld Z h11 oa8 "java/lang/String" "coder" "B" (.int (0 : Int32)) := Fld.other W11 f8c (Or.inl (Ne.symm ne_a1_oa8))
  have F_value_oa8_13 : Fld Z h11 oa8 "java/lang/String" "value" "[B" (.ref ob8) := Fld.other W11 f8v (Or.inl (Ne.symm ne_a1_oa8))
  have A_ob8_13 : Arv Z h11 ob8 kb8 .byte (0 : Int32) [] (.int (0 : Int32)) := Arv.other f8b W11 (Ne.symm ne_a1_ob8)
  have F_coder_a1_11w : Fld Z h11 a1 "java/lang/String" "coder" "B" (.int (0 : Int32)) := Fld.same W11 F_coder_a1_9
  have K11 : Keep h0 h11 [a1] := Keep.wr K8 W11 (Or.inl (List.mem_of_getElem? (i := 0) rfl))
  have N11 := Fr.snoc X11 N5 g_a1
  have Zs11 : n0 ≤ h11.size := by rw [W11.size]; exact Zs8
  show Go p e below _ (T11.setTop (mkF m 26 #[.val (.ref a1), .val (.ref a2), .val (.int (0 : Int32)), .val (.int (0 : Int32)), .val .null, .unset] []))
  refine Go.retVS X11 hx hlk Bd.returns (hb hby d2_26) (by decide) (by decide) hS8 (by rw [e11]; exact hk12) (own_EW hw) hZ (by rw [hh, e11]; exact R12) ?_
  show QsV0 Z a1 a2 h0 n0 _ T11.heap _
  rw [e11]
  exact ⟨ob2, kb2, rfl, N11, K11, E_a1_13, F_value_a1_13, F_coder_a1_11w, A_ob2_13, ne_a1_ob2⟩
theorem ef_sC0 (m : MethodId) (x0 : Addr) (x1 : Addr) : entryFrame m #[(.ref x0), (.ref x1)] 2 = mkF m 0 #[.val (.ref x0), .val (.ref x1)] [] := by first | (simp [entryFrame, mkF, argsToLocals, Value.category]; done) | rfl
theorem d1_0 : decode jdk_42_method_3_code 0 = .ok (.aload_n 0, 1) := by decide +kernel
theorem d1_1 : decode jdk_42_method_3_code 1 = .ok (.aload_n 1, 1) := by decide +kernel
theorem d1_2 : decode jdk_42_method_3_code 2 = .ok (.iconst 0, 1) := by decide +kernel
theorem d1_3 : decode jdk_42_method_3_code 3 = .ok (.aload_n 1, 1) := by decide +kernel
theorem d1_4 : decode jdk_42_method_3_code 4 = .ok (.arraylength, 1) := by decide +kernel
theorem d1_5 : decode jdk_42_method_3_code 5 = .ok (.aconst_null, 1) := by decide +kernel
theorem own_pd0 : parseMethodDescriptor "([CIILjava/lang/Void;)V" = some ⟨[(.array .char), .int, .int, (.object "java/lang/Void")], none⟩ := by decide +kernel
theorem d1_6 : decode jdk_42_method_3_code 6 = .ok (.invokespecial 27, 3) := by decide +kernel
theorem d1_9 : decode jdk_42_method_3_code 9 = .ok (.return_, 1) := by decide +kernel
def QsC0 (Z : State) (a1 : Addr) (a2 : Addr) (kc : ClassId) (h0 : Heap) (n0 : Nat) (v : Option Value) (h : Heap) (L : List Loc) : Prop := ∃ vb : Addr, ∃ kb : ClassId, v = none ∧ Fr n0 L ∧ Keep h0 h [a1] ∧ (Exa Z h a1 "java/lang/String") ∧ (Fld Z h a1 "java/lang/String" "value" "[B" (.ref vb)) ∧ (Fld Z h a1 "java/lang/String" "coder" "B" (.int (0 : Int32))) ∧ (Arv Z h vb kb .byte (0 : Int32) [] (.int (0 : Int32))) ∧ (a1 ≠ vb)
set_option maxRecDepth 65536 in
set_option maxHeartbeats 40000000 in
theorem rmsC0 (l : Launch) (Z : State) (a0 : Array Value) (hw : ∀ d ∈ tables_1, d.before a0 Z = true) (ws : List Jvm.Cond) (a1 : Addr) (a2 : Addr) (kc : ClassId) (h0 : Heap) (n0 : Nat) (Z0 : n0 ≤ h0.size) (E_a1 : Exa Z h0 a1 "java/lang/String") (g_a1 : n0 ≤ a1) (F_value_a1 : Fld Z h0 a1 "java/lang/String" "value" "[B" .null) (F_coder_a1 : Fld Z h0 a1 "java/lang/String" "coder" "B" (.int (0 : Int32))) (A_a2 : Arv Z h0 a2 kc .char (0 : Int32) [] (.int (0 : Int32))) (ne_a1_a2 : a1 ≠ a2) :
    MetFree l (⟨"java/lang/String", "<init>", "([C)V"⟩ : MethodName) (head1 (Jvm.Cond.code (⟨"java/lang/String", "<init>", "([C)V"⟩ : MethodName) jdk_42_method_3_code 2 none :: ws) ({ frames := 2, cells := 4, slots := 8, locals := 29 } : Room)) (fun a U => a = #[(.ref a1), (.ref a2)] ∧ Z.Warmed39 U.vm ∧ U.heap = h0 ∧ CHv Z own_EL U.vm h0) (fun _ _ _ _ _ => True) (fun _ U o U' => ∃ v L, o = .returned v ∧ QsC0 Z a1 a2 kc h0 n0 v U'.heap L ∧ CHr Z own_EL U.vm U.heap U'.vm U'.heap ∧ ReturnedEndW U o U' L ({ frames := 2, cells := 4, slots := 8, locals := 29 } : Room).cells ({ frames := 2, cells := 4, slots := 8, locals := 29 } : Room).slots) := by
  refine MetFree.of_bodySF (plainFor_of_name own_pn_java_lang_String) hisR ?_
  intro p e s m args below meth c s₁ Bd hml0 hP hK
  obtain ⟨rfl, hZ, hh, hCH⟩ := hP
  have hx := Bd.exec
  have hby := Bd.bytes
  have hlk := Bd.notSynchronized
  have hml : c.maxLocals = 2 := hml0
  have hown : s.vm.findClass "java/lang/String" = some m.cls := findClass_of_methodNamed Bd.named
  have hnm := (name_of_methodNamed Bd.named Bd.method).1
  have X0 : Stand p l e ({ frames := 2, cells := 4, slots := 8, locals := 29 } : Room) (s.setVm s.vm) m #[(.ref a1), (.ref a2)] below meth c s₁ [] 0 0 := Stand.of_body Bd
  have hZ : Z.Warmed39 (s.setVm s.vm).vm := hZ
  have hown : (s.setVm s.vm).vm.findClass "java/lang/String" = some m.cls := hown
  have hS0 : s.Since s.vm 0 := (State.WarmedH.refl s).since 0
  have R0 : CHr Z own_EL s.vm h0 s.vm h0 := CHr.refl hCH
  have e0 : s₁.heap = h0 := by rw [← hh, Bd.state]; rfl
  have N0 := Fr.nil n0
  have K0 : Keep h0 h0 [a1] := Keep.refl _ _
  show Go p e below (KS s below Z own_EL (QsC0 Z a1 a2 kc h0 n0) ({ frames := 2, cells := 4, slots := 8, locals := 29 } : Room).cells ({ frames := 2, cells := 4, slots := 8, locals := 29 } : Room).slots) _
  refine Go.body (T := s₁) (σ := s₁) (g' := (mkF m 0 #[.val (.ref a1), .val (.ref a2)] [])) (ef_sC0 m a1 a2) ?_
  refine g_aloadN X0 hx (hb hby d1_0) 1 rfl (v := (.ref a1)) rfl rfl ?_
  refine g_aloadN X0 hx (hb hby d1_1) 2 rfl (v := (.ref a2)) rfl rfl ?_
  refine g_iconst X0 hx (hb hby d1_2) 3 rfl (0 : Int32) rfl ?_
  refine g_aloadN X0 hx (hb hby d1_3) 4 rfl (v := (.ref a2)) rfl rfl ?_
  refine g_alen X0 hx (hb hby d1_4) 5 rfl hZ e0 A_a2 ?_
  refine g_null X0 hx (hb hby d1_5) 6 rfl ?_
  obtain ⟨_, _, ⟨T15, L15, k15, n15⟩, -, X15, hS15, gr15, ⟨Lc15, hQ15, l15, y15, z15, C15⟩, st15⟩ := X0.specialBackS hx (y := (⟨"java/lang/String", "<init>", "([CIILjava/lang/Void;)V"⟩ : MethodName)) rfl hown (mvT hZ (hw _ (List.mem_of_getElem? (i := 7) rfl))) (mvT hZ (hw _ (List.mem_of_getElem? (i := 8) rfl))) (mvT hZ (hw _ (List.mem_of_getElem? (i := 10) rfl))) (by decide) (backOfSH (W := 0) (rmsV0 l Z a0 hw [] a1 a2 h0 n0 Z0 E_a1 g_a1 F_value_a1 F_coder_a1) hZ (hw _ (List.mem_of_getElem? (i := 10) rfl)) (hw _ (List.mem_of_getElem? (i := 2) rfl)) (by decide) (by decide) (own_EW hw) R0.1) (g := (mkF m 6 #[.val (.ref a1), .val (.ref a2)] [.null, (.int (0 : Int32)), (.int (0 : Int32)), (.ref a2), (.ref a1)])) rfl (by rw [hml]; rfl) (Steps.refl _) (a := a1) (argsL := [(.ref a2), (.int (0 : Int32)), (.int (0 : Int32)), .null]) (rest := []) (lenOf own_pd0 rfl) rfl (by show 2 * 0 + _ ≤ _; exact Nat.le_of_eq rfl) (hb hby d1_6) (fun _ _ => ⟨rfl, e0, (by decide : 0 + 4 ≤ _), (by decide : 0 + 8 ≤ _)⟩)
  dsimp only [Pt.U, Pt.locs, Pt.cells, Pt.slots] at X15 l15 y15 z15 st15 hQ15 hS15 gr15 C15
  subst l15 y15 z15
  obtain ⟨ovb, okb, rfl, Nq15, Kq15, f15_0, f15_1, f15_2, f15_3, f15_4⟩ := hQ15
  refine Go.tr st15 ?_
  obtain ⟨X15, hS15, hZ, hown⟩ := rebS hS0 (by rw [e0]; exact (Nat.zero_le _)) X15 hS15 gr15 hZ hown
  have R15 : CHr Z own_EL s.vm h0 T15.vm T15.heap := CHr.trans R0 C15
  have N15 := Fr.app N0 Nq15
  have E_a1_16 : Exa Z T15.heap a1 "java/lang/String" := Exa.keep E_a1 Kq15
  have K15 : Keep h0 T15.heap [a1] := Keep.trans K0 Kq15 (allS (Or.inl (List.mem_of_getElem? (i := 0) rfl)) all0)
  have Zs15 : n0 ≤ T15.heap.size := Nat.le_trans Z0 Kq15.1
  show Go p e below _ (T15.setTop (mkF m 9 #[.val (.ref a1), .val (.ref a2)] []))
  refine Go.retVS X15 hx hlk Bd.returns (hb hby d1_9) (by decide) (by decide) hS15 (Nat.le_refl _) (own_EW hw) hZ (by rw [hh]; exact R15) ?_
  show QsC0 Z a1 a2 kc h0 n0 _ T15.heap _
  exact ⟨ovb, okb, rfl, N15, K15, f15_0, f15_1, f15_2, f15_3, f15_4⟩
theorem own_pn_java_lang_StringLatin1 : plainName "java/lang/StringLatin1" = true := by first | (simp [plainName, overriddenIn]; done) | decide +kernel
theorem ef_8 (m : MethodId) (x0 : Int32) : entryFrame m #[(.int x0)] 1 = mkF m 0 #[.val (.int x0)] [] := by first | (simp [entryFrame, mkF, argsToLocals, Value.category]; done) | rfl
theorem d8_0 : decode jdk_43_method_3_code 0 = .ok (.iload_n 0, 1) := by decide +kernel
theorem d8_1 : decode jdk_43_method_3_code 1 = .ok (.sipush 255, 3) := by decide +kernel
theorem d8_4 : decode jdk_43_method_3_code 4 = .ok (.if_icmp .gt 7, 3) := by decide +kernel
theorem d8_7 : decode jdk_43_method_3_code 7 = .ok (.iconst 1, 1) := by decide +kernel
theorem d8_8 : decode jdk_43_method_3_code 8 = .ok (.goto 4, 3) := by decide +kernel
theorem d8_12 : decode jdk_43_method_3_code 12 = .ok (.ireturn, 1) := by decide +kernel
def Q8 (Z : State) (p1 : Int32) (h0 : Heap) (n0 : Nat) (v : Option Value) (h : Heap) (L : List Loc) : Prop := v = some (.int (1 : Int32)) ∧ Fr n0 L ∧ h = h0
set_option maxRecDepth 65536 in
set_option maxHeartbeats 40000000 in
theorem rm8 (l : Launch) (Z : State) (a0 : Array Value) (hw : ∀ d ∈ tables_1, d.before a0 Z = true) (ws : List Jvm.Cond) (p1 : Int32) (h0 : Heap) (n0 : Nat) (Z0 : n0 ≤ h0.size) (hp : ¬ (255 : Int32) < p1) :
    MetFree l (⟨"java/lang/StringLatin1", "canEncode", "(C)Z"⟩ : MethodName) (head1 (Jvm.Cond.code (⟨"java/lang/StringLatin1", "canEncode", "(C)Z"⟩ : MethodName) jdk_43_method_3_code 1 (some .boolean) :: ws) ({ frames := 0, cells := 0, slots := 0, locals := 0 } : Room)) (fun a U => a = #[(.int p1)] ∧ Z.Warmed39 U.vm ∧ U.heap = h0) (fun _ _ _ _ _ => True) (fun _ U o U' => ∃ v L, o = .returned v ∧ Q8 Z p1 h0 n0 v U'.heap L ∧ FrameEnd U o U' L ({ frames := 0, cells := 0, slots := 0, locals := 0 } : Room).cells ({ frames := 0, cells := 0, slots := 0, locals := 0 } : Room).slots) := by
  refine MetFree.of_bodySF (plainFor_of_name own_pn_java_lang_StringLatin1) hisR ?_
  intro p e s m args below meth c s₁ Bd hml0 hP hK
  obtain ⟨rfl, hZ, hh⟩ := hP
  have hx := Bd.exec
  have hby := Bd.bytes
  have hlk := Bd.notSynchronized
  have hml : c.maxLocals = 1 := hml0
  have hown : s.vm.findClass "java/lang/StringLatin1" = some m.cls := findClass_of_methodNamed Bd.named
  have hnm := (name_of_methodNamed Bd.named Bd.method).1
  have X0 : Stand p l e ({ frames := 0, cells := 0, slots := 0, locals := 0 } : Room) s m #[(.int p1)] below meth c s₁ [] 0 0 := Stand.of_body Bd
  have e0 : s₁.heap = h0 := by rw [← hh, Bd.state]; rfl
  have N0 := Fr.nil n0
  show Go p e below (KQ s below (Q8 Z p1 h0 n0) ({ frames := 0, cells := 0, slots := 0, locals := 0 } : Room).cells ({ frames := 0, cells := 0, slots := 0, locals := 0 } : Room).slots) _
  refine Go.body (T := s₁) (σ := s₁) (g' := (mkF m 0 #[.val (.int p1)] [])) (ef_8 m p1) ?_
  refine g_iloadN X0 hx (hb hby d8_0) 1 rfl (v := p1) rfl ?_
  refine g_sipush X0 hx (hb hby d8_1) 4 rfl (255 : Int32) rfl ?_
  refine g_icmp_gt X0 hx (hb hby d8_4) 11 7 (by decide) (by decide) rfl (fun hc4 => False.elim (hp hc4)) (fun hc4 => ?_)
  refine g_iconst X0 hx (hb hby d8_7) 8 rfl (1 : Int32) rfl ?_
  refine g_goto X0 hx (hb hby d8_8) 12 (by decide) (by decide) ?_
  refine Go.retN X0 hx hlk (t := .boolean) Bd.returns (by simp) (hb hby d8_12) (by decide) (by decide) ?_
  show Q8 Z p1 h0 n0 _ s₁.heap _
  rw [e0]
  exact ⟨rfl, N0, rfl⟩
theorem ef_9 (m : MethodId) (x0 : Int32) : entryFrame m #[(.int x0)] 1 = mkF m 0 #[.val (.int x0)] [] := by first | (simp [entryFrame, mkF, argsToLocals, Value.category]; done) | rfl
theorem d9_0 : decode jdk_43_method_46_code 0 = .ok (.iconst 1, 1) := by decide +kernel
theorem d9_1 : decode jdk_43_method_46_code 1 = .ok (.newarray .byte, 2) := by decide +kernel
theorem d9_3 : decode jdk_43_method_46_code 3 = .ok (.dup, 1) := by decide +kernel
theorem d9_4 : decode jdk_43_method_46_code 4 = .ok (.iconst 0, 1) := by decide +kernel
theorem d9_5 : decode jdk_43_method_46_code 5 = .ok (.iload_n 0, 1) := by decide +kernel
theorem d9_6 : decode jdk_43_method_46_code 6 = .ok (.i2b, 1) := by decide +kernel
theorem d9_7 : decode jdk_43_method_46_code 7 = .ok (.bastore, 1) := by decide +kernel
theorem d9_8 : decode jdk_43_method_46_code 8 = .ok (.areturn, 1) := by decide +kernel
def Q9 (Z : State) (p1 : Int32) (h0 : Heap) (n0 : Nat) (v : Option Value) (h : Heap) (L : List Loc) : Prop := ∃ b : Addr, ∃ kb : ClassId, v = some (.ref b) ∧ Fr n0 L ∧ Keep h0 h [] ∧ h0.size ≤ b ∧ (Arv Z h b kb .byte (1 : Int32) ([(.int p1.toInt8.toInt32)]) (.int (0 : Int32)))
set_option maxRecDepth 65536 in
set_option maxHeartbeats 40000000 in
theorem rm9 (l : Launch) (Z : State) (a0 : Array Value) (hw : ∀ d ∈ tables_1, d.before a0 Z = true) (ws : List Jvm.Cond) (p1 : Int32) (h0 : Heap) (n0 : Nat) (Z0 : n0 ≤ h0.size)  :
    MetFree l (⟨"java/lang/StringLatin1", "toBytes", "(C)[B"⟩ : MethodName) (head1 (Jvm.Cond.code (⟨"java/lang/StringLatin1", "toBytes", "(C)[B"⟩ : MethodName) jdk_43_method_46_code 1 (some (.array .byte)) :: ws) ({ frames := 0, cells := 1, slots := 1, locals := 0 } : Room)) (fun a U => a = #[(.int p1)] ∧ Z.Warmed39 U.vm ∧ U.heap = h0) (fun _ _ _ _ _ => True) (fun _ U o U' => ∃ v L, o = .returned v ∧ Q9 Z p1 h0 n0 v U'.heap L ∧ FrameEnd U o U' L ({ frames := 0, cells := 1, slots := 1, locals := 0 } : Room).cells ({ frames := 0, cells := 1, slots := 1, locals := 0 } : Room).slots) := by
  refine MetFree.of_bodySF (plainFor_of_name own_pn_java_lang_StringLatin1) hisR ?_
  intro p e s m args below meth c s₁ Bd hml0 hP hK
  obtain ⟨rfl, hZ, hh⟩ := hP
  have hx := Bd.exec
  have hby := Bd.bytes
  have hlk := Bd.notSynchronized
  have hml : c.maxLocals = 1 := hml0
  have hown : s.vm.findClass "java/lang/StringLatin1" = some m.cls := findClass_of_methodNamed Bd.named
  have hnm := (name_of_methodNamed Bd.named Bd.method).1
  have X0 : Stand p l e ({ frames := 0, cells := 1, slots := 1, locals := 0 } : Room) s m #[(.int p1)] below meth c s₁ [] 0 0 := Stand.of_body Bd
  have e0 : s₁.heap = h0 := by rw [← hh, Bd.state]; rfl
  have N0 := Fr.nil n0
  have K0 : Keep h0 h0 [] := Keep.refl _ _
  show Go p e below (KQ s below (Q9 Z p1 h0 n0) ({ frames := 0, cells := 1, slots := 1, locals := 0 } : Room).cells ({ frames := 0, cells := 1, slots := 1, locals := 0 } : Room).slots) _
  refine Go.body (T := s₁) (σ := s₁) (g' := (mkF m 0 #[.val (.int p1)] [])) (ef_9 m p1) ?_
  refine g_iconst X0 hx (hb hby d9_0) 1 rfl (1 : Int32) rfl ?_
  obtain ⟨T17, h17, cA17, X17, e17, E17, A17, st17⟩ := newP X0 hx hZ (aty := .byte) (hw _ (List.mem_of_getElem? (i := 19) rfl)) e0 (g := (mkF m 1 #[.val (.int p1)] [(.int (1 : Int32))])) rfl (hb hby d9_1) rfl (by decide) (cap := 1) (by decide) (by decide) (by decide) (by decide)
  refine Go.st st17 ?_
  obtain ⟨ob, q17⟩ : ∃ z, z = h0.size := ⟨_, rfl⟩
  rw [← q17] at A17 ⊢
  have g_ob : n0 ≤ ob := Nat.le_trans Z0 (Nat.le_of_eq q17.symm)
  have mh_ob : h0.size ≤ ob := Nat.le_trans K0.1 (Nat.le_of_eq q17.symm)
  have K17 : Keep h0 h17 [] := Keep.ext K0 E17
  have Zs17 : n0 ≤ h17.size := Nat.le_trans Z0 E17.1
  have Av_ob : Arv Z h17 ob cA17 .byte (1 : Int32) ([(.int (0 : Int32))]) (.int (0 : Int32)) := Arv.pad (Arv.new A17 (by decide)) (pad_rep [] (.int (0 : Int32)) 1)
  show Go p e below _ (T17.setTop (mkF m 3 #[.val (.int p1)] [(.ref ob)]))
  refine g_dup X17 hx (hb hby d9_3) 4 rfl rfl ?_
  refine g_iconst X17 hx (hb hby d9_4) 5 rfl (0 : Int32) rfl ?_
  refine g_iloadN X17 hx (hb hby d9_5) 6 rfl (v := p1) rfl ?_
  refine g_i2b X17 hx (hb hby d9_6) 7 rfl p1.toInt8.toInt32 rfl ?_
  obtain ⟨T19, h19, X19, e19, W19, B19, st19⟩ := g_bastore X17 hx (hb hby d9_7) hZ e17 Av_ob (show ¬ (0 : Int32) < 0 ∧ (0 : Int32) < (1 : Int32) from by decide) (i := 0) rfl (by simp)  (L := #[.val (.int p1)]) (S := [(.ref ob)])
  refine Go.st st19 ?_
  have Av_ob_19 : Arv Z h19 ob cA17 .byte (1 : Int32) ([(.int p1.toInt8.toInt32)]) (.int (0 : Int32)) := (own_i2b p1 ▸ B19)
  have K19 : Keep h0 h19 [] := Keep.wr K17 W19 (Or.inr mh_ob)
  have N19 := Fr.snoc X19 N0 g_ob
  have Zs19 : n0 ≤ h19.size := by rw [W19.size]; exact Zs17
  show Go p e below _ (T19.setTop (mkF m 8 #[.val (.int p1)] [(.ref ob)]))
  refine Go.retA X19 hx hlk Bd.returns rfl rfl (hb hby d9_8) (by decide) (by decide) ?_
  show Q9 Z p1 h0 n0 _ T19.heap _
  rw [e19]
  exact ⟨ob, cA17, rfl, N19, K19, mh_ob, Av_ob_19⟩
theorem ef_10 (m : MethodId) (x0 : Addr) (x1 : Addr) (x2 : Int32) : entryFrame m #[(.ref x0), (.ref x1), (.int x2)] 3 = mkF m 0 #[.val (.ref x0), .val (.ref x1), .val (.int x2)] [] := by first | (simp [entryFrame, mkF, argsToLocals, Value.category]; done) | rfl
theorem d10_0 : decode jdk_42_method_151_code 0 = .ok (.aload_n 0, 1) := by decide +kernel
theorem d10_1 : decode jdk_42_method_151_code 1 = .ok (.invokespecial 1, 3) := by decide +kernel
theorem d10_4 : decode jdk_42_method_151_code 4 = .ok (.aload_n 0, 1) := by decide +kernel
theorem d10_5 : decode jdk_42_method_151_code 5 = .ok (.aload_n 1, 1) := by decide +kernel
theorem d10_6 : decode jdk_42_method_151_code 6 = .ok (.putfield 9, 3) := by decide +kernel
theorem d10_9 : decode jdk_42_method_151_code 9 = .ok (.aload_n 0, 1) := by decide +kernel
theorem d10_10 : decode jdk_42_method_151_code 10 = .ok (.iload_n 2, 1) := by decide +kernel
theorem d10_11 : decode jdk_42_method_151_code 11 = .ok (.putfield 15, 3) := by decide +kernel
theorem d10_14 : decode jdk_42_method_151_code 14 = .ok (.return_, 1) := by decide +kernel
def Q10 (Z : State) (a1 : Addr) (a2 : Addr) (u1 : Value) (u2 : Value) (h0 : Heap) (n0 : Nat) (v : Option Value) (h : Heap) (L : List Loc) : Prop := v = none ∧ Fr n0 L ∧ Keep h0 h [a1] ∧ (Exa Z h a1 "java/lang/String") ∧ (Fld Z h a1 "java/lang/String" "value" "[B" (.ref a2)) ∧ (Fld Z h a1 "java/lang/String" "coder" "B" (.int (0 : Int32)))
set_option maxRecDepth 65536 in
set_option maxHeartbeats 40000000 in
theorem rm10 (l : Launch) (Z : State) (a0 : Array Value) (hw : ∀ d ∈ tables_1, d.before a0 Z = true) (ws : List Jvm.Cond) (a1 : Addr) (a2 : Addr) (u1 : Value) (u2 : Value) (h0 : Heap) (n0 : Nat) (Z0 : n0 ≤ h0.size) (E_a1 : Exa Z h0 a1 "java/lang/String") (g_a1 : n0 ≤ a1) (F_value_a1 : Fld Z h0 a1 "java/lang/String" "value" "[B" u1) (F_coder_a1 : Fld Z h0 a1 "java/lang/String" "coder" "B" u2) :
    MetFree l (⟨"java/lang/String", "<init>", "([BB)V"⟩ : MethodName) (head1 (Jvm.Cond.code (⟨"java/lang/String", "<init>", "([BB)V"⟩ : MethodName) jdk_42_method_151_code 3 none :: ws) ({ frames := 1, cells := 0, slots := 0, locals := 12 } : Room)) (fun a U => a = #[(.ref a1), (.ref a2), (.int (0 : Int32))] ∧ Z.Warmed39 U.vm ∧ U.heap = h0) (fun _ _ _ _ _ => True) (fun _ U o U' => ∃ v L, o = .returned v ∧ Q10 Z a1 a2 u1 u2 h0 n0 v U'.heap L ∧ FrameEnd U o U' L ({ frames := 1, cells := 0, slots := 0, locals := 12 } : Room).cells ({ frames := 1, cells := 0, slots := 0, locals := 12 } : Room).slots) := by
  refine MetFree.of_bodySF (plainFor_of_name own_pn_java_lang_String) hisR ?_
  intro p e s m args below meth c s₁ Bd hml0 hP hK
  obtain ⟨rfl, hZ, hh⟩ := hP
  have hx := Bd.exec
  have hby := Bd.bytes
  have hlk := Bd.notSynchronized
  have hml : c.maxLocals = 3 := hml0
  have hown : s.vm.findClass "java/lang/String" = some m.cls := findClass_of_methodNamed Bd.named
  have hnm := (name_of_methodNamed Bd.named Bd.method).1
  have X0 : Stand p l e ({ frames := 1, cells := 0, slots := 0, locals := 12 } : Room) s m #[(.ref a1), (.ref a2), (.int (0 : Int32))] below meth c s₁ [] 0 0 := Stand.of_body Bd
  have e0 : s₁.heap = h0 := by rw [← hh, Bd.state]; rfl
  have N0 := Fr.nil n0
  have K0 : Keep h0 h0 [a1] := Keep.refl _ _
  show Go p e below (KQ s below (Q10 Z a1 a2 u1 u2 h0 n0) ({ frames := 1, cells := 0, slots := 0, locals := 12 } : Room).cells ({ frames := 1, cells := 0, slots := 0, locals := 12 } : Room).slots) _
  refine Go.body (T := s₁) (σ := s₁) (g' := (mkF m 0 #[.val (.ref a1), .val (.ref a2), .val (.int (0 : Int32))] [])) (ef_10 m a1 a2 (0 : Int32)) ?_
  refine g_aloadN X0 hx (hb hby d10_0) 1 rfl (v := (.ref a1)) rfl rfl ?_
  obtain ⟨T21, X21, e21, st21⟩ := initO X0 hx hZ hown (hw _ (List.mem_of_getElem? (i := 11) rfl)) (hw _ (List.mem_of_getElem? (i := 12) rfl)) (hw _ (List.mem_of_getElem? (i := 13) rfl)) e0 (g := (mkF m 1 #[.val (.ref a1), .val (.ref a2), .val (.int (0 : Int32))] [(.ref a1)])) rfl (by rw [hml]; rfl) rfl (hb hby d10_1) (by decide) (W := 0) (by show 2 * 0 + _ ≤ _; exact Nat.le_of_eq rfl) (by decide)
  refine Go.st st21 ?_
  show Go p e below _ (T21.setTop (mkF m 4 #[.val (.ref a1), .val (.ref a2), .val (.int (0 : Int32))] []))
  refine g_aloadN X21 hx (hb hby d10_4) 5 rfl (v := (.ref a1)) rfl rfl ?_
  refine g_aloadN X21 hx (hb hby d10_5) 6 rfl (v := (.ref a2)) rfl rfl ?_
  obtain ⟨T22, h22, X22, e22, W22, st22⟩ := putF X21 hx hZ hown (host := "") (Or.inl (hw _ (List.mem_of_getElem? (i := 28) rfl))) Via.refl e21 F_value_a1 E_a1 (Or.inr ⟨(hw _ (List.mem_of_getElem? (i := 29) rfl)), rfl, hnm⟩) (hw _ (List.mem_of_getElem? (i := 1) rfl)) (ty := (.array .byte)) (by decide) rfl rfl (g := (mkF m 6 #[.val (.ref a1), .val (.ref a2), .val (.int (0 : Int32))] [(.ref a2), (.ref a1)])) rfl rfl (hb hby d10_6)
  refine Go.st st22 ?_
  have E_a1_23 : Exa Z h22 a1 "java/lang/String" := Exa.wr W22 E_a1
  have F_coder_a1_23 : Fld Z h22 a1 "java/lang/String" "coder" "B" u2 := Fld.other W22 F_coder_a1 (Or.inr (slot_ne (Or.inr (hw _ (List.mem_of_getElem? (i := 27) rfl))) (Or.inr (hw _ (List.mem_of_getElem? (i := 29) rfl))) (by decide) (t := .byte) (t' := (.array .byte)) (by decide) (by decide)))
  have F_value_a1_22w : Fld Z h22 a1 "java/lang/String" "value" "[B" (.ref a2) := Fld.same W22 F_value_a1
  have K22 : Keep h0 h22 [a1] := Keep.wr K0 W22 (Or.inl (List.mem_of_getElem? (i := 0) rfl))
  have N22 := Fr.snoc X22 N0 g_a1
  have Zs22 : n0 ≤ h22.size := by rw [W22.size]; exact Z0
  show Go p e below _ (T22.setTop (mkF m 9 #[.val (.ref a1), .val (.ref a2), .val (.int (0 : Int32))] []))
  refine g_aloadN X22 hx (hb hby d10_9) 10 rfl (v := (.ref a1)) rfl rfl ?_
  refine g_iloadN X22 hx (hb hby d10_10) 11 rfl (v := (0 : Int32)) rfl ?_
  obtain ⟨T24, h24, X24, e24, W24, st24⟩ := putF X22 hx hZ hown (host := "") (Or.inl (hw _ (List.mem_of_getElem? (i := 26) rfl))) Via.refl e22 F_coder_a1_23 E_a1_23 (Or.inr ⟨(hw _ (List.mem_of_getElem? (i := 27) rfl)), rfl, hnm⟩) (hw _ (List.mem_of_getElem? (i := 1) rfl)) (ty := .byte) (by decide) rfl rfl (g := (mkF m 11 #[.val (.ref a1), .val (.ref a2), .val (.int (0 : Int32))] [(.int (0 : Int32)), (.ref a1)])) rfl rfl (hb hby d10_11)
  refine Go.st st24 ?_
  have E_a1_25 : Exa Z h24 a1 "java/lang/String" := Exa.wr W24 E_a1_23
  have F_value_a1_25 : Fld Z h24 a1 "java/lang/String" "value" "[B" (.ref a2) := Fld.other W24 F_value_a1_22w (Or.inr (slot_ne (Or.inr (hw _ (List.mem_of_getElem? (i := 29) rfl))) (Or.inr (hw _ (List.mem_of_getElem? (i := 27) rfl))) (by decide) (t := (.array .byte)) (t' := .byte) (by decide) (by decide)))
  have F_coder_a1_24w : Fld Z h24 a1 "java/lang/String" "coder" "B" (.int (0 : Int32)) := Fld.same W24 F_coder_a1_23
  have K24 : Keep h0 h24 [a1] := Keep.wr K22 W24 (Or.inl (List.mem_of_getElem? (i := 0) rfl))
  have N24 := Fr.snoc X24 N22 g_a1
  have Zs24 : n0 ≤ h24.size := by rw [W24.size]; exact Zs22
  show Go p e below _ (T24.setTop (mkF m 14 #[.val (.ref a1), .val (.ref a2), .val (.int (0 : Int32))] []))
  refine Go.retV X24 hx hlk Bd.returns (hb hby d10_14) (by decide) (by decide) ?_
  show Q10 Z a1 a2 u1 u2 h0 n0 _ T24.heap _
  rw [e24]
  exact ⟨rfl, N24, K24, E_a1_25, F_value_a1_25, F_coder_a1_24w⟩
theorem ef_7 (m : MethodId) (x0 : Int32) : entryFrame m #[(.int x0)] 1 = mkF m 0 #[.val (.int x0)] [] := by first | (simp [entryFrame, mkF, argsToLocals, Value.category]; done) | rfl
theorem d7_0 : decode jdk_42_method_139_code 0 = .ok (.getstatic 38, 3) := by decide +kernel
theorem d7_3 : decode jdk_42_method_139_code 3 = .ok (.ifCond .eq 23, 3) := by decide +kernel
theorem d7_6 : decode jdk_42_method_139_code 6 = .ok (.iload_n 0, 1) := by decide +kernel
theorem own_pd1 : parseMethodDescriptor "(C)Z" = some ⟨[.char], some .boolean⟩ := by decide +kernel
theorem d7_7 : decode jdk_42_method_139_code 7 = .ok (.invokestatic 1015, 3) := by decide +kernel
theorem d7_10 : decode jdk_42_method_139_code 10 = .ok (.ifCond .eq 16, 3) := by decide +kernel
theorem d7_13 : decode jdk_42_method_139_code 13 = .ok (.new 10, 3) := by decide +kernel
theorem d7_16 : decode jdk_42_method_139_code 16 = .ok (.dup, 1) := by decide +kernel
theorem d7_17 : decode jdk_42_method_139_code 17 = .ok (.iload_n 0, 1) := by decide +kernel
theorem own_pd2 : parseMethodDescriptor "(C)[B" = some ⟨[.char], some (.array .byte)⟩ := by decide +kernel
theorem d7_18 : decode jdk_42_method_139_code 18 = .ok (.invokestatic 1018, 3) := by decide +kernel
theorem d7_21 : decode jdk_42_method_139_code 21 = .ok (.iconst 0, 1) := by decide +kernel
theorem own_pd3 : parseMethodDescriptor "([BB)V" = some ⟨[(.array .byte), .byte], none⟩ := by decide +kernel
theorem d7_22 : decode jdk_42_method_139_code 22 = .ok (.invokespecial 209, 3) := by decide +kernel
theorem d7_25 : decode jdk_42_method_139_code 25 = .ok (.areturn, 1) := by decide +kernel
def Q7 (Z : State) (p1 : Int32) (cs : Int32) (h0 : Heap) (n0 : Nat) (v : Option Value) (h : Heap) (L : List Loc) : Prop := ∃ b : Addr, ∃ vb : Addr, ∃ kb : ClassId, v = some (.ref b) ∧ Fr n0 L ∧ Keep h0 h [] ∧ h0.size ≤ b ∧ h0.size ≤ vb ∧ (b ≠ vb) ∧ (Exa Z h b "java/lang/String") ∧ (Fld Z h b "java/lang/String" "value" "[B" (.ref vb)) ∧ (Fld Z h b "java/lang/String" "coder" "B" (.int (0 : Int32))) ∧ (Arv Z h vb kb .byte (1 : Int32) ([(.int p1.toInt8.toInt32)]) (.int (0 : Int32)))
set_option maxRecDepth 65536 in
set_option maxHeartbeats 40000000 in
theorem rm7 (l : Launch) (Z : State) (a0 : Array Value) (hw : ∀ d ∈ tables_1, d.before a0 Z = true) (ws : List Jvm.Cond) (p1 : Int32) (cs : Int32) (h0 : Heap) (n0 : Nat) (Z0 : n0 ≤ h0.size) (S_COMPACT_STRINGS : Sta Z h0 "java/lang/String" "COMPACT_STRINGS" "Z" (.int cs)) (hcs : ¬ cs = 0) (hp : ¬ (255 : Int32) < p1) :
    MetFree l (⟨"java/lang/String", "valueOf", "(C)Ljava/lang/String;"⟩ : MethodName) (head1 (Jvm.Cond.code (⟨"java/lang/String", "valueOf", "(C)Ljava/lang/String;"⟩ : MethodName) jdk_42_method_139_code 1 (some (.object "java/lang/String")) :: ws) ({ frames := 2, cells := 2, slots := 5, locals := 27 } : Room)) (fun a U => a = #[(.int p1)] ∧ Z.Warmed39 U.vm ∧ U.heap = h0) (fun _ _ _ _ _ => True) (fun _ U o U' => ∃ v L, o = .returned v ∧ Q7 Z p1 cs h0 n0 v U'.heap L ∧ FrameEnd U o U' L ({ frames := 2, cells := 2, slots := 5, locals := 27 } : Room).cells ({ frames := 2, cells := 2, slots := 5, locals := 27 } : Room).slots) := by
  refine MetFree.of_bodySF (plainFor_of_name own_pn_java_lang_String) hisR ?_
  intro p e s m args below meth c s₁ Bd hml0 hP hK
  obtain ⟨rfl, hZ, hh⟩ := hP
  have hx := Bd.exec
  have hby := Bd.bytes
  have hlk := Bd.notSynchronized
  have hml : c.maxLocals = 1 := hml0
  have hown : s.vm.findClass "java/lang/String" = some m.cls := findClass_of_methodNamed Bd.named
  have hnm := (name_of_methodNamed Bd.named Bd.method).1
  have X0 : Stand p l e ({ frames := 2, cells := 2, slots := 5, locals := 27 } : Room) s m #[(.int p1)] below meth c s₁ [] 0 0 := Stand.of_body Bd
  have e0 : s₁.heap = h0 := by rw [← hh, Bd.state]; rfl
  have N0 := Fr.nil n0
  have K0 : Keep h0 h0 [] := Keep.refl _ _
  show Go p e below (KQ s below (Q7 Z p1 cs h0 n0) ({ frames := 2, cells := 2, slots := 5, locals := 27 } : Room).cells ({ frames := 2, cells := 2, slots := 5, locals := 27 } : Room).slots) _
  refine Go.body (T := s₁) (σ := s₁) (g' := (mkF m 0 #[.val (.int p1)] [])) (ef_7 m p1) ?_
  obtain ⟨T26, X26, e26, st26⟩ := getS2 X0 hx hZ hown (host := "") (Or.inl (hw _ (List.mem_of_getElem? (i := 14) rfl))) Via.refl e0 S_COMPACT_STRINGS (g := (mkF m 0 #[.val (.int p1)] [])) rfl (hb hby d7_0)
  refine Go.st st26 ?_
  show Go p e below _ (T26.setTop (mkF m 3 #[.val (.int p1)] [(.int cs)]))
  refine g_if_eq X26 hx (hb hby d7_3) 26 6 (by decide) (by decide) rfl (fun hc3 => False.elim (hcs hc3)) (fun hc3 => ?_)
  refine g_iloadN X26 hx (hb hby d7_6) 7 rfl (v := p1) rfl ?_
  obtain ⟨_, _, ⟨T27, L27, k27, n27⟩, -, X27, ⟨Lc27, hQ27, l27, y27, z27⟩, st27⟩ := Jvm.LawKit.callS X26 hx (y := (⟨"java/lang/StringLatin1", "canEncode", "(C)Z"⟩ : MethodName)) hown (mvT hZ (hw _ (List.mem_of_getElem? (i := 33) rfl))) (mvT hZ (hw _ (List.mem_of_getElem? (i := 34) rfl))) (mvT hZ (hw _ (List.mem_of_getElem? (i := 35) rfl))) (mvT hZ (hw _ (List.mem_of_getElem? (i := 36) rfl))) (by decide) (backOf (W := 0) (rm8 l Z a0 hw [] p1 h0 n0 Z0 hp) hZ (hw _ (List.mem_of_getElem? (i := 36) rfl)) (hw _ (List.mem_of_getElem? (i := 35) rfl)) (by decide) (by decide)) (g := (mkF m 7 #[.val (.int p1)] [(.int p1)])) rfl (by rw [hml]; rfl) (argsL := [(.int p1)]) (rest := []) (lenOf own_pd1 rfl) rfl (by show 2 * 0 + _ ≤ _; exact Nat.le_of_eq rfl) (hb hby d7_7) (fun _ _ => ⟨rfl, e26, (by decide : 0 + 0 ≤ _), (by decide : 0 + 0 ≤ _)⟩)
  dsimp only [Pt.U, Pt.locs, Pt.cells, Pt.slots] at X27 l27 y27 z27 st27 hQ27
  subst l27 y27 z27
  obtain ⟨rfl, Nq27, e27⟩ := hQ27
  refine Go.st st27 ?_
  have N27 := Fr.app N0 Nq27
  show Go p e below _ (T27.setTop (mkF m 10 #[.val (.int p1)] [(.int (1 : Int32))]))
  refine g_if_eq X27 hx (hb hby d7_10) 26 13 (by decide) (by decide) rfl (fun hc10 => False.elim (absurd hc10 (by decide))) (fun hc10 => ?_)
  obtain ⟨T28, h28, X28, e28, E28, A28, D28, -, st28⟩ := newO X27 hx hZ hown (hw _ (List.mem_of_getElem? (i := 37) rfl)) (hw _ (List.mem_of_getElem? (i := 1) rfl)) (hw _ (List.mem_of_getElem? (i := 2) rfl)) e27 (g := (mkF m 13 #[.val (.int p1)] [])) rfl (hb hby d7_13) (by decide) (by decide)
  refine Go.st st28 ?_
  obtain ⟨ob, q28⟩ : ∃ z, z = h0.size := ⟨_, rfl⟩
  rw [← q28] at A28 D28 ⊢
  have g_ob : n0 ≤ ob := Nat.le_trans Z0 (Nat.le_of_eq q28.symm)
  have mh_ob : h0.size ≤ ob := Nat.le_trans K0.1 (Nat.le_of_eq q28.symm)
  have F_coder_28 : Fld Z h28 ob "java/lang/String" "coder" "B" (.int (0 : Int32)) := D28 (Or.inr (hw _ (List.mem_of_getElem? (i := 27) rfl))) (ty := .byte) (by decide)
  have F_value_28 : Fld Z h28 ob "java/lang/String" "value" "[B" .null := D28 (Or.inr (hw _ (List.mem_of_getElem? (i := 29) rfl))) (ty := (.array .byte)) (by decide)
  have K28 : Keep h0 h28 [] := Keep.ext K0 E28
  have Zs28 : n0 ≤ h28.size := Nat.le_trans Z0 E28.1
  show Go p e below _ (T28.setTop (mkF m 16 #[.val (.int p1)] [(.ref ob)]))
  refine g_dup X28 hx (hb hby d7_16) 17 rfl rfl ?_
  refine g_iloadN X28 hx (hb hby d7_17) 18 rfl (v := p1) rfl ?_
  obtain ⟨_, _, ⟨T30, L30, k30, n30⟩, -, X30, ⟨Lc30, hQ30, l30, y30, z30⟩, st30⟩ := Jvm.LawKit.callS X28 hx (y := (⟨"java/lang/StringLatin1", "toBytes", "(C)[B"⟩ : MethodName)) hown (mvT hZ (hw _ (List.mem_of_getElem? (i := 38) rfl))) (mvT hZ (hw _ (List.mem_of_getElem? (i := 39) rfl))) (mvT hZ (hw _ (List.mem_of_getElem? (i := 35) rfl))) (mvT hZ (hw _ (List.mem_of_getElem? (i := 40) rfl))) (by decide) (backOf (W := 2) (rm9 l Z a0 hw [] p1 h28 n0 Zs28 ) hZ (hw _ (List.mem_of_getElem? (i := 40) rfl)) (hw _ (List.mem_of_getElem? (i := 35) rfl)) (by decide) (by decide)) (g := (mkF m 18 #[.val (.int p1)] [(.int p1), (.ref ob), (.ref ob)])) rfl (by rw [hml]; rfl) (argsL := [(.int p1)]) (rest := [(.ref ob), (.ref ob)]) (lenOf own_pd2 rfl) rfl (by show 2 * 0 + _ ≤ _; exact Nat.le_of_eq rfl) (hb hby d7_18) (fun _ _ => ⟨rfl, e28, (by decide : 1 + 1 ≤ _), (by decide : 4 + 1 ≤ _)⟩)
  dsimp only [Pt.U, Pt.locs, Pt.cells, Pt.slots] at X30 l30 y30 z30 st30 hQ30
  subst l30 y30 z30
  obtain ⟨ovb, okb, rfl, Nq30, Kq30, f30_0, f30_1⟩ := hQ30
  refine Go.st st30 ?_
  have N30 := Fr.app N27 Nq30
  have E_ob_31 : Exa Z T30.heap ob "java/lang/String" := Exa.keep A28 Kq30
  have F_coder_ob_31 : Fld Z T30.heap ob "java/lang/String" "coder" "B" (.int (0 : Int32)) := Fld.keep F_coder_28 Kq30 nin0
  have F_value_ob_31 : Fld Z T30.heap ob "java/lang/String" "value" "[B" .null := Fld.keep F_value_28 Kq30 nin0
  have ne_ob_ovb : ob ≠ ovb := Nat.ne_of_lt (Nat.lt_of_lt_of_le A28.lt f30_0)
  have g_ovb : n0 ≤ ovb := Nat.le_trans Zs28 f30_0
  have mh_ovb : h0.size ≤ ovb := Nat.le_trans K28.1 f30_0
  have K30 : Keep h0 T30.heap [] := Keep.trans K28 Kq30 all0
  have Zs30 : n0 ≤ T30.heap.size := Nat.le_trans Zs28 Kq30.1
  show Go p e below _ (T30.setTop (mkF m 21 #[.val (.int p1)] [(.ref ovb), (.ref ob), (.ref ob)]))
  refine g_iconst X30 hx (hb hby d7_21) 22 rfl (0 : Int32) rfl ?_
  obtain ⟨_, _, ⟨T32, L32, k32, n32⟩, -, X32, ⟨Lc32, hQ32, l32, y32, z32⟩, st32⟩ := X30.specialBack hx (y := (⟨"java/lang/String", "<init>", "([BB)V"⟩ : MethodName)) rfl hown (mvT hZ (hw _ (List.mem_of_getElem? (i := 41) rfl))) (mvT hZ (hw _ (List.mem_of_getElem? (i := 42) rfl))) (mvT hZ (hw _ (List.mem_of_getElem? (i := 43) rfl))) (by decide) (backOf (W := 1) (rm10 l Z a0 hw [] ob ovb .null (.int (0 : Int32)) T30.heap n0 Zs30 E_ob_31 g_ob F_value_ob_31 F_coder_ob_31) hZ (hw _ (List.mem_of_getElem? (i := 43) rfl)) (hw _ (List.mem_of_getElem? (i := 2) rfl)) (by decide) (by decide)) (g := (mkF m 22 #[.val (.int p1)] [(.int (0 : Int32)), (.ref ovb), (.ref ob), (.ref ob)])) rfl (by rw [hml]; rfl) (Steps.refl _) (a := ob) (argsL := [(.ref ovb), (.int (0 : Int32))]) (rest := [(.ref ob)]) (lenOf own_pd3 rfl) rfl (by show 2 * 0 + _ ≤ _; exact Nat.le_of_eq rfl) (hb hby d7_22) (fun _ _ => ⟨rfl, rfl, (by decide : 2 + 0 ≤ _), (by decide : 5 + 0 ≤ _)⟩)
  dsimp only [Pt.U, Pt.locs, Pt.cells, Pt.slots] at X32 l32 y32 z32 st32 hQ32
  subst l32 y32 z32
  obtain ⟨rfl, Nq32, Kq32, f32_0, f32_1, f32_2⟩ := hQ32
  refine Go.tr st32 ?_
  have N32 := Fr.app N30 Nq32
  have E_ob_33 : Exa Z T32.heap ob "java/lang/String" := Exa.keep E_ob_31 Kq32
  have A_ovb_33 : Arv Z T32.heap ovb okb .byte (1 : Int32) ([(.int p1.toInt8.toInt32)]) (.int (0 : Int32)) := Arv.keep f30_1 Kq32 (ninS (Ne.symm ne_ob_ovb) nin0)
  have K32 : Keep h0 T32.heap [] := Keep.trans K30 Kq32 (allS (Or.inr mh_ob) all0)
  have Zs32 : n0 ≤ T32.heap.size := Nat.le_trans Zs30 Kq32.1
  show Go p e below _ (T32.setTop (mkF m 25 #[.val (.int p1)] [(.ref ob)]))
  refine Go.retA X32 hx hlk Bd.returns rfl rfl (hb hby d7_25) (by decide) (by decide) ?_
  show Q7 Z p1 cs h0 n0 _ T32.heap _
  exact ⟨ob, ovb, okb, rfl, N32, K32, mh_ob, mh_ovb, ne_ob_ovb, f32_0, f32_1, f32_2, A_ovb_33⟩
theorem ef_19 (m : MethodId) (x0 : Addr) : entryFrame m #[(.ref x0)] 1 = mkF m 0 #[.val (.ref x0)] [] := by first | (simp [entryFrame, mkF, argsToLocals, Value.category]; done) | rfl
theorem d19_0 : decode jdk_42_method_152_code 0 = .ok (.getstatic 38, 3) := by decide +kernel
theorem d19_3 : decode jdk_42_method_152_code 3 = .ok (.ifCond .eq 10, 3) := by decide +kernel
theorem d19_6 : decode jdk_42_method_152_code 6 = .ok (.aload_n 0, 1) := by decide +kernel
theorem d19_7 : decode jdk_42_method_152_code 7 = .ok (.getfield 15, 3) := by decide +kernel
theorem d19_10 : decode jdk_42_method_152_code 10 = .ok (.goto 4, 3) := by decide +kernel
theorem d19_14 : decode jdk_42_method_152_code 14 = .ok (.ireturn, 1) := by decide +kernel
def Q19 (Z : State) (a1 : Addr) (cs : Int32) (h0 : Heap) (n0 : Nat) (v : Option Value) (h : Heap) (L : List Loc) : Prop := v = some (.int (0 : Int32)) ∧ Fr n0 L ∧ h = h0
set_option maxRecDepth 65536 in
set_option maxHeartbeats 40000000 in
theorem rm19 (l : Launch) (Z : State) (a0 : Array Value) (hw : ∀ d ∈ tables_1, d.before a0 Z = true) (ws : List Jvm.Cond) (a1 : Addr) (cs : Int32) (h0 : Heap) (n0 : Nat) (Z0 : n0 ≤ h0.size) (S_COMPACT_STRINGS : Sta Z h0 "java/lang/String" "COMPACT_STRINGS" "Z" (.int cs)) (F_coder_a1 : Fld Z h0 a1 "java/lang/String" "coder" "B" (.int (0 : Int32))) (hcs : ¬ cs = 0) :
    MetFree l (⟨"java/lang/String", "coder", "()B"⟩ : MethodName) (head1 (Jvm.Cond.code (⟨"java/lang/String", "coder", "()B"⟩ : MethodName) jdk_42_method_152_code 1 (some .byte) :: ws) ({ frames := 0, cells := 0, slots := 0, locals := 0 } : Room)) (fun a U => a = #[(.ref a1)] ∧ Z.Warmed39 U.vm ∧ U.heap = h0) (fun _ _ _ _ _ => True) (fun _ U o U' => ∃ v L, o = .returned v ∧ Q19 Z a1 cs h0 n0 v U'.heap L ∧ FrameEnd U o U' L ({ frames := 0, cells := 0, slots := 0, locals := 0 } : Room).cells ({ frames := 0, cells := 0, slots := 0, locals := 0 } : Room).slots) := by
  refine MetFree.of_bodySF (plainFor_of_name own_pn_java_lang_String) hisR ?_
  intro p e s m args below meth c s₁ Bd hml0 hP hK
  obtain ⟨rfl, hZ, hh⟩ := hP
  have hx := Bd.exec
  have hby := Bd.bytes
  have hlk := Bd.notSynchronized
  have hml : c.maxLocals = 1 := hml0
  have hown : s.vm.findClass "java/lang/String" = some m.cls := findClass_of_methodNamed Bd.named
  have hnm := (name_of_methodNamed Bd.named Bd.method).1
  have X0 : Stand p l e ({ frames := 0, cells := 0, slots := 0, locals := 0 } : Room) s m #[(.ref a1)] below meth c s₁ [] 0 0 := Stand.of_body Bd
  have e0 : s₁.heap = h0 := by rw [← hh, Bd.state]; rfl
  have N0 := Fr.nil n0
  show Go p e below (KQ s below (Q19 Z a1 cs h0 n0) ({ frames := 0, cells := 0, slots := 0, locals := 0 } : Room).cells ({ frames := 0, cells := 0, slots := 0, locals := 0 } : Room).slots) _
  refine Go.body (T := s₁) (σ := s₁) (g' := (mkF m 0 #[.val (.ref a1)] [])) (ef_19 m a1) ?_
  obtain ⟨T34, X34, e34, st34⟩ := getS2 X0 hx hZ hown (host := "") (Or.inl (hw _ (List.mem_of_getElem? (i := 14) rfl))) Via.refl e0 S_COMPACT_STRINGS (g := (mkF m 0 #[.val (.ref a1)] [])) rfl (hb hby d19_0)
  refine Go.st st34 ?_
  show Go p e below _ (T34.setTop (mkF m 3 #[.val (.ref a1)] [(.int cs)]))
  refine g_if_eq X34 hx (hb hby d19_3) 13 6 (by decide) (by decide) rfl (fun hc3 => False.elim (hcs hc3)) (fun hc3 => ?_)
  refine g_aloadN X34 hx (hb hby d19_6) 7 rfl (v := (.ref a1)) rfl rfl ?_
  obtain ⟨T35, X35, e35, st35⟩ := getF X34 hx hZ hown (host := "") (Or.inl (hw _ (List.mem_of_getElem? (i := 26) rfl))) Via.refl e34 F_coder_a1 (g := (mkF m 7 #[.val (.ref a1)] [(.ref a1)])) rfl rfl (hb hby d19_7)
  refine Go.st st35 ?_
  show Go p e below _ (T35.setTop (mkF m 10 #[.val (.ref a1)] [(.int (0 : Int32))]))
  refine g_goto X35 hx (hb hby d19_10) 14 (by decide) (by decide) ?_
  refine Go.retN X35 hx hlk (t := .byte) Bd.returns (by simp) (hb hby d19_14) (by decide) (by decide) ?_
  show Q19 Z a1 cs h0 n0 _ T35.heap _
  rw [e35]
  exact ⟨rfl, N0, rfl⟩
theorem ef_18 (m : MethodId) (x0 : Addr) : entryFrame m #[(.ref x0)] 1 = mkF m 0 #[.val (.ref x0)] [] := by first | (simp [entryFrame, mkF, argsToLocals, Value.category]; done) | rfl
theorem d18_0 : decode jdk_42_method_54_code 0 = .ok (.aload_n 0, 1) := by decide +kernel
theorem d18_1 : decode jdk_42_method_54_code 1 = .ok (.getfield 9, 3) := by decide +kernel
theorem d18_4 : decode jdk_42_method_54_code 4 = .ok (.arraylength, 1) := by decide +kernel
theorem d18_5 : decode jdk_42_method_54_code 5 = .ok (.aload_n 0, 1) := by decide +kernel
theorem own_pd4 : parseMethodDescriptor "()B" = some ⟨[], some .byte⟩ := by decide +kernel
theorem d18_6 : decode jdk_42_method_54_code 6 = .ok (.invokevirtual 335, 3) := by decide +kernel
theorem d18_9 : decode jdk_42_method_54_code 9 = .ok (.ishr, 1) := by decide +kernel
theorem d18_10 : decode jdk_42_method_54_code 10 = .ok (.ireturn, 1) := by decide +kernel
def Q18 (Z : State) (a1 : Addr) (cs : Int32) (vb : Addr) (kb : ClassId) (z : Int32) (vs : List Value) (h0 : Heap) (n0 : Nat) (v : Option Value) (h : Heap) (L : List Loc) : Prop := v = some (.int z) ∧ Fr n0 L ∧ h = h0
set_option maxRecDepth 65536 in
set_option maxHeartbeats 40000000 in
theorem rm18 (l : Launch) (Z : State) (a0 : Array Value) (hw : ∀ d ∈ tables_1, d.before a0 Z = true) (ws : List Jvm.Cond) (a1 : Addr) (cs : Int32) (vb : Addr) (kb : ClassId) (z : Int32) (vs : List Value) (h0 : Heap) (n0 : Nat) (Z0 : n0 ≤ h0.size) (S_COMPACT_STRINGS : Sta Z h0 "java/lang/String" "COMPACT_STRINGS" "Z" (.int cs)) (E_a1 : Exa Z h0 a1 "java/lang/String") (F_value_a1 : Fld Z h0 a1 "java/lang/String" "value" "[B" (.ref vb)) (F_coder_a1 : Fld Z h0 a1 "java/lang/String" "coder" "B" (.int (0 : Int32))) (A_vb : Arv Z h0 vb kb .byte z vs (.int (0 : Int32))) (hcs : ¬ cs = 0) :
    MetFree l (⟨"java/lang/String", "length", "()I"⟩ : MethodName) (head1 (Jvm.Cond.code (⟨"java/lang/String", "length", "()I"⟩ : MethodName) jdk_42_method_54_code 1 (some .int) :: ws) ({ frames := 1, cells := 0, slots := 0, locals := 13 } : Room)) (fun a U => a = #[(.ref a1)] ∧ Z.Warmed39 U.vm ∧ U.heap = h0) (fun _ _ _ _ _ => True) (fun _ U o U' => ∃ v L, o = .returned v ∧ Q18 Z a1 cs vb kb z vs h0 n0 v U'.heap L ∧ FrameEnd U o U' L ({ frames := 1, cells := 0, slots := 0, locals := 13 } : Room).cells ({ frames := 1, cells := 0, slots := 0, locals := 13 } : Room).slots) := by
  refine MetFree.of_bodySF (plainFor_of_name own_pn_java_lang_String) hisR ?_
  intro p e s m args below meth c s₁ Bd hml0 hP hK
  obtain ⟨rfl, hZ, hh⟩ := hP
  have hx := Bd.exec
  have hby := Bd.bytes
  have hlk := Bd.notSynchronized
  have hml : c.maxLocals = 1 := hml0
  have hown : s.vm.findClass "java/lang/String" = some m.cls := findClass_of_methodNamed Bd.named
  have hnm := (name_of_methodNamed Bd.named Bd.method).1
  have X0 : Stand p l e ({ frames := 1, cells := 0, slots := 0, locals := 13 } : Room) s m #[(.ref a1)] below meth c s₁ [] 0 0 := Stand.of_body Bd
  have e0 : s₁.heap = h0 := by rw [← hh, Bd.state]; rfl
  have N0 := Fr.nil n0
  show Go p e below (KQ s below (Q18 Z a1 cs vb kb z vs h0 n0) ({ frames := 1, cells := 0, slots := 0, locals := 13 } : Room).cells ({ frames := 1, cells := 0, slots := 0, locals := 13 } : Room).slots) _
  refine Go.body (T := s₁) (σ := s₁) (g' := (mkF m 0 #[.val (.ref a1)] [])) (ef_18 m a1) ?_
  refine g_aloadN X0 hx (hb hby d18_0) 1 rfl (v := (.ref a1)) rfl rfl ?_
  obtain ⟨T36, X36, e36, st36⟩ := getF X0 hx hZ hown (host := "") (Or.inl (hw _ (List.mem_of_getElem? (i := 28) rfl))) Via.refl e0 F_value_a1 (g := (mkF m 1 #[.val (.ref a1)] [(.ref a1)])) rfl rfl (hb hby d18_1)
  refine Go.st st36 ?_
  show Go p e below _ (T36.setTop (mkF m 4 #[.val (.ref a1)] [(.ref vb)]))
  refine g_alen X36 hx (hb hby d18_4) 5 rfl hZ e36 A_vb ?_
  refine g_aloadN X36 hx (hb hby d18_5) 6 rfl (v := (.ref a1)) rfl rfl ?_
  obtain ⟨cq38, kq38, q38a, q38b, q38c⟩ := isOf hZ e36 E_a1
  obtain ⟨_, _, ⟨T38, L38, k38, n38⟩, -, X38, ⟨Lc38, hQ38, l38, y38, z38⟩, st38⟩ := X36.virtualBack hx (y := (⟨"java/lang/String", "coder", "()B"⟩ : MethodName)) (z := (⟨"java/lang/String", "coder", "()B"⟩ : MethodName)) hown (mvT hZ (hw _ (List.mem_of_getElem? (i := 91) rfl))) (mvT hZ (hw _ (List.mem_of_getElem? (i := 92) rfl))) (notFace_of_selects (args := #[]) (mvT hZ (hw _ (List.mem_of_getElem? (i := 94) rfl)))) (mvT hZ (hw _ (List.mem_of_getElem? (i := 94) rfl))) (mvT hZ (hw _ (List.mem_of_getElem? (i := 93) rfl))) (by decide) (backOf (W := 1) (rm19 l Z a0 hw [] a1 cs h0 n0 Z0 S_COMPACT_STRINGS F_coder_a1 hcs) hZ (hw _ (List.mem_of_getElem? (i := 95) rfl)) (hw _ (List.mem_of_getElem? (i := 2) rfl)) (by decide) (by decide)) q38a q38c (g := (mkF m 6 #[.val (.ref a1)] [(.ref a1), (.int z)])) rfl (by rw [hml]; rfl) (Steps.refl _) (argsL := []) (rest := [(.int z)]) (lenOf own_pd4 rfl) rfl (by show 2 * 0 + _ ≤ _; exact Nat.le_of_eq rfl) (hb hby d18_6) (fun _ _ => ⟨rfl, e36, (by decide : 0 + 0 ≤ _), (by decide : 0 + 0 ≤ _)⟩)
  dsimp only [Pt.U, Pt.locs, Pt.cells, Pt.slots] at X38 l38 y38 z38 st38 hQ38
  subst l38 y38 z38
  obtain ⟨rfl, Nq38, e38⟩ := hQ38
  refine Go.tr st38 ?_
  have N38 := Fr.app N0 Nq38
  show Go p e below _ (T38.setTop (mkF m 9 #[.val (.ref a1)] [(.int (0 : Int32)), (.int z)]))
  refine g_ishr X38 hx (hb hby d18_9) 10 rfl z (own_shr0 z) ?_
  refine Go.retI X38 hx hlk Bd.returns (hb hby d18_10) (by decide) (by decide) ?_
  show Q18 Z a1 cs vb kb z vs h0 n0 _ T38.heap _
  rw [e38]
  exact ⟨rfl, N38, rfl⟩
theorem own_pn_jdk_internal_util_Preconditions : plainName "jdk/internal/util/Preconditions" = true := by first | (simp [plainName, overriddenIn]; done) | decide +kernel
theorem ef_26 (m : MethodId) (x0 : Int32) (x1 : Int32) (x2 : Value) (c2 : x2.category = 1) : entryFrame m #[(.int x0), (.int x1), x2] 3 = mkF m 0 #[.val (.int x0), .val (.int x1), .val x2] [] := by cases x2 <;> simp [entryFrame, mkF, argsToLocals, Value.category] at c2 ⊢
theorem d26_0 : decode jdk_41_method_11_code 0 = .ok (.iload_n 0, 1) := by decide +kernel
theorem d26_1 : decode jdk_41_method_11_code 1 = .ok (.ifCond .lt 8, 3) := by decide +kernel
theorem d26_4 : decode jdk_41_method_11_code 4 = .ok (.iload_n 0, 1) := by decide +kernel
theorem d26_5 : decode jdk_41_method_11_code 5 = .ok (.iload_n 1, 1) := by decide +kernel
theorem d26_6 : decode jdk_41_method_11_code 6 = .ok (.if_icmp .lt 10, 3) := by decide +kernel
theorem d26_16 : decode jdk_41_method_11_code 16 = .ok (.iload_n 0, 1) := by decide +kernel
theorem d26_17 : decode jdk_41_method_11_code 17 = .ok (.ireturn, 1) := by decide +kernel
def Q26 (Z : State) (p1 : Int32) (p2 : Int32) (sf : Value) (h0 : Heap) (n0 : Nat) (v : Option Value) (h : Heap) (L : List Loc) : Prop := v = some (.int p1) ∧ Fr n0 L ∧ h = h0
set_option maxRecDepth 65536 in
set_option maxHeartbeats 40000000 in
theorem rm26 (l : Launch) (Z : State) (a0 : Array Value) (hw : ∀ d ∈ tables_1, d.before a0 Z = true) (ws : List Jvm.Cond) (p1 : Int32) (p2 : Int32) (sf : Value) (h0 : Heap) (n0 : Nat) (Z0 : n0 ≤ h0.size) (hsf : sf.isRef = true) (hp : ¬ p1 < 0 ∧ p1 < p2) :
    MetFree l (⟨"jdk/internal/util/Preconditions", "checkIndex", "(IILjava/util/function/BiFunction;)I"⟩ : MethodName) (head1 (Jvm.Cond.code (⟨"jdk/internal/util/Preconditions", "checkIndex", "(IILjava/util/function/BiFunction;)I"⟩ : MethodName) jdk_41_method_11_code 3 (some .int) :: ws) ({ frames := 0, cells := 0, slots := 0, locals := 0 } : Room)) (fun a U => a = #[(.int p1), (.int p2), sf] ∧ Z.Warmed39 U.vm ∧ U.heap = h0) (fun _ _ _ _ _ => True) (fun _ U o U' => ∃ v L, o = .returned v ∧ Q26 Z p1 p2 sf h0 n0 v U'.heap L ∧ FrameEnd U o U' L ({ frames := 0, cells := 0, slots := 0, locals := 0 } : Room).cells ({ frames := 0, cells := 0, slots := 0, locals := 0 } : Room).slots) := by
  refine MetFree.of_bodySF (plainFor_of_name own_pn_jdk_internal_util_Preconditions) hisR ?_
  intro p e s m args below meth c s₁ Bd hml0 hP hK
  obtain ⟨rfl, hZ, hh⟩ := hP
  have hx := Bd.exec
  have hby := Bd.bytes
  have hlk := Bd.notSynchronized
  have hml : c.maxLocals = 3 := hml0
  have hown : s.vm.findClass "jdk/internal/util/Preconditions" = some m.cls := findClass_of_methodNamed Bd.named
  have hnm := (name_of_methodNamed Bd.named Bd.method).1
  have X0 : Stand p l e ({ frames := 0, cells := 0, slots := 0, locals := 0 } : Room) s m #[(.int p1), (.int p2), sf] below meth c s₁ [] 0 0 := Stand.of_body Bd
  have e0 : s₁.heap = h0 := by rw [← hh, Bd.state]; rfl
  have N0 := Fr.nil n0
  show Go p e below (KQ s below (Q26 Z p1 p2 sf h0 n0) ({ frames := 0, cells := 0, slots := 0, locals := 0 } : Room).cells ({ frames := 0, cells := 0, slots := 0, locals := 0 } : Room).slots) _
  refine Go.body (T := s₁) (σ := s₁) (g' := (mkF m 0 #[.val (.int p1), .val (.int p2), .val sf] [])) (ef_26 m p1 p2 sf (own_cat hsf)) ?_
  refine g_iloadN X0 hx (hb hby d26_0) 1 rfl (v := p1) rfl ?_
  refine g_if_lt X0 hx (hb hby d26_1) 9 4 (by decide) (by decide) rfl (fun hc1 => False.elim (hp.1 hc1)) (fun hc1 => ?_)
  refine g_iloadN X0 hx (hb hby d26_4) 5 rfl (v := p1) rfl ?_
  refine g_iloadN X0 hx (hb hby d26_5) 6 rfl (v := p2) rfl ?_
  refine g_icmp_lt X0 hx (hb hby d26_6) 16 9 (by decide) (by decide) rfl (fun hc6 => ?_) (fun hc6 => False.elim (hc6 hp.2))
  refine g_iloadN X0 hx (hb hby d26_16) 17 rfl (v := p1) rfl ?_
  refine Go.retI X0 hx hlk Bd.returns (hb hby d26_17) (by decide) (by decide) ?_
  show Q26 Z p1 p2 sf h0 n0 _ s₁.heap _
  rw [e0]
  exact ⟨rfl, N0, rfl⟩
theorem ef_25 (m : MethodId) (x0 : Int32) (x1 : Int32) : entryFrame m #[(.int x0), (.int x1)] 2 = mkF m 0 #[.val (.int x0), .val (.int x1)] [] := by first | (simp [entryFrame, mkF, argsToLocals, Value.category]; done) | rfl
theorem d25_0 : decode jdk_42_method_155_code 0 = .ok (.iload_n 0, 1) := by decide +kernel
theorem d25_1 : decode jdk_42_method_155_code 1 = .ok (.iload_n 1, 1) := by decide +kernel
theorem d25_2 : decode jdk_42_method_155_code 2 = .ok (.getstatic 1053, 3) := by decide +kernel
theorem own_pd5 : parseMethodDescriptor "(IILjava/util/function/BiFunction;)I" = some ⟨[.int, .int, (.object "java/util/function/BiFunction")], some .int⟩ := by decide +kernel
theorem d25_5 : decode jdk_42_method_155_code 5 = .ok (.invokestatic 1059, 3) := by decide +kernel
theorem d25_8 : decode jdk_42_method_155_code 8 = .ok (.pop, 1) := by decide +kernel
theorem d25_9 : decode jdk_42_method_155_code 9 = .ok (.return_, 1) := by decide +kernel
def Q25 (Z : State) (p1 : Int32) (p2 : Int32) (sf : Value) (h0 : Heap) (n0 : Nat) (v : Option Value) (h : Heap) (L : List Loc) : Prop := v = none ∧ Fr n0 L ∧ h = h0
set_option maxRecDepth 65536 in
set_option maxHeartbeats 40000000 in
theorem rm25 (l : Launch) (Z : State) (a0 : Array Value) (hw : ∀ d ∈ tables_1, d.before a0 Z = true) (ws : List Jvm.Cond) (p1 : Int32) (p2 : Int32) (sf : Value) (h0 : Heap) (n0 : Nat) (Z0 : n0 ≤ h0.size) (S_SIOOBE_FORMATTER : Sta Z h0 "jdk/internal/util/Preconditions" "SIOOBE_FORMATTER" "Ljava/util/function/BiFunction;" sf) (hsf : sf.isRef = true) (hp : ¬ p1 < 0 ∧ p1 < p2) :
    MetFree l (⟨"java/lang/String", "checkIndex", "(II)V"⟩ : MethodName) (head1 (Jvm.Cond.code (⟨"java/lang/String", "checkIndex", "(II)V"⟩ : MethodName) jdk_42_method_155_code 2 none :: ws) ({ frames := 1, cells := 0, slots := 0, locals := 14 } : Room)) (fun a U => a = #[(.int p1), (.int p2)] ∧ Z.Warmed39 U.vm ∧ U.heap = h0) (fun _ _ _ _ _ => True) (fun _ U o U' => ∃ v L, o = .returned v ∧ Q25 Z p1 p2 sf h0 n0 v U'.heap L ∧ FrameEnd U o U' L ({ frames := 1, cells := 0, slots := 0, locals := 14 } : Room).cells ({ frames := 1, cells := 0, slots := 0, locals := 14 } : Room).slots) := by
  refine MetFree.of_bodySF (plainFor_of_name own_pn_java_lang_String) hisR ?_
  intro p e s m args below meth c s₁ Bd hml0 hP hK
  obtain ⟨rfl, hZ, hh⟩ := hP
  have hx := Bd.exec
  have hby := Bd.bytes
  have hlk := Bd.notSynchronized
  have hml : c.maxLocals = 2 := hml0
  have hown : s.vm.findClass "java/lang/String" = some m.cls := findClass_of_methodNamed Bd.named
  have hnm := (name_of_methodNamed Bd.named Bd.method).1
  have X0 : Stand p l e ({ frames := 1, cells := 0, slots := 0, locals := 14 } : Room) s m #[(.int p1), (.int p2)] below meth c s₁ [] 0 0 := Stand.of_body Bd
  have e0 : s₁.heap = h0 := by rw [← hh, Bd.state]; rfl
  have N0 := Fr.nil n0
  show Go p e below (KQ s below (Q25 Z p1 p2 sf h0 n0) ({ frames := 1, cells := 0, slots := 0, locals := 14 } : Room).cells ({ frames := 1, cells := 0, slots := 0, locals := 14 } : Room).slots) _
  refine Go.body (T := s₁) (σ := s₁) (g' := (mkF m 0 #[.val (.int p1), .val (.int p2)] [])) (ef_25 m p1 p2) ?_
  refine g_iloadN X0 hx (hb hby d25_0) 1 rfl (v := p1) rfl ?_
  refine g_iloadN X0 hx (hb hby d25_1) 2 rfl (v := p2) rfl ?_
  obtain ⟨T39, X39, e39, st39⟩ := getS2 X0 hx hZ hown (host := "") (Or.inl (hw _ (List.mem_of_getElem? (i := 127) rfl))) Via.refl e0 S_SIOOBE_FORMATTER (g := (mkF m 2 #[.val (.int p1), .val (.int p2)] [(.int p2), (.int p1)])) rfl (hb hby d25_2)
  refine Go.st st39 ?_
  show Go p e below _ (T39.setTop (mkF m 5 #[.val (.int p1), .val (.int p2)] [sf, (.int p2), (.int p1)]))
  obtain ⟨_, _, ⟨T40, L40, k40, n40⟩, -, X40, ⟨Lc40, hQ40, l40, y40, z40⟩, st40⟩ := Jvm.LawKit.callS X39 hx (y := (⟨"jdk/internal/util/Preconditions", "checkIndex", "(IILjava/util/function/BiFunction;)I"⟩ : MethodName)) hown (mvT hZ (hw _ (List.mem_of_getElem? (i := 129) rfl))) (mvT hZ (hw _ (List.mem_of_getElem? (i := 130) rfl))) (mvT hZ (hw _ (List.mem_of_getElem? (i := 128) rfl))) (mvT hZ (hw _ (List.mem_of_getElem? (i := 131) rfl))) (by decide) (backOf (W := 0) (rm26 l Z a0 hw [] p1 p2 sf h0 n0 Z0 hsf hp) hZ (hw _ (List.mem_of_getElem? (i := 131) rfl)) (hw _ (List.mem_of_getElem? (i := 128) rfl)) (by decide) (by decide)) (g := (mkF m 5 #[.val (.int p1), .val (.int p2)] [sf, (.int p2), (.int p1)])) rfl (by rw [hml]; rfl) (argsL := [(.int p1), (.int p2), sf]) (rest := []) (lenOf own_pd5 rfl) rfl (by show 2 * 0 + _ ≤ _; exact Nat.le_of_eq rfl) (hb hby d25_5) (fun _ _ => ⟨rfl, e39, (by decide : 0 + 0 ≤ _), (by decide : 0 + 0 ≤ _)⟩)
  dsimp only [Pt.U, Pt.locs, Pt.cells, Pt.slots] at X40 l40 y40 z40 st40 hQ40
  subst l40 y40 z40
  obtain ⟨rfl, Nq40, e40⟩ := hQ40
  refine Go.st st40 ?_
  have N40 := Fr.app N0 Nq40
  show Go p e below _ (T40.setTop (mkF m 8 #[.val (.int p1), .val (.int p2)] [(.int p1)]))
  refine g_pop X40 hx (hb hby d25_8) 9 rfl rfl ?_
  refine Go.retV X40 hx hlk Bd.returns (hb hby d25_9) (by decide) (by decide) ?_
  show Q25 Z p1 p2 sf h0 n0 _ T40.heap _
  rw [e40]
  exact ⟨rfl, N40, rfl⟩
theorem ef_24 (m : MethodId) (x0 : Addr) (x1 : Int32) : entryFrame m #[(.ref x0), (.int x1)] 2 = mkF m 0 #[.val (.ref x0), .val (.int x1)] [] := by first | (simp [entryFrame, mkF, argsToLocals, Value.category]; done) | rfl
theorem d24_0 : decode jdk_43_method_2_code 0 = .ok (.iload_n 1, 1) := by decide +kernel
theorem d24_1 : decode jdk_43_method_2_code 1 = .ok (.aload_n 0, 1) := by decide +kernel
theorem d24_2 : decode jdk_43_method_2_code 2 = .ok (.arraylength, 1) := by decide +kernel
theorem own_pd6 : parseMethodDescriptor "(II)V" = some ⟨[.int, .int], none⟩ := by decide +kernel
theorem d24_3 : decode jdk_43_method_2_code 3 = .ok (.invokestatic 9, 3) := by decide +kernel
theorem d24_6 : decode jdk_43_method_2_code 6 = .ok (.aload_n 0, 1) := by decide +kernel
theorem d24_7 : decode jdk_43_method_2_code 7 = .ok (.iload_n 1, 1) := by decide +kernel
theorem d24_8 : decode jdk_43_method_2_code 8 = .ok (.baload, 1) := by decide +kernel
theorem d24_9 : decode jdk_43_method_2_code 9 = .ok (.sipush 255, 3) := by decide +kernel
theorem d24_12 : decode jdk_43_method_2_code 12 = .ok (.iand, 1) := by decide +kernel
theorem d24_13 : decode jdk_43_method_2_code 13 = .ok (.i2c, 1) := by decide +kernel
theorem d24_14 : decode jdk_43_method_2_code 14 = .ok (.ireturn, 1) := by decide +kernel
def Q24 (Z : State) (a1 : Addr) (p2 : Int32) (sf : Value) (kb : ClassId) (z : Int32) (vs : List Value) (x : Int32) (h0 : Heap) (n0 : Nat) (v : Option Value) (h : Heap) (L : List Loc) : Prop := v = some (.int (x &&& (255 : Int32))) ∧ Fr n0 L ∧ h = h0
set_option maxRecDepth 65536 in
set_option maxHeartbeats 40000000 in
theorem rm24 (l : Launch) (Z : State) (a0 : Array Value) (hw : ∀ d ∈ tables_1, d.before a0 Z = true) (ws : List Jvm.Cond) (a1 : Addr) (p2 : Int32) (sf : Value) (kb : ClassId) (z : Int32) (vs : List Value) (x : Int32) (h0 : Heap) (n0 : Nat) (Z0 : n0 ≤ h0.size) (S_SIOOBE_FORMATTER : Sta Z h0 "jdk/internal/util/Preconditions" "SIOOBE_FORMATTER" "Ljava/util/function/BiFunction;" sf) (A_a1 : Arv Z h0 a1 kb .byte z vs (.int (0 : Int32))) (hsf : sf.isRef = true) (hp : ¬ p2 < 0 ∧ p2 < z) (hu : vs.getD p2.toNatClampNeg (.int (0 : Int32)) = .int x) :
    MetFree l (⟨"java/lang/StringLatin1", "charAt", "([BI)C"⟩ : MethodName) (head1 (Jvm.Cond.code (⟨"java/lang/StringLatin1", "charAt", "([BI)C"⟩ : MethodName) jdk_43_method_2_code 2 (some .char) :: ws) ({ frames := 2, cells := 0, slots := 0, locals := 27 } : Room)) (fun a U => a = #[(.ref a1), (.int p2)] ∧ Z.Warmed39 U.vm ∧ U.heap = h0) (fun _ _ _ _ _ => True) (fun _ U o U' => ∃ v L, o = .returned v ∧ Q24 Z a1 p2 sf kb z vs x h0 n0 v U'.heap L ∧ FrameEnd U o U' L ({ frames := 2, cells := 0, slots := 0, locals := 27 } : Room).cells ({ frames := 2, cells := 0, slots := 0, locals := 27 } : Room).slots) := by
  refine MetFree.of_bodySF (plainFor_of_name own_pn_java_lang_StringLatin1) hisR ?_
  intro p e s m args below meth c s₁ Bd hml0 hP hK
  obtain ⟨rfl, hZ, hh⟩ := hP
  have hx := Bd.exec
  have hby := Bd.bytes
  have hlk := Bd.notSynchronized
  have hml : c.maxLocals = 2 := hml0
  have hown : s.vm.findClass "java/lang/StringLatin1" = some m.cls := findClass_of_methodNamed Bd.named
  have hnm := (name_of_methodNamed Bd.named Bd.method).1
  have X0 : Stand p l e ({ frames := 2, cells := 0, slots := 0, locals := 27 } : Room) s m #[(.ref a1), (.int p2)] below meth c s₁ [] 0 0 := Stand.of_body Bd
  have e0 : s₁.heap = h0 := by rw [← hh, Bd.state]; rfl
  have N0 := Fr.nil n0
  show Go p e below (KQ s below (Q24 Z a1 p2 sf kb z vs x h0 n0) ({ frames := 2, cells := 0, slots := 0, locals := 27 } : Room).cells ({ frames := 2, cells := 0, slots := 0, locals := 27 } : Room).slots) _
  refine Go.body (T := s₁) (σ := s₁) (g' := (mkF m 0 #[.val (.ref a1), .val (.int p2)] [])) (ef_24 m a1 p2) ?_
  refine g_iloadN X0 hx (hb hby d24_0) 1 rfl (v := p2) rfl ?_
  refine g_aloadN X0 hx (hb hby d24_1) 2 rfl (v := (.ref a1)) rfl rfl ?_
  refine g_alen X0 hx (hb hby d24_2) 3 rfl hZ e0 A_a1 ?_
  obtain ⟨_, _, ⟨T42, L42, k42, n42⟩, -, X42, ⟨Lc42, hQ42, l42, y42, z42⟩, st42⟩ := Jvm.LawKit.callS X0 hx (y := (⟨"java/lang/String", "checkIndex", "(II)V"⟩ : MethodName)) hown (mvT hZ (hw _ (List.mem_of_getElem? (i := 124) rfl))) (mvT hZ (hw _ (List.mem_of_getElem? (i := 125) rfl))) (mvT hZ (hw _ (List.mem_of_getElem? (i := 2) rfl))) (mvT hZ (hw _ (List.mem_of_getElem? (i := 126) rfl))) (by decide) (backOf (W := 0) (rm25 l Z a0 hw [] p2 z sf h0 n0 Z0 S_SIOOBE_FORMATTER hsf hp) hZ (hw _ (List.mem_of_getElem? (i := 126) rfl)) (hw _ (List.mem_of_getElem? (i := 2) rfl)) (by decide) (by decide)) (g := (mkF m 3 #[.val (.ref a1), .val (.int p2)] [(.int z), (.int p2)])) rfl (by rw [hml]; rfl) (argsL := [(.int p2), (.int z)]) (rest := []) (lenOf own_pd6 rfl) rfl (by show 2 * 0 + _ ≤ _; exact Nat.le_of_eq rfl) (hb hby d24_3) (fun _ _ => ⟨rfl, e0, (by decide : 0 + 0 ≤ _), (by decide : 0 + 0 ≤ _)⟩)
  dsimp only [Pt.U, Pt.locs, Pt.cells, Pt.slots] at X42 l42 y42 z42 st42 hQ42
  subst l42 y42 z42
  obtain ⟨rfl, Nq42, e42⟩ := hQ42
  refine Go.st st42 ?_
  have N42 := Fr.app N0 Nq42
  show Go p e below _ (T42.setTop (mkF m 6 #[.val (.ref a1), .val (.int p2)] []))
  refine g_aloadN X42 hx (hb hby d24_6) 7 rfl (v := (.ref a1)) rfl rfl ?_
  refine g_iloadN X42 hx (hb hby d24_7) 8 rfl (v := p2) rfl ?_
  refine g_baload X42 hx (hb hby d24_8) 9 rfl hZ e42 A_a1 hp (.int x) hu ?_
  refine g_sipush X42 hx (hb hby d24_9) 12 rfl (255 : Int32) rfl ?_
  refine g_iand X42 hx (hb hby d24_12) 13 rfl (x &&& (255 : Int32)) rfl ?_
  refine g_i2c X42 hx (hb hby d24_13) 14 rfl (x &&& (255 : Int32)).toUInt32.toUInt16.toUInt32.toInt32 rfl ?_
  refine Go.retN X42 hx hlk (t := .char) Bd.returns (by simp) (hb hby d24_14) (by decide) (by decide) ?_
  show Q24 Z a1 p2 sf kb z vs x h0 n0 _ T42.heap _
  rw [e42]
  exact ⟨(by rw [own_chr]), N42, rfl⟩
theorem ef_23 (m : MethodId) (x0 : Addr) : entryFrame m #[(.ref x0)] 1 = mkF m 0 #[.val (.ref x0)] [] := by first | (simp [entryFrame, mkF, argsToLocals, Value.category]; done) | rfl
theorem d23_0 : decode jdk_42_method_154_code 0 = .ok (.getstatic 38, 3) := by decide +kernel
theorem d23_3 : decode jdk_42_method_154_code 3 = .ok (.ifCond .eq 14, 3) := by decide +kernel
theorem d23_6 : decode jdk_42_method_154_code 6 = .ok (.aload_n 0, 1) := by decide +kernel
theorem d23_7 : decode jdk_42_method_154_code 7 = .ok (.getfield 15, 3) := by decide +kernel
theorem d23_10 : decode jdk_42_method_154_code 10 = .ok (.ifCond .ne 7, 3) := by decide +kernel
theorem d23_13 : decode jdk_42_method_154_code 13 = .ok (.iconst 1, 1) := by decide +kernel
theorem d23_14 : decode jdk_42_method_154_code 14 = .ok (.goto 4, 3) := by decide +kernel
theorem d23_18 : decode jdk_42_method_154_code 18 = .ok (.ireturn, 1) := by decide +kernel
def Q23 (Z : State) (a1 : Addr) (cs : Int32) (h0 : Heap) (n0 : Nat) (v : Option Value) (h : Heap) (L : List Loc) : Prop := v = some (.int (1 : Int32)) ∧ Fr n0 L ∧ h = h0
set_option maxRecDepth 65536 in
set_option maxHeartbeats 40000000 in
theorem rm23 (l : Launch) (Z : State) (a0 : Array Value) (hw : ∀ d ∈ tables_1, d.before a0 Z = true) (ws : List Jvm.Cond) (a1 : Addr) (cs : Int32) (h0 : Heap) (n0 : Nat) (Z0 : n0 ≤ h0.size) (S_COMPACT_STRINGS : Sta Z h0 "java/lang/String" "COMPACT_STRINGS" "Z" (.int cs)) (F_coder_a1 : Fld Z h0 a1 "java/lang/String" "coder" "B" (.int (0 : Int32))) (hcs : ¬ cs = 0) :
    MetFree l (⟨"java/lang/String", "isLatin1", "()Z"⟩ : MethodName) (head1 (Jvm.Cond.code (⟨"java/lang/String", "isLatin1", "()Z"⟩ : MethodName) jdk_42_method_154_code 1 (some .boolean) :: ws) ({ frames := 0, cells := 0, slots := 0, locals := 0 } : Room)) (fun a U => a = #[(.ref a1)] ∧ Z.Warmed39 U.vm ∧ U.heap = h0) (fun _ _ _ _ _ => True) (fun _ U o U' => ∃ v L, o = .returned v ∧ Q23 Z a1 cs h0 n0 v U'.heap L ∧ FrameEnd U o U' L ({ frames := 0, cells := 0, slots := 0, locals := 0 } : Room).cells ({ frames := 0, cells := 0, slots := 0, locals := 0 } : Room).slots) := by
  refine MetFree.of_bodySF (plainFor_of_name own_pn_java_lang_String) hisR ?_
  intro p e s m args below meth c s₁ Bd hml0 hP hK
  obtain ⟨rfl, hZ, hh⟩ := hP
  have hx := Bd.exec
  have hby := Bd.bytes
  have hlk := Bd.notSynchronized
  have hml : c.maxLocals = 1 := hml0
  have hown : s.vm.findClass "java/lang/String" = some m.cls := findClass_of_methodNamed Bd.named
  have hnm := (name_of_methodNamed Bd.named Bd.method).1
  have X0 : Stand p l e ({ frames := 0, cells := 0, slots := 0, locals := 0 } : Room) s m #[(.ref a1)] below meth c s₁ [] 0 0 := Stand.of_body Bd
  have e0 : s₁.heap = h0 := by rw [← hh, Bd.state]; rfl
  have N0 := Fr.nil n0
  show Go p e below (KQ s below (Q23 Z a1 cs h0 n0) ({ frames := 0, cells := 0, slots := 0, locals := 0 } : Room).cells ({ frames := 0, cells := 0, slots := 0, locals := 0 } : Room).slots) _
  refine Go.body (T := s₁) (σ := s₁) (g' := (mkF m 0 #[.val (.ref a1)] [])) (ef_23 m a1) ?_
  obtain ⟨T44, X44, e44, st44⟩ := getS2 X0 hx hZ hown (host := "") (Or.inl (hw _ (List.mem_of_getElem? (i := 14) rfl))) Via.refl e0 S_COMPACT_STRINGS (g := (mkF m 0 #[.val (.ref a1)] [])) rfl (hb hby d23_0)
  refine Go.st st44 ?_
  show Go p e below _ (T44.setTop (mkF m 3 #[.val (.ref a1)] [(.int cs)]))
  refine g_if_eq X44 hx (hb hby d23_3) 17 6 (by decide) (by decide) rfl (fun hc3 => False.elim (hcs hc3)) (fun hc3 => ?_)
  refine g_aloadN X44 hx (hb hby d23_6) 7 rfl (v := (.ref a1)) rfl rfl ?_
  obtain ⟨T45, X45, e45, st45⟩ := getF X44 hx hZ hown (host := "") (Or.inl (hw _ (List.mem_of_getElem? (i := 26) rfl))) Via.refl e44 F_coder_a1 (g := (mkF m 7 #[.val (.ref a1)] [(.ref a1)])) rfl rfl (hb hby d23_7)
  refine Go.st st45 ?_
  show Go p e below _ (T45.setTop (mkF m 10 #[.val (.ref a1)] [(.int (0 : Int32))]))
  refine g_if_ne X45 hx (hb hby d23_10) 17 13 (by decide) (by decide) rfl (fun hc10 => False.elim (absurd rfl hc10)) (fun hc10 => ?_)
  refine g_iconst X45 hx (hb hby d23_13) 14 rfl (1 : Int32) rfl ?_
  refine g_goto X45 hx (hb hby d23_14) 18 (by decide) (by decide) ?_
  refine Go.retN X45 hx hlk (t := .boolean) Bd.returns (by simp) (hb hby d23_18) (by decide) (by decide) ?_
  show Q23 Z a1 cs h0 n0 _ T45.heap _
  rw [e45]
  exact ⟨rfl, N0, rfl⟩
theorem ef_22 (m : MethodId) (x0 : Addr) (x1 : Int32) : entryFrame m #[(.ref x0), (.int x1)] 2 = mkF m 0 #[.val (.ref x0), .val (.int x1)] [] := by first | (simp [entryFrame, mkF, argsToLocals, Value.category]; done) | rfl
theorem d22_0 : decode jdk_42_method_56_code 0 = .ok (.aload_n 0, 1) := by decide +kernel
theorem own_pd7 : parseMethodDescriptor "()Z" = some ⟨[], some .boolean⟩ := by decide +kernel
theorem d22_1 : decode jdk_42_method_56_code 1 = .ok (.invokevirtual 492, 3) := by decide +kernel
theorem d22_4 : decode jdk_42_method_56_code 4 = .ok (.ifCond .eq 12, 3) := by decide +kernel
theorem d22_7 : decode jdk_42_method_56_code 7 = .ok (.aload_n 0, 1) := by decide +kernel
theorem d22_8 : decode jdk_42_method_56_code 8 = .ok (.getfield 9, 3) := by decide +kernel
theorem d22_11 : decode jdk_42_method_56_code 11 = .ok (.iload_n 1, 1) := by decide +kernel
theorem own_pd8 : parseMethodDescriptor "([BI)C" = some ⟨[(.array .byte), .int], some .char⟩ := by decide +kernel
theorem d22_12 : decode jdk_42_method_56_code 12 = .ok (.invokestatic 495, 3) := by decide +kernel
theorem d22_15 : decode jdk_42_method_56_code 15 = .ok (.ireturn, 1) := by decide +kernel
def Q22 (Z : State) (a1 : Addr) (p2 : Int32) (cs : Int32) (sf : Value) (vb : Addr) (kb : ClassId) (z : Int32) (vs : List Value) (x : Int32) (h0 : Heap) (n0 : Nat) (v : Option Value) (h : Heap) (L : List Loc) : Prop := v = some (.int (x &&& (255 : Int32))) ∧ Fr n0 L ∧ h = h0
set_option maxRecDepth 65536 in
set_option maxHeartbeats 40000000 in
theorem rm22 (l : Launch) (Z : State) (a0 : Array Value) (hw : ∀ d ∈ tables_1, d.before a0 Z = true) (ws : List Jvm.Cond) (a1 : Addr) (p2 : Int32) (cs : Int32) (sf : Value) (vb : Addr) (kb : ClassId) (z : Int32) (vs : List Value) (x : Int32) (h0 : Heap) (n0 : Nat) (Z0 : n0 ≤ h0.size) (S_COMPACT_STRINGS : Sta Z h0 "java/lang/String" "COMPACT_STRINGS" "Z" (.int cs)) (S_SIOOBE_FORMATTER : Sta Z h0 "jdk/internal/util/Preconditions" "SIOOBE_FORMATTER" "Ljava/util/function/BiFunction;" sf) (E_a1 : Exa Z h0 a1 "java/lang/String") (F_value_a1 : Fld Z h0 a1 "java/lang/String" "value" "[B" (.ref vb)) (F_coder_a1 : Fld Z h0 a1 "java/lang/String" "coder" "B" (.int (0 : Int32))) (A_vb : Arv Z h0 vb kb .byte z vs (.int (0 : Int32))) (hcs : ¬ cs = 0) (hsf : sf.isRef = true) (hp : ¬ p2 < 0 ∧ p2 < z) (hu : vs.getD p2.toNatClampNeg (.int (0 : Int32)) = .int x) :
    MetFree l (⟨"java/lang/String", "charAt", "(I)C"⟩ : MethodName) (head1 (Jvm.Cond.code (⟨"java/lang/String", "charAt", "(I)C"⟩ : MethodName) jdk_42_method_56_code 2 (some .char) :: ws) ({ frames := 3, cells := 0, slots := 0, locals := 40 } : Room)) (fun a U => a = #[(.ref a1), (.int p2)] ∧ Z.Warmed39 U.vm ∧ U.heap = h0) (fun _ _ _ _ _ => True) (fun _ U o U' => ∃ v L, o = .returned v ∧ Q22 Z a1 p2 cs sf vb kb z vs x h0 n0 v U'.heap L ∧ FrameEnd U o U' L ({ frames := 3, cells := 0, slots := 0, locals := 40 } : Room).cells ({ frames := 3, cells := 0, slots := 0, locals := 40 } : Room).slots) := by
  refine MetFree.of_bodySF (plainFor_of_name own_pn_java_lang_String) hisR ?_
  intro p e s m args below meth c s₁ Bd hml0 hP hK
  obtain ⟨rfl, hZ, hh⟩ := hP
  have hx := Bd.exec
  have hby := Bd.bytes
  have hlk := Bd.notSynchronized
  have hml : c.maxLocals = 2 := hml0
  have hown : s.vm.findClass "java/lang/String" = some m.cls := findClass_of_methodNamed Bd.named
  have hnm := (name_of_methodNamed Bd.named Bd.method).1
  have X0 : Stand p l e ({ frames := 3, cells := 0, slots := 0, locals := 40 } : Room) s m #[(.ref a1), (.int p2)] below meth c s₁ [] 0 0 := Stand.of_body Bd
  have e0 : s₁.heap = h0 := by rw [← hh, Bd.state]; rfl
  have N0 := Fr.nil n0
  show Go p e below (KQ s below (Q22 Z a1 p2 cs sf vb kb z vs x h0 n0) ({ frames := 3, cells := 0, slots := 0, locals := 40 } : Room).cells ({ frames := 3, cells := 0, slots := 0, locals := 40 } : Room).slots) _
  refine Go.body (T := s₁) (σ := s₁) (g' := (mkF m 0 #[.val (.ref a1), .val (.int p2)] [])) (ef_22 m a1 p2) ?_
  refine g_aloadN X0 hx (hb hby d22_0) 1 rfl (v := (.ref a1)) rfl rfl ?_
  obtain ⟨cq46, kq46, q46a, q46b, q46c⟩ := isOf hZ e0 E_a1
  obtain ⟨_, _, ⟨T46, L46, k46, n46⟩, -, X46, ⟨Lc46, hQ46, l46, y46, z46⟩, st46⟩ := X0.virtualBack hx (y := (⟨"java/lang/String", "isLatin1", "()Z"⟩ : MethodName)) (z := (⟨"java/lang/String", "isLatin1", "()Z"⟩ : MethodName)) hown (mvT hZ (hw _ (List.mem_of_getElem? (i := 116) rfl))) (mvT hZ (hw _ (List.mem_of_getElem? (i := 117) rfl))) (notFace_of_selects (args := #[]) (mvT hZ (hw _ (List.mem_of_getElem? (i := 119) rfl)))) (mvT hZ (hw _ (List.mem_of_getElem? (i := 119) rfl))) (mvT hZ (hw _ (List.mem_of_getElem? (i := 118) rfl))) (by decide) (backOf (W := 0) (rm23 l Z a0 hw [] a1 cs h0 n0 Z0 S_COMPACT_STRINGS F_coder_a1 hcs) hZ (hw _ (List.mem_of_getElem? (i := 120) rfl)) (hw _ (List.mem_of_getElem? (i := 2) rfl)) (by decide) (by decide)) q46a q46c (g := (mkF m 1 #[.val (.ref a1), .val (.int p2)] [(.ref a1)])) rfl (by rw [hml]; rfl) (Steps.refl _) (argsL := []) (rest := []) (lenOf own_pd7 rfl) rfl (by show 2 * 0 + _ ≤ _; exact Nat.le_of_eq rfl) (hb hby d22_1) (fun _ _ => ⟨rfl, e0, (by decide : 0 + 0 ≤ _), (by decide : 0 + 0 ≤ _)⟩)
  dsimp only [Pt.U, Pt.locs, Pt.cells, Pt.slots] at X46 l46 y46 z46 st46 hQ46
  subst l46 y46 z46
  obtain ⟨rfl, Nq46, e46⟩ := hQ46
  refine Go.tr st46 ?_
  have N46 := Fr.app N0 Nq46
  show Go p e below _ (T46.setTop (mkF m 4 #[.val (.ref a1), .val (.int p2)] [(.int (1 : Int32))]))
  refine g_if_eq X46 hx (hb hby d22_4) 16 7 (by decide) (by decide) rfl (fun hc4 => False.elim (absurd hc4 (by decide))) (fun hc4 => ?_)
  refine g_aloadN X46 hx (hb hby d22_7) 8 rfl (v := (.ref a1)) rfl rfl ?_
  obtain ⟨T47, X47, e47, st47⟩ := getF X46 hx hZ hown (host := "") (Or.inl (hw _ (List.mem_of_getElem? (i := 28) rfl))) Via.refl e46 F_value_a1 (g := (mkF m 8 #[.val (.ref a1), .val (.int p2)] [(.ref a1)])) rfl rfl (hb hby d22_8)
  refine Go.st st47 ?_
  show Go p e below _ (T47.setTop (mkF m 11 #[.val (.ref a1), .val (.int p2)] [(.ref vb)]))
  refine g_iloadN X47 hx (hb hby d22_11) 12 rfl (v := p2) rfl ?_
  obtain ⟨_, _, ⟨T48, L48, k48, n48⟩, -, X48, ⟨Lc48, hQ48, l48, y48, z48⟩, st48⟩ := Jvm.LawKit.callS X47 hx (y := (⟨"java/lang/StringLatin1", "charAt", "([BI)C"⟩ : MethodName)) hown (mvT hZ (hw _ (List.mem_of_getElem? (i := 121) rfl))) (mvT hZ (hw _ (List.mem_of_getElem? (i := 122) rfl))) (mvT hZ (hw _ (List.mem_of_getElem? (i := 35) rfl))) (mvT hZ (hw _ (List.mem_of_getElem? (i := 123) rfl))) (by decide) (backOf (W := 0) (rm24 l Z a0 hw [] vb p2 sf kb z vs x h0 n0 Z0 S_SIOOBE_FORMATTER A_vb hsf hp hu) hZ (hw _ (List.mem_of_getElem? (i := 123) rfl)) (hw _ (List.mem_of_getElem? (i := 35) rfl)) (by decide) (by decide)) (g := (mkF m 12 #[.val (.ref a1), .val (.int p2)] [(.int p2), (.ref vb)])) rfl (by rw [hml]; rfl) (argsL := [(.ref vb), (.int p2)]) (rest := []) (lenOf own_pd8 rfl) rfl (by show 2 * 0 + _ ≤ _; exact Nat.le_of_eq rfl) (hb hby d22_12) (fun _ _ => ⟨rfl, e47, (by decide : 0 + 0 ≤ _), (by decide : 0 + 0 ≤ _)⟩)
  dsimp only [Pt.U, Pt.locs, Pt.cells, Pt.slots] at X48 l48 y48 z48 st48 hQ48
  subst l48 y48 z48
  obtain ⟨rfl, Nq48, e48⟩ := hQ48
  refine Go.st st48 ?_
  have N48 := Fr.app N46 Nq48
  show Go p e below _ (T48.setTop (mkF m 15 #[.val (.ref a1), .val (.int p2)] [(.int (x &&& (255 : Int32)))]))
  refine Go.retN X48 hx hlk (t := .char) Bd.returns (by simp) (hb hby d22_15) (by decide) (by decide) ?_
  show Q22 Z a1 p2 cs sf vb kb z vs x h0 n0 _ T48.heap _
  rw [e48]
  exact ⟨(by rw [own_nc]), N48, rfl⟩
theorem own_pn_java_lang_StringUTF16 : plainName "java/lang/StringUTF16" = true := by first | (simp [plainName, overriddenIn]; done) | decide +kernel
theorem ef_zc (m : MethodId) (x0 : Addr) (x1 : Int32) (x2 : Addr) (x3 : Int32) (x4 : Int32) : entryFrame m #[(.ref x0), (.int x1), (.ref x2), (.int x3), (.int x4)] 7 = mkF m 0 #[.val (.ref x0), .val (.int x1), .val (.ref x2), .val (.int x3), .val (.int x4), .unset, .unset] [] := by first | (simp [entryFrame, mkF, argsToLocals, Value.category]; done) | rfl
theorem d5_0 : decode jdk_52_method_21_code 0 = .ok (.iconst 0, 1) := by decide +kernel
theorem d5_1 : decode jdk_52_method_21_code 1 = .ok (.istore 5, 2) := by decide +kernel
theorem d5_3 : decode jdk_52_method_21_code 3 = .ok (.iload 5, 2) := by decide +kernel
theorem d5_5 : decode jdk_52_method_21_code 5 = .ok (.iload 4, 2) := by decide +kernel
theorem d5_7 : decode jdk_52_method_21_code 7 = .ok (.if_icmp .ge 37, 3) := by decide +kernel
theorem d5_44 : decode jdk_52_method_21_code 44 = .ok (.iload 4, 2) := by decide +kernel
theorem d5_46 : decode jdk_52_method_21_code 46 = .ok (.ireturn, 1) := by decide +kernel
theorem d5_10 : decode jdk_52_method_21_code 10 = .ok (.aload_n 0, 1) := by decide +kernel
theorem d5_11 : decode jdk_52_method_21_code 11 = .ok (.iload_n 1, 1) := by decide +kernel
theorem d5_12 : decode jdk_52_method_21_code 12 = .ok (.caload, 1) := by decide +kernel
theorem d5_13 : decode jdk_52_method_21_code 13 = .ok (.istore 6, 2) := by decide +kernel
theorem d5_15 : decode jdk_52_method_21_code 15 = .ok (.iload 6, 2) := by decide +kernel
theorem d5_17 : decode jdk_52_method_21_code 17 = .ok (.sipush 255, 3) := by decide +kernel
theorem d5_20 : decode jdk_52_method_21_code 20 = .ok (.if_icmp .le 6, 3) := by decide +kernel
theorem d5_26 : decode jdk_52_method_21_code 26 = .ok (.aload_n 2, 1) := by decide +kernel
theorem d5_27 : decode jdk_52_method_21_code 27 = .ok (.iload_n 3, 1) := by decide +kernel
theorem d5_28 : decode jdk_52_method_21_code 28 = .ok (.iload 6, 2) := by decide +kernel
theorem d5_30 : decode jdk_52_method_21_code 30 = .ok (.i2b, 1) := by decide +kernel
theorem d5_31 : decode jdk_52_method_21_code 31 = .ok (.bastore, 1) := by decide +kernel
theorem d5_32 : decode jdk_52_method_21_code 32 = .ok (.iinc 1 1, 3) := by decide +kernel
theorem d5_35 : decode jdk_52_method_21_code 35 = .ok (.iinc 3 1, 3) := by decide +kernel
theorem d5_38 : decode jdk_52_method_21_code 38 = .ok (.iinc 5 1, 3) := by decide +kernel
theorem d5_41 : decode jdk_52_method_21_code 41 = .ok (.goto (-38), 3) := by decide +kernel
def Qzc (Z : State) (a1 : Addr) (a3 : Addr) (kc : ClassId) (kb : ClassId) (nz : Nat) (h0 : Heap) (n0 : Nat) (v : Option Value) (h : Heap) (L : List Loc) : Prop := v = some (.int (Int32.ofNat nz)) ∧ Fr n0 L ∧ Keep h0 h [a3] ∧ (Arv Z h a3 kb .byte (Int32.ofNat nz) (List.replicate nz (.int (0 : Int32))) (.int (0 : Int32)))
set_option maxRecDepth 65536 in
set_option maxHeartbeats 40000000 in
theorem rmzc (l : Launch) (Z : State) (a0 : Array Value) (hw : ∀ d ∈ tables_1, d.before a0 Z = true) (ws : List Jvm.Cond) (a1 : Addr) (a3 : Addr) (kc : ClassId) (kb : ClassId) (nz : Nat) (h0 : Heap) (n0 : Nat) (Z0 : n0 ≤ h0.size) (A_a1 : Arv Z h0 a1 kc .char (Int32.ofNat nz) (List.replicate nz (.int (0 : Int32))) (.int (0 : Int32))) (A_a3 : Arv Z h0 a3 kb .byte (Int32.ofNat nz) (List.replicate nz (.int (0 : Int32))) (.int (0 : Int32))) (g_a3 : n0 ≤ a3) (ne_a1_a3 : a1 ≠ a3) (hn : nz ≤ 4095) :
    MetFree l (⟨"java/lang/StringUTF16", "compress", "([CI[BII)I"⟩ : MethodName) (head1 (Jvm.Cond.code (⟨"java/lang/StringUTF16", "compress", "([CI[BII)I"⟩ : MethodName) jdk_52_method_21_code 7 (some .int) :: ws) ({ frames := 0, cells := 0, slots := 0, locals := 0 } : Room)) (fun a U => a = #[(.ref a1), (.int (0 : Int32)), (.ref a3), (.int (0 : Int32)), (.int (Int32.ofNat nz))] ∧ Z.Warmed39 U.vm ∧ U.heap = h0) (fun _ _ _ _ _ => True) (fun _ U o U' => ∃ v L, o = .returned v ∧ Qzc Z a1 a3 kc kb nz h0 n0 v U'.heap L ∧ FrameEnd U o U' L ({ frames := 0, cells := 0, slots := 0, locals := 0 } : Room).cells ({ frames := 0, cells := 0, slots := 0, locals := 0 } : Room).slots) := by
  refine MetFree.of_bodySF (plainFor_of_name own_pn_java_lang_StringUTF16) hisR ?_
  intro p e s m args below meth c s₁ Bd hml0 hP hK
  obtain ⟨rfl, hZ, hh⟩ := hP
  have hx := Bd.exec
  have hby := Bd.bytes
  have hlk := Bd.notSynchronized
  have hml : c.maxLocals = 7 := hml0
  have hown : s.vm.findClass "java/lang/StringUTF16" = some m.cls := findClass_of_methodNamed Bd.named
  have hnm := (name_of_methodNamed Bd.named Bd.method).1
  have X0 : Stand p l e ({ frames := 0, cells := 0, slots := 0, locals := 0 } : Room) s m #[(.ref a1), (.int (0 : Int32)), (.ref a3), (.int (0 : Int32)), (.int (Int32.ofNat nz))] below meth c s₁ [] 0 0 := Stand.of_body Bd
  have e0 : s₁.heap = h0 := by rw [← hh, Bd.state]; rfl
  have N0 := Fr.nil n0
  have K0 : Keep h0 h0 [a3] := Keep.refl _ _
  show Go p e below (KQ s below (Qzc Z a1 a3 kc kb nz h0 n0) ({ frames := 0, cells := 0, slots := 0, locals := 0 } : Room).cells ({ frames := 0, cells := 0, slots := 0, locals := 0 } : Room).slots) _
  refine Go.body (T := s₁) (σ := s₁) (g' := (mkF m 0 #[.val (.ref a1), .val (.int (0 : Int32)), .val (.ref a3), .val (.int (0 : Int32)), .val (.int (Int32.ofNat nz)), .unset, .unset] [])) (ef_zc m a1 (0 : Int32) a3 (0 : Int32) (Int32.ofNat nz)) ?_
  refine g_iconst X0 hx (hb hby d5_0) 1 rfl (0 : Int32) rfl ?_
  refine g_istore X0 hx (hb hby d5_1) 3 rfl #[.val (.ref a1), .val (.int (0 : Int32)), .val (.ref a3), .val (.int (0 : Int32)), .val (.int (Int32.ofNat nz)), .val (.int (0 : Int32)), .unset] rfl ?_
  have lp : ∀ tl : Nat, ∀ (i : Nat) (sl : Slot) {Ts49 : State} {lc49 : List Loc} {hs49 : Heap} (Xs49 : Stand p l e ({ frames := 0, cells := 0, slots := 0, locals := 0 } : Room) s m #[(.ref a1), (.int (0 : Int32)), (.ref a3), (.int (0 : Int32)), (.int (Int32.ofNat nz))] below meth c Ts49 lc49 0 0) (es49 : Ts49.heap = hs49) (Ns49 : Fr n0 lc49) (Ks49 : Keep h0 hs49 [a3]) (Zs49 : n0 ≤ hs49.size) (Arv_s49_0 : Arv Z hs49 a3 kb .byte (Int32.ofNat nz) (List.replicate nz (.int (0 : Int32))) (.int (0 : Int32))) (hsl : One sl), i + tl = nz → Go p e below (KQ s below (Qzc Z a1 a3 kc kb nz h0 n0) ({ frames := 0, cells := 0, slots := 0, locals := 0 } : Room).cells ({ frames := 0, cells := 0, slots := 0, locals := 0 } : Room).slots) (Ts49.setTop (mkF m 3 #[.val (.ref a1), .val (.int (Int32.ofNat i)), .val (.ref a3), .val (.int (Int32.ofNat i)), .val (.int (Int32.ofNat nz)), .val (.int (Int32.ofNat i)), sl] [])) := by
    intro tl
    induction tl with
    | zero => 
      intro i sl Ts49 lc49 hs49 Xs49 es49 Ns49 Ks49 Zs49 Arv_s49_0 hsl htl
      refine g_iload Xs49 hx (hb hby d5_3) 5 rfl (v := (Int32.ofNat i)) rfl ?_
      refine g_iload Xs49 hx (hb hby d5_5) 7 rfl (v := (Int32.ofNat nz)) rfl ?_
      refine g_icmp_ge Xs49 hx (hb hby d5_7) 44 10 (by decide) (by decide) rfl (fun hc7 => ?_) (fun hc7 => False.elim (absurd (own_lt (by omega) (by omega) hc7) (by omega)))
      refine g_iload Xs49 hx (hb hby d5_44) 46 rfl (v := (Int32.ofNat nz)) rfl ?_
      refine Go.retI Xs49 hx hlk Bd.returns (hb hby d5_46) (by decide) (by decide) ?_
      show Qzc Z a1 a3 kc kb nz h0 n0 _ Ts49.heap _
      rw [es49]
      exact ⟨rfl, Ns49, Ks49, Arv_s49_0⟩
    | succ tl ih => 
      intro i sl Ts49 lc49 hs49 Xs49 es49 Ns49 Ks49 Zs49 Arv_s49_0 hsl htl
      refine g_iload Xs49 hx (hb hby d5_3) 5 rfl (v := (Int32.ofNat i)) rfl ?_
      refine g_iload Xs49 hx (hb hby d5_5) 7 rfl (v := (Int32.ofNat nz)) rfl ?_
      refine g_icmp_ge Xs49 hx (hb hby d5_7) 44 10 (by decide) (by decide) rfl (fun hc7 => False.elim (hc7 (own_in (by omega) (by omega)).2)) (fun hc7 => ?_)
      refine g_aloadN Xs49 hx (hb hby d5_10) 11 rfl (v := (.ref a1)) rfl rfl ?_
      refine g_iloadN Xs49 hx (hb hby d5_11) 12 rfl (v := (Int32.ofNat i)) rfl ?_
      refine g_caload Xs49 hx (hb hby d5_12) 13 rfl hZ es49 (Arv.keep A_a1 Ks49 (ninS ne_a1_a3 nin0)) (own_in (by omega) (by omega)) (.int (0 : Int32)) (own_zg _ _ _) ?_
      refine g_istore Xs49 hx (hb hby d5_13) 15 rfl #[.val (.ref a1), .val (.int (Int32.ofNat i)), .val (.ref a3), .val (.int (Int32.ofNat i)), .val (.int (Int32.ofNat nz)), .val (.int (Int32.ofNat i)), .val (.int (0 : Int32))] (own_one hsl rfl rfl) ?_
      refine g_iload Xs49 hx (hb hby d5_15) 17 rfl (v := (0 : Int32)) rfl ?_
      refine g_sipush Xs49 hx (hb hby d5_17) 20 rfl (255 : Int32) rfl ?_
      refine g_icmp_le Xs49 hx (hb hby d5_20) 26 23 (by decide) (by decide) rfl (fun hc20 => ?_) (fun hc20 => False.elim (absurd hc20 (by decide)))
      refine g_aloadN Xs49 hx (hb hby d5_26) 27 rfl (v := (.ref a3)) rfl rfl ?_
      refine g_iloadN Xs49 hx (hb hby d5_27) 28 rfl (v := (Int32.ofNat i)) rfl ?_
      refine g_iload Xs49 hx (hb hby d5_28) 30 rfl (v := (0 : Int32)) rfl ?_
      refine g_i2b Xs49 hx (hb hby d5_30) 31 rfl (0 : Int32) (by decide) ?_
      obtain ⟨T51, h51, X51, e51, W51, B51, st51⟩ := g_bastore Xs49 hx (hb hby d5_31) hZ es49 Arv_s49_0 (own_in (by omega) (by omega)) (i := i) (own_cl (by omega)) (by rw [List.length_replicate]; omega)  (L := #[.val (.ref a1), .val (.int (Int32.ofNat i)), .val (.ref a3), .val (.int (Int32.ofNat i)), .val (.int (Int32.ofNat nz)), .val (.int (Int32.ofNat i)), .val (.int (0 : Int32))]) (S := [])
      refine Go.st st51 ?_
      have Av_a3_51 : Arv Z h51 a3 kb .byte (Int32.ofNat nz) (List.replicate nz (.int (0 : Int32))) (.int (0 : Int32)) := (by have q := B51; rw [show nar .byte (0 : Int32) = 0 from by decide, own_zset] at q; exact q)
      have K51 : Keep h0 h51 [a3] := Keep.wr Ks49 W51 (Or.inl (List.mem_of_getElem? (i := 0) rfl))
      have N51 := Fr.snoc X51 Ns49 g_a3
      have Zs51 : n0 ≤ h51.size := by rw [W51.size]; exact Zs49
      show Go p e below _ (T51.setTop (mkF m 32 #[.val (.ref a1), .val (.int (Int32.ofNat i)), .val (.ref a3), .val (.int (Int32.ofNat i)), .val (.int (Int32.ofNat nz)), .val (.int (Int32.ofNat i)), .val (.int (0 : Int32))] []))
      refine g_iinc X51 hx (hb hby d5_32) 35 rfl (x := (Int32.ofNat i)) rfl (Int32.ofNat (i + 1)) (own_up i) #[.val (.ref a1), .val (.int (Int32.ofNat (i + 1))), .val (.ref a3), .val (.int (Int32.ofNat i)), .val (.int (Int32.ofNat nz)), .val (.int (Int32.ofNat i)), .val (.int (0 : Int32))] rfl ?_
      refine g_iinc X51 hx (hb hby d5_35) 38 rfl (x := (Int32.ofNat i)) rfl (Int32.ofNat (i + 1)) (own_up i) #[.val (.ref a1), .val (.int (Int32.ofNat (i + 1))), .val (.ref a3), .val (.int (Int32.ofNat (i + 1))), .val (.int (Int32.ofNat nz)), .val (.int (Int32.ofNat i)), .val (.int (0 : Int32))] rfl ?_
      refine g_iinc X51 hx (hb hby d5_38) 41 rfl (x := (Int32.ofNat i)) rfl (Int32.ofNat (i + 1)) (own_up i) #[.val (.ref a1), .val (.int (Int32.ofNat (i + 1))), .val (.ref a3), .val (.int (Int32.ofNat (i + 1))), .val (.int (Int32.ofNat nz)), .val (.int (Int32.ofNat (i + 1))), .val (.int (0 : Int32))] rfl ?_
      refine g_goto X51 hx (hb hby d5_41) 3 (by decide) (by decide) ?_
      exact ih (i + 1) (.val (.int (0 : Int32))) (own_mono X51 (by decide) (by decide)) e51 N51 K51 Zs51 Av_a3_51 (One.val rfl) (by omega)
  exact lp nz 0 .unset (own_mono X0 (by decide) (by decide)) e0 N0 K0 Z0 A_a3 One.u (by omega)
theorem ef_zca (m : MethodId) (x0 : Addr) (x1 : Int32) (x2 : Int32) : entryFrame m #[(.ref x0), (.int x1), (.int x2)] 6 = mkF m 0 #[.val (.ref x0), .val (.int x1), .val (.int x2), .unset, .unset, .unset] [] := by first | (simp [entryFrame, mkF, argsToLocals, Value.category]; done) | rfl
theorem d4_0 : decode jdk_52_method_16_code 0 = .ok (.iload_n 2, 1) := by decide +kernel
theorem d4_1 : decode jdk_52_method_16_code 1 = .ok (.newarray .byte, 2) := by decide +kernel
theorem d4_3 : decode jdk_52_method_16_code 3 = .ok (.astore_n 3, 1) := by decide +kernel
theorem d4_4 : decode jdk_52_method_16_code 4 = .ok (.aload_n 0, 1) := by decide +kernel
theorem d4_5 : decode jdk_52_method_16_code 5 = .ok (.iload_n 1, 1) := by decide +kernel
theorem d4_6 : decode jdk_52_method_16_code 6 = .ok (.aload_n 3, 1) := by decide +kernel
theorem d4_7 : decode jdk_52_method_16_code 7 = .ok (.iconst 0, 1) := by decide +kernel
theorem d4_8 : decode jdk_52_method_16_code 8 = .ok (.iload_n 2, 1) := by decide +kernel
theorem own_pd9 : parseMethodDescriptor "([CI[BII)I" = some ⟨[(.array .char), .int, (.array .byte), .int, .int], some .int⟩ := by decide +kernel
theorem d4_9 : decode jdk_52_method_16_code 9 = .ok (.invokestatic 115, 3) := by decide +kernel
theorem d4_12 : decode jdk_52_method_16_code 12 = .ok (.istore 4, 2) := by decide +kernel
theorem d4_14 : decode jdk_52_method_16_code 14 = .ok (.iload 4, 2) := by decide +kernel
theorem d4_16 : decode jdk_52_method_16_code 16 = .ok (.iload_n 2, 1) := by decide +kernel
theorem d4_17 : decode jdk_52_method_16_code 17 = .ok (.if_icmp .eq 40, 3) := by decide +kernel
theorem d4_57 : decode jdk_52_method_16_code 57 = .ok (.aload_n 3, 1) := by decide +kernel
theorem d4_58 : decode jdk_52_method_16_code 58 = .ok (.areturn, 1) := by decide +kernel
def Qzca (Z : State) (a1 : Addr) (kc : ClassId) (nz : Nat) (h0 : Heap) (n0 : Nat) (v : Option Value) (h : Heap) (L : List Loc) : Prop := ∃ b : Addr, ∃ kb : ClassId, v = some (.ref b) ∧ Fr n0 L ∧ Keep h0 h [] ∧ h0.size ≤ b ∧ (Exa Z h b "[B") ∧ (Arv Z h b kb .byte (Int32.ofNat nz) (List.replicate nz (.int (0 : Int32))) (.int (0 : Int32)))
set_option maxRecDepth 65536 in
set_option maxHeartbeats 40000000 in
theorem rmzca (l : Launch) (Z : State) (a0 : Array Value) (hw : ∀ d ∈ tables_1, d.before a0 Z = true) (ws : List Jvm.Cond) (a1 : Addr) (kc : ClassId) (nz : Nat) (h0 : Heap) (n0 : Nat) (Z0 : n0 ≤ h0.size) (A_a1 : Arv Z h0 a1 kc .char (Int32.ofNat nz) (List.replicate nz (.int (0 : Int32))) (.int (0 : Int32))) (hn : nz ≤ 4095) :
    MetFree l (⟨"java/lang/StringUTF16", "compress", "([CII)[B"⟩ : MethodName) (head1 (Jvm.Cond.code (⟨"java/lang/StringUTF16", "compress", "([CII)[B"⟩ : MethodName) jdk_52_method_16_code 6 (some (.array .byte)) :: ws) ({ frames := 1, cells := 1, slots := 4095, locals := 18 } : Room)) (fun a U => a = #[(.ref a1), (.int (0 : Int32)), (.int (Int32.ofNat nz))] ∧ Z.Warmed39 U.vm ∧ U.heap = h0) (fun _ _ _ _ _ => True) (fun _ U o U' => ∃ v L, o = .returned v ∧ Qzca Z a1 kc nz h0 n0 v U'.heap L ∧ FrameEnd U o U' L ({ frames := 1, cells := 1, slots := 4095, locals := 18 } : Room).cells ({ frames := 1, cells := 1, slots := 4095, locals := 18 } : Room).slots) := by
  refine MetFree.of_bodySF (plainFor_of_name own_pn_java_lang_StringUTF16) hisR ?_
  intro p e s m args below meth c s₁ Bd hml0 hP hK
  obtain ⟨rfl, hZ, hh⟩ := hP
  have hx := Bd.exec
  have hby := Bd.bytes
  have hlk := Bd.notSynchronized
  have hml : c.maxLocals = 6 := hml0
  have hown : s.vm.findClass "java/lang/StringUTF16" = some m.cls := findClass_of_methodNamed Bd.named
  have hnm := (name_of_methodNamed Bd.named Bd.method).1
  have X0 : Stand p l e ({ frames := 1, cells := 1, slots := 4095, locals := 18 } : Room) s m #[(.ref a1), (.int (0 : Int32)), (.int (Int32.ofNat nz))] below meth c s₁ [] 0 0 := Stand.of_body Bd
  have e0 : s₁.heap = h0 := by rw [← hh, Bd.state]; rfl
  have N0 := Fr.nil n0
  have K0 : Keep h0 h0 [] := Keep.refl _ _
  show Go p e below (KQ s below (Qzca Z a1 kc nz h0 n0) ({ frames := 1, cells := 1, slots := 4095, locals := 18 } : Room).cells ({ frames := 1, cells := 1, slots := 4095, locals := 18 } : Room).slots) _
  refine Go.body (T := s₁) (σ := s₁) (g' := (mkF m 0 #[.val (.ref a1), .val (.int (0 : Int32)), .val (.int (Int32.ofNat nz)), .unset, .unset, .unset] [])) (ef_zca m a1 (0 : Int32) (Int32.ofNat nz)) ?_
  refine g_iloadN X0 hx (hb hby d4_0) 1 rfl (v := (Int32.ofNat nz)) rfl ?_
  obtain ⟨T53, h53, cA53, X53, e53, E53, A53, XA53, st53⟩ := newPE X0 hx hZ (aty := .byte) (hw _ (List.mem_of_getElem? (i := 19) rfl)) e0 (g := (mkF m 1 #[.val (.ref a1), .val (.int (0 : Int32)), .val (.int (Int32.ofNat nz)), .unset, .unset, .unset] [(.int (Int32.ofNat nz))])) rfl (hb hby d4_1) rfl (own_in (N := nz + 1) (by omega) (by omega)).1 (cap := 4095) (by rw [own_cl (by omega)]; omega) (by decide) (by decide) (by decide) (ad := "[B") (by decide)
  refine Go.st st53 ?_
  obtain ⟨ob, q53⟩ : ∃ z, z = h0.size := ⟨_, rfl⟩
  rw [← q53] at A53 XA53 ⊢
  have g_ob : n0 ≤ ob := Nat.le_trans Z0 (Nat.le_of_eq q53.symm)
  have mh_ob : h0.size ≤ ob := Nat.le_trans K0.1 (Nat.le_of_eq q53.symm)
  have K53 : Keep h0 h53 [] := Keep.ext K0 E53
  have Zs53 : n0 ≤ h53.size := Nat.le_trans Z0 E53.1
  have Av_ob : Arv Z h53 ob cA53 .byte (Int32.ofNat nz) (List.replicate nz (.int (0 : Int32))) (.int (0 : Int32)) := Arv.pad (Arv.new A53 (own_in (N := nz + 1) (by omega) (by omega)).1) (pad_rep [] (.int (0 : Int32)) nz)
  show Go p e below _ (T53.setTop (mkF m 3 #[.val (.ref a1), .val (.int (0 : Int32)), .val (.int (Int32.ofNat nz)), .unset, .unset, .unset] [(.ref ob)]))
  refine g_astoreN X53 hx (hb hby d4_3) 4 rfl rfl #[.val (.ref a1), .val (.int (0 : Int32)), .val (.int (Int32.ofNat nz)), .val (.ref ob), .unset, .unset] rfl ?_
  refine g_aloadN X53 hx (hb hby d4_4) 5 rfl (v := (.ref a1)) rfl rfl ?_
  refine g_iloadN X53 hx (hb hby d4_5) 6 rfl (v := (0 : Int32)) rfl ?_
  refine g_aloadN X53 hx (hb hby d4_6) 7 rfl (v := (.ref ob)) rfl rfl ?_
  refine g_iconst X53 hx (hb hby d4_7) 8 rfl (0 : Int32) rfl ?_
  refine g_iloadN X53 hx (hb hby d4_8) 9 rfl (v := (Int32.ofNat nz)) rfl ?_
  obtain ⟨_, _, ⟨T55, L55, k55, n55⟩, -, X55, ⟨Lc55, hQ55, l55, y55, z55⟩, st55⟩ := Jvm.LawKit.callS X53 hx (y := (⟨"java/lang/StringUTF16", "compress", "([CI[BII)I"⟩ : MethodName)) hown (mvT hZ (hw _ (List.mem_of_getElem? (i := 20) rfl))) (mvT hZ (hw _ (List.mem_of_getElem? (i := 21) rfl))) (mvT hZ (hw _ (List.mem_of_getElem? (i := 17) rfl))) (mvT hZ (hw _ (List.mem_of_getElem? (i := 22) rfl))) (by decide) (backOf (W := 0) (rmzc l Z a0 hw [] a1 ob kc cA53 nz h53 n0 Zs53 (Arv.keep A_a1 K53 nin0) Av_ob g_ob (Nat.ne_of_lt (Nat.lt_of_lt_of_le A_a1.lt mh_ob)) hn) hZ (hw _ (List.mem_of_getElem? (i := 22) rfl)) (hw _ (List.mem_of_getElem? (i := 17) rfl)) (by decide) (by decide)) (g := (mkF m 9 #[.val (.ref a1), .val (.int (0 : Int32)), .val (.int (Int32.ofNat nz)), .val (.ref ob), .unset, .unset] [(.int (Int32.ofNat nz)), (.int (0 : Int32)), (.ref ob), (.int (0 : Int32)), (.ref a1)])) rfl (by rw [hml]; rfl) (argsL := [(.ref a1), (.int (0 : Int32)), (.ref ob), (.int (0 : Int32)), (.int (Int32.ofNat nz))]) (rest := []) (lenOf own_pd9 rfl) rfl (by show 2 * 0 + _ ≤ _; exact Nat.le_of_eq rfl) (hb hby d4_9) (fun _ _ => ⟨rfl, e53, (by decide : 1 + 0 ≤ _), (by decide : 4095 + 0 ≤ _)⟩)
  dsimp only [Pt.U, Pt.locs, Pt.cells, Pt.slots] at X55 l55 y55 z55 st55 hQ55
  subst l55 y55 z55
  obtain ⟨rfl, Nq55, Kq55, f55_0⟩ := hQ55
  refine Go.st st55 ?_
  have N55 := Fr.app N0 Nq55
  have E_ob_56 : Exa Z T55.heap ob "[B" := Exa.keep XA53 Kq55
  have K55 : Keep h0 T55.heap [] := Keep.trans K53 Kq55 (allS (Or.inr mh_ob) all0)
  have Zs55 : n0 ≤ T55.heap.size := Nat.le_trans Zs53 Kq55.1
  show Go p e below _ (T55.setTop (mkF m 12 #[.val (.ref a1), .val (.int (0 : Int32)), .val (.int (Int32.ofNat nz)), .val (.ref ob), .unset, .unset] [(.int (Int32.ofNat nz))]))
  refine g_istore X55 hx (hb hby d4_12) 14 rfl #[.val (.ref a1), .val (.int (0 : Int32)), .val (.int (Int32.ofNat nz)), .val (.ref ob), .val (.int (Int32.ofNat nz)), .unset] rfl ?_
  refine g_iload X55 hx (hb hby d4_14) 16 rfl (v := (Int32.ofNat nz)) rfl ?_
  refine g_iloadN X55 hx (hb hby d4_16) 17 rfl (v := (Int32.ofNat nz)) rfl ?_
  refine g_icmp_eq X55 hx (hb hby d4_17) 57 20 (by decide) (by decide) rfl (fun hc17 => ?_) (fun hc17 => False.elim (hc17 rfl))
  refine g_aloadN X55 hx (hb hby d4_57) 58 rfl (v := (.ref ob)) rfl rfl ?_
  refine Go.retA X55 hx hlk Bd.returns rfl rfl (hb hby d4_58) (by decide) (by decide) ?_
  show Qzca Z a1 kc nz h0 n0 _ T55.heap _
  exact ⟨ob, cA53, rfl, N55, K55, mh_ob, E_ob_56, f55_0⟩
theorem ef_cfz (m : MethodId) (x0 : Addr) (x1 : Int32) : entryFrame m #[(.ref x0), (.int x1)] 2 = mkF m 0 #[.val (.ref x0), .val (.int x1)] [] := by first | (simp [entryFrame, mkF, argsToLocals, Value.category]; done) | rfl
theorem d6_0 : decode jdk_52_method_15_code 0 = .ok (.iload_n 1, 1) := by decide +kernel
theorem d6_1 : decode jdk_52_method_15_code 1 = .ok (.aload_n 0, 1) := by decide +kernel
theorem d6_2 : decode jdk_52_method_15_code 2 = .ok (.arraylength, 1) := by decide +kernel
theorem d6_3 : decode jdk_52_method_15_code 3 = .ok (.isub, 1) := by decide +kernel
theorem d6_4 : decode jdk_52_method_15_code 4 = .ok (.bipush 31, 2) := by decide +kernel
theorem d6_6 : decode jdk_52_method_15_code 6 = .ok (.iushr, 1) := by decide +kernel
theorem d6_7 : decode jdk_52_method_15_code 7 = .ok (.i2b, 1) := by decide +kernel
theorem d6_8 : decode jdk_52_method_15_code 8 = .ok (.ireturn, 1) := by decide +kernel
def Qcfz (Z : State) (a1 : Addr) (kb : ClassId) (vs : List Value) (nz : Nat) (h0 : Heap) (n0 : Nat) (v : Option Value) (h : Heap) (L : List Loc) : Prop := v = some (.int (0 : Int32)) ∧ Fr n0 L ∧ h = h0
set_option maxRecDepth 65536 in
set_option maxHeartbeats 40000000 in
theorem rmcfz (l : Launch) (Z : State) (a0 : Array Value) (hw : ∀ d ∈ tables_1, d.before a0 Z = true) (ws : List Jvm.Cond) (a1 : Addr) (kb : ClassId) (vs : List Value) (nz : Nat) (h0 : Heap) (n0 : Nat) (Z0 : n0 ≤ h0.size) (A_a1 : Arv Z h0 a1 kb .byte (Int32.ofNat nz) vs (.int (0 : Int32))) :
    MetFree l (⟨"java/lang/StringUTF16", "coderFromArrayLen", "([BI)B"⟩ : MethodName) (head1 (Jvm.Cond.code (⟨"java/lang/StringUTF16", "coderFromArrayLen", "([BI)B"⟩ : MethodName) jdk_52_method_15_code 2 (some .byte) :: ws) ({ frames := 0, cells := 0, slots := 0, locals := 0 } : Room)) (fun a U => a = #[(.ref a1), (.int (Int32.ofNat nz))] ∧ Z.Warmed39 U.vm ∧ U.heap = h0) (fun _ _ _ _ _ => True) (fun _ U o U' => ∃ v L, o = .returned v ∧ Qcfz Z a1 kb vs nz h0 n0 v U'.heap L ∧ FrameEnd U o U' L ({ frames := 0, cells := 0, slots := 0, locals := 0 } : Room).cells ({ frames := 0, cells := 0, slots := 0, locals := 0 } : Room).slots) := by
  refine MetFree.of_bodySF (plainFor_of_name own_pn_java_lang_StringUTF16) hisR ?_
  intro p e s m args below meth c s₁ Bd hml0 hP hK
  obtain ⟨rfl, hZ, hh⟩ := hP
  have hx := Bd.exec
  have hby := Bd.bytes
  have hlk := Bd.notSynchronized
  have hml : c.maxLocals = 2 := hml0
  have hown : s.vm.findClass "java/lang/StringUTF16" = some m.cls := findClass_of_methodNamed Bd.named
  have hnm := (name_of_methodNamed Bd.named Bd.method).1
  have X0 : Stand p l e ({ frames := 0, cells := 0, slots := 0, locals := 0 } : Room) s m #[(.ref a1), (.int (Int32.ofNat nz))] below meth c s₁ [] 0 0 := Stand.of_body Bd
  have e0 : s₁.heap = h0 := by rw [← hh, Bd.state]; rfl
  have N0 := Fr.nil n0
  show Go p e below (KQ s below (Qcfz Z a1 kb vs nz h0 n0) ({ frames := 0, cells := 0, slots := 0, locals := 0 } : Room).cells ({ frames := 0, cells := 0, slots := 0, locals := 0 } : Room).slots) _
  refine Go.body (T := s₁) (σ := s₁) (g' := (mkF m 0 #[.val (.ref a1), .val (.int (Int32.ofNat nz))] [])) (ef_cfz m a1 (Int32.ofNat nz)) ?_
  refine g_iloadN X0 hx (hb hby d6_0) 1 rfl (v := (Int32.ofNat nz)) rfl ?_
  refine g_aloadN X0 hx (hb hby d6_1) 2 rfl (v := (.ref a1)) rfl rfl ?_
  refine g_alen X0 hx (hb hby d6_2) 3 rfl hZ e0 A_a1 ?_
  refine g_isub X0 hx (hb hby d6_3) 4 rfl (0 : Int32) (Int32.sub_self _) ?_
  refine g_bipush X0 hx (hb hby d6_4) 6 rfl (31 : Int32) rfl ?_
  refine g_iushr X0 hx (hb hby d6_6) 7 rfl (XT.ushr (0 : Int32) (31 : Int32)) rfl ?_
  refine g_i2b X0 hx (hb hby d6_7) 8 rfl (XT.ushr (0 : Int32) (31 : Int32)).toInt8.toInt32 rfl ?_
  refine Go.retN X0 hx hlk (t := .byte) Bd.returns (by simp) (hb hby d6_8) (by decide) (by decide) ?_
  show Qcfz Z a1 kb vs nz h0 n0 _ s₁.heap _
  rw [e0]
  exact ⟨(by decide), N0, rfl⟩
theorem ef_sVz (m : MethodId) (x0 : Addr) (x1 : Addr) (x2 : Int32) (x3 : Int32) : entryFrame m #[(.ref x0), (.ref x1), (.int x2), (.int x3), .null] 6 = mkF m 0 #[.val (.ref x0), .val (.ref x1), .val (.int x2), .val (.int x3), .val .null, .unset] [] := by first | (simp [entryFrame, mkF, argsToLocals, Value.category]; done) | rfl
theorem d2_27 : decode jdk_42_method_149_code 27 = .ok (.getstatic 38, 3) := by decide +kernel
theorem d2_30 : decode jdk_42_method_149_code 30 = .ok (.ifCond .eq 28, 3) := by decide +kernel
theorem d2_33 : decode jdk_42_method_149_code 33 = .ok (.aload_n 1, 1) := by decide +kernel
theorem d2_34 : decode jdk_42_method_149_code 34 = .ok (.iload_n 2, 1) := by decide +kernel
theorem d2_35 : decode jdk_42_method_149_code 35 = .ok (.iload_n 3, 1) := by decide +kernel
theorem own_pd10 : parseMethodDescriptor "([CII)[B" = some ⟨[(.array .char), .int, .int], some (.array .byte)⟩ := by decide +kernel
theorem d2_36 : decode jdk_42_method_149_code 36 = .ok (.invokestatic 177, 3) := by decide +kernel
theorem d2_39 : decode jdk_42_method_149_code 39 = .ok (.astore 5, 2) := by decide +kernel
theorem d2_41 : decode jdk_42_method_149_code 41 = .ok (.aload_n 0, 1) := by decide +kernel
theorem d2_42 : decode jdk_42_method_149_code 42 = .ok (.aload 5, 2) := by decide +kernel
theorem d2_44 : decode jdk_42_method_149_code 44 = .ok (.iload_n 3, 1) := by decide +kernel
theorem own_pd11 : parseMethodDescriptor "([BI)B" = some ⟨[(.array .byte), .int], some .byte⟩ := by decide +kernel
theorem d2_45 : decode jdk_42_method_149_code 45 = .ok (.invokestatic 47, 3) := by decide +kernel
theorem d2_48 : decode jdk_42_method_149_code 48 = .ok (.putfield 15, 3) := by decide +kernel
theorem d2_51 : decode jdk_42_method_149_code 51 = .ok (.aload_n 0, 1) := by decide +kernel
theorem d2_52 : decode jdk_42_method_149_code 52 = .ok (.aload 5, 2) := by decide +kernel
theorem d2_54 : decode jdk_42_method_149_code 54 = .ok (.putfield 9, 3) := by decide +kernel
theorem d2_57 : decode jdk_42_method_149_code 57 = .ok (.return_, 1) := by decide +kernel
def QsVz (Z : State) (a1 : Addr) (a2 : Addr) (cs : Int32) (kc : ClassId) (nz : Nat) (h0 : Heap) (n0 : Nat) (v : Option Value) (h : Heap) (L : List Loc) : Prop := ∃ vb : Addr, ∃ kb : ClassId, v = none ∧ Fr n0 L ∧ Keep h0 h [a1] ∧ h0.size ≤ vb ∧ (Exa Z h a1 "java/lang/String") ∧ (Fld Z h a1 "java/lang/String" "value" "[B" (.ref vb)) ∧ (Fld Z h a1 "java/lang/String" "coder" "B" (.int (0 : Int32))) ∧ (Exa Z h vb "[B") ∧ (Arv Z h vb kb .byte (Int32.ofNat nz) (List.replicate nz (.int (0 : Int32))) (.int (0 : Int32)))
set_option maxRecDepth 65536 in
set_option maxHeartbeats 40000000 in
theorem rmsVz (l : Launch) (Z : State) (a0 : Array Value) (hw : ∀ d ∈ tables_1, d.before a0 Z = true) (ws : List Jvm.Cond) (a1 : Addr) (a2 : Addr) (cs : Int32) (kc : ClassId) (nz : Nat) (h0 : Heap) (n0 : Nat) (Z0 : n0 ≤ h0.size) (S_COMPACT_STRINGS : Sta Z h0 "java/lang/String" "COMPACT_STRINGS" "Z" (.int cs)) (E_a1 : Exa Z h0 a1 "java/lang/String") (g_a1 : n0 ≤ a1) (F_value_a1 : Fld Z h0 a1 "java/lang/String" "value" "[B" .null) (F_coder_a1 : Fld Z h0 a1 "java/lang/String" "coder" "B" (.int (0 : Int32))) (A_a2 : Arv Z h0 a2 kc .char (Int32.ofNat nz) (List.replicate nz (.int (0 : Int32))) (.int (0 : Int32))) (ne_a1_a2 : a1 ≠ a2) (hcs : ¬ cs = 0) (hn : nz ≤ 4095) (hpos : 0 < nz) :
    MetFree l (⟨"java/lang/String", "<init>", "([CIILjava/lang/Void;)V"⟩ : MethodName) (head1 (Jvm.Cond.code (⟨"java/lang/String", "<init>", "([CIILjava/lang/Void;)V"⟩ : MethodName) jdk_42_method_149_code 6 none :: ws) ({ frames := 2, cells := 1, slots := 4095, locals := 35 } : Room)) (fun a U => a = #[(.ref a1), (.ref a2), (.int (0 : Int32)), (.int (Int32.ofNat nz)), .null] ∧ Z.Warmed39 U.vm ∧ U.heap = h0) (fun _ _ _ _ _ => True) (fun _ U o U' => ∃ v L, o = .returned v ∧ QsVz Z a1 a2 cs kc nz h0 n0 v U'.heap L ∧ FrameEnd U o U' L ({ frames := 2, cells := 1, slots := 4095, locals := 35 } : Room).cells ({ frames := 2, cells := 1, slots := 4095, locals := 35 } : Room).slots) := by
  refine MetFree.of_bodySF (plainFor_of_name own_pn_java_lang_String) hisR ?_
  intro p e s m args below meth c s₁ Bd hml0 hP hK
  obtain ⟨rfl, hZ, hh⟩ := hP
  have hx := Bd.exec
  have hby := Bd.bytes
  have hlk := Bd.notSynchronized
  have hml : c.maxLocals = 6 := hml0
  have hown : s.vm.findClass "java/lang/String" = some m.cls := findClass_of_methodNamed Bd.named
  have hnm := (name_of_methodNamed Bd.named Bd.method).1
  have X0 : Stand p l e ({ frames := 2, cells := 1, slots := 4095, locals := 35 } : Room) s m #[(.ref a1), (.ref a2), (.int (0 : Int32)), (.int (Int32.ofNat nz)), .null] below meth c s₁ [] 0 0 := Stand.of_body Bd
  have e0 : s₁.heap = h0 := by rw [← hh, Bd.state]; rfl
  have N0 := Fr.nil n0
  have K0 : Keep h0 h0 [a1] := Keep.refl _ _
  show Go p e below (KQ s below (QsVz Z a1 a2 cs kc nz h0 n0) ({ frames := 2, cells := 1, slots := 4095, locals := 35 } : Room).cells ({ frames := 2, cells := 1, slots := 4095, locals := 35 } : Room).slots) _
  refine Go.body (T := s₁) (σ := s₁) (g' := (mkF m 0 #[.val (.ref a1), .val (.ref a2), .val (.int (0 : Int32)), .val (.int (Int32.ofNat nz)), .val .null, .unset] [])) (ef_sVz m a1 a2 (0 : Int32) (Int32.ofNat nz)) ?_
  refine g_aloadN X0 hx (hb hby d2_0) 1 rfl (v := (.ref a1)) rfl rfl ?_
  obtain ⟨T58, X58, e58, st58⟩ := initO X0 hx hZ hown (hw _ (List.mem_of_getElem? (i := 11) rfl)) (hw _ (List.mem_of_getElem? (i := 12) rfl)) (hw _ (List.mem_of_getElem? (i := 13) rfl)) e0 (g := (mkF m 1 #[.val (.ref a1), .val (.ref a2), .val (.int (0 : Int32)), .val (.int (Int32.ofNat nz)), .val .null, .unset] [(.ref a1)])) rfl (by rw [hml]; rfl) rfl (hb hby d2_1) (by decide) (W := 0) (by show 2 * 0 + _ ≤ _; exact Nat.le_of_eq rfl) (by decide)
  refine Go.st st58 ?_
  show Go p e below _ (T58.setTop (mkF m 4 #[.val (.ref a1), .val (.ref a2), .val (.int (0 : Int32)), .val (.int (Int32.ofNat nz)), .val .null, .unset] []))
  refine g_iloadN X58 hx (hb hby d2_4) 5 rfl (v := (Int32.ofNat nz)) rfl ?_
  refine g_if_ne X58 hx (hb hby d2_5) 27 8 (by decide) (by decide) rfl (fun hc5 => ?_) (fun hc5 => False.elim (absurd (own_eqn (j := 0) (by omega) (by omega) hc5) (by omega)))
  obtain ⟨T59, X59, e59, st59⟩ := getS2 X58 hx hZ hown (host := "") (Or.inl (hw _ (List.mem_of_getElem? (i := 14) rfl))) Via.refl e58 S_COMPACT_STRINGS (g := (mkF m 27 #[.val (.ref a1), .val (.ref a2), .val (.int (0 : Int32)), .val (.int (Int32.ofNat nz)), .val .null, .unset] [])) rfl (hb hby d2_27)
  refine Go.st st59 ?_
  show Go p e below _ (T59.setTop (mkF m 30 #[.val (.ref a1), .val (.ref a2), .val (.int (0 : Int32)), .val (.int (Int32.ofNat nz)), .val .null, .unset] [(.int cs)]))
  refine g_if_eq X59 hx (hb hby d2_30) 58 33 (by decide) (by decide) rfl (fun hc30 => False.elim (hcs hc30)) (fun hc30 => ?_)
  refine g_aloadN X59 hx (hb hby d2_33) 34 rfl (v := (.ref a2)) rfl rfl ?_
  refine g_iloadN X59 hx (hb hby d2_34) 35 rfl (v := (0 : Int32)) rfl ?_
  refine g_iloadN X59 hx (hb hby d2_35) 36 rfl (v := (Int32.ofNat nz)) rfl ?_
  obtain ⟨_, _, ⟨T60, L60, k60, n60⟩, -, X60, ⟨Lc60, hQ60, l60, y60, z60⟩, st60⟩ := Jvm.LawKit.callS X59 hx (y := (⟨"java/lang/StringUTF16", "compress", "([CII)[B"⟩ : MethodName)) hown (mvT hZ (hw _ (List.mem_of_getElem? (i := 15) rfl))) (mvT hZ (hw _ (List.mem_of_getElem? (i := 16) rfl))) (mvT hZ (hw _ (List.mem_of_getElem? (i := 17) rfl))) (mvT hZ (hw _ (List.mem_of_getElem? (i := 18) rfl))) (by decide) (backOf (W := 0) (rmzca l Z a0 hw [] a2 kc nz h0 n0 Z0 A_a2 hn) hZ (hw _ (List.mem_of_getElem? (i := 18) rfl)) (hw _ (List.mem_of_getElem? (i := 17) rfl)) (by decide) (by decide)) (g := (mkF m 36 #[.val (.ref a1), .val (.ref a2), .val (.int (0 : Int32)), .val (.int (Int32.ofNat nz)), .val .null, .unset] [(.int (Int32.ofNat nz)), (.int (0 : Int32)), (.ref a2)])) rfl (by rw [hml]; rfl) (argsL := [(.ref a2), (.int (0 : Int32)), (.int (Int32.ofNat nz))]) (rest := []) (lenOf own_pd10 rfl) rfl (by show 2 * 0 + _ ≤ _; exact Nat.le_of_eq rfl) (hb hby d2_36) (fun _ _ => ⟨rfl, e59, (by decide : 0 + 1 ≤ _), (by decide : 0 + 4095 ≤ _)⟩)
  dsimp only [Pt.U, Pt.locs, Pt.cells, Pt.slots] at X60 l60 y60 z60 st60 hQ60
  subst l60 y60 z60
  obtain ⟨ovb, okb, rfl, Nq60, Kq60, f60_0, f60_1, f60_2⟩ := hQ60
  refine Go.st st60 ?_
  have N60 := Fr.app N0 Nq60
  have S_COMPACT_STRINGS_61 : Sta Z T60.heap "java/lang/String" "COMPACT_STRINGS" "Z" (.int cs) := own_Sta_keep S_COMPACT_STRINGS Kq60 all0
  have E_a1_61 : Exa Z T60.heap a1 "java/lang/String" := Exa.keep E_a1 Kq60
  have F_value_a1_61 : Fld Z T60.heap a1 "java/lang/String" "value" "[B" .null := Fld.keep F_value_a1 Kq60 nin0
  have F_coder_a1_61 : Fld Z T60.heap a1 "java/lang/String" "coder" "B" (.int (0 : Int32)) := Fld.keep F_coder_a1 Kq60 nin0
  have ne_a1_ovb : a1 ≠ ovb := Nat.ne_of_lt (Nat.lt_of_lt_of_le E_a1.lt f60_0)
  have g_ovb : n0 ≤ ovb := Nat.le_trans Z0 f60_0
  have mh_ovb : h0.size ≤ ovb := Nat.le_trans K0.1 f60_0
  have K60 : Keep h0 T60.heap [a1] := Keep.trans K0 Kq60 all0
  have Zs60 : n0 ≤ T60.heap.size := Nat.le_trans Z0 Kq60.1
  show Go p e below _ (T60.setTop (mkF m 39 #[.val (.ref a1), .val (.ref a2), .val (.int (0 : Int32)), .val (.int (Int32.ofNat nz)), .val .null, .unset] [(.ref ovb)]))
  refine g_astore X60 hx (hb hby d2_39) 41 rfl rfl #[.val (.ref a1), .val (.ref a2), .val (.int (0 : Int32)), .val (.int (Int32.ofNat nz)), .val .null, .val (.ref ovb)] rfl ?_
  refine g_aloadN X60 hx (hb hby d2_41) 42 rfl (v := (.ref a1)) rfl rfl ?_
  refine g_aload X60 hx (hb hby d2_42) 44 rfl (v := (.ref ovb)) rfl rfl ?_
  refine g_iloadN X60 hx (hb hby d2_44) 45 rfl (v := (Int32.ofNat nz)) rfl ?_
  obtain ⟨_, _, ⟨T62, L62, k62, n62⟩, -, X62, ⟨Lc62, hQ62, l62, y62, z62⟩, st62⟩ := Jvm.LawKit.callS X60 hx (y := (⟨"java/lang/StringUTF16", "coderFromArrayLen", "([BI)B"⟩ : MethodName)) hown (mvT hZ (hw _ (List.mem_of_getElem? (i := 23) rfl))) (mvT hZ (hw _ (List.mem_of_getElem? (i := 24) rfl))) (mvT hZ (hw _ (List.mem_of_getElem? (i := 17) rfl))) (mvT hZ (hw _ (List.mem_of_getElem? (i := 25) rfl))) (by decide) (backOf (W := 1) (rmcfz l Z a0 hw [] ovb okb (List.replicate nz (.int (0 : Int32))) nz T60.heap n0 Zs60 f60_2) hZ (hw _ (List.mem_of_getElem? (i := 25) rfl)) (hw _ (List.mem_of_getElem? (i := 17) rfl)) (by decide) (by decide)) (g := (mkF m 45 #[.val (.ref a1), .val (.ref a2), .val (.int (0 : Int32)), .val (.int (Int32.ofNat nz)), .val .null, .val (.ref ovb)] [(.int (Int32.ofNat nz)), (.ref ovb), (.ref a1)])) rfl (by rw [hml]; rfl) (argsL := [(.ref ovb), (.int (Int32.ofNat nz))]) (rest := [(.ref a1)]) (lenOf own_pd11 rfl) rfl (by show 2 * 0 + _ ≤ _; exact Nat.le_of_eq rfl) (hb hby d2_45) (fun _ _ => ⟨rfl, rfl, (by decide : 1 + 0 ≤ _), (by decide : 4095 + 0 ≤ _)⟩)
  dsimp only [Pt.U, Pt.locs, Pt.cells, Pt.slots] at X62 l62 y62 z62 st62 hQ62
  subst l62 y62 z62
  obtain ⟨rfl, Nq62, e62⟩ := hQ62
  refine Go.st st62 ?_
  have N62 := Fr.app N60 Nq62
  show Go p e below _ (T62.setTop (mkF m 48 #[.val (.ref a1), .val (.ref a2), .val (.int (0 : Int32)), .val (.int (Int32.ofNat nz)), .val .null, .val (.ref ovb)] [(.int (0 : Int32)), (.ref a1)]))
  obtain ⟨T63, h63, X63, e63, W63, st63⟩ := putF X62 hx hZ hown (host := "") (Or.inl (hw _ (List.mem_of_getElem? (i := 26) rfl))) Via.refl e62 F_coder_a1_61 E_a1_61 (Or.inr ⟨(hw _ (List.mem_of_getElem? (i := 27) rfl)), rfl, hnm⟩) (hw _ (List.mem_of_getElem? (i := 1) rfl)) (ty := .byte) (by decide) rfl rfl (g := (mkF m 48 #[.val (.ref a1), .val (.ref a2), .val (.int (0 : Int32)), .val (.int (Int32.ofNat nz)), .val .null, .val (.ref ovb)] [(.int (0 : Int32)), (.ref a1)])) rfl rfl (hb hby d2_48)
  refine Go.st st63 ?_
  have S_COMPACT_STRINGS_64 : Sta Z h63 "java/lang/String" "COMPACT_STRINGS" "Z" (.int cs) := Sta.wr W63 S_COMPACT_STRINGS_61
  have E_a1_64 : Exa Z h63 a1 "java/lang/String" := Exa.wr W63 E_a1_61
  have F_value_a1_64 : Fld Z h63 a1 "java/lang/String" "value" "[B" .null := Fld.other W63 F_value_a1_61 (Or.inr (slot_ne (Or.inr (hw _ (List.mem_of_getElem? (i := 29) rfl))) (Or.inr (hw _ (List.mem_of_getElem? (i := 27) rfl))) (by decide) (t := (.array .byte)) (t' := .byte) (by decide) (by decide)))
  have E_ovb_64 : Exa Z h63 ovb "[B" := Exa.wr W63 f60_1
  have A_ovb_64 : Arv Z h63 ovb okb .byte (Int32.ofNat nz) (List.replicate nz (.int (0 : Int32))) (.int (0 : Int32)) := Arv.other f60_2 W63 (Ne.symm ne_a1_ovb)
  have F_coder_a1_63w : Fld Z h63 a1 "java/lang/String" "coder" "B" (.int (0 : Int32)) := Fld.same W63 F_coder_a1_61
  have K63 : Keep h0 h63 [a1] := Keep.wr K60 W63 (Or.inl (List.mem_of_getElem? (i := 0) rfl))
  have N63 := Fr.snoc X63 N62 g_a1
  have Zs63 : n0 ≤ h63.size := by rw [W63.size]; exact Zs60
  show Go p e below _ (T63.setTop (mkF m 51 #[.val (.ref a1), .val (.ref a2), .val (.int (0 : Int32)), .val (.int (Int32.ofNat nz)), .val .null, .val (.ref ovb)] []))
  refine g_aloadN X63 hx (hb hby d2_51) 52 rfl (v := (.ref a1)) rfl rfl ?_
  refine g_aload X63 hx (hb hby d2_52) 54 rfl (v := (.ref ovb)) rfl rfl ?_
  obtain ⟨T65, h65, X65, e65, W65, st65⟩ := putF X63 hx hZ hown (host := "") (Or.inl (hw _ (List.mem_of_getElem? (i := 28) rfl))) Via.refl e63 F_value_a1_64 E_a1_64 (Or.inr ⟨(hw _ (List.mem_of_getElem? (i := 29) rfl)), rfl, hnm⟩) (hw _ (List.mem_of_getElem? (i := 1) rfl)) (ty := (.array .byte)) (by decide) rfl rfl (g := (mkF m 54 #[.val (.ref a1), .val (.ref a2), .val (.int (0 : Int32)), .val (.int (Int32.ofNat nz)), .val .null, .val (.ref ovb)] [(.ref ovb), (.ref a1)])) rfl rfl (hb hby d2_54)
  refine Go.st st65 ?_
  have S_COMPACT_STRINGS_66 : Sta Z h65 "java/lang/String" "COMPACT_STRINGS" "Z" (.int cs) := Sta.wr W65 S_COMPACT_STRINGS_64
  have E_a1_66 : Exa Z h65 a1 "java/lang/String" := Exa.wr W65 E_a1_64
  have E_ovb_66 : Exa Z h65 ovb "[B" := Exa.wr W65 E_ovb_64
  have A_ovb_66 : Arv Z h65 ovb okb .byte (Int32.ofNat nz) (List.replicate nz (.int (0 : Int32))) (.int (0 : Int32)) := Arv.other A_ovb_64 W65 (Ne.symm ne_a1_ovb)
  have F_coder_a1_66 : Fld Z h65 a1 "java/lang/String" "coder" "B" (.int (0 : Int32)) := Fld.other W65 F_coder_a1_63w (Or.inr (slot_ne (Or.inr (hw _ (List.mem_of_getElem? (i := 27) rfl))) (Or.inr (hw _ (List.mem_of_getElem? (i := 29) rfl))) (by decide) (t := .byte) (t' := (.array .byte)) (by decide) (by decide)))
  have F_value_a1_65w : Fld Z h65 a1 "java/lang/String" "value" "[B" (.ref ovb) := Fld.same W65 F_value_a1_64
  have K65 : Keep h0 h65 [a1] := Keep.wr K63 W65 (Or.inl (List.mem_of_getElem? (i := 0) rfl))
  have N65 := Fr.snoc X65 N63 g_a1
  have Zs65 : n0 ≤ h65.size := by rw [W65.size]; exact Zs63
  show Go p e below _ (T65.setTop (mkF m 57 #[.val (.ref a1), .val (.ref a2), .val (.int (0 : Int32)), .val (.int (Int32.ofNat nz)), .val .null, .val (.ref ovb)] []))
  refine Go.retV X65 hx hlk Bd.returns (hb hby d2_57) (by decide) (by decide) ?_
  show QsVz Z a1 a2 cs kc nz h0 n0 _ T65.heap _
  rw [e65]
  exact ⟨ovb, okb, rfl, N65, K65, mh_ovb, E_a1_66, F_value_a1_65w, F_coder_a1_66, E_ovb_66, A_ovb_66⟩
theorem ef_sCz (m : MethodId) (x0 : Addr) (x1 : Addr) : entryFrame m #[(.ref x0), (.ref x1)] 2 = mkF m 0 #[.val (.ref x0), .val (.ref x1)] [] := by first | (simp [entryFrame, mkF, argsToLocals, Value.category]; done) | rfl
def QsCz (Z : State) (a1 : Addr) (a2 : Addr) (cs : Int32) (kc : ClassId) (nz : Nat) (h0 : Heap) (n0 : Nat) (v : Option Value) (h : Heap) (L : List Loc) : Prop := ∃ vb : Addr, ∃ kb : ClassId, v = none ∧ Fr n0 L ∧ Keep h0 h [a1] ∧ h0.size ≤ vb ∧ (Exa Z h a1 "java/lang/String") ∧ (Fld Z h a1 "java/lang/String" "value" "[B" (.ref vb)) ∧ (Fld Z h a1 "java/lang/String" "coder" "B" (.int (0 : Int32))) ∧ (Exa Z h vb "[B") ∧ (Arv Z h vb kb .byte (Int32.ofNat nz) (List.replicate nz (.int (0 : Int32))) (.int (0 : Int32)))
set_option maxRecDepth 65536 in
set_option maxHeartbeats 40000000 in
theorem rmsCz (l : Launch) (Z : State) (a0 : Array Value) (hw : ∀ d ∈ tables_1, d.before a0 Z = true) (ws : List Jvm.Cond) (a1 : Addr) (a2 : Addr) (cs : Int32) (kc : ClassId) (nz : Nat) (h0 : Heap) (n0 : Nat) (Z0 : n0 ≤ h0.size) (S_COMPACT_STRINGS : Sta Z h0 "java/lang/String" "COMPACT_STRINGS" "Z" (.int cs)) (E_a1 : Exa Z h0 a1 "java/lang/String") (g_a1 : n0 ≤ a1) (F_value_a1 : Fld Z h0 a1 "java/lang/String" "value" "[B" .null) (F_coder_a1 : Fld Z h0 a1 "java/lang/String" "coder" "B" (.int (0 : Int32))) (A_a2 : Arv Z h0 a2 kc .char (Int32.ofNat nz) (List.replicate nz (.int (0 : Int32))) (.int (0 : Int32))) (ne_a1_a2 : a1 ≠ a2) (hcs : ¬ cs = 0) (hn : nz ≤ 4095) (hpos : 0 < nz) :
    MetFree l (⟨"java/lang/String", "<init>", "([C)V"⟩ : MethodName) (head1 (Jvm.Cond.code (⟨"java/lang/String", "<init>", "([C)V"⟩ : MethodName) jdk_42_method_3_code 2 none :: ws) ({ frames := 3, cells := 1, slots := 4095, locals := 52 } : Room)) (fun a U => a = #[(.ref a1), (.ref a2)] ∧ Z.Warmed39 U.vm ∧ U.heap = h0) (fun _ _ _ _ _ => True) (fun _ U o U' => ∃ v L, o = .returned v ∧ QsCz Z a1 a2 cs kc nz h0 n0 v U'.heap L ∧ FrameEnd U o U' L ({ frames := 3, cells := 1, slots := 4095, locals := 52 } : Room).cells ({ frames := 3, cells := 1, slots := 4095, locals := 52 } : Room).slots) := by
  refine MetFree.of_bodySF (plainFor_of_name own_pn_java_lang_String) hisR ?_
  intro p e s m args below meth c s₁ Bd hml0 hP hK
  obtain ⟨rfl, hZ, hh⟩ := hP
  have hx := Bd.exec
  have hby := Bd.bytes
  have hlk := Bd.notSynchronized
  have hml : c.maxLocals = 2 := hml0
  have hown : s.vm.findClass "java/lang/String" = some m.cls := findClass_of_methodNamed Bd.named
  have hnm := (name_of_methodNamed Bd.named Bd.method).1
  have X0 : Stand p l e ({ frames := 3, cells := 1, slots := 4095, locals := 52 } : Room) s m #[(.ref a1), (.ref a2)] below meth c s₁ [] 0 0 := Stand.of_body Bd
  have e0 : s₁.heap = h0 := by rw [← hh, Bd.state]; rfl
  have N0 := Fr.nil n0
  have K0 : Keep h0 h0 [a1] := Keep.refl _ _
  show Go p e below (KQ s below (QsCz Z a1 a2 cs kc nz h0 n0) ({ frames := 3, cells := 1, slots := 4095, locals := 52 } : Room).cells ({ frames := 3, cells := 1, slots := 4095, locals := 52 } : Room).slots) _
  refine Go.body (T := s₁) (σ := s₁) (g' := (mkF m 0 #[.val (.ref a1), .val (.ref a2)] [])) (ef_sCz m a1 a2) ?_
  refine g_aloadN X0 hx (hb hby d1_0) 1 rfl (v := (.ref a1)) rfl rfl ?_
  refine g_aloadN X0 hx (hb hby d1_1) 2 rfl (v := (.ref a2)) rfl rfl ?_
  refine g_iconst X0 hx (hb hby d1_2) 3 rfl (0 : Int32) rfl ?_
  refine g_aloadN X0 hx (hb hby d1_3) 4 rfl (v := (.ref a2)) rfl rfl ?_
  refine g_alen X0 hx (hb hby d1_4) 5 rfl hZ e0 A_a2 ?_
  refine g_null X0 hx (hb hby d1_5) 6 rfl ?_
  obtain ⟨_, _, ⟨T68, L68, k68, n68⟩, -, X68, ⟨Lc68, hQ68, l68, y68, z68⟩, st68⟩ := X0.specialBack hx (y := (⟨"java/lang/String", "<init>", "([CIILjava/lang/Void;)V"⟩ : MethodName)) rfl hown (mvT hZ (hw _ (List.mem_of_getElem? (i := 7) rfl))) (mvT hZ (hw _ (List.mem_of_getElem? (i := 8) rfl))) (mvT hZ (hw _ (List.mem_of_getElem? (i := 10) rfl))) (by decide) (backOf (W := 0) (rmsVz l Z a0 hw [] a1 a2 cs kc nz h0 n0 Z0 S_COMPACT_STRINGS E_a1 g_a1 F_value_a1 F_coder_a1 A_a2 ne_a1_a2 hcs hn hpos) hZ (hw _ (List.mem_of_getElem? (i := 10) rfl)) (hw _ (List.mem_of_getElem? (i := 2) rfl)) (by decide) (by decide)) (g := (mkF m 6 #[.val (.ref a1), .val (.ref a2)] [.null, (.int (Int32.ofNat nz)), (.int (0 : Int32)), (.ref a2), (.ref a1)])) rfl (by rw [hml]; rfl) (Steps.refl _) (a := a1) (argsL := [(.ref a2), (.int (0 : Int32)), (.int (Int32.ofNat nz)), .null]) (rest := []) (lenOf own_pd0 rfl) rfl (by show 2 * 0 + _ ≤ _; exact Nat.le_of_eq rfl) (hb hby d1_6) (fun _ _ => ⟨rfl, e0, (by decide : 0 + 1 ≤ _), (by decide : 0 + 4095 ≤ _)⟩)
  dsimp only [Pt.U, Pt.locs, Pt.cells, Pt.slots] at X68 l68 y68 z68 st68 hQ68
  subst l68 y68 z68
  obtain ⟨ovb, okb, rfl, Nq68, Kq68, f68_0, f68_1, f68_2, f68_3, f68_4, f68_5⟩ := hQ68
  refine Go.tr st68 ?_
  have N68 := Fr.app N0 Nq68
  have S_COMPACT_STRINGS_69 : Sta Z T68.heap "java/lang/String" "COMPACT_STRINGS" "Z" (.int cs) := own_Sta_keep S_COMPACT_STRINGS Kq68 (allS (own_ns E_a1) all0)
  have E_a1_69 : Exa Z T68.heap a1 "java/lang/String" := Exa.keep E_a1 Kq68
  have ne_a1_ovb : a1 ≠ ovb := Nat.ne_of_lt (Nat.lt_of_lt_of_le E_a1.lt f68_0)
  have g_ovb : n0 ≤ ovb := Nat.le_trans Z0 f68_0
  have mh_ovb : h0.size ≤ ovb := Nat.le_trans K0.1 f68_0
  have K68 : Keep h0 T68.heap [a1] := Keep.trans K0 Kq68 (allS (Or.inl (List.mem_of_getElem? (i := 0) rfl)) all0)
  have Zs68 : n0 ≤ T68.heap.size := Nat.le_trans Z0 Kq68.1
  show Go p e below _ (T68.setTop (mkF m 9 #[.val (.ref a1), .val (.ref a2)] []))
  refine Go.retV X68 hx hlk Bd.returns (hb hby d1_9) (by decide) (by decide) ?_
  show QsCz Z a1 a2 cs kc nz h0 n0 _ T68.heap _
  exact ⟨ovb, okb, rfl, N68, K68, mh_ovb, f68_1, f68_2, f68_3, f68_4, f68_5⟩
theorem own_pn_com_example_anagrafe_anagrafe_atom_Markup : plainName "com/example/anagrafe/anagrafe/atom/Markup" = true := by first | (simp [plainName, overriddenIn]; done) | decide +kernel
theorem ef_11 (m : MethodId) (x0 : Addr) : entryFrame m #[(.ref x0)] 1 = mkF m 0 #[.val (.ref x0)] [] := by first | (simp [entryFrame, mkF, argsToLocals, Value.category]; done) | rfl
theorem d11_0 : decode prog_9_method_1_code 0 = .ok (.aload_n 0, 1) := by decide +kernel
theorem d11_1 : decode prog_9_method_1_code 1 = .ok (.invokespecial 1, 3) := by decide +kernel
theorem d11_4 : decode prog_9_method_1_code 4 = .ok (.aload_n 0, 1) := by decide +kernel
theorem d11_5 : decode prog_9_method_1_code 5 = .ok (.sipush 16384, 3) := by decide +kernel
theorem d11_8 : decode prog_9_method_1_code 8 = .ok (.newarray .byte, 2) := by decide +kernel
theorem d11_10 : decode prog_9_method_1_code 10 = .ok (.putfield 9, 3) := by decide +kernel
theorem d11_13 : decode prog_9_method_1_code 13 = .ok (.return_, 1) := by decide +kernel
def Q11 (Z : State) (a1 : Addr) (u : Value) (h0 : Heap) (n0 : Nat) (v : Option Value) (h : Heap) (L : List Loc) : Prop := ∃ wq : Addr, ∃ kq : ClassId, v = none ∧ Fr n0 L ∧ Keep h0 h [a1] ∧ h0.size ≤ wq ∧ (Exa Z h a1 "com/example/anagrafe/anagrafe/atom/Markup") ∧ (Fld Z h a1 "com/example/anagrafe/anagrafe/atom/Markup" "bytes" "[B" (.ref wq)) ∧ (Fld Z h a1 "com/example/anagrafe/anagrafe/atom/Markup" "size" "I" (.int (Int32.ofNat 0))) ∧ (Arv Z h wq kq .byte (Int32.ofNat 16384) [] (.int (0 : Int32)))
set_option maxRecDepth 65536 in
set_option maxHeartbeats 40000000 in
theorem rm11 (l : Launch) (Z : State) (a0 : Array Value) (hw : ∀ d ∈ tables_1, d.before a0 Z = true) (ws : List Jvm.Cond) (a1 : Addr) (u : Value) (h0 : Heap) (n0 : Nat) (Z0 : n0 ≤ h0.size) (E_a1 : Exa Z h0 a1 "com/example/anagrafe/anagrafe/atom/Markup") (g_a1 : n0 ≤ a1) (F_bytes_a1 : Fld Z h0 a1 "com/example/anagrafe/anagrafe/atom/Markup" "bytes" "[B" u) (F_size_a1 : Fld Z h0 a1 "com/example/anagrafe/anagrafe/atom/Markup" "size" "I" (.int (0 : Int32))) :
    MetFree l (⟨"com/example/anagrafe/anagrafe/atom/Markup", "<init>", "()V"⟩ : MethodName) (head1 (Jvm.Cond.code (⟨"com/example/anagrafe/anagrafe/atom/Markup", "<init>", "()V"⟩ : MethodName) prog_9_method_1_code 1 none :: ws) ({ frames := 1, cells := 1, slots := 16384, locals := 12 } : Room)) (fun a U => a = #[(.ref a1)] ∧ Z.Warmed39 U.vm ∧ U.heap = h0) (fun _ _ _ _ _ => True) (fun _ U o U' => ∃ v L, o = .returned v ∧ Q11 Z a1 u h0 n0 v U'.heap L ∧ FrameEnd U o U' L ({ frames := 1, cells := 1, slots := 16384, locals := 12 } : Room).cells ({ frames := 1, cells := 1, slots := 16384, locals := 12 } : Room).slots) := by
  refine MetFree.of_bodySF (plainFor_of_name own_pn_com_example_anagrafe_anagrafe_atom_Markup) hisR ?_
  intro p e s m args below meth c s₁ Bd hml0 hP hK
  obtain ⟨rfl, hZ, hh⟩ := hP
  have hx := Bd.exec
  have hby := Bd.bytes
  have hlk := Bd.notSynchronized
  have hml : c.maxLocals = 1 := hml0
  have hown : s.vm.findClass "com/example/anagrafe/anagrafe/atom/Markup" = some m.cls := findClass_of_methodNamed Bd.named
  have hnm := (name_of_methodNamed Bd.named Bd.method).1
  have X0 : Stand p l e ({ frames := 1, cells := 1, slots := 16384, locals := 12 } : Room) s m #[(.ref a1)] below meth c s₁ [] 0 0 := Stand.of_body Bd
  have e0 : s₁.heap = h0 := by rw [← hh, Bd.state]; rfl
  have N0 := Fr.nil n0
  have K0 : Keep h0 h0 [a1] := Keep.refl _ _
  show Go p e below (KQ s below (Q11 Z a1 u h0 n0) ({ frames := 1, cells := 1, slots := 16384, locals := 12 } : Room).cells ({ frames := 1, cells := 1, slots := 16384, locals := 12 } : Room).slots) _
  refine Go.body (T := s₁) (σ := s₁) (g' := (mkF m 0 #[.val (.ref a1)] [])) (ef_11 m a1) ?_
  refine g_aloadN X0 hx (hb hby d11_0) 1 rfl (v := (.ref a1)) rfl rfl ?_
  obtain ⟨T70, X70, e70, st70⟩ := initO X0 hx hZ hown (hw _ (List.mem_of_getElem? (i := 50) rfl)) (hw _ (List.mem_of_getElem? (i := 12) rfl)) (hw _ (List.mem_of_getElem? (i := 13) rfl)) e0 (g := (mkF m 1 #[.val (.ref a1)] [(.ref a1)])) rfl (by rw [hml]; rfl) rfl (hb hby d11_1) (by decide) (W := 0) (by show 2 * 0 + _ ≤ _; exact Nat.le_of_eq rfl) (by decide)
  refine Go.st st70 ?_
  show Go p e below _ (T70.setTop (mkF m 4 #[.val (.ref a1)] []))
  refine g_aloadN X70 hx (hb hby d11_4) 5 rfl (v := (.ref a1)) rfl rfl ?_
  refine g_sipush X70 hx (hb hby d11_5) 8 rfl (16384 : Int32) rfl ?_
  obtain ⟨T71, h71, cA71, X71, e71, E71, A71, st71⟩ := newP X70 hx hZ (aty := .byte) (hw _ (List.mem_of_getElem? (i := 19) rfl)) e70 (g := (mkF m 8 #[.val (.ref a1)] [(.int (16384 : Int32)), (.ref a1)])) rfl (hb hby d11_8) rfl (by decide) (cap := 16384) (by decide) (by decide) (by decide) (by decide)
  refine Go.st st71 ?_
  obtain ⟨ow, q71⟩ : ∃ z, z = h0.size := ⟨_, rfl⟩
  rw [← q71] at A71 ⊢
  have ne_a1_ow : a1 ≠ ow := Nat.ne_of_lt (Nat.lt_of_lt_of_eq E_a1.lt q71.symm)
  have g_ow : n0 ≤ ow := Nat.le_trans Z0 (Nat.le_of_eq q71.symm)
  have mh_ow : h0.size ≤ ow := Nat.le_trans K0.1 (Nat.le_of_eq q71.symm)
  have E_a1_72 : Exa Z h71 a1 "com/example/anagrafe/anagrafe/atom/Markup" := Exa.ext E71 E_a1
  have F_bytes_a1_72 : Fld Z h71 a1 "com/example/anagrafe/anagrafe/atom/Markup" "bytes" "[B" u := Fld.ext E71 F_bytes_a1
  have F_size_a1_72 : Fld Z h71 a1 "com/example/anagrafe/anagrafe/atom/Markup" "size" "I" (.int (0 : Int32)) := Fld.ext E71 F_size_a1
  have K71 : Keep h0 h71 [a1] := Keep.ext K0 E71
  have Zs71 : n0 ≤ h71.size := Nat.le_trans Z0 E71.1
  have Av_ow : Arv Z h71 ow cA71 .byte (16384 : Int32) [] (.int (0 : Int32)) := Arv.new A71 (by decide)
  show Go p e below _ (T71.setTop (mkF m 10 #[.val (.ref a1)] [(.ref ow), (.ref a1)]))
  obtain ⟨T73, h73, X73, e73, W73, st73⟩ := putF X71 hx hZ hown (host := "") (Or.inl (hw _ (List.mem_of_getElem? (i := 51) rfl))) Via.refl e71 F_bytes_a1_72 E_a1_72 (Or.inl (hw _ (List.mem_of_getElem? (i := 52) rfl))) (hw _ (List.mem_of_getElem? (i := 45) rfl)) (ty := (.array .byte)) (by decide) rfl rfl (g := (mkF m 10 #[.val (.ref a1)] [(.ref ow), (.ref a1)])) rfl rfl (hb hby d11_10)
  refine Go.st st73 ?_
  have E_a1_74 : Exa Z h73 a1 "com/example/anagrafe/anagrafe/atom/Markup" := Exa.wr W73 E_a1_72
  have F_size_a1_74 : Fld Z h73 a1 "com/example/anagrafe/anagrafe/atom/Markup" "size" "I" (.int (0 : Int32)) := Fld.other W73 F_size_a1_72 (Or.inr (slot_ne (Or.inl (hw _ (List.mem_of_getElem? (i := 63) rfl))) (Or.inl (hw _ (List.mem_of_getElem? (i := 52) rfl))) (by decide) (t := .int) (t' := (.array .byte)) (by decide) (by decide)))
  have A_ow_74 : Arv Z h73 ow cA71 .byte (16384 : Int32) [] (.int (0 : Int32)) := Arv.other Av_ow W73 (Ne.symm ne_a1_ow)
  have F_bytes_a1_73w : Fld Z h73 a1 "com/example/anagrafe/anagrafe/atom/Markup" "bytes" "[B" (.ref ow) := Fld.same W73 F_bytes_a1_72
  have K73 : Keep h0 h73 [a1] := Keep.wr K71 W73 (Or.inl (List.mem_of_getElem? (i := 0) rfl))
  have N73 := Fr.snoc X73 N0 g_a1
  have Zs73 : n0 ≤ h73.size := by rw [W73.size]; exact Zs71
  show Go p e below _ (T73.setTop (mkF m 13 #[.val (.ref a1)] []))
  refine Go.retV X73 hx hlk Bd.returns (hb hby d11_13) (by decide) (by decide) ?_
  show Q11 Z a1 u h0 n0 _ T73.heap _
  rw [e73]
  exact ⟨ow, cA71, rfl, N73, K73, mh_ow, E_a1_74, F_bytes_a1_73w, F_size_a1_74, A_ow_74⟩
theorem ef_13 (m : MethodId) (x0 : Addr) (x1 : Int32) : entryFrame m #[(.ref x0), (.int x1)] 3 = mkF m 0 #[.val (.ref x0), .val (.int x1), .unset] [] := by first | (simp [entryFrame, mkF, argsToLocals, Value.category]; done) | rfl
theorem d13_0 : decode prog_9_method_10_code 0 = .ok (.aload_n 0, 1) := by decide +kernel
theorem d13_1 : decode prog_9_method_10_code 1 = .ok (.getfield 29, 3) := by decide +kernel
theorem d13_4 : decode prog_9_method_10_code 4 = .ok (.bipush 6, 2) := by decide +kernel
theorem d13_6 : decode prog_9_method_10_code 6 = .ok (.iload_n 1, 1) := by decide +kernel
theorem d13_7 : decode prog_9_method_10_code 7 = .ok (.imul, 1) := by decide +kernel
theorem d13_8 : decode prog_9_method_10_code 8 = .ok (.iadd, 1) := by decide +kernel
theorem d13_9 : decode prog_9_method_10_code 9 = .ok (.istore_n 2, 1) := by decide +kernel
theorem d13_10 : decode prog_9_method_10_code 10 = .ok (.iload_n 2, 1) := by decide +kernel
theorem d13_11 : decode prog_9_method_10_code 11 = .ok (.aload_n 0, 1) := by decide +kernel
theorem d13_12 : decode prog_9_method_10_code 12 = .ok (.getfield 9, 3) := by decide +kernel
theorem d13_15 : decode prog_9_method_10_code 15 = .ok (.arraylength, 1) := by decide +kernel
theorem d13_16 : decode prog_9_method_10_code 16 = .ok (.if_icmp .le 25, 3) := by decide +kernel
theorem d13_41 : decode prog_9_method_10_code 41 = .ok (.return_, 1) := by decide +kernel
def Q13 (Z : State) (a1 : Addr) (p1 : Int32) (wb : Addr) (kb : ClassId) (N : Nat) (vs : List Value) (bl : Nat) (h0 : Heap) (n0 : Nat) (v : Option Value) (h : Heap) (L : List Loc) : Prop := v = none ∧ Fr n0 L ∧ h = h0
set_option maxRecDepth 65536 in
set_option maxHeartbeats 40000000 in
theorem rm13 (l : Launch) (Z : State) (a0 : Array Value) (hw : ∀ d ∈ tables_1, d.before a0 Z = true) (ws : List Jvm.Cond) (a1 : Addr) (p1 : Int32) (wb : Addr) (kb : ClassId) (N : Nat) (vs : List Value) (bl : Nat) (h0 : Heap) (n0 : Nat) (Z0 : n0 ≤ h0.size) (E_a1 : Exa Z h0 a1 "com/example/anagrafe/anagrafe/atom/Markup") (F_bytes_a1 : Fld Z h0 a1 "com/example/anagrafe/anagrafe/atom/Markup" "bytes" "[B" (.ref wb)) (F_size_a1 : Fld Z h0 a1 "com/example/anagrafe/anagrafe/atom/Markup" "size" "I" (.int (Int32.ofNat N))) (A_wb : Arv Z h0 wb kb .byte (Int32.ofNat bl) vs (.int (0 : Int32))) (hr : ¬ Int32.ofNat bl < Int32.ofNat N + (6 : Int32) * p1) :
    MetFree l (⟨"com/example/anagrafe/anagrafe/atom/Markup", "room", "(I)V"⟩ : MethodName) (head1 (Jvm.Cond.code (⟨"com/example/anagrafe/anagrafe/atom/Markup", "room", "(I)V"⟩ : MethodName) prog_9_method_10_code 3 none :: ws) ({ frames := 0, cells := 0, slots := 0, locals := 0 } : Room)) (fun a U => a = #[(.ref a1), (.int p1)] ∧ Z.Warmed39 U.vm ∧ U.heap = h0) (fun _ _ _ _ _ => True) (fun _ U o U' => ∃ v L, o = .returned v ∧ Q13 Z a1 p1 wb kb N vs bl h0 n0 v U'.heap L ∧ FrameEnd U o U' L ({ frames := 0, cells := 0, slots := 0, locals := 0 } : Room).cells ({ frames := 0, cells := 0, slots := 0, locals := 0 } : Room).slots) := by
  refine MetFree.of_bodySF (plainFor_of_name own_pn_com_example_anagrafe_anagrafe_atom_Markup) hisR ?_
  intro p e s m args below meth c s₁ Bd hml0 hP hK
  obtain ⟨rfl, hZ, hh⟩ := hP
  have hx := Bd.exec
  have hby := Bd.bytes
  have hlk := Bd.notSynchronized
  have hml : c.maxLocals = 3 := hml0
  have hown : s.vm.findClass "com/example/anagrafe/anagrafe/atom/Markup" = some m.cls := findClass_of_methodNamed Bd.named
  have hnm := (name_of_methodNamed Bd.named Bd.method).1
  have X0 : Stand p l e ({ frames := 0, cells := 0, slots := 0, locals := 0 } : Room) s m #[(.ref a1), (.int p1)] below meth c s₁ [] 0 0 := Stand.of_body Bd
  have e0 : s₁.heap = h0 := by rw [← hh, Bd.state]; rfl
  have N0 := Fr.nil n0
  show Go p e below (KQ s below (Q13 Z a1 p1 wb kb N vs bl h0 n0) ({ frames := 0, cells := 0, slots := 0, locals := 0 } : Room).cells ({ frames := 0, cells := 0, slots := 0, locals := 0 } : Room).slots) _
  refine Go.body (T := s₁) (σ := s₁) (g' := (mkF m 0 #[.val (.ref a1), .val (.int p1), .unset] [])) (ef_13 m a1 p1) ?_
  refine g_aloadN X0 hx (hb hby d13_0) 1 rfl (v := (.ref a1)) rfl rfl ?_
  obtain ⟨T75, X75, e75, st75⟩ := getF X0 hx hZ hown (host := "") (Or.inl (hw _ (List.mem_of_getElem? (i := 62) rfl))) Via.refl e0 F_size_a1 (g := (mkF m 1 #[.val (.ref a1), .val (.int p1), .unset] [(.ref a1)])) rfl rfl (hb hby d13_1)
  refine Go.st st75 ?_
  show Go p e below _ (T75.setTop (mkF m 4 #[.val (.ref a1), .val (.int p1), .unset] [(.int (Int32.ofNat N))]))
  refine g_bipush X75 hx (hb hby d13_4) 6 rfl (6 : Int32) rfl ?_
  refine g_iloadN X75 hx (hb hby d13_6) 7 rfl (v := p1) rfl ?_
  refine g_imul X75 hx (hb hby d13_7) 8 rfl ((6 : Int32) * p1) rfl ?_
  refine g_iadd X75 hx (hb hby d13_8) 9 rfl ((Int32.ofNat N) + ((6 : Int32) * p1)) rfl ?_
  refine g_istoreN X75 hx (hb hby d13_9) 10 rfl #[.val (.ref a1), .val (.int p1), .val (.int ((Int32.ofNat N) + ((6 : Int32) * p1)))] rfl ?_
  refine g_iloadN X75 hx (hb hby d13_10) 11 rfl (v := ((Int32.ofNat N) + ((6 : Int32) * p1))) rfl ?_
  refine g_aloadN X75 hx (hb hby d13_11) 12 rfl (v := (.ref a1)) rfl rfl ?_
  obtain ⟨T76, X76, e76, st76⟩ := getF X75 hx hZ hown (host := "") (Or.inl (hw _ (List.mem_of_getElem? (i := 51) rfl))) Via.refl e75 F_bytes_a1 (g := (mkF m 12 #[.val (.ref a1), .val (.int p1), .val (.int ((Int32.ofNat N) + ((6 : Int32) * p1)))] [(.ref a1), (.int ((Int32.ofNat N) + ((6 : Int32) * p1)))])) rfl rfl (hb hby d13_12)
  refine Go.st st76 ?_
  show Go p e below _ (T76.setTop (mkF m 15 #[.val (.ref a1), .val (.int p1), .val (.int ((Int32.ofNat N) + ((6 : Int32) * p1)))] [(.ref wb), (.int ((Int32.ofNat N) + ((6 : Int32) * p1)))]))
  refine g_alen X76 hx (hb hby d13_15) 16 rfl hZ e76 A_wb ?_
  refine g_icmp_le X76 hx (hb hby d13_16) 41 19 (by decide) (by decide) rfl (fun hc16 => ?_) (fun hc16 => False.elim (hr hc16))
  refine Go.retV X76 hx hlk Bd.returns (hb hby d13_41) (by decide) (by decide) ?_
  show Q13 Z a1 p1 wb kb N vs bl h0 n0 _ T76.heap _
  rw [e76]
  exact ⟨rfl, N0, rfl⟩
theorem ef_16 (m : MethodId) (x0 : Int32) (x1 : Int32) : entryFrame m #[(.int x0), (.int x1)] 2 = mkF m 0 #[.val (.int x0), .val (.int x1)] [] := by first | (simp [entryFrame, mkF, argsToLocals, Value.category]; done) | rfl
theorem d16_0 : decode jdk_29_method_69_code 0 = .ok (.iload_n 0, 1) := by decide +kernel
theorem d16_1 : decode jdk_29_method_69_code 1 = .ok (.iload_n 1, 1) := by decide +kernel
theorem d16_2 : decode jdk_29_method_69_code 2 = .ok (.if_icmp .gt 7, 3) := by decide +kernel
theorem d16_9 : decode jdk_29_method_69_code 9 = .ok (.iload_n 1, 1) := by decide +kernel
theorem d16_10 : decode jdk_29_method_69_code 10 = .ok (.ireturn, 1) := by decide +kernel
theorem d16_5 : decode jdk_29_method_69_code 5 = .ok (.iload_n 0, 1) := by decide +kernel
theorem d16_6 : decode jdk_29_method_69_code 6 = .ok (.goto 4, 3) := by decide +kernel
def Q16 (Z : State) (p1 : Int32) (p2 : Int32) (h0 : Heap) (n0 : Nat) (v : Option Value) (h : Heap) (L : List Loc) : Prop := ∃ r : Int32, v = some (.int r) ∧ Fr n0 L ∧ h = h0 ∧ (r = if p2 < p1 then p2 else p1)
set_option maxRecDepth 65536 in
set_option maxHeartbeats 40000000 in
theorem rm16 (l : Launch) (Z : State) (a0 : Array Value) (hw : ∀ d ∈ tables_1, d.before a0 Z = true) (ws : List Jvm.Cond) (p1 : Int32) (p2 : Int32) (h0 : Heap) (n0 : Nat) (Z0 : n0 ≤ h0.size)  :
    MetFree l (⟨"java/lang/Math", "min", "(II)I"⟩ : MethodName) (head1 (Jvm.Cond.code (⟨"java/lang/Math", "min", "(II)I"⟩ : MethodName) jdk_29_method_69_code 2 (some .int) :: ws) ({ frames := 0, cells := 0, slots := 0, locals := 0 } : Room)) (fun a U => a = #[(.int p1), (.int p2)] ∧ Z.Warmed39 U.vm ∧ U.heap = h0) (fun _ _ _ _ _ => True) (fun _ U o U' => ∃ v L, o = .returned v ∧ Q16 Z p1 p2 h0 n0 v U'.heap L ∧ FrameEnd U o U' L ({ frames := 0, cells := 0, slots := 0, locals := 0 } : Room).cells ({ frames := 0, cells := 0, slots := 0, locals := 0 } : Room).slots) := by
  refine MetFree.of_bodySF (Jvm.Free.JP.mathPlain rfl (by decide +kernel)) hisR ?_
  intro p e s m args below meth c s₁ Bd hml0 hP hK
  obtain ⟨rfl, hZ, hh⟩ := hP
  have hx := Bd.exec
  have hby := Bd.bytes
  have hlk := Bd.notSynchronized
  have hml : c.maxLocals = 2 := hml0
  have hown : s.vm.findClass "java/lang/Math" = some m.cls := findClass_of_methodNamed Bd.named
  have hnm := (name_of_methodNamed Bd.named Bd.method).1
  have X0 : Stand p l e ({ frames := 0, cells := 0, slots := 0, locals := 0 } : Room) s m #[(.int p1), (.int p2)] below meth c s₁ [] 0 0 := Stand.of_body Bd
  have e0 : s₁.heap = h0 := by rw [← hh, Bd.state]; rfl
  have N0 := Fr.nil n0
  show Go p e below (KQ s below (Q16 Z p1 p2 h0 n0) ({ frames := 0, cells := 0, slots := 0, locals := 0 } : Room).cells ({ frames := 0, cells := 0, slots := 0, locals := 0 } : Room).slots) _
  refine Go.body (T := s₁) (σ := s₁) (g' := (mkF m 0 #[.val (.int p1), .val (.int p2)] [])) (ef_16 m p1 p2) ?_
  refine g_iloadN X0 hx (hb hby d16_0) 1 rfl (v := p1) rfl ?_
  refine g_iloadN X0 hx (hb hby d16_1) 2 rfl (v := p2) rfl ?_
  refine g_icmp_gt X0 hx (hb hby d16_2) 9 5 (by decide) (by decide) rfl (fun hc2 => ?_) (fun hc2 => ?_)
  · refine g_iloadN X0 hx (hb hby d16_9) 10 rfl (v := p2) rfl ?_
    refine Go.retI X0 hx hlk Bd.returns (hb hby d16_10) (by decide) (by decide) ?_
    show Q16 Z p1 p2 h0 n0 _ s₁.heap _
    rw [e0]
    exact ⟨p2, rfl, N0, rfl, (by simp [hc2])⟩
  · refine g_iloadN X0 hx (hb hby d16_5) 6 rfl (v := p1) rfl ?_
    refine g_goto X0 hx (hb hby d16_6) 10 (by decide) (by decide) ?_
    refine Go.retI X0 hx hlk Bd.returns (hb hby d16_10) (by decide) (by decide) ?_
    show Q16 Z p1 p2 h0 n0 _ s₁.heap _
    rw [e0]
    exact ⟨p1, rfl, N0, rfl, (by simp [hc2])⟩
theorem own_pn_java_util_Arrays : plainName "java/util/Arrays" = true := by first | (simp [plainName, overriddenIn]; done) | decide +kernel
theorem ef_15 (m : MethodId) (x0 : Addr) (x1 : Int32) : entryFrame m #[(.ref x0), (.int x1)] 3 = mkF m 0 #[.val (.ref x0), .val (.int x1), .unset] [] := by first | (simp [entryFrame, mkF, argsToLocals, Value.category]; done) | rfl
theorem d15_0 : decode jdk_65_method_121_code 0 = .ok (.iload_n 1, 1) := by decide +kernel
theorem d15_1 : decode jdk_65_method_121_code 1 = .ok (.aload_n 0, 1) := by decide +kernel
theorem d15_2 : decode jdk_65_method_121_code 2 = .ok (.arraylength, 1) := by decide +kernel
theorem d15_3 : decode jdk_65_method_121_code 3 = .ok (.if_icmp .ne 11, 3) := by decide +kernel
theorem d15_14 : decode jdk_65_method_121_code 14 = .ok (.iload_n 1, 1) := by decide +kernel
theorem d15_15 : decode jdk_65_method_121_code 15 = .ok (.newarray .byte, 2) := by decide +kernel
theorem d15_17 : decode jdk_65_method_121_code 17 = .ok (.astore_n 2, 1) := by decide +kernel
theorem d15_18 : decode jdk_65_method_121_code 18 = .ok (.aload_n 0, 1) := by decide +kernel
theorem d15_19 : decode jdk_65_method_121_code 19 = .ok (.iconst 0, 1) := by decide +kernel
theorem d15_20 : decode jdk_65_method_121_code 20 = .ok (.aload_n 2, 1) := by decide +kernel
theorem d15_21 : decode jdk_65_method_121_code 21 = .ok (.iconst 0, 1) := by decide +kernel
theorem d15_22 : decode jdk_65_method_121_code 22 = .ok (.aload_n 0, 1) := by decide +kernel
theorem d15_23 : decode jdk_65_method_121_code 23 = .ok (.arraylength, 1) := by decide +kernel
theorem d15_24 : decode jdk_65_method_121_code 24 = .ok (.iload_n 1, 1) := by decide +kernel
theorem own_pd12 : parseMethodDescriptor "(II)I" = some ⟨[.int, .int], some .int⟩ := by decide +kernel
theorem d15_25 : decode jdk_65_method_121_code 25 = .ok (.invokestatic 304, 3) := by decide +kernel
theorem d15_28 : decode jdk_65_method_121_code 28 = .ok (.invokestatic 150, 3) := by decide +kernel
theorem d15_31 : decode jdk_65_method_121_code 31 = .ok (.aload_n 2, 1) := by decide +kernel
theorem d15_32 : decode jdk_65_method_121_code 32 = .ok (.areturn, 1) := by decide +kernel
def Q15 (Z : State) (a1 : Addr) (k : ClassId) (vs : List Value) (N : Nat) (bl : Nat) (h0 : Heap) (n0 : Nat) (v : Option Value) (h : Heap) (L : List Loc) : Prop := ∃ b : Addr, ∃ kq : ClassId, v = some (.ref b) ∧ Fr n0 L ∧ Keep h0 h [] ∧ h0.size ≤ b ∧ (Arv Z h b kq .byte (Int32.ofNat N) vs (.int (0 : Int32)))
set_option maxRecDepth 65536 in
set_option maxHeartbeats 40000000 in
theorem rm15 (l : Launch) (Z : State) (a0 : Array Value) (hw : ∀ d ∈ tables_1, d.before a0 Z = true) (ws : List Jvm.Cond) (a1 : Addr) (k : ClassId) (vs : List Value) (N : Nat) (bl : Nat) (h0 : Heap) (n0 : Nat) (Z0 : n0 ≤ h0.size) (A_a1 : Arv Z h0 a1 k .byte (Int32.ofNat bl) vs (.int (0 : Int32))) (hB : 16384 ≤ bl ∧ bl ≤ 32768) (hN : vs.length = N) (hM : N ≤ 4111) :
    MetFree l (⟨"java/util/Arrays", "copyOf", "([BI)[B"⟩ : MethodName) (head1 (Jvm.Cond.code (⟨"java/util/Arrays", "copyOf", "([BI)[B"⟩ : MethodName) jdk_65_method_121_code 3 (some (.array .byte)) :: ws) ({ frames := 1, cells := 1, slots := 4111, locals := 18 } : Room)) (fun a U => a = #[(.ref a1), (.int (Int32.ofNat N))] ∧ Z.Warmed39 U.vm ∧ U.heap = h0) (fun _ _ _ _ _ => True) (fun _ U o U' => ∃ v L, o = .returned v ∧ Q15 Z a1 k vs N bl h0 n0 v U'.heap L ∧ FrameEnd U o U' L ({ frames := 1, cells := 1, slots := 4111, locals := 18 } : Room).cells ({ frames := 1, cells := 1, slots := 4111, locals := 18 } : Room).slots) := by
  refine MetFree.of_bodySF (plainFor_of_name own_pn_java_util_Arrays) hisR ?_
  intro p e s m args below meth c s₁ Bd hml0 hP hK
  obtain ⟨rfl, hZ, hh⟩ := hP
  have hx := Bd.exec
  have hby := Bd.bytes
  have hlk := Bd.notSynchronized
  have hml : c.maxLocals = 3 := hml0
  have hown : s.vm.findClass "java/util/Arrays" = some m.cls := findClass_of_methodNamed Bd.named
  have hnm := (name_of_methodNamed Bd.named Bd.method).1
  have X0 : Stand p l e ({ frames := 1, cells := 1, slots := 4111, locals := 18 } : Room) s m #[(.ref a1), (.int (Int32.ofNat N))] below meth c s₁ [] 0 0 := Stand.of_body Bd
  have e0 : s₁.heap = h0 := by rw [← hh, Bd.state]; rfl
  have N0 := Fr.nil n0
  have K0 : Keep h0 h0 [] := Keep.refl _ _
  show Go p e below (KQ s below (Q15 Z a1 k vs N bl h0 n0) ({ frames := 1, cells := 1, slots := 4111, locals := 18 } : Room).cells ({ frames := 1, cells := 1, slots := 4111, locals := 18 } : Room).slots) _
  refine Go.body (T := s₁) (σ := s₁) (g' := (mkF m 0 #[.val (.ref a1), .val (.int (Int32.ofNat N)), .unset] [])) (ef_15 m a1 (Int32.ofNat N)) ?_
  refine g_iloadN X0 hx (hb hby d15_0) 1 rfl (v := (Int32.ofNat N)) rfl ?_
  refine g_aloadN X0 hx (hb hby d15_1) 2 rfl (v := (.ref a1)) rfl rfl ?_
  refine g_alen X0 hx (hb hby d15_2) 3 rfl hZ e0 A_a1 ?_
  refine g_icmp_ne X0 hx (hb hby d15_3) 14 6 (by decide) (by decide) rfl (fun hc3 => ?_) (fun hc3 => False.elim (absurd (own_eqn (by omega) (by omega) hc3) (by omega)))
  refine g_iloadN X0 hx (hb hby d15_14) 15 rfl (v := (Int32.ofNat N)) rfl ?_
  obtain ⟨T79, h79, cA79, X79, e79, E79, A79, st79⟩ := newP X0 hx hZ (aty := .byte) (hw _ (List.mem_of_getElem? (i := 19) rfl)) e0 (g := (mkF m 15 #[.val (.ref a1), .val (.int (Int32.ofNat N)), .unset] [(.int (Int32.ofNat N))])) rfl (hb hby d15_15) rfl (own_in (N := N + 1) (by omega) (by omega)).1 (cap := 4111) (by rw [own_cl (by omega)]; exact hM) (by decide) (by decide) (by decide)
  refine Go.st st79 ?_
  obtain ⟨ob, q79⟩ : ∃ z, z = h0.size := ⟨_, rfl⟩
  rw [← q79] at A79 ⊢
  have g_ob : n0 ≤ ob := Nat.le_trans Z0 (Nat.le_of_eq q79.symm)
  have mh_ob : h0.size ≤ ob := Nat.le_trans K0.1 (Nat.le_of_eq q79.symm)
  have K79 : Keep h0 h79 [] := Keep.ext K0 E79
  have Zs79 : n0 ≤ h79.size := Nat.le_trans Z0 E79.1
  have Av_ob : Arv Z h79 ob cA79 .byte (Int32.ofNat N) (List.replicate N (.int (0 : Int32))) (.int (0 : Int32)) := Arv.pad (Arv.new A79 (own_in (N := N + 1) (by omega) (by omega)).1) (pad_rep [] (.int (0 : Int32)) N)
  show Go p e below _ (T79.setTop (mkF m 17 #[.val (.ref a1), .val (.int (Int32.ofNat N)), .unset] [(.ref ob)]))
  refine g_astoreN X79 hx (hb hby d15_17) 18 rfl rfl #[.val (.ref a1), .val (.int (Int32.ofNat N)), .val (.ref ob)] rfl ?_
  refine g_aloadN X79 hx (hb hby d15_18) 19 rfl (v := (.ref a1)) rfl rfl ?_
  refine g_iconst X79 hx (hb hby d15_19) 20 rfl (0 : Int32) rfl ?_
  refine g_aloadN X79 hx (hb hby d15_20) 21 rfl (v := (.ref ob)) rfl rfl ?_
  refine g_iconst X79 hx (hb hby d15_21) 22 rfl (0 : Int32) rfl ?_
  refine g_aloadN X79 hx (hb hby d15_22) 23 rfl (v := (.ref a1)) rfl rfl ?_
  refine g_alen X79 hx (hb hby d15_23) 24 rfl hZ e79 (Arv.keep A_a1 K79 nin0) ?_
  refine g_iloadN X79 hx (hb hby d15_24) 25 rfl (v := (Int32.ofNat N)) rfl ?_
  obtain ⟨_, _, ⟨T82, L82, k82, n82⟩, -, X82, ⟨Lc82, hQ82, l82, y82, z82⟩, st82⟩ := Jvm.LawKit.callS X79 hx (y := (⟨"java/lang/Math", "min", "(II)I"⟩ : MethodName)) hown (mvT hZ (hw _ (List.mem_of_getElem? (i := 73) rfl))) (mvT hZ (hw _ (List.mem_of_getElem? (i := 74) rfl))) (mvT hZ (hw _ (List.mem_of_getElem? (i := 75) rfl))) (mvT hZ (hw _ (List.mem_of_getElem? (i := 76) rfl))) (by decide) (backOf (W := 4) (rm16 l Z a0 hw [] (Int32.ofNat bl) (Int32.ofNat N) h79 n0 Zs79 ) hZ (hw _ (List.mem_of_getElem? (i := 76) rfl)) (hw _ (List.mem_of_getElem? (i := 75) rfl)) (by decide) (by decide)) (g := (mkF m 25 #[.val (.ref a1), .val (.int (Int32.ofNat N)), .val (.ref ob)] [(.int (Int32.ofNat N)), (.int (Int32.ofNat bl)), (.int (0 : Int32)), (.ref ob), (.int (0 : Int32)), (.ref a1)])) rfl (by rw [hml]; rfl) (argsL := [(.int (Int32.ofNat bl)), (.int (Int32.ofNat N))]) (rest := [(.int (0 : Int32)), (.ref ob), (.int (0 : Int32)), (.ref a1)]) (lenOf own_pd12 rfl) rfl (by show 2 * 0 + _ ≤ _; exact Nat.le_of_eq rfl) (hb hby d15_25) (fun _ _ => ⟨rfl, e79, (by decide : 1 + 0 ≤ _), (by decide : 4111 + 0 ≤ _)⟩)
  dsimp only [Pt.U, Pt.locs, Pt.cells, Pt.slots] at X82 l82 y82 z82 st82 hQ82
  subst l82 y82 z82
  obtain ⟨r_82, rfl, Nq82, e82, p82_0⟩ := hQ82
  refine Go.st st82 ?_
  have N82 := Fr.app N0 Nq82
  show Go p e below _ (T82.setTop (mkF m 28 #[.val (.ref a1), .val (.int (Int32.ofNat N)), .val (.ref ob)] [(.int r_82), (.int (0 : Int32)), (.ref ob), (.int (0 : Int32)), (.ref a1)]))
  have er : r_82 = Int32.ofNat N := by rw [p82_0]; exact if_pos (own_in (by omega) (by omega)).2
  subst er
  have hnn : (Int32.ofNat N).toNatClampNeg = N := own_cl (by omega)
  have hmm : (Int32.ofNat bl).toNatClampNeg = bl := own_cl (by omega)
  have hz0 : (0 : Int32).toNatClampNeg = 0 := by decide
  have hn0 : ¬ Int32.ofNat N < 0 := (own_in (N := N + 1) (by omega) (by omega)).1
  have hle : (0 : Int32).toNatClampNeg + (Int32.ofNat N).toNatClampNeg ≤ (Int32.ofNat bl).toNatClampNeg := by omega
  have hle' : (0 : Int32).toNatClampNeg + (Int32.ofNat N).toNatClampNeg ≤ (Int32.ofNat N).toNatClampNeg := by omega
  obtain ⟨T83, h83, L83, X83, e83, N83, Kq83, B83, st83⟩ := cpA X82 hx hZ hown (hw _ (List.mem_of_getElem? (i := 77) rfl)) (hw _ (List.mem_of_getElem? (i := 80) rfl)) (hw _ (List.mem_of_getElem? (i := 78) rfl)) (hw _ (List.mem_of_getElem? (i := 79) rfl)) e82 (Arv.keep A_a1 K79 nin0) Av_ob (Or.inl ⟨rfl, rfl⟩) (by decide) (by decide) hn0 hle hle' rfl (by rw [List.length_replicate]; omega) N82 g_ob (g := (mkF m 28 #[.val (.ref a1), .val (.int (Int32.ofNat N)), .val (.ref ob)] [(.int (Int32.ofNat N)), (.int (0 : Int32)), (.ref ob), (.int (0 : Int32)), (.ref a1)])) rfl (by rw [hml]; rfl) rfl (hb hby d15_28) (by decide) (W := 0) (by show 2 * 0 + _ ≤ _; exact Nat.le_of_eq rfl) (by decide)
  refine Go.st st83 ?_
  have Av_ob_83 : Arv Z h83 ob cA79 .byte (Int32.ofNat N) vs (.int (0 : Int32)) := (by have q := B83; rw [show (0 : Int32).toNatClampNeg = 0 from rfl, own_take, hnn] at q; exact Arv.pad q (own_cpv _ hN))
  have K83 : Keep h0 h83 [] := Keep.trans K79 Kq83 (allS (Or.inr mh_ob) all0)
  have Zs83 : n0 ≤ h83.size := Nat.le_trans Zs79 Kq83.1
  show Go p e below _ (T83.setTop (mkF m 31 #[.val (.ref a1), .val (.int (Int32.ofNat N)), .val (.ref ob)] []))
  refine g_aloadN X83 hx (hb hby d15_31) 32 rfl (v := (.ref ob)) rfl rfl ?_
  refine Go.retA X83 hx hlk Bd.returns rfl rfl (hb hby d15_32) (by decide) (by decide) ?_
  show Q15 Z a1 k vs N bl h0 n0 _ T83.heap _
  rw [e83]
  exact ⟨ob, cA79, rfl, N83, K83, mh_ob, Av_ob_83⟩
theorem ef_14 (m : MethodId) (x0 : Addr) : entryFrame m #[(.ref x0)] 1 = mkF m 0 #[.val (.ref x0)] [] := by first | (simp [entryFrame, mkF, argsToLocals, Value.category]; done) | rfl
theorem d14_0 : decode prog_9_method_9_code 0 = .ok (.aload_n 0, 1) := by decide +kernel
theorem d14_1 : decode prog_9_method_9_code 1 = .ok (.getfield 9, 3) := by decide +kernel
theorem d14_4 : decode prog_9_method_9_code 4 = .ok (.aload_n 0, 1) := by decide +kernel
theorem d14_5 : decode prog_9_method_9_code 5 = .ok (.getfield 29, 3) := by decide +kernel
theorem own_pd13 : parseMethodDescriptor "([BI)[B" = some ⟨[(.array .byte), .int], some (.array .byte)⟩ := by decide +kernel
theorem d14_8 : decode prog_9_method_9_code 8 = .ok (.invokestatic 46, 3) := by decide +kernel
theorem d14_11 : decode prog_9_method_9_code 11 = .ok (.areturn, 1) := by decide +kernel
def Q14 (Z : State) (a1 : Addr) (wb : Addr) (kb : ClassId) (N : Nat) (vs : List Value) (bl : Nat) (h0 : Heap) (n0 : Nat) (v : Option Value) (h : Heap) (L : List Loc) : Prop := ∃ b : Addr, ∃ kq : ClassId, v = some (.ref b) ∧ Fr n0 L ∧ Keep h0 h [] ∧ h0.size ≤ b ∧ (Arv Z h b kq .byte (Int32.ofNat N) vs (.int (0 : Int32)))
set_option maxRecDepth 65536 in
set_option maxHeartbeats 40000000 in
theorem rm14 (l : Launch) (Z : State) (a0 : Array Value) (hw : ∀ d ∈ tables_1, d.before a0 Z = true) (ws : List Jvm.Cond) (a1 : Addr) (wb : Addr) (kb : ClassId) (N : Nat) (vs : List Value) (bl : Nat) (h0 : Heap) (n0 : Nat) (Z0 : n0 ≤ h0.size) (E_a1 : Exa Z h0 a1 "com/example/anagrafe/anagrafe/atom/Markup") (F_bytes_a1 : Fld Z h0 a1 "com/example/anagrafe/anagrafe/atom/Markup" "bytes" "[B" (.ref wb)) (F_size_a1 : Fld Z h0 a1 "com/example/anagrafe/anagrafe/atom/Markup" "size" "I" (.int (Int32.ofNat N))) (A_wb : Arv Z h0 wb kb .byte (Int32.ofNat bl) vs (.int (0 : Int32))) (hB : 16384 ≤ bl ∧ bl ≤ 32768) (hN : vs.length = N) (hM : N ≤ 4111) :
    MetFree l (⟨"com/example/anagrafe/anagrafe/atom/Markup", "toByteArray", "()[B"⟩ : MethodName) (head1 (Jvm.Cond.code (⟨"com/example/anagrafe/anagrafe/atom/Markup", "toByteArray", "()[B"⟩ : MethodName) prog_9_method_9_code 1 (some (.array .byte)) :: ws) ({ frames := 2, cells := 1, slots := 4111, locals := 32 } : Room)) (fun a U => a = #[(.ref a1)] ∧ Z.Warmed39 U.vm ∧ U.heap = h0) (fun _ _ _ _ _ => True) (fun _ U o U' => ∃ v L, o = .returned v ∧ Q14 Z a1 wb kb N vs bl h0 n0 v U'.heap L ∧ FrameEnd U o U' L ({ frames := 2, cells := 1, slots := 4111, locals := 32 } : Room).cells ({ frames := 2, cells := 1, slots := 4111, locals := 32 } : Room).slots) := by
  refine MetFree.of_bodySF (plainFor_of_name own_pn_com_example_anagrafe_anagrafe_atom_Markup) hisR ?_
  intro p e s m args below meth c s₁ Bd hml0 hP hK
  obtain ⟨rfl, hZ, hh⟩ := hP
  have hx := Bd.exec
  have hby := Bd.bytes
  have hlk := Bd.notSynchronized
  have hml : c.maxLocals = 1 := hml0
  have hown : s.vm.findClass "com/example/anagrafe/anagrafe/atom/Markup" = some m.cls := findClass_of_methodNamed Bd.named
  have hnm := (name_of_methodNamed Bd.named Bd.method).1
  have X0 : Stand p l e ({ frames := 2, cells := 1, slots := 4111, locals := 32 } : Room) s m #[(.ref a1)] below meth c s₁ [] 0 0 := Stand.of_body Bd
  have e0 : s₁.heap = h0 := by rw [← hh, Bd.state]; rfl
  have N0 := Fr.nil n0
  have K0 : Keep h0 h0 [] := Keep.refl _ _
  show Go p e below (KQ s below (Q14 Z a1 wb kb N vs bl h0 n0) ({ frames := 2, cells := 1, slots := 4111, locals := 32 } : Room).cells ({ frames := 2, cells := 1, slots := 4111, locals := 32 } : Room).slots) _
  refine Go.body (T := s₁) (σ := s₁) (g' := (mkF m 0 #[.val (.ref a1)] [])) (ef_14 m a1) ?_
  refine g_aloadN X0 hx (hb hby d14_0) 1 rfl (v := (.ref a1)) rfl rfl ?_
  obtain ⟨T85, X85, e85, st85⟩ := getF X0 hx hZ hown (host := "") (Or.inl (hw _ (List.mem_of_getElem? (i := 51) rfl))) Via.refl e0 F_bytes_a1 (g := (mkF m 1 #[.val (.ref a1)] [(.ref a1)])) rfl rfl (hb hby d14_1)
  refine Go.st st85 ?_
  show Go p e below _ (T85.setTop (mkF m 4 #[.val (.ref a1)] [(.ref wb)]))
  refine g_aloadN X85 hx (hb hby d14_4) 5 rfl (v := (.ref a1)) rfl rfl ?_
  obtain ⟨T86, X86, e86, st86⟩ := getF X85 hx hZ hown (host := "") (Or.inl (hw _ (List.mem_of_getElem? (i := 62) rfl))) Via.refl e85 F_size_a1 (g := (mkF m 5 #[.val (.ref a1)] [(.ref a1), (.ref wb)])) rfl rfl (hb hby d14_5)
  refine Go.st st86 ?_
  show Go p e below _ (T86.setTop (mkF m 8 #[.val (.ref a1)] [(.int (Int32.ofNat N)), (.ref wb)]))
  obtain ⟨_, _, ⟨T87, L87, k87, n87⟩, -, X87, ⟨Lc87, hQ87, l87, y87, z87⟩, st87⟩ := Jvm.LawKit.callS X86 hx (y := (⟨"java/util/Arrays", "copyOf", "([BI)[B"⟩ : MethodName)) hown (mvT hZ (hw _ (List.mem_of_getElem? (i := 69) rfl))) (mvT hZ (hw _ (List.mem_of_getElem? (i := 70) rfl))) (mvT hZ (hw _ (List.mem_of_getElem? (i := 71) rfl))) (mvT hZ (hw _ (List.mem_of_getElem? (i := 72) rfl))) (by decide) (backOf (W := 0) (rm15 l Z a0 hw [] wb kb vs N bl h0 n0 Z0 A_wb hB hN hM) hZ (hw _ (List.mem_of_getElem? (i := 72) rfl)) (hw _ (List.mem_of_getElem? (i := 71) rfl)) (by decide) (by decide)) (g := (mkF m 8 #[.val (.ref a1)] [(.int (Int32.ofNat N)), (.ref wb)])) rfl (by rw [hml]; rfl) (argsL := [(.ref wb), (.int (Int32.ofNat N))]) (rest := []) (lenOf own_pd13 rfl) rfl (by show 2 * 0 + _ ≤ _; exact Nat.le_of_eq rfl) (hb hby d14_8) (fun _ _ => ⟨rfl, e86, (by decide : 0 + 1 ≤ _), (by decide : 0 + 4111 ≤ _)⟩)
  dsimp only [Pt.U, Pt.locs, Pt.cells, Pt.slots] at X87 l87 y87 z87 st87 hQ87
  subst l87 y87 z87
  obtain ⟨ob, okq, rfl, Nq87, Kq87, f87_0, f87_1⟩ := hQ87
  refine Go.st st87 ?_
  have N87 := Fr.app N0 Nq87
  have g_ob : n0 ≤ ob := Nat.le_trans Z0 f87_0
  have mh_ob : h0.size ≤ ob := Nat.le_trans K0.1 f87_0
  have K87 : Keep h0 T87.heap [] := Keep.trans K0 Kq87 all0
  have Zs87 : n0 ≤ T87.heap.size := Nat.le_trans Z0 Kq87.1
  show Go p e below _ (T87.setTop (mkF m 11 #[.val (.ref a1)] [(.ref ob)]))
  refine Go.retA X87 hx hlk Bd.returns rfl rfl (hb hby d14_11) (by decide) (by decide) ?_
  show Q14 Z a1 wb kb N vs bl h0 n0 _ T87.heap _
  exact ⟨ob, okq, rfl, N87, K87, mh_ob, f87_1⟩
theorem ef_12 (m : MethodId) (x0 : Addr) : entryFrame m #[(.ref x0)] 1 = mkF m 0 #[.val (.ref x0)] [] := by first | (simp [entryFrame, mkF, argsToLocals, Value.category]; done) | rfl
theorem d12_0 : decode prog_9_method_6_code 0 = .ok (.aload_n 0, 1) := by decide +kernel
theorem d12_1 : decode prog_9_method_6_code 1 = .ok (.iconst 2, 1) := by decide +kernel
theorem own_pd14 : parseMethodDescriptor "(I)V" = some ⟨[.int], none⟩ := by decide +kernel
theorem d12_2 : decode prog_9_method_6_code 2 = .ok (.invokevirtual 21, 3) := by decide +kernel
theorem d12_5 : decode prog_9_method_6_code 5 = .ok (.aload_n 0, 1) := by decide +kernel
theorem d12_6 : decode prog_9_method_6_code 6 = .ok (.getfield 9, 3) := by decide +kernel
theorem d12_9 : decode prog_9_method_6_code 9 = .ok (.aload_n 0, 1) := by decide +kernel
theorem d12_10 : decode prog_9_method_6_code 10 = .ok (.dup, 1) := by decide +kernel
theorem d12_11 : decode prog_9_method_6_code 11 = .ok (.getfield 29, 3) := by decide +kernel
theorem d12_14 : decode prog_9_method_6_code 14 = .ok (.dup_x1, 1) := by decide +kernel
theorem d12_15 : decode prog_9_method_6_code 15 = .ok (.iconst 1, 1) := by decide +kernel
theorem d12_16 : decode prog_9_method_6_code 16 = .ok (.iadd, 1) := by decide +kernel
theorem d12_17 : decode prog_9_method_6_code 17 = .ok (.putfield 29, 3) := by decide +kernel
theorem d12_20 : decode prog_9_method_6_code 20 = .ok (.bipush 47, 2) := by decide +kernel
theorem d12_22 : decode prog_9_method_6_code 22 = .ok (.bastore, 1) := by decide +kernel
theorem d12_23 : decode prog_9_method_6_code 23 = .ok (.aload_n 0, 1) := by decide +kernel
theorem d12_24 : decode prog_9_method_6_code 24 = .ok (.getfield 9, 3) := by decide +kernel
theorem d12_27 : decode prog_9_method_6_code 27 = .ok (.aload_n 0, 1) := by decide +kernel
theorem d12_28 : decode prog_9_method_6_code 28 = .ok (.dup, 1) := by decide +kernel
theorem d12_29 : decode prog_9_method_6_code 29 = .ok (.getfield 29, 3) := by decide +kernel
theorem d12_32 : decode prog_9_method_6_code 32 = .ok (.dup_x1, 1) := by decide +kernel
theorem d12_33 : decode prog_9_method_6_code 33 = .ok (.iconst 1, 1) := by decide +kernel
theorem d12_34 : decode prog_9_method_6_code 34 = .ok (.iadd, 1) := by decide +kernel
theorem d12_35 : decode prog_9_method_6_code 35 = .ok (.putfield 29, 3) := by decide +kernel
theorem d12_38 : decode prog_9_method_6_code 38 = .ok (.bipush 62, 2) := by decide +kernel
theorem d12_40 : decode prog_9_method_6_code 40 = .ok (.bastore, 1) := by decide +kernel
theorem d12_41 : decode prog_9_method_6_code 41 = .ok (.return_, 1) := by decide +kernel
def Q12 (Z : State) (a1 : Addr) (wb : Addr) (kb : ClassId) (N : Nat) (vs : List Value) (bl : Nat) (h0 : Heap) (n0 : Nat) (v : Option Value) (h : Heap) (L : List Loc) : Prop := v = none ∧ Fr n0 L ∧ Keep h0 h [a1, wb] ∧ (Exa Z h a1 "com/example/anagrafe/anagrafe/atom/Markup") ∧ (Fld Z h a1 "com/example/anagrafe/anagrafe/atom/Markup" "bytes" "[B" (.ref wb)) ∧ (Fld Z h a1 "com/example/anagrafe/anagrafe/atom/Markup" "size" "I" (.int (Int32.ofNat (N + 2)))) ∧ (Arv Z h wb kb .byte (Int32.ofNat bl) ((vs ++ [(.int (47 : Int32))]) ++ [(.int (62 : Int32))]) (.int (0 : Int32)))
set_option maxRecDepth 65536 in
set_option maxHeartbeats 40000000 in
theorem rm12 (l : Launch) (Z : State) (a0 : Array Value) (hw : ∀ d ∈ tables_1, d.before a0 Z = true) (ws : List Jvm.Cond) (a1 : Addr) (wb : Addr) (kb : ClassId) (N : Nat) (vs : List Value) (bl : Nat) (h0 : Heap) (n0 : Nat) (Z0 : n0 ≤ h0.size) (E_a1 : Exa Z h0 a1 "com/example/anagrafe/anagrafe/atom/Markup") (F_bytes_a1 : Fld Z h0 a1 "com/example/anagrafe/anagrafe/atom/Markup" "bytes" "[B" (.ref wb)) (F_size_a1 : Fld Z h0 a1 "com/example/anagrafe/anagrafe/atom/Markup" "size" "I" (.int (Int32.ofNat N))) (A_wb : Arv Z h0 wb kb .byte (Int32.ofNat bl) vs (.int (0 : Int32))) (g_a1 : n0 ≤ a1) (g_wb : n0 ≤ wb) (ne_a1_wb : a1 ≠ wb) (hB : 16384 ≤ bl ∧ bl ≤ 32768) (hN : vs.length = N) (hM : N ≤ 10000) :
    MetFree l (⟨"com/example/anagrafe/anagrafe/atom/Markup", "endEmpty", "()V"⟩ : MethodName) (head1 (Jvm.Cond.code (⟨"com/example/anagrafe/anagrafe/atom/Markup", "endEmpty", "()V"⟩ : MethodName) prog_9_method_6_code 1 none :: ws) ({ frames := 1, cells := 0, slots := 0, locals := 14 } : Room)) (fun a U => a = #[(.ref a1)] ∧ Z.Warmed39 U.vm ∧ U.heap = h0) (fun _ _ _ _ _ => True) (fun _ U o U' => ∃ v L, o = .returned v ∧ Q12 Z a1 wb kb N vs bl h0 n0 v U'.heap L ∧ FrameEnd U o U' L ({ frames := 1, cells := 0, slots := 0, locals := 14 } : Room).cells ({ frames := 1, cells := 0, slots := 0, locals := 14 } : Room).slots) := by
  refine MetFree.of_bodySF (plainFor_of_name own_pn_com_example_anagrafe_anagrafe_atom_Markup) hisR ?_
  intro p e s m args below meth c s₁ Bd hml0 hP hK
  obtain ⟨rfl, hZ, hh⟩ := hP
  have hx := Bd.exec
  have hby := Bd.bytes
  have hlk := Bd.notSynchronized
  have hml : c.maxLocals = 1 := hml0
  have hown : s.vm.findClass "com/example/anagrafe/anagrafe/atom/Markup" = some m.cls := findClass_of_methodNamed Bd.named
  have hnm := (name_of_methodNamed Bd.named Bd.method).1
  have X0 : Stand p l e ({ frames := 1, cells := 0, slots := 0, locals := 14 } : Room) s m #[(.ref a1)] below meth c s₁ [] 0 0 := Stand.of_body Bd
  have e0 : s₁.heap = h0 := by rw [← hh, Bd.state]; rfl
  have N0 := Fr.nil n0
  have K0 : Keep h0 h0 [a1, wb] := Keep.refl _ _
  show Go p e below (KQ s below (Q12 Z a1 wb kb N vs bl h0 n0) ({ frames := 1, cells := 0, slots := 0, locals := 14 } : Room).cells ({ frames := 1, cells := 0, slots := 0, locals := 14 } : Room).slots) _
  refine Go.body (T := s₁) (σ := s₁) (g' := (mkF m 0 #[.val (.ref a1)] [])) (ef_12 m a1) ?_
  refine g_aloadN X0 hx (hb hby d12_0) 1 rfl (v := (.ref a1)) rfl rfl ?_
  refine g_iconst X0 hx (hb hby d12_1) 2 rfl (2 : Int32) rfl ?_
  obtain ⟨cq89, q89, q89'⟩ := Exa.cell E_a1
  obtain ⟨_, _, ⟨T89, L89, k89, n89⟩, -, X89, ⟨Lc89, hQ89, l89, y89, z89⟩, st89⟩ := X0.privateBack hx (y := (⟨"com/example/anagrafe/anagrafe/atom/Markup", "room", "(I)V"⟩ : MethodName)) hown (mvT hZ (hw _ (List.mem_of_getElem? (i := 58) rfl))) (mvT hZ (hw _ (List.mem_of_getElem? (i := 59) rfl))) (own_selP (mvT hZ (hw _ (List.mem_of_getElem? (i := 45) rfl)) (args := #[])) (Cond.privateMethod_at (mvP hZ (hw _ (List.mem_of_getElem? (i := 60) rfl)) (args := #[]))) (mvT hZ (hw _ (List.mem_of_getElem? (i := 59) rfl))) (by decide)) (Cond.privateMethod_at (mvP hZ (hw _ (List.mem_of_getElem? (i := 60) rfl)) (args := #[]))) (mvT hZ (hw _ (List.mem_of_getElem? (i := 61) rfl))) (by decide) (backOf (W := 0) (rm13 l Z a0 hw [] a1 (2 : Int32) wb kb N vs bl h0 n0 Z0 E_a1 F_bytes_a1 F_size_a1 A_wb (own_nf (c := 12) (by decide) (by omega) (by omega))) hZ (hw _ (List.mem_of_getElem? (i := 61) rfl)) (hw _ (List.mem_of_getElem? (i := 46) rfl)) (by decide) (by decide)) (g := (mkF m 2 #[.val (.ref a1)] [(.int (2 : Int32)), (.ref a1)])) rfl (by rw [hml]; rfl) (Steps.refl _) (a := a1) (by rw [e0]; exact q89) q89' (argsL := [(.int (2 : Int32))]) (rest := []) (lenOf own_pd14 rfl) rfl (by show 2 * 0 + _ ≤ _; exact Nat.le_of_eq rfl) (hb hby d12_2) (fun _ _ => ⟨rfl, e0, (by decide : 0 + 0 ≤ _), (by decide : 0 + 0 ≤ _)⟩)
  dsimp only [Pt.U, Pt.locs, Pt.cells, Pt.slots] at X89 l89 y89 z89 st89 hQ89
  subst l89 y89 z89
  obtain ⟨rfl, Nq89, e89⟩ := hQ89
  refine Go.tr st89 ?_
  have N89 := Fr.app N0 Nq89
  show Go p e below _ (T89.setTop (mkF m 5 #[.val (.ref a1)] []))
  refine g_aloadN X89 hx (hb hby d12_5) 6 rfl (v := (.ref a1)) rfl rfl ?_
  obtain ⟨T90, X90, e90, st90⟩ := getF X89 hx hZ hown (host := "") (Or.inl (hw _ (List.mem_of_getElem? (i := 51) rfl))) Via.refl e89 F_bytes_a1 (g := (mkF m 6 #[.val (.ref a1)] [(.ref a1)])) rfl rfl (hb hby d12_6)
  refine Go.st st90 ?_
  show Go p e below _ (T90.setTop (mkF m 9 #[.val (.ref a1)] [(.ref wb)]))
  refine g_aloadN X90 hx (hb hby d12_9) 10 rfl (v := (.ref a1)) rfl rfl ?_
  refine g_dup X90 hx (hb hby d12_10) 11 rfl rfl ?_
  obtain ⟨T91, X91, e91, st91⟩ := getF X90 hx hZ hown (host := "") (Or.inl (hw _ (List.mem_of_getElem? (i := 62) rfl))) Via.refl e90 F_size_a1 (g := (mkF m 11 #[.val (.ref a1)] [(.ref a1), (.ref a1), (.ref wb)])) rfl rfl (hb hby d12_11)
  refine Go.st st91 ?_
  show Go p e below _ (T91.setTop (mkF m 14 #[.val (.ref a1)] [(.int (Int32.ofNat N)), (.ref a1), (.ref wb)]))
  refine g_dupx1 X91 hx (hb hby d12_14) 15 rfl rfl rfl ?_
  refine g_iconst X91 hx (hb hby d12_15) 16 rfl (1 : Int32) rfl ?_
  refine g_iadd X91 hx (hb hby d12_16) 17 rfl (Int32.ofNat (N + 1)) (own_up N) ?_
  obtain ⟨T92, h92, X92, e92, W92, st92⟩ := putF X91 hx hZ hown (host := "") (Or.inl (hw _ (List.mem_of_getElem? (i := 62) rfl))) Via.refl e91 F_size_a1 E_a1 (Or.inl (hw _ (List.mem_of_getElem? (i := 63) rfl))) (hw _ (List.mem_of_getElem? (i := 45) rfl)) (ty := .int) (by decide) rfl rfl (g := (mkF m 17 #[.val (.ref a1)] [(.int (Int32.ofNat (N + 1))), (.ref a1), (.int (Int32.ofNat N)), (.ref wb)])) rfl rfl (hb hby d12_17)
  refine Go.st st92 ?_
  have E_a1_93 : Exa Z h92 a1 "com/example/anagrafe/anagrafe/atom/Markup" := Exa.wr W92 E_a1
  have F_bytes_a1_93 : Fld Z h92 a1 "com/example/anagrafe/anagrafe/atom/Markup" "bytes" "[B" (.ref wb) := Fld.other W92 F_bytes_a1 (Or.inr (slot_ne (Or.inl (hw _ (List.mem_of_getElem? (i := 52) rfl))) (Or.inl (hw _ (List.mem_of_getElem? (i := 63) rfl))) (by decide) (t := (.array .byte)) (t' := .int) (by decide) (by decide)))
  have A_wb_93 : Arv Z h92 wb kb .byte (Int32.ofNat bl) vs (.int (0 : Int32)) := Arv.other A_wb W92 (Ne.symm ne_a1_wb)
  have F_size_a1_92w : Fld Z h92 a1 "com/example/anagrafe/anagrafe/atom/Markup" "size" "I" (.int (Int32.ofNat (N + 1))) := Fld.same W92 F_size_a1
  have K92 : Keep h0 h92 [a1, wb] := Keep.wr K0 W92 (Or.inl (List.mem_of_getElem? (i := 0) rfl))
  have N92 := Fr.snoc X92 N89 g_a1
  have Zs92 : n0 ≤ h92.size := by rw [W92.size]; exact Z0
  show Go p e below _ (T92.setTop (mkF m 20 #[.val (.ref a1)] [(.int (Int32.ofNat N)), (.ref wb)]))
  refine g_bipush X92 hx (hb hby d12_20) 22 rfl (47 : Int32) rfl ?_
  have Ap95 := Arv.pad A_wb_93 (pad_rep vs (.int (0 : Int32)) 1)
  obtain ⟨T94, h94, X94, e94, W94, B94, st94⟩ := g_bastore X92 hx (hb hby d12_22) hZ e92 Ap95 (own_in (by omega) (by omega)) (i := (N)) (own_cl (by omega)) (by rw [List.length_append, hN, List.length_replicate]; omega)  (L := #[.val (.ref a1)]) (S := [])
  refine Go.st st94 ?_
  have E_a1_96 : Exa Z h94 a1 "com/example/anagrafe/anagrafe/atom/Markup" := Exa.wr W94 E_a1_93
  have F_bytes_a1_96 : Fld Z h94 a1 "com/example/anagrafe/anagrafe/atom/Markup" "bytes" "[B" (.ref wb) := Fld.other W94 F_bytes_a1_93 (Or.inl ne_a1_wb)
  have F_size_a1_96 : Fld Z h94 a1 "com/example/anagrafe/anagrafe/atom/Markup" "size" "I" (.int (Int32.ofNat (N + 1))) := Fld.other W94 F_size_a1_92w (Or.inl ne_a1_wb)
  have Av_wb_94 : Arv Z h94 wb kb .byte (Int32.ofNat bl) (vs ++ [(.int (47 : Int32))]) (.int (0 : Int32)) := (by have q := B94; rw [own_snoc hN (.int (0 : Int32)) _] at q; exact q)
  have K94 : Keep h0 h94 [a1, wb] := Keep.wr K92 W94 (Or.inl (List.mem_of_getElem? (i := 1) rfl))
  have N94 := Fr.snoc X94 N92 g_wb
  have Zs94 : n0 ≤ h94.size := by rw [W94.size]; exact Zs92
  show Go p e below _ (T94.setTop (mkF m 23 #[.val (.ref a1)] []))
  refine g_aloadN X94 hx (hb hby d12_23) 24 rfl (v := (.ref a1)) rfl rfl ?_
  obtain ⟨T97, X97, e97, st97⟩ := getF X94 hx hZ hown (host := "") (Or.inl (hw _ (List.mem_of_getElem? (i := 51) rfl))) Via.refl e94 F_bytes_a1_96 (g := (mkF m 24 #[.val (.ref a1)] [(.ref a1)])) rfl rfl (hb hby d12_24)
  refine Go.st st97 ?_
  show Go p e below _ (T97.setTop (mkF m 27 #[.val (.ref a1)] [(.ref wb)]))
  refine g_aloadN X97 hx (hb hby d12_27) 28 rfl (v := (.ref a1)) rfl rfl ?_
  refine g_dup X97 hx (hb hby d12_28) 29 rfl rfl ?_
  obtain ⟨T98, X98, e98, st98⟩ := getF X97 hx hZ hown (host := "") (Or.inl (hw _ (List.mem_of_getElem? (i := 62) rfl))) Via.refl e97 F_size_a1_96 (g := (mkF m 29 #[.val (.ref a1)] [(.ref a1), (.ref a1), (.ref wb)])) rfl rfl (hb hby d12_29)
  refine Go.st st98 ?_
  show Go p e below _ (T98.setTop (mkF m 32 #[.val (.ref a1)] [(.int (Int32.ofNat (N + 1))), (.ref a1), (.ref wb)]))
  refine g_dupx1 X98 hx (hb hby d12_32) 33 rfl rfl rfl ?_
  refine g_iconst X98 hx (hb hby d12_33) 34 rfl (1 : Int32) rfl ?_
  refine g_iadd X98 hx (hb hby d12_34) 35 rfl (Int32.ofNat (N + 2)) (own_up (N + 1)) ?_
  obtain ⟨T99, h99, X99, e99, W99, st99⟩ := putF X98 hx hZ hown (host := "") (Or.inl (hw _ (List.mem_of_getElem? (i := 62) rfl))) Via.refl e98 F_size_a1_96 E_a1_96 (Or.inl (hw _ (List.mem_of_getElem? (i := 63) rfl))) (hw _ (List.mem_of_getElem? (i := 45) rfl)) (ty := .int) (by decide) rfl rfl (g := (mkF m 35 #[.val (.ref a1)] [(.int (Int32.ofNat (N + 2))), (.ref a1), (.int (Int32.ofNat (N + 1))), (.ref wb)])) rfl rfl (hb hby d12_35)
  refine Go.st st99 ?_
  have E_a1_100 : Exa Z h99 a1 "com/example/anagrafe/anagrafe/atom/Markup" := Exa.wr W99 E_a1_96
  have F_bytes_a1_100 : Fld Z h99 a1 "com/example/anagrafe/anagrafe/atom/Markup" "bytes" "[B" (.ref wb) := Fld.other W99 F_bytes_a1_96 (Or.inr (slot_ne (Or.inl (hw _ (List.mem_of_getElem? (i := 52) rfl))) (Or.inl (hw _ (List.mem_of_getElem? (i := 63) rfl))) (by decide) (t := (.array .byte)) (t' := .int) (by decide) (by decide)))
  have A_wb_100 : Arv Z h99 wb kb .byte (Int32.ofNat bl) (vs ++ [(.int (47 : Int32))]) (.int (0 : Int32)) := Arv.other Av_wb_94 W99 (Ne.symm ne_a1_wb)
  have F_size_a1_99w : Fld Z h99 a1 "com/example/anagrafe/anagrafe/atom/Markup" "size" "I" (.int (Int32.ofNat (N + 2))) := Fld.same W99 F_size_a1_96
  have K99 : Keep h0 h99 [a1, wb] := Keep.wr K94 W99 (Or.inl (List.mem_of_getElem? (i := 0) rfl))
  have N99 := Fr.snoc X99 N94 g_a1
  have Zs99 : n0 ≤ h99.size := by rw [W99.size]; exact Zs94
  show Go p e below _ (T99.setTop (mkF m 38 #[.val (.ref a1)] [(.int (Int32.ofNat (N + 1))), (.ref wb)]))
  refine g_bipush X99 hx (hb hby d12_38) 40 rfl (62 : Int32) rfl ?_
  have Ap102 := Arv.pad A_wb_100 (pad_rep (vs ++ [(.int (47 : Int32))]) (.int (0 : Int32)) 1)
  obtain ⟨T101, h101, X101, e101, W101, B101, st101⟩ := g_bastore X99 hx (hb hby d12_40) hZ e99 Ap102 (own_in (by omega) (by omega)) (i := (N + 1)) (own_cl (by omega)) (by rw [List.length_append, (own_len hN _), List.length_replicate]; omega)  (L := #[.val (.ref a1)]) (S := [])
  refine Go.st st101 ?_
  have E_a1_103 : Exa Z h101 a1 "com/example/anagrafe/anagrafe/atom/Markup" := Exa.wr W101 E_a1_100
  have F_bytes_a1_103 : Fld Z h101 a1 "com/example/anagrafe/anagrafe/atom/Markup" "bytes" "[B" (.ref wb) := Fld.other W101 F_bytes_a1_100 (Or.inl ne_a1_wb)
  have F_size_a1_103 : Fld Z h101 a1 "com/example/anagrafe/anagrafe/atom/Markup" "size" "I" (.int (Int32.ofNat (N + 2))) := Fld.other W101 F_size_a1_99w (Or.inl ne_a1_wb)
  have Av_wb_101 : Arv Z h101 wb kb .byte (Int32.ofNat bl) ((vs ++ [(.int (47 : Int32))]) ++ [(.int (62 : Int32))]) (.int (0 : Int32)) := (by have q := B101; rw [own_snoc (own_len hN _) (.int (0 : Int32)) _] at q; exact q)
  have K101 : Keep h0 h101 [a1, wb] := Keep.wr K99 W101 (Or.inl (List.mem_of_getElem? (i := 1) rfl))
  have N101 := Fr.snoc X101 N99 g_wb
  have Zs101 : n0 ≤ h101.size := by rw [W101.size]; exact Zs99
  show Go p e below _ (T101.setTop (mkF m 41 #[.val (.ref a1)] []))
  refine Go.retV X101 hx hlk Bd.returns (hb hby d12_41) (by decide) (by decide) ?_
  show Q12 Z a1 wb kb N vs bl h0 n0 _ T101.heap _
  rw [e101]
  exact ⟨rfl, N101, K101, E_a1_103, F_bytes_a1_103, F_size_a1_103, Av_wb_101⟩
theorem ef_39 (m : MethodId) (x0 : Addr) (x1 : Addr) : entryFrame m #[(.ref x0), (.ref x1)] 5 = mkF m 0 #[.val (.ref x0), .val (.ref x1), .unset, .unset, .unset] [] := by first | (simp [entryFrame, mkF, argsToLocals, Value.category]; done) | rfl
theorem d39_0 : decode prog_9_method_11_code 0 = .ok (.aload_n 0, 1) := by decide +kernel
theorem d39_1 : decode prog_9_method_11_code 1 = .ok (.getfield 9, 3) := by decide +kernel
theorem d39_4 : decode prog_9_method_11_code 4 = .ok (.astore_n 2, 1) := by decide +kernel
theorem d39_5 : decode prog_9_method_11_code 5 = .ok (.aload_n 0, 1) := by decide +kernel
theorem d39_6 : decode prog_9_method_11_code 6 = .ok (.getfield 29, 3) := by decide +kernel
theorem d39_9 : decode prog_9_method_11_code 9 = .ok (.istore_n 3, 1) := by decide +kernel
theorem d39_10 : decode prog_9_method_11_code 10 = .ok (.iconst 0, 1) := by decide +kernel
theorem d39_11 : decode prog_9_method_11_code 11 = .ok (.istore 4, 2) := by decide +kernel
theorem d39_13 : decode prog_9_method_11_code 13 = .ok (.iload 4, 2) := by decide +kernel
theorem d39_15 : decode prog_9_method_11_code 15 = .ok (.aload_n 1, 1) := by decide +kernel
theorem own_pd15 : parseMethodDescriptor "()I" = some ⟨[], some .int⟩ := by decide +kernel
theorem d39_16 : decode prog_9_method_11_code 16 = .ok (.invokevirtual 15, 3) := by decide +kernel
theorem d39_19 : decode prog_9_method_11_code 19 = .ok (.if_icmp .ge 22, 3) := by decide +kernel
theorem d39_22 : decode prog_9_method_11_code 22 = .ok (.aload_n 2, 1) := by decide +kernel
theorem d39_23 : decode prog_9_method_11_code 23 = .ok (.iload_n 3, 1) := by decide +kernel
theorem d39_24 : decode prog_9_method_11_code 24 = .ok (.iinc 3 1, 3) := by decide +kernel
theorem d39_27 : decode prog_9_method_11_code 27 = .ok (.aload_n 1, 1) := by decide +kernel
theorem d39_28 : decode prog_9_method_11_code 28 = .ok (.iload 4, 2) := by decide +kernel
theorem own_pd16 : parseMethodDescriptor "(I)C" = some ⟨[.int], some .char⟩ := by decide +kernel
theorem d39_30 : decode prog_9_method_11_code 30 = .ok (.invokevirtual 58, 3) := by decide +kernel
theorem d39_33 : decode prog_9_method_11_code 33 = .ok (.i2b, 1) := by decide +kernel
theorem d39_34 : decode prog_9_method_11_code 34 = .ok (.bastore, 1) := by decide +kernel
theorem d39_35 : decode prog_9_method_11_code 35 = .ok (.iinc 4 1, 3) := by decide +kernel
theorem d39_38 : decode prog_9_method_11_code 38 = .ok (.goto (-25), 3) := by decide +kernel
theorem d39_41 : decode prog_9_method_11_code 41 = .ok (.aload_n 0, 1) := by decide +kernel
theorem d39_42 : decode prog_9_method_11_code 42 = .ok (.iload_n 3, 1) := by decide +kernel
theorem d39_43 : decode prog_9_method_11_code 43 = .ok (.putfield 29, 3) := by decide +kernel
theorem d39_46 : decode prog_9_method_11_code 46 = .ok (.return_, 1) := by decide +kernel
def Q39 (Z : State) (a1 : Addr) (a2 : Addr) (wb : Addr) (kb : ClassId) (N : Nat) (vs : List Value) (bl : Nat) (cs : Int32) (sf : Value) (sb : Addr) (ks : ClassId) (c1 : Int32) (h0 : Heap) (n0 : Nat) (v : Option Value) (h : Heap) (L : List Loc) : Prop := v = none ∧ Fr n0 L ∧ Keep h0 h [a1, wb] ∧ (Exa Z h a1 "com/example/anagrafe/anagrafe/atom/Markup") ∧ (Fld Z h a1 "com/example/anagrafe/anagrafe/atom/Markup" "bytes" "[B" (.ref wb)) ∧ (Fld Z h a1 "com/example/anagrafe/anagrafe/atom/Markup" "size" "I" (.int (Int32.ofNat (N + 1)))) ∧ (Arv Z h wb kb .byte (Int32.ofNat bl) (vs ++ [(.int c1.toInt8.toInt32)]) (.int (0 : Int32)))
set_option maxRecDepth 65536 in
set_option maxHeartbeats 40000000 in
theorem rm39 (l : Launch) (Z : State) (a0 : Array Value) (hw : ∀ d ∈ tables_1, d.before a0 Z = true) (ws : List Jvm.Cond) (a1 : Addr) (a2 : Addr) (wb : Addr) (kb : ClassId) (N : Nat) (vs : List Value) (bl : Nat) (cs : Int32) (sf : Value) (sb : Addr) (ks : ClassId) (c1 : Int32) (h0 : Heap) (n0 : Nat) (Z0 : n0 ≤ h0.size) (S_COMPACT_STRINGS : Sta Z h0 "java/lang/String" "COMPACT_STRINGS" "Z" (.int cs)) (S_SIOOBE_FORMATTER : Sta Z h0 "jdk/internal/util/Preconditions" "SIOOBE_FORMATTER" "Ljava/util/function/BiFunction;" sf) (E_a1 : Exa Z h0 a1 "com/example/anagrafe/anagrafe/atom/Markup") (F_bytes_a1 : Fld Z h0 a1 "com/example/anagrafe/anagrafe/atom/Markup" "bytes" "[B" (.ref wb)) (F_size_a1 : Fld Z h0 a1 "com/example/anagrafe/anagrafe/atom/Markup" "size" "I" (.int (Int32.ofNat N))) (A_wb : Arv Z h0 wb kb .byte (Int32.ofNat bl) vs (.int (0 : Int32))) (g_a1 : n0 ≤ a1) (g_wb : n0 ≤ wb) (ne_a1_wb : a1 ≠ wb) (E_a2 : Exa Z h0 a2 "java/lang/String") (F_value_a2 : Fld Z h0 a2 "java/lang/String" "value" "[B" (.ref sb)) (F_coder_a2 : Fld Z h0 a2 "java/lang/String" "coder" "B" (.int (0 : Int32))) (A_sb : Arv Z h0 sb ks .byte (1 : Int32) ([(.int c1.toInt8.toInt32)]) (.int (0 : Int32))) (ne_a1_a2 : a1 ≠ a2) (ne_a1_sb : a1 ≠ sb) (ne_wb_a2 : wb ≠ a2) (ne_wb_sb : wb ≠ sb) (hB : 16384 ≤ bl ∧ bl ≤ 32768) (hcs : ¬ cs = 0) (hsf : sf.isRef = true) (hN : vs.length = N) (hM : N ≤ 10000) :
    MetFree l (⟨"com/example/anagrafe/anagrafe/atom/Markup", "ascii", "(Ljava/lang/String;)V"⟩ : MethodName) (head1 (Jvm.Cond.code (⟨"com/example/anagrafe/anagrafe/atom/Markup", "ascii", "(Ljava/lang/String;)V"⟩ : MethodName) prog_9_method_11_code 5 none :: ws) ({ frames := 4, cells := 0, slots := 0, locals := 55 } : Room)) (fun a U => a = #[(.ref a1), (.ref a2)] ∧ Z.Warmed39 U.vm ∧ U.heap = h0) (fun _ _ _ _ _ => True) (fun _ U o U' => ∃ v L, o = .returned v ∧ Q39 Z a1 a2 wb kb N vs bl cs sf sb ks c1 h0 n0 v U'.heap L ∧ FrameEnd U o U' L ({ frames := 4, cells := 0, slots := 0, locals := 55 } : Room).cells ({ frames := 4, cells := 0, slots := 0, locals := 55 } : Room).slots) := by
  refine MetFree.of_bodySF (plainFor_of_name own_pn_com_example_anagrafe_anagrafe_atom_Markup) hisR ?_
  intro p e s m args below meth c s₁ Bd hml0 hP hK
  obtain ⟨rfl, hZ, hh⟩ := hP
  have hx := Bd.exec
  have hby := Bd.bytes
  have hlk := Bd.notSynchronized
  have hml : c.maxLocals = 5 := hml0
  have hown : s.vm.findClass "com/example/anagrafe/anagrafe/atom/Markup" = some m.cls := findClass_of_methodNamed Bd.named
  have hnm := (name_of_methodNamed Bd.named Bd.method).1
  have X0 : Stand p l e ({ frames := 4, cells := 0, slots := 0, locals := 55 } : Room) s m #[(.ref a1), (.ref a2)] below meth c s₁ [] 0 0 := Stand.of_body Bd
  have e0 : s₁.heap = h0 := by rw [← hh, Bd.state]; rfl
  have N0 := Fr.nil n0
  have K0 : Keep h0 h0 [a1, wb] := Keep.refl _ _
  show Go p e below (KQ s below (Q39 Z a1 a2 wb kb N vs bl cs sf sb ks c1 h0 n0) ({ frames := 4, cells := 0, slots := 0, locals := 55 } : Room).cells ({ frames := 4, cells := 0, slots := 0, locals := 55 } : Room).slots) _
  refine Go.body (T := s₁) (σ := s₁) (g' := (mkF m 0 #[.val (.ref a1), .val (.ref a2), .unset, .unset, .unset] [])) (ef_39 m a1 a2) ?_
  refine g_aloadN X0 hx (hb hby d39_0) 1 rfl (v := (.ref a1)) rfl rfl ?_
  obtain ⟨T104, X104, e104, st104⟩ := getF X0 hx hZ hown (host := "") (Or.inl (hw _ (List.mem_of_getElem? (i := 51) rfl))) Via.refl e0 F_bytes_a1 (g := (mkF m 1 #[.val (.ref a1), .val (.ref a2), .unset, .unset, .unset] [(.ref a1)])) rfl rfl (hb hby d39_1)
  refine Go.st st104 ?_
  show Go p e below _ (T104.setTop (mkF m 4 #[.val (.ref a1), .val (.ref a2), .unset, .unset, .unset] [(.ref wb)]))
  refine g_astoreN X104 hx (hb hby d39_4) 5 rfl rfl #[.val (.ref a1), .val (.ref a2), .val (.ref wb), .unset, .unset] rfl ?_
  refine g_aloadN X104 hx (hb hby d39_5) 6 rfl (v := (.ref a1)) rfl rfl ?_
  obtain ⟨T105, X105, e105, st105⟩ := getF X104 hx hZ hown (host := "") (Or.inl (hw _ (List.mem_of_getElem? (i := 62) rfl))) Via.refl e104 F_size_a1 (g := (mkF m 6 #[.val (.ref a1), .val (.ref a2), .val (.ref wb), .unset, .unset] [(.ref a1)])) rfl rfl (hb hby d39_6)
  refine Go.st st105 ?_
  show Go p e below _ (T105.setTop (mkF m 9 #[.val (.ref a1), .val (.ref a2), .val (.ref wb), .unset, .unset] [(.int (Int32.ofNat N))]))
  refine g_istoreN X105 hx (hb hby d39_9) 10 rfl #[.val (.ref a1), .val (.ref a2), .val (.ref wb), .val (.int (Int32.ofNat N)), .unset] rfl ?_
  refine g_iconst X105 hx (hb hby d39_10) 11 rfl (0 : Int32) rfl ?_
  refine g_istore X105 hx (hb hby d39_11) 13 rfl #[.val (.ref a1), .val (.ref a2), .val (.ref wb), .val (.int (Int32.ofNat N)), .val (.int (0 : Int32))] rfl ?_
  refine g_iload X105 hx (hb hby d39_13) 15 rfl (v := (0 : Int32)) rfl ?_
  refine g_aloadN X105 hx (hb hby d39_15) 16 rfl (v := (.ref a2)) rfl rfl ?_
  obtain ⟨cq106, kq106, q106a, q106b, q106c⟩ := isOf hZ e105 E_a2
  obtain ⟨_, _, ⟨T106, L106, k106, n106⟩, -, X106, ⟨Lc106, hQ106, l106, y106, z106⟩, st106⟩ := X105.virtualBack hx (y := (⟨"java/lang/String", "length", "()I"⟩ : MethodName)) (z := (⟨"java/lang/String", "length", "()I"⟩ : MethodName)) hown (mvT hZ (hw _ (List.mem_of_getElem? (i := 86) rfl))) (mvT hZ (hw _ (List.mem_of_getElem? (i := 87) rfl))) (notFace_of_selects (args := #[]) (mvT hZ (hw _ (List.mem_of_getElem? (i := 89) rfl)))) (mvT hZ (hw _ (List.mem_of_getElem? (i := 89) rfl))) (mvT hZ (hw _ (List.mem_of_getElem? (i := 88) rfl))) (by decide) (backOf (W := 1) (rm18 l Z a0 hw [] a2 cs sb ks (1 : Int32) ([(.int c1.toInt8.toInt32)]) h0 n0 Z0 S_COMPACT_STRINGS E_a2 F_value_a2 F_coder_a2 A_sb hcs) hZ (hw _ (List.mem_of_getElem? (i := 90) rfl)) (hw _ (List.mem_of_getElem? (i := 2) rfl)) (by decide) (by decide)) q106a q106c (g := (mkF m 16 #[.val (.ref a1), .val (.ref a2), .val (.ref wb), .val (.int (Int32.ofNat N)), .val (.int (0 : Int32))] [(.ref a2), (.int (0 : Int32))])) rfl (by rw [hml]; rfl) (Steps.refl _) (argsL := []) (rest := [(.int (0 : Int32))]) (lenOf own_pd15 rfl) rfl (by show 2 * 0 + _ ≤ _; exact Nat.le_of_eq rfl) (hb hby d39_16) (fun _ _ => ⟨rfl, e105, (by decide : 0 + 0 ≤ _), (by decide : 0 + 0 ≤ _)⟩)
  dsimp only [Pt.U, Pt.locs, Pt.cells, Pt.slots] at X106 l106 y106 z106 st106 hQ106
  subst l106 y106 z106
  obtain ⟨rfl, Nq106, e106⟩ := hQ106
  refine Go.tr st106 ?_
  have N106 := Fr.app N0 Nq106
  show Go p e below _ (T106.setTop (mkF m 19 #[.val (.ref a1), .val (.ref a2), .val (.ref wb), .val (.int (Int32.ofNat N)), .val (.int (0 : Int32))] [(.int (1 : Int32)), (.int (0 : Int32))]))
  refine g_icmp_ge X106 hx (hb hby d39_19) 41 22 (by decide) (by decide) rfl (fun hc19 => False.elim (absurd (by decide) hc19)) (fun hc19 => ?_)
  refine g_aloadN X106 hx (hb hby d39_22) 23 rfl (v := (.ref wb)) rfl rfl ?_
  refine g_iloadN X106 hx (hb hby d39_23) 24 rfl (v := (Int32.ofNat N)) rfl ?_
  refine g_iinc X106 hx (hb hby d39_24) 27 rfl (x := (Int32.ofNat N)) rfl (Int32.ofNat (N + 1)) (own_up N) #[.val (.ref a1), .val (.ref a2), .val (.ref wb), .val (.int (Int32.ofNat (N + 1))), .val (.int (0 : Int32))] rfl ?_
  refine g_aloadN X106 hx (hb hby d39_27) 28 rfl (v := (.ref a2)) rfl rfl ?_
  refine g_iload X106 hx (hb hby d39_28) 30 rfl (v := (0 : Int32)) rfl ?_
  obtain ⟨cq107, kq107, q107a, q107b, q107c⟩ := isOf hZ e106 E_a2
  obtain ⟨_, _, ⟨T107, L107, k107, n107⟩, -, X107, ⟨Lc107, hQ107, l107, y107, z107⟩, st107⟩ := X106.virtualBack hx (y := (⟨"java/lang/String", "charAt", "(I)C"⟩ : MethodName)) (z := (⟨"java/lang/String", "charAt", "(I)C"⟩ : MethodName)) hown (mvT hZ (hw _ (List.mem_of_getElem? (i := 197) rfl))) (mvT hZ (hw _ (List.mem_of_getElem? (i := 112) rfl))) (notFace_of_selects (args := #[]) (mvT hZ (hw _ (List.mem_of_getElem? (i := 114) rfl)))) (mvT hZ (hw _ (List.mem_of_getElem? (i := 114) rfl))) (mvT hZ (hw _ (List.mem_of_getElem? (i := 113) rfl))) (by decide) (backOf (W := 2) (rm22 l Z a0 hw [] a2 (0 : Int32) cs sf sb ks (1 : Int32) ([(.int c1.toInt8.toInt32)]) c1.toInt8.toInt32 h0 n0 Z0 S_COMPACT_STRINGS S_SIOOBE_FORMATTER E_a2 F_value_a2 F_coder_a2 A_sb hcs hsf (by decide) rfl) hZ (hw _ (List.mem_of_getElem? (i := 115) rfl)) (hw _ (List.mem_of_getElem? (i := 2) rfl)) (by decide) (by decide)) q107a q107c (g := (mkF m 30 #[.val (.ref a1), .val (.ref a2), .val (.ref wb), .val (.int (Int32.ofNat (N + 1))), .val (.int (0 : Int32))] [(.int (0 : Int32)), (.ref a2), (.int (Int32.ofNat N)), (.ref wb)])) rfl (by rw [hml]; rfl) (Steps.refl _) (argsL := [(.int (0 : Int32))]) (rest := [(.int (Int32.ofNat N)), (.ref wb)]) (lenOf own_pd16 rfl) rfl (by show 2 * 0 + _ ≤ _; exact Nat.le_of_eq rfl) (hb hby d39_30) (fun _ _ => ⟨rfl, e106, (by decide : 0 + 0 ≤ _), (by decide : 0 + 0 ≤ _)⟩)
  dsimp only [Pt.U, Pt.locs, Pt.cells, Pt.slots] at X107 l107 y107 z107 st107 hQ107
  subst l107 y107 z107
  obtain ⟨rfl, Nq107, e107⟩ := hQ107
  refine Go.tr st107 ?_
  have N107 := Fr.app N106 Nq107
  show Go p e below _ (T107.setTop (mkF m 33 #[.val (.ref a1), .val (.ref a2), .val (.ref wb), .val (.int (Int32.ofNat (N + 1))), .val (.int (0 : Int32))] [(.int (c1.toInt8.toInt32 &&& (255 : Int32))), (.int (Int32.ofNat N)), (.ref wb)]))
  refine g_i2b X107 hx (hb hby d39_33) 34 rfl (c1.toInt8.toInt32 &&& (255 : Int32)).toInt8.toInt32 rfl ?_
  have Ap109 := Arv.pad A_wb (pad_rep vs (.int (0 : Int32)) 1)
  obtain ⟨T108, h108, X108, e108, W108, B108, st108⟩ := g_bastore X107 hx (hb hby d39_34) hZ e107 Ap109 (own_in (by omega) (by omega)) (i := (N)) (own_cl (by omega)) (by rw [List.length_append, hN, List.length_replicate]; omega)  (L := #[.val (.ref a1), .val (.ref a2), .val (.ref wb), .val (.int (Int32.ofNat (N + 1))), .val (.int (0 : Int32))]) (S := [])
  refine Go.st st108 ?_
  have S_COMPACT_STRINGS_110 : Sta Z h108 "java/lang/String" "COMPACT_STRINGS" "Z" (.int cs) := Sta.wr W108 S_COMPACT_STRINGS
  have S_SIOOBE_FORMATTER_110 : Sta Z h108 "jdk/internal/util/Preconditions" "SIOOBE_FORMATTER" "Ljava/util/function/BiFunction;" sf := Sta.wr W108 S_SIOOBE_FORMATTER
  have E_a1_110 : Exa Z h108 a1 "com/example/anagrafe/anagrafe/atom/Markup" := Exa.wr W108 E_a1
  have F_bytes_a1_110 : Fld Z h108 a1 "com/example/anagrafe/anagrafe/atom/Markup" "bytes" "[B" (.ref wb) := Fld.other W108 F_bytes_a1 (Or.inl ne_a1_wb)
  have F_size_a1_110 : Fld Z h108 a1 "com/example/anagrafe/anagrafe/atom/Markup" "size" "I" (.int (Int32.ofNat N)) := Fld.other W108 F_size_a1 (Or.inl ne_a1_wb)
  have Av_wb_108 : Arv Z h108 wb kb .byte (Int32.ofNat bl) (vs ++ [(.int c1.toInt8.toInt32)]) (.int (0 : Int32)) := (by have q := B108; rw [own_snoc hN (.int (0 : Int32)) _, own_b2] at q; exact q)
  have K108 : Keep h0 h108 [a1, wb] := Keep.wr K0 W108 (Or.inl (List.mem_of_getElem? (i := 1) rfl))
  have N108 := Fr.snoc X108 N107 g_wb
  have Zs108 : n0 ≤ h108.size := by rw [W108.size]; exact Z0
  show Go p e below _ (T108.setTop (mkF m 35 #[.val (.ref a1), .val (.ref a2), .val (.ref wb), .val (.int (Int32.ofNat (N + 1))), .val (.int (0 : Int32))] []))
  refine g_iinc X108 hx (hb hby d39_35) 38 rfl (x := (0 : Int32)) rfl ((0 : Int32) + (1 : Int32)) rfl #[.val (.ref a1), .val (.ref a2), .val (.ref wb), .val (.int (Int32.ofNat (N + 1))), .val (.int ((0 : Int32) + (1 : Int32)))] rfl ?_
  refine g_goto X108 hx (hb hby d39_38) 13 (by decide) (by decide) ?_
  refine g_iload X108 hx (hb hby d39_13) 15 rfl (v := ((0 : Int32) + (1 : Int32))) rfl ?_
  refine g_aloadN X108 hx (hb hby d39_15) 16 rfl (v := (.ref a2)) rfl rfl ?_
  obtain ⟨cq111, kq111, q111a, q111b, q111c⟩ := isOf hZ e108 (Exa.keep E_a2 K108)
  obtain ⟨_, _, ⟨T111, L111, k111, n111⟩, -, X111, ⟨Lc111, hQ111, l111, y111, z111⟩, st111⟩ := X108.virtualBack hx (y := (⟨"java/lang/String", "length", "()I"⟩ : MethodName)) (z := (⟨"java/lang/String", "length", "()I"⟩ : MethodName)) hown (mvT hZ (hw _ (List.mem_of_getElem? (i := 86) rfl))) (mvT hZ (hw _ (List.mem_of_getElem? (i := 87) rfl))) (notFace_of_selects (args := #[]) (mvT hZ (hw _ (List.mem_of_getElem? (i := 89) rfl)))) (mvT hZ (hw _ (List.mem_of_getElem? (i := 89) rfl))) (mvT hZ (hw _ (List.mem_of_getElem? (i := 88) rfl))) (by decide) (backOf (W := 1) (rm18 l Z a0 hw [] a2 cs sb ks (1 : Int32) ([(.int c1.toInt8.toInt32)]) h108 n0 Zs108 S_COMPACT_STRINGS_110 (Exa.keep E_a2 K108) (Fld.keep F_value_a2 K108 (ninS (Ne.symm ne_a1_a2) (ninS (Ne.symm ne_wb_a2) nin0))) (Fld.keep F_coder_a2 K108 (ninS (Ne.symm ne_a1_a2) (ninS (Ne.symm ne_wb_a2) nin0))) (Arv.keep A_sb K108 (ninS (Ne.symm ne_a1_sb) (ninS (Ne.symm ne_wb_sb) nin0))) hcs) hZ (hw _ (List.mem_of_getElem? (i := 90) rfl)) (hw _ (List.mem_of_getElem? (i := 2) rfl)) (by decide) (by decide)) q111a q111c (g := (mkF m 16 #[.val (.ref a1), .val (.ref a2), .val (.ref wb), .val (.int (Int32.ofNat (N + 1))), .val (.int ((0 : Int32) + (1 : Int32)))] [(.ref a2), (.int ((0 : Int32) + (1 : Int32)))])) rfl (by rw [hml]; rfl) (Steps.refl _) (argsL := []) (rest := [(.int ((0 : Int32) + (1 : Int32)))]) (lenOf own_pd15 rfl) rfl (by show 2 * 0 + _ ≤ _; exact Nat.le_of_eq rfl) (hb hby d39_16) (fun _ _ => ⟨rfl, e108, (by decide : 0 + 0 ≤ _), (by decide : 0 + 0 ≤ _)⟩)
  dsimp only [Pt.U, Pt.locs, Pt.cells, Pt.slots] at X111 l111 y111 z111 st111 hQ111
  subst l111 y111 z111
  obtain ⟨rfl, Nq111, e111⟩ := hQ111
  refine Go.tr st111 ?_
  have N111 := Fr.app N108 Nq111
  show Go p e below _ (T111.setTop (mkF m 19 #[.val (.ref a1), .val (.ref a2), .val (.ref wb), .val (.int (Int32.ofNat (N + 1))), .val (.int ((0 : Int32) + (1 : Int32)))] [(.int (1 : Int32)), (.int ((0 : Int32) + (1 : Int32)))]))
  refine g_icmp_ge X111 hx (hb hby d39_19) 41 22 (by decide) (by decide) rfl (fun hc19 => ?_) (fun hc19 => False.elim (absurd hc19 (by decide)))
  refine g_aloadN X111 hx (hb hby d39_41) 42 rfl (v := (.ref a1)) rfl rfl ?_
  refine g_iloadN X111 hx (hb hby d39_42) 43 rfl (v := (Int32.ofNat (N + 1))) rfl ?_
  obtain ⟨T112, h112, X112, e112, W112, st112⟩ := putF X111 hx hZ hown (host := "") (Or.inl (hw _ (List.mem_of_getElem? (i := 62) rfl))) Via.refl e111 F_size_a1_110 E_a1_110 (Or.inl (hw _ (List.mem_of_getElem? (i := 63) rfl))) (hw _ (List.mem_of_getElem? (i := 45) rfl)) (ty := .int) (by decide) rfl rfl (g := (mkF m 43 #[.val (.ref a1), .val (.ref a2), .val (.ref wb), .val (.int (Int32.ofNat (N + 1))), .val (.int ((0 : Int32) + (1 : Int32)))] [(.int (Int32.ofNat (N + 1))), (.ref a1)])) rfl rfl (hb hby d39_43)
  refine Go.st st112 ?_
  have S_COMPACT_STRINGS_113 : Sta Z h112 "java/lang/String" "COMPACT_STRINGS" "Z" (.int cs) := Sta.wr W112 S_COMPACT_STRINGS_110
  have S_SIOOBE_FORMATTER_113 : Sta Z h112 "jdk/internal/util/Preconditions" "SIOOBE_FORMATTER" "Ljava/util/function/BiFunction;" sf := Sta.wr W112 S_SIOOBE_FORMATTER_110
  have E_a1_113 : Exa Z h112 a1 "com/example/anagrafe/anagrafe/atom/Markup" := Exa.wr W112 E_a1_110
  have F_bytes_a1_113 : Fld Z h112 a1 "com/example/anagrafe/anagrafe/atom/Markup" "bytes" "[B" (.ref wb) := Fld.other W112 F_bytes_a1_110 (Or.inr (slot_ne (Or.inl (hw _ (List.mem_of_getElem? (i := 52) rfl))) (Or.inl (hw _ (List.mem_of_getElem? (i := 63) rfl))) (by decide) (t := (.array .byte)) (t' := .int) (by decide) (by decide)))
  have A_wb_113 : Arv Z h112 wb kb .byte (Int32.ofNat bl) (vs ++ [(.int c1.toInt8.toInt32)]) (.int (0 : Int32)) := Arv.other Av_wb_108 W112 (Ne.symm ne_a1_wb)
  have F_size_a1_112w : Fld Z h112 a1 "com/example/anagrafe/anagrafe/atom/Markup" "size" "I" (.int (Int32.ofNat (N + 1))) := Fld.same W112 F_size_a1_110
  have K112 : Keep h0 h112 [a1, wb] := Keep.wr K108 W112 (Or.inl (List.mem_of_getElem? (i := 0) rfl))
  have N112 := Fr.snoc X112 N111 g_a1
  have Zs112 : n0 ≤ h112.size := by rw [W112.size]; exact Zs108
  show Go p e below _ (T112.setTop (mkF m 46 #[.val (.ref a1), .val (.ref a2), .val (.ref wb), .val (.int (Int32.ofNat (N + 1))), .val (.int ((0 : Int32) + (1 : Int32)))] []))
  refine Go.retV X112 hx hlk Bd.returns (hb hby d39_46) (by decide) (by decide) ?_
  show Q39 Z a1 a2 wb kb N vs bl cs sf sb ks c1 h0 n0 _ T112.heap _
  rw [e112]
  exact ⟨rfl, N112, K112, E_a1_113, F_bytes_a1_113, F_size_a1_112w, A_wb_113⟩
theorem ef_38 (m : MethodId) (x0 : Addr) (x1 : Addr) (x2 : Addr) : entryFrame m #[(.ref x0), (.ref x1), (.ref x2)] 3 = mkF m 0 #[.val (.ref x0), .val (.ref x1), .val (.ref x2)] [] := by first | (simp [entryFrame, mkF, argsToLocals, Value.category]; done) | rfl
theorem d38_0 : decode prog_9_method_3_code 0 = .ok (.aload_n 0, 1) := by decide +kernel
theorem d38_1 : decode prog_9_method_3_code 1 = .ok (.iconst 2, 1) := by decide +kernel
theorem d38_2 : decode prog_9_method_3_code 2 = .ok (.aload_n 1, 1) := by decide +kernel
theorem d38_3 : decode prog_9_method_3_code 3 = .ok (.invokevirtual 15, 3) := by decide +kernel
theorem d38_6 : decode prog_9_method_3_code 6 = .ok (.iadd, 1) := by decide +kernel
theorem d38_7 : decode prog_9_method_3_code 7 = .ok (.aload_n 2, 1) := by decide +kernel
theorem d38_8 : decode prog_9_method_3_code 8 = .ok (.invokevirtual 15, 3) := by decide +kernel
theorem d38_11 : decode prog_9_method_3_code 11 = .ok (.iadd, 1) := by decide +kernel
theorem d38_12 : decode prog_9_method_3_code 12 = .ok (.invokevirtual 21, 3) := by decide +kernel
theorem d38_15 : decode prog_9_method_3_code 15 = .ok (.aload_n 0, 1) := by decide +kernel
theorem d38_16 : decode prog_9_method_3_code 16 = .ok (.getfield 9, 3) := by decide +kernel
theorem d38_19 : decode prog_9_method_3_code 19 = .ok (.aload_n 0, 1) := by decide +kernel
theorem d38_20 : decode prog_9_method_3_code 20 = .ok (.dup, 1) := by decide +kernel
theorem d38_21 : decode prog_9_method_3_code 21 = .ok (.getfield 29, 3) := by decide +kernel
theorem d38_24 : decode prog_9_method_3_code 24 = .ok (.dup_x1, 1) := by decide +kernel
theorem d38_25 : decode prog_9_method_3_code 25 = .ok (.iconst 1, 1) := by decide +kernel
theorem d38_26 : decode prog_9_method_3_code 26 = .ok (.iadd, 1) := by decide +kernel
theorem d38_27 : decode prog_9_method_3_code 27 = .ok (.putfield 29, 3) := by decide +kernel
theorem d38_30 : decode prog_9_method_3_code 30 = .ok (.bipush 60, 2) := by decide +kernel
theorem d38_32 : decode prog_9_method_3_code 32 = .ok (.bastore, 1) := by decide +kernel
theorem d38_33 : decode prog_9_method_3_code 33 = .ok (.aload_n 0, 1) := by decide +kernel
theorem d38_34 : decode prog_9_method_3_code 34 = .ok (.aload_n 1, 1) := by decide +kernel
theorem own_pd17 : parseMethodDescriptor "(Ljava/lang/String;)V" = some ⟨[(.object "java/lang/String")], none⟩ := by decide +kernel
theorem d38_35 : decode prog_9_method_3_code 35 = .ok (.invokevirtual 25, 3) := by decide +kernel
theorem d38_38 : decode prog_9_method_3_code 38 = .ok (.aload_n 0, 1) := by decide +kernel
theorem d38_39 : decode prog_9_method_3_code 39 = .ok (.getfield 9, 3) := by decide +kernel
theorem d38_42 : decode prog_9_method_3_code 42 = .ok (.aload_n 0, 1) := by decide +kernel
theorem d38_43 : decode prog_9_method_3_code 43 = .ok (.dup, 1) := by decide +kernel
theorem d38_44 : decode prog_9_method_3_code 44 = .ok (.getfield 29, 3) := by decide +kernel
theorem d38_47 : decode prog_9_method_3_code 47 = .ok (.dup_x1, 1) := by decide +kernel
theorem d38_48 : decode prog_9_method_3_code 48 = .ok (.iconst 1, 1) := by decide +kernel
theorem d38_49 : decode prog_9_method_3_code 49 = .ok (.iadd, 1) := by decide +kernel
theorem d38_50 : decode prog_9_method_3_code 50 = .ok (.putfield 29, 3) := by decide +kernel
theorem d38_53 : decode prog_9_method_3_code 53 = .ok (.bipush 58, 2) := by decide +kernel
theorem d38_55 : decode prog_9_method_3_code 55 = .ok (.bastore, 1) := by decide +kernel
theorem d38_56 : decode prog_9_method_3_code 56 = .ok (.aload_n 0, 1) := by decide +kernel
theorem d38_57 : decode prog_9_method_3_code 57 = .ok (.aload_n 2, 1) := by decide +kernel
theorem d38_58 : decode prog_9_method_3_code 58 = .ok (.invokevirtual 25, 3) := by decide +kernel
theorem d38_61 : decode prog_9_method_3_code 61 = .ok (.return_, 1) := by decide +kernel
def Q38 (Z : State) (a1 : Addr) (a2 : Addr) (a3 : Addr) (wb : Addr) (kb : ClassId) (N : Nat) (vs : List Value) (bl : Nat) (cs : Int32) (sf : Value) (sb : Addr) (ks : ClassId) (c1 : Int32) (tb : Addr) (kt : ClassId) (c2 : Int32) (h0 : Heap) (n0 : Nat) (v : Option Value) (h : Heap) (L : List Loc) : Prop := v = none ∧ Fr n0 L ∧ Keep h0 h [a1, wb] ∧ (Exa Z h a1 "com/example/anagrafe/anagrafe/atom/Markup") ∧ (Fld Z h a1 "com/example/anagrafe/anagrafe/atom/Markup" "bytes" "[B" (.ref wb)) ∧ (Fld Z h a1 "com/example/anagrafe/anagrafe/atom/Markup" "size" "I" (.int (Int32.ofNat (N + 1 + 1 + 1 + 1)))) ∧ (Arv Z h wb kb .byte (Int32.ofNat bl) ((((vs ++ [(.int (60 : Int32))]) ++ [(.int c1.toInt8.toInt32)]) ++ [(.int (58 : Int32))]) ++ [(.int c2.toInt8.toInt32)]) (.int (0 : Int32)))
set_option maxRecDepth 65536 in
set_option maxHeartbeats 40000000 in
theorem rm38 (l : Launch) (Z : State) (a0 : Array Value) (hw : ∀ d ∈ tables_1, d.before a0 Z = true) (ws : List Jvm.Cond) (a1 : Addr) (a2 : Addr) (a3 : Addr) (wb : Addr) (kb : ClassId) (N : Nat) (vs : List Value) (bl : Nat) (cs : Int32) (sf : Value) (sb : Addr) (ks : ClassId) (c1 : Int32) (tb : Addr) (kt : ClassId) (c2 : Int32) (h0 : Heap) (n0 : Nat) (Z0 : n0 ≤ h0.size) (S_COMPACT_STRINGS : Sta Z h0 "java/lang/String" "COMPACT_STRINGS" "Z" (.int cs)) (S_SIOOBE_FORMATTER : Sta Z h0 "jdk/internal/util/Preconditions" "SIOOBE_FORMATTER" "Ljava/util/function/BiFunction;" sf) (E_a1 : Exa Z h0 a1 "com/example/anagrafe/anagrafe/atom/Markup") (F_bytes_a1 : Fld Z h0 a1 "com/example/anagrafe/anagrafe/atom/Markup" "bytes" "[B" (.ref wb)) (F_size_a1 : Fld Z h0 a1 "com/example/anagrafe/anagrafe/atom/Markup" "size" "I" (.int (Int32.ofNat N))) (A_wb : Arv Z h0 wb kb .byte (Int32.ofNat bl) vs (.int (0 : Int32))) (g_a1 : n0 ≤ a1) (g_wb : n0 ≤ wb) (ne_a1_wb : a1 ≠ wb) (E_a2 : Exa Z h0 a2 "java/lang/String") (F_value_a2 : Fld Z h0 a2 "java/lang/String" "value" "[B" (.ref sb)) (F_coder_a2 : Fld Z h0 a2 "java/lang/String" "coder" "B" (.int (0 : Int32))) (A_sb : Arv Z h0 sb ks .byte (1 : Int32) ([(.int c1.toInt8.toInt32)]) (.int (0 : Int32))) (E_a3 : Exa Z h0 a3 "java/lang/String") (F_value_a3 : Fld Z h0 a3 "java/lang/String" "value" "[B" (.ref tb)) (F_coder_a3 : Fld Z h0 a3 "java/lang/String" "coder" "B" (.int (0 : Int32))) (A_tb : Arv Z h0 tb kt .byte (1 : Int32) ([(.int c2.toInt8.toInt32)]) (.int (0 : Int32))) (ne_a1_a2 : a1 ≠ a2) (ne_a1_sb : a1 ≠ sb) (ne_a1_a3 : a1 ≠ a3) (ne_a1_tb : a1 ≠ tb) (ne_wb_a2 : wb ≠ a2) (ne_wb_sb : wb ≠ sb) (ne_wb_a3 : wb ≠ a3) (ne_wb_tb : wb ≠ tb) (hB : 16384 ≤ bl ∧ bl ≤ 32768) (hcs : ¬ cs = 0) (hsf : sf.isRef = true) (hN : vs.length = N) (hM : N ≤ 9000) :
    MetFree l (⟨"com/example/anagrafe/anagrafe/atom/Markup", "open", "(Ljava/lang/String;Ljava/lang/String;)V"⟩ : MethodName) (head1 (Jvm.Cond.code (⟨"com/example/anagrafe/anagrafe/atom/Markup", "open", "(Ljava/lang/String;Ljava/lang/String;)V"⟩ : MethodName) prog_9_method_3_code 3 none :: ws) ({ frames := 5, cells := 0, slots := 0, locals := 71 } : Room)) (fun a U => a = #[(.ref a1), (.ref a2), (.ref a3)] ∧ Z.Warmed39 U.vm ∧ U.heap = h0) (fun _ _ _ _ _ => True) (fun _ U o U' => ∃ v L, o = .returned v ∧ Q38 Z a1 a2 a3 wb kb N vs bl cs sf sb ks c1 tb kt c2 h0 n0 v U'.heap L ∧ FrameEnd U o U' L ({ frames := 5, cells := 0, slots := 0, locals := 71 } : Room).cells ({ frames := 5, cells := 0, slots := 0, locals := 71 } : Room).slots) := by
  refine MetFree.of_bodySF (plainFor_of_name own_pn_com_example_anagrafe_anagrafe_atom_Markup) hisR ?_
  intro p e s m args below meth c s₁ Bd hml0 hP hK
  obtain ⟨rfl, hZ, hh⟩ := hP
  have hx := Bd.exec
  have hby := Bd.bytes
  have hlk := Bd.notSynchronized
  have hml : c.maxLocals = 3 := hml0
  have hown : s.vm.findClass "com/example/anagrafe/anagrafe/atom/Markup" = some m.cls := findClass_of_methodNamed Bd.named
  have hnm := (name_of_methodNamed Bd.named Bd.method).1
  have X0 : Stand p l e ({ frames := 5, cells := 0, slots := 0, locals := 71 } : Room) s m #[(.ref a1), (.ref a2), (.ref a3)] below meth c s₁ [] 0 0 := Stand.of_body Bd
  have e0 : s₁.heap = h0 := by rw [← hh, Bd.state]; rfl
  have N0 := Fr.nil n0
  have K0 : Keep h0 h0 [a1, wb] := Keep.refl _ _
  show Go p e below (KQ s below (Q38 Z a1 a2 a3 wb kb N vs bl cs sf sb ks c1 tb kt c2 h0 n0) ({ frames := 5, cells := 0, slots := 0, locals := 71 } : Room).cells ({ frames := 5, cells := 0, slots := 0, locals := 71 } : Room).slots) _
  refine Go.body (T := s₁) (σ := s₁) (g' := (mkF m 0 #[.val (.ref a1), .val (.ref a2), .val (.ref a3)] [])) (ef_38 m a1 a2 a3) ?_
  refine g_aloadN X0 hx (hb hby d38_0) 1 rfl (v := (.ref a1)) rfl rfl ?_
  refine g_iconst X0 hx (hb hby d38_1) 2 rfl (2 : Int32) rfl ?_
  refine g_aloadN X0 hx (hb hby d38_2) 3 rfl (v := (.ref a2)) rfl rfl ?_
  obtain ⟨cq114, kq114, q114a, q114b, q114c⟩ := isOf hZ e0 E_a2
  obtain ⟨_, _, ⟨T114, L114, k114, n114⟩, -, X114, ⟨Lc114, hQ114, l114, y114, z114⟩, st114⟩ := X0.virtualBack hx (y := (⟨"java/lang/String", "length", "()I"⟩ : MethodName)) (z := (⟨"java/lang/String", "length", "()I"⟩ : MethodName)) hown (mvT hZ (hw _ (List.mem_of_getElem? (i := 86) rfl))) (mvT hZ (hw _ (List.mem_of_getElem? (i := 87) rfl))) (notFace_of_selects (args := #[]) (mvT hZ (hw _ (List.mem_of_getElem? (i := 89) rfl)))) (mvT hZ (hw _ (List.mem_of_getElem? (i := 89) rfl))) (mvT hZ (hw _ (List.mem_of_getElem? (i := 88) rfl))) (by decide) (backOf (W := 2) (rm18 l Z a0 hw [] a2 cs sb ks (1 : Int32) ([(.int c1.toInt8.toInt32)]) h0 n0 Z0 S_COMPACT_STRINGS E_a2 F_value_a2 F_coder_a2 A_sb hcs) hZ (hw _ (List.mem_of_getElem? (i := 90) rfl)) (hw _ (List.mem_of_getElem? (i := 2) rfl)) (by decide) (by decide)) q114a q114c (g := (mkF m 3 #[.val (.ref a1), .val (.ref a2), .val (.ref a3)] [(.ref a2), (.int (2 : Int32)), (.ref a1)])) rfl (by rw [hml]; rfl) (Steps.refl _) (argsL := []) (rest := [(.int (2 : Int32)), (.ref a1)]) (lenOf own_pd15 rfl) rfl (by show 2 * 0 + _ ≤ _; exact Nat.le_of_eq rfl) (hb hby d38_3) (fun _ _ => ⟨rfl, e0, (by decide : 0 + 0 ≤ _), (by decide : 0 + 0 ≤ _)⟩)
  dsimp only [Pt.U, Pt.locs, Pt.cells, Pt.slots] at X114 l114 y114 z114 st114 hQ114
  subst l114 y114 z114
  obtain ⟨rfl, Nq114, e114⟩ := hQ114
  refine Go.tr st114 ?_
  have N114 := Fr.app N0 Nq114
  show Go p e below _ (T114.setTop (mkF m 6 #[.val (.ref a1), .val (.ref a2), .val (.ref a3)] [(.int (1 : Int32)), (.int (2 : Int32)), (.ref a1)]))
  refine g_iadd X114 hx (hb hby d38_6) 7 rfl ((2 : Int32) + (1 : Int32)) rfl ?_
  refine g_aloadN X114 hx (hb hby d38_7) 8 rfl (v := (.ref a3)) rfl rfl ?_
  obtain ⟨cq115, kq115, q115a, q115b, q115c⟩ := isOf hZ e114 E_a3
  obtain ⟨_, _, ⟨T115, L115, k115, n115⟩, -, X115, ⟨Lc115, hQ115, l115, y115, z115⟩, st115⟩ := X114.virtualBack hx (y := (⟨"java/lang/String", "length", "()I"⟩ : MethodName)) (z := (⟨"java/lang/String", "length", "()I"⟩ : MethodName)) hown (mvT hZ (hw _ (List.mem_of_getElem? (i := 86) rfl))) (mvT hZ (hw _ (List.mem_of_getElem? (i := 87) rfl))) (notFace_of_selects (args := #[]) (mvT hZ (hw _ (List.mem_of_getElem? (i := 89) rfl)))) (mvT hZ (hw _ (List.mem_of_getElem? (i := 89) rfl))) (mvT hZ (hw _ (List.mem_of_getElem? (i := 88) rfl))) (by decide) (backOf (W := 2) (rm18 l Z a0 hw [] a3 cs tb kt (1 : Int32) ([(.int c2.toInt8.toInt32)]) h0 n0 Z0 S_COMPACT_STRINGS E_a3 F_value_a3 F_coder_a3 A_tb hcs) hZ (hw _ (List.mem_of_getElem? (i := 90) rfl)) (hw _ (List.mem_of_getElem? (i := 2) rfl)) (by decide) (by decide)) q115a q115c (g := (mkF m 8 #[.val (.ref a1), .val (.ref a2), .val (.ref a3)] [(.ref a3), (.int ((2 : Int32) + (1 : Int32))), (.ref a1)])) rfl (by rw [hml]; rfl) (Steps.refl _) (argsL := []) (rest := [(.int ((2 : Int32) + (1 : Int32))), (.ref a1)]) (lenOf own_pd15 rfl) rfl (by show 2 * 0 + _ ≤ _; exact Nat.le_of_eq rfl) (hb hby d38_8) (fun _ _ => ⟨rfl, e114, (by decide : 0 + 0 ≤ _), (by decide : 0 + 0 ≤ _)⟩)
  dsimp only [Pt.U, Pt.locs, Pt.cells, Pt.slots] at X115 l115 y115 z115 st115 hQ115
  subst l115 y115 z115
  obtain ⟨rfl, Nq115, e115⟩ := hQ115
  refine Go.tr st115 ?_
  have N115 := Fr.app N114 Nq115
  show Go p e below _ (T115.setTop (mkF m 11 #[.val (.ref a1), .val (.ref a2), .val (.ref a3)] [(.int (1 : Int32)), (.int ((2 : Int32) + (1 : Int32))), (.ref a1)]))
  refine g_iadd X115 hx (hb hby d38_11) 12 rfl (((2 : Int32) + (1 : Int32)) + (1 : Int32)) rfl ?_
  obtain ⟨cq116, q116, q116'⟩ := Exa.cell E_a1
  obtain ⟨_, _, ⟨T116, L116, k116, n116⟩, -, X116, ⟨Lc116, hQ116, l116, y116, z116⟩, st116⟩ := X115.privateBack hx (y := (⟨"com/example/anagrafe/anagrafe/atom/Markup", "room", "(I)V"⟩ : MethodName)) hown (mvT hZ (hw _ (List.mem_of_getElem? (i := 58) rfl))) (mvT hZ (hw _ (List.mem_of_getElem? (i := 59) rfl))) (own_selP (mvT hZ (hw _ (List.mem_of_getElem? (i := 45) rfl)) (args := #[])) (Cond.privateMethod_at (mvP hZ (hw _ (List.mem_of_getElem? (i := 60) rfl)) (args := #[]))) (mvT hZ (hw _ (List.mem_of_getElem? (i := 59) rfl))) (by decide)) (Cond.privateMethod_at (mvP hZ (hw _ (List.mem_of_getElem? (i := 60) rfl)) (args := #[]))) (mvT hZ (hw _ (List.mem_of_getElem? (i := 61) rfl))) (by decide) (backOf (W := 0) (rm13 l Z a0 hw [] a1 (((2 : Int32) + (1 : Int32)) + (1 : Int32)) wb kb N vs bl h0 n0 Z0 E_a1 F_bytes_a1 F_size_a1 A_wb (own_nf (c := 24) (by decide) (by omega) (by omega))) hZ (hw _ (List.mem_of_getElem? (i := 61) rfl)) (hw _ (List.mem_of_getElem? (i := 46) rfl)) (by decide) (by decide)) (g := (mkF m 12 #[.val (.ref a1), .val (.ref a2), .val (.ref a3)] [(.int (((2 : Int32) + (1 : Int32)) + (1 : Int32))), (.ref a1)])) rfl (by rw [hml]; rfl) (Steps.refl _) (a := a1) (by rw [e115]; exact q116) q116' (argsL := [(.int (((2 : Int32) + (1 : Int32)) + (1 : Int32)))]) (rest := []) (lenOf own_pd14 rfl) rfl (by show 2 * 0 + _ ≤ _; exact Nat.le_of_eq rfl) (hb hby d38_12) (fun _ _ => ⟨rfl, e115, (by decide : 0 + 0 ≤ _), (by decide : 0 + 0 ≤ _)⟩)
  dsimp only [Pt.U, Pt.locs, Pt.cells, Pt.slots] at X116 l116 y116 z116 st116 hQ116
  subst l116 y116 z116
  obtain ⟨rfl, Nq116, e116⟩ := hQ116
  refine Go.tr st116 ?_
  have N116 := Fr.app N115 Nq116
  show Go p e below _ (T116.setTop (mkF m 15 #[.val (.ref a1), .val (.ref a2), .val (.ref a3)] []))
  refine g_aloadN X116 hx (hb hby d38_15) 16 rfl (v := (.ref a1)) rfl rfl ?_
  obtain ⟨T117, X117, e117, st117⟩ := getF X116 hx hZ hown (host := "") (Or.inl (hw _ (List.mem_of_getElem? (i := 51) rfl))) Via.refl e116 F_bytes_a1 (g := (mkF m 16 #[.val (.ref a1), .val (.ref a2), .val (.ref a3)] [(.ref a1)])) rfl rfl (hb hby d38_16)
  refine Go.st st117 ?_
  show Go p e below _ (T117.setTop (mkF m 19 #[.val (.ref a1), .val (.ref a2), .val (.ref a3)] [(.ref wb)]))
  refine g_aloadN X117 hx (hb hby d38_19) 20 rfl (v := (.ref a1)) rfl rfl ?_
  refine g_dup X117 hx (hb hby d38_20) 21 rfl rfl ?_
  obtain ⟨T118, X118, e118, st118⟩ := getF X117 hx hZ hown (host := "") (Or.inl (hw _ (List.mem_of_getElem? (i := 62) rfl))) Via.refl e117 F_size_a1 (g := (mkF m 21 #[.val (.ref a1), .val (.ref a2), .val (.ref a3)] [(.ref a1), (.ref a1), (.ref wb)])) rfl rfl (hb hby d38_21)
  refine Go.st st118 ?_
  show Go p e below _ (T118.setTop (mkF m 24 #[.val (.ref a1), .val (.ref a2), .val (.ref a3)] [(.int (Int32.ofNat N)), (.ref a1), (.ref wb)]))
  refine g_dupx1 X118 hx (hb hby d38_24) 25 rfl rfl rfl ?_
  refine g_iconst X118 hx (hb hby d38_25) 26 rfl (1 : Int32) rfl ?_
  refine g_iadd X118 hx (hb hby d38_26) 27 rfl (Int32.ofNat (N + 1)) (own_up N) ?_
  obtain ⟨T119, h119, X119, e119, W119, st119⟩ := putF X118 hx hZ hown (host := "") (Or.inl (hw _ (List.mem_of_getElem? (i := 62) rfl))) Via.refl e118 F_size_a1 E_a1 (Or.inl (hw _ (List.mem_of_getElem? (i := 63) rfl))) (hw _ (List.mem_of_getElem? (i := 45) rfl)) (ty := .int) (by decide) rfl rfl (g := (mkF m 27 #[.val (.ref a1), .val (.ref a2), .val (.ref a3)] [(.int (Int32.ofNat (N + 1))), (.ref a1), (.int (Int32.ofNat N)), (.ref wb)])) rfl rfl (hb hby d38_27)
  refine Go.st st119 ?_
  have S_COMPACT_STRINGS_120 : Sta Z h119 "java/lang/String" "COMPACT_STRINGS" "Z" (.int cs) := Sta.wr W119 S_COMPACT_STRINGS
  have S_SIOOBE_FORMATTER_120 : Sta Z h119 "jdk/internal/util/Preconditions" "SIOOBE_FORMATTER" "Ljava/util/function/BiFunction;" sf := Sta.wr W119 S_SIOOBE_FORMATTER
  have E_a1_120 : Exa Z h119 a1 "com/example/anagrafe/anagrafe/atom/Markup" := Exa.wr W119 E_a1
  have F_bytes_a1_120 : Fld Z h119 a1 "com/example/anagrafe/anagrafe/atom/Markup" "bytes" "[B" (.ref wb) := Fld.other W119 F_bytes_a1 (Or.inr (slot_ne (Or.inl (hw _ (List.mem_of_getElem? (i := 52) rfl))) (Or.inl (hw _ (List.mem_of_getElem? (i := 63) rfl))) (by decide) (t := (.array .byte)) (t' := .int) (by decide) (by decide)))
  have A_wb_120 : Arv Z h119 wb kb .byte (Int32.ofNat bl) vs (.int (0 : Int32)) := Arv.other A_wb W119 (Ne.symm ne_a1_wb)
  have F_size_a1_119w : Fld Z h119 a1 "com/example/anagrafe/anagrafe/atom/Markup" "size" "I" (.int (Int32.ofNat (N + 1))) := Fld.same W119 F_size_a1
  have K119 : Keep h0 h119 [a1, wb] := Keep.wr K0 W119 (Or.inl (List.mem_of_getElem? (i := 0) rfl))
  have N119 := Fr.snoc X119 N116 g_a1
  have Zs119 : n0 ≤ h119.size := by rw [W119.size]; exact Z0
  show Go p e below _ (T119.setTop (mkF m 30 #[.val (.ref a1), .val (.ref a2), .val (.ref a3)] [(.int (Int32.ofNat N)), (.ref wb)]))
  refine g_bipush X119 hx (hb hby d38_30) 32 rfl (60 : Int32) rfl ?_
  have Ap122 := Arv.pad A_wb_120 (pad_rep vs (.int (0 : Int32)) 1)
  obtain ⟨T121, h121, X121, e121, W121, B121, st121⟩ := g_bastore X119 hx (hb hby d38_32) hZ e119 Ap122 (own_in (by omega) (by omega)) (i := (N)) (own_cl (by omega)) (by rw [List.length_append, hN, List.length_replicate]; omega)  (L := #[.val (.ref a1), .val (.ref a2), .val (.ref a3)]) (S := [])
  refine Go.st st121 ?_
  have S_COMPACT_STRINGS_123 : Sta Z h121 "java/lang/String" "COMPACT_STRINGS" "Z" (.int cs) := Sta.wr W121 S_COMPACT_STRINGS_120
  have S_SIOOBE_FORMATTER_123 : Sta Z h121 "jdk/internal/util/Preconditions" "SIOOBE_FORMATTER" "Ljava/util/function/BiFunction;" sf := Sta.wr W121 S_SIOOBE_FORMATTER_120
  have E_a1_123 : Exa Z h121 a1 "com/example/anagrafe/anagrafe/atom/Markup" := Exa.wr W121 E_a1_120
  have F_bytes_a1_123 : Fld Z h121 a1 "com/example/anagrafe/anagrafe/atom/Markup" "bytes" "[B" (.ref wb) := Fld.other W121 F_bytes_a1_120 (Or.inl ne_a1_wb)
  have F_size_a1_123 : Fld Z h121 a1 "com/example/anagrafe/anagrafe/atom/Markup" "size" "I" (.int (Int32.ofNat (N + 1))) := Fld.other W121 F_size_a1_119w (Or.inl ne_a1_wb)
  have Av_wb_121 : Arv Z h121 wb kb .byte (Int32.ofNat bl) (vs ++ [(.int (60 : Int32))]) (.int (0 : Int32)) := (by have q := B121; rw [own_snoc hN (.int (0 : Int32)) _] at q; exact q)
  have K121 : Keep h0 h121 [a1, wb] := Keep.wr K119 W121 (Or.inl (List.mem_of_getElem? (i := 1) rfl))
  have N121 := Fr.snoc X121 N119 g_wb
  have Zs121 : n0 ≤ h121.size := by rw [W121.size]; exact Zs119
  show Go p e below _ (T121.setTop (mkF m 33 #[.val (.ref a1), .val (.ref a2), .val (.ref a3)] []))
  refine g_aloadN X121 hx (hb hby d38_33) 34 rfl (v := (.ref a1)) rfl rfl ?_
  refine g_aloadN X121 hx (hb hby d38_34) 35 rfl (v := (.ref a2)) rfl rfl ?_
  obtain ⟨cq124, q124, q124'⟩ := Exa.cell E_a1_123
  obtain ⟨_, _, ⟨T124, L124, k124, n124⟩, -, X124, ⟨Lc124, hQ124, l124, y124, z124⟩, st124⟩ := X121.privateBack hx (y := (⟨"com/example/anagrafe/anagrafe/atom/Markup", "ascii", "(Ljava/lang/String;)V"⟩ : MethodName)) hown (mvT hZ (hw _ (List.mem_of_getElem? (i := 193) rfl))) (mvT hZ (hw _ (List.mem_of_getElem? (i := 194) rfl))) (own_selP (mvT hZ (hw _ (List.mem_of_getElem? (i := 45) rfl)) (args := #[])) (Cond.privateMethod_at (mvP hZ (hw _ (List.mem_of_getElem? (i := 195) rfl)) (args := #[]))) (mvT hZ (hw _ (List.mem_of_getElem? (i := 194) rfl))) (by decide)) (Cond.privateMethod_at (mvP hZ (hw _ (List.mem_of_getElem? (i := 195) rfl)) (args := #[]))) (mvT hZ (hw _ (List.mem_of_getElem? (i := 196) rfl))) (by decide) (backOf (W := 0) (rm39 l Z a0 hw [] a1 a2 wb kb (N + 1) (vs ++ [(.int (60 : Int32))]) bl cs sf sb ks c1 h121 n0 Zs121 S_COMPACT_STRINGS_123 S_SIOOBE_FORMATTER_123 E_a1_123 F_bytes_a1_123 F_size_a1_123 Av_wb_121 g_a1 g_wb ne_a1_wb (Exa.keep E_a2 K121) (Fld.keep F_value_a2 K121 (ninS (Ne.symm ne_a1_a2) (ninS (Ne.symm ne_wb_a2) nin0))) (Fld.keep F_coder_a2 K121 (ninS (Ne.symm ne_a1_a2) (ninS (Ne.symm ne_wb_a2) nin0))) (Arv.keep A_sb K121 (ninS (Ne.symm ne_a1_sb) (ninS (Ne.symm ne_wb_sb) nin0))) ne_a1_a2 ne_a1_sb ne_wb_a2 ne_wb_sb hB hcs hsf (own_len hN _) (by omega)) hZ (hw _ (List.mem_of_getElem? (i := 196) rfl)) (hw _ (List.mem_of_getElem? (i := 46) rfl)) (by decide) (by decide)) (g := (mkF m 35 #[.val (.ref a1), .val (.ref a2), .val (.ref a3)] [(.ref a2), (.ref a1)])) rfl (by rw [hml]; rfl) (Steps.refl _) (a := a1) (by rw [e121]; exact q124) q124' (argsL := [(.ref a2)]) (rest := []) (lenOf own_pd17 rfl) rfl (by show 2 * 0 + _ ≤ _; exact Nat.le_of_eq rfl) (hb hby d38_35) (fun _ _ => ⟨rfl, e121, (by decide : 0 + 0 ≤ _), (by decide : 0 + 0 ≤ _)⟩)
  dsimp only [Pt.U, Pt.locs, Pt.cells, Pt.slots] at X124 l124 y124 z124 st124 hQ124
  subst l124 y124 z124
  obtain ⟨rfl, Nq124, Kq124, f124_0, f124_1, f124_2, f124_3⟩ := hQ124
  refine Go.tr st124 ?_
  have N124 := Fr.app N121 Nq124
  have S_COMPACT_STRINGS_125 : Sta Z T124.heap "java/lang/String" "COMPACT_STRINGS" "Z" (.int cs) := own_Sta_keep S_COMPACT_STRINGS_123 Kq124 (allS (own_ns E_a1_123) (allS (own_nsA Av_wb_121) all0))
  have S_SIOOBE_FORMATTER_125 : Sta Z T124.heap "jdk/internal/util/Preconditions" "SIOOBE_FORMATTER" "Ljava/util/function/BiFunction;" sf := own_Sta_keep S_SIOOBE_FORMATTER_123 Kq124 (allS (own_ns E_a1_123) (allS (own_nsA Av_wb_121) all0))
  have E_a1_125 : Exa Z T124.heap a1 "com/example/anagrafe/anagrafe/atom/Markup" := Exa.keep E_a1_123 Kq124
  have K124 : Keep h0 T124.heap [a1, wb] := Keep.trans K121 Kq124 (allS (Or.inl (List.mem_of_getElem? (i := 0) rfl)) (allS (Or.inl (List.mem_of_getElem? (i := 1) rfl)) all0))
  have Zs124 : n0 ≤ T124.heap.size := Nat.le_trans Zs121 Kq124.1
  show Go p e below _ (T124.setTop (mkF m 38 #[.val (.ref a1), .val (.ref a2), .val (.ref a3)] []))
  refine g_aloadN X124 hx (hb hby d38_38) 39 rfl (v := (.ref a1)) rfl rfl ?_
  obtain ⟨T126, X126, e126, st126⟩ := getF X124 hx hZ hown (host := "") (Or.inl (hw _ (List.mem_of_getElem? (i := 51) rfl))) Via.refl rfl f124_1 (g := (mkF m 39 #[.val (.ref a1), .val (.ref a2), .val (.ref a3)] [(.ref a1)])) rfl rfl (hb hby d38_39)
  refine Go.st st126 ?_
  show Go p e below _ (T126.setTop (mkF m 42 #[.val (.ref a1), .val (.ref a2), .val (.ref a3)] [(.ref wb)]))
  refine g_aloadN X126 hx (hb hby d38_42) 43 rfl (v := (.ref a1)) rfl rfl ?_
  refine g_dup X126 hx (hb hby d38_43) 44 rfl rfl ?_
  obtain ⟨T127, X127, e127, st127⟩ := getF X126 hx hZ hown (host := "") (Or.inl (hw _ (List.mem_of_getElem? (i := 62) rfl))) Via.refl e126 f124_2 (g := (mkF m 44 #[.val (.ref a1), .val (.ref a2), .val (.ref a3)] [(.ref a1), (.ref a1), (.ref wb)])) rfl rfl (hb hby d38_44)
  refine Go.st st127 ?_
  show Go p e below _ (T127.setTop (mkF m 47 #[.val (.ref a1), .val (.ref a2), .val (.ref a3)] [(.int (Int32.ofNat ((N + 1) + 1))), (.ref a1), (.ref wb)]))
  refine g_dupx1 X127 hx (hb hby d38_47) 48 rfl rfl rfl ?_
  refine g_iconst X127 hx (hb hby d38_48) 49 rfl (1 : Int32) rfl ?_
  refine g_iadd X127 hx (hb hby d38_49) 50 rfl (Int32.ofNat (N + 1 + 1 + 1)) (own_up (N + 1 + 1)) ?_
  obtain ⟨T128, h128, X128, e128, W128, st128⟩ := putF X127 hx hZ hown (host := "") (Or.inl (hw _ (List.mem_of_getElem? (i := 62) rfl))) Via.refl e127 f124_2 f124_0 (Or.inl (hw _ (List.mem_of_getElem? (i := 63) rfl))) (hw _ (List.mem_of_getElem? (i := 45) rfl)) (ty := .int) (by decide) rfl rfl (g := (mkF m 50 #[.val (.ref a1), .val (.ref a2), .val (.ref a3)] [(.int (Int32.ofNat (N + 1 + 1 + 1))), (.ref a1), (.int (Int32.ofNat ((N + 1) + 1))), (.ref wb)])) rfl rfl (hb hby d38_50)
  refine Go.st st128 ?_
  have S_COMPACT_STRINGS_129 : Sta Z h128 "java/lang/String" "COMPACT_STRINGS" "Z" (.int cs) := Sta.wr W128 S_COMPACT_STRINGS_125
  have S_SIOOBE_FORMATTER_129 : Sta Z h128 "jdk/internal/util/Preconditions" "SIOOBE_FORMATTER" "Ljava/util/function/BiFunction;" sf := Sta.wr W128 S_SIOOBE_FORMATTER_125
  have E_a1_129 : Exa Z h128 a1 "com/example/anagrafe/anagrafe/atom/Markup" := Exa.wr W128 f124_0
  have F_bytes_a1_129 : Fld Z h128 a1 "com/example/anagrafe/anagrafe/atom/Markup" "bytes" "[B" (.ref wb) := Fld.other W128 f124_1 (Or.inr (slot_ne (Or.inl (hw _ (List.mem_of_getElem? (i := 52) rfl))) (Or.inl (hw _ (List.mem_of_getElem? (i := 63) rfl))) (by decide) (t := (.array .byte)) (t' := .int) (by decide) (by decide)))
  have A_wb_129 : Arv Z h128 wb kb .byte (Int32.ofNat bl) ((vs ++ [(.int (60 : Int32))]) ++ [(.int c1.toInt8.toInt32)]) (.int (0 : Int32)) := Arv.other f124_3 W128 (Ne.symm ne_a1_wb)
  have F_size_a1_128w : Fld Z h128 a1 "com/example/anagrafe/anagrafe/atom/Markup" "size" "I" (.int (Int32.ofNat (N + 1 + 1 + 1))) := Fld.same W128 f124_2
  have K128 : Keep h0 h128 [a1, wb] := Keep.wr K124 W128 (Or.inl (List.mem_of_getElem? (i := 0) rfl))
  have N128 := Fr.snoc X128 N124 g_a1
  have Zs128 : n0 ≤ h128.size := by rw [W128.size]; exact Zs124
  show Go p e below _ (T128.setTop (mkF m 53 #[.val (.ref a1), .val (.ref a2), .val (.ref a3)] [(.int (Int32.ofNat ((N + 1) + 1))), (.ref wb)]))
  refine g_bipush X128 hx (hb hby d38_53) 55 rfl (58 : Int32) rfl ?_
  have Ap131 := Arv.pad A_wb_129 (pad_rep ((vs ++ [(.int (60 : Int32))]) ++ [(.int c1.toInt8.toInt32)]) (.int (0 : Int32)) 1)
  obtain ⟨T130, h130, X130, e130, W130, B130, st130⟩ := g_bastore X128 hx (hb hby d38_55) hZ e128 Ap131 (own_in (by omega) (by omega)) (i := (N + 1 + 1)) (own_cl (by omega)) (by rw [List.length_append, (own_len (own_len hN _) _), List.length_replicate]; omega)  (L := #[.val (.ref a1), .val (.ref a2), .val (.ref a3)]) (S := [])
  refine Go.st st130 ?_
  have S_COMPACT_STRINGS_132 : Sta Z h130 "java/lang/String" "COMPACT_STRINGS" "Z" (.int cs) := Sta.wr W130 S_COMPACT_STRINGS_129
  have S_SIOOBE_FORMATTER_132 : Sta Z h130 "jdk/internal/util/Preconditions" "SIOOBE_FORMATTER" "Ljava/util/function/BiFunction;" sf := Sta.wr W130 S_SIOOBE_FORMATTER_129
  have E_a1_132 : Exa Z h130 a1 "com/example/anagrafe/anagrafe/atom/Markup" := Exa.wr W130 E_a1_129
  have F_bytes_a1_132 : Fld Z h130 a1 "com/example/anagrafe/anagrafe/atom/Markup" "bytes" "[B" (.ref wb) := Fld.other W130 F_bytes_a1_129 (Or.inl ne_a1_wb)
  have F_size_a1_132 : Fld Z h130 a1 "com/example/anagrafe/anagrafe/atom/Markup" "size" "I" (.int (Int32.ofNat (N + 1 + 1 + 1))) := Fld.other W130 F_size_a1_128w (Or.inl ne_a1_wb)
  have Av_wb_130 : Arv Z h130 wb kb .byte (Int32.ofNat bl) (((vs ++ [(.int (60 : Int32))]) ++ [(.int c1.toInt8.toInt32)]) ++ [(.int (58 : Int32))]) (.int (0 : Int32)) := (by have q := B130; rw [own_snoc (own_len (own_len hN _) _) (.int (0 : Int32)) _] at q; exact q)
  have K130 : Keep h0 h130 [a1, wb] := Keep.wr K128 W130 (Or.inl (List.mem_of_getElem? (i := 1) rfl))
  have N130 := Fr.snoc X130 N128 g_wb
  have Zs130 : n0 ≤ h130.size := by rw [W130.size]; exact Zs128
  show Go p e below _ (T130.setTop (mkF m 56 #[.val (.ref a1), .val (.ref a2), .val (.ref a3)] []))
  refine g_aloadN X130 hx (hb hby d38_56) 57 rfl (v := (.ref a1)) rfl rfl ?_
  refine g_aloadN X130 hx (hb hby d38_57) 58 rfl (v := (.ref a3)) rfl rfl ?_
  obtain ⟨cq133, q133, q133'⟩ := Exa.cell E_a1_132
  obtain ⟨_, _, ⟨T133, L133, k133, n133⟩, -, X133, ⟨Lc133, hQ133, l133, y133, z133⟩, st133⟩ := X130.privateBack hx (y := (⟨"com/example/anagrafe/anagrafe/atom/Markup", "ascii", "(Ljava/lang/String;)V"⟩ : MethodName)) hown (mvT hZ (hw _ (List.mem_of_getElem? (i := 193) rfl))) (mvT hZ (hw _ (List.mem_of_getElem? (i := 194) rfl))) (own_selP (mvT hZ (hw _ (List.mem_of_getElem? (i := 45) rfl)) (args := #[])) (Cond.privateMethod_at (mvP hZ (hw _ (List.mem_of_getElem? (i := 195) rfl)) (args := #[]))) (mvT hZ (hw _ (List.mem_of_getElem? (i := 194) rfl))) (by decide)) (Cond.privateMethod_at (mvP hZ (hw _ (List.mem_of_getElem? (i := 195) rfl)) (args := #[]))) (mvT hZ (hw _ (List.mem_of_getElem? (i := 196) rfl))) (by decide) (backOf (W := 0) (rm39 l Z a0 hw [] a1 a3 wb kb (N + 1 + 1 + 1) (((vs ++ [(.int (60 : Int32))]) ++ [(.int c1.toInt8.toInt32)]) ++ [(.int (58 : Int32))]) bl cs sf tb kt c2 h130 n0 Zs130 S_COMPACT_STRINGS_132 S_SIOOBE_FORMATTER_132 E_a1_132 F_bytes_a1_132 F_size_a1_132 Av_wb_130 g_a1 g_wb ne_a1_wb (Exa.keep E_a3 K130) (Fld.keep F_value_a3 K130 (ninS (Ne.symm ne_a1_a3) (ninS (Ne.symm ne_wb_a3) nin0))) (Fld.keep F_coder_a3 K130 (ninS (Ne.symm ne_a1_a3) (ninS (Ne.symm ne_wb_a3) nin0))) (Arv.keep A_tb K130 (ninS (Ne.symm ne_a1_tb) (ninS (Ne.symm ne_wb_tb) nin0))) ne_a1_a3 ne_a1_tb ne_wb_a3 ne_wb_tb hB hcs hsf (own_len (own_len (own_len hN _) _) _) (by omega)) hZ (hw _ (List.mem_of_getElem? (i := 196) rfl)) (hw _ (List.mem_of_getElem? (i := 46) rfl)) (by decide) (by decide)) (g := (mkF m 58 #[.val (.ref a1), .val (.ref a2), .val (.ref a3)] [(.ref a3), (.ref a1)])) rfl (by rw [hml]; rfl) (Steps.refl _) (a := a1) (by rw [e130]; exact q133) q133' (argsL := [(.ref a3)]) (rest := []) (lenOf own_pd17 rfl) rfl (by show 2 * 0 + _ ≤ _; exact Nat.le_of_eq rfl) (hb hby d38_58) (fun _ _ => ⟨rfl, e130, (by decide : 0 + 0 ≤ _), (by decide : 0 + 0 ≤ _)⟩)
  dsimp only [Pt.U, Pt.locs, Pt.cells, Pt.slots] at X133 l133 y133 z133 st133 hQ133
  subst l133 y133 z133
  obtain ⟨rfl, Nq133, Kq133, f133_0, f133_1, f133_2, f133_3⟩ := hQ133
  refine Go.tr st133 ?_
  have N133 := Fr.app N130 Nq133
  have S_COMPACT_STRINGS_134 : Sta Z T133.heap "java/lang/String" "COMPACT_STRINGS" "Z" (.int cs) := own_Sta_keep S_COMPACT_STRINGS_132 Kq133 (allS (own_ns E_a1_132) (allS (own_nsA Av_wb_130) all0))
  have S_SIOOBE_FORMATTER_134 : Sta Z T133.heap "jdk/internal/util/Preconditions" "SIOOBE_FORMATTER" "Ljava/util/function/BiFunction;" sf := own_Sta_keep S_SIOOBE_FORMATTER_132 Kq133 (allS (own_ns E_a1_132) (allS (own_nsA Av_wb_130) all0))
  have E_a1_134 : Exa Z T133.heap a1 "com/example/anagrafe/anagrafe/atom/Markup" := Exa.keep E_a1_132 Kq133
  have K133 : Keep h0 T133.heap [a1, wb] := Keep.trans K130 Kq133 (allS (Or.inl (List.mem_of_getElem? (i := 0) rfl)) (allS (Or.inl (List.mem_of_getElem? (i := 1) rfl)) all0))
  have Zs133 : n0 ≤ T133.heap.size := Nat.le_trans Zs130 Kq133.1
  show Go p e below _ (T133.setTop (mkF m 61 #[.val (.ref a1), .val (.ref a2), .val (.ref a3)] []))
  refine Go.retV X133 hx hlk Bd.returns (hb hby d38_61) (by decide) (by decide) ?_
  show Q38 Z a1 a2 a3 wb kb N vs bl cs sf sb ks c1 tb kt c2 h0 n0 _ T133.heap _
  exact ⟨rfl, N133, K133, f133_0, f133_1, f133_2, f133_3⟩
theorem ef_mx (m : MethodId) (x0 : Int32) (x1 : Int32) : entryFrame m #[(.int x0), (.int x1)] 2 = mkF m 0 #[.val (.int x0), .val (.int x1)] [] := by first | (simp [entryFrame, mkF, argsToLocals, Value.category]; done) | rfl
theorem d31_0 : decode jdk_29_method_65_code 0 = .ok (.iload_n 0, 1) := by decide +kernel
theorem d31_1 : decode jdk_29_method_65_code 1 = .ok (.iload_n 1, 1) := by decide +kernel
theorem d31_2 : decode jdk_29_method_65_code 2 = .ok (.if_icmp .lt 7, 3) := by decide +kernel
theorem d31_9 : decode jdk_29_method_65_code 9 = .ok (.iload_n 1, 1) := by decide +kernel
theorem d31_10 : decode jdk_29_method_65_code 10 = .ok (.ireturn, 1) := by decide +kernel
theorem d31_5 : decode jdk_29_method_65_code 5 = .ok (.iload_n 0, 1) := by decide +kernel
theorem d31_6 : decode jdk_29_method_65_code 6 = .ok (.goto 4, 3) := by decide +kernel
def Qmx (Z : State) (p1 : Int32) (p2 : Int32) (h0 : Heap) (n0 : Nat) (v : Option Value) (h : Heap) (L : List Loc) : Prop := ∃ r : Int32, v = some (.int r) ∧ Fr n0 L ∧ h = h0 ∧ (r = if p1 < p2 then p2 else p1)
set_option maxRecDepth 65536 in
set_option maxHeartbeats 40000000 in
theorem rmmx (l : Launch) (Z : State) (a0 : Array Value) (hw : ∀ d ∈ tables_1, d.before a0 Z = true) (ws : List Jvm.Cond) (p1 : Int32) (p2 : Int32) (h0 : Heap) (n0 : Nat) (Z0 : n0 ≤ h0.size)  :
    MetFree l (⟨"java/lang/Math", "max", "(II)I"⟩ : MethodName) (head1 (Jvm.Cond.code (⟨"java/lang/Math", "max", "(II)I"⟩ : MethodName) jdk_29_method_65_code 2 (some .int) :: ws) ({ frames := 0, cells := 0, slots := 0, locals := 0 } : Room)) (fun a U => a = #[(.int p1), (.int p2)] ∧ Z.Warmed39 U.vm ∧ U.heap = h0) (fun _ _ _ _ _ => True) (fun _ U o U' => ∃ v L, o = .returned v ∧ Qmx Z p1 p2 h0 n0 v U'.heap L ∧ FrameEnd U o U' L ({ frames := 0, cells := 0, slots := 0, locals := 0 } : Room).cells ({ frames := 0, cells := 0, slots := 0, locals := 0 } : Room).slots) := by
  refine MetFree.of_bodySF (Jvm.Free.JP.mathPlain rfl (by decide +kernel)) hisR ?_
  intro p e s m args below meth c s₁ Bd hml0 hP hK
  obtain ⟨rfl, hZ, hh⟩ := hP
  have hx := Bd.exec
  have hby := Bd.bytes
  have hlk := Bd.notSynchronized
  have hml : c.maxLocals = 2 := hml0
  have hown : s.vm.findClass "java/lang/Math" = some m.cls := findClass_of_methodNamed Bd.named
  have hnm := (name_of_methodNamed Bd.named Bd.method).1
  have X0 : Stand p l e ({ frames := 0, cells := 0, slots := 0, locals := 0 } : Room) s m #[(.int p1), (.int p2)] below meth c s₁ [] 0 0 := Stand.of_body Bd
  have e0 : s₁.heap = h0 := by rw [← hh, Bd.state]; rfl
  have N0 := Fr.nil n0
  show Go p e below (KQ s below (Qmx Z p1 p2 h0 n0) ({ frames := 0, cells := 0, slots := 0, locals := 0 } : Room).cells ({ frames := 0, cells := 0, slots := 0, locals := 0 } : Room).slots) _
  refine Go.body (T := s₁) (σ := s₁) (g' := (mkF m 0 #[.val (.int p1), .val (.int p2)] [])) (ef_mx m p1 p2) ?_
  refine g_iloadN X0 hx (hb hby d31_0) 1 rfl (v := p1) rfl ?_
  refine g_iloadN X0 hx (hb hby d31_1) 2 rfl (v := p2) rfl ?_
  refine g_icmp_lt X0 hx (hb hby d31_2) 9 5 (by decide) (by decide) rfl (fun hc2 => ?_) (fun hc2 => ?_)
  · refine g_iloadN X0 hx (hb hby d31_9) 10 rfl (v := p2) rfl ?_
    refine Go.retI X0 hx hlk Bd.returns (hb hby d31_10) (by decide) (by decide) ?_
    show Qmx Z p1 p2 h0 n0 _ s₁.heap _
    rw [e0]
    exact ⟨p2, rfl, N0, rfl, (by simp [hc2])⟩
  · refine g_iloadN X0 hx (hb hby d31_5) 6 rfl (v := p1) rfl ?_
    refine g_goto X0 hx (hb hby d31_6) 10 (by decide) (by decide) ?_
    refine Go.retI X0 hx hlk Bd.returns (hb hby d31_10) (by decide) (by decide) ?_
    show Qmx Z p1 p2 h0 n0 _ s₁.heap _
    rw [e0]
    exact ⟨p1, rfl, N0, rfl, (by simp [hc2])⟩
theorem ef_cpG (m : MethodId) (x0 : Addr) (x1 : Int32) : entryFrame m #[(.ref x0), (.int x1)] 3 = mkF m 0 #[.val (.ref x0), .val (.int x1), .unset] [] := by first | (simp [entryFrame, mkF, argsToLocals, Value.category]; done) | rfl
def QcpG (Z : State) (a1 : Addr) (k : ClassId) (h0 : Heap) (n0 : Nat) (v : Option Value) (h : Heap) (L : List Loc) : Prop := ∃ b : Addr, ∃ kq : ClassId, v = some (.ref b) ∧ Fr n0 L ∧ Keep h0 h [] ∧ h0.size ≤ b ∧ (Arv Z h b kq .byte (Int32.ofNat 32768) [] (.int (0 : Int32)))
set_option maxRecDepth 65536 in
set_option maxHeartbeats 40000000 in
theorem rmcpG (l : Launch) (Z : State) (a0 : Array Value) (hw : ∀ d ∈ tables_1, d.before a0 Z = true) (ws : List Jvm.Cond) (a1 : Addr) (k : ClassId) (h0 : Heap) (n0 : Nat) (Z0 : n0 ≤ h0.size) (A_a1 : Arv Z h0 a1 k .byte (Int32.ofNat 16384) [] (.int (0 : Int32))) :
    MetFree l (⟨"java/util/Arrays", "copyOf", "([BI)[B"⟩ : MethodName) (head1 (Jvm.Cond.code (⟨"java/util/Arrays", "copyOf", "([BI)[B"⟩ : MethodName) jdk_65_method_121_code 3 (some (.array .byte)) :: ws) ({ frames := 1, cells := 1, slots := 32768, locals := 18 } : Room)) (fun a U => a = #[(.ref a1), (.int (Int32.ofNat 32768))] ∧ Z.Warmed39 U.vm ∧ U.heap = h0) (fun _ _ _ _ _ => True) (fun _ U o U' => ∃ v L, o = .returned v ∧ QcpG Z a1 k h0 n0 v U'.heap L ∧ FrameEnd U o U' L ({ frames := 1, cells := 1, slots := 32768, locals := 18 } : Room).cells ({ frames := 1, cells := 1, slots := 32768, locals := 18 } : Room).slots) := by
  refine MetFree.of_bodySF (plainFor_of_name own_pn_java_util_Arrays) hisR ?_
  intro p e s m args below meth c s₁ Bd hml0 hP hK
  obtain ⟨rfl, hZ, hh⟩ := hP
  have hx := Bd.exec
  have hby := Bd.bytes
  have hlk := Bd.notSynchronized
  have hml : c.maxLocals = 3 := hml0
  have hown : s.vm.findClass "java/util/Arrays" = some m.cls := findClass_of_methodNamed Bd.named
  have hnm := (name_of_methodNamed Bd.named Bd.method).1
  have X0 : Stand p l e ({ frames := 1, cells := 1, slots := 32768, locals := 18 } : Room) s m #[(.ref a1), (.int (Int32.ofNat 32768))] below meth c s₁ [] 0 0 := Stand.of_body Bd
  have e0 : s₁.heap = h0 := by rw [← hh, Bd.state]; rfl
  have N0 := Fr.nil n0
  have K0 : Keep h0 h0 [] := Keep.refl _ _
  show Go p e below (KQ s below (QcpG Z a1 k h0 n0) ({ frames := 1, cells := 1, slots := 32768, locals := 18 } : Room).cells ({ frames := 1, cells := 1, slots := 32768, locals := 18 } : Room).slots) _
  refine Go.body (T := s₁) (σ := s₁) (g' := (mkF m 0 #[.val (.ref a1), .val (.int (Int32.ofNat 32768)), .unset] [])) (ef_cpG m a1 (Int32.ofNat 32768)) ?_
  refine g_iloadN X0 hx (hb hby d15_0) 1 rfl (v := (Int32.ofNat 32768)) rfl ?_
  refine g_aloadN X0 hx (hb hby d15_1) 2 rfl (v := (.ref a1)) rfl rfl ?_
  refine g_alen X0 hx (hb hby d15_2) 3 rfl hZ e0 A_a1 ?_
  refine g_icmp_ne X0 hx (hb hby d15_3) 14 6 (by decide) (by decide) rfl (fun hc3 => ?_) (fun hc3 => False.elim (absurd hc3 (by decide)))
  refine g_iloadN X0 hx (hb hby d15_14) 15 rfl (v := (Int32.ofNat 32768)) rfl ?_
  obtain ⟨T136, h136, cA136, X136, e136, E136, A136, st136⟩ := newP X0 hx hZ (aty := .byte) (hw _ (List.mem_of_getElem? (i := 19) rfl)) e0 (g := (mkF m 15 #[.val (.ref a1), .val (.int (Int32.ofNat 32768)), .unset] [(.int (Int32.ofNat 32768))])) rfl (hb hby d15_15) rfl (by decide) (cap := 32768) (by decide) (by decide) (by decide) (by decide)
  refine Go.st st136 ?_
  obtain ⟨ob, q136⟩ : ∃ z, z = h0.size := ⟨_, rfl⟩
  rw [← q136] at A136 ⊢
  have g_ob : n0 ≤ ob := Nat.le_trans Z0 (Nat.le_of_eq q136.symm)
  have mh_ob : h0.size ≤ ob := Nat.le_trans K0.1 (Nat.le_of_eq q136.symm)
  have K136 : Keep h0 h136 [] := Keep.ext K0 E136
  have Zs136 : n0 ≤ h136.size := Nat.le_trans Z0 E136.1
  have Av_ob : Arv Z h136 ob cA136 .byte (Int32.ofNat 32768) [] (.int (0 : Int32)) := Arv.new A136 (by decide)
  show Go p e below _ (T136.setTop (mkF m 17 #[.val (.ref a1), .val (.int (Int32.ofNat 32768)), .unset] [(.ref ob)]))
  refine g_astoreN X136 hx (hb hby d15_17) 18 rfl rfl #[.val (.ref a1), .val (.int (Int32.ofNat 32768)), .val (.ref ob)] rfl ?_
  refine g_aloadN X136 hx (hb hby d15_18) 19 rfl (v := (.ref a1)) rfl rfl ?_
  refine g_iconst X136 hx (hb hby d15_19) 20 rfl (0 : Int32) rfl ?_
  refine g_aloadN X136 hx (hb hby d15_20) 21 rfl (v := (.ref ob)) rfl rfl ?_
  refine g_iconst X136 hx (hb hby d15_21) 22 rfl (0 : Int32) rfl ?_
  refine g_aloadN X136 hx (hb hby d15_22) 23 rfl (v := (.ref a1)) rfl rfl ?_
  refine g_alen X136 hx (hb hby d15_23) 24 rfl hZ e136 (Arv.keep A_a1 K136 nin0) ?_
  refine g_iloadN X136 hx (hb hby d15_24) 25 rfl (v := (Int32.ofNat 32768)) rfl ?_
  obtain ⟨_, _, ⟨T139, L139, k139, n139⟩, -, X139, ⟨Lc139, hQ139, l139, y139, z139⟩, st139⟩ := Jvm.LawKit.callS X136 hx (y := (⟨"java/lang/Math", "min", "(II)I"⟩ : MethodName)) hown (mvT hZ (hw _ (List.mem_of_getElem? (i := 73) rfl))) (mvT hZ (hw _ (List.mem_of_getElem? (i := 74) rfl))) (mvT hZ (hw _ (List.mem_of_getElem? (i := 75) rfl))) (mvT hZ (hw _ (List.mem_of_getElem? (i := 76) rfl))) (by decide) (backOf (W := 4) (rm16 l Z a0 hw [] (Int32.ofNat 16384) (Int32.ofNat 32768) h136 n0 Zs136 ) hZ (hw _ (List.mem_of_getElem? (i := 76) rfl)) (hw _ (List.mem_of_getElem? (i := 75) rfl)) (by decide) (by decide)) (g := (mkF m 25 #[.val (.ref a1), .val (.int (Int32.ofNat 32768)), .val (.ref ob)] [(.int (Int32.ofNat 32768)), (.int (Int32.ofNat 16384)), (.int (0 : Int32)), (.ref ob), (.int (0 : Int32)), (.ref a1)])) rfl (by rw [hml]; rfl) (argsL := [(.int (Int32.ofNat 16384)), (.int (Int32.ofNat 32768))]) (rest := [(.int (0 : Int32)), (.ref ob), (.int (0 : Int32)), (.ref a1)]) (lenOf own_pd12 rfl) rfl (by show 2 * 0 + _ ≤ _; exact Nat.le_of_eq rfl) (hb hby d15_25) (fun _ _ => ⟨rfl, e136, (by decide : 1 + 0 ≤ _), (by decide : 32768 + 0 ≤ _)⟩)
  dsimp only [Pt.U, Pt.locs, Pt.cells, Pt.slots] at X139 l139 y139 z139 st139 hQ139
  subst l139 y139 z139
  obtain ⟨r_139, rfl, Nq139, e139, p139_0⟩ := hQ139
  refine Go.st st139 ?_
  have N139 := Fr.app N0 Nq139
  show Go p e below _ (T139.setTop (mkF m 28 #[.val (.ref a1), .val (.int (Int32.ofNat 32768)), .val (.ref ob)] [(.int r_139), (.int (0 : Int32)), (.ref ob), (.int (0 : Int32)), (.ref a1)]))
  have er : r_139 = Int32.ofNat 16384 := by rw [p139_0]; exact if_neg (by decide)
  subst er
  have Avp : Arv Z h136 ob cA136 .byte (Int32.ofNat 32768) (List.replicate 16384 (.int (0 : Int32))) (.int (0 : Int32)) := Arv.pad Av_ob (pad_rep [] (.int (0 : Int32)) 16384)
  obtain ⟨T140, h140, L140, X140, e140, N140, Kq140, B140, st140⟩ := cpA X139 hx hZ hown (hw _ (List.mem_of_getElem? (i := 77) rfl)) (hw _ (List.mem_of_getElem? (i := 80) rfl)) (hw _ (List.mem_of_getElem? (i := 78) rfl)) (hw _ (List.mem_of_getElem? (i := 79) rfl)) e139 (Arv.keep A_a1 K136 nin0) Avp (Or.inl ⟨rfl, rfl⟩) (by decide) (by decide) (by decide) (by decide) (by decide) rfl (by rw [List.length_replicate]; decide) N139 g_ob (g := (mkF m 28 #[.val (.ref a1), .val (.int (Int32.ofNat 32768)), .val (.ref ob)] [(.int (Int32.ofNat 16384)), (.int (0 : Int32)), (.ref ob), (.int (0 : Int32)), (.ref a1)])) rfl (by rw [hml]; rfl) rfl (hb hby d15_28) (by decide) (W := 0) (by show 2 * 0 + _ ≤ _; exact Nat.le_of_eq rfl) (by decide)
  refine Go.st st140 ?_
  have Av_ob_140 : Arv Z h140 ob cA136 .byte (Int32.ofNat 32768) [] (.int (0 : Int32)) := (by have q := B140; exact Arv.pad q (own_cpz _ _ _ _ _ _ (fun _ => rfl)))
  have K140 : Keep h0 h140 [] := Keep.trans K136 Kq140 (allS (Or.inr mh_ob) all0)
  have Zs140 : n0 ≤ h140.size := Nat.le_trans Zs136 Kq140.1
  show Go p e below _ (T140.setTop (mkF m 31 #[.val (.ref a1), .val (.int (Int32.ofNat 32768)), .val (.ref ob)] []))
  refine g_aloadN X140 hx (hb hby d15_31) 32 rfl (v := (.ref ob)) rfl rfl ?_
  refine Go.retA X140 hx hlk Bd.returns rfl rfl (hb hby d15_32) (by decide) (by decide) ?_
  show QcpG Z a1 k h0 n0 _ T140.heap _
  rw [e140]
  exact ⟨ob, cA136, rfl, N140, K140, mh_ob, Av_ob_140⟩
theorem ef_rmG (m : MethodId) (x0 : Addr) (x1 : Int32) : entryFrame m #[(.ref x0), (.int x1)] 3 = mkF m 0 #[.val (.ref x0), .val (.int x1), .unset] [] := by first | (simp [entryFrame, mkF, argsToLocals, Value.category]; done) | rfl
theorem d13_19 : decode prog_9_method_10_code 19 = .ok (.aload_n 0, 1) := by decide +kernel
theorem d13_20 : decode prog_9_method_10_code 20 = .ok (.aload_n 0, 1) := by decide +kernel
theorem d13_21 : decode prog_9_method_10_code 21 = .ok (.getfield 9, 3) := by decide +kernel
theorem d13_24 : decode prog_9_method_10_code 24 = .ok (.iconst 2, 1) := by decide +kernel
theorem d13_25 : decode prog_9_method_10_code 25 = .ok (.aload_n 0, 1) := by decide +kernel
theorem d13_26 : decode prog_9_method_10_code 26 = .ok (.getfield 9, 3) := by decide +kernel
theorem d13_29 : decode prog_9_method_10_code 29 = .ok (.arraylength, 1) := by decide +kernel
theorem d13_30 : decode prog_9_method_10_code 30 = .ok (.imul, 1) := by decide +kernel
theorem d13_31 : decode prog_9_method_10_code 31 = .ok (.iload_n 2, 1) := by decide +kernel
theorem d13_32 : decode prog_9_method_10_code 32 = .ok (.invokestatic 52, 3) := by decide +kernel
theorem d13_35 : decode prog_9_method_10_code 35 = .ok (.invokestatic 46, 3) := by decide +kernel
theorem d13_38 : decode prog_9_method_10_code 38 = .ok (.putfield 9, 3) := by decide +kernel
def QrmG (Z : State) (a1 : Addr) (wb : Addr) (kb : ClassId) (nz : Nat) (h0 : Heap) (n0 : Nat) (v : Option Value) (h : Heap) (L : List Loc) : Prop := ∃ wq : Addr, ∃ kq : ClassId, v = none ∧ Fr n0 L ∧ Keep h0 h [a1] ∧ h0.size ≤ wq ∧ (Exa Z h a1 "com/example/anagrafe/anagrafe/atom/Markup") ∧ (Fld Z h a1 "com/example/anagrafe/anagrafe/atom/Markup" "bytes" "[B" (.ref wq)) ∧ (Fld Z h a1 "com/example/anagrafe/anagrafe/atom/Markup" "size" "I" (.int (Int32.ofNat 0))) ∧ (Arv Z h wq kq .byte (Int32.ofNat 32768) [] (.int (0 : Int32)))
set_option maxRecDepth 65536 in
set_option maxHeartbeats 40000000 in
theorem rmrmG (l : Launch) (Z : State) (a0 : Array Value) (hw : ∀ d ∈ tables_1, d.before a0 Z = true) (ws : List Jvm.Cond) (a1 : Addr) (wb : Addr) (kb : ClassId) (nz : Nat) (h0 : Heap) (n0 : Nat) (Z0 : n0 ≤ h0.size) (E_a1 : Exa Z h0 a1 "com/example/anagrafe/anagrafe/atom/Markup") (F_bytes_a1 : Fld Z h0 a1 "com/example/anagrafe/anagrafe/atom/Markup" "bytes" "[B" (.ref wb)) (F_size_a1 : Fld Z h0 a1 "com/example/anagrafe/anagrafe/atom/Markup" "size" "I" (.int (Int32.ofNat 0))) (A_wb : Arv Z h0 wb kb .byte (Int32.ofNat 16384) [] (.int (0 : Int32))) (g_a1 : n0 ≤ a1) (ne_a1_wb : a1 ≠ wb) (hn : nz ≤ 4095) (hg : 16384 < 6 * nz) :
    MetFree l (⟨"com/example/anagrafe/anagrafe/atom/Markup", "room", "(I)V"⟩ : MethodName) (head1 (Jvm.Cond.code (⟨"com/example/anagrafe/anagrafe/atom/Markup", "room", "(I)V"⟩ : MethodName) prog_9_method_10_code 3 none :: ws) ({ frames := 2, cells := 1, slots := 32768, locals := 33 } : Room)) (fun a U => a = #[(.ref a1), (.int (Int32.ofNat nz))] ∧ Z.Warmed39 U.vm ∧ U.heap = h0) (fun _ _ _ _ _ => True) (fun _ U o U' => ∃ v L, o = .returned v ∧ QrmG Z a1 wb kb nz h0 n0 v U'.heap L ∧ FrameEnd U o U' L ({ frames := 2, cells := 1, slots := 32768, locals := 33 } : Room).cells ({ frames := 2, cells := 1, slots := 32768, locals := 33 } : Room).slots) := by
  refine MetFree.of_bodySF (plainFor_of_name own_pn_com_example_anagrafe_anagrafe_atom_Markup) hisR ?_
  intro p e s m args below meth c s₁ Bd hml0 hP hK
  obtain ⟨rfl, hZ, hh⟩ := hP
  have hx := Bd.exec
  have hby := Bd.bytes
  have hlk := Bd.notSynchronized
  have hml : c.maxLocals = 3 := hml0
  have hown : s.vm.findClass "com/example/anagrafe/anagrafe/atom/Markup" = some m.cls := findClass_of_methodNamed Bd.named
  have hnm := (name_of_methodNamed Bd.named Bd.method).1
  have X0 : Stand p l e ({ frames := 2, cells := 1, slots := 32768, locals := 33 } : Room) s m #[(.ref a1), (.int (Int32.ofNat nz))] below meth c s₁ [] 0 0 := Stand.of_body Bd
  have e0 : s₁.heap = h0 := by rw [← hh, Bd.state]; rfl
  have N0 := Fr.nil n0
  have K0 : Keep h0 h0 [a1] := Keep.refl _ _
  show Go p e below (KQ s below (QrmG Z a1 wb kb nz h0 n0) ({ frames := 2, cells := 1, slots := 32768, locals := 33 } : Room).cells ({ frames := 2, cells := 1, slots := 32768, locals := 33 } : Room).slots) _
  refine Go.body (T := s₁) (σ := s₁) (g' := (mkF m 0 #[.val (.ref a1), .val (.int (Int32.ofNat nz)), .unset] [])) (ef_rmG m a1 (Int32.ofNat nz)) ?_
  refine g_aloadN X0 hx (hb hby d13_0) 1 rfl (v := (.ref a1)) rfl rfl ?_
  obtain ⟨T142, X142, e142, st142⟩ := getF X0 hx hZ hown (host := "") (Or.inl (hw _ (List.mem_of_getElem? (i := 62) rfl))) Via.refl e0 F_size_a1 (g := (mkF m 1 #[.val (.ref a1), .val (.int (Int32.ofNat nz)), .unset] [(.ref a1)])) rfl rfl (hb hby d13_1)
  refine Go.st st142 ?_
  show Go p e below _ (T142.setTop (mkF m 4 #[.val (.ref a1), .val (.int (Int32.ofNat nz)), .unset] [(.int (Int32.ofNat 0))]))
  refine g_bipush X142 hx (hb hby d13_4) 6 rfl (6 : Int32) rfl ?_
  refine g_iloadN X142 hx (hb hby d13_6) 7 rfl (v := (Int32.ofNat nz)) rfl ?_
  refine g_imul X142 hx (hb hby d13_7) 8 rfl (Int32.ofNat (6 * nz)) (own_mul6 nz) ?_
  refine g_iadd X142 hx (hb hby d13_8) 9 rfl (Int32.ofNat (6 * nz)) (own_0add _) ?_
  refine g_istoreN X142 hx (hb hby d13_9) 10 rfl #[.val (.ref a1), .val (.int (Int32.ofNat nz)), .val (.int (Int32.ofNat (6 * nz)))] rfl ?_
  refine g_iloadN X142 hx (hb hby d13_10) 11 rfl (v := (Int32.ofNat (6 * nz))) rfl ?_
  refine g_aloadN X142 hx (hb hby d13_11) 12 rfl (v := (.ref a1)) rfl rfl ?_
  obtain ⟨T143, X143, e143, st143⟩ := getF X142 hx hZ hown (host := "") (Or.inl (hw _ (List.mem_of_getElem? (i := 51) rfl))) Via.refl e142 F_bytes_a1 (g := (mkF m 12 #[.val (.ref a1), .val (.int (Int32.ofNat nz)), .val (.int (Int32.ofNat (6 * nz)))] [(.ref a1), (.int (Int32.ofNat (6 * nz)))])) rfl rfl (hb hby d13_12)
  refine Go.st st143 ?_
  show Go p e below _ (T143.setTop (mkF m 15 #[.val (.ref a1), .val (.int (Int32.ofNat nz)), .val (.int (Int32.ofNat (6 * nz)))] [(.ref wb), (.int (Int32.ofNat (6 * nz)))]))
  refine g_alen X143 hx (hb hby d13_15) 16 rfl hZ e143 A_wb ?_
  refine g_icmp_le X143 hx (hb hby d13_16) 41 19 (by decide) (by decide) rfl (fun hc16 => False.elim (hc16 (own_in (by omega) (by omega)).2)) (fun hc16 => ?_)
  refine g_aloadN X143 hx (hb hby d13_19) 20 rfl (v := (.ref a1)) rfl rfl ?_
  refine g_aloadN X143 hx (hb hby d13_20) 21 rfl (v := (.ref a1)) rfl rfl ?_
  obtain ⟨T145, X145, e145, st145⟩ := getF X143 hx hZ hown (host := "") (Or.inl (hw _ (List.mem_of_getElem? (i := 51) rfl))) Via.refl e143 F_bytes_a1 (g := (mkF m 21 #[.val (.ref a1), .val (.int (Int32.ofNat nz)), .val (.int (Int32.ofNat (6 * nz)))] [(.ref a1), (.ref a1)])) rfl rfl (hb hby d13_21)
  refine Go.st st145 ?_
  show Go p e below _ (T145.setTop (mkF m 24 #[.val (.ref a1), .val (.int (Int32.ofNat nz)), .val (.int (Int32.ofNat (6 * nz)))] [(.ref wb), (.ref a1)]))
  refine g_iconst X145 hx (hb hby d13_24) 25 rfl (2 : Int32) rfl ?_
  refine g_aloadN X145 hx (hb hby d13_25) 26 rfl (v := (.ref a1)) rfl rfl ?_
  obtain ⟨T146, X146, e146, st146⟩ := getF X145 hx hZ hown (host := "") (Or.inl (hw _ (List.mem_of_getElem? (i := 51) rfl))) Via.refl e145 F_bytes_a1 (g := (mkF m 26 #[.val (.ref a1), .val (.int (Int32.ofNat nz)), .val (.int (Int32.ofNat (6 * nz)))] [(.ref a1), (.int (2 : Int32)), (.ref wb), (.ref a1)])) rfl rfl (hb hby d13_26)
  refine Go.st st146 ?_
  show Go p e below _ (T146.setTop (mkF m 29 #[.val (.ref a1), .val (.int (Int32.ofNat nz)), .val (.int (Int32.ofNat (6 * nz)))] [(.ref wb), (.int (2 : Int32)), (.ref wb), (.ref a1)]))
  refine g_alen X146 hx (hb hby d13_29) 30 rfl hZ e146 A_wb ?_
  refine g_imul X146 hx (hb hby d13_30) 31 rfl (Int32.ofNat 32768) (by decide) ?_
  refine g_iloadN X146 hx (hb hby d13_31) 32 rfl (v := (Int32.ofNat (6 * nz))) rfl ?_
  obtain ⟨_, _, ⟨T148, L148, k148, n148⟩, -, X148, ⟨Lc148, hQ148, l148, y148, z148⟩, st148⟩ := Jvm.LawKit.callS X146 hx (y := (⟨"java/lang/Math", "max", "(II)I"⟩ : MethodName)) hown (mvT hZ (hw _ (List.mem_of_getElem? (i := 205) rfl))) (mvT hZ (hw _ (List.mem_of_getElem? (i := 150) rfl))) (mvT hZ (hw _ (List.mem_of_getElem? (i := 75) rfl))) (mvT hZ (hw _ (List.mem_of_getElem? (i := 151) rfl))) (by decide) (backOf (W := 2) (rmmx l Z a0 hw [] (Int32.ofNat 32768) (Int32.ofNat (6 * nz)) h0 n0 Z0 ) hZ (hw _ (List.mem_of_getElem? (i := 151) rfl)) (hw _ (List.mem_of_getElem? (i := 75) rfl)) (by decide) (by decide)) (g := (mkF m 32 #[.val (.ref a1), .val (.int (Int32.ofNat nz)), .val (.int (Int32.ofNat (6 * nz)))] [(.int (Int32.ofNat (6 * nz))), (.int (Int32.ofNat 32768)), (.ref wb), (.ref a1)])) rfl (by rw [hml]; rfl) (argsL := [(.int (Int32.ofNat 32768)), (.int (Int32.ofNat (6 * nz)))]) (rest := [(.ref wb), (.ref a1)]) (lenOf own_pd12 rfl) rfl (by show 2 * 0 + _ ≤ _; exact Nat.le_of_eq rfl) (hb hby d13_32) (fun _ _ => ⟨rfl, e146, (by decide : 0 + 0 ≤ _), (by decide : 0 + 0 ≤ _)⟩)
  dsimp only [Pt.U, Pt.locs, Pt.cells, Pt.slots] at X148 l148 y148 z148 st148 hQ148
  subst l148 y148 z148
  obtain ⟨r_148, rfl, Nq148, e148, p148_0⟩ := hQ148
  refine Go.st st148 ?_
  have N148 := Fr.app N0 Nq148
  show Go p e below _ (T148.setTop (mkF m 35 #[.val (.ref a1), .val (.int (Int32.ofNat nz)), .val (.int (Int32.ofNat (6 * nz)))] [(.int r_148), (.ref wb), (.ref a1)]))
  have er : r_148 = Int32.ofNat 32768 := by rw [p148_0]; exact if_neg (fun z => absurd (own_lt (by omega) (by omega) z) (by omega))
  subst er
  obtain ⟨_, _, ⟨T149, L149, k149, n149⟩, -, X149, ⟨Lc149, hQ149, l149, y149, z149⟩, st149⟩ := Jvm.LawKit.callS X148 hx (y := (⟨"java/util/Arrays", "copyOf", "([BI)[B"⟩ : MethodName)) hown (mvT hZ (hw _ (List.mem_of_getElem? (i := 69) rfl))) (mvT hZ (hw _ (List.mem_of_getElem? (i := 70) rfl))) (mvT hZ (hw _ (List.mem_of_getElem? (i := 71) rfl))) (mvT hZ (hw _ (List.mem_of_getElem? (i := 72) rfl))) (by decide) (backOf (W := 1) (rmcpG l Z a0 hw [] wb kb h0 n0 Z0 A_wb) hZ (hw _ (List.mem_of_getElem? (i := 72) rfl)) (hw _ (List.mem_of_getElem? (i := 71) rfl)) (by decide) (by decide)) (g := (mkF m 35 #[.val (.ref a1), .val (.int (Int32.ofNat nz)), .val (.int (Int32.ofNat (6 * nz)))] [(.int (Int32.ofNat 32768)), (.ref wb), (.ref a1)])) rfl (by rw [hml]; rfl) (argsL := [(.ref wb), (.int (Int32.ofNat 32768))]) (rest := [(.ref a1)]) (lenOf own_pd13 rfl) rfl (by show 2 * 0 + _ ≤ _; exact Nat.le_of_eq rfl) (hb hby d13_35) (fun _ _ => ⟨rfl, e148, (by decide : 0 + 1 ≤ _), (by decide : 0 + 32768 ≤ _)⟩)
  dsimp only [Pt.U, Pt.locs, Pt.cells, Pt.slots] at X149 l149 y149 z149 st149 hQ149
  subst l149 y149 z149
  obtain ⟨owq, okq, rfl, Nq149, Kq149, f149_0, f149_1⟩ := hQ149
  refine Go.st st149 ?_
  have N149 := Fr.app N148 Nq149
  have E_a1_150 : Exa Z T149.heap a1 "com/example/anagrafe/anagrafe/atom/Markup" := Exa.keep E_a1 Kq149
  have F_bytes_a1_150 : Fld Z T149.heap a1 "com/example/anagrafe/anagrafe/atom/Markup" "bytes" "[B" (.ref wb) := Fld.keep F_bytes_a1 Kq149 nin0
  have F_size_a1_150 : Fld Z T149.heap a1 "com/example/anagrafe/anagrafe/atom/Markup" "size" "I" (.int (Int32.ofNat 0)) := Fld.keep F_size_a1 Kq149 nin0
  have ne_a1_owq : a1 ≠ owq := Nat.ne_of_lt (Nat.lt_of_lt_of_le E_a1.lt f149_0)
  have g_owq : n0 ≤ owq := Nat.le_trans Z0 f149_0
  have mh_owq : h0.size ≤ owq := Nat.le_trans K0.1 f149_0
  have K149 : Keep h0 T149.heap [a1] := Keep.trans K0 Kq149 all0
  have Zs149 : n0 ≤ T149.heap.size := Nat.le_trans Z0 Kq149.1
  show Go p e below _ (T149.setTop (mkF m 38 #[.val (.ref a1), .val (.int (Int32.ofNat nz)), .val (.int (Int32.ofNat (6 * nz)))] [(.ref owq), (.ref a1)]))
  obtain ⟨T151, h151, X151, e151, W151, st151⟩ := putF X149 hx hZ hown (host := "") (Or.inl (hw _ (List.mem_of_getElem? (i := 51) rfl))) Via.refl rfl F_bytes_a1_150 E_a1_150 (Or.inl (hw _ (List.mem_of_getElem? (i := 52) rfl))) (hw _ (List.mem_of_getElem? (i := 45) rfl)) (ty := (.array .byte)) (by decide) rfl rfl (g := (mkF m 38 #[.val (.ref a1), .val (.int (Int32.ofNat nz)), .val (.int (Int32.ofNat (6 * nz)))] [(.ref owq), (.ref a1)])) rfl rfl (hb hby d13_38)
  refine Go.st st151 ?_
  have E_a1_152 : Exa Z h151 a1 "com/example/anagrafe/anagrafe/atom/Markup" := Exa.wr W151 E_a1_150
  have F_size_a1_152 : Fld Z h151 a1 "com/example/anagrafe/anagrafe/atom/Markup" "size" "I" (.int (Int32.ofNat 0)) := Fld.other W151 F_size_a1_150 (Or.inr (slot_ne (Or.inl (hw _ (List.mem_of_getElem? (i := 63) rfl))) (Or.inl (hw _ (List.mem_of_getElem? (i := 52) rfl))) (by decide) (t := .int) (t' := (.array .byte)) (by decide) (by decide)))
  have A_owq_152 : Arv Z h151 owq okq .byte (Int32.ofNat 32768) [] (.int (0 : Int32)) := Arv.other f149_1 W151 (Ne.symm ne_a1_owq)
  have F_bytes_a1_151w : Fld Z h151 a1 "com/example/anagrafe/anagrafe/atom/Markup" "bytes" "[B" (.ref owq) := Fld.same W151 F_bytes_a1_150
  have K151 : Keep h0 h151 [a1] := Keep.wr K149 W151 (Or.inl (List.mem_of_getElem? (i := 0) rfl))
  have N151 := Fr.snoc X151 N149 g_a1
  have Zs151 : n0 ≤ h151.size := by rw [W151.size]; exact Zs149
  show Go p e below _ (T151.setTop (mkF m 41 #[.val (.ref a1), .val (.int (Int32.ofNat nz)), .val (.int (Int32.ofNat (6 * nz)))] []))
  refine Go.retV X151 hx hlk Bd.returns (hb hby d13_41) (by decide) (by decide) ?_
  show QrmG Z a1 wb kb nz h0 n0 _ T151.heap _
  rw [e151]
  exact ⟨owq, okq, rfl, N151, K151, mh_owq, E_a1_152, F_bytes_a1_151w, F_size_a1_152, A_owq_152⟩
theorem ef_mx0 (m : MethodId) (x0 : Int32) (x1 : Int32) : entryFrame m #[(.int x0), (.int x1)] 2 = mkF m 0 #[.val (.int x0), .val (.int x1)] [] := by first | (simp [entryFrame, mkF, argsToLocals, Value.category]; done) | rfl
def Qmx0 (Z : State)  (h0 : Heap) (n0 : Nat) (v : Option Value) (h : Heap) (L : List Loc) : Prop := v = some (.int (0 : Int32)) ∧ Fr n0 L ∧ h = h0
set_option maxRecDepth 65536 in
set_option maxHeartbeats 40000000 in
theorem rmmx0 (l : Launch) (Z : State) (a0 : Array Value) (hw : ∀ d ∈ tables_1, d.before a0 Z = true) (ws : List Jvm.Cond)  (h0 : Heap) (n0 : Nat) (Z0 : n0 ≤ h0.size)  :
    MetFree l (⟨"java/lang/Math", "max", "(II)I"⟩ : MethodName) (head1 (Jvm.Cond.code (⟨"java/lang/Math", "max", "(II)I"⟩ : MethodName) jdk_29_method_65_code 2 (some .int) :: ws) ({ frames := 0, cells := 0, slots := 0, locals := 0 } : Room)) (fun a U => a = #[(.int (0 : Int32)), (.int (0 : Int32))] ∧ Z.Warmed39 U.vm ∧ U.heap = h0) (fun _ _ _ _ _ => True) (fun _ U o U' => ∃ v L, o = .returned v ∧ Qmx0 Z  h0 n0 v U'.heap L ∧ FrameEnd U o U' L ({ frames := 0, cells := 0, slots := 0, locals := 0 } : Room).cells ({ frames := 0, cells := 0, slots := 0, locals := 0 } : Room).slots) := by
  refine MetFree.of_bodySF (Jvm.Free.JP.mathPlain rfl (by decide +kernel)) hisR ?_
  intro p e s m args below meth c s₁ Bd hml0 hP hK
  obtain ⟨rfl, hZ, hh⟩ := hP
  have hx := Bd.exec
  have hby := Bd.bytes
  have hlk := Bd.notSynchronized
  have hml : c.maxLocals = 2 := hml0
  have hown : s.vm.findClass "java/lang/Math" = some m.cls := findClass_of_methodNamed Bd.named
  have hnm := (name_of_methodNamed Bd.named Bd.method).1
  have X0 : Stand p l e ({ frames := 0, cells := 0, slots := 0, locals := 0 } : Room) s m #[(.int (0 : Int32)), (.int (0 : Int32))] below meth c s₁ [] 0 0 := Stand.of_body Bd
  have e0 : s₁.heap = h0 := by rw [← hh, Bd.state]; rfl
  have N0 := Fr.nil n0
  show Go p e below (KQ s below (Qmx0 Z  h0 n0) ({ frames := 0, cells := 0, slots := 0, locals := 0 } : Room).cells ({ frames := 0, cells := 0, slots := 0, locals := 0 } : Room).slots) _
  refine Go.body (T := s₁) (σ := s₁) (g' := (mkF m 0 #[.val (.int (0 : Int32)), .val (.int (0 : Int32))] [])) (ef_mx0 m (0 : Int32) (0 : Int32)) ?_
  refine g_iloadN X0 hx (hb hby d31_0) 1 rfl (v := (0 : Int32)) rfl ?_
  refine g_iloadN X0 hx (hb hby d31_1) 2 rfl (v := (0 : Int32)) rfl ?_
  refine g_icmp_lt X0 hx (hb hby d31_2) 9 5 (by decide) (by decide) rfl (fun hc2 => False.elim (absurd hc2 (by decide))) (fun hc2 => ?_)
  refine g_iloadN X0 hx (hb hby d31_5) 6 rfl (v := (0 : Int32)) rfl ?_
  refine g_goto X0 hx (hb hby d31_6) 10 (by decide) (by decide) ?_
  refine Go.retI X0 hx hlk Bd.returns (hb hby d31_10) (by decide) (by decide) ?_
  show Qmx0 Z  h0 n0 _ s₁.heap _
  rw [e0]
  exact ⟨rfl, N0, rfl⟩
theorem ef_mnE (m : MethodId) (x0 : Int32) (x1 : Int32) : entryFrame m #[(.int x0), (.int x1)] 2 = mkF m 0 #[.val (.int x0), .val (.int x1)] [] := by first | (simp [entryFrame, mkF, argsToLocals, Value.category]; done) | rfl
def QmnE (Z : State) (p1 : Int32) (p2 : Int32) (h0 : Heap) (n0 : Nat) (v : Option Value) (h : Heap) (L : List Loc) : Prop := v = some (.int p1) ∧ Fr n0 L ∧ h = h0
set_option maxRecDepth 65536 in
set_option maxHeartbeats 40000000 in
theorem rmmnE (l : Launch) (Z : State) (a0 : Array Value) (hw : ∀ d ∈ tables_1, d.before a0 Z = true) (ws : List Jvm.Cond) (p1 : Int32) (p2 : Int32) (h0 : Heap) (n0 : Nat) (Z0 : n0 ≤ h0.size) (hp : p1 = p2) :
    MetFree l (⟨"java/lang/Math", "min", "(II)I"⟩ : MethodName) (head1 (Jvm.Cond.code (⟨"java/lang/Math", "min", "(II)I"⟩ : MethodName) jdk_29_method_69_code 2 (some .int) :: ws) ({ frames := 0, cells := 0, slots := 0, locals := 0 } : Room)) (fun a U => a = #[(.int p1), (.int p2)] ∧ Z.Warmed39 U.vm ∧ U.heap = h0) (fun _ _ _ _ _ => True) (fun _ U o U' => ∃ v L, o = .returned v ∧ QmnE Z p1 p2 h0 n0 v U'.heap L ∧ FrameEnd U o U' L ({ frames := 0, cells := 0, slots := 0, locals := 0 } : Room).cells ({ frames := 0, cells := 0, slots := 0, locals := 0 } : Room).slots) := by
  refine MetFree.of_bodySF (Jvm.Free.JP.mathPlain rfl (by decide +kernel)) hisR ?_
  intro p e s m args below meth c s₁ Bd hml0 hP hK
  obtain ⟨rfl, hZ, hh⟩ := hP
  have hx := Bd.exec
  have hby := Bd.bytes
  have hlk := Bd.notSynchronized
  have hml : c.maxLocals = 2 := hml0
  have hown : s.vm.findClass "java/lang/Math" = some m.cls := findClass_of_methodNamed Bd.named
  have hnm := (name_of_methodNamed Bd.named Bd.method).1
  have X0 : Stand p l e ({ frames := 0, cells := 0, slots := 0, locals := 0 } : Room) s m #[(.int p1), (.int p2)] below meth c s₁ [] 0 0 := Stand.of_body Bd
  have e0 : s₁.heap = h0 := by rw [← hh, Bd.state]; rfl
  have N0 := Fr.nil n0
  show Go p e below (KQ s below (QmnE Z p1 p2 h0 n0) ({ frames := 0, cells := 0, slots := 0, locals := 0 } : Room).cells ({ frames := 0, cells := 0, slots := 0, locals := 0 } : Room).slots) _
  refine Go.body (T := s₁) (σ := s₁) (g' := (mkF m 0 #[.val (.int p1), .val (.int p2)] [])) (ef_mnE m p1 p2) ?_
  refine g_iloadN X0 hx (hb hby d16_0) 1 rfl (v := p1) rfl ?_
  refine g_iloadN X0 hx (hb hby d16_1) 2 rfl (v := p2) rfl ?_
  refine g_icmp_gt X0 hx (hb hby d16_2) 9 5 (by decide) (by decide) rfl (fun hc2 => False.elim (Int32.lt_irrefl (a := p2) (by rw [hp] at hc2; exact hc2))) (fun hc2 => ?_)
  refine g_iloadN X0 hx (hb hby d16_5) 6 rfl (v := p1) rfl ?_
  refine g_goto X0 hx (hb hby d16_6) 10 (by decide) (by decide) ?_
  refine Go.retI X0 hx hlk Bd.returns (hb hby d16_10) (by decide) (by decide) ?_
  show QmnE Z p1 p2 h0 n0 _ s₁.heap _
  rw [e0]
  exact ⟨rfl, N0, rfl⟩
theorem ef_ceI (m : MethodId) (x0 : Int32) : entryFrame m #[(.int x0)] 1 = mkF m 0 #[.val (.int x0)] [] := by first | (simp [entryFrame, mkF, argsToLocals, Value.category]; done) | rfl
theorem d30_0 : decode jdk_43_method_4_code 0 = .ok (.iload_n 0, 1) := by decide +kernel
theorem d30_1 : decode jdk_43_method_4_code 1 = .ok (.ifCond .lt 14, 3) := by decide +kernel
theorem d30_4 : decode jdk_43_method_4_code 4 = .ok (.iload_n 0, 1) := by decide +kernel
theorem d30_5 : decode jdk_43_method_4_code 5 = .ok (.sipush 255, 3) := by decide +kernel
theorem d30_8 : decode jdk_43_method_4_code 8 = .ok (.if_icmp .gt 7, 3) := by decide +kernel
theorem d30_11 : decode jdk_43_method_4_code 11 = .ok (.iconst 1, 1) := by decide +kernel
theorem d30_12 : decode jdk_43_method_4_code 12 = .ok (.goto 4, 3) := by decide +kernel
theorem d30_16 : decode jdk_43_method_4_code 16 = .ok (.ireturn, 1) := by decide +kernel
def QceI (Z : State) (p1 : Int32) (h0 : Heap) (n0 : Nat) (v : Option Value) (h : Heap) (L : List Loc) : Prop := v = some (.int (1 : Int32)) ∧ Fr n0 L ∧ h = h0
set_option maxRecDepth 65536 in
set_option maxHeartbeats 40000000 in
theorem rmceI (l : Launch) (Z : State) (a0 : Array Value) (hw : ∀ d ∈ tables_1, d.before a0 Z = true) (ws : List Jvm.Cond) (p1 : Int32) (h0 : Heap) (n0 : Nat) (Z0 : n0 ≤ h0.size) (hp0 : ¬ p1 < 0) (hp : ¬ (255 : Int32) < p1) :
    MetFree l (⟨"java/lang/StringLatin1", "canEncode", "(I)Z"⟩ : MethodName) (head1 (Jvm.Cond.code (⟨"java/lang/StringLatin1", "canEncode", "(I)Z"⟩ : MethodName) jdk_43_method_4_code 1 (some .boolean) :: ws) ({ frames := 0, cells := 0, slots := 0, locals := 0 } : Room)) (fun a U => a = #[(.int p1)] ∧ Z.Warmed39 U.vm ∧ U.heap = h0) (fun _ _ _ _ _ => True) (fun _ U o U' => ∃ v L, o = .returned v ∧ QceI Z p1 h0 n0 v U'.heap L ∧ FrameEnd U o U' L ({ frames := 0, cells := 0, slots := 0, locals := 0 } : Room).cells ({ frames := 0, cells := 0, slots := 0, locals := 0 } : Room).slots) := by
  refine MetFree.of_bodySF (plainFor_of_name own_pn_java_lang_StringLatin1) hisR ?_
  intro p e s m args below meth c s₁ Bd hml0 hP hK
  obtain ⟨rfl, hZ, hh⟩ := hP
  have hx := Bd.exec
  have hby := Bd.bytes
  have hlk := Bd.notSynchronized
  have hml : c.maxLocals = 1 := hml0
  have hown : s.vm.findClass "java/lang/StringLatin1" = some m.cls := findClass_of_methodNamed Bd.named
  have hnm := (name_of_methodNamed Bd.named Bd.method).1
  have X0 : Stand p l e ({ frames := 0, cells := 0, slots := 0, locals := 0 } : Room) s m #[(.int p1)] below meth c s₁ [] 0 0 := Stand.of_body Bd
  have e0 : s₁.heap = h0 := by rw [← hh, Bd.state]; rfl
  have N0 := Fr.nil n0
  show Go p e below (KQ s below (QceI Z p1 h0 n0) ({ frames := 0, cells := 0, slots := 0, locals := 0 } : Room).cells ({ frames := 0, cells := 0, slots := 0, locals := 0 } : Room).slots) _
  refine Go.body (T := s₁) (σ := s₁) (g' := (mkF m 0 #[.val (.int p1)] [])) (ef_ceI m p1) ?_
  refine g_iloadN X0 hx (hb hby d30_0) 1 rfl (v := p1) rfl ?_
  refine g_if_lt X0 hx (hb hby d30_1) 15 4 (by decide) (by decide) rfl (fun hc1 => False.elim (hp0 hc1)) (fun hc1 => ?_)
  refine g_iloadN X0 hx (hb hby d30_4) 5 rfl (v := p1) rfl ?_
  refine g_sipush X0 hx (hb hby d30_5) 8 rfl (255 : Int32) rfl ?_
  refine g_icmp_gt X0 hx (hb hby d30_8) 15 11 (by decide) (by decide) rfl (fun hc8 => False.elim (hp hc8)) (fun hc8 => ?_)
  refine g_iconst X0 hx (hb hby d30_11) 12 rfl (1 : Int32) rfl ?_
  refine g_goto X0 hx (hb hby d30_12) 16 (by decide) (by decide) ?_
  refine Go.retN X0 hx hlk (t := .boolean) Bd.returns (by simp) (hb hby d30_16) (by decide) (by decide) ?_
  show QceI Z p1 h0 n0 _ s₁.heap _
  rw [e0]
  exact ⟨rfl, N0, rfl⟩
theorem ef_lic (m : MethodId) (x0 : Addr) (x1 : Int32) (x2 : Int32) (x3 : Int32) : entryFrame m #[(.ref x0), (.int x1), (.int x2), (.int x3)] 6 = mkF m 0 #[.val (.ref x0), .val (.int x1), .val (.int x2), .val (.int x3), .unset, .unset] [] := by first | (simp [entryFrame, mkF, argsToLocals, Value.category]; done) | rfl
theorem d32_0 : decode jdk_43_method_23_code 0 = .ok (.iload_n 1, 1) := by decide +kernel
theorem d32_1 : decode jdk_43_method_23_code 1 = .ok (.i2b, 1) := by decide +kernel
theorem d32_2 : decode jdk_43_method_23_code 2 = .ok (.istore 4, 2) := by decide +kernel
theorem d32_4 : decode jdk_43_method_23_code 4 = .ok (.iload_n 2, 1) := by decide +kernel
theorem d32_5 : decode jdk_43_method_23_code 5 = .ok (.istore 5, 2) := by decide +kernel
theorem d32_7 : decode jdk_43_method_23_code 7 = .ok (.iload 5, 2) := by decide +kernel
theorem d32_9 : decode jdk_43_method_23_code 9 = .ok (.iload_n 3, 1) := by decide +kernel
theorem d32_10 : decode jdk_43_method_23_code 10 = .ok (.if_icmp .ge 21, 3) := by decide +kernel
theorem d32_31 : decode jdk_43_method_23_code 31 = .ok (.iconst (-1), 1) := by decide +kernel
theorem d32_32 : decode jdk_43_method_23_code 32 = .ok (.ireturn, 1) := by decide +kernel
theorem d32_13 : decode jdk_43_method_23_code 13 = .ok (.aload_n 0, 1) := by decide +kernel
theorem d32_14 : decode jdk_43_method_23_code 14 = .ok (.iload 5, 2) := by decide +kernel
theorem d32_16 : decode jdk_43_method_23_code 16 = .ok (.baload, 1) := by decide +kernel
theorem d32_17 : decode jdk_43_method_23_code 17 = .ok (.iload 4, 2) := by decide +kernel
theorem d32_19 : decode jdk_43_method_23_code 19 = .ok (.if_icmp .ne 6, 3) := by decide +kernel
theorem d32_25 : decode jdk_43_method_23_code 25 = .ok (.iinc 5 1, 3) := by decide +kernel
theorem d32_28 : decode jdk_43_method_23_code 28 = .ok (.goto (-21), 3) := by decide +kernel
def Qlic (Z : State) (a1 : Addr) (p2 : Int32) (kb : ClassId) (nz : Nat) (h0 : Heap) (n0 : Nat) (v : Option Value) (h : Heap) (L : List Loc) : Prop := v = some (.int (-1 : Int32)) ∧ Fr n0 L ∧ h = h0
set_option maxRecDepth 65536 in
set_option maxHeartbeats 40000000 in
theorem rmlic (l : Launch) (Z : State) (a0 : Array Value) (hw : ∀ d ∈ tables_1, d.before a0 Z = true) (ws : List Jvm.Cond) (a1 : Addr) (p2 : Int32) (kb : ClassId) (nz : Nat) (h0 : Heap) (n0 : Nat) (Z0 : n0 ≤ h0.size) (A_a1 : Arv Z h0 a1 kb .byte (Int32.ofNat nz) (List.replicate nz (.int (0 : Int32))) (.int (0 : Int32))) (hn : nz ≤ 4095) (hq0 : ¬ p2 < 0) (hq9 : ¬ (255 : Int32) < p2) (hqz : ¬ (0 : Int32) = p2.toInt8.toInt32) :
    MetFree l (⟨"java/lang/StringLatin1", "indexOfChar", "([BIII)I"⟩ : MethodName) (head1 (Jvm.Cond.code (⟨"java/lang/StringLatin1", "indexOfChar", "([BIII)I"⟩ : MethodName) jdk_43_method_23_code 6 (some .int) :: ws) ({ frames := 0, cells := 0, slots := 0, locals := 0 } : Room)) (fun a U => a = #[(.ref a1), (.int p2), (.int (0 : Int32)), (.int (Int32.ofNat nz))] ∧ Z.Warmed39 U.vm ∧ U.heap = h0) (fun _ _ _ _ _ => True) (fun _ U o U' => ∃ v L, o = .returned v ∧ Qlic Z a1 p2 kb nz h0 n0 v U'.heap L ∧ FrameEnd U o U' L ({ frames := 0, cells := 0, slots := 0, locals := 0 } : Room).cells ({ frames := 0, cells := 0, slots := 0, locals := 0 } : Room).slots) := by
  refine MetFree.of_bodySF (plainFor_of_name own_pn_java_lang_StringLatin1) hisR ?_
  intro p e s m args below meth c s₁ Bd hml0 hP hK
  obtain ⟨rfl, hZ, hh⟩ := hP
  have hx := Bd.exec
  have hby := Bd.bytes
  have hlk := Bd.notSynchronized
  have hml : c.maxLocals = 6 := hml0
  have hown : s.vm.findClass "java/lang/StringLatin1" = some m.cls := findClass_of_methodNamed Bd.named
  have hnm := (name_of_methodNamed Bd.named Bd.method).1
  have X0 : Stand p l e ({ frames := 0, cells := 0, slots := 0, locals := 0 } : Room) s m #[(.ref a1), (.int p2), (.int (0 : Int32)), (.int (Int32.ofNat nz))] below meth c s₁ [] 0 0 := Stand.of_body Bd
  have e0 : s₁.heap = h0 := by rw [← hh, Bd.state]; rfl
  have N0 := Fr.nil n0
  show Go p e below (KQ s below (Qlic Z a1 p2 kb nz h0 n0) ({ frames := 0, cells := 0, slots := 0, locals := 0 } : Room).cells ({ frames := 0, cells := 0, slots := 0, locals := 0 } : Room).slots) _
  refine Go.body (T := s₁) (σ := s₁) (g' := (mkF m 0 #[.val (.ref a1), .val (.int p2), .val (.int (0 : Int32)), .val (.int (Int32.ofNat nz)), .unset, .unset] [])) (ef_lic m a1 p2 (0 : Int32) (Int32.ofNat nz)) ?_
  refine g_iloadN X0 hx (hb hby d32_0) 1 rfl (v := p2) rfl ?_
  refine g_i2b X0 hx (hb hby d32_1) 2 rfl p2.toInt8.toInt32 rfl ?_
  refine g_istore X0 hx (hb hby d32_2) 4 rfl #[.val (.ref a1), .val (.int p2), .val (.int (0 : Int32)), .val (.int (Int32.ofNat nz)), .val (.int p2.toInt8.toInt32), .unset] rfl ?_
  refine g_iloadN X0 hx (hb hby d32_4) 5 rfl (v := (0 : Int32)) rfl ?_
  refine g_istore X0 hx (hb hby d32_5) 7 rfl #[.val (.ref a1), .val (.int p2), .val (.int (0 : Int32)), .val (.int (Int32.ofNat nz)), .val (.int p2.toInt8.toInt32), .val (.int (0 : Int32))] rfl ?_
  have lp : ∀ tl : Nat, ∀ (i : Nat) {Ts153 : State} {lc153 : List Loc} (Xs153 : Stand p l e ({ frames := 0, cells := 0, slots := 0, locals := 0 } : Room) s m #[(.ref a1), (.int p2), (.int (0 : Int32)), (.int (Int32.ofNat nz))] below meth c Ts153 lc153 0 0) (es153 : Ts153.heap = h0) (Ns153 : Fr n0 lc153), i + tl = nz → Go p e below (KQ s below (Qlic Z a1 p2 kb nz h0 n0) ({ frames := 0, cells := 0, slots := 0, locals := 0 } : Room).cells ({ frames := 0, cells := 0, slots := 0, locals := 0 } : Room).slots) (Ts153.setTop (mkF m 7 #[.val (.ref a1), .val (.int p2), .val (.int (0 : Int32)), .val (.int (Int32.ofNat nz)), .val (.int p2.toInt8.toInt32), .val (.int (Int32.ofNat i))] [])) := by
    intro tl
    induction tl with
    | zero => 
      intro i Ts153 lc153 Xs153 es153 Ns153 htl
      refine g_iload Xs153 hx (hb hby d32_7) 9 rfl (v := (Int32.ofNat i)) rfl ?_
      refine g_iloadN Xs153 hx (hb hby d32_9) 10 rfl (v := (Int32.ofNat nz)) rfl ?_
      refine g_icmp_ge Xs153 hx (hb hby d32_10) 31 13 (by decide) (by decide) rfl (fun hc10 => ?_) (fun hc10 => False.elim (absurd (own_lt (by omega) (by omega) hc10) (by omega)))
      refine g_iconst Xs153 hx (hb hby d32_31) 32 rfl (-1 : Int32) rfl ?_
      refine Go.retI Xs153 hx hlk Bd.returns (hb hby d32_32) (by decide) (by decide) ?_
      show Qlic Z a1 p2 kb nz h0 n0 _ Ts153.heap _
      rw [es153]
      exact ⟨rfl, Ns153, rfl⟩
    | succ tl ih => 
      intro i Ts153 lc153 Xs153 es153 Ns153 htl
      refine g_iload Xs153 hx (hb hby d32_7) 9 rfl (v := (Int32.ofNat i)) rfl ?_
      refine g_iloadN Xs153 hx (hb hby d32_9) 10 rfl (v := (Int32.ofNat nz)) rfl ?_
      refine g_icmp_ge Xs153 hx (hb hby d32_10) 31 13 (by decide) (by decide) rfl (fun hc10 => False.elim (hc10 (own_in (by omega) (by omega)).2)) (fun hc10 => ?_)
      refine g_aloadN Xs153 hx (hb hby d32_13) 14 rfl (v := (.ref a1)) rfl rfl ?_
      refine g_iload Xs153 hx (hb hby d32_14) 16 rfl (v := (Int32.ofNat i)) rfl ?_
      refine g_baload Xs153 hx (hb hby d32_16) 17 rfl hZ es153 A_a1 (own_in (by omega) (by omega)) (.int (0 : Int32)) (own_zg _ _ _) ?_
      refine g_iload Xs153 hx (hb hby d32_17) 19 rfl (v := p2.toInt8.toInt32) rfl ?_
      refine g_icmp_ne Xs153 hx (hb hby d32_19) 25 22 (by decide) (by decide) rfl (fun hc19 => ?_) (fun hc19 => False.elim (hqz hc19))
      refine g_iinc Xs153 hx (hb hby d32_25) 28 rfl (x := (Int32.ofNat i)) rfl (Int32.ofNat (i + 1)) (own_up i) #[.val (.ref a1), .val (.int p2), .val (.int (0 : Int32)), .val (.int (Int32.ofNat nz)), .val (.int p2.toInt8.toInt32), .val (.int (Int32.ofNat (i + 1)))] rfl ?_
      refine g_goto Xs153 hx (hb hby d32_28) 7 (by decide) (by decide) ?_
      exact ih (i + 1) (own_mono Xs153 (by decide) (by decide)) es153 Ns153 (by omega)
  exact lp nz 0 (own_mono X0 (by decide) (by decide)) e0 N0 (by omega)
theorem ef_lix (m : MethodId) (x0 : Addr) (x1 : Int32) (x2 : Int32) (x3 : Int32) : entryFrame m #[(.ref x0), (.int x1), (.int x2), (.int x3)] 4 = mkF m 0 #[.val (.ref x0), .val (.int x1), .val (.int x2), .val (.int x3)] [] := by first | (simp [entryFrame, mkF, argsToLocals, Value.category]; done) | rfl
theorem d29_0 : decode jdk_43_method_22_code 0 = .ok (.iload_n 1, 1) := by decide +kernel
theorem own_pd18 : parseMethodDescriptor "(I)Z" = some ⟨[.int], some .boolean⟩ := by decide +kernel
theorem d29_1 : decode jdk_43_method_22_code 1 = .ok (.invokestatic 88, 3) := by decide +kernel
theorem d29_4 : decode jdk_43_method_22_code 4 = .ok (.ifCond .ne 5, 3) := by decide +kernel
theorem d29_9 : decode jdk_43_method_22_code 9 = .ok (.iload_n 2, 1) := by decide +kernel
theorem d29_10 : decode jdk_43_method_22_code 10 = .ok (.iconst 0, 1) := by decide +kernel
theorem d29_11 : decode jdk_43_method_22_code 11 = .ok (.invokestatic 92, 3) := by decide +kernel
theorem d29_14 : decode jdk_43_method_22_code 14 = .ok (.istore_n 2, 1) := by decide +kernel
theorem d29_15 : decode jdk_43_method_22_code 15 = .ok (.iload_n 3, 1) := by decide +kernel
theorem d29_16 : decode jdk_43_method_22_code 16 = .ok (.aload_n 0, 1) := by decide +kernel
theorem d29_17 : decode jdk_43_method_22_code 17 = .ok (.arraylength, 1) := by decide +kernel
theorem d29_18 : decode jdk_43_method_22_code 18 = .ok (.invokestatic 38, 3) := by decide +kernel
theorem d29_21 : decode jdk_43_method_22_code 21 = .ok (.istore_n 3, 1) := by decide +kernel
theorem d29_22 : decode jdk_43_method_22_code 22 = .ok (.iload_n 2, 1) := by decide +kernel
theorem d29_23 : decode jdk_43_method_22_code 23 = .ok (.iload_n 3, 1) := by decide +kernel
theorem d29_24 : decode jdk_43_method_22_code 24 = .ok (.if_icmp .lt 5, 3) := by decide +kernel
theorem d29_29 : decode jdk_43_method_22_code 29 = .ok (.aload_n 0, 1) := by decide +kernel
theorem d29_30 : decode jdk_43_method_22_code 30 = .ok (.iload_n 1, 1) := by decide +kernel
theorem d29_31 : decode jdk_43_method_22_code 31 = .ok (.iload_n 2, 1) := by decide +kernel
theorem d29_32 : decode jdk_43_method_22_code 32 = .ok (.iload_n 3, 1) := by decide +kernel
theorem own_pd19 : parseMethodDescriptor "([BIII)I" = some ⟨[(.array .byte), .int, .int, .int], some .int⟩ := by decide +kernel
theorem d29_33 : decode jdk_43_method_22_code 33 = .ok (.invokestatic 95, 3) := by decide +kernel
theorem d29_36 : decode jdk_43_method_22_code 36 = .ok (.ireturn, 1) := by decide +kernel
def Qlix (Z : State) (a1 : Addr) (p2 : Int32) (kb : ClassId) (nz : Nat) (h0 : Heap) (n0 : Nat) (v : Option Value) (h : Heap) (L : List Loc) : Prop := v = some (.int (-1 : Int32)) ∧ Fr n0 L ∧ h = h0
set_option maxRecDepth 65536 in
set_option maxHeartbeats 40000000 in
theorem rmlix (l : Launch) (Z : State) (a0 : Array Value) (hw : ∀ d ∈ tables_1, d.before a0 Z = true) (ws : List Jvm.Cond) (a1 : Addr) (p2 : Int32) (kb : ClassId) (nz : Nat) (h0 : Heap) (n0 : Nat) (Z0 : n0 ≤ h0.size) (A_a1 : Arv Z h0 a1 kb .byte (Int32.ofNat nz) (List.replicate nz (.int (0 : Int32))) (.int (0 : Int32))) (hn : nz ≤ 4095) (hpos : 0 < nz) (hq0 : ¬ p2 < 0) (hq9 : ¬ (255 : Int32) < p2) (hqz : ¬ (0 : Int32) = p2.toInt8.toInt32) :
    MetFree l (⟨"java/lang/StringLatin1", "indexOf", "([BIII)I"⟩ : MethodName) (head1 (Jvm.Cond.code (⟨"java/lang/StringLatin1", "indexOf", "([BIII)I"⟩ : MethodName) jdk_43_method_22_code 4 (some .int) :: ws) ({ frames := 1, cells := 0, slots := 0, locals := 17 } : Room)) (fun a U => a = #[(.ref a1), (.int p2), (.int (0 : Int32)), (.int (Int32.ofNat nz))] ∧ Z.Warmed39 U.vm ∧ U.heap = h0) (fun _ _ _ _ _ => True) (fun _ U o U' => ∃ v L, o = .returned v ∧ Qlix Z a1 p2 kb nz h0 n0 v U'.heap L ∧ FrameEnd U o U' L ({ frames := 1, cells := 0, slots := 0, locals := 17 } : Room).cells ({ frames := 1, cells := 0, slots := 0, locals := 17 } : Room).slots) := by
  refine MetFree.of_bodySF (plainFor_of_name own_pn_java_lang_StringLatin1) hisR ?_
  intro p e s m args below meth c s₁ Bd hml0 hP hK
  obtain ⟨rfl, hZ, hh⟩ := hP
  have hx := Bd.exec
  have hby := Bd.bytes
  have hlk := Bd.notSynchronized
  have hml : c.maxLocals = 4 := hml0
  have hown : s.vm.findClass "java/lang/StringLatin1" = some m.cls := findClass_of_methodNamed Bd.named
  have hnm := (name_of_methodNamed Bd.named Bd.method).1
  have X0 : Stand p l e ({ frames := 1, cells := 0, slots := 0, locals := 17 } : Room) s m #[(.ref a1), (.int p2), (.int (0 : Int32)), (.int (Int32.ofNat nz))] below meth c s₁ [] 0 0 := Stand.of_body Bd
  have e0 : s₁.heap = h0 := by rw [← hh, Bd.state]; rfl
  have N0 := Fr.nil n0
  show Go p e below (KQ s below (Qlix Z a1 p2 kb nz h0 n0) ({ frames := 1, cells := 0, slots := 0, locals := 17 } : Room).cells ({ frames := 1, cells := 0, slots := 0, locals := 17 } : Room).slots) _
  refine Go.body (T := s₁) (σ := s₁) (g' := (mkF m 0 #[.val (.ref a1), .val (.int p2), .val (.int (0 : Int32)), .val (.int (Int32.ofNat nz))] [])) (ef_lix m a1 p2 (0 : Int32) (Int32.ofNat nz)) ?_
  refine g_iloadN X0 hx (hb hby d29_0) 1 rfl (v := p2) rfl ?_
  obtain ⟨_, _, ⟨T155, L155, k155, n155⟩, -, X155, ⟨Lc155, hQ155, l155, y155, z155⟩, st155⟩ := Jvm.LawKit.callS X0 hx (y := (⟨"java/lang/StringLatin1", "canEncode", "(I)Z"⟩ : MethodName)) hown (mvT hZ (hw _ (List.mem_of_getElem? (i := 146) rfl))) (mvT hZ (hw _ (List.mem_of_getElem? (i := 147) rfl))) (mvT hZ (hw _ (List.mem_of_getElem? (i := 35) rfl))) (mvT hZ (hw _ (List.mem_of_getElem? (i := 148) rfl))) (by decide) (backOf (W := 0) (rmceI l Z a0 hw [] p2 h0 n0 Z0 hq0 hq9) hZ (hw _ (List.mem_of_getElem? (i := 148) rfl)) (hw _ (List.mem_of_getElem? (i := 35) rfl)) (by decide) (by decide)) (g := (mkF m 1 #[.val (.ref a1), .val (.int p2), .val (.int (0 : Int32)), .val (.int (Int32.ofNat nz))] [(.int p2)])) rfl (by rw [hml]; rfl) (argsL := [(.int p2)]) (rest := []) (lenOf own_pd18 rfl) rfl (by show 2 * 0 + _ ≤ _; exact Nat.le_of_eq rfl) (hb hby d29_1) (fun _ _ => ⟨rfl, e0, (by decide : 0 + 0 ≤ _), (by decide : 0 + 0 ≤ _)⟩)
  dsimp only [Pt.U, Pt.locs, Pt.cells, Pt.slots] at X155 l155 y155 z155 st155 hQ155
  subst l155 y155 z155
  obtain ⟨rfl, Nq155, e155⟩ := hQ155
  refine Go.st st155 ?_
  have N155 := Fr.app N0 Nq155
  show Go p e below _ (T155.setTop (mkF m 4 #[.val (.ref a1), .val (.int p2), .val (.int (0 : Int32)), .val (.int (Int32.ofNat nz))] [(.int (1 : Int32))]))
  refine g_if_ne X155 hx (hb hby d29_4) 9 7 (by decide) (by decide) rfl (fun hc4 => ?_) (fun hc4 => False.elim (absurd hc4 (by decide)))
  refine g_iloadN X155 hx (hb hby d29_9) 10 rfl (v := (0 : Int32)) rfl ?_
  refine g_iconst X155 hx (hb hby d29_10) 11 rfl (0 : Int32) rfl ?_
  obtain ⟨_, _, ⟨T156, L156, k156, n156⟩, -, X156, ⟨Lc156, hQ156, l156, y156, z156⟩, st156⟩ := Jvm.LawKit.callS X155 hx (y := (⟨"java/lang/Math", "max", "(II)I"⟩ : MethodName)) hown (mvT hZ (hw _ (List.mem_of_getElem? (i := 149) rfl))) (mvT hZ (hw _ (List.mem_of_getElem? (i := 150) rfl))) (mvT hZ (hw _ (List.mem_of_getElem? (i := 75) rfl))) (mvT hZ (hw _ (List.mem_of_getElem? (i := 151) rfl))) (by decide) (backOf (W := 0) (rmmx0 l Z a0 hw []  h0 n0 Z0 ) hZ (hw _ (List.mem_of_getElem? (i := 151) rfl)) (hw _ (List.mem_of_getElem? (i := 75) rfl)) (by decide) (by decide)) (g := (mkF m 11 #[.val (.ref a1), .val (.int p2), .val (.int (0 : Int32)), .val (.int (Int32.ofNat nz))] [(.int (0 : Int32)), (.int (0 : Int32))])) rfl (by rw [hml]; rfl) (argsL := [(.int (0 : Int32)), (.int (0 : Int32))]) (rest := []) (lenOf own_pd12 rfl) rfl (by show 2 * 0 + _ ≤ _; exact Nat.le_of_eq rfl) (hb hby d29_11) (fun _ _ => ⟨rfl, e155, (by decide : 0 + 0 ≤ _), (by decide : 0 + 0 ≤ _)⟩)
  dsimp only [Pt.U, Pt.locs, Pt.cells, Pt.slots] at X156 l156 y156 z156 st156 hQ156
  subst l156 y156 z156
  obtain ⟨rfl, Nq156, e156⟩ := hQ156
  refine Go.st st156 ?_
  have N156 := Fr.app N155 Nq156
  show Go p e below _ (T156.setTop (mkF m 14 #[.val (.ref a1), .val (.int p2), .val (.int (0 : Int32)), .val (.int (Int32.ofNat nz))] [(.int (0 : Int32))]))
  refine g_istoreN X156 hx (hb hby d29_14) 15 rfl #[.val (.ref a1), .val (.int p2), .val (.int (0 : Int32)), .val (.int (Int32.ofNat nz))] rfl ?_
  refine g_iloadN X156 hx (hb hby d29_15) 16 rfl (v := (Int32.ofNat nz)) rfl ?_
  refine g_aloadN X156 hx (hb hby d29_16) 17 rfl (v := (.ref a1)) rfl rfl ?_
  refine g_alen X156 hx (hb hby d29_17) 18 rfl hZ e156 A_a1 ?_
  obtain ⟨_, _, ⟨T158, L158, k158, n158⟩, -, X158, ⟨Lc158, hQ158, l158, y158, z158⟩, st158⟩ := Jvm.LawKit.callS X156 hx (y := (⟨"java/lang/Math", "min", "(II)I"⟩ : MethodName)) hown (mvT hZ (hw _ (List.mem_of_getElem? (i := 152) rfl))) (mvT hZ (hw _ (List.mem_of_getElem? (i := 74) rfl))) (mvT hZ (hw _ (List.mem_of_getElem? (i := 75) rfl))) (mvT hZ (hw _ (List.mem_of_getElem? (i := 76) rfl))) (by decide) (backOf (W := 0) (rmmnE l Z a0 hw [] (Int32.ofNat nz) (Int32.ofNat nz) h0 n0 Z0 rfl) hZ (hw _ (List.mem_of_getElem? (i := 76) rfl)) (hw _ (List.mem_of_getElem? (i := 75) rfl)) (by decide) (by decide)) (g := (mkF m 18 #[.val (.ref a1), .val (.int p2), .val (.int (0 : Int32)), .val (.int (Int32.ofNat nz))] [(.int (Int32.ofNat nz)), (.int (Int32.ofNat nz))])) rfl (by rw [hml]; rfl) (argsL := [(.int (Int32.ofNat nz)), (.int (Int32.ofNat nz))]) (rest := []) (lenOf own_pd12 rfl) rfl (by show 2 * 0 + _ ≤ _; exact Nat.le_of_eq rfl) (hb hby d29_18) (fun _ _ => ⟨rfl, e156, (by decide : 0 + 0 ≤ _), (by decide : 0 + 0 ≤ _)⟩)
  dsimp only [Pt.U, Pt.locs, Pt.cells, Pt.slots] at X158 l158 y158 z158 st158 hQ158
  subst l158 y158 z158
  obtain ⟨rfl, Nq158, e158⟩ := hQ158
  refine Go.st st158 ?_
  have N158 := Fr.app N156 Nq158
  show Go p e below _ (T158.setTop (mkF m 21 #[.val (.ref a1), .val (.int p2), .val (.int (0 : Int32)), .val (.int (Int32.ofNat nz))] [(.int (Int32.ofNat nz))]))
  refine g_istoreN X158 hx (hb hby d29_21) 22 rfl #[.val (.ref a1), .val (.int p2), .val (.int (0 : Int32)), .val (.int (Int32.ofNat nz))] rfl ?_
  refine g_iloadN X158 hx (hb hby d29_22) 23 rfl (v := (0 : Int32)) rfl ?_
  refine g_iloadN X158 hx (hb hby d29_23) 24 rfl (v := (Int32.ofNat nz)) rfl ?_
  refine g_icmp_lt X158 hx (hb hby d29_24) 29 27 (by decide) (by decide) rfl (fun hc24 => ?_) (fun hc24 => False.elim (hc24 (own_in (j := 0) (by omega) hpos).2))
  refine g_aloadN X158 hx (hb hby d29_29) 30 rfl (v := (.ref a1)) rfl rfl ?_
  refine g_iloadN X158 hx (hb hby d29_30) 31 rfl (v := p2) rfl ?_
  refine g_iloadN X158 hx (hb hby d29_31) 32 rfl (v := (0 : Int32)) rfl ?_
  refine g_iloadN X158 hx (hb hby d29_32) 33 rfl (v := (Int32.ofNat nz)) rfl ?_
  obtain ⟨_, _, ⟨T159, L159, k159, n159⟩, -, X159, ⟨Lc159, hQ159, l159, y159, z159⟩, st159⟩ := Jvm.LawKit.callS X158 hx (y := (⟨"java/lang/StringLatin1", "indexOfChar", "([BIII)I"⟩ : MethodName)) hown (mvT hZ (hw _ (List.mem_of_getElem? (i := 153) rfl))) (mvT hZ (hw _ (List.mem_of_getElem? (i := 154) rfl))) (mvT hZ (hw _ (List.mem_of_getElem? (i := 35) rfl))) (mvT hZ (hw _ (List.mem_of_getElem? (i := 155) rfl))) (by decide) (backOf (W := 0) (rmlic l Z a0 hw [] a1 p2 kb nz h0 n0 Z0 A_a1 hn hq0 hq9 hqz) hZ (hw _ (List.mem_of_getElem? (i := 155) rfl)) (hw _ (List.mem_of_getElem? (i := 35) rfl)) (by decide) (by decide)) (g := (mkF m 33 #[.val (.ref a1), .val (.int p2), .val (.int (0 : Int32)), .val (.int (Int32.ofNat nz))] [(.int (Int32.ofNat nz)), (.int (0 : Int32)), (.int p2), (.ref a1)])) rfl (by rw [hml]; rfl) (argsL := [(.ref a1), (.int p2), (.int (0 : Int32)), (.int (Int32.ofNat nz))]) (rest := []) (lenOf own_pd19 rfl) rfl (by show 2 * 0 + _ ≤ _; exact Nat.le_of_eq rfl) (hb hby d29_33) (fun _ _ => ⟨rfl, e158, (by decide : 0 + 0 ≤ _), (by decide : 0 + 0 ≤ _)⟩)
  dsimp only [Pt.U, Pt.locs, Pt.cells, Pt.slots] at X159 l159 y159 z159 st159 hQ159
  subst l159 y159 z159
  obtain ⟨rfl, Nq159, e159⟩ := hQ159
  refine Go.st st159 ?_
  have N159 := Fr.app N158 Nq159
  show Go p e below _ (T159.setTop (mkF m 36 #[.val (.ref a1), .val (.int p2), .val (.int (0 : Int32)), .val (.int (Int32.ofNat nz))] [(.int (-1 : Int32))]))
  refine Go.retI X159 hx hlk Bd.returns (hb hby d29_36) (by decide) (by decide) ?_
  show Qlix Z a1 p2 kb nz h0 n0 _ T159.heap _
  rw [e159]
  exact ⟨rfl, N159, rfl⟩
theorem ef_si2 (m : MethodId) (x0 : Addr) (x1 : Int32) (x2 : Int32) : entryFrame m #[(.ref x0), (.int x1), (.int x2)] 3 = mkF m 0 #[.val (.ref x0), .val (.int x1), .val (.int x2)] [] := by first | (simp [entryFrame, mkF, argsToLocals, Value.category]; done) | rfl
theorem d28_0 : decode jdk_42_method_80_code 0 = .ok (.aload_n 0, 1) := by decide +kernel
theorem d28_1 : decode jdk_42_method_80_code 1 = .ok (.invokevirtual 492, 3) := by decide +kernel
theorem d28_4 : decode jdk_42_method_80_code 4 = .ok (.ifCond .eq 19, 3) := by decide +kernel
theorem d28_7 : decode jdk_42_method_80_code 7 = .ok (.aload_n 0, 1) := by decide +kernel
theorem d28_8 : decode jdk_42_method_80_code 8 = .ok (.getfield 9, 3) := by decide +kernel
theorem d28_11 : decode jdk_42_method_80_code 11 = .ok (.iload_n 1, 1) := by decide +kernel
theorem d28_12 : decode jdk_42_method_80_code 12 = .ok (.iload_n 2, 1) := by decide +kernel
theorem d28_13 : decode jdk_42_method_80_code 13 = .ok (.aload_n 0, 1) := by decide +kernel
theorem d28_14 : decode jdk_42_method_80_code 14 = .ok (.invokevirtual 505, 3) := by decide +kernel
theorem d28_17 : decode jdk_42_method_80_code 17 = .ok (.invokestatic 637, 3) := by decide +kernel
theorem d28_20 : decode jdk_42_method_80_code 20 = .ok (.goto 16, 3) := by decide +kernel
theorem d28_36 : decode jdk_42_method_80_code 36 = .ok (.ireturn, 1) := by decide +kernel
def Qsi2 (Z : State) (a1 : Addr) (p2 : Int32) (cs : Int32) (vb : Addr) (kb : ClassId) (nz : Nat) (h0 : Heap) (n0 : Nat) (v : Option Value) (h : Heap) (L : List Loc) : Prop := v = some (.int (-1 : Int32)) ∧ Fr n0 L ∧ h = h0
set_option maxRecDepth 65536 in
set_option maxHeartbeats 40000000 in
theorem rmsi2 (l : Launch) (Z : State) (a0 : Array Value) (hw : ∀ d ∈ tables_1, d.before a0 Z = true) (ws : List Jvm.Cond) (a1 : Addr) (p2 : Int32) (cs : Int32) (vb : Addr) (kb : ClassId) (nz : Nat) (h0 : Heap) (n0 : Nat) (Z0 : n0 ≤ h0.size) (S_COMPACT_STRINGS : Sta Z h0 "java/lang/String" "COMPACT_STRINGS" "Z" (.int cs)) (E_a1 : Exa Z h0 a1 "java/lang/String") (F_value_a1 : Fld Z h0 a1 "java/lang/String" "value" "[B" (.ref vb)) (F_coder_a1 : Fld Z h0 a1 "java/lang/String" "coder" "B" (.int (0 : Int32))) (A_vb : Arv Z h0 vb kb .byte (Int32.ofNat nz) (List.replicate nz (.int (0 : Int32))) (.int (0 : Int32))) (hcs : ¬ cs = 0) (hn : nz ≤ 4095) (hpos : 0 < nz) (hq0 : ¬ p2 < 0) (hq9 : ¬ (255 : Int32) < p2) (hqz : ¬ (0 : Int32) = p2.toInt8.toInt32) :
    MetFree l (⟨"java/lang/String", "indexOf", "(II)I"⟩ : MethodName) (head1 (Jvm.Cond.code (⟨"java/lang/String", "indexOf", "(II)I"⟩ : MethodName) jdk_42_method_80_code 3 (some .int) :: ws) ({ frames := 2, cells := 0, slots := 0, locals := 32 } : Room)) (fun a U => a = #[(.ref a1), (.int p2), (.int (0 : Int32))] ∧ Z.Warmed39 U.vm ∧ U.heap = h0) (fun _ _ _ _ _ => True) (fun _ U o U' => ∃ v L, o = .returned v ∧ Qsi2 Z a1 p2 cs vb kb nz h0 n0 v U'.heap L ∧ FrameEnd U o U' L ({ frames := 2, cells := 0, slots := 0, locals := 32 } : Room).cells ({ frames := 2, cells := 0, slots := 0, locals := 32 } : Room).slots) := by
  refine MetFree.of_bodySF (plainFor_of_name own_pn_java_lang_String) hisR ?_
  intro p e s m args below meth c s₁ Bd hml0 hP hK
  obtain ⟨rfl, hZ, hh⟩ := hP
  have hx := Bd.exec
  have hby := Bd.bytes
  have hlk := Bd.notSynchronized
  have hml : c.maxLocals = 3 := hml0
  have hown : s.vm.findClass "java/lang/String" = some m.cls := findClass_of_methodNamed Bd.named
  have hnm := (name_of_methodNamed Bd.named Bd.method).1
  have X0 : Stand p l e ({ frames := 2, cells := 0, slots := 0, locals := 32 } : Room) s m #[(.ref a1), (.int p2), (.int (0 : Int32))] below meth c s₁ [] 0 0 := Stand.of_body Bd
  have e0 : s₁.heap = h0 := by rw [← hh, Bd.state]; rfl
  have N0 := Fr.nil n0
  show Go p e below (KQ s below (Qsi2 Z a1 p2 cs vb kb nz h0 n0) ({ frames := 2, cells := 0, slots := 0, locals := 32 } : Room).cells ({ frames := 2, cells := 0, slots := 0, locals := 32 } : Room).slots) _
  refine Go.body (T := s₁) (σ := s₁) (g' := (mkF m 0 #[.val (.ref a1), .val (.int p2), .val (.int (0 : Int32))] [])) (ef_si2 m a1 p2 (0 : Int32)) ?_
  refine g_aloadN X0 hx (hb hby d28_0) 1 rfl (v := (.ref a1)) rfl rfl ?_
  obtain ⟨cq160, kq160, q160a, q160b, q160c⟩ := isOf hZ e0 E_a1
  obtain ⟨_, _, ⟨T160, L160, k160, n160⟩, -, X160, ⟨Lc160, hQ160, l160, y160, z160⟩, st160⟩ := X0.virtualBack hx (y := (⟨"java/lang/String", "isLatin1", "()Z"⟩ : MethodName)) (z := (⟨"java/lang/String", "isLatin1", "()Z"⟩ : MethodName)) hown (mvT hZ (hw _ (List.mem_of_getElem? (i := 116) rfl))) (mvT hZ (hw _ (List.mem_of_getElem? (i := 117) rfl))) (notFace_of_selects (args := #[]) (mvT hZ (hw _ (List.mem_of_getElem? (i := 119) rfl)))) (mvT hZ (hw _ (List.mem_of_getElem? (i := 119) rfl))) (mvT hZ (hw _ (List.mem_of_getElem? (i := 118) rfl))) (by decide) (backOf (W := 0) (rm23 l Z a0 hw [] a1 cs h0 n0 Z0 S_COMPACT_STRINGS F_coder_a1 hcs) hZ (hw _ (List.mem_of_getElem? (i := 120) rfl)) (hw _ (List.mem_of_getElem? (i := 2) rfl)) (by decide) (by decide)) q160a q160c (g := (mkF m 1 #[.val (.ref a1), .val (.int p2), .val (.int (0 : Int32))] [(.ref a1)])) rfl (by rw [hml]; rfl) (Steps.refl _) (argsL := []) (rest := []) (lenOf own_pd7 rfl) rfl (by show 2 * 0 + _ ≤ _; exact Nat.le_of_eq rfl) (hb hby d28_1) (fun _ _ => ⟨rfl, e0, (by decide : 0 + 0 ≤ _), (by decide : 0 + 0 ≤ _)⟩)
  dsimp only [Pt.U, Pt.locs, Pt.cells, Pt.slots] at X160 l160 y160 z160 st160 hQ160
  subst l160 y160 z160
  obtain ⟨rfl, Nq160, e160⟩ := hQ160
  refine Go.tr st160 ?_
  have N160 := Fr.app N0 Nq160
  show Go p e below _ (T160.setTop (mkF m 4 #[.val (.ref a1), .val (.int p2), .val (.int (0 : Int32))] [(.int (1 : Int32))]))
  refine g_if_eq X160 hx (hb hby d28_4) 23 7 (by decide) (by decide) rfl (fun hc4 => False.elim (absurd hc4 (by decide))) (fun hc4 => ?_)
  refine g_aloadN X160 hx (hb hby d28_7) 8 rfl (v := (.ref a1)) rfl rfl ?_
  obtain ⟨T161, X161, e161, st161⟩ := getF X160 hx hZ hown (host := "") (Or.inl (hw _ (List.mem_of_getElem? (i := 28) rfl))) Via.refl e160 F_value_a1 (g := (mkF m 8 #[.val (.ref a1), .val (.int p2), .val (.int (0 : Int32))] [(.ref a1)])) rfl rfl (hb hby d28_8)
  refine Go.st st161 ?_
  show Go p e below _ (T161.setTop (mkF m 11 #[.val (.ref a1), .val (.int p2), .val (.int (0 : Int32))] [(.ref vb)]))
  refine g_iloadN X161 hx (hb hby d28_11) 12 rfl (v := p2) rfl ?_
  refine g_iloadN X161 hx (hb hby d28_12) 13 rfl (v := (0 : Int32)) rfl ?_
  refine g_aloadN X161 hx (hb hby d28_13) 14 rfl (v := (.ref a1)) rfl rfl ?_
  obtain ⟨cq162, kq162, q162a, q162b, q162c⟩ := isOf hZ e161 E_a1
  obtain ⟨_, _, ⟨T162, L162, k162, n162⟩, -, X162, ⟨Lc162, hQ162, l162, y162, z162⟩, st162⟩ := X161.virtualBack hx (y := (⟨"java/lang/String", "length", "()I"⟩ : MethodName)) (z := (⟨"java/lang/String", "length", "()I"⟩ : MethodName)) hown (mvT hZ (hw _ (List.mem_of_getElem? (i := 142) rfl))) (mvT hZ (hw _ (List.mem_of_getElem? (i := 87) rfl))) (notFace_of_selects (args := #[]) (mvT hZ (hw _ (List.mem_of_getElem? (i := 89) rfl)))) (mvT hZ (hw _ (List.mem_of_getElem? (i := 89) rfl))) (mvT hZ (hw _ (List.mem_of_getElem? (i := 88) rfl))) (by decide) (backOf (W := 3) (rm18 l Z a0 hw [] a1 cs vb kb (Int32.ofNat nz) (List.replicate nz (.int (0 : Int32))) h0 n0 Z0 S_COMPACT_STRINGS E_a1 F_value_a1 F_coder_a1 A_vb hcs) hZ (hw _ (List.mem_of_getElem? (i := 90) rfl)) (hw _ (List.mem_of_getElem? (i := 2) rfl)) (by decide) (by decide)) q162a q162c (g := (mkF m 14 #[.val (.ref a1), .val (.int p2), .val (.int (0 : Int32))] [(.ref a1), (.int (0 : Int32)), (.int p2), (.ref vb)])) rfl (by rw [hml]; rfl) (Steps.refl _) (argsL := []) (rest := [(.int (0 : Int32)), (.int p2), (.ref vb)]) (lenOf own_pd15 rfl) rfl (by show 2 * 0 + _ ≤ _; exact Nat.le_of_eq rfl) (hb hby d28_14) (fun _ _ => ⟨rfl, e161, (by decide : 0 + 0 ≤ _), (by decide : 0 + 0 ≤ _)⟩)
  dsimp only [Pt.U, Pt.locs, Pt.cells, Pt.slots] at X162 l162 y162 z162 st162 hQ162
  subst l162 y162 z162
  obtain ⟨rfl, Nq162, e162⟩ := hQ162
  refine Go.tr st162 ?_
  have N162 := Fr.app N160 Nq162
  show Go p e below _ (T162.setTop (mkF m 17 #[.val (.ref a1), .val (.int p2), .val (.int (0 : Int32))] [(.int (Int32.ofNat nz)), (.int (0 : Int32)), (.int p2), (.ref vb)]))
  obtain ⟨_, _, ⟨T163, L163, k163, n163⟩, -, X163, ⟨Lc163, hQ163, l163, y163, z163⟩, st163⟩ := Jvm.LawKit.callS X162 hx (y := (⟨"java/lang/StringLatin1", "indexOf", "([BIII)I"⟩ : MethodName)) hown (mvT hZ (hw _ (List.mem_of_getElem? (i := 143) rfl))) (mvT hZ (hw _ (List.mem_of_getElem? (i := 144) rfl))) (mvT hZ (hw _ (List.mem_of_getElem? (i := 35) rfl))) (mvT hZ (hw _ (List.mem_of_getElem? (i := 145) rfl))) (by decide) (backOf (W := 0) (rmlix l Z a0 hw [] vb p2 kb nz h0 n0 Z0 A_vb hn hpos hq0 hq9 hqz) hZ (hw _ (List.mem_of_getElem? (i := 145) rfl)) (hw _ (List.mem_of_getElem? (i := 35) rfl)) (by decide) (by decide)) (g := (mkF m 17 #[.val (.ref a1), .val (.int p2), .val (.int (0 : Int32))] [(.int (Int32.ofNat nz)), (.int (0 : Int32)), (.int p2), (.ref vb)])) rfl (by rw [hml]; rfl) (argsL := [(.ref vb), (.int p2), (.int (0 : Int32)), (.int (Int32.ofNat nz))]) (rest := []) (lenOf own_pd19 rfl) rfl (by show 2 * 0 + _ ≤ _; exact Nat.le_of_eq rfl) (hb hby d28_17) (fun _ _ => ⟨rfl, e162, (by decide : 0 + 0 ≤ _), (by decide : 0 + 0 ≤ _)⟩)
  dsimp only [Pt.U, Pt.locs, Pt.cells, Pt.slots] at X163 l163 y163 z163 st163 hQ163
  subst l163 y163 z163
  obtain ⟨rfl, Nq163, e163⟩ := hQ163
  refine Go.st st163 ?_
  have N163 := Fr.app N162 Nq163
  show Go p e below _ (T163.setTop (mkF m 20 #[.val (.ref a1), .val (.int p2), .val (.int (0 : Int32))] [(.int (-1 : Int32))]))
  refine g_goto X163 hx (hb hby d28_20) 36 (by decide) (by decide) ?_
  refine Go.retI X163 hx hlk Bd.returns (hb hby d28_36) (by decide) (by decide) ?_
  show Qsi2 Z a1 p2 cs vb kb nz h0 n0 _ T163.heap _
  rw [e163]
  exact ⟨rfl, N163, rfl⟩
theorem ef_si1 (m : MethodId) (x0 : Addr) (x1 : Int32) : entryFrame m #[(.ref x0), (.int x1)] 2 = mkF m 0 #[.val (.ref x0), .val (.int x1)] [] := by first | (simp [entryFrame, mkF, argsToLocals, Value.category]; done) | rfl
theorem d27_0 : decode jdk_42_method_79_code 0 = .ok (.aload_n 0, 1) := by decide +kernel
theorem d27_1 : decode jdk_42_method_79_code 1 = .ok (.iload_n 1, 1) := by decide +kernel
theorem d27_2 : decode jdk_42_method_79_code 2 = .ok (.iconst 0, 1) := by decide +kernel
theorem d27_3 : decode jdk_42_method_79_code 3 = .ok (.invokevirtual 633, 3) := by decide +kernel
theorem d27_6 : decode jdk_42_method_79_code 6 = .ok (.ireturn, 1) := by decide +kernel
def Qsi1 (Z : State) (a1 : Addr) (p2 : Int32) (cs : Int32) (vb : Addr) (kb : ClassId) (nz : Nat) (h0 : Heap) (n0 : Nat) (v : Option Value) (h : Heap) (L : List Loc) : Prop := v = some (.int (-1 : Int32)) ∧ Fr n0 L ∧ h = h0
set_option maxRecDepth 65536 in
set_option maxHeartbeats 40000000 in
theorem rmsi1 (l : Launch) (Z : State) (a0 : Array Value) (hw : ∀ d ∈ tables_1, d.before a0 Z = true) (ws : List Jvm.Cond) (a1 : Addr) (p2 : Int32) (cs : Int32) (vb : Addr) (kb : ClassId) (nz : Nat) (h0 : Heap) (n0 : Nat) (Z0 : n0 ≤ h0.size) (S_COMPACT_STRINGS : Sta Z h0 "java/lang/String" "COMPACT_STRINGS" "Z" (.int cs)) (E_a1 : Exa Z h0 a1 "java/lang/String") (F_value_a1 : Fld Z h0 a1 "java/lang/String" "value" "[B" (.ref vb)) (F_coder_a1 : Fld Z h0 a1 "java/lang/String" "coder" "B" (.int (0 : Int32))) (A_vb : Arv Z h0 vb kb .byte (Int32.ofNat nz) (List.replicate nz (.int (0 : Int32))) (.int (0 : Int32))) (hcs : ¬ cs = 0) (hn : nz ≤ 4095) (hpos : 0 < nz) (hq0 : ¬ p2 < 0) (hq9 : ¬ (255 : Int32) < p2) (hqz : ¬ (0 : Int32) = p2.toInt8.toInt32) :
    MetFree l (⟨"java/lang/String", "indexOf", "(I)I"⟩ : MethodName) (head1 (Jvm.Cond.code (⟨"java/lang/String", "indexOf", "(I)I"⟩ : MethodName) jdk_42_method_79_code 2 (some .int) :: ws) ({ frames := 3, cells := 0, slots := 0, locals := 46 } : Room)) (fun a U => a = #[(.ref a1), (.int p2)] ∧ Z.Warmed39 U.vm ∧ U.heap = h0) (fun _ _ _ _ _ => True) (fun _ U o U' => ∃ v L, o = .returned v ∧ Qsi1 Z a1 p2 cs vb kb nz h0 n0 v U'.heap L ∧ FrameEnd U o U' L ({ frames := 3, cells := 0, slots := 0, locals := 46 } : Room).cells ({ frames := 3, cells := 0, slots := 0, locals := 46 } : Room).slots) := by
  refine MetFree.of_bodySF (plainFor_of_name own_pn_java_lang_String) hisR ?_
  intro p e s m args below meth c s₁ Bd hml0 hP hK
  obtain ⟨rfl, hZ, hh⟩ := hP
  have hx := Bd.exec
  have hby := Bd.bytes
  have hlk := Bd.notSynchronized
  have hml : c.maxLocals = 2 := hml0
  have hown : s.vm.findClass "java/lang/String" = some m.cls := findClass_of_methodNamed Bd.named
  have hnm := (name_of_methodNamed Bd.named Bd.method).1
  have X0 : Stand p l e ({ frames := 3, cells := 0, slots := 0, locals := 46 } : Room) s m #[(.ref a1), (.int p2)] below meth c s₁ [] 0 0 := Stand.of_body Bd
  have e0 : s₁.heap = h0 := by rw [← hh, Bd.state]; rfl
  have N0 := Fr.nil n0
  show Go p e below (KQ s below (Qsi1 Z a1 p2 cs vb kb nz h0 n0) ({ frames := 3, cells := 0, slots := 0, locals := 46 } : Room).cells ({ frames := 3, cells := 0, slots := 0, locals := 46 } : Room).slots) _
  refine Go.body (T := s₁) (σ := s₁) (g' := (mkF m 0 #[.val (.ref a1), .val (.int p2)] [])) (ef_si1 m a1 p2) ?_
  refine g_aloadN X0 hx (hb hby d27_0) 1 rfl (v := (.ref a1)) rfl rfl ?_
  refine g_iloadN X0 hx (hb hby d27_1) 2 rfl (v := p2) rfl ?_
  refine g_iconst X0 hx (hb hby d27_2) 3 rfl (0 : Int32) rfl ?_
  obtain ⟨cq164, kq164, q164a, q164b, q164c⟩ := isOf hZ e0 E_a1
  obtain ⟨_, _, ⟨T164, L164, k164, n164⟩, -, X164, ⟨Lc164, hQ164, l164, y164, z164⟩, st164⟩ := X0.virtualBack hx (y := (⟨"java/lang/String", "indexOf", "(II)I"⟩ : MethodName)) (z := (⟨"java/lang/String", "indexOf", "(II)I"⟩ : MethodName)) hown (mvT hZ (hw _ (List.mem_of_getElem? (i := 137) rfl))) (mvT hZ (hw _ (List.mem_of_getElem? (i := 138) rfl))) (notFace_of_selects (args := #[]) (mvT hZ (hw _ (List.mem_of_getElem? (i := 140) rfl)))) (mvT hZ (hw _ (List.mem_of_getElem? (i := 140) rfl))) (mvT hZ (hw _ (List.mem_of_getElem? (i := 139) rfl))) (by decide) (backOf (W := 0) (rmsi2 l Z a0 hw [] a1 p2 cs vb kb nz h0 n0 Z0 S_COMPACT_STRINGS E_a1 F_value_a1 F_coder_a1 A_vb hcs hn hpos hq0 hq9 hqz) hZ (hw _ (List.mem_of_getElem? (i := 141) rfl)) (hw _ (List.mem_of_getElem? (i := 2) rfl)) (by decide) (by decide)) q164a q164c (g := (mkF m 3 #[.val (.ref a1), .val (.int p2)] [(.int (0 : Int32)), (.int p2), (.ref a1)])) rfl (by rw [hml]; rfl) (Steps.refl _) (argsL := [(.int p2), (.int (0 : Int32))]) (rest := []) (lenOf own_pd12 rfl) rfl (by show 2 * 0 + _ ≤ _; exact Nat.le_of_eq rfl) (hb hby d27_3) (fun _ _ => ⟨rfl, e0, (by decide : 0 + 0 ≤ _), (by decide : 0 + 0 ≤ _)⟩)
  dsimp only [Pt.U, Pt.locs, Pt.cells, Pt.slots] at X164 l164 y164 z164 st164 hQ164
  subst l164 y164 z164
  obtain ⟨rfl, Nq164, e164⟩ := hQ164
  refine Go.tr st164 ?_
  have N164 := Fr.app N0 Nq164
  show Go p e below _ (T164.setTop (mkF m 6 #[.val (.ref a1), .val (.int p2)] [(.int (-1 : Int32))]))
  refine Go.retI X164 hx hlk Bd.returns (hb hby d27_6) (by decide) (by decide) ?_
  show Qsi1 Z a1 p2 cs vb kb nz h0 n0 _ T164.heap _
  rw [e164]
  exact ⟨rfl, N164, rfl⟩
theorem own_pn_com_example_anagrafe_anagrafe_atom_Markup_Escape : plainName "com/example/anagrafe/anagrafe/atom/Markup$Escape" = true := by first | (simp [plainName, overriddenIn]; done) | decide +kernel
theorem ef_inb (m : MethodId) (x0 : Addr) (x1 : Addr) : entryFrame m #[(.ref x0), (.ref x1)] 3 = mkF m 0 #[.val (.ref x0), .val (.ref x1), .unset] [] := by first | (simp [entryFrame, mkF, argsToLocals, Value.category]; done) | rfl
theorem d21_0 : decode prog_10_method_5_code 0 = .ok (.iconst 0, 1) := by decide +kernel
theorem d21_1 : decode prog_10_method_5_code 1 = .ok (.istore_n 2, 1) := by decide +kernel
theorem d21_2 : decode prog_10_method_5_code 2 = .ok (.iload_n 2, 1) := by decide +kernel
theorem d21_3 : decode prog_10_method_5_code 3 = .ok (.aload_n 0, 1) := by decide +kernel
theorem d21_4 : decode prog_10_method_5_code 4 = .ok (.getfield 33, 3) := by decide +kernel
theorem d21_7 : decode prog_10_method_5_code 7 = .ok (.invokevirtual 37, 3) := by decide +kernel
theorem d21_10 : decode prog_10_method_5_code 10 = .ok (.if_icmp .ge 26, 3) := by decide +kernel
theorem d21_13 : decode prog_10_method_5_code 13 = .ok (.aload_n 1, 1) := by decide +kernel
theorem d21_14 : decode prog_10_method_5_code 14 = .ok (.aload_n 0, 1) := by decide +kernel
theorem d21_15 : decode prog_10_method_5_code 15 = .ok (.getfield 33, 3) := by decide +kernel
theorem d21_18 : decode prog_10_method_5_code 18 = .ok (.iload_n 2, 1) := by decide +kernel
theorem d21_19 : decode prog_10_method_5_code 19 = .ok (.invokevirtual 43, 3) := by decide +kernel
theorem own_pd20 : parseMethodDescriptor "(I)I" = some ⟨[.int], some .int⟩ := by decide +kernel
theorem d21_22 : decode prog_10_method_5_code 22 = .ok (.invokevirtual 47, 3) := by decide +kernel
theorem d21_25 : decode prog_10_method_5_code 25 = .ok (.ifCond .lt 5, 3) := by decide +kernel
theorem d21_30 : decode prog_10_method_5_code 30 = .ok (.iinc 2 1, 3) := by decide +kernel
theorem d21_33 : decode prog_10_method_5_code 33 = .ok (.goto (-31), 3) := by decide +kernel
theorem d21_36 : decode prog_10_method_5_code 36 = .ok (.iconst 0, 1) := by decide +kernel
theorem d21_37 : decode prog_10_method_5_code 37 = .ok (.ireturn, 1) := by decide +kernel
def Qinb (Z : State) (a1 : Addr) (a2 : Addr) (cs : Int32) (sf : Value) (ca : Addr) (cv : Addr) (kcv : ClassId) (vb : Addr) (kb : ClassId) (nz : Nat) (h0 : Heap) (n0 : Nat) (v : Option Value) (h : Heap) (L : List Loc) : Prop := v = some (.int (0 : Int32)) ∧ Fr n0 L ∧ h = h0
set_option maxRecDepth 65536 in
set_option maxHeartbeats 40000000 in
theorem rminb (l : Launch) (Z : State) (a0 : Array Value) (hw : ∀ d ∈ tables_1, d.before a0 Z = true) (ws : List Jvm.Cond) (a1 : Addr) (a2 : Addr) (cs : Int32) (sf : Value) (ca : Addr) (cv : Addr) (kcv : ClassId) (vb : Addr) (kb : ClassId) (nz : Nat) (h0 : Heap) (n0 : Nat) (Z0 : n0 ≤ h0.size) (S_COMPACT_STRINGS : Sta Z h0 "java/lang/String" "COMPACT_STRINGS" "Z" (.int cs)) (S_SIOOBE_FORMATTER : Sta Z h0 "jdk/internal/util/Preconditions" "SIOOBE_FORMATTER" "Ljava/util/function/BiFunction;" sf) (F_characters_a1 : Fld Z h0 a1 "com/example/anagrafe/anagrafe/atom/Markup$Escape" "characters" "Ljava/lang/String;" (.ref ca)) (E_ca : Exa Z h0 ca "java/lang/String") (F_value_ca : Fld Z h0 ca "java/lang/String" "value" "[B" (.ref cv)) (F_coder_ca : Fld Z h0 ca "java/lang/String" "coder" "B" (.int (0 : Int32))) (A_cv : Arv Z h0 cv kcv .byte (3 : Int32) ([(.int (38 : Int32)), (.int (60 : Int32)), (.int (62 : Int32))]) (.int (0 : Int32))) (E_a2 : Exa Z h0 a2 "java/lang/String") (F_value_a2 : Fld Z h0 a2 "java/lang/String" "value" "[B" (.ref vb)) (F_coder_a2 : Fld Z h0 a2 "java/lang/String" "coder" "B" (.int (0 : Int32))) (A_vb : Arv Z h0 vb kb .byte (Int32.ofNat nz) (List.replicate nz (.int (0 : Int32))) (.int (0 : Int32))) (hcs : ¬ cs = 0) (hsf : sf.isRef = true) (hn : nz ≤ 4095) (hpos : 0 < nz) :
    MetFree l (⟨"com/example/anagrafe/anagrafe/atom/Markup$Escape", "isNeededBy", "(Ljava/lang/String;)Z"⟩ : MethodName) (head1 (Jvm.Cond.code (⟨"com/example/anagrafe/anagrafe/atom/Markup$Escape", "isNeededBy", "(Ljava/lang/String;)Z"⟩ : MethodName) prog_10_method_5_code 3 (some .boolean) :: ws) ({ frames := 4, cells := 0, slots := 0, locals := 59 } : Room)) (fun a U => a = #[(.ref a1), (.ref a2)] ∧ Z.Warmed39 U.vm ∧ U.heap = h0) (fun _ _ _ _ _ => True) (fun _ U o U' => ∃ v L, o = .returned v ∧ Qinb Z a1 a2 cs sf ca cv kcv vb kb nz h0 n0 v U'.heap L ∧ FrameEnd U o U' L ({ frames := 4, cells := 0, slots := 0, locals := 59 } : Room).cells ({ frames := 4, cells := 0, slots := 0, locals := 59 } : Room).slots) := by
  refine MetFree.of_bodySF (plainFor_of_name own_pn_com_example_anagrafe_anagrafe_atom_Markup_Escape) hisR ?_
  intro p e s m args below meth c s₁ Bd hml0 hP hK
  obtain ⟨rfl, hZ, hh⟩ := hP
  have hx := Bd.exec
  have hby := Bd.bytes
  have hlk := Bd.notSynchronized
  have hml : c.maxLocals = 3 := hml0
  have hown : s.vm.findClass "com/example/anagrafe/anagrafe/atom/Markup$Escape" = some m.cls := findClass_of_methodNamed Bd.named
  have hnm := (name_of_methodNamed Bd.named Bd.method).1
  have X0 : Stand p l e ({ frames := 4, cells := 0, slots := 0, locals := 59 } : Room) s m #[(.ref a1), (.ref a2)] below meth c s₁ [] 0 0 := Stand.of_body Bd
  have e0 : s₁.heap = h0 := by rw [← hh, Bd.state]; rfl
  have N0 := Fr.nil n0
  show Go p e below (KQ s below (Qinb Z a1 a2 cs sf ca cv kcv vb kb nz h0 n0) ({ frames := 4, cells := 0, slots := 0, locals := 59 } : Room).cells ({ frames := 4, cells := 0, slots := 0, locals := 59 } : Room).slots) _
  refine Go.body (T := s₁) (σ := s₁) (g' := (mkF m 0 #[.val (.ref a1), .val (.ref a2), .unset] [])) (ef_inb m a1 a2) ?_
  refine g_iconst X0 hx (hb hby d21_0) 1 rfl (0 : Int32) rfl ?_
  refine g_istoreN X0 hx (hb hby d21_1) 2 rfl #[.val (.ref a1), .val (.ref a2), .val (.int (0 : Int32))] rfl ?_
  refine g_iloadN X0 hx (hb hby d21_2) 3 rfl (v := (0 : Int32)) rfl ?_
  refine g_aloadN X0 hx (hb hby d21_3) 4 rfl (v := (.ref a1)) rfl rfl ?_
  obtain ⟨T165, X165, e165, st165⟩ := getF X0 hx hZ hown (host := "") (Or.inl (hw _ (List.mem_of_getElem? (i := 108) rfl))) Via.refl e0 F_characters_a1 (g := (mkF m 4 #[.val (.ref a1), .val (.ref a2), .val (.int (0 : Int32))] [(.ref a1), (.int (0 : Int32))])) rfl rfl (hb hby d21_4)
  refine Go.st st165 ?_
  show Go p e below _ (T165.setTop (mkF m 7 #[.val (.ref a1), .val (.ref a2), .val (.int (0 : Int32))] [(.ref ca), (.int (0 : Int32))]))
  obtain ⟨cq166, kq166, q166a, q166b, q166c⟩ := isOf hZ e165 E_ca
  obtain ⟨_, _, ⟨T166, L166, k166, n166⟩, -, X166, ⟨Lc166, hQ166, l166, y166, z166⟩, st166⟩ := X165.virtualBack hx (y := (⟨"java/lang/String", "length", "()I"⟩ : MethodName)) (z := (⟨"java/lang/String", "length", "()I"⟩ : MethodName)) hown (mvT hZ (hw _ (List.mem_of_getElem? (i := 110) rfl))) (mvT hZ (hw _ (List.mem_of_getElem? (i := 87) rfl))) (notFace_of_selects (args := #[]) (mvT hZ (hw _ (List.mem_of_getElem? (i := 89) rfl)))) (mvT hZ (hw _ (List.mem_of_getElem? (i := 89) rfl))) (mvT hZ (hw _ (List.mem_of_getElem? (i := 88) rfl))) (by decide) (backOf (W := 1) (rm18 l Z a0 hw [] ca cs cv kcv (3 : Int32) ([(.int (38 : Int32)), (.int (60 : Int32)), (.int (62 : Int32))]) h0 n0 Z0 S_COMPACT_STRINGS E_ca F_value_ca F_coder_ca A_cv hcs) hZ (hw _ (List.mem_of_getElem? (i := 90) rfl)) (hw _ (List.mem_of_getElem? (i := 2) rfl)) (by decide) (by decide)) q166a q166c (g := (mkF m 7 #[.val (.ref a1), .val (.ref a2), .val (.int (0 : Int32))] [(.ref ca), (.int (0 : Int32))])) rfl (by rw [hml]; rfl) (Steps.refl _) (argsL := []) (rest := [(.int (0 : Int32))]) (lenOf own_pd15 rfl) rfl (by show 2 * 0 + _ ≤ _; exact Nat.le_of_eq rfl) (hb hby d21_7) (fun _ _ => ⟨rfl, e165, (by decide : 0 + 0 ≤ _), (by decide : 0 + 0 ≤ _)⟩)
  dsimp only [Pt.U, Pt.locs, Pt.cells, Pt.slots] at X166 l166 y166 z166 st166 hQ166
  subst l166 y166 z166
  obtain ⟨rfl, Nq166, e166⟩ := hQ166
  refine Go.tr st166 ?_
  have N166 := Fr.app N0 Nq166
  show Go p e below _ (T166.setTop (mkF m 10 #[.val (.ref a1), .val (.ref a2), .val (.int (0 : Int32))] [(.int (3 : Int32)), (.int (0 : Int32))]))
  refine g_icmp_ge X166 hx (hb hby d21_10) 36 13 (by decide) (by decide) rfl (fun hc10 => False.elim (absurd (by decide) hc10)) (fun hc10 => ?_)
  refine g_aloadN X166 hx (hb hby d21_13) 14 rfl (v := (.ref a2)) rfl rfl ?_
  refine g_aloadN X166 hx (hb hby d21_14) 15 rfl (v := (.ref a1)) rfl rfl ?_
  obtain ⟨T167, X167, e167, st167⟩ := getF X166 hx hZ hown (host := "") (Or.inl (hw _ (List.mem_of_getElem? (i := 108) rfl))) Via.refl e166 F_characters_a1 (g := (mkF m 15 #[.val (.ref a1), .val (.ref a2), .val (.int (0 : Int32))] [(.ref a1), (.ref a2)])) rfl rfl (hb hby d21_15)
  refine Go.st st167 ?_
  show Go p e below _ (T167.setTop (mkF m 18 #[.val (.ref a1), .val (.ref a2), .val (.int (0 : Int32))] [(.ref ca), (.ref a2)]))
  refine g_iloadN X167 hx (hb hby d21_18) 19 rfl (v := (0 : Int32)) rfl ?_
  obtain ⟨cq168, kq168, q168a, q168b, q168c⟩ := isOf hZ e167 E_ca
  obtain ⟨_, _, ⟨T168, L168, k168, n168⟩, -, X168, ⟨Lc168, hQ168, l168, y168, z168⟩, st168⟩ := X167.virtualBack hx (y := (⟨"java/lang/String", "charAt", "(I)C"⟩ : MethodName)) (z := (⟨"java/lang/String", "charAt", "(I)C"⟩ : MethodName)) hown (mvT hZ (hw _ (List.mem_of_getElem? (i := 111) rfl))) (mvT hZ (hw _ (List.mem_of_getElem? (i := 112) rfl))) (notFace_of_selects (args := #[]) (mvT hZ (hw _ (List.mem_of_getElem? (i := 114) rfl)))) (mvT hZ (hw _ (List.mem_of_getElem? (i := 114) rfl))) (mvT hZ (hw _ (List.mem_of_getElem? (i := 113) rfl))) (by decide) (backOf (W := 1) (rm22 l Z a0 hw [] ca (0 : Int32) cs sf cv kcv (3 : Int32) ([(.int (38 : Int32)), (.int (60 : Int32)), (.int (62 : Int32))]) (38 : Int32) h0 n0 Z0 S_COMPACT_STRINGS S_SIOOBE_FORMATTER E_ca F_value_ca F_coder_ca A_cv hcs hsf (by decide) rfl) hZ (hw _ (List.mem_of_getElem? (i := 115) rfl)) (hw _ (List.mem_of_getElem? (i := 2) rfl)) (by decide) (by decide)) q168a q168c (g := (mkF m 19 #[.val (.ref a1), .val (.ref a2), .val (.int (0 : Int32))] [(.int (0 : Int32)), (.ref ca), (.ref a2)])) rfl (by rw [hml]; rfl) (Steps.refl _) (argsL := [(.int (0 : Int32))]) (rest := [(.ref a2)]) (lenOf own_pd16 rfl) rfl (by show 2 * 0 + _ ≤ _; exact Nat.le_of_eq rfl) (hb hby d21_19) (fun _ _ => ⟨rfl, e167, (by decide : 0 + 0 ≤ _), (by decide : 0 + 0 ≤ _)⟩)
  dsimp only [Pt.U, Pt.locs, Pt.cells, Pt.slots] at X168 l168 y168 z168 st168 hQ168
  subst l168 y168 z168
  obtain ⟨rfl, Nq168, e168⟩ := hQ168
  refine Go.tr st168 ?_
  have N168 := Fr.app N166 Nq168
  show Go p e below _ (T168.setTop (mkF m 22 #[.val (.ref a1), .val (.ref a2), .val (.int (0 : Int32))] [(.int ((38 : Int32) &&& (255 : Int32))), (.ref a2)]))
  obtain ⟨cq169, kq169, q169a, q169b, q169c⟩ := isOf hZ e168 E_a2
  obtain ⟨_, _, ⟨T169, L169, k169, n169⟩, -, X169, ⟨Lc169, hQ169, l169, y169, z169⟩, st169⟩ := X168.virtualBack hx (y := (⟨"java/lang/String", "indexOf", "(I)I"⟩ : MethodName)) (z := (⟨"java/lang/String", "indexOf", "(I)I"⟩ : MethodName)) hown (mvT hZ (hw _ (List.mem_of_getElem? (i := 132) rfl))) (mvT hZ (hw _ (List.mem_of_getElem? (i := 133) rfl))) (notFace_of_selects (args := #[]) (mvT hZ (hw _ (List.mem_of_getElem? (i := 135) rfl)))) (mvT hZ (hw _ (List.mem_of_getElem? (i := 135) rfl))) (mvT hZ (hw _ (List.mem_of_getElem? (i := 134) rfl))) (by decide) (backOf (W := 0) (rmsi1 l Z a0 hw [] a2 ((38 : Int32) &&& (255 : Int32)) cs vb kb nz h0 n0 Z0 S_COMPACT_STRINGS E_a2 F_value_a2 F_coder_a2 A_vb hcs hn hpos (by decide) (by decide) (by decide)) hZ (hw _ (List.mem_of_getElem? (i := 136) rfl)) (hw _ (List.mem_of_getElem? (i := 2) rfl)) (by decide) (by decide)) q169a q169c (g := (mkF m 22 #[.val (.ref a1), .val (.ref a2), .val (.int (0 : Int32))] [(.int ((38 : Int32) &&& (255 : Int32))), (.ref a2)])) rfl (by rw [hml]; rfl) (Steps.refl _) (argsL := [(.int ((38 : Int32) &&& (255 : Int32)))]) (rest := []) (lenOf own_pd20 rfl) rfl (by show 2 * 0 + _ ≤ _; exact Nat.le_of_eq rfl) (hb hby d21_22) (fun _ _ => ⟨rfl, e168, (by decide : 0 + 0 ≤ _), (by decide : 0 + 0 ≤ _)⟩)
  dsimp only [Pt.U, Pt.locs, Pt.cells, Pt.slots] at X169 l169 y169 z169 st169 hQ169
  subst l169 y169 z169
  obtain ⟨rfl, Nq169, e169⟩ := hQ169
  refine Go.tr st169 ?_
  have N169 := Fr.app N168 Nq169
  show Go p e below _ (T169.setTop (mkF m 25 #[.val (.ref a1), .val (.ref a2), .val (.int (0 : Int32))] [(.int (-1 : Int32))]))
  refine g_if_lt X169 hx (hb hby d21_25) 30 28 (by decide) (by decide) rfl (fun hc25 => ?_) (fun hc25 => False.elim (hc25 (by decide)))
  refine g_iinc X169 hx (hb hby d21_30) 33 rfl (x := (0 : Int32)) rfl (1 : Int32) (by decide) #[.val (.ref a1), .val (.ref a2), .val (.int (1 : Int32))] rfl ?_
  refine g_goto X169 hx (hb hby d21_33) 2 (by decide) (by decide) ?_
  refine g_iloadN X169 hx (hb hby d21_2) 3 rfl (v := (1 : Int32)) rfl ?_
  refine g_aloadN X169 hx (hb hby d21_3) 4 rfl (v := (.ref a1)) rfl rfl ?_
  obtain ⟨T170, X170, e170, st170⟩ := getF X169 hx hZ hown (host := "") (Or.inl (hw _ (List.mem_of_getElem? (i := 108) rfl))) Via.refl e169 F_characters_a1 (g := (mkF m 4 #[.val (.ref a1), .val (.ref a2), .val (.int (1 : Int32))] [(.ref a1), (.int (1 : Int32))])) rfl rfl (hb hby d21_4)
  refine Go.st st170 ?_
  show Go p e below _ (T170.setTop (mkF m 7 #[.val (.ref a1), .val (.ref a2), .val (.int (1 : Int32))] [(.ref ca), (.int (1 : Int32))]))
  obtain ⟨cq171, kq171, q171a, q171b, q171c⟩ := isOf hZ e170 E_ca
  obtain ⟨_, _, ⟨T171, L171, k171, n171⟩, -, X171, ⟨Lc171, hQ171, l171, y171, z171⟩, st171⟩ := X170.virtualBack hx (y := (⟨"java/lang/String", "length", "()I"⟩ : MethodName)) (z := (⟨"java/lang/String", "length", "()I"⟩ : MethodName)) hown (mvT hZ (hw _ (List.mem_of_getElem? (i := 110) rfl))) (mvT hZ (hw _ (List.mem_of_getElem? (i := 87) rfl))) (notFace_of_selects (args := #[]) (mvT hZ (hw _ (List.mem_of_getElem? (i := 89) rfl)))) (mvT hZ (hw _ (List.mem_of_getElem? (i := 89) rfl))) (mvT hZ (hw _ (List.mem_of_getElem? (i := 88) rfl))) (by decide) (backOf (W := 1) (rm18 l Z a0 hw [] ca cs cv kcv (3 : Int32) ([(.int (38 : Int32)), (.int (60 : Int32)), (.int (62 : Int32))]) h0 n0 Z0 S_COMPACT_STRINGS E_ca F_value_ca F_coder_ca A_cv hcs) hZ (hw _ (List.mem_of_getElem? (i := 90) rfl)) (hw _ (List.mem_of_getElem? (i := 2) rfl)) (by decide) (by decide)) q171a q171c (g := (mkF m 7 #[.val (.ref a1), .val (.ref a2), .val (.int (1 : Int32))] [(.ref ca), (.int (1 : Int32))])) rfl (by rw [hml]; rfl) (Steps.refl _) (argsL := []) (rest := [(.int (1 : Int32))]) (lenOf own_pd15 rfl) rfl (by show 2 * 0 + _ ≤ _; exact Nat.le_of_eq rfl) (hb hby d21_7) (fun _ _ => ⟨rfl, e170, (by decide : 0 + 0 ≤ _), (by decide : 0 + 0 ≤ _)⟩)
  dsimp only [Pt.U, Pt.locs, Pt.cells, Pt.slots] at X171 l171 y171 z171 st171 hQ171
  subst l171 y171 z171
  obtain ⟨rfl, Nq171, e171⟩ := hQ171
  refine Go.tr st171 ?_
  have N171 := Fr.app N169 Nq171
  show Go p e below _ (T171.setTop (mkF m 10 #[.val (.ref a1), .val (.ref a2), .val (.int (1 : Int32))] [(.int (3 : Int32)), (.int (1 : Int32))]))
  refine g_icmp_ge X171 hx (hb hby d21_10) 36 13 (by decide) (by decide) rfl (fun hc10 => False.elim (absurd (by decide) hc10)) (fun hc10 => ?_)
  refine g_aloadN X171 hx (hb hby d21_13) 14 rfl (v := (.ref a2)) rfl rfl ?_
  refine g_aloadN X171 hx (hb hby d21_14) 15 rfl (v := (.ref a1)) rfl rfl ?_
  obtain ⟨T172, X172, e172, st172⟩ := getF X171 hx hZ hown (host := "") (Or.inl (hw _ (List.mem_of_getElem? (i := 108) rfl))) Via.refl e171 F_characters_a1 (g := (mkF m 15 #[.val (.ref a1), .val (.ref a2), .val (.int (1 : Int32))] [(.ref a1), (.ref a2)])) rfl rfl (hb hby d21_15)
  refine Go.st st172 ?_
  show Go p e below _ (T172.setTop (mkF m 18 #[.val (.ref a1), .val (.ref a2), .val (.int (1 : Int32))] [(.ref ca), (.ref a2)]))
  refine g_iloadN X172 hx (hb hby d21_18) 19 rfl (v := (1 : Int32)) rfl ?_
  obtain ⟨cq173, kq173, q173a, q173b, q173c⟩ := isOf hZ e172 E_ca
  obtain ⟨_, _, ⟨T173, L173, k173, n173⟩, -, X173, ⟨Lc173, hQ173, l173, y173, z173⟩, st173⟩ := X172.virtualBack hx (y := (⟨"java/lang/String", "charAt", "(I)C"⟩ : MethodName)) (z := (⟨"java/lang/String", "charAt", "(I)C"⟩ : MethodName)) hown (mvT hZ (hw _ (List.mem_of_getElem? (i := 111) rfl))) (mvT hZ (hw _ (List.mem_of_getElem? (i := 112) rfl))) (notFace_of_selects (args := #[]) (mvT hZ (hw _ (List.mem_of_getElem? (i := 114) rfl)))) (mvT hZ (hw _ (List.mem_of_getElem? (i := 114) rfl))) (mvT hZ (hw _ (List.mem_of_getElem? (i := 113) rfl))) (by decide) (backOf (W := 1) (rm22 l Z a0 hw [] ca (1 : Int32) cs sf cv kcv (3 : Int32) ([(.int (38 : Int32)), (.int (60 : Int32)), (.int (62 : Int32))]) (60 : Int32) h0 n0 Z0 S_COMPACT_STRINGS S_SIOOBE_FORMATTER E_ca F_value_ca F_coder_ca A_cv hcs hsf (by decide) rfl) hZ (hw _ (List.mem_of_getElem? (i := 115) rfl)) (hw _ (List.mem_of_getElem? (i := 2) rfl)) (by decide) (by decide)) q173a q173c (g := (mkF m 19 #[.val (.ref a1), .val (.ref a2), .val (.int (1 : Int32))] [(.int (1 : Int32)), (.ref ca), (.ref a2)])) rfl (by rw [hml]; rfl) (Steps.refl _) (argsL := [(.int (1 : Int32))]) (rest := [(.ref a2)]) (lenOf own_pd16 rfl) rfl (by show 2 * 0 + _ ≤ _; exact Nat.le_of_eq rfl) (hb hby d21_19) (fun _ _ => ⟨rfl, e172, (by decide : 0 + 0 ≤ _), (by decide : 0 + 0 ≤ _)⟩)
  dsimp only [Pt.U, Pt.locs, Pt.cells, Pt.slots] at X173 l173 y173 z173 st173 hQ173
  subst l173 y173 z173
  obtain ⟨rfl, Nq173, e173⟩ := hQ173
  refine Go.tr st173 ?_
  have N173 := Fr.app N171 Nq173
  show Go p e below _ (T173.setTop (mkF m 22 #[.val (.ref a1), .val (.ref a2), .val (.int (1 : Int32))] [(.int ((60 : Int32) &&& (255 : Int32))), (.ref a2)]))
  obtain ⟨cq174, kq174, q174a, q174b, q174c⟩ := isOf hZ e173 E_a2
  obtain ⟨_, _, ⟨T174, L174, k174, n174⟩, -, X174, ⟨Lc174, hQ174, l174, y174, z174⟩, st174⟩ := X173.virtualBack hx (y := (⟨"java/lang/String", "indexOf", "(I)I"⟩ : MethodName)) (z := (⟨"java/lang/String", "indexOf", "(I)I"⟩ : MethodName)) hown (mvT hZ (hw _ (List.mem_of_getElem? (i := 132) rfl))) (mvT hZ (hw _ (List.mem_of_getElem? (i := 133) rfl))) (notFace_of_selects (args := #[]) (mvT hZ (hw _ (List.mem_of_getElem? (i := 135) rfl)))) (mvT hZ (hw _ (List.mem_of_getElem? (i := 135) rfl))) (mvT hZ (hw _ (List.mem_of_getElem? (i := 134) rfl))) (by decide) (backOf (W := 0) (rmsi1 l Z a0 hw [] a2 ((60 : Int32) &&& (255 : Int32)) cs vb kb nz h0 n0 Z0 S_COMPACT_STRINGS E_a2 F_value_a2 F_coder_a2 A_vb hcs hn hpos (by decide) (by decide) (by decide)) hZ (hw _ (List.mem_of_getElem? (i := 136) rfl)) (hw _ (List.mem_of_getElem? (i := 2) rfl)) (by decide) (by decide)) q174a q174c (g := (mkF m 22 #[.val (.ref a1), .val (.ref a2), .val (.int (1 : Int32))] [(.int ((60 : Int32) &&& (255 : Int32))), (.ref a2)])) rfl (by rw [hml]; rfl) (Steps.refl _) (argsL := [(.int ((60 : Int32) &&& (255 : Int32)))]) (rest := []) (lenOf own_pd20 rfl) rfl (by show 2 * 0 + _ ≤ _; exact Nat.le_of_eq rfl) (hb hby d21_22) (fun _ _ => ⟨rfl, e173, (by decide : 0 + 0 ≤ _), (by decide : 0 + 0 ≤ _)⟩)
  dsimp only [Pt.U, Pt.locs, Pt.cells, Pt.slots] at X174 l174 y174 z174 st174 hQ174
  subst l174 y174 z174
  obtain ⟨rfl, Nq174, e174⟩ := hQ174
  refine Go.tr st174 ?_
  have N174 := Fr.app N173 Nq174
  show Go p e below _ (T174.setTop (mkF m 25 #[.val (.ref a1), .val (.ref a2), .val (.int (1 : Int32))] [(.int (-1 : Int32))]))
  refine g_if_lt X174 hx (hb hby d21_25) 30 28 (by decide) (by decide) rfl (fun hc25 => ?_) (fun hc25 => False.elim (hc25 (by decide)))
  refine g_iinc X174 hx (hb hby d21_30) 33 rfl (x := (1 : Int32)) rfl (2 : Int32) (by decide) #[.val (.ref a1), .val (.ref a2), .val (.int (2 : Int32))] rfl ?_
  refine g_goto X174 hx (hb hby d21_33) 2 (by decide) (by decide) ?_
  refine g_iloadN X174 hx (hb hby d21_2) 3 rfl (v := (2 : Int32)) rfl ?_
  refine g_aloadN X174 hx (hb hby d21_3) 4 rfl (v := (.ref a1)) rfl rfl ?_
  obtain ⟨T175, X175, e175, st175⟩ := getF X174 hx hZ hown (host := "") (Or.inl (hw _ (List.mem_of_getElem? (i := 108) rfl))) Via.refl e174 F_characters_a1 (g := (mkF m 4 #[.val (.ref a1), .val (.ref a2), .val (.int (2 : Int32))] [(.ref a1), (.int (2 : Int32))])) rfl rfl (hb hby d21_4)
  refine Go.st st175 ?_
  show Go p e below _ (T175.setTop (mkF m 7 #[.val (.ref a1), .val (.ref a2), .val (.int (2 : Int32))] [(.ref ca), (.int (2 : Int32))]))
  obtain ⟨cq176, kq176, q176a, q176b, q176c⟩ := isOf hZ e175 E_ca
  obtain ⟨_, _, ⟨T176, L176, k176, n176⟩, -, X176, ⟨Lc176, hQ176, l176, y176, z176⟩, st176⟩ := X175.virtualBack hx (y := (⟨"java/lang/String", "length", "()I"⟩ : MethodName)) (z := (⟨"java/lang/String", "length", "()I"⟩ : MethodName)) hown (mvT hZ (hw _ (List.mem_of_getElem? (i := 110) rfl))) (mvT hZ (hw _ (List.mem_of_getElem? (i := 87) rfl))) (notFace_of_selects (args := #[]) (mvT hZ (hw _ (List.mem_of_getElem? (i := 89) rfl)))) (mvT hZ (hw _ (List.mem_of_getElem? (i := 89) rfl))) (mvT hZ (hw _ (List.mem_of_getElem? (i := 88) rfl))) (by decide) (backOf (W := 1) (rm18 l Z a0 hw [] ca cs cv kcv (3 : Int32) ([(.int (38 : Int32)), (.int (60 : Int32)), (.int (62 : Int32))]) h0 n0 Z0 S_COMPACT_STRINGS E_ca F_value_ca F_coder_ca A_cv hcs) hZ (hw _ (List.mem_of_getElem? (i := 90) rfl)) (hw _ (List.mem_of_getElem? (i := 2) rfl)) (by decide) (by decide)) q176a q176c (g := (mkF m 7 #[.val (.ref a1), .val (.ref a2), .val (.int (2 : Int32))] [(.ref ca), (.int (2 : Int32))])) rfl (by rw [hml]; rfl) (Steps.refl _) (argsL := []) (rest := [(.int (2 : Int32))]) (lenOf own_pd15 rfl) rfl (by show 2 * 0 + _ ≤ _; exact Nat.le_of_eq rfl) (hb hby d21_7) (fun _ _ => ⟨rfl, e175, (by decide : 0 + 0 ≤ _), (by decide : 0 + 0 ≤ _)⟩)
  dsimp only [Pt.U, Pt.locs, Pt.cells, Pt.slots] at X176 l176 y176 z176 st176 hQ176
  subst l176 y176 z176
  obtain ⟨rfl, Nq176, e176⟩ := hQ176
  refine Go.tr st176 ?_
  have N176 := Fr.app N174 Nq176
  show Go p e below _ (T176.setTop (mkF m 10 #[.val (.ref a1), .val (.ref a2), .val (.int (2 : Int32))] [(.int (3 : Int32)), (.int (2 : Int32))]))
  refine g_icmp_ge X176 hx (hb hby d21_10) 36 13 (by decide) (by decide) rfl (fun hc10 => False.elim (absurd (by decide) hc10)) (fun hc10 => ?_)
  refine g_aloadN X176 hx (hb hby d21_13) 14 rfl (v := (.ref a2)) rfl rfl ?_
  refine g_aloadN X176 hx (hb hby d21_14) 15 rfl (v := (.ref a1)) rfl rfl ?_
  obtain ⟨T177, X177, e177, st177⟩ := getF X176 hx hZ hown (host := "") (Or.inl (hw _ (List.mem_of_getElem? (i := 108) rfl))) Via.refl e176 F_characters_a1 (g := (mkF m 15 #[.val (.ref a1), .val (.ref a2), .val (.int (2 : Int32))] [(.ref a1), (.ref a2)])) rfl rfl (hb hby d21_15)
  refine Go.st st177 ?_
  show Go p e below _ (T177.setTop (mkF m 18 #[.val (.ref a1), .val (.ref a2), .val (.int (2 : Int32))] [(.ref ca), (.ref a2)]))
  refine g_iloadN X177 hx (hb hby d21_18) 19 rfl (v := (2 : Int32)) rfl ?_
  obtain ⟨cq178, kq178, q178a, q178b, q178c⟩ := isOf hZ e177 E_ca
  obtain ⟨_, _, ⟨T178, L178, k178, n178⟩, -, X178, ⟨Lc178, hQ178, l178, y178, z178⟩, st178⟩ := X177.virtualBack hx (y := (⟨"java/lang/String", "charAt", "(I)C"⟩ : MethodName)) (z := (⟨"java/lang/String", "charAt", "(I)C"⟩ : MethodName)) hown (mvT hZ (hw _ (List.mem_of_getElem? (i := 111) rfl))) (mvT hZ (hw _ (List.mem_of_getElem? (i := 112) rfl))) (notFace_of_selects (args := #[]) (mvT hZ (hw _ (List.mem_of_getElem? (i := 114) rfl)))) (mvT hZ (hw _ (List.mem_of_getElem? (i := 114) rfl))) (mvT hZ (hw _ (List.mem_of_getElem? (i := 113) rfl))) (by decide) (backOf (W := 1) (rm22 l Z a0 hw [] ca (2 : Int32) cs sf cv kcv (3 : Int32) ([(.int (38 : Int32)), (.int (60 : Int32)), (.int (62 : Int32))]) (62 : Int32) h0 n0 Z0 S_COMPACT_STRINGS S_SIOOBE_FORMATTER E_ca F_value_ca F_coder_ca A_cv hcs hsf (by decide) rfl) hZ (hw _ (List.mem_of_getElem? (i := 115) rfl)) (hw _ (List.mem_of_getElem? (i := 2) rfl)) (by decide) (by decide)) q178a q178c (g := (mkF m 19 #[.val (.ref a1), .val (.ref a2), .val (.int (2 : Int32))] [(.int (2 : Int32)), (.ref ca), (.ref a2)])) rfl (by rw [hml]; rfl) (Steps.refl _) (argsL := [(.int (2 : Int32))]) (rest := [(.ref a2)]) (lenOf own_pd16 rfl) rfl (by show 2 * 0 + _ ≤ _; exact Nat.le_of_eq rfl) (hb hby d21_19) (fun _ _ => ⟨rfl, e177, (by decide : 0 + 0 ≤ _), (by decide : 0 + 0 ≤ _)⟩)
  dsimp only [Pt.U, Pt.locs, Pt.cells, Pt.slots] at X178 l178 y178 z178 st178 hQ178
  subst l178 y178 z178
  obtain ⟨rfl, Nq178, e178⟩ := hQ178
  refine Go.tr st178 ?_
  have N178 := Fr.app N176 Nq178
  show Go p e below _ (T178.setTop (mkF m 22 #[.val (.ref a1), .val (.ref a2), .val (.int (2 : Int32))] [(.int ((62 : Int32) &&& (255 : Int32))), (.ref a2)]))
  obtain ⟨cq179, kq179, q179a, q179b, q179c⟩ := isOf hZ e178 E_a2
  obtain ⟨_, _, ⟨T179, L179, k179, n179⟩, -, X179, ⟨Lc179, hQ179, l179, y179, z179⟩, st179⟩ := X178.virtualBack hx (y := (⟨"java/lang/String", "indexOf", "(I)I"⟩ : MethodName)) (z := (⟨"java/lang/String", "indexOf", "(I)I"⟩ : MethodName)) hown (mvT hZ (hw _ (List.mem_of_getElem? (i := 132) rfl))) (mvT hZ (hw _ (List.mem_of_getElem? (i := 133) rfl))) (notFace_of_selects (args := #[]) (mvT hZ (hw _ (List.mem_of_getElem? (i := 135) rfl)))) (mvT hZ (hw _ (List.mem_of_getElem? (i := 135) rfl))) (mvT hZ (hw _ (List.mem_of_getElem? (i := 134) rfl))) (by decide) (backOf (W := 0) (rmsi1 l Z a0 hw [] a2 ((62 : Int32) &&& (255 : Int32)) cs vb kb nz h0 n0 Z0 S_COMPACT_STRINGS E_a2 F_value_a2 F_coder_a2 A_vb hcs hn hpos (by decide) (by decide) (by decide)) hZ (hw _ (List.mem_of_getElem? (i := 136) rfl)) (hw _ (List.mem_of_getElem? (i := 2) rfl)) (by decide) (by decide)) q179a q179c (g := (mkF m 22 #[.val (.ref a1), .val (.ref a2), .val (.int (2 : Int32))] [(.int ((62 : Int32) &&& (255 : Int32))), (.ref a2)])) rfl (by rw [hml]; rfl) (Steps.refl _) (argsL := [(.int ((62 : Int32) &&& (255 : Int32)))]) (rest := []) (lenOf own_pd20 rfl) rfl (by show 2 * 0 + _ ≤ _; exact Nat.le_of_eq rfl) (hb hby d21_22) (fun _ _ => ⟨rfl, e178, (by decide : 0 + 0 ≤ _), (by decide : 0 + 0 ≤ _)⟩)
  dsimp only [Pt.U, Pt.locs, Pt.cells, Pt.slots] at X179 l179 y179 z179 st179 hQ179
  subst l179 y179 z179
  obtain ⟨rfl, Nq179, e179⟩ := hQ179
  refine Go.tr st179 ?_
  have N179 := Fr.app N178 Nq179
  show Go p e below _ (T179.setTop (mkF m 25 #[.val (.ref a1), .val (.ref a2), .val (.int (2 : Int32))] [(.int (-1 : Int32))]))
  refine g_if_lt X179 hx (hb hby d21_25) 30 28 (by decide) (by decide) rfl (fun hc25 => ?_) (fun hc25 => False.elim (hc25 (by decide)))
  refine g_iinc X179 hx (hb hby d21_30) 33 rfl (x := (2 : Int32)) rfl (3 : Int32) (by decide) #[.val (.ref a1), .val (.ref a2), .val (.int (3 : Int32))] rfl ?_
  refine g_goto X179 hx (hb hby d21_33) 2 (by decide) (by decide) ?_
  refine g_iloadN X179 hx (hb hby d21_2) 3 rfl (v := (3 : Int32)) rfl ?_
  refine g_aloadN X179 hx (hb hby d21_3) 4 rfl (v := (.ref a1)) rfl rfl ?_
  obtain ⟨T180, X180, e180, st180⟩ := getF X179 hx hZ hown (host := "") (Or.inl (hw _ (List.mem_of_getElem? (i := 108) rfl))) Via.refl e179 F_characters_a1 (g := (mkF m 4 #[.val (.ref a1), .val (.ref a2), .val (.int (3 : Int32))] [(.ref a1), (.int (3 : Int32))])) rfl rfl (hb hby d21_4)
  refine Go.st st180 ?_
  show Go p e below _ (T180.setTop (mkF m 7 #[.val (.ref a1), .val (.ref a2), .val (.int (3 : Int32))] [(.ref ca), (.int (3 : Int32))]))
  obtain ⟨cq181, kq181, q181a, q181b, q181c⟩ := isOf hZ e180 E_ca
  obtain ⟨_, _, ⟨T181, L181, k181, n181⟩, -, X181, ⟨Lc181, hQ181, l181, y181, z181⟩, st181⟩ := X180.virtualBack hx (y := (⟨"java/lang/String", "length", "()I"⟩ : MethodName)) (z := (⟨"java/lang/String", "length", "()I"⟩ : MethodName)) hown (mvT hZ (hw _ (List.mem_of_getElem? (i := 110) rfl))) (mvT hZ (hw _ (List.mem_of_getElem? (i := 87) rfl))) (notFace_of_selects (args := #[]) (mvT hZ (hw _ (List.mem_of_getElem? (i := 89) rfl)))) (mvT hZ (hw _ (List.mem_of_getElem? (i := 89) rfl))) (mvT hZ (hw _ (List.mem_of_getElem? (i := 88) rfl))) (by decide) (backOf (W := 1) (rm18 l Z a0 hw [] ca cs cv kcv (3 : Int32) ([(.int (38 : Int32)), (.int (60 : Int32)), (.int (62 : Int32))]) h0 n0 Z0 S_COMPACT_STRINGS E_ca F_value_ca F_coder_ca A_cv hcs) hZ (hw _ (List.mem_of_getElem? (i := 90) rfl)) (hw _ (List.mem_of_getElem? (i := 2) rfl)) (by decide) (by decide)) q181a q181c (g := (mkF m 7 #[.val (.ref a1), .val (.ref a2), .val (.int (3 : Int32))] [(.ref ca), (.int (3 : Int32))])) rfl (by rw [hml]; rfl) (Steps.refl _) (argsL := []) (rest := [(.int (3 : Int32))]) (lenOf own_pd15 rfl) rfl (by show 2 * 0 + _ ≤ _; exact Nat.le_of_eq rfl) (hb hby d21_7) (fun _ _ => ⟨rfl, e180, (by decide : 0 + 0 ≤ _), (by decide : 0 + 0 ≤ _)⟩)
  dsimp only [Pt.U, Pt.locs, Pt.cells, Pt.slots] at X181 l181 y181 z181 st181 hQ181
  subst l181 y181 z181
  obtain ⟨rfl, Nq181, e181⟩ := hQ181
  refine Go.tr st181 ?_
  have N181 := Fr.app N179 Nq181
  show Go p e below _ (T181.setTop (mkF m 10 #[.val (.ref a1), .val (.ref a2), .val (.int (3 : Int32))] [(.int (3 : Int32)), (.int (3 : Int32))]))
  refine g_icmp_ge X181 hx (hb hby d21_10) 36 13 (by decide) (by decide) rfl (fun hc10 => ?_) (fun hc10 => False.elim (absurd hc10 (by decide)))
  refine g_iconst X181 hx (hb hby d21_36) 37 rfl (0 : Int32) rfl ?_
  refine Go.retN X181 hx hlk (t := .boolean) Bd.returns (by simp) (hb hby d21_37) (by decide) (by decide) ?_
  show Qinb Z a1 a2 cs sf ca cv kcv vb kb nz h0 n0 _ T181.heap _
  rw [e181]
  exact ⟨rfl, N181, rfl⟩
theorem ef_esc (m : MethodId) (x0 : Addr) (x1 : Int32) : entryFrame m #[(.ref x0), (.int x1)] 2 = mkF m 0 #[.val (.ref x0), .val (.int x1)] [] := by first | (simp [entryFrame, mkF, argsToLocals, Value.category]; done) | rfl
theorem d40_0 : decode prog_10_method_4_code 0 = .ok (.aload_n 0, 1) := by decide +kernel
theorem d40_1 : decode prog_10_method_4_code 1 = .ok (.getfield 29, 3) := by decide +kernel
theorem d40_4 : decode prog_10_method_4_code 4 = .ok (.iload_n 1, 1) := by decide +kernel
theorem d40_5 : decode prog_10_method_4_code 5 = .ok (.baload, 1) := by decide +kernel
theorem d40_6 : decode prog_10_method_4_code 6 = .ok (.ireturn, 1) := by decide +kernel
def Qesc (Z : State) (a1 : Addr) (eb : Addr) (ke : ClassId) (ev : List Value) (h0 : Heap) (n0 : Nat) (v : Option Value) (h : Heap) (L : List Loc) : Prop := v = some (.int (0 : Int32)) ∧ Fr n0 L ∧ h = h0
set_option maxRecDepth 65536 in
set_option maxHeartbeats 40000000 in
theorem rmesc (l : Launch) (Z : State) (a0 : Array Value) (hw : ∀ d ∈ tables_1, d.before a0 Z = true) (ws : List Jvm.Cond) (a1 : Addr) (eb : Addr) (ke : ClassId) (ev : List Value) (h0 : Heap) (n0 : Nat) (Z0 : n0 ≤ h0.size) (F_escaped_a1 : Fld Z h0 a1 "com/example/anagrafe/anagrafe/atom/Markup$Escape" "escaped" "[Z" (.ref eb)) (A_eb : Arv Z h0 eb ke .boolean (128 : Int32) ev (.int (0 : Int32))) (hev : ev.getD 0 (.int (0 : Int32)) = .int 0) :
    MetFree l (⟨"com/example/anagrafe/anagrafe/atom/Markup$Escape", "escapes", "(C)Z"⟩ : MethodName) (head1 (Jvm.Cond.code (⟨"com/example/anagrafe/anagrafe/atom/Markup$Escape", "escapes", "(C)Z"⟩ : MethodName) prog_10_method_4_code 2 (some .boolean) :: ws) ({ frames := 0, cells := 0, slots := 0, locals := 0 } : Room)) (fun a U => a = #[(.ref a1), (.int (0 : Int32))] ∧ Z.Warmed39 U.vm ∧ U.heap = h0) (fun _ _ _ _ _ => True) (fun _ U o U' => ∃ v L, o = .returned v ∧ Qesc Z a1 eb ke ev h0 n0 v U'.heap L ∧ FrameEnd U o U' L ({ frames := 0, cells := 0, slots := 0, locals := 0 } : Room).cells ({ frames := 0, cells := 0, slots := 0, locals := 0 } : Room).slots) := by
  refine MetFree.of_bodySF (plainFor_of_name own_pn_com_example_anagrafe_anagrafe_atom_Markup_Escape) hisR ?_
  intro p e s m args below meth c s₁ Bd hml0 hP hK
  obtain ⟨rfl, hZ, hh⟩ := hP
  have hx := Bd.exec
  have hby := Bd.bytes
  have hlk := Bd.notSynchronized
  have hml : c.maxLocals = 2 := hml0
  have hown : s.vm.findClass "com/example/anagrafe/anagrafe/atom/Markup$Escape" = some m.cls := findClass_of_methodNamed Bd.named
  have hnm := (name_of_methodNamed Bd.named Bd.method).1
  have X0 : Stand p l e ({ frames := 0, cells := 0, slots := 0, locals := 0 } : Room) s m #[(.ref a1), (.int (0 : Int32))] below meth c s₁ [] 0 0 := Stand.of_body Bd
  have e0 : s₁.heap = h0 := by rw [← hh, Bd.state]; rfl
  have N0 := Fr.nil n0
  show Go p e below (KQ s below (Qesc Z a1 eb ke ev h0 n0) ({ frames := 0, cells := 0, slots := 0, locals := 0 } : Room).cells ({ frames := 0, cells := 0, slots := 0, locals := 0 } : Room).slots) _
  refine Go.body (T := s₁) (σ := s₁) (g' := (mkF m 0 #[.val (.ref a1), .val (.int (0 : Int32))] [])) (ef_esc m a1 (0 : Int32)) ?_
  refine g_aloadN X0 hx (hb hby d40_0) 1 rfl (v := (.ref a1)) rfl rfl ?_
  obtain ⟨T182, X182, e182, st182⟩ := getF X0 hx hZ hown (host := "") (Or.inl (hw _ (List.mem_of_getElem? (i := 203) rfl))) Via.refl e0 F_escaped_a1 (g := (mkF m 1 #[.val (.ref a1), .val (.int (0 : Int32))] [(.ref a1)])) rfl rfl (hb hby d40_1)
  refine Go.st st182 ?_
  show Go p e below _ (T182.setTop (mkF m 4 #[.val (.ref a1), .val (.int (0 : Int32))] [(.ref eb)]))
  refine g_iloadN X182 hx (hb hby d40_4) 5 rfl (v := (0 : Int32)) rfl ?_
  refine g_baloadZ X182 hx (hb hby d40_5) 6 rfl hZ e182 A_eb (show ¬ (0 : Int32) < 0 ∧ (0 : Int32) < (128 : Int32) from by decide) (.int (0 : Int32)) hev ?_
  refine Go.retN X182 hx hlk (t := .boolean) Bd.returns (by simp) (hb hby d40_6) (by decide) (by decide) ?_
  show Qesc Z a1 eb ke ev h0 n0 _ T182.heap _
  rw [e182]
  exact ⟨rfl, N0, rfl⟩
theorem own_pn_java_lang_StringCoding : plainName "java/lang/StringCoding" = true := by first | (simp [plainName, overriddenIn]; done) | decide +kernel
theorem ef_cpz (m : MethodId) (x0 : Addr) (x1 : Int32) (x2 : Int32) : entryFrame m #[(.ref x0), (.int x1), (.int x2)] 5 = mkF m 0 #[.val (.ref x0), .val (.int x1), .val (.int x2), .unset, .unset] [] := by first | (simp [entryFrame, mkF, argsToLocals, Value.category]; done) | rfl
theorem d37_0 : decode jdk_123_method_3_code 0 = .ok (.iload_n 1, 1) := by decide +kernel
theorem d37_1 : decode jdk_123_method_3_code 1 = .ok (.iload_n 2, 1) := by decide +kernel
theorem d37_2 : decode jdk_123_method_3_code 2 = .ok (.iadd, 1) := by decide +kernel
theorem d37_3 : decode jdk_123_method_3_code 3 = .ok (.istore_n 3, 1) := by decide +kernel
theorem d37_4 : decode jdk_123_method_3_code 4 = .ok (.iload_n 1, 1) := by decide +kernel
theorem d37_5 : decode jdk_123_method_3_code 5 = .ok (.istore 4, 2) := by decide +kernel
theorem d37_7 : decode jdk_123_method_3_code 7 = .ok (.iload 4, 2) := by decide +kernel
theorem d37_9 : decode jdk_123_method_3_code 9 = .ok (.iload_n 3, 1) := by decide +kernel
theorem d37_10 : decode jdk_123_method_3_code 10 = .ok (.if_icmp .ge 21, 3) := by decide +kernel
theorem d37_31 : decode jdk_123_method_3_code 31 = .ok (.iload_n 2, 1) := by decide +kernel
theorem d37_32 : decode jdk_123_method_3_code 32 = .ok (.ireturn, 1) := by decide +kernel
theorem d37_13 : decode jdk_123_method_3_code 13 = .ok (.aload_n 0, 1) := by decide +kernel
theorem d37_14 : decode jdk_123_method_3_code 14 = .ok (.iload 4, 2) := by decide +kernel
theorem d37_16 : decode jdk_123_method_3_code 16 = .ok (.baload, 1) := by decide +kernel
theorem d37_17 : decode jdk_123_method_3_code 17 = .ok (.ifCond .ge 8, 3) := by decide +kernel
theorem d37_25 : decode jdk_123_method_3_code 25 = .ok (.iinc 4 1, 3) := by decide +kernel
theorem d37_28 : decode jdk_123_method_3_code 28 = .ok (.goto (-21), 3) := by decide +kernel
def Qcpz (Z : State) (a1 : Addr) (kb : ClassId) (nz : Nat) (h0 : Heap) (n0 : Nat) (v : Option Value) (h : Heap) (L : List Loc) : Prop := v = some (.int (Int32.ofNat nz)) ∧ Fr n0 L ∧ h = h0
set_option maxRecDepth 65536 in
set_option maxHeartbeats 40000000 in
theorem rmcpz (l : Launch) (Z : State) (a0 : Array Value) (hw : ∀ d ∈ tables_1, d.before a0 Z = true) (ws : List Jvm.Cond) (a1 : Addr) (kb : ClassId) (nz : Nat) (h0 : Heap) (n0 : Nat) (Z0 : n0 ≤ h0.size) (A_a1 : Arv Z h0 a1 kb .byte (Int32.ofNat nz) (List.replicate nz (.int (0 : Int32))) (.int (0 : Int32))) (hn : nz ≤ 4095) :
    MetFree l (⟨"java/lang/StringCoding", "countPositives", "([BII)I"⟩ : MethodName) (head1 (Jvm.Cond.code (⟨"java/lang/StringCoding", "countPositives", "([BII)I"⟩ : MethodName) jdk_123_method_3_code 5 (some .int) :: ws) ({ frames := 0, cells := 0, slots := 0, locals := 0 } : Room)) (fun a U => a = #[(.ref a1), (.int (0 : Int32)), (.int (Int32.ofNat nz))] ∧ Z.Warmed39 U.vm ∧ U.heap = h0) (fun _ _ _ _ _ => True) (fun _ U o U' => ∃ v L, o = .returned v ∧ Qcpz Z a1 kb nz h0 n0 v U'.heap L ∧ FrameEnd U o U' L ({ frames := 0, cells := 0, slots := 0, locals := 0 } : Room).cells ({ frames := 0, cells := 0, slots := 0, locals := 0 } : Room).slots) := by
  refine MetFree.of_bodySF (plainFor_of_name own_pn_java_lang_StringCoding) hisR ?_
  intro p e s m args below meth c s₁ Bd hml0 hP hK
  obtain ⟨rfl, hZ, hh⟩ := hP
  have hx := Bd.exec
  have hby := Bd.bytes
  have hlk := Bd.notSynchronized
  have hml : c.maxLocals = 5 := hml0
  have hown : s.vm.findClass "java/lang/StringCoding" = some m.cls := findClass_of_methodNamed Bd.named
  have hnm := (name_of_methodNamed Bd.named Bd.method).1
  have X0 : Stand p l e ({ frames := 0, cells := 0, slots := 0, locals := 0 } : Room) s m #[(.ref a1), (.int (0 : Int32)), (.int (Int32.ofNat nz))] below meth c s₁ [] 0 0 := Stand.of_body Bd
  have e0 : s₁.heap = h0 := by rw [← hh, Bd.state]; rfl
  have N0 := Fr.nil n0
  show Go p e below (KQ s below (Qcpz Z a1 kb nz h0 n0) ({ frames := 0, cells := 0, slots := 0, locals := 0 } : Room).cells ({ frames := 0, cells := 0, slots := 0, locals := 0 } : Room).slots) _
  refine Go.body (T := s₁) (σ := s₁) (g' := (mkF m 0 #[.val (.ref a1), .val (.int (0 : Int32)), .val (.int (Int32.ofNat nz)), .unset, .unset] [])) (ef_cpz m a1 (0 : Int32) (Int32.ofNat nz)) ?_
  refine g_iloadN X0 hx (hb hby d37_0) 1 rfl (v := (0 : Int32)) rfl ?_
  refine g_iloadN X0 hx (hb hby d37_1) 2 rfl (v := (Int32.ofNat nz)) rfl ?_
  refine g_iadd X0 hx (hb hby d37_2) 3 rfl (Int32.ofNat nz) (own_0add _) ?_
  refine g_istoreN X0 hx (hb hby d37_3) 4 rfl #[.val (.ref a1), .val (.int (0 : Int32)), .val (.int (Int32.ofNat nz)), .val (.int (Int32.ofNat nz)), .unset] rfl ?_
  refine g_iloadN X0 hx (hb hby d37_4) 5 rfl (v := (0 : Int32)) rfl ?_
  refine g_istore X0 hx (hb hby d37_5) 7 rfl #[.val (.ref a1), .val (.int (0 : Int32)), .val (.int (Int32.ofNat nz)), .val (.int (Int32.ofNat nz)), .val (.int (0 : Int32))] rfl ?_
  have lp : ∀ tl : Nat, ∀ (i : Nat) {Ts184 : State} {lc184 : List Loc} (Xs184 : Stand p l e ({ frames := 0, cells := 0, slots := 0, locals := 0 } : Room) s m #[(.ref a1), (.int (0 : Int32)), (.int (Int32.ofNat nz))] below meth c Ts184 lc184 0 0) (es184 : Ts184.heap = h0) (Ns184 : Fr n0 lc184), i + tl = nz → Go p e below (KQ s below (Qcpz Z a1 kb nz h0 n0) ({ frames := 0, cells := 0, slots := 0, locals := 0 } : Room).cells ({ frames := 0, cells := 0, slots := 0, locals := 0 } : Room).slots) (Ts184.setTop (mkF m 7 #[.val (.ref a1), .val (.int (0 : Int32)), .val (.int (Int32.ofNat nz)), .val (.int (Int32.ofNat nz)), .val (.int (Int32.ofNat i))] [])) := by
    intro tl
    induction tl with
    | zero => 
      intro i Ts184 lc184 Xs184 es184 Ns184 htl
      refine g_iload Xs184 hx (hb hby d37_7) 9 rfl (v := (Int32.ofNat i)) rfl ?_
      refine g_iloadN Xs184 hx (hb hby d37_9) 10 rfl (v := (Int32.ofNat nz)) rfl ?_
      refine g_icmp_ge Xs184 hx (hb hby d37_10) 31 13 (by decide) (by decide) rfl (fun hc10 => ?_) (fun hc10 => False.elim (absurd (own_lt (by omega) (by omega) hc10) (by omega)))
      refine g_iloadN Xs184 hx (hb hby d37_31) 32 rfl (v := (Int32.ofNat nz)) rfl ?_
      refine Go.retI Xs184 hx hlk Bd.returns (hb hby d37_32) (by decide) (by decide) ?_
      show Qcpz Z a1 kb nz h0 n0 _ Ts184.heap _
      rw [es184]
      exact ⟨rfl, Ns184, rfl⟩
    | succ tl ih => 
      intro i Ts184 lc184 Xs184 es184 Ns184 htl
      refine g_iload Xs184 hx (hb hby d37_7) 9 rfl (v := (Int32.ofNat i)) rfl ?_
      refine g_iloadN Xs184 hx (hb hby d37_9) 10 rfl (v := (Int32.ofNat nz)) rfl ?_
      refine g_icmp_ge Xs184 hx (hb hby d37_10) 31 13 (by decide) (by decide) rfl (fun hc10 => False.elim (hc10 (own_in (by omega) (by omega)).2)) (fun hc10 => ?_)
      refine g_aloadN Xs184 hx (hb hby d37_13) 14 rfl (v := (.ref a1)) rfl rfl ?_
      refine g_iload Xs184 hx (hb hby d37_14) 16 rfl (v := (Int32.ofNat i)) rfl ?_
      refine g_baload Xs184 hx (hb hby d37_16) 17 rfl hZ es184 A_a1 (own_in (by omega) (by omega)) (.int (0 : Int32)) (own_zg _ _ _) ?_
      refine g_if_ge Xs184 hx (hb hby d37_17) 25 20 (by decide) (by decide) rfl (fun hc17 => ?_) (fun hc17 => False.elim (absurd hc17 (by decide)))
      refine g_iinc Xs184 hx (hb hby d37_25) 28 rfl (x := (Int32.ofNat i)) rfl (Int32.ofNat (i + 1)) (own_up i) #[.val (.ref a1), .val (.int (0 : Int32)), .val (.int (Int32.ofNat nz)), .val (.int (Int32.ofNat nz)), .val (.int (Int32.ofNat (i + 1)))] rfl ?_
      refine g_goto Xs184 hx (hb hby d37_28) 7 (by decide) (by decide) ?_
      exact ih (i + 1) (own_mono Xs184 (by decide) (by decide)) es184 Ns184 (by omega)
  exact lp nz 0 (own_mono X0 (by decide) (by decide)) e0 N0 (by omega)
theorem ef_hnz (m : MethodId) (x0 : Addr) (x1 : Int32) (x2 : Int32) : entryFrame m #[(.ref x0), (.int x1), (.int x2)] 3 = mkF m 0 #[.val (.ref x0), .val (.int x1), .val (.int x2)] [] := by first | (simp [entryFrame, mkF, argsToLocals, Value.category]; done) | rfl
theorem d36_0 : decode jdk_123_method_2_code 0 = .ok (.aload_n 0, 1) := by decide +kernel
theorem d36_1 : decode jdk_123_method_2_code 1 = .ok (.iload_n 1, 1) := by decide +kernel
theorem d36_2 : decode jdk_123_method_2_code 2 = .ok (.iload_n 2, 1) := by decide +kernel
theorem own_pd21 : parseMethodDescriptor "([BII)I" = some ⟨[(.array .byte), .int, .int], some .int⟩ := by decide +kernel
theorem d36_3 : decode jdk_123_method_2_code 3 = .ok (.invokestatic 7, 3) := by decide +kernel
theorem d36_6 : decode jdk_123_method_2_code 6 = .ok (.iload_n 2, 1) := by decide +kernel
theorem d36_7 : decode jdk_123_method_2_code 7 = .ok (.if_icmp .eq 7, 3) := by decide +kernel
theorem d36_14 : decode jdk_123_method_2_code 14 = .ok (.iconst 0, 1) := by decide +kernel
theorem d36_15 : decode jdk_123_method_2_code 15 = .ok (.ireturn, 1) := by decide +kernel
def Qhnz (Z : State) (a1 : Addr) (kb : ClassId) (nz : Nat) (h0 : Heap) (n0 : Nat) (v : Option Value) (h : Heap) (L : List Loc) : Prop := v = some (.int (0 : Int32)) ∧ Fr n0 L ∧ h = h0
set_option maxRecDepth 65536 in
set_option maxHeartbeats 40000000 in
theorem rmhnz (l : Launch) (Z : State) (a0 : Array Value) (hw : ∀ d ∈ tables_1, d.before a0 Z = true) (ws : List Jvm.Cond) (a1 : Addr) (kb : ClassId) (nz : Nat) (h0 : Heap) (n0 : Nat) (Z0 : n0 ≤ h0.size) (A_a1 : Arv Z h0 a1 kb .byte (Int32.ofNat nz) (List.replicate nz (.int (0 : Int32))) (.int (0 : Int32))) (hn : nz ≤ 4095) :
    MetFree l (⟨"java/lang/StringCoding", "hasNegatives", "([BII)Z"⟩ : MethodName) (head1 (Jvm.Cond.code (⟨"java/lang/StringCoding", "hasNegatives", "([BII)Z"⟩ : MethodName) jdk_123_method_2_code 3 (some .boolean) :: ws) ({ frames := 1, cells := 0, slots := 0, locals := 16 } : Room)) (fun a U => a = #[(.ref a1), (.int (0 : Int32)), (.int (Int32.ofNat nz))] ∧ Z.Warmed39 U.vm ∧ U.heap = h0) (fun _ _ _ _ _ => True) (fun _ U o U' => ∃ v L, o = .returned v ∧ Qhnz Z a1 kb nz h0 n0 v U'.heap L ∧ FrameEnd U o U' L ({ frames := 1, cells := 0, slots := 0, locals := 16 } : Room).cells ({ frames := 1, cells := 0, slots := 0, locals := 16 } : Room).slots) := by
  refine MetFree.of_bodySF (plainFor_of_name own_pn_java_lang_StringCoding) hisR ?_
  intro p e s m args below meth c s₁ Bd hml0 hP hK
  obtain ⟨rfl, hZ, hh⟩ := hP
  have hx := Bd.exec
  have hby := Bd.bytes
  have hlk := Bd.notSynchronized
  have hml : c.maxLocals = 3 := hml0
  have hown : s.vm.findClass "java/lang/StringCoding" = some m.cls := findClass_of_methodNamed Bd.named
  have hnm := (name_of_methodNamed Bd.named Bd.method).1
  have X0 : Stand p l e ({ frames := 1, cells := 0, slots := 0, locals := 16 } : Room) s m #[(.ref a1), (.int (0 : Int32)), (.int (Int32.ofNat nz))] below meth c s₁ [] 0 0 := Stand.of_body Bd
  have e0 : s₁.heap = h0 := by rw [← hh, Bd.state]; rfl
  have N0 := Fr.nil n0
  show Go p e below (KQ s below (Qhnz Z a1 kb nz h0 n0) ({ frames := 1, cells := 0, slots := 0, locals := 16 } : Room).cells ({ frames := 1, cells := 0, slots := 0, locals := 16 } : Room).slots) _
  refine Go.body (T := s₁) (σ := s₁) (g' := (mkF m 0 #[.val (.ref a1), .val (.int (0 : Int32)), .val (.int (Int32.ofNat nz))] [])) (ef_hnz m a1 (0 : Int32) (Int32.ofNat nz)) ?_
  refine g_aloadN X0 hx (hb hby d36_0) 1 rfl (v := (.ref a1)) rfl rfl ?_
  refine g_iloadN X0 hx (hb hby d36_1) 2 rfl (v := (0 : Int32)) rfl ?_
  refine g_iloadN X0 hx (hb hby d36_2) 3 rfl (v := (Int32.ofNat nz)) rfl ?_
  obtain ⟨_, _, ⟨T186, L186, k186, n186⟩, -, X186, ⟨Lc186, hQ186, l186, y186, z186⟩, st186⟩ := Jvm.LawKit.callS X0 hx (y := (⟨"java/lang/StringCoding", "countPositives", "([BII)I"⟩ : MethodName)) hown (mvT hZ (hw _ (List.mem_of_getElem? (i := 175) rfl))) (mvT hZ (hw _ (List.mem_of_getElem? (i := 176) rfl))) (mvT hZ (hw _ (List.mem_of_getElem? (i := 173) rfl))) (mvT hZ (hw _ (List.mem_of_getElem? (i := 177) rfl))) (by decide) (backOf (W := 0) (rmcpz l Z a0 hw [] a1 kb nz h0 n0 Z0 A_a1 hn) hZ (hw _ (List.mem_of_getElem? (i := 177) rfl)) (hw _ (List.mem_of_getElem? (i := 173) rfl)) (by decide) (by decide)) (g := (mkF m 3 #[.val (.ref a1), .val (.int (0 : Int32)), .val (.int (Int32.ofNat nz))] [(.int (Int32.ofNat nz)), (.int (0 : Int32)), (.ref a1)])) rfl (by rw [hml]; rfl) (argsL := [(.ref a1), (.int (0 : Int32)), (.int (Int32.ofNat nz))]) (rest := []) (lenOf own_pd21 rfl) rfl (by show 2 * 0 + _ ≤ _; exact Nat.le_of_eq rfl) (hb hby d36_3) (fun _ _ => ⟨rfl, e0, (by decide : 0 + 0 ≤ _), (by decide : 0 + 0 ≤ _)⟩)
  dsimp only [Pt.U, Pt.locs, Pt.cells, Pt.slots] at X186 l186 y186 z186 st186 hQ186
  subst l186 y186 z186
  obtain ⟨rfl, Nq186, e186⟩ := hQ186
  refine Go.st st186 ?_
  have N186 := Fr.app N0 Nq186
  show Go p e below _ (T186.setTop (mkF m 6 #[.val (.ref a1), .val (.int (0 : Int32)), .val (.int (Int32.ofNat nz))] [(.int (Int32.ofNat nz))]))
  refine g_iloadN X186 hx (hb hby d36_6) 7 rfl (v := (Int32.ofNat nz)) rfl ?_
  refine g_icmp_eq X186 hx (hb hby d36_7) 14 10 (by decide) (by decide) rfl (fun hc7 => ?_) (fun hc7 => False.elim (hc7 rfl))
  refine g_iconst X186 hx (hb hby d36_14) 15 rfl (0 : Int32) rfl ?_
  refine Go.retN X186 hx hlk (t := .boolean) Bd.returns (by simp) (hb hby d36_15) (by decide) (by decide) ?_
  show Qhnz Z a1 kb nz h0 n0 _ T186.heap _
  rw [e186]
  exact ⟨rfl, N186, rfl⟩
theorem ef_enc8 (m : MethodId) (x0 : Int32) (x1 : Addr) (x2 : Int32) : entryFrame m #[(.int x0), (.ref x1), (.int x2)] 9 = mkF m 0 #[.val (.int x0), .val (.ref x1), .val (.int x2), .unset, .unset, .unset, .unset, .unset, .unset] [] := by first | (simp [entryFrame, mkF, argsToLocals, Value.category]; done) | rfl
theorem d35_0 : decode jdk_42_method_46_code 0 = .ok (.iload_n 0, 1) := by decide +kernel
theorem d35_1 : decode jdk_42_method_46_code 1 = .ok (.iconst 1, 1) := by decide +kernel
theorem d35_2 : decode jdk_42_method_46_code 2 = .ok (.if_icmp .ne 9, 3) := by decide +kernel
theorem d35_11 : decode jdk_42_method_46_code 11 = .ok (.aload_n 1, 1) := by decide +kernel
theorem d35_12 : decode jdk_42_method_46_code 12 = .ok (.iconst 0, 1) := by decide +kernel
theorem d35_13 : decode jdk_42_method_46_code 13 = .ok (.aload_n 1, 1) := by decide +kernel
theorem d35_14 : decode jdk_42_method_46_code 14 = .ok (.arraylength, 1) := by decide +kernel
theorem own_pd22 : parseMethodDescriptor "([BII)Z" = some ⟨[(.array .byte), .int, .int], some .boolean⟩ := by decide +kernel
theorem d35_15 : decode jdk_42_method_46_code 15 = .ok (.invokestatic 128, 3) := by decide +kernel
theorem d35_18 : decode jdk_42_method_46_code 18 = .ok (.ifCond .ne 11, 3) := by decide +kernel
theorem d35_21 : decode jdk_42_method_46_code 21 = .ok (.aload_n 1, 1) := by decide +kernel
theorem d35_22 : decode jdk_42_method_46_code 22 = .ok (.invokevirtual 279, 3) := by decide +kernel
theorem d35_25 : decode jdk_42_method_46_code 25 = .ok (.checkcast 280, 3) := by decide +kernel
theorem d35_28 : decode jdk_42_method_46_code 28 = .ok (.areturn, 1) := by decide +kernel
def Qenc8 (Z : State) (a2 : Addr) (kb : ClassId) (nz : Nat) (h0 : Heap) (n0 : Nat) (v : Option Value) (h : Heap) (L : List Loc) : Prop := ∃ b : Addr, v = some (.ref b) ∧ Fr n0 L ∧ Keep h0 h [] ∧ h0.size ≤ b ∧ (Arv Z h b kb .byte (Int32.ofNat nz) (List.replicate nz (.int (0 : Int32))) (.int (0 : Int32)))
set_option maxRecDepth 65536 in
set_option maxHeartbeats 40000000 in
theorem rmenc8 (l : Launch) (Z : State) (a0 : Array Value) (hw : ∀ d ∈ tables_1, d.before a0 Z = true) (ws : List Jvm.Cond) (a2 : Addr) (kb : ClassId) (nz : Nat) (h0 : Heap) (n0 : Nat) (Z0 : n0 ≤ h0.size) (E_a2 : Exa Z h0 a2 "[B") (A_a2 : Arv Z h0 a2 kb .byte (Int32.ofNat nz) (List.replicate nz (.int (0 : Int32))) (.int (0 : Int32))) (hn : nz ≤ 4095) :
    MetFree l (⟨"java/lang/String", "encodeUTF8", "(B[BZ)[B"⟩ : MethodName) (head1 (Jvm.Cond.code (⟨"java/lang/String", "encodeUTF8", "(B[BZ)[B"⟩ : MethodName) jdk_42_method_46_code 9 (some (.array .byte)) :: ws) ({ frames := 2, cells := 1, slots := 4095, locals := 30 } : Room)) (fun a U => a = #[(.int (0 : Int32)), (.ref a2), (.int (1 : Int32))] ∧ Z.Warmed39 U.vm ∧ U.heap = h0) (fun _ _ _ _ _ => True) (fun _ U o U' => ∃ v L, o = .returned v ∧ Qenc8 Z a2 kb nz h0 n0 v U'.heap L ∧ FrameEnd U o U' L ({ frames := 2, cells := 1, slots := 4095, locals := 30 } : Room).cells ({ frames := 2, cells := 1, slots := 4095, locals := 30 } : Room).slots) := by
  refine MetFree.of_bodySF (plainFor_of_name own_pn_java_lang_String) hisR ?_
  intro p e s m args below meth c s₁ Bd hml0 hP hK
  obtain ⟨rfl, hZ, hh⟩ := hP
  have hx := Bd.exec
  have hby := Bd.bytes
  have hlk := Bd.notSynchronized
  have hml : c.maxLocals = 9 := hml0
  have hown : s.vm.findClass "java/lang/String" = some m.cls := findClass_of_methodNamed Bd.named
  have hnm := (name_of_methodNamed Bd.named Bd.method).1
  have X0 : Stand p l e ({ frames := 2, cells := 1, slots := 4095, locals := 30 } : Room) s m #[(.int (0 : Int32)), (.ref a2), (.int (1 : Int32))] below meth c s₁ [] 0 0 := Stand.of_body Bd
  have e0 : s₁.heap = h0 := by rw [← hh, Bd.state]; rfl
  have N0 := Fr.nil n0
  have K0 : Keep h0 h0 [] := Keep.refl _ _
  show Go p e below (KQ s below (Qenc8 Z a2 kb nz h0 n0) ({ frames := 2, cells := 1, slots := 4095, locals := 30 } : Room).cells ({ frames := 2, cells := 1, slots := 4095, locals := 30 } : Room).slots) _
  refine Go.body (T := s₁) (σ := s₁) (g' := (mkF m 0 #[.val (.int (0 : Int32)), .val (.ref a2), .val (.int (1 : Int32)), .unset, .unset, .unset, .unset, .unset, .unset] [])) (ef_enc8 m (0 : Int32) a2 (1 : Int32)) ?_
  refine g_iloadN X0 hx (hb hby d35_0) 1 rfl (v := (0 : Int32)) rfl ?_
  refine g_iconst X0 hx (hb hby d35_1) 2 rfl (1 : Int32) rfl ?_
  refine g_icmp_ne X0 hx (hb hby d35_2) 11 5 (by decide) (by decide) rfl (fun hc2 => ?_) (fun hc2 => False.elim (absurd hc2 (by decide)))
  refine g_aloadN X0 hx (hb hby d35_11) 12 rfl (v := (.ref a2)) rfl rfl ?_
  refine g_iconst X0 hx (hb hby d35_12) 13 rfl (0 : Int32) rfl ?_
  refine g_aloadN X0 hx (hb hby d35_13) 14 rfl (v := (.ref a2)) rfl rfl ?_
  refine g_alen X0 hx (hb hby d35_14) 15 rfl hZ e0 A_a2 ?_
  obtain ⟨_, _, ⟨T188, L188, k188, n188⟩, -, X188, ⟨Lc188, hQ188, l188, y188, z188⟩, st188⟩ := Jvm.LawKit.callS X0 hx (y := (⟨"java/lang/StringCoding", "hasNegatives", "([BII)Z"⟩ : MethodName)) hown (mvT hZ (hw _ (List.mem_of_getElem? (i := 171) rfl))) (mvT hZ (hw _ (List.mem_of_getElem? (i := 172) rfl))) (mvT hZ (hw _ (List.mem_of_getElem? (i := 173) rfl))) (mvT hZ (hw _ (List.mem_of_getElem? (i := 174) rfl))) (by decide) (backOf (W := 0) (rmhnz l Z a0 hw [] a2 kb nz h0 n0 Z0 A_a2 hn) hZ (hw _ (List.mem_of_getElem? (i := 174) rfl)) (hw _ (List.mem_of_getElem? (i := 173) rfl)) (by decide) (by decide)) (g := (mkF m 15 #[.val (.int (0 : Int32)), .val (.ref a2), .val (.int (1 : Int32)), .unset, .unset, .unset, .unset, .unset, .unset] [(.int (Int32.ofNat nz)), (.int (0 : Int32)), (.ref a2)])) rfl (by rw [hml]; rfl) (argsL := [(.ref a2), (.int (0 : Int32)), (.int (Int32.ofNat nz))]) (rest := []) (lenOf own_pd22 rfl) rfl (by show 2 * 0 + _ ≤ _; exact Nat.le_of_eq rfl) (hb hby d35_15) (fun _ _ => ⟨rfl, e0, (by decide : 0 + 0 ≤ _), (by decide : 0 + 0 ≤ _)⟩)
  dsimp only [Pt.U, Pt.locs, Pt.cells, Pt.slots] at X188 l188 y188 z188 st188 hQ188
  subst l188 y188 z188
  obtain ⟨rfl, Nq188, e188⟩ := hQ188
  refine Go.st st188 ?_
  have N188 := Fr.app N0 Nq188
  show Go p e below _ (T188.setTop (mkF m 18 #[.val (.int (0 : Int32)), .val (.ref a2), .val (.int (1 : Int32)), .unset, .unset, .unset, .unset, .unset, .unset] [(.int (0 : Int32))]))
  refine g_if_ne X188 hx (hb hby d35_18) 29 21 (by decide) (by decide) rfl (fun hc18 => False.elim (hc18 rfl)) (fun hc18 => ?_)
  refine g_aloadN X188 hx (hb hby d35_21) 22 rfl (v := (.ref a2)) rfl rfl ?_
  obtain ⟨T189, h189, X189, e189, E189, A189, D189, st189⟩ := cloneH X188 hx hZ hown (hw _ (List.mem_of_getElem? (i := 178) rfl)) (hw _ (List.mem_of_getElem? (i := 179) rfl)) (hw _ (List.mem_of_getElem? (i := 183) rfl)) (hw _ (List.mem_of_getElem? (i := 181) rfl)) (hw _ (List.mem_of_getElem? (i := 182) rfl)) (hw _ (List.mem_of_getElem? (i := 184) rfl)) e188 (Arv.arh A_a2) E_a2 (g := (mkF m 22 #[.val (.int (0 : Int32)), .val (.ref a2), .val (.int (1 : Int32)), .unset, .unset, .unset, .unset, .unset, .unset] [(.ref a2)])) rfl (by rw [hml]; rfl) rfl (hb hby d35_22) (by decide) (W := 0) (cap := 4095) (by show 2 * 0 + _ ≤ _; exact Nat.le_of_eq rfl) (by decide) (by rw [own_cl (by omega)]; omega) (by decide) (by decide)
  refine Go.st st189 ?_
  obtain ⟨ob, q189⟩ : ∃ z, z = h0.size := ⟨_, rfl⟩
  rw [← q189] at A189 D189 ⊢
  have g_ob : n0 ≤ ob := Nat.le_trans Z0 (Nat.le_of_eq q189.symm)
  have mh_ob : h0.size ≤ ob := Nat.le_trans K0.1 (Nat.le_of_eq q189.symm)
  have Av_ob : Arv Z h189 ob kb .byte (Int32.ofNat nz) (List.replicate nz (.int (0 : Int32))) (.int (0 : Int32)) := A189
  have K189 : Keep h0 h189 [] := Keep.ext K0 E189
  have Zs189 : n0 ≤ h189.size := Nat.le_trans Z0 E189.1
  show Go p e below _ (T189.setTop (mkF m 25 #[.val (.int (0 : Int32)), .val (.ref a2), .val (.int (1 : Int32)), .unset, .unset, .unset, .unset, .unset, .unset] [(.ref ob)]))
  obtain ⟨T191, X191, e191, st191⟩ := castY X189 hx hZ hown (hw _ (List.mem_of_getElem? (i := 185) rfl)) e189 (Ins.self D189) (g := (mkF m 25 #[.val (.int (0 : Int32)), .val (.ref a2), .val (.int (1 : Int32)), .unset, .unset, .unset, .unset, .unset, .unset] [(.ref ob)])) rfl rfl (hb hby d35_25)
  refine Go.st st191 ?_
  show Go p e below _ (T191.setTop (mkF m 28 #[.val (.int (0 : Int32)), .val (.ref a2), .val (.int (1 : Int32)), .unset, .unset, .unset, .unset, .unset, .unset] [(.ref ob)]))
  refine Go.retA X191 hx hlk Bd.returns rfl rfl (hb hby d35_28) (by decide) (by decide) ?_
  show Qenc8 Z a2 kb nz h0 n0 _ T191.heap _
  rw [e191]
  exact ⟨ob, rfl, N188, K189, mh_ob, Av_ob⟩
theorem ef_enc (m : MethodId) (x0 : Addr) (x1 : Int32) (x2 : Addr) : entryFrame m #[(.ref x0), (.int x1), (.ref x2)] 3 = mkF m 0 #[.val (.ref x0), .val (.int x1), .val (.ref x2)] [] := by first | (simp [entryFrame, mkF, argsToLocals, Value.category]; done) | rfl
theorem d34_0 : decode jdk_42_method_18_code 0 = .ok (.aload_n 0, 1) := by decide +kernel
theorem d34_1 : decode jdk_42_method_18_code 1 = .ok (.getstatic 86, 3) := by decide +kernel
theorem d34_4 : decode jdk_42_method_18_code 4 = .ok (.if_acmp .ne 10, 3) := by decide +kernel
theorem d34_7 : decode jdk_42_method_18_code 7 = .ok (.iload_n 1, 1) := by decide +kernel
theorem d34_8 : decode jdk_42_method_18_code 8 = .ok (.aload_n 2, 1) := by decide +kernel
theorem d34_9 : decode jdk_42_method_18_code 9 = .ok (.iconst 1, 1) := by decide +kernel
theorem own_pd23 : parseMethodDescriptor "(B[BZ)[B" = some ⟨[.byte, (.array .byte), .boolean], some (.array .byte)⟩ := by decide +kernel
theorem d34_10 : decode jdk_42_method_18_code 10 = .ok (.invokestatic 252, 3) := by decide +kernel
theorem d34_13 : decode jdk_42_method_18_code 13 = .ok (.areturn, 1) := by decide +kernel
def Qenc (Z : State) (a1 : Addr) (a3 : Addr) (kb : ClassId) (nz : Nat) (h0 : Heap) (n0 : Nat) (v : Option Value) (h : Heap) (L : List Loc) : Prop := ∃ b : Addr, v = some (.ref b) ∧ Fr n0 L ∧ Keep h0 h [] ∧ h0.size ≤ b ∧ (Arv Z h b kb .byte (Int32.ofNat nz) (List.replicate nz (.int (0 : Int32))) (.int (0 : Int32)))
set_option maxRecDepth 65536 in
set_option maxHeartbeats 40000000 in
theorem rmenc (l : Launch) (Z : State) (a0 : Array Value) (hw : ∀ d ∈ tables_1, d.before a0 Z = true) (ws : List Jvm.Cond) (a1 : Addr) (a3 : Addr) (kb : ClassId) (nz : Nat) (h0 : Heap) (n0 : Nat) (Z0 : n0 ≤ h0.size) (S_INSTANCE : Sta Z h0 "sun/nio/cs/UTF_8" "INSTANCE" "Lsun/nio/cs/UTF_8;" (.ref a1)) (E_a3 : Exa Z h0 a3 "[B") (A_a3 : Arv Z h0 a3 kb .byte (Int32.ofNat nz) (List.replicate nz (.int (0 : Int32))) (.int (0 : Int32))) (hn : nz ≤ 4095) :
    MetFree l (⟨"java/lang/String", "encode", "(Ljava/nio/charset/Charset;B[B)[B"⟩ : MethodName) (head1 (Jvm.Cond.code (⟨"java/lang/String", "encode", "(Ljava/nio/charset/Charset;B[B)[B"⟩ : MethodName) jdk_42_method_18_code 3 (some (.array .byte)) :: ws) ({ frames := 3, cells := 1, slots := 4095, locals := 50 } : Room)) (fun a U => a = #[(.ref a1), (.int (0 : Int32)), (.ref a3)] ∧ Z.Warmed39 U.vm ∧ U.heap = h0) (fun _ _ _ _ _ => True) (fun _ U o U' => ∃ v L, o = .returned v ∧ Qenc Z a1 a3 kb nz h0 n0 v U'.heap L ∧ FrameEnd U o U' L ({ frames := 3, cells := 1, slots := 4095, locals := 50 } : Room).cells ({ frames := 3, cells := 1, slots := 4095, locals := 50 } : Room).slots) := by
  refine MetFree.of_bodySF (plainFor_of_name own_pn_java_lang_String) hisR ?_
  intro p e s m args below meth c s₁ Bd hml0 hP hK
  obtain ⟨rfl, hZ, hh⟩ := hP
  have hx := Bd.exec
  have hby := Bd.bytes
  have hlk := Bd.notSynchronized
  have hml : c.maxLocals = 3 := hml0
  have hown : s.vm.findClass "java/lang/String" = some m.cls := findClass_of_methodNamed Bd.named
  have hnm := (name_of_methodNamed Bd.named Bd.method).1
  have X0 : Stand p l e ({ frames := 3, cells := 1, slots := 4095, locals := 50 } : Room) s m #[(.ref a1), (.int (0 : Int32)), (.ref a3)] below meth c s₁ [] 0 0 := Stand.of_body Bd
  have e0 : s₁.heap = h0 := by rw [← hh, Bd.state]; rfl
  have N0 := Fr.nil n0
  have K0 : Keep h0 h0 [] := Keep.refl _ _
  show Go p e below (KQ s below (Qenc Z a1 a3 kb nz h0 n0) ({ frames := 3, cells := 1, slots := 4095, locals := 50 } : Room).cells ({ frames := 3, cells := 1, slots := 4095, locals := 50 } : Room).slots) _
  refine Go.body (T := s₁) (σ := s₁) (g' := (mkF m 0 #[.val (.ref a1), .val (.int (0 : Int32)), .val (.ref a3)] [])) (ef_enc m a1 (0 : Int32) a3) ?_
  refine g_aloadN X0 hx (hb hby d34_0) 1 rfl (v := (.ref a1)) rfl rfl ?_
  obtain ⟨T192, X192, e192, st192⟩ := getS2 X0 hx hZ hown (host := "") (Or.inl (hw _ (List.mem_of_getElem? (i := 166) rfl))) Via.refl e0 S_INSTANCE (g := (mkF m 1 #[.val (.ref a1), .val (.int (0 : Int32)), .val (.ref a3)] [(.ref a1)])) rfl (hb hby d34_1)
  refine Go.st st192 ?_
  show Go p e below _ (T192.setTop (mkF m 4 #[.val (.ref a1), .val (.int (0 : Int32)), .val (.ref a3)] [(.ref a1), (.ref a1)]))
  refine g_acmp_ne X192 hx (hb hby d34_4) 14 7 (by decide) (by decide) rfl rfl rfl (fun hc4 => False.elim (hc4 rfl)) (fun hc4 => ?_)
  refine g_iloadN X192 hx (hb hby d34_7) 8 rfl (v := (0 : Int32)) rfl ?_
  refine g_aloadN X192 hx (hb hby d34_8) 9 rfl (v := (.ref a3)) rfl rfl ?_
  refine g_iconst X192 hx (hb hby d34_9) 10 rfl (1 : Int32) rfl ?_
  obtain ⟨_, _, ⟨T193, L193, k193, n193⟩, -, X193, ⟨Lc193, hQ193, l193, y193, z193⟩, st193⟩ := Jvm.LawKit.callS X192 hx (y := (⟨"java/lang/String", "encodeUTF8", "(B[BZ)[B"⟩ : MethodName)) hown (mvT hZ (hw _ (List.mem_of_getElem? (i := 168) rfl))) (mvT hZ (hw _ (List.mem_of_getElem? (i := 169) rfl))) (mvT hZ (hw _ (List.mem_of_getElem? (i := 2) rfl))) (mvT hZ (hw _ (List.mem_of_getElem? (i := 170) rfl))) (by decide) (backOf (W := 0) (rmenc8 l Z a0 hw [] a3 kb nz h0 n0 Z0 E_a3 A_a3 hn) hZ (hw _ (List.mem_of_getElem? (i := 170) rfl)) (hw _ (List.mem_of_getElem? (i := 2) rfl)) (by decide) (by decide)) (g := (mkF m 10 #[.val (.ref a1), .val (.int (0 : Int32)), .val (.ref a3)] [(.int (1 : Int32)), (.ref a3), (.int (0 : Int32))])) rfl (by rw [hml]; rfl) (argsL := [(.int (0 : Int32)), (.ref a3), (.int (1 : Int32))]) (rest := []) (lenOf own_pd23 rfl) rfl (by show 2 * 0 + _ ≤ _; exact Nat.le_of_eq rfl) (hb hby d34_10) (fun _ _ => ⟨rfl, e192, (by decide : 0 + 1 ≤ _), (by decide : 0 + 4095 ≤ _)⟩)
  dsimp only [Pt.U, Pt.locs, Pt.cells, Pt.slots] at X193 l193 y193 z193 st193 hQ193
  subst l193 y193 z193
  obtain ⟨ob, rfl, Nq193, Kq193, f193_0, f193_1⟩ := hQ193
  refine Go.st st193 ?_
  have N193 := Fr.app N0 Nq193
  have g_ob : n0 ≤ ob := Nat.le_trans Z0 f193_0
  have mh_ob : h0.size ≤ ob := Nat.le_trans K0.1 f193_0
  have K193 : Keep h0 T193.heap [] := Keep.trans K0 Kq193 all0
  have Zs193 : n0 ≤ T193.heap.size := Nat.le_trans Z0 Kq193.1
  show Go p e below _ (T193.setTop (mkF m 13 #[.val (.ref a1), .val (.int (0 : Int32)), .val (.ref a3)] [(.ref ob)]))
  refine Go.retA X193 hx hlk Bd.returns rfl rfl (hb hby d34_13) (by decide) (by decide) ?_
  show Qenc Z a1 a3 kb nz h0 n0 _ T193.heap _
  exact ⟨ob, rfl, N193, K193, mh_ob, f193_1⟩
theorem ef_gby (m : MethodId) (x0 : Addr) (x1 : Addr) : entryFrame m #[(.ref x0), (.ref x1)] 2 = mkF m 0 #[.val (.ref x0), .val (.ref x1)] [] := by first | (simp [entryFrame, mkF, argsToLocals, Value.category]; done) | rfl
theorem d33_0 : decode jdk_42_method_64_code 0 = .ok (.aload_n 1, 1) := by decide +kernel
theorem d33_1 : decode jdk_42_method_64_code 1 = .ok (.ifnonnull 11, 3) := by decide +kernel
theorem d33_12 : decode jdk_42_method_64_code 12 = .ok (.aload_n 1, 1) := by decide +kernel
theorem d33_13 : decode jdk_42_method_64_code 13 = .ok (.aload_n 0, 1) := by decide +kernel
theorem d33_14 : decode jdk_42_method_64_code 14 = .ok (.invokevirtual 335, 3) := by decide +kernel
theorem d33_17 : decode jdk_42_method_64_code 17 = .ok (.aload_n 0, 1) := by decide +kernel
theorem d33_18 : decode jdk_42_method_64_code 18 = .ok (.getfield 9, 3) := by decide +kernel
theorem own_pd24 : parseMethodDescriptor "(Ljava/nio/charset/Charset;B[B)[B" = some ⟨[(.object "java/nio/charset/Charset"), .byte, (.array .byte)], some (.array .byte)⟩ := by decide +kernel
theorem d33_21 : decode jdk_42_method_64_code 21 = .ok (.invokestatic 535, 3) := by decide +kernel
theorem d33_24 : decode jdk_42_method_64_code 24 = .ok (.areturn, 1) := by decide +kernel
def Qgby (Z : State) (a1 : Addr) (a2 : Addr) (cs : Int32) (vb : Addr) (kb : ClassId) (nz : Nat) (h0 : Heap) (n0 : Nat) (v : Option Value) (h : Heap) (L : List Loc) : Prop := ∃ b : Addr, v = some (.ref b) ∧ Fr n0 L ∧ Keep h0 h [] ∧ h0.size ≤ b ∧ (Arv Z h b kb .byte (Int32.ofNat nz) (List.replicate nz (.int (0 : Int32))) (.int (0 : Int32)))
set_option maxRecDepth 65536 in
set_option maxHeartbeats 40000000 in
theorem rmgby (l : Launch) (Z : State) (a0 : Array Value) (hw : ∀ d ∈ tables_1, d.before a0 Z = true) (ws : List Jvm.Cond) (a1 : Addr) (a2 : Addr) (cs : Int32) (vb : Addr) (kb : ClassId) (nz : Nat) (h0 : Heap) (n0 : Nat) (Z0 : n0 ≤ h0.size) (S_COMPACT_STRINGS : Sta Z h0 "java/lang/String" "COMPACT_STRINGS" "Z" (.int cs)) (S_INSTANCE : Sta Z h0 "sun/nio/cs/UTF_8" "INSTANCE" "Lsun/nio/cs/UTF_8;" (.ref a2)) (E_a1 : Exa Z h0 a1 "java/lang/String") (F_value_a1 : Fld Z h0 a1 "java/lang/String" "value" "[B" (.ref vb)) (F_coder_a1 : Fld Z h0 a1 "java/lang/String" "coder" "B" (.int (0 : Int32))) (A_vb : Arv Z h0 vb kb .byte (Int32.ofNat nz) (List.replicate nz (.int (0 : Int32))) (.int (0 : Int32))) (E_vb : Exa Z h0 vb "[B") (hcs : ¬ cs = 0) (hn : nz ≤ 4095) :
    MetFree l (⟨"java/lang/String", "getBytes", "(Ljava/nio/charset/Charset;)[B"⟩ : MethodName) (head1 (Jvm.Cond.code (⟨"java/lang/String", "getBytes", "(Ljava/nio/charset/Charset;)[B"⟩ : MethodName) jdk_42_method_64_code 2 (some (.array .byte)) :: ws) ({ frames := 4, cells := 1, slots := 4095, locals := 64 } : Room)) (fun a U => a = #[(.ref a1), (.ref a2)] ∧ Z.Warmed39 U.vm ∧ U.heap = h0) (fun _ _ _ _ _ => True) (fun _ U o U' => ∃ v L, o = .returned v ∧ Qgby Z a1 a2 cs vb kb nz h0 n0 v U'.heap L ∧ FrameEnd U o U' L ({ frames := 4, cells := 1, slots := 4095, locals := 64 } : Room).cells ({ frames := 4, cells := 1, slots := 4095, locals := 64 } : Room).slots) := by
  refine MetFree.of_bodySF (plainFor_of_name own_pn_java_lang_String) hisR ?_
  intro p e s m args below meth c s₁ Bd hml0 hP hK
  obtain ⟨rfl, hZ, hh⟩ := hP
  have hx := Bd.exec
  have hby := Bd.bytes
  have hlk := Bd.notSynchronized
  have hml : c.maxLocals = 2 := hml0
  have hown : s.vm.findClass "java/lang/String" = some m.cls := findClass_of_methodNamed Bd.named
  have hnm := (name_of_methodNamed Bd.named Bd.method).1
  have X0 : Stand p l e ({ frames := 4, cells := 1, slots := 4095, locals := 64 } : Room) s m #[(.ref a1), (.ref a2)] below meth c s₁ [] 0 0 := Stand.of_body Bd
  have e0 : s₁.heap = h0 := by rw [← hh, Bd.state]; rfl
  have N0 := Fr.nil n0
  have K0 : Keep h0 h0 [] := Keep.refl _ _
  show Go p e below (KQ s below (Qgby Z a1 a2 cs vb kb nz h0 n0) ({ frames := 4, cells := 1, slots := 4095, locals := 64 } : Room).cells ({ frames := 4, cells := 1, slots := 4095, locals := 64 } : Room).slots) _
  refine Go.body (T := s₁) (σ := s₁) (g' := (mkF m 0 #[.val (.ref a1), .val (.ref a2)] [])) (ef_gby m a1 a2) ?_
  refine g_aloadN X0 hx (hb hby d33_0) 1 rfl (v := (.ref a2)) rfl rfl ?_
  refine g_ifnonnullY X0 hx (hb hby d33_1) 12 (by decide) (by decide) ?_
  refine g_aloadN X0 hx (hb hby d33_12) 13 rfl (v := (.ref a2)) rfl rfl ?_
  refine g_aloadN X0 hx (hb hby d33_13) 14 rfl (v := (.ref a1)) rfl rfl ?_
  obtain ⟨cq195, kq195, q195a, q195b, q195c⟩ := isOf hZ e0 E_a1
  obtain ⟨_, _, ⟨T195, L195, k195, n195⟩, -, X195, ⟨Lc195, hQ195, l195, y195, z195⟩, st195⟩ := X0.virtualBack hx (y := (⟨"java/lang/String", "coder", "()B"⟩ : MethodName)) (z := (⟨"java/lang/String", "coder", "()B"⟩ : MethodName)) hown (mvT hZ (hw _ (List.mem_of_getElem? (i := 91) rfl))) (mvT hZ (hw _ (List.mem_of_getElem? (i := 92) rfl))) (notFace_of_selects (args := #[]) (mvT hZ (hw _ (List.mem_of_getElem? (i := 94) rfl)))) (mvT hZ (hw _ (List.mem_of_getElem? (i := 94) rfl))) (mvT hZ (hw _ (List.mem_of_getElem? (i := 93) rfl))) (by decide) (backOf (W := 1) (rm19 l Z a0 hw [] a1 cs h0 n0 Z0 S_COMPACT_STRINGS F_coder_a1 hcs) hZ (hw _ (List.mem_of_getElem? (i := 95) rfl)) (hw _ (List.mem_of_getElem? (i := 2) rfl)) (by decide) (by decide)) q195a q195c (g := (mkF m 14 #[.val (.ref a1), .val (.ref a2)] [(.ref a1), (.ref a2)])) rfl (by rw [hml]; rfl) (Steps.refl _) (argsL := []) (rest := [(.ref a2)]) (lenOf own_pd4 rfl) rfl (by show 2 * 0 + _ ≤ _; exact Nat.le_of_eq rfl) (hb hby d33_14) (fun _ _ => ⟨rfl, e0, (by decide : 0 + 0 ≤ _), (by decide : 0 + 0 ≤ _)⟩)
  dsimp only [Pt.U, Pt.locs, Pt.cells, Pt.slots] at X195 l195 y195 z195 st195 hQ195
  subst l195 y195 z195
  obtain ⟨rfl, Nq195, e195⟩ := hQ195
  refine Go.tr st195 ?_
  have N195 := Fr.app N0 Nq195
  show Go p e below _ (T195.setTop (mkF m 17 #[.val (.ref a1), .val (.ref a2)] [(.int (0 : Int32)), (.ref a2)]))
  refine g_aloadN X195 hx (hb hby d33_17) 18 rfl (v := (.ref a1)) rfl rfl ?_
  obtain ⟨T196, X196, e196, st196⟩ := getF X195 hx hZ hown (host := "") (Or.inl (hw _ (List.mem_of_getElem? (i := 28) rfl))) Via.refl e195 F_value_a1 (g := (mkF m 18 #[.val (.ref a1), .val (.ref a2)] [(.ref a1), (.int (0 : Int32)), (.ref a2)])) rfl rfl (hb hby d33_18)
  refine Go.st st196 ?_
  show Go p e below _ (T196.setTop (mkF m 21 #[.val (.ref a1), .val (.ref a2)] [(.ref vb), (.int (0 : Int32)), (.ref a2)]))
  obtain ⟨_, _, ⟨T197, L197, k197, n197⟩, -, X197, ⟨Lc197, hQ197, l197, y197, z197⟩, st197⟩ := Jvm.LawKit.callS X196 hx (y := (⟨"java/lang/String", "encode", "(Ljava/nio/charset/Charset;B[B)[B"⟩ : MethodName)) hown (mvT hZ (hw _ (List.mem_of_getElem? (i := 163) rfl))) (mvT hZ (hw _ (List.mem_of_getElem? (i := 164) rfl))) (mvT hZ (hw _ (List.mem_of_getElem? (i := 2) rfl))) (mvT hZ (hw _ (List.mem_of_getElem? (i := 165) rfl))) (by decide) (backOf (W := 0) (rmenc l Z a0 hw [] a2 vb kb nz h0 n0 Z0 S_INSTANCE E_vb A_vb hn) hZ (hw _ (List.mem_of_getElem? (i := 165) rfl)) (hw _ (List.mem_of_getElem? (i := 2) rfl)) (by decide) (by decide)) (g := (mkF m 21 #[.val (.ref a1), .val (.ref a2)] [(.ref vb), (.int (0 : Int32)), (.ref a2)])) rfl (by rw [hml]; rfl) (argsL := [(.ref a2), (.int (0 : Int32)), (.ref vb)]) (rest := []) (lenOf own_pd24 rfl) rfl (by show 2 * 0 + _ ≤ _; exact Nat.le_of_eq rfl) (hb hby d33_21) (fun _ _ => ⟨rfl, e196, (by decide : 0 + 1 ≤ _), (by decide : 0 + 4095 ≤ _)⟩)
  dsimp only [Pt.U, Pt.locs, Pt.cells, Pt.slots] at X197 l197 y197 z197 st197 hQ197
  subst l197 y197 z197
  obtain ⟨ob, rfl, Nq197, Kq197, f197_0, f197_1⟩ := hQ197
  refine Go.st st197 ?_
  have N197 := Fr.app N195 Nq197
  have g_ob : n0 ≤ ob := Nat.le_trans Z0 f197_0
  have mh_ob : h0.size ≤ ob := Nat.le_trans K0.1 f197_0
  have K197 : Keep h0 T197.heap [] := Keep.trans K0 Kq197 all0
  have Zs197 : n0 ≤ T197.heap.size := Nat.le_trans Z0 Kq197.1
  show Go p e below _ (T197.setTop (mkF m 24 #[.val (.ref a1), .val (.ref a2)] [(.ref ob)]))
  refine Go.retA X197 hx hlk Bd.returns rfl rfl (hb hby d33_24) (by decide) (by decide) ?_
  show Qgby Z a1 a2 cs vb kb nz h0 n0 _ T197.heap _
  exact ⟨ob, rfl, N197, K197, mh_ob, f197_1⟩
theorem ef_putB (m : MethodId) (x0 : Addr) (x1 : Addr) (x2 : Addr) : entryFrame m #[(.ref x0), (.ref x1), (.ref x2)] 8 = mkF m 0 #[.val (.ref x0), .val (.ref x1), .val (.ref x2), .unset, .unset, .unset, .unset, .unset] [] := by first | (simp [entryFrame, mkF, argsToLocals, Value.category]; done) | rfl
theorem d20_0 : decode prog_9_method_12_code 0 = .ok (.aload_n 1, 1) := by decide +kernel
theorem d20_1 : decode prog_9_method_12_code 1 = .ok (.invokevirtual 15, 3) := by decide +kernel
theorem d20_4 : decode prog_9_method_12_code 4 = .ok (.istore_n 3, 1) := by decide +kernel
theorem d20_5 : decode prog_9_method_12_code 5 = .ok (.iload_n 3, 1) := by decide +kernel
theorem d20_6 : decode prog_9_method_12_code 6 = .ok (.bipush 16, 2) := by decide +kernel
theorem d20_8 : decode prog_9_method_12_code 8 = .ok (.if_icmp .lt 50, 3) := by decide +kernel
theorem d20_11 : decode prog_9_method_12_code 11 = .ok (.aload_n 2, 1) := by decide +kernel
theorem d20_12 : decode prog_9_method_12_code 12 = .ok (.aload_n 1, 1) := by decide +kernel
theorem own_pd25 : parseMethodDescriptor "(Ljava/lang/String;)Z" = some ⟨[(.object "java/lang/String")], some .boolean⟩ := by decide +kernel
theorem d20_13 : decode prog_9_method_12_code 13 = .ok (.invokevirtual 62, 3) := by decide +kernel
theorem d20_16 : decode prog_9_method_12_code 16 = .ok (.ifCond .ne 42, 3) := by decide +kernel
theorem d20_19 : decode prog_9_method_12_code 19 = .ok (.aload_n 1, 1) := by decide +kernel
theorem d20_20 : decode prog_9_method_12_code 20 = .ok (.getstatic 66, 3) := by decide +kernel
theorem own_pd26 : parseMethodDescriptor "(Ljava/nio/charset/Charset;)[B" = some ⟨[(.object "java/nio/charset/Charset")], some (.array .byte)⟩ := by decide +kernel
theorem d20_23 : decode prog_9_method_12_code 23 = .ok (.invokevirtual 72, 3) := by decide +kernel
theorem d20_26 : decode prog_9_method_12_code 26 = .ok (.astore 4, 2) := by decide +kernel
theorem d20_28 : decode prog_9_method_12_code 28 = .ok (.aload 4, 2) := by decide +kernel
theorem d20_30 : decode prog_9_method_12_code 30 = .ok (.iconst 0, 1) := by decide +kernel
theorem d20_31 : decode prog_9_method_12_code 31 = .ok (.aload_n 0, 1) := by decide +kernel
theorem d20_32 : decode prog_9_method_12_code 32 = .ok (.getfield 9, 3) := by decide +kernel
theorem d20_35 : decode prog_9_method_12_code 35 = .ok (.aload_n 0, 1) := by decide +kernel
theorem d20_36 : decode prog_9_method_12_code 36 = .ok (.getfield 29, 3) := by decide +kernel
theorem d20_39 : decode prog_9_method_12_code 39 = .ok (.aload 4, 2) := by decide +kernel
theorem d20_41 : decode prog_9_method_12_code 41 = .ok (.arraylength, 1) := by decide +kernel
theorem d20_42 : decode prog_9_method_12_code 42 = .ok (.invokestatic 76, 3) := by decide +kernel
theorem d20_45 : decode prog_9_method_12_code 45 = .ok (.aload_n 0, 1) := by decide +kernel
theorem d20_46 : decode prog_9_method_12_code 46 = .ok (.dup, 1) := by decide +kernel
theorem d20_47 : decode prog_9_method_12_code 47 = .ok (.getfield 29, 3) := by decide +kernel
theorem d20_50 : decode prog_9_method_12_code 50 = .ok (.aload 4, 2) := by decide +kernel
theorem d20_52 : decode prog_9_method_12_code 52 = .ok (.arraylength, 1) := by decide +kernel
theorem d20_53 : decode prog_9_method_12_code 53 = .ok (.iadd, 1) := by decide +kernel
theorem d20_54 : decode prog_9_method_12_code 54 = .ok (.putfield 29, 3) := by decide +kernel
theorem d20_57 : decode prog_9_method_12_code 57 = .ok (.return_, 1) := by decide +kernel
def QputB (Z : State) (a1 : Addr) (a2 : Addr) (a3 : Addr) (wb : Addr) (kw : ClassId) (bl : Nat) (cs : Int32) (sf : Value) (u8 : Addr) (ca : Addr) (cv : Addr) (kcv : ClassId) (vb : Addr) (kb : ClassId) (nz : Nat) (h0 : Heap) (n0 : Nat) (v : Option Value) (h : Heap) (L : List Loc) : Prop := v = none ∧ Fr n0 L ∧ Keep h0 h [a1, wb] ∧ (Exa Z h a1 "com/example/anagrafe/anagrafe/atom/Markup") ∧ (Fld Z h a1 "com/example/anagrafe/anagrafe/atom/Markup" "bytes" "[B" (.ref wb)) ∧ (Fld Z h a1 "com/example/anagrafe/anagrafe/atom/Markup" "size" "I" (.int (Int32.ofNat nz))) ∧ (Arv Z h wb kw .byte (Int32.ofNat bl) (List.replicate nz (.int (0 : Int32))) (.int (0 : Int32)))
set_option maxRecDepth 65536 in
set_option maxHeartbeats 40000000 in
theorem rmputB (l : Launch) (Z : State) (a0 : Array Value) (hw : ∀ d ∈ tables_1, d.before a0 Z = true) (ws : List Jvm.Cond) (a1 : Addr) (a2 : Addr) (a3 : Addr) (wb : Addr) (kw : ClassId) (bl : Nat) (cs : Int32) (sf : Value) (u8 : Addr) (ca : Addr) (cv : Addr) (kcv : ClassId) (vb : Addr) (kb : ClassId) (nz : Nat) (h0 : Heap) (n0 : Nat) (Z0 : n0 ≤ h0.size) (S_COMPACT_STRINGS : Sta Z h0 "java/lang/String" "COMPACT_STRINGS" "Z" (.int cs)) (S_SIOOBE_FORMATTER : Sta Z h0 "jdk/internal/util/Preconditions" "SIOOBE_FORMATTER" "Ljava/util/function/BiFunction;" sf) (S_INSTANCE : Sta Z h0 "sun/nio/cs/UTF_8" "INSTANCE" "Lsun/nio/cs/UTF_8;" (.ref u8)) (S_UTF_8 : Sta Z h0 "java/nio/charset/StandardCharsets" "UTF_8" "Ljava/nio/charset/Charset;" (.ref u8)) (E_a1 : Exa Z h0 a1 "com/example/anagrafe/anagrafe/atom/Markup") (F_bytes_a1 : Fld Z h0 a1 "com/example/anagrafe/anagrafe/atom/Markup" "bytes" "[B" (.ref wb)) (F_size_a1 : Fld Z h0 a1 "com/example/anagrafe/anagrafe/atom/Markup" "size" "I" (.int (Int32.ofNat 0))) (A_wb : Arv Z h0 wb kw .byte (Int32.ofNat bl) [] (.int (0 : Int32))) (g_a1 : n0 ≤ a1) (g_wb : n0 ≤ wb) (ne_a1_wb : a1 ≠ wb) (E_a2 : Exa Z h0 a2 "java/lang/String") (F_value_a2 : Fld Z h0 a2 "java/lang/String" "value" "[B" (.ref vb)) (F_coder_a2 : Fld Z h0 a2 "java/lang/String" "coder" "B" (.int (0 : Int32))) (A_vb : Arv Z h0 vb kb .byte (Int32.ofNat nz) (List.replicate nz (.int (0 : Int32))) (.int (0 : Int32))) (E_vb : Exa Z h0 vb "[B") (E_a3 : Exa Z h0 a3 "com/example/anagrafe/anagrafe/atom/Markup$Escape") (F_characters_a3 : Fld Z h0 a3 "com/example/anagrafe/anagrafe/atom/Markup$Escape" "characters" "Ljava/lang/String;" (.ref ca)) (E_ca : Exa Z h0 ca "java/lang/String") (F_value_ca : Fld Z h0 ca "java/lang/String" "value" "[B" (.ref cv)) (F_coder_ca : Fld Z h0 ca "java/lang/String" "coder" "B" (.int (0 : Int32))) (A_cv : Arv Z h0 cv kcv .byte (3 : Int32) ([(.int (38 : Int32)), (.int (60 : Int32)), (.int (62 : Int32))]) (.int (0 : Int32))) (ne_a2_a1 : a2 ≠ a1) (ne_vb_a1 : vb ≠ a1) (ne_a3_a1 : a3 ≠ a1) (ne_ca_a1 : ca ≠ a1) (ne_cv_a1 : cv ≠ a1) (ne_a2_wb : a2 ≠ wb) (ne_vb_wb : vb ≠ wb) (ne_a3_wb : a3 ≠ wb) (ne_ca_wb : ca ≠ wb) (ne_cv_wb : cv ≠ wb) (hcs : ¬ cs = 0) (hsf : sf.isRef = true) (hB : 16384 ≤ bl ∧ bl ≤ 32768) (hn : nz ≤ 4095) (h16 : 16 ≤ nz) :
    MetFree l (⟨"com/example/anagrafe/anagrafe/atom/Markup", "put", "(Ljava/lang/String;Lcom/example/anagrafe/anagrafe/atom/Markup$Escape;)V"⟩ : MethodName) (head1 (Jvm.Cond.code (⟨"com/example/anagrafe/anagrafe/atom/Markup", "put", "(Ljava/lang/String;Lcom/example/anagrafe/anagrafe/atom/Markup$Escape;)V"⟩ : MethodName) prog_9_method_12_code 8 none :: ws) ({ frames := 5, cells := 1, slots := 4095, locals := 77 } : Room)) (fun a U => a = #[(.ref a1), (.ref a2), (.ref a3)] ∧ Z.Warmed39 U.vm ∧ U.heap = h0) (fun _ _ _ _ _ => True) (fun _ U o U' => ∃ v L, o = .returned v ∧ QputB Z a1 a2 a3 wb kw bl cs sf u8 ca cv kcv vb kb nz h0 n0 v U'.heap L ∧ FrameEnd U o U' L ({ frames := 5, cells := 1, slots := 4095, locals := 77 } : Room).cells ({ frames := 5, cells := 1, slots := 4095, locals := 77 } : Room).slots) := by
  refine MetFree.of_bodySF (plainFor_of_name own_pn_com_example_anagrafe_anagrafe_atom_Markup) hisR ?_
  intro p e s m args below meth c s₁ Bd hml0 hP hK
  obtain ⟨rfl, hZ, hh⟩ := hP
  have hx := Bd.exec
  have hby := Bd.bytes
  have hlk := Bd.notSynchronized
  have hml : c.maxLocals = 8 := hml0
  have hown : s.vm.findClass "com/example/anagrafe/anagrafe/atom/Markup" = some m.cls := findClass_of_methodNamed Bd.named
  have hnm := (name_of_methodNamed Bd.named Bd.method).1
  have X0 : Stand p l e ({ frames := 5, cells := 1, slots := 4095, locals := 77 } : Room) s m #[(.ref a1), (.ref a2), (.ref a3)] below meth c s₁ [] 0 0 := Stand.of_body Bd
  have e0 : s₁.heap = h0 := by rw [← hh, Bd.state]; rfl
  have N0 := Fr.nil n0
  have K0 : Keep h0 h0 [a1, wb] := Keep.refl _ _
  show Go p e below (KQ s below (QputB Z a1 a2 a3 wb kw bl cs sf u8 ca cv kcv vb kb nz h0 n0) ({ frames := 5, cells := 1, slots := 4095, locals := 77 } : Room).cells ({ frames := 5, cells := 1, slots := 4095, locals := 77 } : Room).slots) _
  refine Go.body (T := s₁) (σ := s₁) (g' := (mkF m 0 #[.val (.ref a1), .val (.ref a2), .val (.ref a3), .unset, .unset, .unset, .unset, .unset] [])) (ef_putB m a1 a2 a3) ?_
  refine g_aloadN X0 hx (hb hby d20_0) 1 rfl (v := (.ref a2)) rfl rfl ?_
  obtain ⟨cq199, kq199, q199a, q199b, q199c⟩ := isOf hZ e0 E_a2
  obtain ⟨_, _, ⟨T199, L199, k199, n199⟩, -, X199, ⟨Lc199, hQ199, l199, y199, z199⟩, st199⟩ := X0.virtualBack hx (y := (⟨"java/lang/String", "length", "()I"⟩ : MethodName)) (z := (⟨"java/lang/String", "length", "()I"⟩ : MethodName)) hown (mvT hZ (hw _ (List.mem_of_getElem? (i := 86) rfl))) (mvT hZ (hw _ (List.mem_of_getElem? (i := 87) rfl))) (notFace_of_selects (args := #[]) (mvT hZ (hw _ (List.mem_of_getElem? (i := 89) rfl)))) (mvT hZ (hw _ (List.mem_of_getElem? (i := 89) rfl))) (mvT hZ (hw _ (List.mem_of_getElem? (i := 88) rfl))) (by decide) (backOf (W := 0) (rm18 l Z a0 hw [] a2 cs vb kb (Int32.ofNat nz) (List.replicate nz (.int (0 : Int32))) h0 n0 Z0 S_COMPACT_STRINGS E_a2 F_value_a2 F_coder_a2 A_vb hcs) hZ (hw _ (List.mem_of_getElem? (i := 90) rfl)) (hw _ (List.mem_of_getElem? (i := 2) rfl)) (by decide) (by decide)) q199a q199c (g := (mkF m 1 #[.val (.ref a1), .val (.ref a2), .val (.ref a3), .unset, .unset, .unset, .unset, .unset] [(.ref a2)])) rfl (by rw [hml]; rfl) (Steps.refl _) (argsL := []) (rest := []) (lenOf own_pd15 rfl) rfl (by show 2 * 0 + _ ≤ _; exact Nat.le_of_eq rfl) (hb hby d20_1) (fun _ _ => ⟨rfl, e0, (by decide : 0 + 0 ≤ _), (by decide : 0 + 0 ≤ _)⟩)
  dsimp only [Pt.U, Pt.locs, Pt.cells, Pt.slots] at X199 l199 y199 z199 st199 hQ199
  subst l199 y199 z199
  obtain ⟨rfl, Nq199, e199⟩ := hQ199
  refine Go.tr st199 ?_
  have N199 := Fr.app N0 Nq199
  show Go p e below _ (T199.setTop (mkF m 4 #[.val (.ref a1), .val (.ref a2), .val (.ref a3), .unset, .unset, .unset, .unset, .unset] [(.int (Int32.ofNat nz))]))
  refine g_istoreN X199 hx (hb hby d20_4) 5 rfl #[.val (.ref a1), .val (.ref a2), .val (.ref a3), .val (.int (Int32.ofNat nz)), .unset, .unset, .unset, .unset] rfl ?_
  refine g_iloadN X199 hx (hb hby d20_5) 6 rfl (v := (Int32.ofNat nz)) rfl ?_
  refine g_bipush X199 hx (hb hby d20_6) 8 rfl (16 : Int32) rfl ?_
  refine g_icmp_lt X199 hx (hb hby d20_8) 58 11 (by decide) (by decide) rfl (fun hc8 => False.elim (absurd (own_lt (j := nz) (N := 16) (by omega) (by omega) hc8) (by omega))) (fun hc8 => ?_)
  refine g_aloadN X199 hx (hb hby d20_11) 12 rfl (v := (.ref a3)) rfl rfl ?_
  refine g_aloadN X199 hx (hb hby d20_12) 13 rfl (v := (.ref a2)) rfl rfl ?_
  obtain ⟨cq200, kq200, q200a, q200b, q200c⟩ := isOf hZ e199 E_a3
  obtain ⟨_, _, ⟨T200, L200, k200, n200⟩, -, X200, ⟨Lc200, hQ200, l200, y200, z200⟩, st200⟩ := X199.virtualBack hx (y := (⟨"com/example/anagrafe/anagrafe/atom/Markup$Escape", "isNeededBy", "(Ljava/lang/String;)Z"⟩ : MethodName)) (z := (⟨"com/example/anagrafe/anagrafe/atom/Markup$Escape", "isNeededBy", "(Ljava/lang/String;)Z"⟩ : MethodName)) hown (mvT hZ (hw _ (List.mem_of_getElem? (i := 103) rfl))) (mvT hZ (hw _ (List.mem_of_getElem? (i := 104) rfl))) (notFace_of_selects (args := #[]) (mvT hZ (hw _ (List.mem_of_getElem? (i := 106) rfl)))) (mvT hZ (hw _ (List.mem_of_getElem? (i := 106) rfl))) (mvT hZ (hw _ (List.mem_of_getElem? (i := 105) rfl))) (by decide) (backOf (W := 0) (rminb l Z a0 hw [] a3 a2 cs sf ca cv kcv vb kb nz h0 n0 Z0 S_COMPACT_STRINGS S_SIOOBE_FORMATTER F_characters_a3 E_ca F_value_ca F_coder_ca A_cv E_a2 F_value_a2 F_coder_a2 A_vb hcs hsf hn (by omega)) hZ (hw _ (List.mem_of_getElem? (i := 107) rfl)) (hw _ (List.mem_of_getElem? (i := 97) rfl)) (by decide) (by decide)) q200a q200c (g := (mkF m 13 #[.val (.ref a1), .val (.ref a2), .val (.ref a3), .val (.int (Int32.ofNat nz)), .unset, .unset, .unset, .unset] [(.ref a2), (.ref a3)])) rfl (by rw [hml]; rfl) (Steps.refl _) (argsL := [(.ref a2)]) (rest := []) (lenOf own_pd25 rfl) rfl (by show 2 * 0 + _ ≤ _; exact Nat.le_of_eq rfl) (hb hby d20_13) (fun _ _ => ⟨rfl, e199, (by decide : 0 + 0 ≤ _), (by decide : 0 + 0 ≤ _)⟩)
  dsimp only [Pt.U, Pt.locs, Pt.cells, Pt.slots] at X200 l200 y200 z200 st200 hQ200
  subst l200 y200 z200
  obtain ⟨rfl, Nq200, e200⟩ := hQ200
  refine Go.tr st200 ?_
  have N200 := Fr.app N199 Nq200
  show Go p e below _ (T200.setTop (mkF m 16 #[.val (.ref a1), .val (.ref a2), .val (.ref a3), .val (.int (Int32.ofNat nz)), .unset, .unset, .unset, .unset] [(.int (0 : Int32))]))
  refine g_if_ne X200 hx (hb hby d20_16) 58 19 (by decide) (by decide) rfl (fun hc16 => False.elim (hc16 rfl)) (fun hc16 => ?_)
  refine g_aloadN X200 hx (hb hby d20_19) 20 rfl (v := (.ref a2)) rfl rfl ?_
  obtain ⟨T201, X201, e201, st201⟩ := getS2 X200 hx hZ hown (host := "") (Or.inl (hw _ (List.mem_of_getElem? (i := 156) rfl))) Via.refl e200 S_UTF_8 (g := (mkF m 20 #[.val (.ref a1), .val (.ref a2), .val (.ref a3), .val (.int (Int32.ofNat nz)), .unset, .unset, .unset, .unset] [(.ref a2)])) rfl (hb hby d20_20)
  refine Go.st st201 ?_
  show Go p e below _ (T201.setTop (mkF m 23 #[.val (.ref a1), .val (.ref a2), .val (.ref a3), .val (.int (Int32.ofNat nz)), .unset, .unset, .unset, .unset] [(.ref u8), (.ref a2)]))
  obtain ⟨cq202, kq202, q202a, q202b, q202c⟩ := isOf hZ e201 E_a2
  obtain ⟨_, _, ⟨T202, L202, k202, n202⟩, -, X202, ⟨Lc202, hQ202, l202, y202, z202⟩, st202⟩ := X201.virtualBack hx (y := (⟨"java/lang/String", "getBytes", "(Ljava/nio/charset/Charset;)[B"⟩ : MethodName)) (z := (⟨"java/lang/String", "getBytes", "(Ljava/nio/charset/Charset;)[B"⟩ : MethodName)) hown (mvT hZ (hw _ (List.mem_of_getElem? (i := 158) rfl))) (mvT hZ (hw _ (List.mem_of_getElem? (i := 159) rfl))) (notFace_of_selects (args := #[]) (mvT hZ (hw _ (List.mem_of_getElem? (i := 161) rfl)))) (mvT hZ (hw _ (List.mem_of_getElem? (i := 161) rfl))) (mvT hZ (hw _ (List.mem_of_getElem? (i := 160) rfl))) (by decide) (backOf (W := 0) (rmgby l Z a0 hw [] a2 u8 cs vb kb nz h0 n0 Z0 S_COMPACT_STRINGS S_INSTANCE E_a2 F_value_a2 F_coder_a2 A_vb E_vb hcs hn) hZ (hw _ (List.mem_of_getElem? (i := 162) rfl)) (hw _ (List.mem_of_getElem? (i := 2) rfl)) (by decide) (by decide)) q202a q202c (g := (mkF m 23 #[.val (.ref a1), .val (.ref a2), .val (.ref a3), .val (.int (Int32.ofNat nz)), .unset, .unset, .unset, .unset] [(.ref u8), (.ref a2)])) rfl (by rw [hml]; rfl) (Steps.refl _) (argsL := [(.ref u8)]) (rest := []) (lenOf own_pd26 rfl) rfl (by show 2 * 0 + _ ≤ _; exact Nat.le_of_eq rfl) (hb hby d20_23) (fun _ _ => ⟨rfl, e201, (by decide : 0 + 1 ≤ _), (by decide : 0 + 4095 ≤ _)⟩)
  dsimp only [Pt.U, Pt.locs, Pt.cells, Pt.slots] at X202 l202 y202 z202 st202 hQ202
  subst l202 y202 z202
  obtain ⟨og, rfl, Nq202, Kq202, f202_0, f202_1⟩ := hQ202
  refine Go.tr st202 ?_
  have N202 := Fr.app N200 Nq202
  have S_COMPACT_STRINGS_203 : Sta Z T202.heap "java/lang/String" "COMPACT_STRINGS" "Z" (.int cs) := own_Sta_keep S_COMPACT_STRINGS Kq202 all0
  have S_SIOOBE_FORMATTER_203 : Sta Z T202.heap "jdk/internal/util/Preconditions" "SIOOBE_FORMATTER" "Ljava/util/function/BiFunction;" sf := own_Sta_keep S_SIOOBE_FORMATTER Kq202 all0
  have S_INSTANCE_203 : Sta Z T202.heap "sun/nio/cs/UTF_8" "INSTANCE" "Lsun/nio/cs/UTF_8;" (.ref u8) := own_Sta_keep S_INSTANCE Kq202 all0
  have S_UTF_8_203 : Sta Z T202.heap "java/nio/charset/StandardCharsets" "UTF_8" "Ljava/nio/charset/Charset;" (.ref u8) := own_Sta_keep S_UTF_8 Kq202 all0
  have E_a1_203 : Exa Z T202.heap a1 "com/example/anagrafe/anagrafe/atom/Markup" := Exa.keep E_a1 Kq202
  have F_bytes_a1_203 : Fld Z T202.heap a1 "com/example/anagrafe/anagrafe/atom/Markup" "bytes" "[B" (.ref wb) := Fld.keep F_bytes_a1 Kq202 nin0
  have F_size_a1_203 : Fld Z T202.heap a1 "com/example/anagrafe/anagrafe/atom/Markup" "size" "I" (.int (Int32.ofNat 0)) := Fld.keep F_size_a1 Kq202 nin0
  have A_wb_203 : Arv Z T202.heap wb kw .byte (Int32.ofNat bl) [] (.int (0 : Int32)) := Arv.keep A_wb Kq202 nin0
  have ne_a1_og : a1 ≠ og := Nat.ne_of_lt (Nat.lt_of_lt_of_le E_a1.lt f202_0)
  have ne_wb_og : wb ≠ og := Nat.ne_of_lt (Nat.lt_of_lt_of_le A_wb.lt f202_0)
  have g_og : n0 ≤ og := Nat.le_trans Z0 f202_0
  have mh_og : h0.size ≤ og := Nat.le_trans K0.1 f202_0
  have K202 : Keep h0 T202.heap [a1, wb] := Keep.trans K0 Kq202 all0
  have Zs202 : n0 ≤ T202.heap.size := Nat.le_trans Z0 Kq202.1
  show Go p e below _ (T202.setTop (mkF m 26 #[.val (.ref a1), .val (.ref a2), .val (.ref a3), .val (.int (Int32.ofNat nz)), .unset, .unset, .unset, .unset] [(.ref og)]))
  refine g_astore X202 hx (hb hby d20_26) 28 rfl rfl #[.val (.ref a1), .val (.ref a2), .val (.ref a3), .val (.int (Int32.ofNat nz)), .val (.ref og), .unset, .unset, .unset] rfl ?_
  refine g_aload X202 hx (hb hby d20_28) 30 rfl (v := (.ref og)) rfl rfl ?_
  refine g_iconst X202 hx (hb hby d20_30) 31 rfl (0 : Int32) rfl ?_
  refine g_aloadN X202 hx (hb hby d20_31) 32 rfl (v := (.ref a1)) rfl rfl ?_
  obtain ⟨T204, X204, e204, st204⟩ := getF X202 hx hZ hown (host := "") (Or.inl (hw _ (List.mem_of_getElem? (i := 51) rfl))) Via.refl rfl F_bytes_a1_203 (g := (mkF m 32 #[.val (.ref a1), .val (.ref a2), .val (.ref a3), .val (.int (Int32.ofNat nz)), .val (.ref og), .unset, .unset, .unset] [(.ref a1), (.int (0 : Int32)), (.ref og)])) rfl rfl (hb hby d20_32)
  refine Go.st st204 ?_
  show Go p e below _ (T204.setTop (mkF m 35 #[.val (.ref a1), .val (.ref a2), .val (.ref a3), .val (.int (Int32.ofNat nz)), .val (.ref og), .unset, .unset, .unset] [(.ref wb), (.int (0 : Int32)), (.ref og)]))
  refine g_aloadN X204 hx (hb hby d20_35) 36 rfl (v := (.ref a1)) rfl rfl ?_
  obtain ⟨T205, X205, e205, st205⟩ := getF X204 hx hZ hown (host := "") (Or.inl (hw _ (List.mem_of_getElem? (i := 62) rfl))) Via.refl e204 F_size_a1_203 (g := (mkF m 36 #[.val (.ref a1), .val (.ref a2), .val (.ref a3), .val (.int (Int32.ofNat nz)), .val (.ref og), .unset, .unset, .unset] [(.ref a1), (.ref wb), (.int (0 : Int32)), (.ref og)])) rfl rfl (hb hby d20_36)
  refine Go.st st205 ?_
  show Go p e below _ (T205.setTop (mkF m 39 #[.val (.ref a1), .val (.ref a2), .val (.ref a3), .val (.int (Int32.ofNat nz)), .val (.ref og), .unset, .unset, .unset] [(.int (Int32.ofNat 0)), (.ref wb), (.int (0 : Int32)), (.ref og)]))
  refine g_aload X205 hx (hb hby d20_39) 41 rfl (v := (.ref og)) rfl rfl ?_
  refine g_alen X205 hx (hb hby d20_41) 42 rfl hZ e205 f202_1 ?_
  have Avp : Arv Z T202.heap wb kw .byte (Int32.ofNat bl) (List.replicate nz (.int (0 : Int32))) (.int (0 : Int32)) := Arv.pad A_wb_203 (pad_rep [] (.int (0 : Int32)) nz)
  have hnn : (Int32.ofNat nz).toNatClampNeg = nz := own_cl (by omega)
  have hbb : (Int32.ofNat bl).toNatClampNeg = bl := own_cl (by omega)
  have hz0 : (Int32.ofNat 0).toNatClampNeg = 0 := by decide
  have hz1 : (0 : Int32).toNatClampNeg = 0 := by decide
  obtain ⟨T207, h207, L207, X207, e207, N207, Kq207, B207, st207⟩ := cpA X205 hx hZ hown (hw _ (List.mem_of_getElem? (i := 187) rfl)) (hw _ (List.mem_of_getElem? (i := 80) rfl)) (hw _ (List.mem_of_getElem? (i := 78) rfl)) (hw _ (List.mem_of_getElem? (i := 79) rfl)) e205 f202_1 Avp (Or.inl ⟨rfl, rfl⟩) (by decide) (by decide) ((own_in (N := nz + 1) (by omega) (by omega)).1) (by omega) (by omega) rfl (by rw [List.length_replicate]; omega) N202 g_wb (g := (mkF m 42 #[.val (.ref a1), .val (.ref a2), .val (.ref a3), .val (.int (Int32.ofNat nz)), .val (.ref og), .unset, .unset, .unset] [(.int (Int32.ofNat nz)), (.int (Int32.ofNat 0)), (.ref wb), (.int (0 : Int32)), (.ref og)])) rfl (by rw [hml]; rfl) rfl (hb hby d20_42) (by decide) (W := 0) (by show 2 * 0 + _ ≤ _; exact Nat.le_of_eq rfl) (by decide)
  refine Go.st st207 ?_
  have S_COMPACT_STRINGS_208 : Sta Z h207 "java/lang/String" "COMPACT_STRINGS" "Z" (.int cs) := own_Sta_keep S_COMPACT_STRINGS_203 Kq207 (allS (own_nsA Avp) all0)
  have S_SIOOBE_FORMATTER_208 : Sta Z h207 "jdk/internal/util/Preconditions" "SIOOBE_FORMATTER" "Ljava/util/function/BiFunction;" sf := own_Sta_keep S_SIOOBE_FORMATTER_203 Kq207 (allS (own_nsA Avp) all0)
  have S_INSTANCE_208 : Sta Z h207 "sun/nio/cs/UTF_8" "INSTANCE" "Lsun/nio/cs/UTF_8;" (.ref u8) := own_Sta_keep S_INSTANCE_203 Kq207 (allS (own_nsA Avp) all0)
  have S_UTF_8_208 : Sta Z h207 "java/nio/charset/StandardCharsets" "UTF_8" "Ljava/nio/charset/Charset;" (.ref u8) := own_Sta_keep S_UTF_8_203 Kq207 (allS (own_nsA Avp) all0)
  have E_a1_208 : Exa Z h207 a1 "com/example/anagrafe/anagrafe/atom/Markup" := Exa.keep E_a1_203 Kq207
  have F_bytes_a1_208 : Fld Z h207 a1 "com/example/anagrafe/anagrafe/atom/Markup" "bytes" "[B" (.ref wb) := Fld.keep F_bytes_a1_203 Kq207 (ninS ne_a1_wb nin0)
  have F_size_a1_208 : Fld Z h207 a1 "com/example/anagrafe/anagrafe/atom/Markup" "size" "I" (.int (Int32.ofNat 0)) := Fld.keep F_size_a1_203 Kq207 (ninS ne_a1_wb nin0)
  have A_og_208 : Arv Z h207 og kb .byte (Int32.ofNat nz) (List.replicate nz (.int (0 : Int32))) (.int (0 : Int32)) := Arv.keep f202_1 Kq207 (ninS (Ne.symm ne_wb_og) nin0)
  have Av_wb_207 : Arv Z h207 wb kw .byte (Int32.ofNat bl) (List.replicate nz (.int (0 : Int32))) (.int (0 : Int32)) := (by have q := B207; exact Arv.pad q (fun j => (own_zg _ j _).trans (own_cpz _ _ _ _ _ _ (fun i => own_zg _ i _) j)))
  have K207 : Keep h0 h207 [a1, wb] := Keep.trans K202 Kq207 (allS (Or.inl (List.mem_of_getElem? (i := 1) rfl)) all0)
  have Zs207 : n0 ≤ h207.size := Nat.le_trans Zs202 Kq207.1
  show Go p e below _ (T207.setTop (mkF m 45 #[.val (.ref a1), .val (.ref a2), .val (.ref a3), .val (.int (Int32.ofNat nz)), .val (.ref og), .unset, .unset, .unset] []))
  refine g_aloadN X207 hx (hb hby d20_45) 46 rfl (v := (.ref a1)) rfl rfl ?_
  refine g_dup X207 hx (hb hby d20_46) 47 rfl rfl ?_
  obtain ⟨T209, X209, e209, st209⟩ := getF X207 hx hZ hown (host := "") (Or.inl (hw _ (List.mem_of_getElem? (i := 62) rfl))) Via.refl e207 F_size_a1_208 (g := (mkF m 47 #[.val (.ref a1), .val (.ref a2), .val (.ref a3), .val (.int (Int32.ofNat nz)), .val (.ref og), .unset, .unset, .unset] [(.ref a1), (.ref a1)])) rfl rfl (hb hby d20_47)
  refine Go.st st209 ?_
  show Go p e below _ (T209.setTop (mkF m 50 #[.val (.ref a1), .val (.ref a2), .val (.ref a3), .val (.int (Int32.ofNat nz)), .val (.ref og), .unset, .unset, .unset] [(.int (Int32.ofNat 0)), (.ref a1)]))
  refine g_aload X209 hx (hb hby d20_50) 52 rfl (v := (.ref og)) rfl rfl ?_
  refine g_alen X209 hx (hb hby d20_52) 53 rfl hZ e209 A_og_208 ?_
  refine g_iadd X209 hx (hb hby d20_53) 54 rfl (Int32.ofNat nz) (own_0add _) ?_
  obtain ⟨T211, h211, X211, e211, W211, st211⟩ := putF X209 hx hZ hown (host := "") (Or.inl (hw _ (List.mem_of_getElem? (i := 62) rfl))) Via.refl e209 F_size_a1_208 E_a1_208 (Or.inl (hw _ (List.mem_of_getElem? (i := 63) rfl))) (hw _ (List.mem_of_getElem? (i := 45) rfl)) (ty := .int) (by decide) rfl rfl (g := (mkF m 54 #[.val (.ref a1), .val (.ref a2), .val (.ref a3), .val (.int (Int32.ofNat nz)), .val (.ref og), .unset, .unset, .unset] [(.int (Int32.ofNat nz)), (.ref a1)])) rfl rfl (hb hby d20_54)
  refine Go.st st211 ?_
  have S_COMPACT_STRINGS_212 : Sta Z h211 "java/lang/String" "COMPACT_STRINGS" "Z" (.int cs) := Sta.wr W211 S_COMPACT_STRINGS_208
  have S_SIOOBE_FORMATTER_212 : Sta Z h211 "jdk/internal/util/Preconditions" "SIOOBE_FORMATTER" "Ljava/util/function/BiFunction;" sf := Sta.wr W211 S_SIOOBE_FORMATTER_208
  have S_INSTANCE_212 : Sta Z h211 "sun/nio/cs/UTF_8" "INSTANCE" "Lsun/nio/cs/UTF_8;" (.ref u8) := Sta.wr W211 S_INSTANCE_208
  have S_UTF_8_212 : Sta Z h211 "java/nio/charset/StandardCharsets" "UTF_8" "Ljava/nio/charset/Charset;" (.ref u8) := Sta.wr W211 S_UTF_8_208
  have E_a1_212 : Exa Z h211 a1 "com/example/anagrafe/anagrafe/atom/Markup" := Exa.wr W211 E_a1_208
  have F_bytes_a1_212 : Fld Z h211 a1 "com/example/anagrafe/anagrafe/atom/Markup" "bytes" "[B" (.ref wb) := Fld.other W211 F_bytes_a1_208 (Or.inr (slot_ne (Or.inl (hw _ (List.mem_of_getElem? (i := 52) rfl))) (Or.inl (hw _ (List.mem_of_getElem? (i := 63) rfl))) (by decide) (t := (.array .byte)) (t' := .int) (by decide) (by decide)))
  have A_og_212 : Arv Z h211 og kb .byte (Int32.ofNat nz) (List.replicate nz (.int (0 : Int32))) (.int (0 : Int32)) := Arv.other A_og_208 W211 (Ne.symm ne_a1_og)
  have A_wb_212 : Arv Z h211 wb kw .byte (Int32.ofNat bl) (List.replicate nz (.int (0 : Int32))) (.int (0 : Int32)) := Arv.other Av_wb_207 W211 (Ne.symm ne_a1_wb)
  have F_size_a1_211w : Fld Z h211 a1 "com/example/anagrafe/anagrafe/atom/Markup" "size" "I" (.int (Int32.ofNat nz)) := Fld.same W211 F_size_a1_208
  have K211 : Keep h0 h211 [a1, wb] := Keep.wr K207 W211 (Or.inl (List.mem_of_getElem? (i := 0) rfl))
  have N211 := Fr.snoc X211 N207 g_a1
  have Zs211 : n0 ≤ h211.size := by rw [W211.size]; exact Zs207
  show Go p e below _ (T211.setTop (mkF m 57 #[.val (.ref a1), .val (.ref a2), .val (.ref a3), .val (.int (Int32.ofNat nz)), .val (.ref og), .unset, .unset, .unset] []))
  refine Go.retV X211 hx hlk Bd.returns (hb hby d20_57) (by decide) (by decide) ?_
  show QputB Z a1 a2 a3 wb kw bl cs sf u8 ca cv kcv vb kb nz h0 n0 _ T211.heap _
  rw [e211]
  exact ⟨rfl, N211, K211, E_a1_212, F_bytes_a1_212, F_size_a1_211w, A_wb_212⟩
theorem ef_putS (m : MethodId) (x0 : Addr) (x1 : Addr) (x2 : Addr) : entryFrame m #[(.ref x0), (.ref x1), (.ref x2)] 8 = mkF m 0 #[.val (.ref x0), .val (.ref x1), .val (.ref x2), .unset, .unset, .unset, .unset, .unset] [] := by first | (simp [entryFrame, mkF, argsToLocals, Value.category]; done) | rfl
theorem d20_58 : decode prog_9_method_12_code 58 = .ok (.aload_n 0, 1) := by decide +kernel
theorem d20_59 : decode prog_9_method_12_code 59 = .ok (.getfield 9, 3) := by decide +kernel
theorem d20_62 : decode prog_9_method_12_code 62 = .ok (.astore 4, 2) := by decide +kernel
theorem d20_64 : decode prog_9_method_12_code 64 = .ok (.aload_n 0, 1) := by decide +kernel
theorem d20_65 : decode prog_9_method_12_code 65 = .ok (.getfield 29, 3) := by decide +kernel
theorem d20_68 : decode prog_9_method_12_code 68 = .ok (.istore 5, 2) := by decide +kernel
theorem d20_70 : decode prog_9_method_12_code 70 = .ok (.iconst 0, 1) := by decide +kernel
theorem d20_71 : decode prog_9_method_12_code 71 = .ok (.istore 6, 2) := by decide +kernel
theorem d20_73 : decode prog_9_method_12_code 73 = .ok (.iload 6, 2) := by decide +kernel
theorem d20_75 : decode prog_9_method_12_code 75 = .ok (.iload_n 3, 1) := by decide +kernel
theorem d20_76 : decode prog_9_method_12_code 76 = .ok (.if_icmp .ge 70, 3) := by decide +kernel
theorem d20_146 : decode prog_9_method_12_code 146 = .ok (.aload_n 0, 1) := by decide +kernel
theorem d20_147 : decode prog_9_method_12_code 147 = .ok (.iload 5, 2) := by decide +kernel
theorem d20_149 : decode prog_9_method_12_code 149 = .ok (.putfield 29, 3) := by decide +kernel
theorem d20_152 : decode prog_9_method_12_code 152 = .ok (.return_, 1) := by decide +kernel
theorem d20_79 : decode prog_9_method_12_code 79 = .ok (.aload_n 1, 1) := by decide +kernel
theorem d20_80 : decode prog_9_method_12_code 80 = .ok (.iload 6, 2) := by decide +kernel
theorem d20_82 : decode prog_9_method_12_code 82 = .ok (.invokevirtual 58, 3) := by decide +kernel
theorem d20_85 : decode prog_9_method_12_code 85 = .ok (.istore 7, 2) := by decide +kernel
theorem d20_87 : decode prog_9_method_12_code 87 = .ok (.iload 7, 2) := by decide +kernel
theorem d20_89 : decode prog_9_method_12_code 89 = .ok (.sipush 128, 3) := by decide +kernel
theorem d20_92 : decode prog_9_method_12_code 92 = .ok (.if_icmp .ge 26, 3) := by decide +kernel
theorem d20_95 : decode prog_9_method_12_code 95 = .ok (.aload_n 2, 1) := by decide +kernel
theorem d20_96 : decode prog_9_method_12_code 96 = .ok (.iload 7, 2) := by decide +kernel
theorem d20_98 : decode prog_9_method_12_code 98 = .ok (.invokevirtual 82, 3) := by decide +kernel
theorem d20_101 : decode prog_9_method_12_code 101 = .ok (.ifCond .ne 17, 3) := by decide +kernel
theorem d20_104 : decode prog_9_method_12_code 104 = .ok (.aload 4, 2) := by decide +kernel
theorem d20_106 : decode prog_9_method_12_code 106 = .ok (.iload 5, 2) := by decide +kernel
theorem d20_108 : decode prog_9_method_12_code 108 = .ok (.iinc 5 1, 3) := by decide +kernel
theorem d20_111 : decode prog_9_method_12_code 111 = .ok (.iload 7, 2) := by decide +kernel
theorem d20_113 : decode prog_9_method_12_code 113 = .ok (.i2b, 1) := by decide +kernel
theorem d20_114 : decode prog_9_method_12_code 114 = .ok (.bastore, 1) := by decide +kernel
theorem d20_115 : decode prog_9_method_12_code 115 = .ok (.goto 25, 3) := by decide +kernel
theorem d20_140 : decode prog_9_method_12_code 140 = .ok (.iinc 6 1, 3) := by decide +kernel
theorem d20_143 : decode prog_9_method_12_code 143 = .ok (.goto (-70), 3) := by decide +kernel
def QputS (Z : State) (a1 : Addr) (a2 : Addr) (a3 : Addr) (wb : Addr) (kw : ClassId) (bl : Nat) (cs : Int32) (sf : Value) (eb : Addr) (ke : ClassId) (ev : List Value) (vb : Addr) (kb : ClassId) (nz : Nat) (h0 : Heap) (n0 : Nat) (v : Option Value) (h : Heap) (L : List Loc) : Prop := v = none ∧ Fr n0 L ∧ Keep h0 h [a1, wb] ∧ (Exa Z h a1 "com/example/anagrafe/anagrafe/atom/Markup") ∧ (Fld Z h a1 "com/example/anagrafe/anagrafe/atom/Markup" "bytes" "[B" (.ref wb)) ∧ (Fld Z h a1 "com/example/anagrafe/anagrafe/atom/Markup" "size" "I" (.int (Int32.ofNat nz))) ∧ (Arv Z h wb kw .byte (Int32.ofNat bl) (List.replicate nz (.int (0 : Int32))) (.int (0 : Int32)))
set_option maxRecDepth 65536 in
set_option maxHeartbeats 40000000 in
theorem rmputS (l : Launch) (Z : State) (a0 : Array Value) (hw : ∀ d ∈ tables_1, d.before a0 Z = true) (ws : List Jvm.Cond) (a1 : Addr) (a2 : Addr) (a3 : Addr) (wb : Addr) (kw : ClassId) (bl : Nat) (cs : Int32) (sf : Value) (eb : Addr) (ke : ClassId) (ev : List Value) (vb : Addr) (kb : ClassId) (nz : Nat) (h0 : Heap) (n0 : Nat) (Z0 : n0 ≤ h0.size) (S_COMPACT_STRINGS : Sta Z h0 "java/lang/String" "COMPACT_STRINGS" "Z" (.int cs)) (S_SIOOBE_FORMATTER : Sta Z h0 "jdk/internal/util/Preconditions" "SIOOBE_FORMATTER" "Ljava/util/function/BiFunction;" sf) (E_a1 : Exa Z h0 a1 "com/example/anagrafe/anagrafe/atom/Markup") (F_bytes_a1 : Fld Z h0 a1 "com/example/anagrafe/anagrafe/atom/Markup" "bytes" "[B" (.ref wb)) (F_size_a1 : Fld Z h0 a1 "com/example/anagrafe/anagrafe/atom/Markup" "size" "I" (.int (Int32.ofNat 0))) (A_wb : Arv Z h0 wb kw .byte (Int32.ofNat bl) [] (.int (0 : Int32))) (g_a1 : n0 ≤ a1) (g_wb : n0 ≤ wb) (ne_a1_wb : a1 ≠ wb) (E_a2 : Exa Z h0 a2 "java/lang/String") (F_value_a2 : Fld Z h0 a2 "java/lang/String" "value" "[B" (.ref vb)) (F_coder_a2 : Fld Z h0 a2 "java/lang/String" "coder" "B" (.int (0 : Int32))) (A_vb : Arv Z h0 vb kb .byte (Int32.ofNat nz) (List.replicate nz (.int (0 : Int32))) (.int (0 : Int32))) (E_a3 : Exa Z h0 a3 "com/example/anagrafe/anagrafe/atom/Markup$Escape") (F_escaped_a3 : Fld Z h0 a3 "com/example/anagrafe/anagrafe/atom/Markup$Escape" "escaped" "[Z" (.ref eb)) (A_eb : Arv Z h0 eb ke .boolean (128 : Int32) ev (.int (0 : Int32))) (ne_a2_a1 : a2 ≠ a1) (ne_vb_a1 : vb ≠ a1) (ne_a3_a1 : a3 ≠ a1) (ne_eb_a1 : eb ≠ a1) (ne_a2_wb : a2 ≠ wb) (ne_vb_wb : vb ≠ wb) (ne_a3_wb : a3 ≠ wb) (ne_eb_wb : eb ≠ wb) (hcs : ¬ cs = 0) (hsf : sf.isRef = true) (hB : 16384 ≤ bl ∧ bl ≤ 32768) (hev : ev.getD 0 (.int (0 : Int32)) = .int 0) (h16 : nz < 16) :
    MetFree l (⟨"com/example/anagrafe/anagrafe/atom/Markup", "put", "(Ljava/lang/String;Lcom/example/anagrafe/anagrafe/atom/Markup$Escape;)V"⟩ : MethodName) (head1 (Jvm.Cond.code (⟨"com/example/anagrafe/anagrafe/atom/Markup", "put", "(Ljava/lang/String;Lcom/example/anagrafe/anagrafe/atom/Markup$Escape;)V"⟩ : MethodName) prog_9_method_12_code 8 none :: ws) ({ frames := 4, cells := 0, slots := 0, locals := 53 } : Room)) (fun a U => a = #[(.ref a1), (.ref a2), (.ref a3)] ∧ Z.Warmed39 U.vm ∧ U.heap = h0) (fun _ _ _ _ _ => True) (fun _ U o U' => ∃ v L, o = .returned v ∧ QputS Z a1 a2 a3 wb kw bl cs sf eb ke ev vb kb nz h0 n0 v U'.heap L ∧ FrameEnd U o U' L ({ frames := 4, cells := 0, slots := 0, locals := 53 } : Room).cells ({ frames := 4, cells := 0, slots := 0, locals := 53 } : Room).slots) := by
  refine MetFree.of_bodySF (plainFor_of_name own_pn_com_example_anagrafe_anagrafe_atom_Markup) hisR ?_
  intro p e s m args below meth c s₁ Bd hml0 hP hK
  obtain ⟨rfl, hZ, hh⟩ := hP
  have hx := Bd.exec
  have hby := Bd.bytes
  have hlk := Bd.notSynchronized
  have hml : c.maxLocals = 8 := hml0
  have hown : s.vm.findClass "com/example/anagrafe/anagrafe/atom/Markup" = some m.cls := findClass_of_methodNamed Bd.named
  have hnm := (name_of_methodNamed Bd.named Bd.method).1
  have X0 : Stand p l e ({ frames := 4, cells := 0, slots := 0, locals := 53 } : Room) s m #[(.ref a1), (.ref a2), (.ref a3)] below meth c s₁ [] 0 0 := Stand.of_body Bd
  have e0 : s₁.heap = h0 := by rw [← hh, Bd.state]; rfl
  have N0 := Fr.nil n0
  have K0 : Keep h0 h0 [a1, wb] := Keep.refl _ _
  show Go p e below (KQ s below (QputS Z a1 a2 a3 wb kw bl cs sf eb ke ev vb kb nz h0 n0) ({ frames := 4, cells := 0, slots := 0, locals := 53 } : Room).cells ({ frames := 4, cells := 0, slots := 0, locals := 53 } : Room).slots) _
  refine Go.body (T := s₁) (σ := s₁) (g' := (mkF m 0 #[.val (.ref a1), .val (.ref a2), .val (.ref a3), .unset, .unset, .unset, .unset, .unset] [])) (ef_putS m a1 a2 a3) ?_
  refine g_aloadN X0 hx (hb hby d20_0) 1 rfl (v := (.ref a2)) rfl rfl ?_
  obtain ⟨cq213, kq213, q213a, q213b, q213c⟩ := isOf hZ e0 E_a2
  obtain ⟨_, _, ⟨T213, L213, k213, n213⟩, -, X213, ⟨Lc213, hQ213, l213, y213, z213⟩, st213⟩ := X0.virtualBack hx (y := (⟨"java/lang/String", "length", "()I"⟩ : MethodName)) (z := (⟨"java/lang/String", "length", "()I"⟩ : MethodName)) hown (mvT hZ (hw _ (List.mem_of_getElem? (i := 86) rfl))) (mvT hZ (hw _ (List.mem_of_getElem? (i := 87) rfl))) (notFace_of_selects (args := #[]) (mvT hZ (hw _ (List.mem_of_getElem? (i := 89) rfl)))) (mvT hZ (hw _ (List.mem_of_getElem? (i := 89) rfl))) (mvT hZ (hw _ (List.mem_of_getElem? (i := 88) rfl))) (by decide) (backOf (W := 0) (rm18 l Z a0 hw [] a2 cs vb kb (Int32.ofNat nz) (List.replicate nz (.int (0 : Int32))) h0 n0 Z0 S_COMPACT_STRINGS E_a2 F_value_a2 F_coder_a2 A_vb hcs) hZ (hw _ (List.mem_of_getElem? (i := 90) rfl)) (hw _ (List.mem_of_getElem? (i := 2) rfl)) (by decide) (by decide)) q213a q213c (g := (mkF m 1 #[.val (.ref a1), .val (.ref a2), .val (.ref a3), .unset, .unset, .unset, .unset, .unset] [(.ref a2)])) rfl (by rw [hml]; rfl) (Steps.refl _) (argsL := []) (rest := []) (lenOf own_pd15 rfl) rfl (by show 2 * 0 + _ ≤ _; exact Nat.le_of_eq rfl) (hb hby d20_1) (fun _ _ => ⟨rfl, e0, (by decide : 0 + 0 ≤ _), (by decide : 0 + 0 ≤ _)⟩)
  dsimp only [Pt.U, Pt.locs, Pt.cells, Pt.slots] at X213 l213 y213 z213 st213 hQ213
  subst l213 y213 z213
  obtain ⟨rfl, Nq213, e213⟩ := hQ213
  refine Go.tr st213 ?_
  have N213 := Fr.app N0 Nq213
  show Go p e below _ (T213.setTop (mkF m 4 #[.val (.ref a1), .val (.ref a2), .val (.ref a3), .unset, .unset, .unset, .unset, .unset] [(.int (Int32.ofNat nz))]))
  refine g_istoreN X213 hx (hb hby d20_4) 5 rfl #[.val (.ref a1), .val (.ref a2), .val (.ref a3), .val (.int (Int32.ofNat nz)), .unset, .unset, .unset, .unset] rfl ?_
  refine g_iloadN X213 hx (hb hby d20_5) 6 rfl (v := (Int32.ofNat nz)) rfl ?_
  refine g_bipush X213 hx (hb hby d20_6) 8 rfl (16 : Int32) rfl ?_
  refine g_icmp_lt X213 hx (hb hby d20_8) 58 11 (by decide) (by decide) rfl (fun hc8 => ?_) (fun hc8 => False.elim (hc8 (own_in (N := 16) (by omega) h16).2))
  refine g_aloadN X213 hx (hb hby d20_58) 59 rfl (v := (.ref a1)) rfl rfl ?_
  obtain ⟨T214, X214, e214, st214⟩ := getF X213 hx hZ hown (host := "") (Or.inl (hw _ (List.mem_of_getElem? (i := 51) rfl))) Via.refl e213 F_bytes_a1 (g := (mkF m 59 #[.val (.ref a1), .val (.ref a2), .val (.ref a3), .val (.int (Int32.ofNat nz)), .unset, .unset, .unset, .unset] [(.ref a1)])) rfl rfl (hb hby d20_59)
  refine Go.st st214 ?_
  show Go p e below _ (T214.setTop (mkF m 62 #[.val (.ref a1), .val (.ref a2), .val (.ref a3), .val (.int (Int32.ofNat nz)), .unset, .unset, .unset, .unset] [(.ref wb)]))
  refine g_astore X214 hx (hb hby d20_62) 64 rfl rfl #[.val (.ref a1), .val (.ref a2), .val (.ref a3), .val (.int (Int32.ofNat nz)), .val (.ref wb), .unset, .unset, .unset] rfl ?_
  refine g_aloadN X214 hx (hb hby d20_64) 65 rfl (v := (.ref a1)) rfl rfl ?_
  obtain ⟨T215, X215, e215, st215⟩ := getF X214 hx hZ hown (host := "") (Or.inl (hw _ (List.mem_of_getElem? (i := 62) rfl))) Via.refl e214 F_size_a1 (g := (mkF m 65 #[.val (.ref a1), .val (.ref a2), .val (.ref a3), .val (.int (Int32.ofNat nz)), .val (.ref wb), .unset, .unset, .unset] [(.ref a1)])) rfl rfl (hb hby d20_65)
  refine Go.st st215 ?_
  show Go p e below _ (T215.setTop (mkF m 68 #[.val (.ref a1), .val (.ref a2), .val (.ref a3), .val (.int (Int32.ofNat nz)), .val (.ref wb), .unset, .unset, .unset] [(.int (Int32.ofNat 0))]))
  refine g_istore X215 hx (hb hby d20_68) 70 rfl #[.val (.ref a1), .val (.ref a2), .val (.ref a3), .val (.int (Int32.ofNat nz)), .val (.ref wb), .val (.int (Int32.ofNat 0)), .unset, .unset] rfl ?_
  refine g_iconst X215 hx (hb hby d20_70) 71 rfl (0 : Int32) rfl ?_
  refine g_istore X215 hx (hb hby d20_71) 73 rfl #[.val (.ref a1), .val (.ref a2), .val (.ref a3), .val (.int (Int32.ofNat nz)), .val (.ref wb), .val (.int (Int32.ofNat 0)), .val (.int (0 : Int32)), .unset] rfl ?_
  have lp : ∀ tl : Nat, ∀ (i : Nat) (sl : Slot) {Ts216 : State} {lc216 : List Loc} {hs216 : Heap} (Xs216 : Stand p l e ({ frames := 4, cells := 0, slots := 0, locals := 53 } : Room) s m #[(.ref a1), (.ref a2), (.ref a3)] below meth c Ts216 lc216 0 0) (es216 : Ts216.heap = hs216) (Ns216 : Fr n0 lc216) (Ks216 : Keep h0 hs216 [a1, wb]) (Zs216 : n0 ≤ hs216.size) (Sta_s216_0 : Sta Z hs216 "java/lang/String" "COMPACT_STRINGS" "Z" (.int cs)) (Sta_s216_1 : Sta Z hs216 "jdk/internal/util/Preconditions" "SIOOBE_FORMATTER" "Ljava/util/function/BiFunction;" sf) (Exa_s216_2 : Exa Z hs216 a1 "com/example/anagrafe/anagrafe/atom/Markup") (Fld_s216_3 : Fld Z hs216 a1 "com/example/anagrafe/anagrafe/atom/Markup" "bytes" "[B" (.ref wb)) (Fld_s216_4 : Fld Z hs216 a1 "com/example/anagrafe/anagrafe/atom/Markup" "size" "I" (.int (Int32.ofNat 0))) (Arv_s216_5 : Arv Z hs216 wb kw .byte (Int32.ofNat bl) [] (.int (0 : Int32))) (hsl : One sl), i + tl = nz → Go p e below (KQ s below (QputS Z a1 a2 a3 wb kw bl cs sf eb ke ev vb kb nz h0 n0) ({ frames := 4, cells := 0, slots := 0, locals := 53 } : Room).cells ({ frames := 4, cells := 0, slots := 0, locals := 53 } : Room).slots) (Ts216.setTop (mkF m 73 #[.val (.ref a1), .val (.ref a2), .val (.ref a3), .val (.int (Int32.ofNat nz)), .val (.ref wb), .val (.int (Int32.ofNat i)), .val (.int (Int32.ofNat i)), sl] [])) := by
    intro tl
    induction tl with
    | zero => 
      intro i sl Ts216 lc216 hs216 Xs216 es216 Ns216 Ks216 Zs216 Sta_s216_0 Sta_s216_1 Exa_s216_2 Fld_s216_3 Fld_s216_4 Arv_s216_5 hsl htl
      refine g_iload Xs216 hx (hb hby d20_73) 75 rfl (v := (Int32.ofNat i)) rfl ?_
      refine g_iloadN Xs216 hx (hb hby d20_75) 76 rfl (v := (Int32.ofNat nz)) rfl ?_
      refine g_icmp_ge Xs216 hx (hb hby d20_76) 146 79 (by decide) (by decide) rfl (fun hc76 => ?_) (fun hc76 => False.elim (absurd (own_lt (by omega) (by omega) hc76) (by omega)))
      refine g_aloadN Xs216 hx (hb hby d20_146) 147 rfl (v := (.ref a1)) rfl rfl ?_
      refine g_iload Xs216 hx (hb hby d20_147) 149 rfl (v := (Int32.ofNat i)) rfl ?_
      obtain ⟨T217, h217, X217, e217, W217, st217⟩ := putF Xs216 hx hZ hown (host := "") (Or.inl (hw _ (List.mem_of_getElem? (i := 62) rfl))) Via.refl es216 Fld_s216_4 Exa_s216_2 (Or.inl (hw _ (List.mem_of_getElem? (i := 63) rfl))) (hw _ (List.mem_of_getElem? (i := 45) rfl)) (ty := .int) (by decide) rfl rfl (g := (mkF m 149 #[.val (.ref a1), .val (.ref a2), .val (.ref a3), .val (.int (Int32.ofNat nz)), .val (.ref wb), .val (.int (Int32.ofNat i)), .val (.int (Int32.ofNat i)), sl] [(.int (Int32.ofNat i)), (.ref a1)])) rfl rfl (hb hby d20_149)
      refine Go.st st217 ?_
      have S_COMPACT_STRINGS_218 : Sta Z h217 "java/lang/String" "COMPACT_STRINGS" "Z" (.int cs) := Sta.wr W217 Sta_s216_0
      have S_SIOOBE_FORMATTER_218 : Sta Z h217 "jdk/internal/util/Preconditions" "SIOOBE_FORMATTER" "Ljava/util/function/BiFunction;" sf := Sta.wr W217 Sta_s216_1
      have E_a1_218 : Exa Z h217 a1 "com/example/anagrafe/anagrafe/atom/Markup" := Exa.wr W217 Exa_s216_2
      have F_bytes_a1_218 : Fld Z h217 a1 "com/example/anagrafe/anagrafe/atom/Markup" "bytes" "[B" (.ref wb) := Fld.other W217 Fld_s216_3 (Or.inr (slot_ne (Or.inl (hw _ (List.mem_of_getElem? (i := 52) rfl))) (Or.inl (hw _ (List.mem_of_getElem? (i := 63) rfl))) (by decide) (t := (.array .byte)) (t' := .int) (by decide) (by decide)))
      have A_wb_218 : Arv Z h217 wb kw .byte (Int32.ofNat bl) [] (.int (0 : Int32)) := Arv.other Arv_s216_5 W217 (Ne.symm ne_a1_wb)
      have F_size_a1_217w : Fld Z h217 a1 "com/example/anagrafe/anagrafe/atom/Markup" "size" "I" (.int (Int32.ofNat i)) := Fld.same W217 Fld_s216_4
      have K217 : Keep h0 h217 [a1, wb] := Keep.wr Ks216 W217 (Or.inl (List.mem_of_getElem? (i := 0) rfl))
      have N217 := Fr.snoc X217 Ns216 g_a1
      have Zs217 : n0 ≤ h217.size := by rw [W217.size]; exact Zs216
      show Go p e below _ (T217.setTop (mkF m 152 #[.val (.ref a1), .val (.ref a2), .val (.ref a3), .val (.int (Int32.ofNat nz)), .val (.ref wb), .val (.int (Int32.ofNat i)), .val (.int (Int32.ofNat i)), sl] []))
      refine Go.retV X217 hx hlk Bd.returns (hb hby d20_152) (by decide) (by decide) ?_
      show QputS Z a1 a2 a3 wb kw bl cs sf eb ke ev vb kb nz h0 n0 _ T217.heap _
      rw [e217]
      have hiE : i = nz := by omega
      exact ⟨rfl, N217, K217, E_a1_218, F_bytes_a1_218, by have q := F_size_a1_217w; rw [hiE] at q; exact q, Arv.pad A_wb_218 (pad_rep [] (.int (0 : Int32)) nz)⟩
    | succ tl ih => 
      intro i sl Ts216 lc216 hs216 Xs216 es216 Ns216 Ks216 Zs216 Sta_s216_0 Sta_s216_1 Exa_s216_2 Fld_s216_3 Fld_s216_4 Arv_s216_5 hsl htl
      refine g_iload Xs216 hx (hb hby d20_73) 75 rfl (v := (Int32.ofNat i)) rfl ?_
      refine g_iloadN Xs216 hx (hb hby d20_75) 76 rfl (v := (Int32.ofNat nz)) rfl ?_
      refine g_icmp_ge Xs216 hx (hb hby d20_76) 146 79 (by decide) (by decide) rfl (fun hc76 => False.elim (hc76 (own_in (by omega) (by omega)).2)) (fun hc76 => ?_)
      refine g_aloadN Xs216 hx (hb hby d20_79) 80 rfl (v := (.ref a2)) rfl rfl ?_
      refine g_iload Xs216 hx (hb hby d20_80) 82 rfl (v := (Int32.ofNat i)) rfl ?_
      obtain ⟨cq219, kq219, q219a, q219b, q219c⟩ := isOf hZ es216 (Exa.keep E_a2 Ks216)
      obtain ⟨_, _, ⟨T219, L219, k219, n219⟩, -, X219, ⟨Lc219, hQ219, l219, y219, z219⟩, st219⟩ := Xs216.virtualBack hx (y := (⟨"java/lang/String", "charAt", "(I)C"⟩ : MethodName)) (z := (⟨"java/lang/String", "charAt", "(I)C"⟩ : MethodName)) hown (mvT hZ (hw _ (List.mem_of_getElem? (i := 197) rfl))) (mvT hZ (hw _ (List.mem_of_getElem? (i := 112) rfl))) (notFace_of_selects (args := #[]) (mvT hZ (hw _ (List.mem_of_getElem? (i := 114) rfl)))) (mvT hZ (hw _ (List.mem_of_getElem? (i := 114) rfl))) (mvT hZ (hw _ (List.mem_of_getElem? (i := 113) rfl))) (by decide) (backOf (W := 0) (rm22 l Z a0 hw [] a2 (Int32.ofNat i) cs sf vb kb (Int32.ofNat nz) (List.replicate nz (.int (0 : Int32))) (0 : Int32) hs216 n0 Zs216 Sta_s216_0 Sta_s216_1 (Exa.keep E_a2 Ks216) (Fld.keep F_value_a2 Ks216 (ninS ne_a2_a1 (ninS ne_a2_wb nin0))) (Fld.keep F_coder_a2 Ks216 (ninS ne_a2_a1 (ninS ne_a2_wb nin0))) (Arv.keep A_vb Ks216 (ninS ne_vb_a1 (ninS ne_vb_wb nin0))) hcs hsf (own_in (by omega) (by omega)) (own_zg _ _ _)) hZ (hw _ (List.mem_of_getElem? (i := 115) rfl)) (hw _ (List.mem_of_getElem? (i := 2) rfl)) (by decide) (by decide)) q219a q219c (g := (mkF m 82 #[.val (.ref a1), .val (.ref a2), .val (.ref a3), .val (.int (Int32.ofNat nz)), .val (.ref wb), .val (.int (Int32.ofNat i)), .val (.int (Int32.ofNat i)), sl] [(.int (Int32.ofNat i)), (.ref a2)])) rfl (by rw [hml]; rfl) (Steps.refl _) (argsL := [(.int (Int32.ofNat i))]) (rest := []) (lenOf own_pd16 rfl) rfl (by show 2 * 0 + _ ≤ _; exact Nat.le_of_eq rfl) (hb hby d20_82) (fun _ _ => ⟨rfl, es216, (by decide : 0 + 0 ≤ _), (by decide : 0 + 0 ≤ _)⟩)
      dsimp only [Pt.U, Pt.locs, Pt.cells, Pt.slots] at X219 l219 y219 z219 st219 hQ219
      subst l219 y219 z219
      obtain ⟨rfl, Nq219, e219⟩ := hQ219
      refine Go.tr st219 ?_
      have N219 := Fr.app Ns216 Nq219
      show Go p e below _ (T219.setTop (mkF m 85 #[.val (.ref a1), .val (.ref a2), .val (.ref a3), .val (.int (Int32.ofNat nz)), .val (.ref wb), .val (.int (Int32.ofNat i)), .val (.int (Int32.ofNat i)), sl] [(.int ((0 : Int32) &&& (255 : Int32)))]))
      refine g_istore X219 hx (hb hby d20_85) 87 rfl #[.val (.ref a1), .val (.ref a2), .val (.ref a3), .val (.int (Int32.ofNat nz)), .val (.ref wb), .val (.int (Int32.ofNat i)), .val (.int (Int32.ofNat i)), .val (.int ((0 : Int32) &&& (255 : Int32)))] (own_one hsl rfl rfl) ?_
      refine g_iload X219 hx (hb hby d20_87) 89 rfl (v := ((0 : Int32) &&& (255 : Int32))) rfl ?_
      refine g_sipush X219 hx (hb hby d20_89) 92 rfl (128 : Int32) rfl ?_
      refine g_icmp_ge X219 hx (hb hby d20_92) 118 95 (by decide) (by decide) rfl (fun hc92 => False.elim (hc92 (by decide))) (fun hc92 => ?_)
      refine g_aloadN X219 hx (hb hby d20_95) 96 rfl (v := (.ref a3)) rfl rfl ?_
      refine g_iload X219 hx (hb hby d20_96) 98 rfl (v := ((0 : Int32) &&& (255 : Int32))) rfl ?_
      obtain ⟨cq220, kq220, q220a, q220b, q220c⟩ := isOf hZ e219 (Exa.keep E_a3 Ks216)
      obtain ⟨_, _, ⟨T220, L220, k220, n220⟩, -, X220, ⟨Lc220, hQ220, l220, y220, z220⟩, st220⟩ := X219.virtualBack hx (y := (⟨"com/example/anagrafe/anagrafe/atom/Markup$Escape", "escapes", "(C)Z"⟩ : MethodName)) (z := (⟨"com/example/anagrafe/anagrafe/atom/Markup$Escape", "escapes", "(C)Z"⟩ : MethodName)) hown (mvT hZ (hw _ (List.mem_of_getElem? (i := 198) rfl))) (mvT hZ (hw _ (List.mem_of_getElem? (i := 199) rfl))) (notFace_of_selects (args := #[]) (mvT hZ (hw _ (List.mem_of_getElem? (i := 201) rfl)))) (mvT hZ (hw _ (List.mem_of_getElem? (i := 201) rfl))) (mvT hZ (hw _ (List.mem_of_getElem? (i := 200) rfl))) (by decide) (backOf (W := 0) (rmesc l Z a0 hw [] a3 eb ke ev hs216 n0 Zs216 (Fld.keep F_escaped_a3 Ks216 (ninS ne_a3_a1 (ninS ne_a3_wb nin0))) (Arv.keep A_eb Ks216 (ninS ne_eb_a1 (ninS ne_eb_wb nin0))) hev) hZ (hw _ (List.mem_of_getElem? (i := 202) rfl)) (hw _ (List.mem_of_getElem? (i := 97) rfl)) (by decide) (by decide)) q220a q220c (g := (mkF m 98 #[.val (.ref a1), .val (.ref a2), .val (.ref a3), .val (.int (Int32.ofNat nz)), .val (.ref wb), .val (.int (Int32.ofNat i)), .val (.int (Int32.ofNat i)), .val (.int ((0 : Int32) &&& (255 : Int32)))] [(.int ((0 : Int32) &&& (255 : Int32))), (.ref a3)])) rfl (by rw [hml]; rfl) (Steps.refl _) (argsL := [(.int ((0 : Int32) &&& (255 : Int32)))]) (rest := []) (lenOf own_pd1 rfl) rfl (by show 2 * 0 + _ ≤ _; exact Nat.le_of_eq rfl) (hb hby d20_98) (fun _ _ => ⟨rfl, e219, (by decide : 0 + 0 ≤ _), (by decide : 0 + 0 ≤ _)⟩)
      dsimp only [Pt.U, Pt.locs, Pt.cells, Pt.slots] at X220 l220 y220 z220 st220 hQ220
      subst l220 y220 z220
      obtain ⟨rfl, Nq220, e220⟩ := hQ220
      refine Go.tr st220 ?_
      have N220 := Fr.app N219 Nq220
      show Go p e below _ (T220.setTop (mkF m 101 #[.val (.ref a1), .val (.ref a2), .val (.ref a3), .val (.int (Int32.ofNat nz)), .val (.ref wb), .val (.int (Int32.ofNat i)), .val (.int (Int32.ofNat i)), .val (.int ((0 : Int32) &&& (255 : Int32)))] [(.int (0 : Int32))]))
      refine g_if_ne X220 hx (hb hby d20_101) 118 104 (by decide) (by decide) rfl (fun hc101 => False.elim (hc101 rfl)) (fun hc101 => ?_)
      refine g_aload X220 hx (hb hby d20_104) 106 rfl (v := (.ref wb)) rfl rfl ?_
      refine g_iload X220 hx (hb hby d20_106) 108 rfl (v := (Int32.ofNat i)) rfl ?_
      refine g_iinc X220 hx (hb hby d20_108) 111 rfl (x := (Int32.ofNat i)) rfl (Int32.ofNat (i + 1)) (own_up i) #[.val (.ref a1), .val (.ref a2), .val (.ref a3), .val (.int (Int32.ofNat nz)), .val (.ref wb), .val (.int (Int32.ofNat (i + 1))), .val (.int (Int32.ofNat i)), .val (.int ((0 : Int32) &&& (255 : Int32)))] rfl ?_
      refine g_iload X220 hx (hb hby d20_111) 113 rfl (v := ((0 : Int32) &&& (255 : Int32))) rfl ?_
      refine g_i2b X220 hx (hb hby d20_113) 114 rfl (0 : Int32) (by decide) ?_
      obtain ⟨T221, h221, X221, e221, W221, B221, st221⟩ := g_bastore X220 hx (hb hby d20_114) hZ e220 (show Arv Z hs216 wb kw .byte (Int32.ofNat bl) (List.replicate (i + 1) (.int (0 : Int32))) (.int (0 : Int32)) from Arv.pad Arv_s216_5 (pad_rep [] (.int (0 : Int32)) (i + 1))) (own_in (by omega) (by omega)) (i := i) (own_cl (by omega)) (by rw [List.length_replicate]; omega)  (L := #[.val (.ref a1), .val (.ref a2), .val (.ref a3), .val (.int (Int32.ofNat nz)), .val (.ref wb), .val (.int (Int32.ofNat (i + 1))), .val (.int (Int32.ofNat i)), .val (.int ((0 : Int32) &&& (255 : Int32)))]) (S := [])
      refine Go.st st221 ?_
      have S_COMPACT_STRINGS_222 : Sta Z h221 "java/lang/String" "COMPACT_STRINGS" "Z" (.int cs) := Sta.wr W221 Sta_s216_0
      have S_SIOOBE_FORMATTER_222 : Sta Z h221 "jdk/internal/util/Preconditions" "SIOOBE_FORMATTER" "Ljava/util/function/BiFunction;" sf := Sta.wr W221 Sta_s216_1
      have E_a1_222 : Exa Z h221 a1 "com/example/anagrafe/anagrafe/atom/Markup" := Exa.wr W221 Exa_s216_2
      have F_bytes_a1_222 : Fld Z h221 a1 "com/example/anagrafe/anagrafe/atom/Markup" "bytes" "[B" (.ref wb) := Fld.other W221 Fld_s216_3 (Or.inl ne_a1_wb)
      have F_size_a1_222 : Fld Z h221 a1 "com/example/anagrafe/anagrafe/atom/Markup" "size" "I" (.int (Int32.ofNat 0)) := Fld.other W221 Fld_s216_4 (Or.inl ne_a1_wb)
      have Av_wb_221 : Arv Z h221 wb kw .byte (Int32.ofNat bl) [] (.int (0 : Int32)) := (by have q := B221; rw [show nar .byte (0 : Int32) = 0 from by decide, own_zset] at q; exact Arv.pad q (fun j => (own_zg _ j _).symm))
      have K221 : Keep h0 h221 [a1, wb] := Keep.wr Ks216 W221 (Or.inl (List.mem_of_getElem? (i := 1) rfl))
      have N221 := Fr.snoc X221 N220 g_wb
      have Zs221 : n0 ≤ h221.size := by rw [W221.size]; exact Zs216
      show Go p e below _ (T221.setTop (mkF m 115 #[.val (.ref a1), .val (.ref a2), .val (.ref a3), .val (.int (Int32.ofNat nz)), .val (.ref wb), .val (.int (Int32.ofNat (i + 1))), .val (.int (Int32.ofNat i)), .val (.int ((0 : Int32) &&& (255 : Int32)))] []))
      refine g_goto X221 hx (hb hby d20_115) 140 (by decide) (by decide) ?_
      refine g_iinc X221 hx (hb hby d20_140) 143 rfl (x := (Int32.ofNat i)) rfl (Int32.ofNat (i + 1)) (own_up i) #[.val (.ref a1), .val (.ref a2), .val (.ref a3), .val (.int (Int32.ofNat nz)), .val (.ref wb), .val (.int (Int32.ofNat (i + 1))), .val (.int (Int32.ofNat (i + 1))), .val (.int ((0 : Int32) &&& (255 : Int32)))] rfl ?_
      refine g_goto X221 hx (hb hby d20_143) 73 (by decide) (by decide) ?_
      exact ih (i + 1) (.val (.int ((0 : Int32) &&& (255 : Int32)))) (own_mono X221 (by decide) (by decide)) e221 N221 K221 Zs221 S_COMPACT_STRINGS_222 S_SIOOBE_FORMATTER_222 E_a1_222 F_bytes_a1_222 F_size_a1_222 Av_wb_221 (One.val rfl) (by omega)
  exact lp nz 0 .unset (own_mono X215 (by decide) (by decide)) e215 N213 K0 Z0 S_COMPACT_STRINGS S_SIOOBE_FORMATTER E_a1 F_bytes_a1 F_size_a1 A_wb One.u (by omega)
theorem ef_txs (m : MethodId) (x0 : Addr) (x1 : Addr) : entryFrame m #[(.ref x0), (.ref x1)] 2 = mkF m 0 #[.val (.ref x0), .val (.ref x1)] [] := by first | (simp [entryFrame, mkF, argsToLocals, Value.category]; done) | rfl
theorem d17_0 : decode prog_9_method_7_code 0 = .ok (.aload_n 0, 1) := by decide +kernel
theorem d17_1 : decode prog_9_method_7_code 1 = .ok (.aload_n 1, 1) := by decide +kernel
theorem d17_2 : decode prog_9_method_7_code 2 = .ok (.invokevirtual 15, 3) := by decide +kernel
theorem d17_5 : decode prog_9_method_7_code 5 = .ok (.invokevirtual 21, 3) := by decide +kernel
theorem d17_8 : decode prog_9_method_7_code 8 = .ok (.aload_n 0, 1) := by decide +kernel
theorem d17_9 : decode prog_9_method_7_code 9 = .ok (.aload_n 1, 1) := by decide +kernel
theorem d17_10 : decode prog_9_method_7_code 10 = .ok (.getstatic 43, 3) := by decide +kernel
theorem own_pd27 : parseMethodDescriptor "(Ljava/lang/String;Lcom/example/anagrafe/anagrafe/atom/Markup$Escape;)V" = some ⟨[(.object "java/lang/String"), (.object "com/example/anagrafe/anagrafe/atom/Markup$Escape")], none⟩ := by decide +kernel
theorem d17_13 : decode prog_9_method_7_code 13 = .ok (.invokevirtual 39, 3) := by decide +kernel
theorem d17_16 : decode prog_9_method_7_code 16 = .ok (.return_, 1) := by decide +kernel
def Qtxs (Z : State) (a1 : Addr) (a2 : Addr) (wb : Addr) (kw : ClassId) (cs : Int32) (sf : Value) (te : Addr) (eb : Addr) (ke : ClassId) (ev : List Value) (vb : Addr) (kb : ClassId) (nz : Nat) (h0 : Heap) (n0 : Nat) (v : Option Value) (h : Heap) (L : List Loc) : Prop := v = none ∧ Fr n0 L ∧ Keep h0 h [a1, wb] ∧ (Exa Z h a1 "com/example/anagrafe/anagrafe/atom/Markup") ∧ (Fld Z h a1 "com/example/anagrafe/anagrafe/atom/Markup" "bytes" "[B" (.ref wb)) ∧ (Fld Z h a1 "com/example/anagrafe/anagrafe/atom/Markup" "size" "I" (.int (Int32.ofNat nz))) ∧ (Arv Z h wb kw .byte (Int32.ofNat 16384) (List.replicate nz (.int (0 : Int32))) (.int (0 : Int32)))
set_option maxRecDepth 65536 in
set_option maxHeartbeats 40000000 in
theorem rmtxs (l : Launch) (Z : State) (a0 : Array Value) (hw : ∀ d ∈ tables_1, d.before a0 Z = true) (ws : List Jvm.Cond) (a1 : Addr) (a2 : Addr) (wb : Addr) (kw : ClassId) (cs : Int32) (sf : Value) (te : Addr) (eb : Addr) (ke : ClassId) (ev : List Value) (vb : Addr) (kb : ClassId) (nz : Nat) (h0 : Heap) (n0 : Nat) (Z0 : n0 ≤ h0.size) (S_COMPACT_STRINGS : Sta Z h0 "java/lang/String" "COMPACT_STRINGS" "Z" (.int cs)) (S_SIOOBE_FORMATTER : Sta Z h0 "jdk/internal/util/Preconditions" "SIOOBE_FORMATTER" "Ljava/util/function/BiFunction;" sf) (S_TEXT : Sta Z h0 "com/example/anagrafe/anagrafe/atom/Markup$Escape" "TEXT" "Lcom/example/anagrafe/anagrafe/atom/Markup$Escape;" (.ref te)) (E_a1 : Exa Z h0 a1 "com/example/anagrafe/anagrafe/atom/Markup") (F_bytes_a1 : Fld Z h0 a1 "com/example/anagrafe/anagrafe/atom/Markup" "bytes" "[B" (.ref wb)) (F_size_a1 : Fld Z h0 a1 "com/example/anagrafe/anagrafe/atom/Markup" "size" "I" (.int (Int32.ofNat 0))) (A_wb : Arv Z h0 wb kw .byte (Int32.ofNat 16384) [] (.int (0 : Int32))) (g_a1 : n0 ≤ a1) (g_wb : n0 ≤ wb) (ne_a1_wb : a1 ≠ wb) (E_a2 : Exa Z h0 a2 "java/lang/String") (F_value_a2 : Fld Z h0 a2 "java/lang/String" "value" "[B" (.ref vb)) (F_coder_a2 : Fld Z h0 a2 "java/lang/String" "coder" "B" (.int (0 : Int32))) (A_vb : Arv Z h0 vb kb .byte (Int32.ofNat nz) (List.replicate nz (.int (0 : Int32))) (.int (0 : Int32))) (E_te : Exa Z h0 te "com/example/anagrafe/anagrafe/atom/Markup$Escape") (F_escaped_te : Fld Z h0 te "com/example/anagrafe/anagrafe/atom/Markup$Escape" "escaped" "[Z" (.ref eb)) (A_eb : Arv Z h0 eb ke .boolean (128 : Int32) ev (.int (0 : Int32))) (ne_a2_a1 : a2 ≠ a1) (ne_vb_a1 : vb ≠ a1) (ne_te_a1 : te ≠ a1) (ne_eb_a1 : eb ≠ a1) (ne_a2_wb : a2 ≠ wb) (ne_vb_wb : vb ≠ wb) (ne_te_wb : te ≠ wb) (ne_eb_wb : eb ≠ wb) (hcs : ¬ cs = 0) (hsf : sf.isRef = true) (hev : ev.getD 0 (.int (0 : Int32)) = .int 0) (hg : nz < 16) :
    MetFree l (⟨"com/example/anagrafe/anagrafe/atom/Markup", "text", "(Ljava/lang/String;)V"⟩ : MethodName) (head1 (Jvm.Cond.code (⟨"com/example/anagrafe/anagrafe/atom/Markup", "text", "(Ljava/lang/String;)V"⟩ : MethodName) prog_9_method_7_code 2 none :: ws) ({ frames := 5, cells := 0, slots := 0, locals := 72 } : Room)) (fun a U => a = #[(.ref a1), (.ref a2)] ∧ Z.Warmed39 U.vm ∧ U.heap = h0) (fun _ _ _ _ _ => True) (fun _ U o U' => ∃ v L, o = .returned v ∧ Qtxs Z a1 a2 wb kw cs sf te eb ke ev vb kb nz h0 n0 v U'.heap L ∧ FrameEnd U o U' L ({ frames := 5, cells := 0, slots := 0, locals := 72 } : Room).cells ({ frames := 5, cells := 0, slots := 0, locals := 72 } : Room).slots) := by
  refine MetFree.of_bodySF (plainFor_of_name own_pn_com_example_anagrafe_anagrafe_atom_Markup) hisR ?_
  intro p e s m args below meth c s₁ Bd hml0 hP hK
  obtain ⟨rfl, hZ, hh⟩ := hP
  have hx := Bd.exec
  have hby := Bd.bytes
  have hlk := Bd.notSynchronized
  have hml : c.maxLocals = 2 := hml0
  have hown : s.vm.findClass "com/example/anagrafe/anagrafe/atom/Markup" = some m.cls := findClass_of_methodNamed Bd.named
  have hnm := (name_of_methodNamed Bd.named Bd.method).1
  have X0 : Stand p l e ({ frames := 5, cells := 0, slots := 0, locals := 72 } : Room) s m #[(.ref a1), (.ref a2)] below meth c s₁ [] 0 0 := Stand.of_body Bd
  have e0 : s₁.heap = h0 := by rw [← hh, Bd.state]; rfl
  have N0 := Fr.nil n0
  have K0 : Keep h0 h0 [a1, wb] := Keep.refl _ _
  show Go p e below (KQ s below (Qtxs Z a1 a2 wb kw cs sf te eb ke ev vb kb nz h0 n0) ({ frames := 5, cells := 0, slots := 0, locals := 72 } : Room).cells ({ frames := 5, cells := 0, slots := 0, locals := 72 } : Room).slots) _
  refine Go.body (T := s₁) (σ := s₁) (g' := (mkF m 0 #[.val (.ref a1), .val (.ref a2)] [])) (ef_txs m a1 a2) ?_
  refine g_aloadN X0 hx (hb hby d17_0) 1 rfl (v := (.ref a1)) rfl rfl ?_
  refine g_aloadN X0 hx (hb hby d17_1) 2 rfl (v := (.ref a2)) rfl rfl ?_
  obtain ⟨cq223, kq223, q223a, q223b, q223c⟩ := isOf hZ e0 E_a2
  obtain ⟨_, _, ⟨T223, L223, k223, n223⟩, -, X223, ⟨Lc223, hQ223, l223, y223, z223⟩, st223⟩ := X0.virtualBack hx (y := (⟨"java/lang/String", "length", "()I"⟩ : MethodName)) (z := (⟨"java/lang/String", "length", "()I"⟩ : MethodName)) hown (mvT hZ (hw _ (List.mem_of_getElem? (i := 86) rfl))) (mvT hZ (hw _ (List.mem_of_getElem? (i := 87) rfl))) (notFace_of_selects (args := #[]) (mvT hZ (hw _ (List.mem_of_getElem? (i := 89) rfl)))) (mvT hZ (hw _ (List.mem_of_getElem? (i := 89) rfl))) (mvT hZ (hw _ (List.mem_of_getElem? (i := 88) rfl))) (by decide) (backOf (W := 1) (rm18 l Z a0 hw [] a2 cs vb kb (Int32.ofNat nz) (List.replicate nz (.int (0 : Int32))) h0 n0 Z0 S_COMPACT_STRINGS E_a2 F_value_a2 F_coder_a2 A_vb hcs) hZ (hw _ (List.mem_of_getElem? (i := 90) rfl)) (hw _ (List.mem_of_getElem? (i := 2) rfl)) (by decide) (by decide)) q223a q223c (g := (mkF m 2 #[.val (.ref a1), .val (.ref a2)] [(.ref a2), (.ref a1)])) rfl (by rw [hml]; rfl) (Steps.refl _) (argsL := []) (rest := [(.ref a1)]) (lenOf own_pd15 rfl) rfl (by show 2 * 0 + _ ≤ _; exact Nat.le_of_eq rfl) (hb hby d17_2) (fun _ _ => ⟨rfl, e0, (by decide : 0 + 0 ≤ _), (by decide : 0 + 0 ≤ _)⟩)
  dsimp only [Pt.U, Pt.locs, Pt.cells, Pt.slots] at X223 l223 y223 z223 st223 hQ223
  subst l223 y223 z223
  obtain ⟨rfl, Nq223, e223⟩ := hQ223
  refine Go.tr st223 ?_
  have N223 := Fr.app N0 Nq223
  show Go p e below _ (T223.setTop (mkF m 5 #[.val (.ref a1), .val (.ref a2)] [(.int (Int32.ofNat nz)), (.ref a1)]))
  obtain ⟨cq224, q224, q224'⟩ := Exa.cell E_a1
  obtain ⟨_, _, ⟨T224, L224, k224, n224⟩, -, X224, ⟨Lc224, hQ224, l224, y224, z224⟩, st224⟩ := X223.privateBack hx (y := (⟨"com/example/anagrafe/anagrafe/atom/Markup", "room", "(I)V"⟩ : MethodName)) hown (mvT hZ (hw _ (List.mem_of_getElem? (i := 58) rfl))) (mvT hZ (hw _ (List.mem_of_getElem? (i := 59) rfl))) (own_selP (mvT hZ (hw _ (List.mem_of_getElem? (i := 45) rfl)) (args := #[])) (Cond.privateMethod_at (mvP hZ (hw _ (List.mem_of_getElem? (i := 60) rfl)) (args := #[]))) (mvT hZ (hw _ (List.mem_of_getElem? (i := 59) rfl))) (by decide)) (Cond.privateMethod_at (mvP hZ (hw _ (List.mem_of_getElem? (i := 60) rfl)) (args := #[]))) (mvT hZ (hw _ (List.mem_of_getElem? (i := 61) rfl))) (by decide) (backOf (W := 0) (rm13 l Z a0 hw [] a1 (Int32.ofNat nz) wb kw 0 [] 16384 h0 n0 Z0 E_a1 F_bytes_a1 F_size_a1 A_wb (own_nf (N := 0) (own_mul6 nz) (by omega) (by omega))) hZ (hw _ (List.mem_of_getElem? (i := 61) rfl)) (hw _ (List.mem_of_getElem? (i := 46) rfl)) (by decide) (by decide)) (g := (mkF m 5 #[.val (.ref a1), .val (.ref a2)] [(.int (Int32.ofNat nz)), (.ref a1)])) rfl (by rw [hml]; rfl) (Steps.refl _) (a := a1) (by rw [e223]; exact q224) q224' (argsL := [(.int (Int32.ofNat nz))]) (rest := []) (lenOf own_pd14 rfl) rfl (by show 2 * 0 + _ ≤ _; exact Nat.le_of_eq rfl) (hb hby d17_5) (fun _ _ => ⟨rfl, e223, (by decide : 0 + 0 ≤ _), (by decide : 0 + 0 ≤ _)⟩)
  dsimp only [Pt.U, Pt.locs, Pt.cells, Pt.slots] at X224 l224 y224 z224 st224 hQ224
  subst l224 y224 z224
  obtain ⟨rfl, Nq224, e224⟩ := hQ224
  refine Go.tr st224 ?_
  have N224 := Fr.app N223 Nq224
  show Go p e below _ (T224.setTop (mkF m 8 #[.val (.ref a1), .val (.ref a2)] []))
  refine g_aloadN X224 hx (hb hby d17_8) 9 rfl (v := (.ref a1)) rfl rfl ?_
  refine g_aloadN X224 hx (hb hby d17_9) 10 rfl (v := (.ref a2)) rfl rfl ?_
  obtain ⟨T225, X225, e225, st225⟩ := getS2 X224 hx hZ hown (host := "") (Or.inl (hw _ (List.mem_of_getElem? (i := 96) rfl))) Via.refl e224 S_TEXT (g := (mkF m 10 #[.val (.ref a1), .val (.ref a2)] [(.ref a2), (.ref a1)])) rfl (hb hby d17_10)
  refine Go.st st225 ?_
  show Go p e below _ (T225.setTop (mkF m 13 #[.val (.ref a1), .val (.ref a2)] [(.ref te), (.ref a2), (.ref a1)]))
  obtain ⟨cq226, q226, q226'⟩ := Exa.cell E_a1
  obtain ⟨_, _, ⟨T226, L226, k226, n226⟩, -, X226, ⟨Lc226, hQ226, l226, y226, z226⟩, st226⟩ := X225.privateBack hx (y := (⟨"com/example/anagrafe/anagrafe/atom/Markup", "put", "(Ljava/lang/String;Lcom/example/anagrafe/anagrafe/atom/Markup$Escape;)V"⟩ : MethodName)) hown (mvT hZ (hw _ (List.mem_of_getElem? (i := 99) rfl))) (mvT hZ (hw _ (List.mem_of_getElem? (i := 100) rfl))) (own_selP (mvT hZ (hw _ (List.mem_of_getElem? (i := 45) rfl)) (args := #[])) (Cond.privateMethod_at (mvP hZ (hw _ (List.mem_of_getElem? (i := 101) rfl)) (args := #[]))) (mvT hZ (hw _ (List.mem_of_getElem? (i := 100) rfl))) (by decide)) (Cond.privateMethod_at (mvP hZ (hw _ (List.mem_of_getElem? (i := 101) rfl)) (args := #[]))) (mvT hZ (hw _ (List.mem_of_getElem? (i := 102) rfl))) (by decide) (backOf (W := 0) (rmputS l Z a0 hw [] a1 a2 te wb kw 16384 cs sf eb ke ev vb kb nz h0 n0 Z0 S_COMPACT_STRINGS S_SIOOBE_FORMATTER E_a1 F_bytes_a1 F_size_a1 A_wb g_a1 g_wb ne_a1_wb E_a2 F_value_a2 F_coder_a2 A_vb E_te F_escaped_te A_eb ne_a2_a1 ne_vb_a1 ne_te_a1 ne_eb_a1 ne_a2_wb ne_vb_wb ne_te_wb ne_eb_wb hcs hsf (by decide) hev (by omega)) hZ (hw _ (List.mem_of_getElem? (i := 102) rfl)) (hw _ (List.mem_of_getElem? (i := 46) rfl)) (by decide) (by decide)) (g := (mkF m 13 #[.val (.ref a1), .val (.ref a2)] [(.ref te), (.ref a2), (.ref a1)])) rfl (by rw [hml]; rfl) (Steps.refl _) (a := a1) (by rw [e225]; exact q226) q226' (argsL := [(.ref a2), (.ref te)]) (rest := []) (lenOf own_pd27 rfl) rfl (by show 2 * 0 + _ ≤ _; exact Nat.le_of_eq rfl) (hb hby d17_13) (fun _ _ => ⟨rfl, e225, (by decide : 0 + 0 ≤ _), (by decide : 0 + 0 ≤ _)⟩)
  dsimp only [Pt.U, Pt.locs, Pt.cells, Pt.slots] at X226 l226 y226 z226 st226 hQ226
  subst l226 y226 z226
  obtain ⟨rfl, Nq226, Kq226, f226_0, f226_1, f226_2, f226_3⟩ := hQ226
  refine Go.tr st226 ?_
  have N226 := Fr.app N224 Nq226
  have S_COMPACT_STRINGS_227 : Sta Z T226.heap "java/lang/String" "COMPACT_STRINGS" "Z" (.int cs) := own_Sta_keep S_COMPACT_STRINGS Kq226 (allS (own_ns E_a1) (allS (own_nsA A_wb) all0))
  have S_SIOOBE_FORMATTER_227 : Sta Z T226.heap "jdk/internal/util/Preconditions" "SIOOBE_FORMATTER" "Ljava/util/function/BiFunction;" sf := own_Sta_keep S_SIOOBE_FORMATTER Kq226 (allS (own_ns E_a1) (allS (own_nsA A_wb) all0))
  have S_TEXT_227 : Sta Z T226.heap "com/example/anagrafe/anagrafe/atom/Markup$Escape" "TEXT" "Lcom/example/anagrafe/anagrafe/atom/Markup$Escape;" (.ref te) := own_Sta_keep S_TEXT Kq226 (allS (own_ns E_a1) (allS (own_nsA A_wb) all0))
  have E_a1_227 : Exa Z T226.heap a1 "com/example/anagrafe/anagrafe/atom/Markup" := Exa.keep E_a1 Kq226
  have K226 : Keep h0 T226.heap [a1, wb] := Keep.trans K0 Kq226 (allS (Or.inl (List.mem_of_getElem? (i := 0) rfl)) (allS (Or.inl (List.mem_of_getElem? (i := 1) rfl)) all0))
  have Zs226 : n0 ≤ T226.heap.size := Nat.le_trans Z0 Kq226.1
  show Go p e below _ (T226.setTop (mkF m 16 #[.val (.ref a1), .val (.ref a2)] []))
  refine Go.retV X226 hx hlk Bd.returns (hb hby d17_16) (by decide) (by decide) ?_
  show Qtxs Z a1 a2 wb kw cs sf te eb ke ev vb kb nz h0 n0 _ T226.heap _
  exact ⟨rfl, N226, K226, f226_0, f226_1, f226_2, f226_3⟩
theorem ef_txm (m : MethodId) (x0 : Addr) (x1 : Addr) : entryFrame m #[(.ref x0), (.ref x1)] 2 = mkF m 0 #[.val (.ref x0), .val (.ref x1)] [] := by first | (simp [entryFrame, mkF, argsToLocals, Value.category]; done) | rfl
def Qtxm (Z : State) (a1 : Addr) (a2 : Addr) (wb : Addr) (kw : ClassId) (cs : Int32) (sf : Value) (te : Addr) (u8 : Addr) (ca : Addr) (cv : Addr) (kcv : ClassId) (vb : Addr) (kb : ClassId) (nz : Nat) (h0 : Heap) (n0 : Nat) (v : Option Value) (h : Heap) (L : List Loc) : Prop := v = none ∧ Fr n0 L ∧ Keep h0 h [a1, wb] ∧ (Exa Z h a1 "com/example/anagrafe/anagrafe/atom/Markup") ∧ (Fld Z h a1 "com/example/anagrafe/anagrafe/atom/Markup" "bytes" "[B" (.ref wb)) ∧ (Fld Z h a1 "com/example/anagrafe/anagrafe/atom/Markup" "size" "I" (.int (Int32.ofNat nz))) ∧ (Arv Z h wb kw .byte (Int32.ofNat 16384) (List.replicate nz (.int (0 : Int32))) (.int (0 : Int32)))
set_option maxRecDepth 65536 in
set_option maxHeartbeats 40000000 in
theorem rmtxm (l : Launch) (Z : State) (a0 : Array Value) (hw : ∀ d ∈ tables_1, d.before a0 Z = true) (ws : List Jvm.Cond) (a1 : Addr) (a2 : Addr) (wb : Addr) (kw : ClassId) (cs : Int32) (sf : Value) (te : Addr) (u8 : Addr) (ca : Addr) (cv : Addr) (kcv : ClassId) (vb : Addr) (kb : ClassId) (nz : Nat) (h0 : Heap) (n0 : Nat) (Z0 : n0 ≤ h0.size) (S_COMPACT_STRINGS : Sta Z h0 "java/lang/String" "COMPACT_STRINGS" "Z" (.int cs)) (S_SIOOBE_FORMATTER : Sta Z h0 "jdk/internal/util/Preconditions" "SIOOBE_FORMATTER" "Ljava/util/function/BiFunction;" sf) (S_TEXT : Sta Z h0 "com/example/anagrafe/anagrafe/atom/Markup$Escape" "TEXT" "Lcom/example/anagrafe/anagrafe/atom/Markup$Escape;" (.ref te)) (S_INSTANCE : Sta Z h0 "sun/nio/cs/UTF_8" "INSTANCE" "Lsun/nio/cs/UTF_8;" (.ref u8)) (S_UTF_8 : Sta Z h0 "java/nio/charset/StandardCharsets" "UTF_8" "Ljava/nio/charset/Charset;" (.ref u8)) (E_a1 : Exa Z h0 a1 "com/example/anagrafe/anagrafe/atom/Markup") (F_bytes_a1 : Fld Z h0 a1 "com/example/anagrafe/anagrafe/atom/Markup" "bytes" "[B" (.ref wb)) (F_size_a1 : Fld Z h0 a1 "com/example/anagrafe/anagrafe/atom/Markup" "size" "I" (.int (Int32.ofNat 0))) (A_wb : Arv Z h0 wb kw .byte (Int32.ofNat 16384) [] (.int (0 : Int32))) (g_a1 : n0 ≤ a1) (g_wb : n0 ≤ wb) (ne_a1_wb : a1 ≠ wb) (E_a2 : Exa Z h0 a2 "java/lang/String") (F_value_a2 : Fld Z h0 a2 "java/lang/String" "value" "[B" (.ref vb)) (F_coder_a2 : Fld Z h0 a2 "java/lang/String" "coder" "B" (.int (0 : Int32))) (A_vb : Arv Z h0 vb kb .byte (Int32.ofNat nz) (List.replicate nz (.int (0 : Int32))) (.int (0 : Int32))) (E_vb : Exa Z h0 vb "[B") (E_te : Exa Z h0 te "com/example/anagrafe/anagrafe/atom/Markup$Escape") (F_characters_te : Fld Z h0 te "com/example/anagrafe/anagrafe/atom/Markup$Escape" "characters" "Ljava/lang/String;" (.ref ca)) (E_ca : Exa Z h0 ca "java/lang/String") (F_value_ca : Fld Z h0 ca "java/lang/String" "value" "[B" (.ref cv)) (F_coder_ca : Fld Z h0 ca "java/lang/String" "coder" "B" (.int (0 : Int32))) (A_cv : Arv Z h0 cv kcv .byte (3 : Int32) ([(.int (38 : Int32)), (.int (60 : Int32)), (.int (62 : Int32))]) (.int (0 : Int32))) (ne_a2_a1 : a2 ≠ a1) (ne_vb_a1 : vb ≠ a1) (ne_te_a1 : te ≠ a1) (ne_ca_a1 : ca ≠ a1) (ne_cv_a1 : cv ≠ a1) (ne_a2_wb : a2 ≠ wb) (ne_vb_wb : vb ≠ wb) (ne_te_wb : te ≠ wb) (ne_ca_wb : ca ≠ wb) (ne_cv_wb : cv ≠ wb) (hcs : ¬ cs = 0) (hsf : sf.isRef = true) (hn : nz ≤ 4095) (hg : 16 ≤ nz ∧ 6 * nz ≤ 16384) :
    MetFree l (⟨"com/example/anagrafe/anagrafe/atom/Markup", "text", "(Ljava/lang/String;)V"⟩ : MethodName) (head1 (Jvm.Cond.code (⟨"com/example/anagrafe/anagrafe/atom/Markup", "text", "(Ljava/lang/String;)V"⟩ : MethodName) prog_9_method_7_code 2 none :: ws) ({ frames := 6, cells := 1, slots := 4095, locals := 96 } : Room)) (fun a U => a = #[(.ref a1), (.ref a2)] ∧ Z.Warmed39 U.vm ∧ U.heap = h0) (fun _ _ _ _ _ => True) (fun _ U o U' => ∃ v L, o = .returned v ∧ Qtxm Z a1 a2 wb kw cs sf te u8 ca cv kcv vb kb nz h0 n0 v U'.heap L ∧ FrameEnd U o U' L ({ frames := 6, cells := 1, slots := 4095, locals := 96 } : Room).cells ({ frames := 6, cells := 1, slots := 4095, locals := 96 } : Room).slots) := by
  refine MetFree.of_bodySF (plainFor_of_name own_pn_com_example_anagrafe_anagrafe_atom_Markup) hisR ?_
  intro p e s m args below meth c s₁ Bd hml0 hP hK
  obtain ⟨rfl, hZ, hh⟩ := hP
  have hx := Bd.exec
  have hby := Bd.bytes
  have hlk := Bd.notSynchronized
  have hml : c.maxLocals = 2 := hml0
  have hown : s.vm.findClass "com/example/anagrafe/anagrafe/atom/Markup" = some m.cls := findClass_of_methodNamed Bd.named
  have hnm := (name_of_methodNamed Bd.named Bd.method).1
  have X0 : Stand p l e ({ frames := 6, cells := 1, slots := 4095, locals := 96 } : Room) s m #[(.ref a1), (.ref a2)] below meth c s₁ [] 0 0 := Stand.of_body Bd
  have e0 : s₁.heap = h0 := by rw [← hh, Bd.state]; rfl
  have N0 := Fr.nil n0
  have K0 : Keep h0 h0 [a1, wb] := Keep.refl _ _
  show Go p e below (KQ s below (Qtxm Z a1 a2 wb kw cs sf te u8 ca cv kcv vb kb nz h0 n0) ({ frames := 6, cells := 1, slots := 4095, locals := 96 } : Room).cells ({ frames := 6, cells := 1, slots := 4095, locals := 96 } : Room).slots) _
  refine Go.body (T := s₁) (σ := s₁) (g' := (mkF m 0 #[.val (.ref a1), .val (.ref a2)] [])) (ef_txm m a1 a2) ?_
  refine g_aloadN X0 hx (hb hby d17_0) 1 rfl (v := (.ref a1)) rfl rfl ?_
  refine g_aloadN X0 hx (hb hby d17_1) 2 rfl (v := (.ref a2)) rfl rfl ?_
  obtain ⟨cq228, kq228, q228a, q228b, q228c⟩ := isOf hZ e0 E_a2
  obtain ⟨_, _, ⟨T228, L228, k228, n228⟩, -, X228, ⟨Lc228, hQ228, l228, y228, z228⟩, st228⟩ := X0.virtualBack hx (y := (⟨"java/lang/String", "length", "()I"⟩ : MethodName)) (z := (⟨"java/lang/String", "length", "()I"⟩ : MethodName)) hown (mvT hZ (hw _ (List.mem_of_getElem? (i := 86) rfl))) (mvT hZ (hw _ (List.mem_of_getElem? (i := 87) rfl))) (notFace_of_selects (args := #[]) (mvT hZ (hw _ (List.mem_of_getElem? (i := 89) rfl)))) (mvT hZ (hw _ (List.mem_of_getElem? (i := 89) rfl))) (mvT hZ (hw _ (List.mem_of_getElem? (i := 88) rfl))) (by decide) (backOf (W := 1) (rm18 l Z a0 hw [] a2 cs vb kb (Int32.ofNat nz) (List.replicate nz (.int (0 : Int32))) h0 n0 Z0 S_COMPACT_STRINGS E_a2 F_value_a2 F_coder_a2 A_vb hcs) hZ (hw _ (List.mem_of_getElem? (i := 90) rfl)) (hw _ (List.mem_of_getElem? (i := 2) rfl)) (by decide) (by decide)) q228a q228c (g := (mkF m 2 #[.val (.ref a1), .val (.ref a2)] [(.ref a2), (.ref a1)])) rfl (by rw [hml]; rfl) (Steps.refl _) (argsL := []) (rest := [(.ref a1)]) (lenOf own_pd15 rfl) rfl (by show 2 * 0 + _ ≤ _; exact Nat.le_of_eq rfl) (hb hby d17_2) (fun _ _ => ⟨rfl, e0, (by decide : 0 + 0 ≤ _), (by decide : 0 + 0 ≤ _)⟩)
  dsimp only [Pt.U, Pt.locs, Pt.cells, Pt.slots] at X228 l228 y228 z228 st228 hQ228
  subst l228 y228 z228
  obtain ⟨rfl, Nq228, e228⟩ := hQ228
  refine Go.tr st228 ?_
  have N228 := Fr.app N0 Nq228
  show Go p e below _ (T228.setTop (mkF m 5 #[.val (.ref a1), .val (.ref a2)] [(.int (Int32.ofNat nz)), (.ref a1)]))
  obtain ⟨cq229, q229, q229'⟩ := Exa.cell E_a1
  obtain ⟨_, _, ⟨T229, L229, k229, n229⟩, -, X229, ⟨Lc229, hQ229, l229, y229, z229⟩, st229⟩ := X228.privateBack hx (y := (⟨"com/example/anagrafe/anagrafe/atom/Markup", "room", "(I)V"⟩ : MethodName)) hown (mvT hZ (hw _ (List.mem_of_getElem? (i := 58) rfl))) (mvT hZ (hw _ (List.mem_of_getElem? (i := 59) rfl))) (own_selP (mvT hZ (hw _ (List.mem_of_getElem? (i := 45) rfl)) (args := #[])) (Cond.privateMethod_at (mvP hZ (hw _ (List.mem_of_getElem? (i := 60) rfl)) (args := #[]))) (mvT hZ (hw _ (List.mem_of_getElem? (i := 59) rfl))) (by decide)) (Cond.privateMethod_at (mvP hZ (hw _ (List.mem_of_getElem? (i := 60) rfl)) (args := #[]))) (mvT hZ (hw _ (List.mem_of_getElem? (i := 61) rfl))) (by decide) (backOf (W := 0) (rm13 l Z a0 hw [] a1 (Int32.ofNat nz) wb kw 0 [] 16384 h0 n0 Z0 E_a1 F_bytes_a1 F_size_a1 A_wb (own_nf (N := 0) (own_mul6 nz) (by omega) (by omega))) hZ (hw _ (List.mem_of_getElem? (i := 61) rfl)) (hw _ (List.mem_of_getElem? (i := 46) rfl)) (by decide) (by decide)) (g := (mkF m 5 #[.val (.ref a1), .val (.ref a2)] [(.int (Int32.ofNat nz)), (.ref a1)])) rfl (by rw [hml]; rfl) (Steps.refl _) (a := a1) (by rw [e228]; exact q229) q229' (argsL := [(.int (Int32.ofNat nz))]) (rest := []) (lenOf own_pd14 rfl) rfl (by show 2 * 0 + _ ≤ _; exact Nat.le_of_eq rfl) (hb hby d17_5) (fun _ _ => ⟨rfl, e228, (by decide : 0 + 0 ≤ _), (by decide : 0 + 0 ≤ _)⟩)
  dsimp only [Pt.U, Pt.locs, Pt.cells, Pt.slots] at X229 l229 y229 z229 st229 hQ229
  subst l229 y229 z229
  obtain ⟨rfl, Nq229, e229⟩ := hQ229
  refine Go.tr st229 ?_
  have N229 := Fr.app N228 Nq229
  show Go p e below _ (T229.setTop (mkF m 8 #[.val (.ref a1), .val (.ref a2)] []))
  refine g_aloadN X229 hx (hb hby d17_8) 9 rfl (v := (.ref a1)) rfl rfl ?_
  refine g_aloadN X229 hx (hb hby d17_9) 10 rfl (v := (.ref a2)) rfl rfl ?_
  obtain ⟨T230, X230, e230, st230⟩ := getS2 X229 hx hZ hown (host := "") (Or.inl (hw _ (List.mem_of_getElem? (i := 96) rfl))) Via.refl e229 S_TEXT (g := (mkF m 10 #[.val (.ref a1), .val (.ref a2)] [(.ref a2), (.ref a1)])) rfl (hb hby d17_10)
  refine Go.st st230 ?_
  show Go p e below _ (T230.setTop (mkF m 13 #[.val (.ref a1), .val (.ref a2)] [(.ref te), (.ref a2), (.ref a1)]))
  obtain ⟨cq231, q231, q231'⟩ := Exa.cell E_a1
  obtain ⟨_, _, ⟨T231, L231, k231, n231⟩, -, X231, ⟨Lc231, hQ231, l231, y231, z231⟩, st231⟩ := X230.privateBack hx (y := (⟨"com/example/anagrafe/anagrafe/atom/Markup", "put", "(Ljava/lang/String;Lcom/example/anagrafe/anagrafe/atom/Markup$Escape;)V"⟩ : MethodName)) hown (mvT hZ (hw _ (List.mem_of_getElem? (i := 99) rfl))) (mvT hZ (hw _ (List.mem_of_getElem? (i := 100) rfl))) (own_selP (mvT hZ (hw _ (List.mem_of_getElem? (i := 45) rfl)) (args := #[])) (Cond.privateMethod_at (mvP hZ (hw _ (List.mem_of_getElem? (i := 101) rfl)) (args := #[]))) (mvT hZ (hw _ (List.mem_of_getElem? (i := 100) rfl))) (by decide)) (Cond.privateMethod_at (mvP hZ (hw _ (List.mem_of_getElem? (i := 101) rfl)) (args := #[]))) (mvT hZ (hw _ (List.mem_of_getElem? (i := 102) rfl))) (by decide) (backOf (W := 0) (rmputB l Z a0 hw [] a1 a2 te wb kw 16384 cs sf u8 ca cv kcv vb kb nz h0 n0 Z0 S_COMPACT_STRINGS S_SIOOBE_FORMATTER S_INSTANCE S_UTF_8 E_a1 F_bytes_a1 F_size_a1 A_wb g_a1 g_wb ne_a1_wb E_a2 F_value_a2 F_coder_a2 A_vb E_vb E_te F_characters_te E_ca F_value_ca F_coder_ca A_cv ne_a2_a1 ne_vb_a1 ne_te_a1 ne_ca_a1 ne_cv_a1 ne_a2_wb ne_vb_wb ne_te_wb ne_ca_wb ne_cv_wb hcs hsf (by decide) hn (by omega)) hZ (hw _ (List.mem_of_getElem? (i := 102) rfl)) (hw _ (List.mem_of_getElem? (i := 46) rfl)) (by decide) (by decide)) (g := (mkF m 13 #[.val (.ref a1), .val (.ref a2)] [(.ref te), (.ref a2), (.ref a1)])) rfl (by rw [hml]; rfl) (Steps.refl _) (a := a1) (by rw [e230]; exact q231) q231' (argsL := [(.ref a2), (.ref te)]) (rest := []) (lenOf own_pd27 rfl) rfl (by show 2 * 0 + _ ≤ _; exact Nat.le_of_eq rfl) (hb hby d17_13) (fun _ _ => ⟨rfl, e230, (by decide : 0 + 1 ≤ _), (by decide : 0 + 4095 ≤ _)⟩)
  dsimp only [Pt.U, Pt.locs, Pt.cells, Pt.slots] at X231 l231 y231 z231 st231 hQ231
  subst l231 y231 z231
  obtain ⟨rfl, Nq231, Kq231, f231_0, f231_1, f231_2, f231_3⟩ := hQ231
  refine Go.tr st231 ?_
  have N231 := Fr.app N229 Nq231
  have S_COMPACT_STRINGS_232 : Sta Z T231.heap "java/lang/String" "COMPACT_STRINGS" "Z" (.int cs) := own_Sta_keep S_COMPACT_STRINGS Kq231 (allS (own_ns E_a1) (allS (own_nsA A_wb) all0))
  have S_SIOOBE_FORMATTER_232 : Sta Z T231.heap "jdk/internal/util/Preconditions" "SIOOBE_FORMATTER" "Ljava/util/function/BiFunction;" sf := own_Sta_keep S_SIOOBE_FORMATTER Kq231 (allS (own_ns E_a1) (allS (own_nsA A_wb) all0))
  have S_TEXT_232 : Sta Z T231.heap "com/example/anagrafe/anagrafe/atom/Markup$Escape" "TEXT" "Lcom/example/anagrafe/anagrafe/atom/Markup$Escape;" (.ref te) := own_Sta_keep S_TEXT Kq231 (allS (own_ns E_a1) (allS (own_nsA A_wb) all0))
  have S_INSTANCE_232 : Sta Z T231.heap "sun/nio/cs/UTF_8" "INSTANCE" "Lsun/nio/cs/UTF_8;" (.ref u8) := own_Sta_keep S_INSTANCE Kq231 (allS (own_ns E_a1) (allS (own_nsA A_wb) all0))
  have S_UTF_8_232 : Sta Z T231.heap "java/nio/charset/StandardCharsets" "UTF_8" "Ljava/nio/charset/Charset;" (.ref u8) := own_Sta_keep S_UTF_8 Kq231 (allS (own_ns E_a1) (allS (own_nsA A_wb) all0))
  have E_a1_232 : Exa Z T231.heap a1 "com/example/anagrafe/anagrafe/atom/Markup" := Exa.keep E_a1 Kq231
  have K231 : Keep h0 T231.heap [a1, wb] := Keep.trans K0 Kq231 (allS (Or.inl (List.mem_of_getElem? (i := 0) rfl)) (allS (Or.inl (List.mem_of_getElem? (i := 1) rfl)) all0))
  have Zs231 : n0 ≤ T231.heap.size := Nat.le_trans Z0 Kq231.1
  show Go p e below _ (T231.setTop (mkF m 16 #[.val (.ref a1), .val (.ref a2)] []))
  refine Go.retV X231 hx hlk Bd.returns (hb hby d17_16) (by decide) (by decide) ?_
  show Qtxm Z a1 a2 wb kw cs sf te u8 ca cv kcv vb kb nz h0 n0 _ T231.heap _
  exact ⟨rfl, N231, K231, f231_0, f231_1, f231_2, f231_3⟩
theorem ef_txG (m : MethodId) (x0 : Addr) (x1 : Addr) : entryFrame m #[(.ref x0), (.ref x1)] 2 = mkF m 0 #[.val (.ref x0), .val (.ref x1)] [] := by first | (simp [entryFrame, mkF, argsToLocals, Value.category]; done) | rfl
def QtxG (Z : State) (a1 : Addr) (a2 : Addr) (wb : Addr) (kw : ClassId) (cs : Int32) (sf : Value) (te : Addr) (u8 : Addr) (ca : Addr) (cv : Addr) (kcv : ClassId) (vb : Addr) (kb : ClassId) (nz : Nat) (h0 : Heap) (n0 : Nat) (v : Option Value) (h : Heap) (L : List Loc) : Prop := ∃ wq : Addr, ∃ kq : ClassId, v = none ∧ Fr n0 L ∧ Keep h0 h [a1] ∧ h0.size ≤ wq ∧ (Exa Z h a1 "com/example/anagrafe/anagrafe/atom/Markup") ∧ (Fld Z h a1 "com/example/anagrafe/anagrafe/atom/Markup" "bytes" "[B" (.ref wq)) ∧ (Fld Z h a1 "com/example/anagrafe/anagrafe/atom/Markup" "size" "I" (.int (Int32.ofNat nz))) ∧ (Arv Z h wq kq .byte (Int32.ofNat 32768) (List.replicate nz (.int (0 : Int32))) (.int (0 : Int32)))
set_option maxRecDepth 65536 in
set_option maxHeartbeats 40000000 in
theorem rmtxG (l : Launch) (Z : State) (a0 : Array Value) (hw : ∀ d ∈ tables_1, d.before a0 Z = true) (ws : List Jvm.Cond) (a1 : Addr) (a2 : Addr) (wb : Addr) (kw : ClassId) (cs : Int32) (sf : Value) (te : Addr) (u8 : Addr) (ca : Addr) (cv : Addr) (kcv : ClassId) (vb : Addr) (kb : ClassId) (nz : Nat) (h0 : Heap) (n0 : Nat) (Z0 : n0 ≤ h0.size) (S_COMPACT_STRINGS : Sta Z h0 "java/lang/String" "COMPACT_STRINGS" "Z" (.int cs)) (S_SIOOBE_FORMATTER : Sta Z h0 "jdk/internal/util/Preconditions" "SIOOBE_FORMATTER" "Ljava/util/function/BiFunction;" sf) (S_TEXT : Sta Z h0 "com/example/anagrafe/anagrafe/atom/Markup$Escape" "TEXT" "Lcom/example/anagrafe/anagrafe/atom/Markup$Escape;" (.ref te)) (S_INSTANCE : Sta Z h0 "sun/nio/cs/UTF_8" "INSTANCE" "Lsun/nio/cs/UTF_8;" (.ref u8)) (S_UTF_8 : Sta Z h0 "java/nio/charset/StandardCharsets" "UTF_8" "Ljava/nio/charset/Charset;" (.ref u8)) (E_a1 : Exa Z h0 a1 "com/example/anagrafe/anagrafe/atom/Markup") (F_bytes_a1 : Fld Z h0 a1 "com/example/anagrafe/anagrafe/atom/Markup" "bytes" "[B" (.ref wb)) (F_size_a1 : Fld Z h0 a1 "com/example/anagrafe/anagrafe/atom/Markup" "size" "I" (.int (Int32.ofNat 0))) (A_wb : Arv Z h0 wb kw .byte (Int32.ofNat 16384) [] (.int (0 : Int32))) (g_a1 : n0 ≤ a1) (g_wb : n0 ≤ wb) (ne_a1_wb : a1 ≠ wb) (E_a2 : Exa Z h0 a2 "java/lang/String") (F_value_a2 : Fld Z h0 a2 "java/lang/String" "value" "[B" (.ref vb)) (F_coder_a2 : Fld Z h0 a2 "java/lang/String" "coder" "B" (.int (0 : Int32))) (A_vb : Arv Z h0 vb kb .byte (Int32.ofNat nz) (List.replicate nz (.int (0 : Int32))) (.int (0 : Int32))) (E_vb : Exa Z h0 vb "[B") (E_te : Exa Z h0 te "com/example/anagrafe/anagrafe/atom/Markup$Escape") (F_characters_te : Fld Z h0 te "com/example/anagrafe/anagrafe/atom/Markup$Escape" "characters" "Ljava/lang/String;" (.ref ca)) (E_ca : Exa Z h0 ca "java/lang/String") (F_value_ca : Fld Z h0 ca "java/lang/String" "value" "[B" (.ref cv)) (F_coder_ca : Fld Z h0 ca "java/lang/String" "coder" "B" (.int (0 : Int32))) (A_cv : Arv Z h0 cv kcv .byte (3 : Int32) ([(.int (38 : Int32)), (.int (60 : Int32)), (.int (62 : Int32))]) (.int (0 : Int32))) (ne_a2_a1 : a2 ≠ a1) (ne_vb_a1 : vb ≠ a1) (ne_te_a1 : te ≠ a1) (ne_ca_a1 : ca ≠ a1) (ne_cv_a1 : cv ≠ a1) (ne_a2_wb : a2 ≠ wb) (ne_vb_wb : vb ≠ wb) (ne_te_wb : te ≠ wb) (ne_ca_wb : ca ≠ wb) (ne_cv_wb : cv ≠ wb) (hcs : ¬ cs = 0) (hsf : sf.isRef = true) (hn : nz ≤ 4095) (hg : 16384 < 6 * nz) :
    MetFree l (⟨"com/example/anagrafe/anagrafe/atom/Markup", "text", "(Ljava/lang/String;)V"⟩ : MethodName) (head1 (Jvm.Cond.code (⟨"com/example/anagrafe/anagrafe/atom/Markup", "text", "(Ljava/lang/String;)V"⟩ : MethodName) prog_9_method_7_code 2 none :: ws) ({ frames := 6, cells := 2, slots := 36863, locals := 96 } : Room)) (fun a U => a = #[(.ref a1), (.ref a2)] ∧ Z.Warmed39 U.vm ∧ U.heap = h0) (fun _ _ _ _ _ => True) (fun _ U o U' => ∃ v L, o = .returned v ∧ QtxG Z a1 a2 wb kw cs sf te u8 ca cv kcv vb kb nz h0 n0 v U'.heap L ∧ FrameEnd U o U' L ({ frames := 6, cells := 2, slots := 36863, locals := 96 } : Room).cells ({ frames := 6, cells := 2, slots := 36863, locals := 96 } : Room).slots) := by
  refine MetFree.of_bodySF (plainFor_of_name own_pn_com_example_anagrafe_anagrafe_atom_Markup) hisR ?_
  intro p e s m args below meth c s₁ Bd hml0 hP hK
  obtain ⟨rfl, hZ, hh⟩ := hP
  have hx := Bd.exec
  have hby := Bd.bytes
  have hlk := Bd.notSynchronized
  have hml : c.maxLocals = 2 := hml0
  have hown : s.vm.findClass "com/example/anagrafe/anagrafe/atom/Markup" = some m.cls := findClass_of_methodNamed Bd.named
  have hnm := (name_of_methodNamed Bd.named Bd.method).1
  have X0 : Stand p l e ({ frames := 6, cells := 2, slots := 36863, locals := 96 } : Room) s m #[(.ref a1), (.ref a2)] below meth c s₁ [] 0 0 := Stand.of_body Bd
  have e0 : s₁.heap = h0 := by rw [← hh, Bd.state]; rfl
  have N0 := Fr.nil n0
  have K0 : Keep h0 h0 [a1] := Keep.refl _ _
  show Go p e below (KQ s below (QtxG Z a1 a2 wb kw cs sf te u8 ca cv kcv vb kb nz h0 n0) ({ frames := 6, cells := 2, slots := 36863, locals := 96 } : Room).cells ({ frames := 6, cells := 2, slots := 36863, locals := 96 } : Room).slots) _
  refine Go.body (T := s₁) (σ := s₁) (g' := (mkF m 0 #[.val (.ref a1), .val (.ref a2)] [])) (ef_txG m a1 a2) ?_
  refine g_aloadN X0 hx (hb hby d17_0) 1 rfl (v := (.ref a1)) rfl rfl ?_
  refine g_aloadN X0 hx (hb hby d17_1) 2 rfl (v := (.ref a2)) rfl rfl ?_
  obtain ⟨cq233, kq233, q233a, q233b, q233c⟩ := isOf hZ e0 E_a2
  obtain ⟨_, _, ⟨T233, L233, k233, n233⟩, -, X233, ⟨Lc233, hQ233, l233, y233, z233⟩, st233⟩ := X0.virtualBack hx (y := (⟨"java/lang/String", "length", "()I"⟩ : MethodName)) (z := (⟨"java/lang/String", "length", "()I"⟩ : MethodName)) hown (mvT hZ (hw _ (List.mem_of_getElem? (i := 86) rfl))) (mvT hZ (hw _ (List.mem_of_getElem? (i := 87) rfl))) (notFace_of_selects (args := #[]) (mvT hZ (hw _ (List.mem_of_getElem? (i := 89) rfl)))) (mvT hZ (hw _ (List.mem_of_getElem? (i := 89) rfl))) (mvT hZ (hw _ (List.mem_of_getElem? (i := 88) rfl))) (by decide) (backOf (W := 1) (rm18 l Z a0 hw [] a2 cs vb kb (Int32.ofNat nz) (List.replicate nz (.int (0 : Int32))) h0 n0 Z0 S_COMPACT_STRINGS E_a2 F_value_a2 F_coder_a2 A_vb hcs) hZ (hw _ (List.mem_of_getElem? (i := 90) rfl)) (hw _ (List.mem_of_getElem? (i := 2) rfl)) (by decide) (by decide)) q233a q233c (g := (mkF m 2 #[.val (.ref a1), .val (.ref a2)] [(.ref a2), (.ref a1)])) rfl (by rw [hml]; rfl) (Steps.refl _) (argsL := []) (rest := [(.ref a1)]) (lenOf own_pd15 rfl) rfl (by show 2 * 0 + _ ≤ _; exact Nat.le_of_eq rfl) (hb hby d17_2) (fun _ _ => ⟨rfl, e0, (by decide : 0 + 0 ≤ _), (by decide : 0 + 0 ≤ _)⟩)
  dsimp only [Pt.U, Pt.locs, Pt.cells, Pt.slots] at X233 l233 y233 z233 st233 hQ233
  subst l233 y233 z233
  obtain ⟨rfl, Nq233, e233⟩ := hQ233
  refine Go.tr st233 ?_
  have N233 := Fr.app N0 Nq233
  show Go p e below _ (T233.setTop (mkF m 5 #[.val (.ref a1), .val (.ref a2)] [(.int (Int32.ofNat nz)), (.ref a1)]))
  obtain ⟨cq234, q234, q234'⟩ := Exa.cell E_a1
  obtain ⟨_, _, ⟨T234, L234, k234, n234⟩, -, X234, ⟨Lc234, hQ234, l234, y234, z234⟩, st234⟩ := X233.privateBack hx (y := (⟨"com/example/anagrafe/anagrafe/atom/Markup", "room", "(I)V"⟩ : MethodName)) hown (mvT hZ (hw _ (List.mem_of_getElem? (i := 58) rfl))) (mvT hZ (hw _ (List.mem_of_getElem? (i := 59) rfl))) (own_selP (mvT hZ (hw _ (List.mem_of_getElem? (i := 45) rfl)) (args := #[])) (Cond.privateMethod_at (mvP hZ (hw _ (List.mem_of_getElem? (i := 60) rfl)) (args := #[]))) (mvT hZ (hw _ (List.mem_of_getElem? (i := 59) rfl))) (by decide)) (Cond.privateMethod_at (mvP hZ (hw _ (List.mem_of_getElem? (i := 60) rfl)) (args := #[]))) (mvT hZ (hw _ (List.mem_of_getElem? (i := 61) rfl))) (by decide) (backOf (W := 0) (rmrmG l Z a0 hw [] a1 wb kw nz h0 n0 Z0 E_a1 F_bytes_a1 F_size_a1 A_wb g_a1 ne_a1_wb hn hg) hZ (hw _ (List.mem_of_getElem? (i := 61) rfl)) (hw _ (List.mem_of_getElem? (i := 46) rfl)) (by decide) (by decide)) (g := (mkF m 5 #[.val (.ref a1), .val (.ref a2)] [(.int (Int32.ofNat nz)), (.ref a1)])) rfl (by rw [hml]; rfl) (Steps.refl _) (a := a1) (by rw [e233]; exact q234) q234' (argsL := [(.int (Int32.ofNat nz))]) (rest := []) (lenOf own_pd14 rfl) rfl (by show 2 * 0 + _ ≤ _; exact Nat.le_of_eq rfl) (hb hby d17_5) (fun _ _ => ⟨rfl, e233, (by decide : 0 + 1 ≤ _), (by decide : 0 + 32768 ≤ _)⟩)
  dsimp only [Pt.U, Pt.locs, Pt.cells, Pt.slots] at X234 l234 y234 z234 st234 hQ234
  subst l234 y234 z234
  obtain ⟨owq, okq, rfl, Nq234, Kq234, f234_0, f234_1, f234_2, f234_3, f234_4⟩ := hQ234
  refine Go.tr st234 ?_
  have N234 := Fr.app N233 Nq234
  have S_COMPACT_STRINGS_235 : Sta Z T234.heap "java/lang/String" "COMPACT_STRINGS" "Z" (.int cs) := own_Sta_keep S_COMPACT_STRINGS Kq234 (allS (own_ns E_a1) all0)
  have S_SIOOBE_FORMATTER_235 : Sta Z T234.heap "jdk/internal/util/Preconditions" "SIOOBE_FORMATTER" "Ljava/util/function/BiFunction;" sf := own_Sta_keep S_SIOOBE_FORMATTER Kq234 (allS (own_ns E_a1) all0)
  have S_TEXT_235 : Sta Z T234.heap "com/example/anagrafe/anagrafe/atom/Markup$Escape" "TEXT" "Lcom/example/anagrafe/anagrafe/atom/Markup$Escape;" (.ref te) := own_Sta_keep S_TEXT Kq234 (allS (own_ns E_a1) all0)
  have S_INSTANCE_235 : Sta Z T234.heap "sun/nio/cs/UTF_8" "INSTANCE" "Lsun/nio/cs/UTF_8;" (.ref u8) := own_Sta_keep S_INSTANCE Kq234 (allS (own_ns E_a1) all0)
  have S_UTF_8_235 : Sta Z T234.heap "java/nio/charset/StandardCharsets" "UTF_8" "Ljava/nio/charset/Charset;" (.ref u8) := own_Sta_keep S_UTF_8 Kq234 (allS (own_ns E_a1) all0)
  have E_a1_235 : Exa Z T234.heap a1 "com/example/anagrafe/anagrafe/atom/Markup" := Exa.keep E_a1 Kq234
  have ne_a1_owq : a1 ≠ owq := Nat.ne_of_lt (Nat.lt_of_lt_of_le E_a1.lt f234_0)
  have g_owq : n0 ≤ owq := Nat.le_trans Z0 f234_0
  have mh_owq : h0.size ≤ owq := Nat.le_trans K0.1 f234_0
  have K234 : Keep h0 T234.heap [a1] := Keep.trans K0 Kq234 (allS (Or.inl (List.mem_of_getElem? (i := 0) rfl)) all0)
  have Zs234 : n0 ≤ T234.heap.size := Nat.le_trans Z0 Kq234.1
  show Go p e below _ (T234.setTop (mkF m 8 #[.val (.ref a1), .val (.ref a2)] []))
  refine g_aloadN X234 hx (hb hby d17_8) 9 rfl (v := (.ref a1)) rfl rfl ?_
  refine g_aloadN X234 hx (hb hby d17_9) 10 rfl (v := (.ref a2)) rfl rfl ?_
  obtain ⟨T236, X236, e236, st236⟩ := getS2 X234 hx hZ hown (host := "") (Or.inl (hw _ (List.mem_of_getElem? (i := 96) rfl))) Via.refl rfl S_TEXT_235 (g := (mkF m 10 #[.val (.ref a1), .val (.ref a2)] [(.ref a2), (.ref a1)])) rfl (hb hby d17_10)
  refine Go.st st236 ?_
  show Go p e below _ (T236.setTop (mkF m 13 #[.val (.ref a1), .val (.ref a2)] [(.ref te), (.ref a2), (.ref a1)]))
  obtain ⟨cq237, q237, q237'⟩ := Exa.cell f234_1
  obtain ⟨_, _, ⟨T237, L237, k237, n237⟩, -, X237, ⟨Lc237, hQ237, l237, y237, z237⟩, st237⟩ := X236.privateBack hx (y := (⟨"com/example/anagrafe/anagrafe/atom/Markup", "put", "(Ljava/lang/String;Lcom/example/anagrafe/anagrafe/atom/Markup$Escape;)V"⟩ : MethodName)) hown (mvT hZ (hw _ (List.mem_of_getElem? (i := 99) rfl))) (mvT hZ (hw _ (List.mem_of_getElem? (i := 100) rfl))) (own_selP (mvT hZ (hw _ (List.mem_of_getElem? (i := 45) rfl)) (args := #[])) (Cond.privateMethod_at (mvP hZ (hw _ (List.mem_of_getElem? (i := 101) rfl)) (args := #[]))) (mvT hZ (hw _ (List.mem_of_getElem? (i := 100) rfl))) (by decide)) (Cond.privateMethod_at (mvP hZ (hw _ (List.mem_of_getElem? (i := 101) rfl)) (args := #[]))) (mvT hZ (hw _ (List.mem_of_getElem? (i := 102) rfl))) (by decide) (backOf (W := 0) (rmputB l Z a0 hw [] a1 a2 te owq okq 32768 cs sf u8 ca cv kcv vb kb nz T234.heap n0 Zs234 S_COMPACT_STRINGS_235 S_SIOOBE_FORMATTER_235 S_INSTANCE_235 S_UTF_8_235 f234_1 f234_2 f234_3 f234_4 g_a1 g_owq ne_a1_owq (Exa.keep E_a2 K234) (Fld.keep F_value_a2 K234 (ninS ne_a2_a1 nin0)) (Fld.keep F_coder_a2 K234 (ninS ne_a2_a1 nin0)) (Arv.keep A_vb K234 (ninS ne_vb_a1 nin0)) (Exa.keep E_vb K234) (Exa.keep E_te K234) (Fld.keep F_characters_te K234 (ninS ne_te_a1 nin0)) (Exa.keep E_ca K234) (Fld.keep F_value_ca K234 (ninS ne_ca_a1 nin0)) (Fld.keep F_coder_ca K234 (ninS ne_ca_a1 nin0)) (Arv.keep A_cv K234 (ninS ne_cv_a1 nin0)) ne_a2_a1 ne_vb_a1 ne_te_a1 ne_ca_a1 ne_cv_a1 (Nat.ne_of_lt (Nat.lt_of_lt_of_le E_a2.lt mh_owq)) (Nat.ne_of_lt (Nat.lt_of_lt_of_le A_vb.lt mh_owq)) (Nat.ne_of_lt (Nat.lt_of_lt_of_le E_te.lt mh_owq)) (Nat.ne_of_lt (Nat.lt_of_lt_of_le E_ca.lt mh_owq)) (Nat.ne_of_lt (Nat.lt_of_lt_of_le A_cv.lt mh_owq)) hcs hsf (by decide) hn (by omega)) hZ (hw _ (List.mem_of_getElem? (i := 102) rfl)) (hw _ (List.mem_of_getElem? (i := 46) rfl)) (by decide) (by decide)) (g := (mkF m 13 #[.val (.ref a1), .val (.ref a2)] [(.ref te), (.ref a2), (.ref a1)])) rfl (by rw [hml]; rfl) (Steps.refl _) (a := a1) (by rw [e236]; exact q237) q237' (argsL := [(.ref a2), (.ref te)]) (rest := []) (lenOf own_pd27 rfl) rfl (by show 2 * 0 + _ ≤ _; exact Nat.le_of_eq rfl) (hb hby d17_13) (fun _ _ => ⟨rfl, e236, (by decide : 1 + 1 ≤ _), (by decide : 32768 + 4095 ≤ _)⟩)
  dsimp only [Pt.U, Pt.locs, Pt.cells, Pt.slots] at X237 l237 y237 z237 st237 hQ237
  subst l237 y237 z237
  obtain ⟨rfl, Nq237, Kq237, f237_0, f237_1, f237_2, f237_3⟩ := hQ237
  refine Go.tr st237 ?_
  have N237 := Fr.app N234 Nq237
  have S_COMPACT_STRINGS_238 : Sta Z T237.heap "java/lang/String" "COMPACT_STRINGS" "Z" (.int cs) := own_Sta_keep S_COMPACT_STRINGS_235 Kq237 (allS (own_ns f234_1) (allS (own_nsA f234_4) all0))
  have S_SIOOBE_FORMATTER_238 : Sta Z T237.heap "jdk/internal/util/Preconditions" "SIOOBE_FORMATTER" "Ljava/util/function/BiFunction;" sf := own_Sta_keep S_SIOOBE_FORMATTER_235 Kq237 (allS (own_ns f234_1) (allS (own_nsA f234_4) all0))
  have S_TEXT_238 : Sta Z T237.heap "com/example/anagrafe/anagrafe/atom/Markup$Escape" "TEXT" "Lcom/example/anagrafe/anagrafe/atom/Markup$Escape;" (.ref te) := own_Sta_keep S_TEXT_235 Kq237 (allS (own_ns f234_1) (allS (own_nsA f234_4) all0))
  have S_INSTANCE_238 : Sta Z T237.heap "sun/nio/cs/UTF_8" "INSTANCE" "Lsun/nio/cs/UTF_8;" (.ref u8) := own_Sta_keep S_INSTANCE_235 Kq237 (allS (own_ns f234_1) (allS (own_nsA f234_4) all0))
  have S_UTF_8_238 : Sta Z T237.heap "java/nio/charset/StandardCharsets" "UTF_8" "Ljava/nio/charset/Charset;" (.ref u8) := own_Sta_keep S_UTF_8_235 Kq237 (allS (own_ns f234_1) (allS (own_nsA f234_4) all0))
  have E_a1_238 : Exa Z T237.heap a1 "com/example/anagrafe/anagrafe/atom/Markup" := Exa.keep f234_1 Kq237
  have K237 : Keep h0 T237.heap [a1] := Keep.trans K234 Kq237 (allS (Or.inl (List.mem_of_getElem? (i := 0) rfl)) (allS (Or.inr mh_owq) all0))
  have Zs237 : n0 ≤ T237.heap.size := Nat.le_trans Zs234 Kq237.1
  show Go p e below _ (T237.setTop (mkF m 16 #[.val (.ref a1), .val (.ref a2)] []))
  refine Go.retV X237 hx hlk Bd.returns (hb hby d17_16) (by decide) (by decide) ?_
  show QtxG Z a1 a2 wb kw cs sf te u8 ca cv kcv vb kb nz h0 n0 _ T237.heap _
  exact ⟨owq, okq, rfl, N237, K237, mh_owq, f237_0, f237_1, f237_2, f237_3⟩
theorem own_pn_com_example_anagrafe_anagrafe_atom_MarkupEndEmptyPinLaw : plainName "com/example/anagrafe/anagrafe/atom/MarkupEndEmptyPinLaw" = true := by first | (simp [plainName, overriddenIn]; done) | decide +kernel
theorem ef_0 (m : MethodId) (x0 : Int32) (x1 : Int32) (x2 : Int32) (x3 : Int32) : entryFrame m #[(.int x0), (.int x1), (.int x2), (.int x3)] maxLocals = mkF m 0 #[.val (.int x0), .val (.int x1), .val (.int x2), .val (.int x3), .unset, .unset, .unset, .unset, .unset, .unset, .unset, .unset, .unset, .unset, .unset, .unset, .unset, .unset, .unset] [] := by first | (simp [entryFrame, mkF, argsToLocals, Value.category, maxLocals]; done) | rfl
theorem own_pd28 : parseMethodDescriptor "()V" = some ⟨[], none⟩ := by decide +kernel
theorem own_pd29 : parseMethodDescriptor "()[B" = some ⟨[], some (.array .byte)⟩ := by decide +kernel
theorem own_pd30 : parseMethodDescriptor "(Ljava/lang/String;Ljava/lang/String;)V" = some ⟨[(.object "java/lang/String"), (.object "java/lang/String")], none⟩ := by decide +kernel
theorem own_pd31 : parseMethodDescriptor "([C)V" = some ⟨[(.array .char)], none⟩ := by decide +kernel
theorem own_pd32 : parseMethodDescriptor "(C)Ljava/lang/String;" = some ⟨[.char], some (.object "java/lang/String")⟩ := by decide +kernel
def Q0 (Z : State) (p1 : Int32) (p2 : Int32) (p3 : Int32) (p4 : Int32) (s_COMPACT_STRINGS : Int32) (s_SIOOBE_FORMATTER : Value) (u8 : Addr) (te : Addr) (ca : Addr) (cv : Addr) (kcv : ClassId) (eb : Addr) (ke : ClassId) (ev : List Value) (h0 : Heap) (n0 : Nat) (v : Option Value) (h : Heap) (L : List Loc) : Prop := v = some (.int (1 : Int32)) ∧ Fr n0 L
set_option maxRecDepth 65536 in
set_option maxHeartbeats 40000000 in
theorem rm0 (l : Launch) (Z : State) (a0 : Array Value) (hw : ∀ d ∈ tables_1, d.before a0 Z = true) (ws : List Jvm.Cond) (p1 : Int32) (p2 : Int32) (p3 : Int32) (p4 : Int32) (s_COMPACT_STRINGS : Int32) (s_SIOOBE_FORMATTER : Value) (u8 : Addr) (te : Addr) (ca : Addr) (cv : Addr) (kcv : ClassId) (eb : Addr) (ke : ClassId) (ev : List Value) (h0 : Heap) (n0 : Nat) (Z0 : n0 ≤ h0.size) (S_COMPACT_STRINGS : Sta Z h0 "java/lang/String" "COMPACT_STRINGS" "Z" (.int s_COMPACT_STRINGS)) (S_SIOOBE_FORMATTER : Sta Z h0 "jdk/internal/util/Preconditions" "SIOOBE_FORMATTER" "Ljava/util/function/BiFunction;" s_SIOOBE_FORMATTER) (S_INSTANCE : Sta Z h0 "sun/nio/cs/UTF_8" "INSTANCE" "Lsun/nio/cs/UTF_8;" (.ref u8)) (S_UTF_8 : Sta Z h0 "java/nio/charset/StandardCharsets" "UTF_8" "Ljava/nio/charset/Charset;" (.ref u8)) (S_TEXT : Sta Z h0 "com/example/anagrafe/anagrafe/atom/Markup$Escape" "TEXT" "Lcom/example/anagrafe/anagrafe/atom/Markup$Escape;" (.ref te)) (E_te : Exa Z h0 te "com/example/anagrafe/anagrafe/atom/Markup$Escape") (F_characters_te : Fld Z h0 te "com/example/anagrafe/anagrafe/atom/Markup$Escape" "characters" "Ljava/lang/String;" (.ref ca)) (E_ca : Exa Z h0 ca "java/lang/String") (F_value_ca : Fld Z h0 ca "java/lang/String" "value" "[B" (.ref cv)) (F_coder_ca : Fld Z h0 ca "java/lang/String" "coder" "B" (.int (0 : Int32))) (A_cv : Arv Z h0 cv kcv .byte (3 : Int32) ([(.int (38 : Int32)), (.int (60 : Int32)), (.int (62 : Int32))]) (.int (0 : Int32))) (F_escaped_te : Fld Z h0 te "com/example/anagrafe/anagrafe/atom/Markup$Escape" "escaped" "[Z" (.ref eb)) (A_eb : Arv Z h0 eb ke .boolean (128 : Int32) ev (.int (0 : Int32))) (hn0 : h0.size = n0) (hz_s_COMPACT_STRINGS : ¬ s_COMPACT_STRINGS = 0) (hR_s_SIOOBE_FORMATTER : s_SIOOBE_FORMATTER.isRef = true) (hev : ev.getD 0 (.int (0 : Int32)) = .int 0) :
    MetFree l x (head1 (Jvm.Cond.code x code maxLocals ret :: ws) room_1) (fun a U => a = #[(.int p1), (.int p2), (.int p3), (.int p4)] ∧ Z.Warmed39 U.vm ∧ U.heap = h0 ∧ CHv Z own_EL U.vm h0) (fun _ _ _ _ _ => True) (fun _ U o U' => ∃ v L, o = .returned v ∧ Q0 Z p1 p2 p3 p4 s_COMPACT_STRINGS s_SIOOBE_FORMATTER u8 te ca cv kcv eb ke ev h0 n0 v U'.heap L ∧ CHr Z own_EL U.vm U.heap U'.vm U'.heap ∧ ReturnedEndW U o U' L 40 132224) := by
  refine MetFree.of_bodySF (plainFor_of_name own_pn_com_example_anagrafe_anagrafe_atom_MarkupEndEmptyPinLaw) hisR ?_
  intro p e s m args below meth c s₁ Bd hml0 hP hK
  obtain ⟨rfl, hZ, hh, hCH⟩ := hP
  have hx := Bd.exec
  have hby := Bd.bytes
  have hlk := Bd.notSynchronized
  have hml : c.maxLocals = 19 := hml0
  have hown : s.vm.findClass "com/example/anagrafe/anagrafe/atom/MarkupEndEmptyPinLaw" = some m.cls := findClass_of_methodNamed Bd.named
  have hnm := (name_of_methodNamed Bd.named Bd.method).1
  have X0 : Stand p l e room_1 (s.setVm s.vm) m #[(.int p1), (.int p2), (.int p3), (.int p4)] below meth c s₁ [] 0 0 := Stand.of_body Bd
  have hZ : Z.Warmed39 (s.setVm s.vm).vm := hZ
  have hown : (s.setVm s.vm).vm.findClass "com/example/anagrafe/anagrafe/atom/MarkupEndEmptyPinLaw" = some m.cls := hown
  have hS0 : s.Since s.vm 0 := (State.WarmedH.refl s).since 0
  have R0 : CHr Z own_EL s.vm h0 s.vm h0 := CHr.refl hCH
  have e0 : s₁.heap = h0 := by rw [← hh, Bd.state]; rfl
  have N0 := Fr.nil n0
  have K0 : Keep h0 h0 [] := Keep.refl _ _
  show Go p e below (KS s below Z own_EL (Q0 Z p1 p2 p3 p4 s_COMPACT_STRINGS s_SIOOBE_FORMATTER u8 te ca cv kcv eb ke ev h0 n0) 40 132224) _
  refine Go.body (T := s₁) (σ := s₁) (g' := (mkF m 0 #[.val (.int p1), .val (.int p2), .val (.int p3), .val (.int p4), .unset, .unset, .unset, .unset, .unset, .unset, .unset, .unset, .unset, .unset, .unset, .unset, .unset, .unset, .unset] [])) (ef_0 m p1 p2 p3 p4) ?_
  have ta : ∀ (f1 : Int32), Go p e below (KS s below Z own_EL (Q0 Z p1 p2 p3 p4 s_COMPACT_STRINGS s_SIOOBE_FORMATTER u8 te ca cv kcv eb ke ev h0 n0) 40 132224) (s₁.setTop (mkF m 11 #[.val (.int p1), .val (.int p2), .val (.int p3), .val (.int p4), .unset, .unset, .unset, .unset, .unset, .unset, .unset, .unset, .unset, .unset, .unset, .unset, .unset, .unset, .unset] [(.int f1)])) := by
    intro f1
    refine g_istore X0 hx (hb hby at_11) 13 rfl #[.val (.int p1), .val (.int p2), .val (.int p3), .val (.int p4), .val (.int f1), .unset, .unset, .unset, .unset, .unset, .unset, .unset, .unset, .unset, .unset, .unset, .unset, .unset, .unset] rfl ?_
    have tb : ∀ (f2 : Int32), Go p e below (KS s below Z own_EL (Q0 Z p1 p2 p3 p4 s_COMPACT_STRINGS s_SIOOBE_FORMATTER u8 te ca cv kcv eb ke ev h0 n0) 40 132224) (s₁.setTop (mkF m 24 #[.val (.int p1), .val (.int p2), .val (.int p3), .val (.int p4), .val (.int f1), .unset, .unset, .unset, .unset, .unset, .unset, .unset, .unset, .unset, .unset, .unset, .unset, .unset, .unset] [(.int f2)])) := by
      intro f2
      refine g_istore X0 hx (hb hby at_24) 26 rfl #[.val (.int p1), .val (.int p2), .val (.int p3), .val (.int p4), .val (.int f1), .val (.int f2), .unset, .unset, .unset, .unset, .unset, .unset, .unset, .unset, .unset, .unset, .unset, .unset, .unset] rfl ?_
      have tc : ∀ (f3 : Int32), Go p e below (KS s below Z own_EL (Q0 Z p1 p2 p3 p4 s_COMPACT_STRINGS s_SIOOBE_FORMATTER u8 te ca cv kcv eb ke ev h0 n0) 40 132224) (s₁.setTop (mkF m 37 #[.val (.int p1), .val (.int p2), .val (.int p3), .val (.int p4), .val (.int f1), .val (.int f2), .unset, .unset, .unset, .unset, .unset, .unset, .unset, .unset, .unset, .unset, .unset, .unset, .unset] [(.int f3)])) := by
        intro f3
        refine g_istore X0 hx (hb hby at_37) 39 rfl #[.val (.int p1), .val (.int p2), .val (.int p3), .val (.int p4), .val (.int f1), .val (.int f2), .val (.int f3), .unset, .unset, .unset, .unset, .unset, .unset, .unset, .unset, .unset, .unset, .unset, .unset] rfl ?_
        refine g_iloadN X0 hx (hb hby at_39) 40 rfl (v := p2) rfl ?_
        refine g_sipush X0 hx (hb hby at_40) 43 rfl (4095 : Int32) rfl ?_
        obtain ⟨nz, hn, e_nz⟩ := own_k p2
        refine g_iand X0 hx (hb hby at_43) 44 rfl (Int32.ofNat nz) e_nz ?_
        refine g_istore X0 hx (hb hby at_44) 46 rfl #[.val (.int p1), .val (.int p2), .val (.int p3), .val (.int p4), .val (.int f1), .val (.int f2), .val (.int f3), .val (.int (Int32.ofNat nz)), .unset, .unset, .unset, .unset, .unset, .unset, .unset, .unset, .unset, .unset, .unset] rfl ?_
        refine g_iloadN X0 hx (hb hby at_46) 47 rfl (v := p3) rfl ?_
        refine g_bipush X0 hx (hb hby at_47) 49 rfl (127 : Int32) rfl ?_
        refine g_iand X0 hx (hb hby at_49) 50 rfl (p3 &&& (127 : Int32)) rfl ?_
        obtain ⟨c1, e_c1⟩ : ∃ z, (p3 &&& (127 : Int32)).toUInt32.toUInt16.toUInt32.toInt32 = z := ⟨_, rfl⟩
        refine g_i2c X0 hx (hb hby at_50) 51 rfl c1 e_c1 ?_
        refine g_istore X0 hx (hb hby at_51) 53 rfl #[.val (.int p1), .val (.int p2), .val (.int p3), .val (.int p4), .val (.int f1), .val (.int f2), .val (.int f3), .val (.int (Int32.ofNat nz)), .val (.int c1), .unset, .unset, .unset, .unset, .unset, .unset, .unset, .unset, .unset, .unset] rfl ?_
        refine g_iloadN X0 hx (hb hby at_53) 54 rfl (v := p4) rfl ?_
        refine g_bipush X0 hx (hb hby at_54) 56 rfl (127 : Int32) rfl ?_
        refine g_iand X0 hx (hb hby at_56) 57 rfl (p4 &&& (127 : Int32)) rfl ?_
        obtain ⟨c2, e_c2⟩ : ∃ z, (p4 &&& (127 : Int32)).toUInt32.toUInt16.toUInt32.toInt32 = z := ⟨_, rfl⟩
        refine g_i2c X0 hx (hb hby at_57) 58 rfl c2 e_c2 ?_
        refine g_istore X0 hx (hb hby at_58) 60 rfl #[.val (.int p1), .val (.int p2), .val (.int p3), .val (.int p4), .val (.int f1), .val (.int f2), .val (.int f3), .val (.int (Int32.ofNat nz)), .val (.int c1), .val (.int c2), .unset, .unset, .unset, .unset, .unset, .unset, .unset, .unset, .unset] rfl ?_
        have q115 : ∀ (s1 : Addr) (v1 : Addr) (s2 : Addr) (v2 : Addr) (om : Addr) (wq : Addr) (k1 : ClassId) (k2 : ClassId) (kq : ClassId) (bl : Nat) (N : Nat) (zs : Slot) {Ts239 : State} {lc239 : List Loc} {hs239 : Heap} {vs239 : Vm} {ks239 : Nat} (Xs239 : Stand p l e room_1 (s.setVm vs239) m #[(.int p1), (.int p2), (.int p3), (.int p4)] below meth c Ts239 lc239 20 62000) (es239 : Ts239.heap = hs239) (Ns239 : Fr n0 lc239) (Ks239 : Keep h0 hs239 []) (Zs239 : n0 ≤ hs239.size) (Ss239 : s.Since vs239 ks239) (kk239 : ks239 ≤ hs239.size) (_ : Z.Warmed39 (s.setVm vs239).vm) (_ : (s.setVm vs239).vm.findClass "com/example/anagrafe/anagrafe/atom/MarkupEndEmptyPinLaw" = some m.cls) (Rs239 : CHr Z own_EL s.vm h0 vs239 hs239) (Exa_s239_0 : Exa Z hs239 s1 "java/lang/String") (Fld_s239_1 : Fld Z hs239 s1 "java/lang/String" "value" "[B" (.ref v1)) (Fld_s239_2 : Fld Z hs239 s1 "java/lang/String" "coder" "B" (.int (0 : Int32))) (Arv_s239_3 : Arv Z hs239 v1 k1 .byte (1 : Int32) ([(.int c1.toInt8.toInt32)]) (.int (0 : Int32))) (Exa_s239_4 : Exa Z hs239 s2 "java/lang/String") (Fld_s239_5 : Fld Z hs239 s2 "java/lang/String" "value" "[B" (.ref v2)) (Fld_s239_6 : Fld Z hs239 s2 "java/lang/String" "coder" "B" (.int (0 : Int32))) (Arv_s239_7 : Arv Z hs239 v2 k2 .byte (1 : Int32) ([(.int c2.toInt8.toInt32)]) (.int (0 : Int32))) (Exa_s239_8 : Exa Z hs239 om "com/example/anagrafe/anagrafe/atom/Markup") (Fld_s239_9 : Fld Z hs239 om "com/example/anagrafe/anagrafe/atom/Markup" "bytes" "[B" (.ref wq)) (Fld_s239_10 : Fld Z hs239 om "com/example/anagrafe/anagrafe/atom/Markup" "size" "I" (.int (Int32.ofNat N))) (Arv_s239_11 : Arv Z hs239 wq kq .byte (Int32.ofNat bl) (List.replicate N (.int (0 : Int32))) (.int (0 : Int32))) (Safe_s239_12 : Safe Z own_EL vs239 hs239 wq) (ge_s239_0 : n0 ≤ om) (ge_s239_1 : n0 ≤ wq) (mh_s239_2 : h0.size ≤ om) (mh_s239_3 : h0.size ≤ wq) (ne_s239_4 : om ≠ wq) (ne_s239_5 : om ≠ s1) (ne_s239_6 : om ≠ v1) (ne_s239_7 : om ≠ s2) (ne_s239_8 : om ≠ v2) (ne_s239_9 : wq ≠ s1) (ne_s239_10 : wq ≠ v1) (ne_s239_11 : wq ≠ s2) (ne_s239_12 : wq ≠ v2) (hB : 16384 ≤ bl ∧ bl ≤ 32768) (hN : N ≤ 4095), Go p e below (KS s below Z own_EL (Q0 Z p1 p2 p3 p4 s_COMPACT_STRINGS s_SIOOBE_FORMATTER u8 te ca cv kcv eb ke ev h0 n0) 40 132224) (Ts239.setTop (mkF m 115 #[.val (.int p1), .val (.int p2), .val (.int p3), .val (.int p4), .val (.int f1), .val (.int f2), .val (.int f3), .val (.int (Int32.ofNat nz)), .val (.int c1), .val (.int c2), zs, .val (.ref s1), .val (.ref s2), .val (.ref om), .val (.int (Int32.ofNat N)), .unset, .unset, .unset, .unset] [])) := by
          intro s1 v1 s2 v2 om wq k1 k2 kq bl N zs Ts239 lc239 hs239 vs239 ks239 Xs239 es239 Ns239 Ks239 Zs239 Ss239 kk239 hZ hown Rs239 Exa_s239_0 Fld_s239_1 Fld_s239_2 Arv_s239_3 Exa_s239_4 Fld_s239_5 Fld_s239_6 Arv_s239_7 Exa_s239_8 Fld_s239_9 Fld_s239_10 Arv_s239_11 Safe_s239_12 ge_s239_0 ge_s239_1 mh_s239_2 mh_s239_3 ne_s239_4 ne_s239_5 ne_s239_6 ne_s239_7 ne_s239_8 ne_s239_9 ne_s239_10 ne_s239_11 ne_s239_12 hB hN
          refine g_iload Xs239 hx (hb hby at_115) 117 rfl (v := f2) rfl ?_
          refine g_if_eq Xs239 hx (hb hby at_117) 129 120 (by decide) (by decide) rfl (fun hc117 => ?_) (fun hc117 => ?_)
          · refine g_aload Xs239 hx (hb hby at_129) 131 rfl (v := (.ref om)) rfl rfl ?_
            obtain ⟨cq240, kq240, q240a, q240b, q240c⟩ := isOf hZ es239 Exa_s239_8
            obtain ⟨_, _, ⟨T240, L240, k240, n240⟩, -, X240, ⟨Lc240, hQ240, l240, y240, z240⟩, st240⟩ := Xs239.virtualBack hx (y := (⟨"com/example/anagrafe/anagrafe/atom/Markup", "endEmpty", "()V"⟩ : MethodName)) (z := (⟨"com/example/anagrafe/anagrafe/atom/Markup", "endEmpty", "()V"⟩ : MethodName)) hown (mvT hZ (hw _ (List.mem_of_getElem? (i := 53) rfl))) (mvT hZ (hw _ (List.mem_of_getElem? (i := 54) rfl))) (notFace_of_selects (args := #[]) (mvT hZ (hw _ (List.mem_of_getElem? (i := 56) rfl)))) (mvT hZ (hw _ (List.mem_of_getElem? (i := 56) rfl))) (mvT hZ (hw _ (List.mem_of_getElem? (i := 55) rfl))) (by decide) (backOf (W := 0) (rm12 l Z a0 hw [] om wq kq N (List.replicate N (.int (0 : Int32))) bl hs239 n0 Zs239 Exa_s239_8 Fld_s239_9 Fld_s239_10 Arv_s239_11 ge_s239_0 ge_s239_1 ne_s239_4 hB (by simp) (by omega)) hZ (hw _ (List.mem_of_getElem? (i := 57) rfl)) (hw _ (List.mem_of_getElem? (i := 46) rfl)) (by decide) (by decide)) q240a q240c (g := (mkF m 131 #[.val (.int p1), .val (.int p2), .val (.int p3), .val (.int p4), .val (.int f1), .val (.int f2), .val (.int f3), .val (.int (Int32.ofNat nz)), .val (.int c1), .val (.int c2), zs, .val (.ref s1), .val (.ref s2), .val (.ref om), .val (.int (Int32.ofNat N)), .unset, .unset, .unset, .unset] [(.ref om)])) rfl (by rw [hml]; rfl) (Steps.refl _) (argsL := []) (rest := []) (lenOf own_pd28 rfl) rfl (by show 2 * 0 + _ ≤ _; exact Nat.le_of_eq rfl) (hb hby at_131) (fun _ _ => ⟨rfl, es239, (by decide : 20 + 0 ≤ _), (by decide : 62000 + 0 ≤ _)⟩)
            dsimp only [Pt.U, Pt.locs, Pt.cells, Pt.slots] at X240 l240 y240 z240 st240 hQ240
            subst l240 y240 z240
            obtain ⟨rfl, Nq240, Kq240, f240_0, f240_1, f240_2, f240_3⟩ := hQ240
            refine Go.tr st240 ?_
            have N240 := Fr.app Ns239 Nq240
            have Sf_wq_241 : Safe Z own_EL vs239 T240.heap wq := Safe.keep Kq240 (allS (Safe.exa (hZ.alike) Exa_s239_8 (by decide) (by decide)) (allS Safe_s239_12 all0)) Rs239.1 Safe_s239_12
            have R241 : CHr Z own_EL s.vm h0 vs239 T240.heap := CHr.trans Rs239 (CHr.keep Kq240 (allS (Safe.exa (hZ.alike) Exa_s239_8 (by decide) (by decide)) (allS Safe_s239_12 all0)) Rs239.1)
            have hk241 : _ ≤ T240.heap.size := Nat.le_trans kk239 (Kq240.1)
            have E_s1_242 : Exa Z T240.heap s1 "java/lang/String" := Exa.keep Exa_s239_0 Kq240
            have F_value_s1_242 : Fld Z T240.heap s1 "java/lang/String" "value" "[B" (.ref v1) := Fld.keep Fld_s239_1 Kq240 (ninS (Ne.symm ne_s239_5) (ninS (Ne.symm ne_s239_9) nin0))
            have F_coder_s1_242 : Fld Z T240.heap s1 "java/lang/String" "coder" "B" (.int (0 : Int32)) := Fld.keep Fld_s239_2 Kq240 (ninS (Ne.symm ne_s239_5) (ninS (Ne.symm ne_s239_9) nin0))
            have A_v1_242 : Arv Z T240.heap v1 k1 .byte (1 : Int32) ([(.int c1.toInt8.toInt32)]) (.int (0 : Int32)) := Arv.keep Arv_s239_3 Kq240 (ninS (Ne.symm ne_s239_6) (ninS (Ne.symm ne_s239_10) nin0))
            have E_s2_242 : Exa Z T240.heap s2 "java/lang/String" := Exa.keep Exa_s239_4 Kq240
            have F_value_s2_242 : Fld Z T240.heap s2 "java/lang/String" "value" "[B" (.ref v2) := Fld.keep Fld_s239_5 Kq240 (ninS (Ne.symm ne_s239_7) (ninS (Ne.symm ne_s239_11) nin0))
            have F_coder_s2_242 : Fld Z T240.heap s2 "java/lang/String" "coder" "B" (.int (0 : Int32)) := Fld.keep Fld_s239_6 Kq240 (ninS (Ne.symm ne_s239_7) (ninS (Ne.symm ne_s239_11) nin0))
            have A_v2_242 : Arv Z T240.heap v2 k2 .byte (1 : Int32) ([(.int c2.toInt8.toInt32)]) (.int (0 : Int32)) := Arv.keep Arv_s239_7 Kq240 (ninS (Ne.symm ne_s239_8) (ninS (Ne.symm ne_s239_12) nin0))
            have E_om_242 : Exa Z T240.heap om "com/example/anagrafe/anagrafe/atom/Markup" := Exa.keep Exa_s239_8 Kq240
            have K240 : Keep h0 T240.heap [] := Keep.trans Ks239 Kq240 (allS (Or.inr mh_s239_2) (allS (Or.inr mh_s239_3) all0))
            have Zs240 : n0 ≤ T240.heap.size := Nat.le_trans Zs239 Kq240.1
            show Go p e below _ (T240.setTop (mkF m 134 #[.val (.int p1), .val (.int p2), .val (.int p3), .val (.int p4), .val (.int f1), .val (.int f2), .val (.int f3), .val (.int (Int32.ofNat nz)), .val (.int c1), .val (.int c2), zs, .val (.ref s1), .val (.ref s2), .val (.ref om), .val (.int (Int32.ofNat N)), .unset, .unset, .unset, .unset] []))
            refine g_iload X240 hx (hb hby at_134) 136 rfl (v := f3) rfl ?_
            refine g_if_eq X240 hx (hb hby at_136) 144 139 (by decide) (by decide) rfl (fun hc136 => ?_) (fun hc136 => ?_)
            · refine g_aload X240 hx (hb hby at_144) 146 rfl (v := (.ref om)) rfl rfl ?_
              obtain ⟨cq243, kq243, q243a, q243b, q243c⟩ := isOf hZ rfl f240_0
              obtain ⟨_, _, ⟨T243, L243, k243, n243⟩, -, X243, ⟨Lc243, hQ243, l243, y243, z243⟩, st243⟩ := X240.virtualBack hx (y := (⟨"com/example/anagrafe/anagrafe/atom/Markup", "toByteArray", "()[B"⟩ : MethodName)) (z := (⟨"com/example/anagrafe/anagrafe/atom/Markup", "toByteArray", "()[B"⟩ : MethodName)) hown (mvT hZ (hw _ (List.mem_of_getElem? (i := 64) rfl))) (mvT hZ (hw _ (List.mem_of_getElem? (i := 65) rfl))) (notFace_of_selects (args := #[]) (mvT hZ (hw _ (List.mem_of_getElem? (i := 67) rfl)))) (mvT hZ (hw _ (List.mem_of_getElem? (i := 67) rfl))) (mvT hZ (hw _ (List.mem_of_getElem? (i := 66) rfl))) (by decide) (backOf (W := 0) (rm14 l Z a0 hw [] om wq kq (N + 2) (((List.replicate N (.int (0 : Int32))) ++ [(.int (47 : Int32))]) ++ [(.int (62 : Int32))]) bl T240.heap n0 Zs240 f240_0 f240_1 f240_2 f240_3 hB (by simp) (by omega)) hZ (hw _ (List.mem_of_getElem? (i := 68) rfl)) (hw _ (List.mem_of_getElem? (i := 46) rfl)) (by decide) (by decide)) q243a q243c (g := (mkF m 146 #[.val (.int p1), .val (.int p2), .val (.int p3), .val (.int p4), .val (.int f1), .val (.int f2), .val (.int f3), .val (.int (Int32.ofNat nz)), .val (.int c1), .val (.int c2), zs, .val (.ref s1), .val (.ref s2), .val (.ref om), .val (.int (Int32.ofNat N)), .unset, .unset, .unset, .unset] [(.ref om)])) rfl (by rw [hml]; rfl) (Steps.refl _) (argsL := []) (rest := []) (lenOf own_pd29 rfl) rfl (by show 2 * 0 + _ ≤ _; exact Nat.le_of_eq rfl) (hb hby at_146) (fun _ _ => ⟨rfl, rfl, (by decide : 20 + 1 ≤ _), (by decide : 62000 + 4111 ≤ _)⟩)
              dsimp only [Pt.U, Pt.locs, Pt.cells, Pt.slots] at X243 l243 y243 z243 st243 hQ243
              subst l243 y243 z243
              obtain ⟨b_243, kq_243, rfl, Nq243, Kq243, f243_0, f243_1⟩ := hQ243
              refine Go.tr st243 ?_
              have N243 := Fr.app N240 Nq243
              have Sf_b_243 : Safe Z own_EL vs239 T240.heap b_243 := Safe.new f243_0
              have Sf_wq_244 : Safe Z own_EL vs239 T243.heap wq := Safe.keep Kq243 all0 R241.1 Sf_wq_241
              have Sf_b_243_244 : Safe Z own_EL vs239 T243.heap b_243 := Safe.keep Kq243 all0 R241.1 Sf_b_243
              have R244 : CHr Z own_EL s.vm h0 vs239 T243.heap := CHr.trans R241 (CHr.keep Kq243 all0 R241.1)
              have hk244 : _ ≤ T243.heap.size := Nat.le_trans hk241 (Kq243.1)
              have E_s1_245 : Exa Z T243.heap s1 "java/lang/String" := Exa.keep E_s1_242 Kq243
              have F_value_s1_245 : Fld Z T243.heap s1 "java/lang/String" "value" "[B" (.ref v1) := Fld.keep F_value_s1_242 Kq243 nin0
              have F_coder_s1_245 : Fld Z T243.heap s1 "java/lang/String" "coder" "B" (.int (0 : Int32)) := Fld.keep F_coder_s1_242 Kq243 nin0
              have A_v1_245 : Arv Z T243.heap v1 k1 .byte (1 : Int32) ([(.int c1.toInt8.toInt32)]) (.int (0 : Int32)) := Arv.keep A_v1_242 Kq243 nin0
              have E_s2_245 : Exa Z T243.heap s2 "java/lang/String" := Exa.keep E_s2_242 Kq243
              have F_value_s2_245 : Fld Z T243.heap s2 "java/lang/String" "value" "[B" (.ref v2) := Fld.keep F_value_s2_242 Kq243 nin0
              have F_coder_s2_245 : Fld Z T243.heap s2 "java/lang/String" "coder" "B" (.int (0 : Int32)) := Fld.keep F_coder_s2_242 Kq243 nin0
              have A_v2_245 : Arv Z T243.heap v2 k2 .byte (1 : Int32) ([(.int c2.toInt8.toInt32)]) (.int (0 : Int32)) := Arv.keep A_v2_242 Kq243 nin0
              have E_om_245 : Exa Z T243.heap om "com/example/anagrafe/anagrafe/atom/Markup" := Exa.keep f240_0 Kq243
              have F_bytes_om_245 : Fld Z T243.heap om "com/example/anagrafe/anagrafe/atom/Markup" "bytes" "[B" (.ref wq) := Fld.keep f240_1 Kq243 nin0
              have F_size_om_245 : Fld Z T243.heap om "com/example/anagrafe/anagrafe/atom/Markup" "size" "I" (.int (Int32.ofNat (N + 2))) := Fld.keep f240_2 Kq243 nin0
              have A_wq_245 : Arv Z T243.heap wq kq .byte (Int32.ofNat bl) (((List.replicate N (.int (0 : Int32))) ++ [(.int (47 : Int32))]) ++ [(.int (62 : Int32))]) (.int (0 : Int32)) := Arv.keep f240_3 Kq243 nin0
              have ne_s1_b_243 : s1 ≠ b_243 := Nat.ne_of_lt (Nat.lt_of_lt_of_le E_s1_242.lt f243_0)
              have ne_v1_b_243 : v1 ≠ b_243 := Nat.ne_of_lt (Nat.lt_of_lt_of_le A_v1_242.lt f243_0)
              have ne_s2_b_243 : s2 ≠ b_243 := Nat.ne_of_lt (Nat.lt_of_lt_of_le E_s2_242.lt f243_0)
              have ne_v2_b_243 : v2 ≠ b_243 := Nat.ne_of_lt (Nat.lt_of_lt_of_le A_v2_242.lt f243_0)
              have ne_om_b_243 : om ≠ b_243 := Nat.ne_of_lt (Nat.lt_of_lt_of_le f240_0.lt f243_0)
              have ne_wq_b_243 : wq ≠ b_243 := Nat.ne_of_lt (Nat.lt_of_lt_of_le f240_3.lt f243_0)
              have g_b_243 : n0 ≤ b_243 := Nat.le_trans Zs240 f243_0
              have mh_b_243 : h0.size ≤ b_243 := Nat.le_trans K240.1 f243_0
              have K243 : Keep h0 T243.heap [] := Keep.trans K240 Kq243 all0
              have Zs243 : n0 ≤ T243.heap.size := Nat.le_trans Zs240 Kq243.1
              show Go p e below _ (T243.setTop (mkF m 149 #[.val (.int p1), .val (.int p2), .val (.int p3), .val (.int p4), .val (.int f1), .val (.int f2), .val (.int f3), .val (.int (Int32.ofNat nz)), .val (.int c1), .val (.int c2), zs, .val (.ref s1), .val (.ref s2), .val (.ref om), .val (.int (Int32.ofNat N)), .unset, .unset, .unset, .unset] [(.ref b_243)]))
              have Avo : Arv Z T243.heap b_243 kq_243 .byte (Int32.ofNat (N + 2)) ((List.replicate N (.int (0 : Int32))) ++ [(.int (47 : Int32)), (.int (62 : Int32))]) (.int (0 : Int32)) := by have q := f243_1; simp only [List.append_assoc, List.cons_append, List.nil_append] at q; exact q
              refine g_astore X243 hx (hb hby at_149) 151 rfl rfl #[.val (.int p1), .val (.int p2), .val (.int p3), .val (.int p4), .val (.int f1), .val (.int f2), .val (.int f3), .val (.int (Int32.ofNat nz)), .val (.int c1), .val (.int c2), zs, .val (.ref s1), .val (.ref s2), .val (.ref om), .val (.int (Int32.ofNat N)), .val (.ref b_243), .unset, .unset, .unset] rfl ?_
              refine g_iload X243 hx (hb hby at_151) 153 rfl (v := f2) rfl ?_
              refine g_if_eq X243 hx (hb hby at_153) 160 156 (by decide) (by decide) rfl (fun hc153 => ?_) (fun hc153 => False.elim (hc153 hc117))
              refine g_iconst X243 hx (hb hby at_160) 161 rfl (0 : Int32) rfl ?_
              refine g_istore X243 hx (hb hby at_161) 163 rfl #[.val (.int p1), .val (.int p2), .val (.int p3), .val (.int p4), .val (.int f1), .val (.int f2), .val (.int f3), .val (.int (Int32.ofNat nz)), .val (.int c1), .val (.int c2), zs, .val (.ref s1), .val (.ref s2), .val (.ref om), .val (.int (Int32.ofNat N)), .val (.ref b_243), .val (.int (0 : Int32)), .unset, .unset] rfl ?_
              refine g_iload X243 hx (hb hby at_163) 165 rfl (v := (Int32.ofNat N)) rfl ?_
              refine g_iload X243 hx (hb hby at_165) 167 rfl (v := (0 : Int32)) rfl ?_
              refine g_iadd X243 hx (hb hby at_167) 168 rfl (Int32.ofNat (N + 0)) (Int32.ofNat_add (N) 0).symm ?_
              refine g_iload X243 hx (hb hby at_168) 170 rfl (v := f3) rfl ?_
              refine g_if_eq X243 hx (hb hby at_170) 177 173 (by decide) (by decide) rfl (fun hc170 => ?_) (fun hc170 => False.elim (hc170 hc136))
              refine g_iconst X243 hx (hb hby at_177) 178 rfl (2 : Int32) rfl ?_
              refine g_iadd X243 hx (hb hby at_178) 179 rfl (Int32.ofNat (N + 0 + 2)) (Int32.ofNat_add (N + 0) 2).symm ?_
              refine g_istore X243 hx (hb hby at_179) 181 rfl #[.val (.int p1), .val (.int p2), .val (.int p3), .val (.int p4), .val (.int f1), .val (.int f2), .val (.int f3), .val (.int (Int32.ofNat nz)), .val (.int c1), .val (.int c2), zs, .val (.ref s1), .val (.ref s2), .val (.ref om), .val (.int (Int32.ofNat N)), .val (.ref b_243), .val (.int (0 : Int32)), .val (.int (Int32.ofNat (N + 0 + 2))), .unset] rfl ?_
              refine g_aload X243 hx (hb hby at_181) 183 rfl (v := (.ref b_243)) rfl rfl ?_
              refine g_alen X243 hx (hb hby at_183) 184 rfl hZ rfl Avo ?_
              refine g_iload X243 hx (hb hby at_184) 186 rfl (v := (Int32.ofNat (N + 0 + 2))) rfl ?_
              refine g_icmp_eq X243 hx (hb hby at_186) 191 189 (by decide) (by decide) rfl (fun hc186 => ?_) (fun hc186 => False.elim (hc186 rfl))
              refine g_iload X243 hx (hb hby at_191) 193 rfl (v := (Int32.ofNat N)) rfl ?_
              refine g_if_le X243 hx (hb hby at_193) 215 196 (by decide) (by decide) rfl (fun hc193 => ?_) (fun hc193 => ?_)
              · refine g_iload X243 hx (hb hby at_215) 217 rfl (v := f2) rfl ?_
                refine g_if_eq X243 hx (hb hby at_217) 270 220 (by decide) (by decide) rfl (fun hc217 => ?_) (fun hc217 => False.elim (hc217 hc117))
                refine g_iload X243 hx (hb hby at_270) 272 rfl (v := (Int32.ofNat N)) rfl ?_
                refine g_iload X243 hx (hb hby at_272) 274 rfl (v := (0 : Int32)) rfl ?_
                refine g_iadd X243 hx (hb hby at_274) 275 rfl (Int32.ofNat (N + 0)) (Int32.ofNat_add (N) 0).symm ?_
                refine g_istore X243 hx (hb hby at_275) 277 rfl #[.val (.int p1), .val (.int p2), .val (.int p3), .val (.int p4), .val (.int f1), .val (.int f2), .val (.int f3), .val (.int (Int32.ofNat nz)), .val (.int c1), .val (.int c2), zs, .val (.ref s1), .val (.ref s2), .val (.ref om), .val (.int (Int32.ofNat N)), .val (.ref b_243), .val (.int (0 : Int32)), .val (.int (Int32.ofNat (N + 0 + 2))), .val (.int (Int32.ofNat (N + 0)))] rfl ?_
                refine g_aload X243 hx (hb hby at_277) 279 rfl (v := (.ref b_243)) rfl rfl ?_
                refine g_iload X243 hx (hb hby at_279) 281 rfl (v := (Int32.ofNat (N + 0))) rfl ?_
                refine g_baload X243 hx (hb hby at_281) 282 rfl hZ rfl Avo (own_in (by omega) (by omega)) (.int (47 : Int32)) (by rw [own_cl (by omega)]; exact own_fr N 0 _ _) ?_
                refine g_bipush X243 hx (hb hby at_282) 284 rfl (47 : Int32) rfl ?_
                refine g_icmp_ne X243 hx (hb hby at_284) 299 287 (by decide) (by decide) rfl (fun hc284 => False.elim (hc284 rfl)) (fun hc284 => ?_)
                refine g_aload X243 hx (hb hby at_287) 289 rfl (v := (.ref b_243)) rfl rfl ?_
                refine g_iload X243 hx (hb hby at_289) 291 rfl (v := (Int32.ofNat (N + 0))) rfl ?_
                refine g_iconst X243 hx (hb hby at_291) 292 rfl (1 : Int32) rfl ?_
                refine g_iadd X243 hx (hb hby at_292) 293 rfl (Int32.ofNat (N + 0 + 1)) (Int32.ofNat_add (N + 0) 1).symm ?_
                refine g_baload X243 hx (hb hby at_293) 294 rfl hZ rfl Avo (own_in (by omega) (by omega)) (.int (62 : Int32)) (by rw [own_cl (by omega)]; exact own_fr N 1 _ _) ?_
                refine g_bipush X243 hx (hb hby at_294) 296 rfl (62 : Int32) rfl ?_
                refine g_icmp_eq X243 hx (hb hby at_296) 301 299 (by decide) (by decide) rfl (fun hc296 => ?_) (fun hc296 => False.elim (hc296 rfl))
                refine g_iload X243 hx (hb hby at_301) 303 rfl (v := f3) rfl ?_
                refine g_if_eq X243 hx (hb hby at_303) 332 306 (by decide) (by decide) rfl (fun hc303 => ?_) (fun hc303 => False.elim (hc303 hc136))
                refine g_iconst X243 hx (hb hby at_332) 333 rfl (1 : Int32) rfl ?_
                refine Go.retNS X243 hx hlk (t := .boolean) Bd.returns (by simp) (hb hby at_333) (by decide) (by decide) Ss239 hk244 (own_EW hw) hZ (by rw [hh]; exact R244) ?_
                exact ⟨rfl, N243⟩
              · have hpN : 0 < N := own_lt (j := 0) (by omega) (by omega) hc193
                refine g_aload X243 hx (hb hby at_196) 198 rfl (v := (.ref b_243)) rfl rfl ?_
                refine g_iconst X243 hx (hb hby at_198) 199 rfl (0 : Int32) rfl ?_
                refine g_baload X243 hx (hb hby at_199) 200 rfl hZ rfl Avo (own_in (j := 0) (by omega) (by omega)) (.int (0 : Int32)) (own_fl (j := 0) hpN _ _) ?_
                refine g_if_ne X243 hx (hb hby at_200) 213 203 (by decide) (by decide) rfl (fun hc200 => False.elim (hc200 rfl)) (fun hc200 => ?_)
                refine g_aload X243 hx (hb hby at_203) 205 rfl (v := (.ref b_243)) rfl rfl ?_
                refine g_iload X243 hx (hb hby at_205) 207 rfl (v := (Int32.ofNat N)) rfl ?_
                refine g_iconst X243 hx (hb hby at_207) 208 rfl (1 : Int32) rfl ?_
                refine g_isub X243 hx (hb hby at_208) 209 rfl (Int32.ofNat (N - 1)) (own_pred hpN) ?_
                refine g_baload X243 hx (hb hby at_209) 210 rfl hZ rfl Avo (own_in (by omega) (by omega)) (.int (0 : Int32)) (by rw [own_cl (by omega)]; exact own_fl (by omega) _ _) ?_
                refine g_if_eq X243 hx (hb hby at_210) 215 213 (by decide) (by decide) rfl (fun hc210 => ?_) (fun hc210 => False.elim (hc210 rfl))
                refine g_iload X243 hx (hb hby at_215) 217 rfl (v := f2) rfl ?_
                refine g_if_eq X243 hx (hb hby at_217) 270 220 (by decide) (by decide) rfl (fun hc217 => ?_) (fun hc217 => False.elim (hc217 hc117))
                refine g_iload X243 hx (hb hby at_270) 272 rfl (v := (Int32.ofNat N)) rfl ?_
                refine g_iload X243 hx (hb hby at_272) 274 rfl (v := (0 : Int32)) rfl ?_
                refine g_iadd X243 hx (hb hby at_274) 275 rfl (Int32.ofNat (N + 0)) (Int32.ofNat_add (N) 0).symm ?_
                refine g_istore X243 hx (hb hby at_275) 277 rfl #[.val (.int p1), .val (.int p2), .val (.int p3), .val (.int p4), .val (.int f1), .val (.int f2), .val (.int f3), .val (.int (Int32.ofNat nz)), .val (.int c1), .val (.int c2), zs, .val (.ref s1), .val (.ref s2), .val (.ref om), .val (.int (Int32.ofNat N)), .val (.ref b_243), .val (.int (0 : Int32)), .val (.int (Int32.ofNat (N + 0 + 2))), .val (.int (Int32.ofNat (N + 0)))] rfl ?_
                refine g_aload X243 hx (hb hby at_277) 279 rfl (v := (.ref b_243)) rfl rfl ?_
                refine g_iload X243 hx (hb hby at_279) 281 rfl (v := (Int32.ofNat (N + 0))) rfl ?_
                refine g_baload X243 hx (hb hby at_281) 282 rfl hZ rfl Avo (own_in (by omega) (by omega)) (.int (47 : Int32)) (by rw [own_cl (by omega)]; exact own_fr N 0 _ _) ?_
                refine g_bipush X243 hx (hb hby at_282) 284 rfl (47 : Int32) rfl ?_
                refine g_icmp_ne X243 hx (hb hby at_284) 299 287 (by decide) (by decide) rfl (fun hc284 => False.elim (hc284 rfl)) (fun hc284 => ?_)
                refine g_aload X243 hx (hb hby at_287) 289 rfl (v := (.ref b_243)) rfl rfl ?_
                refine g_iload X243 hx (hb hby at_289) 291 rfl (v := (Int32.ofNat (N + 0))) rfl ?_
                refine g_iconst X243 hx (hb hby at_291) 292 rfl (1 : Int32) rfl ?_
                refine g_iadd X243 hx (hb hby at_292) 293 rfl (Int32.ofNat (N + 0 + 1)) (Int32.ofNat_add (N + 0) 1).symm ?_
                refine g_baload X243 hx (hb hby at_293) 294 rfl hZ rfl Avo (own_in (by omega) (by omega)) (.int (62 : Int32)) (by rw [own_cl (by omega)]; exact own_fr N 1 _ _) ?_
                refine g_bipush X243 hx (hb hby at_294) 296 rfl (62 : Int32) rfl ?_
                refine g_icmp_eq X243 hx (hb hby at_296) 301 299 (by decide) (by decide) rfl (fun hc296 => ?_) (fun hc296 => False.elim (hc296 rfl))
                refine g_iload X243 hx (hb hby at_301) 303 rfl (v := f3) rfl ?_
                refine g_if_eq X243 hx (hb hby at_303) 332 306 (by decide) (by decide) rfl (fun hc303 => ?_) (fun hc303 => False.elim (hc303 hc136))
                refine g_iconst X243 hx (hb hby at_332) 333 rfl (1 : Int32) rfl ?_
                refine Go.retNS X243 hx hlk (t := .boolean) Bd.returns (by simp) (hb hby at_333) (by decide) (by decide) Ss239 hk244 (own_EW hw) hZ (by rw [hh]; exact R244) ?_
                exact ⟨rfl, N243⟩
            · refine g_aload X240 hx (hb hby at_139) 141 rfl (v := (.ref om)) rfl rfl ?_
              obtain ⟨cq253, kq253, q253a, q253b, q253c⟩ := isOf hZ rfl f240_0
              obtain ⟨_, _, ⟨T253, L253, k253, n253⟩, -, X253, ⟨Lc253, hQ253, l253, y253, z253⟩, st253⟩ := X240.virtualBack hx (y := (⟨"com/example/anagrafe/anagrafe/atom/Markup", "endEmpty", "()V"⟩ : MethodName)) (z := (⟨"com/example/anagrafe/anagrafe/atom/Markup", "endEmpty", "()V"⟩ : MethodName)) hown (mvT hZ (hw _ (List.mem_of_getElem? (i := 53) rfl))) (mvT hZ (hw _ (List.mem_of_getElem? (i := 54) rfl))) (notFace_of_selects (args := #[]) (mvT hZ (hw _ (List.mem_of_getElem? (i := 56) rfl)))) (mvT hZ (hw _ (List.mem_of_getElem? (i := 56) rfl))) (mvT hZ (hw _ (List.mem_of_getElem? (i := 55) rfl))) (by decide) (backOf (W := 0) (rm12 l Z a0 hw [] om wq kq (N + 2) (((List.replicate N (.int (0 : Int32))) ++ [(.int (47 : Int32))]) ++ [(.int (62 : Int32))]) bl T240.heap n0 Zs240 f240_0 f240_1 f240_2 f240_3 ge_s239_0 ge_s239_1 ne_s239_4 hB (by simp) (by omega)) hZ (hw _ (List.mem_of_getElem? (i := 57) rfl)) (hw _ (List.mem_of_getElem? (i := 46) rfl)) (by decide) (by decide)) q253a q253c (g := (mkF m 141 #[.val (.int p1), .val (.int p2), .val (.int p3), .val (.int p4), .val (.int f1), .val (.int f2), .val (.int f3), .val (.int (Int32.ofNat nz)), .val (.int c1), .val (.int c2), zs, .val (.ref s1), .val (.ref s2), .val (.ref om), .val (.int (Int32.ofNat N)), .unset, .unset, .unset, .unset] [(.ref om)])) rfl (by rw [hml]; rfl) (Steps.refl _) (argsL := []) (rest := []) (lenOf own_pd28 rfl) rfl (by show 2 * 0 + _ ≤ _; exact Nat.le_of_eq rfl) (hb hby at_141) (fun _ _ => ⟨rfl, rfl, (by decide : 20 + 0 ≤ _), (by decide : 62000 + 0 ≤ _)⟩)
              dsimp only [Pt.U, Pt.locs, Pt.cells, Pt.slots] at X253 l253 y253 z253 st253 hQ253
              subst l253 y253 z253
              obtain ⟨rfl, Nq253, Kq253, f253_0, f253_1, f253_2, f253_3⟩ := hQ253
              refine Go.tr st253 ?_
              have N253 := Fr.app N240 Nq253
              have Sf_wq_254 : Safe Z own_EL vs239 T253.heap wq := Safe.keep Kq253 (allS (Safe.exa (hZ.alike) f240_0 (by decide) (by decide)) (allS Sf_wq_241 all0)) R241.1 Sf_wq_241
              have R254 : CHr Z own_EL s.vm h0 vs239 T253.heap := CHr.trans R241 (CHr.keep Kq253 (allS (Safe.exa (hZ.alike) f240_0 (by decide) (by decide)) (allS Sf_wq_241 all0)) R241.1)
              have hk254 : _ ≤ T253.heap.size := Nat.le_trans hk241 (Kq253.1)
              have E_s1_255 : Exa Z T253.heap s1 "java/lang/String" := Exa.keep E_s1_242 Kq253
              have F_value_s1_255 : Fld Z T253.heap s1 "java/lang/String" "value" "[B" (.ref v1) := Fld.keep F_value_s1_242 Kq253 (ninS (Ne.symm ne_s239_5) (ninS (Ne.symm ne_s239_9) nin0))
              have F_coder_s1_255 : Fld Z T253.heap s1 "java/lang/String" "coder" "B" (.int (0 : Int32)) := Fld.keep F_coder_s1_242 Kq253 (ninS (Ne.symm ne_s239_5) (ninS (Ne.symm ne_s239_9) nin0))
              have A_v1_255 : Arv Z T253.heap v1 k1 .byte (1 : Int32) ([(.int c1.toInt8.toInt32)]) (.int (0 : Int32)) := Arv.keep A_v1_242 Kq253 (ninS (Ne.symm ne_s239_6) (ninS (Ne.symm ne_s239_10) nin0))
              have E_s2_255 : Exa Z T253.heap s2 "java/lang/String" := Exa.keep E_s2_242 Kq253
              have F_value_s2_255 : Fld Z T253.heap s2 "java/lang/String" "value" "[B" (.ref v2) := Fld.keep F_value_s2_242 Kq253 (ninS (Ne.symm ne_s239_7) (ninS (Ne.symm ne_s239_11) nin0))
              have F_coder_s2_255 : Fld Z T253.heap s2 "java/lang/String" "coder" "B" (.int (0 : Int32)) := Fld.keep F_coder_s2_242 Kq253 (ninS (Ne.symm ne_s239_7) (ninS (Ne.symm ne_s239_11) nin0))
              have A_v2_255 : Arv Z T253.heap v2 k2 .byte (1 : Int32) ([(.int c2.toInt8.toInt32)]) (.int (0 : Int32)) := Arv.keep A_v2_242 Kq253 (ninS (Ne.symm ne_s239_8) (ninS (Ne.symm ne_s239_12) nin0))
              have E_om_255 : Exa Z T253.heap om "com/example/anagrafe/anagrafe/atom/Markup" := Exa.keep f240_0 Kq253
              have K253 : Keep h0 T253.heap [] := Keep.trans K240 Kq253 (allS (Or.inr mh_s239_2) (allS (Or.inr mh_s239_3) all0))
              have Zs253 : n0 ≤ T253.heap.size := Nat.le_trans Zs240 Kq253.1
              show Go p e below _ (T253.setTop (mkF m 144 #[.val (.int p1), .val (.int p2), .val (.int p3), .val (.int p4), .val (.int f1), .val (.int f2), .val (.int f3), .val (.int (Int32.ofNat nz)), .val (.int c1), .val (.int c2), zs, .val (.ref s1), .val (.ref s2), .val (.ref om), .val (.int (Int32.ofNat N)), .unset, .unset, .unset, .unset] []))
              refine g_aload X253 hx (hb hby at_144) 146 rfl (v := (.ref om)) rfl rfl ?_
              obtain ⟨cq256, kq256, q256a, q256b, q256c⟩ := isOf hZ rfl f253_0
              obtain ⟨_, _, ⟨T256, L256, k256, n256⟩, -, X256, ⟨Lc256, hQ256, l256, y256, z256⟩, st256⟩ := X253.virtualBack hx (y := (⟨"com/example/anagrafe/anagrafe/atom/Markup", "toByteArray", "()[B"⟩ : MethodName)) (z := (⟨"com/example/anagrafe/anagrafe/atom/Markup", "toByteArray", "()[B"⟩ : MethodName)) hown (mvT hZ (hw _ (List.mem_of_getElem? (i := 64) rfl))) (mvT hZ (hw _ (List.mem_of_getElem? (i := 65) rfl))) (notFace_of_selects (args := #[]) (mvT hZ (hw _ (List.mem_of_getElem? (i := 67) rfl)))) (mvT hZ (hw _ (List.mem_of_getElem? (i := 67) rfl))) (mvT hZ (hw _ (List.mem_of_getElem? (i := 66) rfl))) (by decide) (backOf (W := 0) (rm14 l Z a0 hw [] om wq kq ((N + 2) + 2) (((((List.replicate N (.int (0 : Int32))) ++ [(.int (47 : Int32))]) ++ [(.int (62 : Int32))]) ++ [(.int (47 : Int32))]) ++ [(.int (62 : Int32))]) bl T253.heap n0 Zs253 f253_0 f253_1 f253_2 f253_3 hB (by simp) (by omega)) hZ (hw _ (List.mem_of_getElem? (i := 68) rfl)) (hw _ (List.mem_of_getElem? (i := 46) rfl)) (by decide) (by decide)) q256a q256c (g := (mkF m 146 #[.val (.int p1), .val (.int p2), .val (.int p3), .val (.int p4), .val (.int f1), .val (.int f2), .val (.int f3), .val (.int (Int32.ofNat nz)), .val (.int c1), .val (.int c2), zs, .val (.ref s1), .val (.ref s2), .val (.ref om), .val (.int (Int32.ofNat N)), .unset, .unset, .unset, .unset] [(.ref om)])) rfl (by rw [hml]; rfl) (Steps.refl _) (argsL := []) (rest := []) (lenOf own_pd29 rfl) rfl (by show 2 * 0 + _ ≤ _; exact Nat.le_of_eq rfl) (hb hby at_146) (fun _ _ => ⟨rfl, rfl, (by decide : 20 + 1 ≤ _), (by decide : 62000 + 4111 ≤ _)⟩)
              dsimp only [Pt.U, Pt.locs, Pt.cells, Pt.slots] at X256 l256 y256 z256 st256 hQ256
              subst l256 y256 z256
              obtain ⟨b_256, kq_256, rfl, Nq256, Kq256, f256_0, f256_1⟩ := hQ256
              refine Go.tr st256 ?_
              have N256 := Fr.app N253 Nq256
              have Sf_b_256 : Safe Z own_EL vs239 T253.heap b_256 := Safe.new f256_0
              have Sf_wq_257 : Safe Z own_EL vs239 T256.heap wq := Safe.keep Kq256 all0 R254.1 Sf_wq_254
              have Sf_b_256_257 : Safe Z own_EL vs239 T256.heap b_256 := Safe.keep Kq256 all0 R254.1 Sf_b_256
              have R257 : CHr Z own_EL s.vm h0 vs239 T256.heap := CHr.trans R254 (CHr.keep Kq256 all0 R254.1)
              have hk257 : _ ≤ T256.heap.size := Nat.le_trans hk254 (Kq256.1)
              have E_s1_258 : Exa Z T256.heap s1 "java/lang/String" := Exa.keep E_s1_255 Kq256
              have F_value_s1_258 : Fld Z T256.heap s1 "java/lang/String" "value" "[B" (.ref v1) := Fld.keep F_value_s1_255 Kq256 nin0
              have F_coder_s1_258 : Fld Z T256.heap s1 "java/lang/String" "coder" "B" (.int (0 : Int32)) := Fld.keep F_coder_s1_255 Kq256 nin0
              have A_v1_258 : Arv Z T256.heap v1 k1 .byte (1 : Int32) ([(.int c1.toInt8.toInt32)]) (.int (0 : Int32)) := Arv.keep A_v1_255 Kq256 nin0
              have E_s2_258 : Exa Z T256.heap s2 "java/lang/String" := Exa.keep E_s2_255 Kq256
              have F_value_s2_258 : Fld Z T256.heap s2 "java/lang/String" "value" "[B" (.ref v2) := Fld.keep F_value_s2_255 Kq256 nin0
              have F_coder_s2_258 : Fld Z T256.heap s2 "java/lang/String" "coder" "B" (.int (0 : Int32)) := Fld.keep F_coder_s2_255 Kq256 nin0
              have A_v2_258 : Arv Z T256.heap v2 k2 .byte (1 : Int32) ([(.int c2.toInt8.toInt32)]) (.int (0 : Int32)) := Arv.keep A_v2_255 Kq256 nin0
              have E_om_258 : Exa Z T256.heap om "com/example/anagrafe/anagrafe/atom/Markup" := Exa.keep f253_0 Kq256
              have F_bytes_om_258 : Fld Z T256.heap om "com/example/anagrafe/anagrafe/atom/Markup" "bytes" "[B" (.ref wq) := Fld.keep f253_1 Kq256 nin0
              have F_size_om_258 : Fld Z T256.heap om "com/example/anagrafe/anagrafe/atom/Markup" "size" "I" (.int (Int32.ofNat ((N + 2) + 2))) := Fld.keep f253_2 Kq256 nin0
              have A_wq_258 : Arv Z T256.heap wq kq .byte (Int32.ofNat bl) (((((List.replicate N (.int (0 : Int32))) ++ [(.int (47 : Int32))]) ++ [(.int (62 : Int32))]) ++ [(.int (47 : Int32))]) ++ [(.int (62 : Int32))]) (.int (0 : Int32)) := Arv.keep f253_3 Kq256 nin0
              have ne_s1_b_256 : s1 ≠ b_256 := Nat.ne_of_lt (Nat.lt_of_lt_of_le E_s1_255.lt f256_0)
              have ne_v1_b_256 : v1 ≠ b_256 := Nat.ne_of_lt (Nat.lt_of_lt_of_le A_v1_255.lt f256_0)
              have ne_s2_b_256 : s2 ≠ b_256 := Nat.ne_of_lt (Nat.lt_of_lt_of_le E_s2_255.lt f256_0)
              have ne_v2_b_256 : v2 ≠ b_256 := Nat.ne_of_lt (Nat.lt_of_lt_of_le A_v2_255.lt f256_0)
              have ne_om_b_256 : om ≠ b_256 := Nat.ne_of_lt (Nat.lt_of_lt_of_le f253_0.lt f256_0)
              have ne_wq_b_256 : wq ≠ b_256 := Nat.ne_of_lt (Nat.lt_of_lt_of_le f253_3.lt f256_0)
              have g_b_256 : n0 ≤ b_256 := Nat.le_trans Zs253 f256_0
              have mh_b_256 : h0.size ≤ b_256 := Nat.le_trans K253.1 f256_0
              have K256 : Keep h0 T256.heap [] := Keep.trans K253 Kq256 all0
              have Zs256 : n0 ≤ T256.heap.size := Nat.le_trans Zs253 Kq256.1
              show Go p e below _ (T256.setTop (mkF m 149 #[.val (.int p1), .val (.int p2), .val (.int p3), .val (.int p4), .val (.int f1), .val (.int f2), .val (.int f3), .val (.int (Int32.ofNat nz)), .val (.int c1), .val (.int c2), zs, .val (.ref s1), .val (.ref s2), .val (.ref om), .val (.int (Int32.ofNat N)), .unset, .unset, .unset, .unset] [(.ref b_256)]))
              have Avo : Arv Z T256.heap b_256 kq_256 .byte (Int32.ofNat ((N + 2) + 2)) ((List.replicate N (.int (0 : Int32))) ++ [(.int (47 : Int32)), (.int (62 : Int32)), (.int (47 : Int32)), (.int (62 : Int32))]) (.int (0 : Int32)) := by have q := f256_1; simp only [List.append_assoc, List.cons_append, List.nil_append] at q; exact q
              refine g_astore X256 hx (hb hby at_149) 151 rfl rfl #[.val (.int p1), .val (.int p2), .val (.int p3), .val (.int p4), .val (.int f1), .val (.int f2), .val (.int f3), .val (.int (Int32.ofNat nz)), .val (.int c1), .val (.int c2), zs, .val (.ref s1), .val (.ref s2), .val (.ref om), .val (.int (Int32.ofNat N)), .val (.ref b_256), .unset, .unset, .unset] rfl ?_
              refine g_iload X256 hx (hb hby at_151) 153 rfl (v := f2) rfl ?_
              refine g_if_eq X256 hx (hb hby at_153) 160 156 (by decide) (by decide) rfl (fun hc153 => ?_) (fun hc153 => False.elim (hc153 hc117))
              refine g_iconst X256 hx (hb hby at_160) 161 rfl (0 : Int32) rfl ?_
              refine g_istore X256 hx (hb hby at_161) 163 rfl #[.val (.int p1), .val (.int p2), .val (.int p3), .val (.int p4), .val (.int f1), .val (.int f2), .val (.int f3), .val (.int (Int32.ofNat nz)), .val (.int c1), .val (.int c2), zs, .val (.ref s1), .val (.ref s2), .val (.ref om), .val (.int (Int32.ofNat N)), .val (.ref b_256), .val (.int (0 : Int32)), .unset, .unset] rfl ?_
              refine g_iload X256 hx (hb hby at_163) 165 rfl (v := (Int32.ofNat N)) rfl ?_
              refine g_iload X256 hx (hb hby at_165) 167 rfl (v := (0 : Int32)) rfl ?_
              refine g_iadd X256 hx (hb hby at_167) 168 rfl (Int32.ofNat (N + 0)) (Int32.ofNat_add (N) 0).symm ?_
              refine g_iload X256 hx (hb hby at_168) 170 rfl (v := f3) rfl ?_
              refine g_if_eq X256 hx (hb hby at_170) 177 173 (by decide) (by decide) rfl (fun hc170 => False.elim (hc136 hc170)) (fun hc170 => ?_)
              refine g_iconst X256 hx (hb hby at_173) 174 rfl (4 : Int32) rfl ?_
              refine g_goto X256 hx (hb hby at_174) 178 (by decide) (by decide) ?_
              refine g_iadd X256 hx (hb hby at_178) 179 rfl (Int32.ofNat (N + 0 + 4)) (Int32.ofNat_add (N + 0) 4).symm ?_
              refine g_istore X256 hx (hb hby at_179) 181 rfl #[.val (.int p1), .val (.int p2), .val (.int p3), .val (.int p4), .val (.int f1), .val (.int f2), .val (.int f3), .val (.int (Int32.ofNat nz)), .val (.int c1), .val (.int c2), zs, .val (.ref s1), .val (.ref s2), .val (.ref om), .val (.int (Int32.ofNat N)), .val (.ref b_256), .val (.int (0 : Int32)), .val (.int (Int32.ofNat (N + 0 + 4))), .unset] rfl ?_
              refine g_aload X256 hx (hb hby at_181) 183 rfl (v := (.ref b_256)) rfl rfl ?_
              refine g_alen X256 hx (hb hby at_183) 184 rfl hZ rfl Avo ?_
              refine g_iload X256 hx (hb hby at_184) 186 rfl (v := (Int32.ofNat (N + 0 + 4))) rfl ?_
              refine g_icmp_eq X256 hx (hb hby at_186) 191 189 (by decide) (by decide) rfl (fun hc186 => ?_) (fun hc186 => False.elim (hc186 rfl))
              refine g_iload X256 hx (hb hby at_191) 193 rfl (v := (Int32.ofNat N)) rfl ?_
              refine g_if_le X256 hx (hb hby at_193) 215 196 (by decide) (by decide) rfl (fun hc193 => ?_) (fun hc193 => ?_)
              · refine g_iload X256 hx (hb hby at_215) 217 rfl (v := f2) rfl ?_
                refine g_if_eq X256 hx (hb hby at_217) 270 220 (by decide) (by decide) rfl (fun hc217 => ?_) (fun hc217 => False.elim (hc217 hc117))
                refine g_iload X256 hx (hb hby at_270) 272 rfl (v := (Int32.ofNat N)) rfl ?_
                refine g_iload X256 hx (hb hby at_272) 274 rfl (v := (0 : Int32)) rfl ?_
                refine g_iadd X256 hx (hb hby at_274) 275 rfl (Int32.ofNat (N + 0)) (Int32.ofNat_add (N) 0).symm ?_
                refine g_istore X256 hx (hb hby at_275) 277 rfl #[.val (.int p1), .val (.int p2), .val (.int p3), .val (.int p4), .val (.int f1), .val (.int f2), .val (.int f3), .val (.int (Int32.ofNat nz)), .val (.int c1), .val (.int c2), zs, .val (.ref s1), .val (.ref s2), .val (.ref om), .val (.int (Int32.ofNat N)), .val (.ref b_256), .val (.int (0 : Int32)), .val (.int (Int32.ofNat (N + 0 + 4))), .val (.int (Int32.ofNat (N + 0)))] rfl ?_
                refine g_aload X256 hx (hb hby at_277) 279 rfl (v := (.ref b_256)) rfl rfl ?_
                refine g_iload X256 hx (hb hby at_279) 281 rfl (v := (Int32.ofNat (N + 0))) rfl ?_
                refine g_baload X256 hx (hb hby at_281) 282 rfl hZ rfl Avo (own_in (by omega) (by omega)) (.int (47 : Int32)) (by rw [own_cl (by omega)]; exact own_fr N 0 _ _) ?_
                refine g_bipush X256 hx (hb hby at_282) 284 rfl (47 : Int32) rfl ?_
                refine g_icmp_ne X256 hx (hb hby at_284) 299 287 (by decide) (by decide) rfl (fun hc284 => False.elim (hc284 rfl)) (fun hc284 => ?_)
                refine g_aload X256 hx (hb hby at_287) 289 rfl (v := (.ref b_256)) rfl rfl ?_
                refine g_iload X256 hx (hb hby at_289) 291 rfl (v := (Int32.ofNat (N + 0))) rfl ?_
                refine g_iconst X256 hx (hb hby at_291) 292 rfl (1 : Int32) rfl ?_
                refine g_iadd X256 hx (hb hby at_292) 293 rfl (Int32.ofNat (N + 0 + 1)) (Int32.ofNat_add (N + 0) 1).symm ?_
                refine g_baload X256 hx (hb hby at_293) 294 rfl hZ rfl Avo (own_in (by omega) (by omega)) (.int (62 : Int32)) (by rw [own_cl (by omega)]; exact own_fr N 1 _ _) ?_
                refine g_bipush X256 hx (hb hby at_294) 296 rfl (62 : Int32) rfl ?_
                refine g_icmp_eq X256 hx (hb hby at_296) 301 299 (by decide) (by decide) rfl (fun hc296 => ?_) (fun hc296 => False.elim (hc296 rfl))
                refine g_iload X256 hx (hb hby at_301) 303 rfl (v := f3) rfl ?_
                refine g_if_eq X256 hx (hb hby at_303) 332 306 (by decide) (by decide) rfl (fun hc303 => False.elim (hc136 hc303)) (fun hc303 => ?_)
                refine g_aload X256 hx (hb hby at_306) 308 rfl (v := (.ref b_256)) rfl rfl ?_
                refine g_iload X256 hx (hb hby at_308) 310 rfl (v := (Int32.ofNat (N + 0))) rfl ?_
                refine g_iconst X256 hx (hb hby at_310) 311 rfl (2 : Int32) rfl ?_
                refine g_iadd X256 hx (hb hby at_311) 312 rfl (Int32.ofNat (N + 0 + 2)) (Int32.ofNat_add (N + 0) 2).symm ?_
                refine g_baload X256 hx (hb hby at_312) 313 rfl hZ rfl Avo (own_in (by omega) (by omega)) (.int (47 : Int32)) (by rw [own_cl (by omega)]; exact own_fr N 2 _ _) ?_
                refine g_bipush X256 hx (hb hby at_313) 315 rfl (47 : Int32) rfl ?_
                refine g_icmp_ne X256 hx (hb hby at_315) 330 318 (by decide) (by decide) rfl (fun hc315 => False.elim (hc315 rfl)) (fun hc315 => ?_)
                refine g_aload X256 hx (hb hby at_318) 320 rfl (v := (.ref b_256)) rfl rfl ?_
                refine g_iload X256 hx (hb hby at_320) 322 rfl (v := (Int32.ofNat (N + 0))) rfl ?_
                refine g_iconst X256 hx (hb hby at_322) 323 rfl (3 : Int32) rfl ?_
                refine g_iadd X256 hx (hb hby at_323) 324 rfl (Int32.ofNat (N + 0 + 3)) (Int32.ofNat_add (N + 0) 3).symm ?_
                refine g_baload X256 hx (hb hby at_324) 325 rfl hZ rfl Avo (own_in (by omega) (by omega)) (.int (62 : Int32)) (by rw [own_cl (by omega)]; exact own_fr N 3 _ _) ?_
                refine g_bipush X256 hx (hb hby at_325) 327 rfl (62 : Int32) rfl ?_
                refine g_icmp_eq X256 hx (hb hby at_327) 332 330 (by decide) (by decide) rfl (fun hc327 => ?_) (fun hc327 => False.elim (hc327 rfl))
                refine g_iconst X256 hx (hb hby at_332) 333 rfl (1 : Int32) rfl ?_
                refine Go.retNS X256 hx hlk (t := .boolean) Bd.returns (by simp) (hb hby at_333) (by decide) (by decide) Ss239 hk257 (own_EW hw) hZ (by rw [hh]; exact R257) ?_
                exact ⟨rfl, N256⟩
              · have hpN : 0 < N := own_lt (j := 0) (by omega) (by omega) hc193
                refine g_aload X256 hx (hb hby at_196) 198 rfl (v := (.ref b_256)) rfl rfl ?_
                refine g_iconst X256 hx (hb hby at_198) 199 rfl (0 : Int32) rfl ?_
                refine g_baload X256 hx (hb hby at_199) 200 rfl hZ rfl Avo (own_in (j := 0) (by omega) (by omega)) (.int (0 : Int32)) (own_fl (j := 0) hpN _ _) ?_
                refine g_if_ne X256 hx (hb hby at_200) 213 203 (by decide) (by decide) rfl (fun hc200 => False.elim (hc200 rfl)) (fun hc200 => ?_)
                refine g_aload X256 hx (hb hby at_203) 205 rfl (v := (.ref b_256)) rfl rfl ?_
                refine g_iload X256 hx (hb hby at_205) 207 rfl (v := (Int32.ofNat N)) rfl ?_
                refine g_iconst X256 hx (hb hby at_207) 208 rfl (1 : Int32) rfl ?_
                refine g_isub X256 hx (hb hby at_208) 209 rfl (Int32.ofNat (N - 1)) (own_pred hpN) ?_
                refine g_baload X256 hx (hb hby at_209) 210 rfl hZ rfl Avo (own_in (by omega) (by omega)) (.int (0 : Int32)) (by rw [own_cl (by omega)]; exact own_fl (by omega) _ _) ?_
                refine g_if_eq X256 hx (hb hby at_210) 215 213 (by decide) (by decide) rfl (fun hc210 => ?_) (fun hc210 => False.elim (hc210 rfl))
                refine g_iload X256 hx (hb hby at_215) 217 rfl (v := f2) rfl ?_
                refine g_if_eq X256 hx (hb hby at_217) 270 220 (by decide) (by decide) rfl (fun hc217 => ?_) (fun hc217 => False.elim (hc217 hc117))
                refine g_iload X256 hx (hb hby at_270) 272 rfl (v := (Int32.ofNat N)) rfl ?_
                refine g_iload X256 hx (hb hby at_272) 274 rfl (v := (0 : Int32)) rfl ?_
                refine g_iadd X256 hx (hb hby at_274) 275 rfl (Int32.ofNat (N + 0)) (Int32.ofNat_add (N) 0).symm ?_
                refine g_istore X256 hx (hb hby at_275) 277 rfl #[.val (.int p1), .val (.int p2), .val (.int p3), .val (.int p4), .val (.int f1), .val (.int f2), .val (.int f3), .val (.int (Int32.ofNat nz)), .val (.int c1), .val (.int c2), zs, .val (.ref s1), .val (.ref s2), .val (.ref om), .val (.int (Int32.ofNat N)), .val (.ref b_256), .val (.int (0 : Int32)), .val (.int (Int32.ofNat (N + 0 + 4))), .val (.int (Int32.ofNat (N + 0)))] rfl ?_
                refine g_aload X256 hx (hb hby at_277) 279 rfl (v := (.ref b_256)) rfl rfl ?_
                refine g_iload X256 hx (hb hby at_279) 281 rfl (v := (Int32.ofNat (N + 0))) rfl ?_
                refine g_baload X256 hx (hb hby at_281) 282 rfl hZ rfl Avo (own_in (by omega) (by omega)) (.int (47 : Int32)) (by rw [own_cl (by omega)]; exact own_fr N 0 _ _) ?_
                refine g_bipush X256 hx (hb hby at_282) 284 rfl (47 : Int32) rfl ?_
                refine g_icmp_ne X256 hx (hb hby at_284) 299 287 (by decide) (by decide) rfl (fun hc284 => False.elim (hc284 rfl)) (fun hc284 => ?_)
                refine g_aload X256 hx (hb hby at_287) 289 rfl (v := (.ref b_256)) rfl rfl ?_
                refine g_iload X256 hx (hb hby at_289) 291 rfl (v := (Int32.ofNat (N + 0))) rfl ?_
                refine g_iconst X256 hx (hb hby at_291) 292 rfl (1 : Int32) rfl ?_
                refine g_iadd X256 hx (hb hby at_292) 293 rfl (Int32.ofNat (N + 0 + 1)) (Int32.ofNat_add (N + 0) 1).symm ?_
                refine g_baload X256 hx (hb hby at_293) 294 rfl hZ rfl Avo (own_in (by omega) (by omega)) (.int (62 : Int32)) (by rw [own_cl (by omega)]; exact own_fr N 1 _ _) ?_
                refine g_bipush X256 hx (hb hby at_294) 296 rfl (62 : Int32) rfl ?_
                refine g_icmp_eq X256 hx (hb hby at_296) 301 299 (by decide) (by decide) rfl (fun hc296 => ?_) (fun hc296 => False.elim (hc296 rfl))
                refine g_iload X256 hx (hb hby at_301) 303 rfl (v := f3) rfl ?_
                refine g_if_eq X256 hx (hb hby at_303) 332 306 (by decide) (by decide) rfl (fun hc303 => False.elim (hc136 hc303)) (fun hc303 => ?_)
                refine g_aload X256 hx (hb hby at_306) 308 rfl (v := (.ref b_256)) rfl rfl ?_
                refine g_iload X256 hx (hb hby at_308) 310 rfl (v := (Int32.ofNat (N + 0))) rfl ?_
                refine g_iconst X256 hx (hb hby at_310) 311 rfl (2 : Int32) rfl ?_
                refine g_iadd X256 hx (hb hby at_311) 312 rfl (Int32.ofNat (N + 0 + 2)) (Int32.ofNat_add (N + 0) 2).symm ?_
                refine g_baload X256 hx (hb hby at_312) 313 rfl hZ rfl Avo (own_in (by omega) (by omega)) (.int (47 : Int32)) (by rw [own_cl (by omega)]; exact own_fr N 2 _ _) ?_
                refine g_bipush X256 hx (hb hby at_313) 315 rfl (47 : Int32) rfl ?_
                refine g_icmp_ne X256 hx (hb hby at_315) 330 318 (by decide) (by decide) rfl (fun hc315 => False.elim (hc315 rfl)) (fun hc315 => ?_)
                refine g_aload X256 hx (hb hby at_318) 320 rfl (v := (.ref b_256)) rfl rfl ?_
                refine g_iload X256 hx (hb hby at_320) 322 rfl (v := (Int32.ofNat (N + 0))) rfl ?_
                refine g_iconst X256 hx (hb hby at_322) 323 rfl (3 : Int32) rfl ?_
                refine g_iadd X256 hx (hb hby at_323) 324 rfl (Int32.ofNat (N + 0 + 3)) (Int32.ofNat_add (N + 0) 3).symm ?_
                refine g_baload X256 hx (hb hby at_324) 325 rfl hZ rfl Avo (own_in (by omega) (by omega)) (.int (62 : Int32)) (by rw [own_cl (by omega)]; exact own_fr N 3 _ _) ?_
                refine g_bipush X256 hx (hb hby at_325) 327 rfl (62 : Int32) rfl ?_
                refine g_icmp_eq X256 hx (hb hby at_327) 332 330 (by decide) (by decide) rfl (fun hc327 => ?_) (fun hc327 => False.elim (hc327 rfl))
                refine g_iconst X256 hx (hb hby at_332) 333 rfl (1 : Int32) rfl ?_
                refine Go.retNS X256 hx hlk (t := .boolean) Bd.returns (by simp) (hb hby at_333) (by decide) (by decide) Ss239 hk257 (own_EW hw) hZ (by rw [hh]; exact R257) ?_
                exact ⟨rfl, N256⟩
          · refine g_aload Xs239 hx (hb hby at_120) 122 rfl (v := (.ref om)) rfl rfl ?_
            refine g_aload Xs239 hx (hb hby at_122) 124 rfl (v := (.ref s1)) rfl rfl ?_
            refine g_aload Xs239 hx (hb hby at_124) 126 rfl (v := (.ref s2)) rfl rfl ?_
            obtain ⟨cq270, kq270, q270a, q270b, q270c⟩ := isOf hZ es239 Exa_s239_8
            obtain ⟨_, _, ⟨T270, L270, k270, n270⟩, -, X270, ⟨Lc270, hQ270, l270, y270, z270⟩, st270⟩ := Xs239.virtualBack hx (y := (⟨"com/example/anagrafe/anagrafe/atom/Markup", "open", "(Ljava/lang/String;Ljava/lang/String;)V"⟩ : MethodName)) (z := (⟨"com/example/anagrafe/anagrafe/atom/Markup", "open", "(Ljava/lang/String;Ljava/lang/String;)V"⟩ : MethodName)) hown (mvT hZ (hw _ (List.mem_of_getElem? (i := 188) rfl))) (mvT hZ (hw _ (List.mem_of_getElem? (i := 189) rfl))) (notFace_of_selects (args := #[]) (mvT hZ (hw _ (List.mem_of_getElem? (i := 191) rfl)))) (mvT hZ (hw _ (List.mem_of_getElem? (i := 191) rfl))) (mvT hZ (hw _ (List.mem_of_getElem? (i := 190) rfl))) (by decide) (backOf (W := 0) (rm38 l Z a0 hw [] om s1 s2 wq kq N (List.replicate N (.int (0 : Int32))) bl s_COMPACT_STRINGS s_SIOOBE_FORMATTER v1 k1 c1 v2 k2 c2 hs239 n0 Zs239 (own_Sta_keep S_COMPACT_STRINGS Ks239 all0) (own_Sta_keep S_SIOOBE_FORMATTER Ks239 all0) Exa_s239_8 Fld_s239_9 Fld_s239_10 Arv_s239_11 ge_s239_0 ge_s239_1 ne_s239_4 Exa_s239_0 Fld_s239_1 Fld_s239_2 Arv_s239_3 Exa_s239_4 Fld_s239_5 Fld_s239_6 Arv_s239_7 ne_s239_5 ne_s239_6 ne_s239_7 ne_s239_8 ne_s239_9 ne_s239_10 ne_s239_11 ne_s239_12 hB hz_s_COMPACT_STRINGS hR_s_SIOOBE_FORMATTER (by simp) (by omega)) hZ (hw _ (List.mem_of_getElem? (i := 192) rfl)) (hw _ (List.mem_of_getElem? (i := 46) rfl)) (by decide) (by decide)) q270a q270c (g := (mkF m 126 #[.val (.int p1), .val (.int p2), .val (.int p3), .val (.int p4), .val (.int f1), .val (.int f2), .val (.int f3), .val (.int (Int32.ofNat nz)), .val (.int c1), .val (.int c2), zs, .val (.ref s1), .val (.ref s2), .val (.ref om), .val (.int (Int32.ofNat N)), .unset, .unset, .unset, .unset] [(.ref s2), (.ref s1), (.ref om)])) rfl (by rw [hml]; rfl) (Steps.refl _) (argsL := [(.ref s1), (.ref s2)]) (rest := []) (lenOf own_pd30 rfl) rfl (by show 2 * 0 + _ ≤ _; exact Nat.le_of_eq rfl) (hb hby at_126) (fun _ _ => ⟨rfl, es239, (by decide : 20 + 0 ≤ _), (by decide : 62000 + 0 ≤ _)⟩)
            dsimp only [Pt.U, Pt.locs, Pt.cells, Pt.slots] at X270 l270 y270 z270 st270 hQ270
            subst l270 y270 z270
            obtain ⟨rfl, Nq270, Kq270, f270_0, f270_1, f270_2, f270_3⟩ := hQ270
            refine Go.tr st270 ?_
            have N270 := Fr.app Ns239 Nq270
            have Sf_wq_271 : Safe Z own_EL vs239 T270.heap wq := Safe.keep Kq270 (allS (Safe.exa (hZ.alike) Exa_s239_8 (by decide) (by decide)) (allS Safe_s239_12 all0)) Rs239.1 Safe_s239_12
            have R271 : CHr Z own_EL s.vm h0 vs239 T270.heap := CHr.trans Rs239 (CHr.keep Kq270 (allS (Safe.exa (hZ.alike) Exa_s239_8 (by decide) (by decide)) (allS Safe_s239_12 all0)) Rs239.1)
            have hk271 : _ ≤ T270.heap.size := Nat.le_trans kk239 (Kq270.1)
            have E_s1_272 : Exa Z T270.heap s1 "java/lang/String" := Exa.keep Exa_s239_0 Kq270
            have F_value_s1_272 : Fld Z T270.heap s1 "java/lang/String" "value" "[B" (.ref v1) := Fld.keep Fld_s239_1 Kq270 (ninS (Ne.symm ne_s239_5) (ninS (Ne.symm ne_s239_9) nin0))
            have F_coder_s1_272 : Fld Z T270.heap s1 "java/lang/String" "coder" "B" (.int (0 : Int32)) := Fld.keep Fld_s239_2 Kq270 (ninS (Ne.symm ne_s239_5) (ninS (Ne.symm ne_s239_9) nin0))
            have A_v1_272 : Arv Z T270.heap v1 k1 .byte (1 : Int32) ([(.int c1.toInt8.toInt32)]) (.int (0 : Int32)) := Arv.keep Arv_s239_3 Kq270 (ninS (Ne.symm ne_s239_6) (ninS (Ne.symm ne_s239_10) nin0))
            have E_s2_272 : Exa Z T270.heap s2 "java/lang/String" := Exa.keep Exa_s239_4 Kq270
            have F_value_s2_272 : Fld Z T270.heap s2 "java/lang/String" "value" "[B" (.ref v2) := Fld.keep Fld_s239_5 Kq270 (ninS (Ne.symm ne_s239_7) (ninS (Ne.symm ne_s239_11) nin0))
            have F_coder_s2_272 : Fld Z T270.heap s2 "java/lang/String" "coder" "B" (.int (0 : Int32)) := Fld.keep Fld_s239_6 Kq270 (ninS (Ne.symm ne_s239_7) (ninS (Ne.symm ne_s239_11) nin0))
            have A_v2_272 : Arv Z T270.heap v2 k2 .byte (1 : Int32) ([(.int c2.toInt8.toInt32)]) (.int (0 : Int32)) := Arv.keep Arv_s239_7 Kq270 (ninS (Ne.symm ne_s239_8) (ninS (Ne.symm ne_s239_12) nin0))
            have E_om_272 : Exa Z T270.heap om "com/example/anagrafe/anagrafe/atom/Markup" := Exa.keep Exa_s239_8 Kq270
            have K270 : Keep h0 T270.heap [] := Keep.trans Ks239 Kq270 (allS (Or.inr mh_s239_2) (allS (Or.inr mh_s239_3) all0))
            have Zs270 : n0 ≤ T270.heap.size := Nat.le_trans Zs239 Kq270.1
            show Go p e below _ (T270.setTop (mkF m 129 #[.val (.int p1), .val (.int p2), .val (.int p3), .val (.int p4), .val (.int f1), .val (.int f2), .val (.int f3), .val (.int (Int32.ofNat nz)), .val (.int c1), .val (.int c2), zs, .val (.ref s1), .val (.ref s2), .val (.ref om), .val (.int (Int32.ofNat N)), .unset, .unset, .unset, .unset] []))
            refine g_aload X270 hx (hb hby at_129) 131 rfl (v := (.ref om)) rfl rfl ?_
            obtain ⟨cq273, kq273, q273a, q273b, q273c⟩ := isOf hZ rfl f270_0
            obtain ⟨_, _, ⟨T273, L273, k273, n273⟩, -, X273, ⟨Lc273, hQ273, l273, y273, z273⟩, st273⟩ := X270.virtualBack hx (y := (⟨"com/example/anagrafe/anagrafe/atom/Markup", "endEmpty", "()V"⟩ : MethodName)) (z := (⟨"com/example/anagrafe/anagrafe/atom/Markup", "endEmpty", "()V"⟩ : MethodName)) hown (mvT hZ (hw _ (List.mem_of_getElem? (i := 53) rfl))) (mvT hZ (hw _ (List.mem_of_getElem? (i := 54) rfl))) (notFace_of_selects (args := #[]) (mvT hZ (hw _ (List.mem_of_getElem? (i := 56) rfl)))) (mvT hZ (hw _ (List.mem_of_getElem? (i := 56) rfl))) (mvT hZ (hw _ (List.mem_of_getElem? (i := 55) rfl))) (by decide) (backOf (W := 0) (rm12 l Z a0 hw [] om wq kq (N + 1 + 1 + 1 + 1) (((((List.replicate N (.int (0 : Int32))) ++ [(.int (60 : Int32))]) ++ [(.int c1.toInt8.toInt32)]) ++ [(.int (58 : Int32))]) ++ [(.int c2.toInt8.toInt32)]) bl T270.heap n0 Zs270 f270_0 f270_1 f270_2 f270_3 ge_s239_0 ge_s239_1 ne_s239_4 hB (by simp) (by omega)) hZ (hw _ (List.mem_of_getElem? (i := 57) rfl)) (hw _ (List.mem_of_getElem? (i := 46) rfl)) (by decide) (by decide)) q273a q273c (g := (mkF m 131 #[.val (.int p1), .val (.int p2), .val (.int p3), .val (.int p4), .val (.int f1), .val (.int f2), .val (.int f3), .val (.int (Int32.ofNat nz)), .val (.int c1), .val (.int c2), zs, .val (.ref s1), .val (.ref s2), .val (.ref om), .val (.int (Int32.ofNat N)), .unset, .unset, .unset, .unset] [(.ref om)])) rfl (by rw [hml]; rfl) (Steps.refl _) (argsL := []) (rest := []) (lenOf own_pd28 rfl) rfl (by show 2 * 0 + _ ≤ _; exact Nat.le_of_eq rfl) (hb hby at_131) (fun _ _ => ⟨rfl, rfl, (by decide : 20 + 0 ≤ _), (by decide : 62000 + 0 ≤ _)⟩)
            dsimp only [Pt.U, Pt.locs, Pt.cells, Pt.slots] at X273 l273 y273 z273 st273 hQ273
            subst l273 y273 z273
            obtain ⟨rfl, Nq273, Kq273, f273_0, f273_1, f273_2, f273_3⟩ := hQ273
            refine Go.tr st273 ?_
            have N273 := Fr.app N270 Nq273
            have Sf_wq_274 : Safe Z own_EL vs239 T273.heap wq := Safe.keep Kq273 (allS (Safe.exa (hZ.alike) f270_0 (by decide) (by decide)) (allS Sf_wq_271 all0)) R271.1 Sf_wq_271
            have R274 : CHr Z own_EL s.vm h0 vs239 T273.heap := CHr.trans R271 (CHr.keep Kq273 (allS (Safe.exa (hZ.alike) f270_0 (by decide) (by decide)) (allS Sf_wq_271 all0)) R271.1)
            have hk274 : _ ≤ T273.heap.size := Nat.le_trans hk271 (Kq273.1)
            have E_s1_275 : Exa Z T273.heap s1 "java/lang/String" := Exa.keep E_s1_272 Kq273
            have F_value_s1_275 : Fld Z T273.heap s1 "java/lang/String" "value" "[B" (.ref v1) := Fld.keep F_value_s1_272 Kq273 (ninS (Ne.symm ne_s239_5) (ninS (Ne.symm ne_s239_9) nin0))
            have F_coder_s1_275 : Fld Z T273.heap s1 "java/lang/String" "coder" "B" (.int (0 : Int32)) := Fld.keep F_coder_s1_272 Kq273 (ninS (Ne.symm ne_s239_5) (ninS (Ne.symm ne_s239_9) nin0))
            have A_v1_275 : Arv Z T273.heap v1 k1 .byte (1 : Int32) ([(.int c1.toInt8.toInt32)]) (.int (0 : Int32)) := Arv.keep A_v1_272 Kq273 (ninS (Ne.symm ne_s239_6) (ninS (Ne.symm ne_s239_10) nin0))
            have E_s2_275 : Exa Z T273.heap s2 "java/lang/String" := Exa.keep E_s2_272 Kq273
            have F_value_s2_275 : Fld Z T273.heap s2 "java/lang/String" "value" "[B" (.ref v2) := Fld.keep F_value_s2_272 Kq273 (ninS (Ne.symm ne_s239_7) (ninS (Ne.symm ne_s239_11) nin0))
            have F_coder_s2_275 : Fld Z T273.heap s2 "java/lang/String" "coder" "B" (.int (0 : Int32)) := Fld.keep F_coder_s2_272 Kq273 (ninS (Ne.symm ne_s239_7) (ninS (Ne.symm ne_s239_11) nin0))
            have A_v2_275 : Arv Z T273.heap v2 k2 .byte (1 : Int32) ([(.int c2.toInt8.toInt32)]) (.int (0 : Int32)) := Arv.keep A_v2_272 Kq273 (ninS (Ne.symm ne_s239_8) (ninS (Ne.symm ne_s239_12) nin0))
            have E_om_275 : Exa Z T273.heap om "com/example/anagrafe/anagrafe/atom/Markup" := Exa.keep f270_0 Kq273
            have K273 : Keep h0 T273.heap [] := Keep.trans K270 Kq273 (allS (Or.inr mh_s239_2) (allS (Or.inr mh_s239_3) all0))
            have Zs273 : n0 ≤ T273.heap.size := Nat.le_trans Zs270 Kq273.1
            show Go p e below _ (T273.setTop (mkF m 134 #[.val (.int p1), .val (.int p2), .val (.int p3), .val (.int p4), .val (.int f1), .val (.int f2), .val (.int f3), .val (.int (Int32.ofNat nz)), .val (.int c1), .val (.int c2), zs, .val (.ref s1), .val (.ref s2), .val (.ref om), .val (.int (Int32.ofNat N)), .unset, .unset, .unset, .unset] []))
            refine g_iload X273 hx (hb hby at_134) 136 rfl (v := f3) rfl ?_
            refine g_if_eq X273 hx (hb hby at_136) 144 139 (by decide) (by decide) rfl (fun hc136 => ?_) (fun hc136 => ?_)
            · refine g_aload X273 hx (hb hby at_144) 146 rfl (v := (.ref om)) rfl rfl ?_
              obtain ⟨cq276, kq276, q276a, q276b, q276c⟩ := isOf hZ rfl f273_0
              obtain ⟨_, _, ⟨T276, L276, k276, n276⟩, -, X276, ⟨Lc276, hQ276, l276, y276, z276⟩, st276⟩ := X273.virtualBack hx (y := (⟨"com/example/anagrafe/anagrafe/atom/Markup", "toByteArray", "()[B"⟩ : MethodName)) (z := (⟨"com/example/anagrafe/anagrafe/atom/Markup", "toByteArray", "()[B"⟩ : MethodName)) hown (mvT hZ (hw _ (List.mem_of_getElem? (i := 64) rfl))) (mvT hZ (hw _ (List.mem_of_getElem? (i := 65) rfl))) (notFace_of_selects (args := #[]) (mvT hZ (hw _ (List.mem_of_getElem? (i := 67) rfl)))) (mvT hZ (hw _ (List.mem_of_getElem? (i := 67) rfl))) (mvT hZ (hw _ (List.mem_of_getElem? (i := 66) rfl))) (by decide) (backOf (W := 0) (rm14 l Z a0 hw [] om wq kq ((N + 1 + 1 + 1 + 1) + 2) (((((((List.replicate N (.int (0 : Int32))) ++ [(.int (60 : Int32))]) ++ [(.int c1.toInt8.toInt32)]) ++ [(.int (58 : Int32))]) ++ [(.int c2.toInt8.toInt32)]) ++ [(.int (47 : Int32))]) ++ [(.int (62 : Int32))]) bl T273.heap n0 Zs273 f273_0 f273_1 f273_2 f273_3 hB (by simp) (by omega)) hZ (hw _ (List.mem_of_getElem? (i := 68) rfl)) (hw _ (List.mem_of_getElem? (i := 46) rfl)) (by decide) (by decide)) q276a q276c (g := (mkF m 146 #[.val (.int p1), .val (.int p2), .val (.int p3), .val (.int p4), .val (.int f1), .val (.int f2), .val (.int f3), .val (.int (Int32.ofNat nz)), .val (.int c1), .val (.int c2), zs, .val (.ref s1), .val (.ref s2), .val (.ref om), .val (.int (Int32.ofNat N)), .unset, .unset, .unset, .unset] [(.ref om)])) rfl (by rw [hml]; rfl) (Steps.refl _) (argsL := []) (rest := []) (lenOf own_pd29 rfl) rfl (by show 2 * 0 + _ ≤ _; exact Nat.le_of_eq rfl) (hb hby at_146) (fun _ _ => ⟨rfl, rfl, (by decide : 20 + 1 ≤ _), (by decide : 62000 + 4111 ≤ _)⟩)
              dsimp only [Pt.U, Pt.locs, Pt.cells, Pt.slots] at X276 l276 y276 z276 st276 hQ276
              subst l276 y276 z276
              obtain ⟨b_276, kq_276, rfl, Nq276, Kq276, f276_0, f276_1⟩ := hQ276
              refine Go.tr st276 ?_
              have N276 := Fr.app N273 Nq276
              have Sf_b_276 : Safe Z own_EL vs239 T273.heap b_276 := Safe.new f276_0
              have Sf_wq_277 : Safe Z own_EL vs239 T276.heap wq := Safe.keep Kq276 all0 R274.1 Sf_wq_274
              have Sf_b_276_277 : Safe Z own_EL vs239 T276.heap b_276 := Safe.keep Kq276 all0 R274.1 Sf_b_276
              have R277 : CHr Z own_EL s.vm h0 vs239 T276.heap := CHr.trans R274 (CHr.keep Kq276 all0 R274.1)
              have hk277 : _ ≤ T276.heap.size := Nat.le_trans hk274 (Kq276.1)
              have E_s1_278 : Exa Z T276.heap s1 "java/lang/String" := Exa.keep E_s1_275 Kq276
              have F_value_s1_278 : Fld Z T276.heap s1 "java/lang/String" "value" "[B" (.ref v1) := Fld.keep F_value_s1_275 Kq276 nin0
              have F_coder_s1_278 : Fld Z T276.heap s1 "java/lang/String" "coder" "B" (.int (0 : Int32)) := Fld.keep F_coder_s1_275 Kq276 nin0
              have A_v1_278 : Arv Z T276.heap v1 k1 .byte (1 : Int32) ([(.int c1.toInt8.toInt32)]) (.int (0 : Int32)) := Arv.keep A_v1_275 Kq276 nin0
              have E_s2_278 : Exa Z T276.heap s2 "java/lang/String" := Exa.keep E_s2_275 Kq276
              have F_value_s2_278 : Fld Z T276.heap s2 "java/lang/String" "value" "[B" (.ref v2) := Fld.keep F_value_s2_275 Kq276 nin0
              have F_coder_s2_278 : Fld Z T276.heap s2 "java/lang/String" "coder" "B" (.int (0 : Int32)) := Fld.keep F_coder_s2_275 Kq276 nin0
              have A_v2_278 : Arv Z T276.heap v2 k2 .byte (1 : Int32) ([(.int c2.toInt8.toInt32)]) (.int (0 : Int32)) := Arv.keep A_v2_275 Kq276 nin0
              have E_om_278 : Exa Z T276.heap om "com/example/anagrafe/anagrafe/atom/Markup" := Exa.keep f273_0 Kq276
              have F_bytes_om_278 : Fld Z T276.heap om "com/example/anagrafe/anagrafe/atom/Markup" "bytes" "[B" (.ref wq) := Fld.keep f273_1 Kq276 nin0
              have F_size_om_278 : Fld Z T276.heap om "com/example/anagrafe/anagrafe/atom/Markup" "size" "I" (.int (Int32.ofNat ((N + 1 + 1 + 1 + 1) + 2))) := Fld.keep f273_2 Kq276 nin0
              have A_wq_278 : Arv Z T276.heap wq kq .byte (Int32.ofNat bl) (((((((List.replicate N (.int (0 : Int32))) ++ [(.int (60 : Int32))]) ++ [(.int c1.toInt8.toInt32)]) ++ [(.int (58 : Int32))]) ++ [(.int c2.toInt8.toInt32)]) ++ [(.int (47 : Int32))]) ++ [(.int (62 : Int32))]) (.int (0 : Int32)) := Arv.keep f273_3 Kq276 nin0
              have ne_s1_b_276 : s1 ≠ b_276 := Nat.ne_of_lt (Nat.lt_of_lt_of_le E_s1_275.lt f276_0)
              have ne_v1_b_276 : v1 ≠ b_276 := Nat.ne_of_lt (Nat.lt_of_lt_of_le A_v1_275.lt f276_0)
              have ne_s2_b_276 : s2 ≠ b_276 := Nat.ne_of_lt (Nat.lt_of_lt_of_le E_s2_275.lt f276_0)
              have ne_v2_b_276 : v2 ≠ b_276 := Nat.ne_of_lt (Nat.lt_of_lt_of_le A_v2_275.lt f276_0)
              have ne_om_b_276 : om ≠ b_276 := Nat.ne_of_lt (Nat.lt_of_lt_of_le f273_0.lt f276_0)
              have ne_wq_b_276 : wq ≠ b_276 := Nat.ne_of_lt (Nat.lt_of_lt_of_le f273_3.lt f276_0)
              have g_b_276 : n0 ≤ b_276 := Nat.le_trans Zs273 f276_0
              have mh_b_276 : h0.size ≤ b_276 := Nat.le_trans K273.1 f276_0
              have K276 : Keep h0 T276.heap [] := Keep.trans K273 Kq276 all0
              have Zs276 : n0 ≤ T276.heap.size := Nat.le_trans Zs273 Kq276.1
              show Go p e below _ (T276.setTop (mkF m 149 #[.val (.int p1), .val (.int p2), .val (.int p3), .val (.int p4), .val (.int f1), .val (.int f2), .val (.int f3), .val (.int (Int32.ofNat nz)), .val (.int c1), .val (.int c2), zs, .val (.ref s1), .val (.ref s2), .val (.ref om), .val (.int (Int32.ofNat N)), .unset, .unset, .unset, .unset] [(.ref b_276)]))
              have Avo : Arv Z T276.heap b_276 kq_276 .byte (Int32.ofNat ((N + 1 + 1 + 1 + 1) + 2)) ((List.replicate N (.int (0 : Int32))) ++ [(.int (60 : Int32)), (.int c1.toInt8.toInt32), (.int (58 : Int32)), (.int c2.toInt8.toInt32), (.int (47 : Int32)), (.int (62 : Int32))]) (.int (0 : Int32)) := by have q := f276_1; simp only [List.append_assoc, List.cons_append, List.nil_append] at q; exact q
              refine g_astore X276 hx (hb hby at_149) 151 rfl rfl #[.val (.int p1), .val (.int p2), .val (.int p3), .val (.int p4), .val (.int f1), .val (.int f2), .val (.int f3), .val (.int (Int32.ofNat nz)), .val (.int c1), .val (.int c2), zs, .val (.ref s1), .val (.ref s2), .val (.ref om), .val (.int (Int32.ofNat N)), .val (.ref b_276), .unset, .unset, .unset] rfl ?_
              refine g_iload X276 hx (hb hby at_151) 153 rfl (v := f2) rfl ?_
              refine g_if_eq X276 hx (hb hby at_153) 160 156 (by decide) (by decide) rfl (fun hc153 => False.elim (hc117 hc153)) (fun hc153 => ?_)
              refine g_iconst X276 hx (hb hby at_156) 157 rfl (4 : Int32) rfl ?_
              refine g_goto X276 hx (hb hby at_157) 161 (by decide) (by decide) ?_
              refine g_istore X276 hx (hb hby at_161) 163 rfl #[.val (.int p1), .val (.int p2), .val (.int p3), .val (.int p4), .val (.int f1), .val (.int f2), .val (.int f3), .val (.int (Int32.ofNat nz)), .val (.int c1), .val (.int c2), zs, .val (.ref s1), .val (.ref s2), .val (.ref om), .val (.int (Int32.ofNat N)), .val (.ref b_276), .val (.int (4 : Int32)), .unset, .unset] rfl ?_
              refine g_iload X276 hx (hb hby at_163) 165 rfl (v := (Int32.ofNat N)) rfl ?_
              refine g_iload X276 hx (hb hby at_165) 167 rfl (v := (4 : Int32)) rfl ?_
              refine g_iadd X276 hx (hb hby at_167) 168 rfl (Int32.ofNat (N + 4)) (Int32.ofNat_add (N) 4).symm ?_
              refine g_iload X276 hx (hb hby at_168) 170 rfl (v := f3) rfl ?_
              refine g_if_eq X276 hx (hb hby at_170) 177 173 (by decide) (by decide) rfl (fun hc170 => ?_) (fun hc170 => False.elim (hc170 hc136))
              refine g_iconst X276 hx (hb hby at_177) 178 rfl (2 : Int32) rfl ?_
              refine g_iadd X276 hx (hb hby at_178) 179 rfl (Int32.ofNat (N + 4 + 2)) (Int32.ofNat_add (N + 4) 2).symm ?_
              refine g_istore X276 hx (hb hby at_179) 181 rfl #[.val (.int p1), .val (.int p2), .val (.int p3), .val (.int p4), .val (.int f1), .val (.int f2), .val (.int f3), .val (.int (Int32.ofNat nz)), .val (.int c1), .val (.int c2), zs, .val (.ref s1), .val (.ref s2), .val (.ref om), .val (.int (Int32.ofNat N)), .val (.ref b_276), .val (.int (4 : Int32)), .val (.int (Int32.ofNat (N + 4 + 2))), .unset] rfl ?_
              refine g_aload X276 hx (hb hby at_181) 183 rfl (v := (.ref b_276)) rfl rfl ?_
              refine g_alen X276 hx (hb hby at_183) 184 rfl hZ rfl Avo ?_
              refine g_iload X276 hx (hb hby at_184) 186 rfl (v := (Int32.ofNat (N + 4 + 2))) rfl ?_
              refine g_icmp_eq X276 hx (hb hby at_186) 191 189 (by decide) (by decide) rfl (fun hc186 => ?_) (fun hc186 => False.elim (hc186 rfl))
              refine g_iload X276 hx (hb hby at_191) 193 rfl (v := (Int32.ofNat N)) rfl ?_
              refine g_if_le X276 hx (hb hby at_193) 215 196 (by decide) (by decide) rfl (fun hc193 => ?_) (fun hc193 => ?_)
              · refine g_iload X276 hx (hb hby at_215) 217 rfl (v := f2) rfl ?_
                refine g_if_eq X276 hx (hb hby at_217) 270 220 (by decide) (by decide) rfl (fun hc217 => False.elim (hc117 hc217)) (fun hc217 => ?_)
                refine g_aload X276 hx (hb hby at_220) 222 rfl (v := (.ref b_276)) rfl rfl ?_
                refine g_iload X276 hx (hb hby at_222) 224 rfl (v := (Int32.ofNat N)) rfl ?_
                refine g_baload X276 hx (hb hby at_224) 225 rfl hZ rfl Avo (own_in (by omega) (by omega)) (.int (60 : Int32)) (by rw [own_cl (by omega)]; exact own_fr N 0 _ _) ?_
                refine g_bipush X276 hx (hb hby at_225) 227 rfl (60 : Int32) rfl ?_
                refine g_icmp_ne X276 hx (hb hby at_227) 268 230 (by decide) (by decide) rfl (fun hc227 => False.elim (hc227 rfl)) (fun hc227 => ?_)
                refine g_aload X276 hx (hb hby at_230) 232 rfl (v := (.ref b_276)) rfl rfl ?_
                refine g_iload X276 hx (hb hby at_232) 234 rfl (v := (Int32.ofNat N)) rfl ?_
                refine g_iconst X276 hx (hb hby at_234) 235 rfl (1 : Int32) rfl ?_
                refine g_iadd X276 hx (hb hby at_235) 236 rfl (Int32.ofNat (N + 1)) (Int32.ofNat_add (N) 1).symm ?_
                refine g_baload X276 hx (hb hby at_236) 237 rfl hZ rfl Avo (own_in (by omega) (by omega)) (.int c1.toInt8.toInt32) (by rw [own_cl (by omega)]; exact own_fr N 1 _ _) ?_
                refine g_iload X276 hx (hb hby at_237) 239 rfl (v := c1) rfl ?_
                refine g_i2b X276 hx (hb hby at_239) 240 rfl c1.toInt8.toInt32 rfl ?_
                refine g_icmp_ne X276 hx (hb hby at_240) 268 243 (by decide) (by decide) rfl (fun hc240 => False.elim (hc240 rfl)) (fun hc240 => ?_)
                refine g_aload X276 hx (hb hby at_243) 245 rfl (v := (.ref b_276)) rfl rfl ?_
                refine g_iload X276 hx (hb hby at_245) 247 rfl (v := (Int32.ofNat N)) rfl ?_
                refine g_iconst X276 hx (hb hby at_247) 248 rfl (2 : Int32) rfl ?_
                refine g_iadd X276 hx (hb hby at_248) 249 rfl (Int32.ofNat (N + 2)) (Int32.ofNat_add (N) 2).symm ?_
                refine g_baload X276 hx (hb hby at_249) 250 rfl hZ rfl Avo (own_in (by omega) (by omega)) (.int (58 : Int32)) (by rw [own_cl (by omega)]; exact own_fr N 2 _ _) ?_
                refine g_bipush X276 hx (hb hby at_250) 252 rfl (58 : Int32) rfl ?_
                refine g_icmp_ne X276 hx (hb hby at_252) 268 255 (by decide) (by decide) rfl (fun hc252 => False.elim (hc252 rfl)) (fun hc252 => ?_)
                refine g_aload X276 hx (hb hby at_255) 257 rfl (v := (.ref b_276)) rfl rfl ?_
                refine g_iload X276 hx (hb hby at_257) 259 rfl (v := (Int32.ofNat N)) rfl ?_
                refine g_iconst X276 hx (hb hby at_259) 260 rfl (3 : Int32) rfl ?_
                refine g_iadd X276 hx (hb hby at_260) 261 rfl (Int32.ofNat (N + 3)) (Int32.ofNat_add (N) 3).symm ?_
                refine g_baload X276 hx (hb hby at_261) 262 rfl hZ rfl Avo (own_in (by omega) (by omega)) (.int c2.toInt8.toInt32) (by rw [own_cl (by omega)]; exact own_fr N 3 _ _) ?_
                refine g_iload X276 hx (hb hby at_262) 264 rfl (v := c2) rfl ?_
                refine g_i2b X276 hx (hb hby at_264) 265 rfl c2.toInt8.toInt32 rfl ?_
                refine g_icmp_eq X276 hx (hb hby at_265) 270 268 (by decide) (by decide) rfl (fun hc265 => ?_) (fun hc265 => False.elim (hc265 rfl))
                refine g_iload X276 hx (hb hby at_270) 272 rfl (v := (Int32.ofNat N)) rfl ?_
                refine g_iload X276 hx (hb hby at_272) 274 rfl (v := (4 : Int32)) rfl ?_
                refine g_iadd X276 hx (hb hby at_274) 275 rfl (Int32.ofNat (N + 4)) (Int32.ofNat_add (N) 4).symm ?_
                refine g_istore X276 hx (hb hby at_275) 277 rfl #[.val (.int p1), .val (.int p2), .val (.int p3), .val (.int p4), .val (.int f1), .val (.int f2), .val (.int f3), .val (.int (Int32.ofNat nz)), .val (.int c1), .val (.int c2), zs, .val (.ref s1), .val (.ref s2), .val (.ref om), .val (.int (Int32.ofNat N)), .val (.ref b_276), .val (.int (4 : Int32)), .val (.int (Int32.ofNat (N + 4 + 2))), .val (.int (Int32.ofNat (N + 4)))] rfl ?_
                refine g_aload X276 hx (hb hby at_277) 279 rfl (v := (.ref b_276)) rfl rfl ?_
                refine g_iload X276 hx (hb hby at_279) 281 rfl (v := (Int32.ofNat (N + 4))) rfl ?_
                refine g_baload X276 hx (hb hby at_281) 282 rfl hZ rfl Avo (own_in (by omega) (by omega)) (.int (47 : Int32)) (by rw [own_cl (by omega)]; exact own_fr N 4 _ _) ?_
                refine g_bipush X276 hx (hb hby at_282) 284 rfl (47 : Int32) rfl ?_
                refine g_icmp_ne X276 hx (hb hby at_284) 299 287 (by decide) (by decide) rfl (fun hc284 => False.elim (hc284 rfl)) (fun hc284 => ?_)
                refine g_aload X276 hx (hb hby at_287) 289 rfl (v := (.ref b_276)) rfl rfl ?_
                refine g_iload X276 hx (hb hby at_289) 291 rfl (v := (Int32.ofNat (N + 4))) rfl ?_
                refine g_iconst X276 hx (hb hby at_291) 292 rfl (1 : Int32) rfl ?_
                refine g_iadd X276 hx (hb hby at_292) 293 rfl (Int32.ofNat (N + 4 + 1)) (Int32.ofNat_add (N + 4) 1).symm ?_
                refine g_baload X276 hx (hb hby at_293) 294 rfl hZ rfl Avo (own_in (by omega) (by omega)) (.int (62 : Int32)) (by rw [own_cl (by omega)]; exact own_fr N 5 _ _) ?_
                refine g_bipush X276 hx (hb hby at_294) 296 rfl (62 : Int32) rfl ?_
                refine g_icmp_eq X276 hx (hb hby at_296) 301 299 (by decide) (by decide) rfl (fun hc296 => ?_) (fun hc296 => False.elim (hc296 rfl))
                refine g_iload X276 hx (hb hby at_301) 303 rfl (v := f3) rfl ?_
                refine g_if_eq X276 hx (hb hby at_303) 332 306 (by decide) (by decide) rfl (fun hc303 => ?_) (fun hc303 => False.elim (hc303 hc136))
                refine g_iconst X276 hx (hb hby at_332) 333 rfl (1 : Int32) rfl ?_
                refine Go.retNS X276 hx hlk (t := .boolean) Bd.returns (by simp) (hb hby at_333) (by decide) (by decide) Ss239 hk277 (own_EW hw) hZ (by rw [hh]; exact R277) ?_
                exact ⟨rfl, N276⟩
              · have hpN : 0 < N := own_lt (j := 0) (by omega) (by omega) hc193
                refine g_aload X276 hx (hb hby at_196) 198 rfl (v := (.ref b_276)) rfl rfl ?_
                refine g_iconst X276 hx (hb hby at_198) 199 rfl (0 : Int32) rfl ?_
                refine g_baload X276 hx (hb hby at_199) 200 rfl hZ rfl Avo (own_in (j := 0) (by omega) (by omega)) (.int (0 : Int32)) (own_fl (j := 0) hpN _ _) ?_
                refine g_if_ne X276 hx (hb hby at_200) 213 203 (by decide) (by decide) rfl (fun hc200 => False.elim (hc200 rfl)) (fun hc200 => ?_)
                refine g_aload X276 hx (hb hby at_203) 205 rfl (v := (.ref b_276)) rfl rfl ?_
                refine g_iload X276 hx (hb hby at_205) 207 rfl (v := (Int32.ofNat N)) rfl ?_
                refine g_iconst X276 hx (hb hby at_207) 208 rfl (1 : Int32) rfl ?_
                refine g_isub X276 hx (hb hby at_208) 209 rfl (Int32.ofNat (N - 1)) (own_pred hpN) ?_
                refine g_baload X276 hx (hb hby at_209) 210 rfl hZ rfl Avo (own_in (by omega) (by omega)) (.int (0 : Int32)) (by rw [own_cl (by omega)]; exact own_fl (by omega) _ _) ?_
                refine g_if_eq X276 hx (hb hby at_210) 215 213 (by decide) (by decide) rfl (fun hc210 => ?_) (fun hc210 => False.elim (hc210 rfl))
                refine g_iload X276 hx (hb hby at_215) 217 rfl (v := f2) rfl ?_
                refine g_if_eq X276 hx (hb hby at_217) 270 220 (by decide) (by decide) rfl (fun hc217 => False.elim (hc117 hc217)) (fun hc217 => ?_)
                refine g_aload X276 hx (hb hby at_220) 222 rfl (v := (.ref b_276)) rfl rfl ?_
                refine g_iload X276 hx (hb hby at_222) 224 rfl (v := (Int32.ofNat N)) rfl ?_
                refine g_baload X276 hx (hb hby at_224) 225 rfl hZ rfl Avo (own_in (by omega) (by omega)) (.int (60 : Int32)) (by rw [own_cl (by omega)]; exact own_fr N 0 _ _) ?_
                refine g_bipush X276 hx (hb hby at_225) 227 rfl (60 : Int32) rfl ?_
                refine g_icmp_ne X276 hx (hb hby at_227) 268 230 (by decide) (by decide) rfl (fun hc227 => False.elim (hc227 rfl)) (fun hc227 => ?_)
                refine g_aload X276 hx (hb hby at_230) 232 rfl (v := (.ref b_276)) rfl rfl ?_
                refine g_iload X276 hx (hb hby at_232) 234 rfl (v := (Int32.ofNat N)) rfl ?_
                refine g_iconst X276 hx (hb hby at_234) 235 rfl (1 : Int32) rfl ?_
                refine g_iadd X276 hx (hb hby at_235) 236 rfl (Int32.ofNat (N + 1)) (Int32.ofNat_add (N) 1).symm ?_
                refine g_baload X276 hx (hb hby at_236) 237 rfl hZ rfl Avo (own_in (by omega) (by omega)) (.int c1.toInt8.toInt32) (by rw [own_cl (by omega)]; exact own_fr N 1 _ _) ?_
                refine g_iload X276 hx (hb hby at_237) 239 rfl (v := c1) rfl ?_
                refine g_i2b X276 hx (hb hby at_239) 240 rfl c1.toInt8.toInt32 rfl ?_
                refine g_icmp_ne X276 hx (hb hby at_240) 268 243 (by decide) (by decide) rfl (fun hc240 => False.elim (hc240 rfl)) (fun hc240 => ?_)
                refine g_aload X276 hx (hb hby at_243) 245 rfl (v := (.ref b_276)) rfl rfl ?_
                refine g_iload X276 hx (hb hby at_245) 247 rfl (v := (Int32.ofNat N)) rfl ?_
                refine g_iconst X276 hx (hb hby at_247) 248 rfl (2 : Int32) rfl ?_
                refine g_iadd X276 hx (hb hby at_248) 249 rfl (Int32.ofNat (N + 2)) (Int32.ofNat_add (N) 2).symm ?_
                refine g_baload X276 hx (hb hby at_249) 250 rfl hZ rfl Avo (own_in (by omega) (by omega)) (.int (58 : Int32)) (by rw [own_cl (by omega)]; exact own_fr N 2 _ _) ?_
                refine g_bipush X276 hx (hb hby at_250) 252 rfl (58 : Int32) rfl ?_
                refine g_icmp_ne X276 hx (hb hby at_252) 268 255 (by decide) (by decide) rfl (fun hc252 => False.elim (hc252 rfl)) (fun hc252 => ?_)
                refine g_aload X276 hx (hb hby at_255) 257 rfl (v := (.ref b_276)) rfl rfl ?_
                refine g_iload X276 hx (hb hby at_257) 259 rfl (v := (Int32.ofNat N)) rfl ?_
                refine g_iconst X276 hx (hb hby at_259) 260 rfl (3 : Int32) rfl ?_
                refine g_iadd X276 hx (hb hby at_260) 261 rfl (Int32.ofNat (N + 3)) (Int32.ofNat_add (N) 3).symm ?_
                refine g_baload X276 hx (hb hby at_261) 262 rfl hZ rfl Avo (own_in (by omega) (by omega)) (.int c2.toInt8.toInt32) (by rw [own_cl (by omega)]; exact own_fr N 3 _ _) ?_
                refine g_iload X276 hx (hb hby at_262) 264 rfl (v := c2) rfl ?_
                refine g_i2b X276 hx (hb hby at_264) 265 rfl c2.toInt8.toInt32 rfl ?_
                refine g_icmp_eq X276 hx (hb hby at_265) 270 268 (by decide) (by decide) rfl (fun hc265 => ?_) (fun hc265 => False.elim (hc265 rfl))
                refine g_iload X276 hx (hb hby at_270) 272 rfl (v := (Int32.ofNat N)) rfl ?_
                refine g_iload X276 hx (hb hby at_272) 274 rfl (v := (4 : Int32)) rfl ?_
                refine g_iadd X276 hx (hb hby at_274) 275 rfl (Int32.ofNat (N + 4)) (Int32.ofNat_add (N) 4).symm ?_
                refine g_istore X276 hx (hb hby at_275) 277 rfl #[.val (.int p1), .val (.int p2), .val (.int p3), .val (.int p4), .val (.int f1), .val (.int f2), .val (.int f3), .val (.int (Int32.ofNat nz)), .val (.int c1), .val (.int c2), zs, .val (.ref s1), .val (.ref s2), .val (.ref om), .val (.int (Int32.ofNat N)), .val (.ref b_276), .val (.int (4 : Int32)), .val (.int (Int32.ofNat (N + 4 + 2))), .val (.int (Int32.ofNat (N + 4)))] rfl ?_
                refine g_aload X276 hx (hb hby at_277) 279 rfl (v := (.ref b_276)) rfl rfl ?_
                refine g_iload X276 hx (hb hby at_279) 281 rfl (v := (Int32.ofNat (N + 4))) rfl ?_
                refine g_baload X276 hx (hb hby at_281) 282 rfl hZ rfl Avo (own_in (by omega) (by omega)) (.int (47 : Int32)) (by rw [own_cl (by omega)]; exact own_fr N 4 _ _) ?_
                refine g_bipush X276 hx (hb hby at_282) 284 rfl (47 : Int32) rfl ?_
                refine g_icmp_ne X276 hx (hb hby at_284) 299 287 (by decide) (by decide) rfl (fun hc284 => False.elim (hc284 rfl)) (fun hc284 => ?_)
                refine g_aload X276 hx (hb hby at_287) 289 rfl (v := (.ref b_276)) rfl rfl ?_
                refine g_iload X276 hx (hb hby at_289) 291 rfl (v := (Int32.ofNat (N + 4))) rfl ?_
                refine g_iconst X276 hx (hb hby at_291) 292 rfl (1 : Int32) rfl ?_
                refine g_iadd X276 hx (hb hby at_292) 293 rfl (Int32.ofNat (N + 4 + 1)) (Int32.ofNat_add (N + 4) 1).symm ?_
                refine g_baload X276 hx (hb hby at_293) 294 rfl hZ rfl Avo (own_in (by omega) (by omega)) (.int (62 : Int32)) (by rw [own_cl (by omega)]; exact own_fr N 5 _ _) ?_
                refine g_bipush X276 hx (hb hby at_294) 296 rfl (62 : Int32) rfl ?_
                refine g_icmp_eq X276 hx (hb hby at_296) 301 299 (by decide) (by decide) rfl (fun hc296 => ?_) (fun hc296 => False.elim (hc296 rfl))
                refine g_iload X276 hx (hb hby at_301) 303 rfl (v := f3) rfl ?_
                refine g_if_eq X276 hx (hb hby at_303) 332 306 (by decide) (by decide) rfl (fun hc303 => ?_) (fun hc303 => False.elim (hc303 hc136))
                refine g_iconst X276 hx (hb hby at_332) 333 rfl (1 : Int32) rfl ?_
                refine Go.retNS X276 hx hlk (t := .boolean) Bd.returns (by simp) (hb hby at_333) (by decide) (by decide) Ss239 hk277 (own_EW hw) hZ (by rw [hh]; exact R277) ?_
                exact ⟨rfl, N276⟩
            · refine g_aload X273 hx (hb hby at_139) 141 rfl (v := (.ref om)) rfl rfl ?_
              obtain ⟨cq294, kq294, q294a, q294b, q294c⟩ := isOf hZ rfl f273_0
              obtain ⟨_, _, ⟨T294, L294, k294, n294⟩, -, X294, ⟨Lc294, hQ294, l294, y294, z294⟩, st294⟩ := X273.virtualBack hx (y := (⟨"com/example/anagrafe/anagrafe/atom/Markup", "endEmpty", "()V"⟩ : MethodName)) (z := (⟨"com/example/anagrafe/anagrafe/atom/Markup", "endEmpty", "()V"⟩ : MethodName)) hown (mvT hZ (hw _ (List.mem_of_getElem? (i := 53) rfl))) (mvT hZ (hw _ (List.mem_of_getElem? (i := 54) rfl))) (notFace_of_selects (args := #[]) (mvT hZ (hw _ (List.mem_of_getElem? (i := 56) rfl)))) (mvT hZ (hw _ (List.mem_of_getElem? (i := 56) rfl))) (mvT hZ (hw _ (List.mem_of_getElem? (i := 55) rfl))) (by decide) (backOf (W := 0) (rm12 l Z a0 hw [] om wq kq ((N + 1 + 1 + 1 + 1) + 2) (((((((List.replicate N (.int (0 : Int32))) ++ [(.int (60 : Int32))]) ++ [(.int c1.toInt8.toInt32)]) ++ [(.int (58 : Int32))]) ++ [(.int c2.toInt8.toInt32)]) ++ [(.int (47 : Int32))]) ++ [(.int (62 : Int32))]) bl T273.heap n0 Zs273 f273_0 f273_1 f273_2 f273_3 ge_s239_0 ge_s239_1 ne_s239_4 hB (by simp) (by omega)) hZ (hw _ (List.mem_of_getElem? (i := 57) rfl)) (hw _ (List.mem_of_getElem? (i := 46) rfl)) (by decide) (by decide)) q294a q294c (g := (mkF m 141 #[.val (.int p1), .val (.int p2), .val (.int p3), .val (.int p4), .val (.int f1), .val (.int f2), .val (.int f3), .val (.int (Int32.ofNat nz)), .val (.int c1), .val (.int c2), zs, .val (.ref s1), .val (.ref s2), .val (.ref om), .val (.int (Int32.ofNat N)), .unset, .unset, .unset, .unset] [(.ref om)])) rfl (by rw [hml]; rfl) (Steps.refl _) (argsL := []) (rest := []) (lenOf own_pd28 rfl) rfl (by show 2 * 0 + _ ≤ _; exact Nat.le_of_eq rfl) (hb hby at_141) (fun _ _ => ⟨rfl, rfl, (by decide : 20 + 0 ≤ _), (by decide : 62000 + 0 ≤ _)⟩)
              dsimp only [Pt.U, Pt.locs, Pt.cells, Pt.slots] at X294 l294 y294 z294 st294 hQ294
              subst l294 y294 z294
              obtain ⟨rfl, Nq294, Kq294, f294_0, f294_1, f294_2, f294_3⟩ := hQ294
              refine Go.tr st294 ?_
              have N294 := Fr.app N273 Nq294
              have Sf_wq_295 : Safe Z own_EL vs239 T294.heap wq := Safe.keep Kq294 (allS (Safe.exa (hZ.alike) f273_0 (by decide) (by decide)) (allS Sf_wq_274 all0)) R274.1 Sf_wq_274
              have R295 : CHr Z own_EL s.vm h0 vs239 T294.heap := CHr.trans R274 (CHr.keep Kq294 (allS (Safe.exa (hZ.alike) f273_0 (by decide) (by decide)) (allS Sf_wq_274 all0)) R274.1)
              have hk295 : _ ≤ T294.heap.size := Nat.le_trans hk274 (Kq294.1)
              have E_s1_296 : Exa Z T294.heap s1 "java/lang/String" := Exa.keep E_s1_275 Kq294
              have F_value_s1_296 : Fld Z T294.heap s1 "java/lang/String" "value" "[B" (.ref v1) := Fld.keep F_value_s1_275 Kq294 (ninS (Ne.symm ne_s239_5) (ninS (Ne.symm ne_s239_9) nin0))
              have F_coder_s1_296 : Fld Z T294.heap s1 "java/lang/String" "coder" "B" (.int (0 : Int32)) := Fld.keep F_coder_s1_275 Kq294 (ninS (Ne.symm ne_s239_5) (ninS (Ne.symm ne_s239_9) nin0))
              have A_v1_296 : Arv Z T294.heap v1 k1 .byte (1 : Int32) ([(.int c1.toInt8.toInt32)]) (.int (0 : Int32)) := Arv.keep A_v1_275 Kq294 (ninS (Ne.symm ne_s239_6) (ninS (Ne.symm ne_s239_10) nin0))
              have E_s2_296 : Exa Z T294.heap s2 "java/lang/String" := Exa.keep E_s2_275 Kq294
              have F_value_s2_296 : Fld Z T294.heap s2 "java/lang/String" "value" "[B" (.ref v2) := Fld.keep F_value_s2_275 Kq294 (ninS (Ne.symm ne_s239_7) (ninS (Ne.symm ne_s239_11) nin0))
              have F_coder_s2_296 : Fld Z T294.heap s2 "java/lang/String" "coder" "B" (.int (0 : Int32)) := Fld.keep F_coder_s2_275 Kq294 (ninS (Ne.symm ne_s239_7) (ninS (Ne.symm ne_s239_11) nin0))
              have A_v2_296 : Arv Z T294.heap v2 k2 .byte (1 : Int32) ([(.int c2.toInt8.toInt32)]) (.int (0 : Int32)) := Arv.keep A_v2_275 Kq294 (ninS (Ne.symm ne_s239_8) (ninS (Ne.symm ne_s239_12) nin0))
              have E_om_296 : Exa Z T294.heap om "com/example/anagrafe/anagrafe/atom/Markup" := Exa.keep f273_0 Kq294
              have K294 : Keep h0 T294.heap [] := Keep.trans K273 Kq294 (allS (Or.inr mh_s239_2) (allS (Or.inr mh_s239_3) all0))
              have Zs294 : n0 ≤ T294.heap.size := Nat.le_trans Zs273 Kq294.1
              show Go p e below _ (T294.setTop (mkF m 144 #[.val (.int p1), .val (.int p2), .val (.int p3), .val (.int p4), .val (.int f1), .val (.int f2), .val (.int f3), .val (.int (Int32.ofNat nz)), .val (.int c1), .val (.int c2), zs, .val (.ref s1), .val (.ref s2), .val (.ref om), .val (.int (Int32.ofNat N)), .unset, .unset, .unset, .unset] []))
              refine g_aload X294 hx (hb hby at_144) 146 rfl (v := (.ref om)) rfl rfl ?_
              obtain ⟨cq297, kq297, q297a, q297b, q297c⟩ := isOf hZ rfl f294_0
              obtain ⟨_, _, ⟨T297, L297, k297, n297⟩, -, X297, ⟨Lc297, hQ297, l297, y297, z297⟩, st297⟩ := X294.virtualBack hx (y := (⟨"com/example/anagrafe/anagrafe/atom/Markup", "toByteArray", "()[B"⟩ : MethodName)) (z := (⟨"com/example/anagrafe/anagrafe/atom/Markup", "toByteArray", "()[B"⟩ : MethodName)) hown (mvT hZ (hw _ (List.mem_of_getElem? (i := 64) rfl))) (mvT hZ (hw _ (List.mem_of_getElem? (i := 65) rfl))) (notFace_of_selects (args := #[]) (mvT hZ (hw _ (List.mem_of_getElem? (i := 67) rfl)))) (mvT hZ (hw _ (List.mem_of_getElem? (i := 67) rfl))) (mvT hZ (hw _ (List.mem_of_getElem? (i := 66) rfl))) (by decide) (backOf (W := 0) (rm14 l Z a0 hw [] om wq kq (((N + 1 + 1 + 1 + 1) + 2) + 2) (((((((((List.replicate N (.int (0 : Int32))) ++ [(.int (60 : Int32))]) ++ [(.int c1.toInt8.toInt32)]) ++ [(.int (58 : Int32))]) ++ [(.int c2.toInt8.toInt32)]) ++ [(.int (47 : Int32))]) ++ [(.int (62 : Int32))]) ++ [(.int (47 : Int32))]) ++ [(.int (62 : Int32))]) bl T294.heap n0 Zs294 f294_0 f294_1 f294_2 f294_3 hB (by simp) (by omega)) hZ (hw _ (List.mem_of_getElem? (i := 68) rfl)) (hw _ (List.mem_of_getElem? (i := 46) rfl)) (by decide) (by decide)) q297a q297c (g := (mkF m 146 #[.val (.int p1), .val (.int p2), .val (.int p3), .val (.int p4), .val (.int f1), .val (.int f2), .val (.int f3), .val (.int (Int32.ofNat nz)), .val (.int c1), .val (.int c2), zs, .val (.ref s1), .val (.ref s2), .val (.ref om), .val (.int (Int32.ofNat N)), .unset, .unset, .unset, .unset] [(.ref om)])) rfl (by rw [hml]; rfl) (Steps.refl _) (argsL := []) (rest := []) (lenOf own_pd29 rfl) rfl (by show 2 * 0 + _ ≤ _; exact Nat.le_of_eq rfl) (hb hby at_146) (fun _ _ => ⟨rfl, rfl, (by decide : 20 + 1 ≤ _), (by decide : 62000 + 4111 ≤ _)⟩)
              dsimp only [Pt.U, Pt.locs, Pt.cells, Pt.slots] at X297 l297 y297 z297 st297 hQ297
              subst l297 y297 z297
              obtain ⟨b_297, kq_297, rfl, Nq297, Kq297, f297_0, f297_1⟩ := hQ297
              refine Go.tr st297 ?_
              have N297 := Fr.app N294 Nq297
              have Sf_b_297 : Safe Z own_EL vs239 T294.heap b_297 := Safe.new f297_0
              have Sf_wq_298 : Safe Z own_EL vs239 T297.heap wq := Safe.keep Kq297 all0 R295.1 Sf_wq_295
              have Sf_b_297_298 : Safe Z own_EL vs239 T297.heap b_297 := Safe.keep Kq297 all0 R295.1 Sf_b_297
              have R298 : CHr Z own_EL s.vm h0 vs239 T297.heap := CHr.trans R295 (CHr.keep Kq297 all0 R295.1)
              have hk298 : _ ≤ T297.heap.size := Nat.le_trans hk295 (Kq297.1)
              have E_s1_299 : Exa Z T297.heap s1 "java/lang/String" := Exa.keep E_s1_296 Kq297
              have F_value_s1_299 : Fld Z T297.heap s1 "java/lang/String" "value" "[B" (.ref v1) := Fld.keep F_value_s1_296 Kq297 nin0
              have F_coder_s1_299 : Fld Z T297.heap s1 "java/lang/String" "coder" "B" (.int (0 : Int32)) := Fld.keep F_coder_s1_296 Kq297 nin0
              have A_v1_299 : Arv Z T297.heap v1 k1 .byte (1 : Int32) ([(.int c1.toInt8.toInt32)]) (.int (0 : Int32)) := Arv.keep A_v1_296 Kq297 nin0
              have E_s2_299 : Exa Z T297.heap s2 "java/lang/String" := Exa.keep E_s2_296 Kq297
              have F_value_s2_299 : Fld Z T297.heap s2 "java/lang/String" "value" "[B" (.ref v2) := Fld.keep F_value_s2_296 Kq297 nin0
              have F_coder_s2_299 : Fld Z T297.heap s2 "java/lang/String" "coder" "B" (.int (0 : Int32)) := Fld.keep F_coder_s2_296 Kq297 nin0
              have A_v2_299 : Arv Z T297.heap v2 k2 .byte (1 : Int32) ([(.int c2.toInt8.toInt32)]) (.int (0 : Int32)) := Arv.keep A_v2_296 Kq297 nin0
              have E_om_299 : Exa Z T297.heap om "com/example/anagrafe/anagrafe/atom/Markup" := Exa.keep f294_0 Kq297
              have F_bytes_om_299 : Fld Z T297.heap om "com/example/anagrafe/anagrafe/atom/Markup" "bytes" "[B" (.ref wq) := Fld.keep f294_1 Kq297 nin0
              have F_size_om_299 : Fld Z T297.heap om "com/example/anagrafe/anagrafe/atom/Markup" "size" "I" (.int (Int32.ofNat (((N + 1 + 1 + 1 + 1) + 2) + 2))) := Fld.keep f294_2 Kq297 nin0
              have A_wq_299 : Arv Z T297.heap wq kq .byte (Int32.ofNat bl) (((((((((List.replicate N (.int (0 : Int32))) ++ [(.int (60 : Int32))]) ++ [(.int c1.toInt8.toInt32)]) ++ [(.int (58 : Int32))]) ++ [(.int c2.toInt8.toInt32)]) ++ [(.int (47 : Int32))]) ++ [(.int (62 : Int32))]) ++ [(.int (47 : Int32))]) ++ [(.int (62 : Int32))]) (.int (0 : Int32)) := Arv.keep f294_3 Kq297 nin0
              have ne_s1_b_297 : s1 ≠ b_297 := Nat.ne_of_lt (Nat.lt_of_lt_of_le E_s1_296.lt f297_0)
              have ne_v1_b_297 : v1 ≠ b_297 := Nat.ne_of_lt (Nat.lt_of_lt_of_le A_v1_296.lt f297_0)
              have ne_s2_b_297 : s2 ≠ b_297 := Nat.ne_of_lt (Nat.lt_of_lt_of_le E_s2_296.lt f297_0)
              have ne_v2_b_297 : v2 ≠ b_297 := Nat.ne_of_lt (Nat.lt_of_lt_of_le A_v2_296.lt f297_0)
              have ne_om_b_297 : om ≠ b_297 := Nat.ne_of_lt (Nat.lt_of_lt_of_le f294_0.lt f297_0)
              have ne_wq_b_297 : wq ≠ b_297 := Nat.ne_of_lt (Nat.lt_of_lt_of_le f294_3.lt f297_0)
              have g_b_297 : n0 ≤ b_297 := Nat.le_trans Zs294 f297_0
              have mh_b_297 : h0.size ≤ b_297 := Nat.le_trans K294.1 f297_0
              have K297 : Keep h0 T297.heap [] := Keep.trans K294 Kq297 all0
              have Zs297 : n0 ≤ T297.heap.size := Nat.le_trans Zs294 Kq297.1
              show Go p e below _ (T297.setTop (mkF m 149 #[.val (.int p1), .val (.int p2), .val (.int p3), .val (.int p4), .val (.int f1), .val (.int f2), .val (.int f3), .val (.int (Int32.ofNat nz)), .val (.int c1), .val (.int c2), zs, .val (.ref s1), .val (.ref s2), .val (.ref om), .val (.int (Int32.ofNat N)), .unset, .unset, .unset, .unset] [(.ref b_297)]))
              have Avo : Arv Z T297.heap b_297 kq_297 .byte (Int32.ofNat (((N + 1 + 1 + 1 + 1) + 2) + 2)) ((List.replicate N (.int (0 : Int32))) ++ [(.int (60 : Int32)), (.int c1.toInt8.toInt32), (.int (58 : Int32)), (.int c2.toInt8.toInt32), (.int (47 : Int32)), (.int (62 : Int32)), (.int (47 : Int32)), (.int (62 : Int32))]) (.int (0 : Int32)) := by have q := f297_1; simp only [List.append_assoc, List.cons_append, List.nil_append] at q; exact q
              refine g_astore X297 hx (hb hby at_149) 151 rfl rfl #[.val (.int p1), .val (.int p2), .val (.int p3), .val (.int p4), .val (.int f1), .val (.int f2), .val (.int f3), .val (.int (Int32.ofNat nz)), .val (.int c1), .val (.int c2), zs, .val (.ref s1), .val (.ref s2), .val (.ref om), .val (.int (Int32.ofNat N)), .val (.ref b_297), .unset, .unset, .unset] rfl ?_
              refine g_iload X297 hx (hb hby at_151) 153 rfl (v := f2) rfl ?_
              refine g_if_eq X297 hx (hb hby at_153) 160 156 (by decide) (by decide) rfl (fun hc153 => False.elim (hc117 hc153)) (fun hc153 => ?_)
              refine g_iconst X297 hx (hb hby at_156) 157 rfl (4 : Int32) rfl ?_
              refine g_goto X297 hx (hb hby at_157) 161 (by decide) (by decide) ?_
              refine g_istore X297 hx (hb hby at_161) 163 rfl #[.val (.int p1), .val (.int p2), .val (.int p3), .val (.int p4), .val (.int f1), .val (.int f2), .val (.int f3), .val (.int (Int32.ofNat nz)), .val (.int c1), .val (.int c2), zs, .val (.ref s1), .val (.ref s2), .val (.ref om), .val (.int (Int32.ofNat N)), .val (.ref b_297), .val (.int (4 : Int32)), .unset, .unset] rfl ?_
              refine g_iload X297 hx (hb hby at_163) 165 rfl (v := (Int32.ofNat N)) rfl ?_
              refine g_iload X297 hx (hb hby at_165) 167 rfl (v := (4 : Int32)) rfl ?_
              refine g_iadd X297 hx (hb hby at_167) 168 rfl (Int32.ofNat (N + 4)) (Int32.ofNat_add (N) 4).symm ?_
              refine g_iload X297 hx (hb hby at_168) 170 rfl (v := f3) rfl ?_
              refine g_if_eq X297 hx (hb hby at_170) 177 173 (by decide) (by decide) rfl (fun hc170 => False.elim (hc136 hc170)) (fun hc170 => ?_)
              refine g_iconst X297 hx (hb hby at_173) 174 rfl (4 : Int32) rfl ?_
              refine g_goto X297 hx (hb hby at_174) 178 (by decide) (by decide) ?_
              refine g_iadd X297 hx (hb hby at_178) 179 rfl (Int32.ofNat (N + 4 + 4)) (Int32.ofNat_add (N + 4) 4).symm ?_
              refine g_istore X297 hx (hb hby at_179) 181 rfl #[.val (.int p1), .val (.int p2), .val (.int p3), .val (.int p4), .val (.int f1), .val (.int f2), .val (.int f3), .val (.int (Int32.ofNat nz)), .val (.int c1), .val (.int c2), zs, .val (.ref s1), .val (.ref s2), .val (.ref om), .val (.int (Int32.ofNat N)), .val (.ref b_297), .val (.int (4 : Int32)), .val (.int (Int32.ofNat (N + 4 + 4))), .unset] rfl ?_
              refine g_aload X297 hx (hb hby at_181) 183 rfl (v := (.ref b_297)) rfl rfl ?_
              refine g_alen X297 hx (hb hby at_183) 184 rfl hZ rfl Avo ?_
              refine g_iload X297 hx (hb hby at_184) 186 rfl (v := (Int32.ofNat (N + 4 + 4))) rfl ?_
              refine g_icmp_eq X297 hx (hb hby at_186) 191 189 (by decide) (by decide) rfl (fun hc186 => ?_) (fun hc186 => False.elim (hc186 rfl))
              refine g_iload X297 hx (hb hby at_191) 193 rfl (v := (Int32.ofNat N)) rfl ?_
              refine g_if_le X297 hx (hb hby at_193) 215 196 (by decide) (by decide) rfl (fun hc193 => ?_) (fun hc193 => ?_)
              · refine g_iload X297 hx (hb hby at_215) 217 rfl (v := f2) rfl ?_
                refine g_if_eq X297 hx (hb hby at_217) 270 220 (by decide) (by decide) rfl (fun hc217 => False.elim (hc117 hc217)) (fun hc217 => ?_)
                refine g_aload X297 hx (hb hby at_220) 222 rfl (v := (.ref b_297)) rfl rfl ?_
                refine g_iload X297 hx (hb hby at_222) 224 rfl (v := (Int32.ofNat N)) rfl ?_
                refine g_baload X297 hx (hb hby at_224) 225 rfl hZ rfl Avo (own_in (by omega) (by omega)) (.int (60 : Int32)) (by rw [own_cl (by omega)]; exact own_fr N 0 _ _) ?_
                refine g_bipush X297 hx (hb hby at_225) 227 rfl (60 : Int32) rfl ?_
                refine g_icmp_ne X297 hx (hb hby at_227) 268 230 (by decide) (by decide) rfl (fun hc227 => False.elim (hc227 rfl)) (fun hc227 => ?_)
                refine g_aload X297 hx (hb hby at_230) 232 rfl (v := (.ref b_297)) rfl rfl ?_
                refine g_iload X297 hx (hb hby at_232) 234 rfl (v := (Int32.ofNat N)) rfl ?_
                refine g_iconst X297 hx (hb hby at_234) 235 rfl (1 : Int32) rfl ?_
                refine g_iadd X297 hx (hb hby at_235) 236 rfl (Int32.ofNat (N + 1)) (Int32.ofNat_add (N) 1).symm ?_
                refine g_baload X297 hx (hb hby at_236) 237 rfl hZ rfl Avo (own_in (by omega) (by omega)) (.int c1.toInt8.toInt32) (by rw [own_cl (by omega)]; exact own_fr N 1 _ _) ?_
                refine g_iload X297 hx (hb hby at_237) 239 rfl (v := c1) rfl ?_
                refine g_i2b X297 hx (hb hby at_239) 240 rfl c1.toInt8.toInt32 rfl ?_
                refine g_icmp_ne X297 hx (hb hby at_240) 268 243 (by decide) (by decide) rfl (fun hc240 => False.elim (hc240 rfl)) (fun hc240 => ?_)
                refine g_aload X297 hx (hb hby at_243) 245 rfl (v := (.ref b_297)) rfl rfl ?_
                refine g_iload X297 hx (hb hby at_245) 247 rfl (v := (Int32.ofNat N)) rfl ?_
                refine g_iconst X297 hx (hb hby at_247) 248 rfl (2 : Int32) rfl ?_
                refine g_iadd X297 hx (hb hby at_248) 249 rfl (Int32.ofNat (N + 2)) (Int32.ofNat_add (N) 2).symm ?_
                refine g_baload X297 hx (hb hby at_249) 250 rfl hZ rfl Avo (own_in (by omega) (by omega)) (.int (58 : Int32)) (by rw [own_cl (by omega)]; exact own_fr N 2 _ _) ?_
                refine g_bipush X297 hx (hb hby at_250) 252 rfl (58 : Int32) rfl ?_
                refine g_icmp_ne X297 hx (hb hby at_252) 268 255 (by decide) (by decide) rfl (fun hc252 => False.elim (hc252 rfl)) (fun hc252 => ?_)
                refine g_aload X297 hx (hb hby at_255) 257 rfl (v := (.ref b_297)) rfl rfl ?_
                refine g_iload X297 hx (hb hby at_257) 259 rfl (v := (Int32.ofNat N)) rfl ?_
                refine g_iconst X297 hx (hb hby at_259) 260 rfl (3 : Int32) rfl ?_
                refine g_iadd X297 hx (hb hby at_260) 261 rfl (Int32.ofNat (N + 3)) (Int32.ofNat_add (N) 3).symm ?_
                refine g_baload X297 hx (hb hby at_261) 262 rfl hZ rfl Avo (own_in (by omega) (by omega)) (.int c2.toInt8.toInt32) (by rw [own_cl (by omega)]; exact own_fr N 3 _ _) ?_
                refine g_iload X297 hx (hb hby at_262) 264 rfl (v := c2) rfl ?_
                refine g_i2b X297 hx (hb hby at_264) 265 rfl c2.toInt8.toInt32 rfl ?_
                refine g_icmp_eq X297 hx (hb hby at_265) 270 268 (by decide) (by decide) rfl (fun hc265 => ?_) (fun hc265 => False.elim (hc265 rfl))
                refine g_iload X297 hx (hb hby at_270) 272 rfl (v := (Int32.ofNat N)) rfl ?_
                refine g_iload X297 hx (hb hby at_272) 274 rfl (v := (4 : Int32)) rfl ?_
                refine g_iadd X297 hx (hb hby at_274) 275 rfl (Int32.ofNat (N + 4)) (Int32.ofNat_add (N) 4).symm ?_
                refine g_istore X297 hx (hb hby at_275) 277 rfl #[.val (.int p1), .val (.int p2), .val (.int p3), .val (.int p4), .val (.int f1), .val (.int f2), .val (.int f3), .val (.int (Int32.ofNat nz)), .val (.int c1), .val (.int c2), zs, .val (.ref s1), .val (.ref s2), .val (.ref om), .val (.int (Int32.ofNat N)), .val (.ref b_297), .val (.int (4 : Int32)), .val (.int (Int32.ofNat (N + 4 + 4))), .val (.int (Int32.ofNat (N + 4)))] rfl ?_
                refine g_aload X297 hx (hb hby at_277) 279 rfl (v := (.ref b_297)) rfl rfl ?_
                refine g_iload X297 hx (hb hby at_279) 281 rfl (v := (Int32.ofNat (N + 4))) rfl ?_
                refine g_baload X297 hx (hb hby at_281) 282 rfl hZ rfl Avo (own_in (by omega) (by omega)) (.int (47 : Int32)) (by rw [own_cl (by omega)]; exact own_fr N 4 _ _) ?_
                refine g_bipush X297 hx (hb hby at_282) 284 rfl (47 : Int32) rfl ?_
                refine g_icmp_ne X297 hx (hb hby at_284) 299 287 (by decide) (by decide) rfl (fun hc284 => False.elim (hc284 rfl)) (fun hc284 => ?_)
                refine g_aload X297 hx (hb hby at_287) 289 rfl (v := (.ref b_297)) rfl rfl ?_
                refine g_iload X297 hx (hb hby at_289) 291 rfl (v := (Int32.ofNat (N + 4))) rfl ?_
                refine g_iconst X297 hx (hb hby at_291) 292 rfl (1 : Int32) rfl ?_
                refine g_iadd X297 hx (hb hby at_292) 293 rfl (Int32.ofNat (N + 4 + 1)) (Int32.ofNat_add (N + 4) 1).symm ?_
                refine g_baload X297 hx (hb hby at_293) 294 rfl hZ rfl Avo (own_in (by omega) (by omega)) (.int (62 : Int32)) (by rw [own_cl (by omega)]; exact own_fr N 5 _ _) ?_
                refine g_bipush X297 hx (hb hby at_294) 296 rfl (62 : Int32) rfl ?_
                refine g_icmp_eq X297 hx (hb hby at_296) 301 299 (by decide) (by decide) rfl (fun hc296 => ?_) (fun hc296 => False.elim (hc296 rfl))
                refine g_iload X297 hx (hb hby at_301) 303 rfl (v := f3) rfl ?_
                refine g_if_eq X297 hx (hb hby at_303) 332 306 (by decide) (by decide) rfl (fun hc303 => False.elim (hc136 hc303)) (fun hc303 => ?_)
                refine g_aload X297 hx (hb hby at_306) 308 rfl (v := (.ref b_297)) rfl rfl ?_
                refine g_iload X297 hx (hb hby at_308) 310 rfl (v := (Int32.ofNat (N + 4))) rfl ?_
                refine g_iconst X297 hx (hb hby at_310) 311 rfl (2 : Int32) rfl ?_
                refine g_iadd X297 hx (hb hby at_311) 312 rfl (Int32.ofNat (N + 4 + 2)) (Int32.ofNat_add (N + 4) 2).symm ?_
                refine g_baload X297 hx (hb hby at_312) 313 rfl hZ rfl Avo (own_in (by omega) (by omega)) (.int (47 : Int32)) (by rw [own_cl (by omega)]; exact own_fr N 6 _ _) ?_
                refine g_bipush X297 hx (hb hby at_313) 315 rfl (47 : Int32) rfl ?_
                refine g_icmp_ne X297 hx (hb hby at_315) 330 318 (by decide) (by decide) rfl (fun hc315 => False.elim (hc315 rfl)) (fun hc315 => ?_)
                refine g_aload X297 hx (hb hby at_318) 320 rfl (v := (.ref b_297)) rfl rfl ?_
                refine g_iload X297 hx (hb hby at_320) 322 rfl (v := (Int32.ofNat (N + 4))) rfl ?_
                refine g_iconst X297 hx (hb hby at_322) 323 rfl (3 : Int32) rfl ?_
                refine g_iadd X297 hx (hb hby at_323) 324 rfl (Int32.ofNat (N + 4 + 3)) (Int32.ofNat_add (N + 4) 3).symm ?_
                refine g_baload X297 hx (hb hby at_324) 325 rfl hZ rfl Avo (own_in (by omega) (by omega)) (.int (62 : Int32)) (by rw [own_cl (by omega)]; exact own_fr N 7 _ _) ?_
                refine g_bipush X297 hx (hb hby at_325) 327 rfl (62 : Int32) rfl ?_
                refine g_icmp_eq X297 hx (hb hby at_327) 332 330 (by decide) (by decide) rfl (fun hc327 => ?_) (fun hc327 => False.elim (hc327 rfl))
                refine g_iconst X297 hx (hb hby at_332) 333 rfl (1 : Int32) rfl ?_
                refine Go.retNS X297 hx hlk (t := .boolean) Bd.returns (by simp) (hb hby at_333) (by decide) (by decide) Ss239 hk298 (own_EW hw) hZ (by rw [hh]; exact R298) ?_
                exact ⟨rfl, N297⟩
              · have hpN : 0 < N := own_lt (j := 0) (by omega) (by omega) hc193
                refine g_aload X297 hx (hb hby at_196) 198 rfl (v := (.ref b_297)) rfl rfl ?_
                refine g_iconst X297 hx (hb hby at_198) 199 rfl (0 : Int32) rfl ?_
                refine g_baload X297 hx (hb hby at_199) 200 rfl hZ rfl Avo (own_in (j := 0) (by omega) (by omega)) (.int (0 : Int32)) (own_fl (j := 0) hpN _ _) ?_
                refine g_if_ne X297 hx (hb hby at_200) 213 203 (by decide) (by decide) rfl (fun hc200 => False.elim (hc200 rfl)) (fun hc200 => ?_)
                refine g_aload X297 hx (hb hby at_203) 205 rfl (v := (.ref b_297)) rfl rfl ?_
                refine g_iload X297 hx (hb hby at_205) 207 rfl (v := (Int32.ofNat N)) rfl ?_
                refine g_iconst X297 hx (hb hby at_207) 208 rfl (1 : Int32) rfl ?_
                refine g_isub X297 hx (hb hby at_208) 209 rfl (Int32.ofNat (N - 1)) (own_pred hpN) ?_
                refine g_baload X297 hx (hb hby at_209) 210 rfl hZ rfl Avo (own_in (by omega) (by omega)) (.int (0 : Int32)) (by rw [own_cl (by omega)]; exact own_fl (by omega) _ _) ?_
                refine g_if_eq X297 hx (hb hby at_210) 215 213 (by decide) (by decide) rfl (fun hc210 => ?_) (fun hc210 => False.elim (hc210 rfl))
                refine g_iload X297 hx (hb hby at_215) 217 rfl (v := f2) rfl ?_
                refine g_if_eq X297 hx (hb hby at_217) 270 220 (by decide) (by decide) rfl (fun hc217 => False.elim (hc117 hc217)) (fun hc217 => ?_)
                refine g_aload X297 hx (hb hby at_220) 222 rfl (v := (.ref b_297)) rfl rfl ?_
                refine g_iload X297 hx (hb hby at_222) 224 rfl (v := (Int32.ofNat N)) rfl ?_
                refine g_baload X297 hx (hb hby at_224) 225 rfl hZ rfl Avo (own_in (by omega) (by omega)) (.int (60 : Int32)) (by rw [own_cl (by omega)]; exact own_fr N 0 _ _) ?_
                refine g_bipush X297 hx (hb hby at_225) 227 rfl (60 : Int32) rfl ?_
                refine g_icmp_ne X297 hx (hb hby at_227) 268 230 (by decide) (by decide) rfl (fun hc227 => False.elim (hc227 rfl)) (fun hc227 => ?_)
                refine g_aload X297 hx (hb hby at_230) 232 rfl (v := (.ref b_297)) rfl rfl ?_
                refine g_iload X297 hx (hb hby at_232) 234 rfl (v := (Int32.ofNat N)) rfl ?_
                refine g_iconst X297 hx (hb hby at_234) 235 rfl (1 : Int32) rfl ?_
                refine g_iadd X297 hx (hb hby at_235) 236 rfl (Int32.ofNat (N + 1)) (Int32.ofNat_add (N) 1).symm ?_
                refine g_baload X297 hx (hb hby at_236) 237 rfl hZ rfl Avo (own_in (by omega) (by omega)) (.int c1.toInt8.toInt32) (by rw [own_cl (by omega)]; exact own_fr N 1 _ _) ?_
                refine g_iload X297 hx (hb hby at_237) 239 rfl (v := c1) rfl ?_
                refine g_i2b X297 hx (hb hby at_239) 240 rfl c1.toInt8.toInt32 rfl ?_
                refine g_icmp_ne X297 hx (hb hby at_240) 268 243 (by decide) (by decide) rfl (fun hc240 => False.elim (hc240 rfl)) (fun hc240 => ?_)
                refine g_aload X297 hx (hb hby at_243) 245 rfl (v := (.ref b_297)) rfl rfl ?_
                refine g_iload X297 hx (hb hby at_245) 247 rfl (v := (Int32.ofNat N)) rfl ?_
                refine g_iconst X297 hx (hb hby at_247) 248 rfl (2 : Int32) rfl ?_
                refine g_iadd X297 hx (hb hby at_248) 249 rfl (Int32.ofNat (N + 2)) (Int32.ofNat_add (N) 2).symm ?_
                refine g_baload X297 hx (hb hby at_249) 250 rfl hZ rfl Avo (own_in (by omega) (by omega)) (.int (58 : Int32)) (by rw [own_cl (by omega)]; exact own_fr N 2 _ _) ?_
                refine g_bipush X297 hx (hb hby at_250) 252 rfl (58 : Int32) rfl ?_
                refine g_icmp_ne X297 hx (hb hby at_252) 268 255 (by decide) (by decide) rfl (fun hc252 => False.elim (hc252 rfl)) (fun hc252 => ?_)
                refine g_aload X297 hx (hb hby at_255) 257 rfl (v := (.ref b_297)) rfl rfl ?_
                refine g_iload X297 hx (hb hby at_257) 259 rfl (v := (Int32.ofNat N)) rfl ?_
                refine g_iconst X297 hx (hb hby at_259) 260 rfl (3 : Int32) rfl ?_
                refine g_iadd X297 hx (hb hby at_260) 261 rfl (Int32.ofNat (N + 3)) (Int32.ofNat_add (N) 3).symm ?_
                refine g_baload X297 hx (hb hby at_261) 262 rfl hZ rfl Avo (own_in (by omega) (by omega)) (.int c2.toInt8.toInt32) (by rw [own_cl (by omega)]; exact own_fr N 3 _ _) ?_
                refine g_iload X297 hx (hb hby at_262) 264 rfl (v := c2) rfl ?_
                refine g_i2b X297 hx (hb hby at_264) 265 rfl c2.toInt8.toInt32 rfl ?_
                refine g_icmp_eq X297 hx (hb hby at_265) 270 268 (by decide) (by decide) rfl (fun hc265 => ?_) (fun hc265 => False.elim (hc265 rfl))
                refine g_iload X297 hx (hb hby at_270) 272 rfl (v := (Int32.ofNat N)) rfl ?_
                refine g_iload X297 hx (hb hby at_272) 274 rfl (v := (4 : Int32)) rfl ?_
                refine g_iadd X297 hx (hb hby at_274) 275 rfl (Int32.ofNat (N + 4)) (Int32.ofNat_add (N) 4).symm ?_
                refine g_istore X297 hx (hb hby at_275) 277 rfl #[.val (.int p1), .val (.int p2), .val (.int p3), .val (.int p4), .val (.int f1), .val (.int f2), .val (.int f3), .val (.int (Int32.ofNat nz)), .val (.int c1), .val (.int c2), zs, .val (.ref s1), .val (.ref s2), .val (.ref om), .val (.int (Int32.ofNat N)), .val (.ref b_297), .val (.int (4 : Int32)), .val (.int (Int32.ofNat (N + 4 + 4))), .val (.int (Int32.ofNat (N + 4)))] rfl ?_
                refine g_aload X297 hx (hb hby at_277) 279 rfl (v := (.ref b_297)) rfl rfl ?_
                refine g_iload X297 hx (hb hby at_279) 281 rfl (v := (Int32.ofNat (N + 4))) rfl ?_
                refine g_baload X297 hx (hb hby at_281) 282 rfl hZ rfl Avo (own_in (by omega) (by omega)) (.int (47 : Int32)) (by rw [own_cl (by omega)]; exact own_fr N 4 _ _) ?_
                refine g_bipush X297 hx (hb hby at_282) 284 rfl (47 : Int32) rfl ?_
                refine g_icmp_ne X297 hx (hb hby at_284) 299 287 (by decide) (by decide) rfl (fun hc284 => False.elim (hc284 rfl)) (fun hc284 => ?_)
                refine g_aload X297 hx (hb hby at_287) 289 rfl (v := (.ref b_297)) rfl rfl ?_
                refine g_iload X297 hx (hb hby at_289) 291 rfl (v := (Int32.ofNat (N + 4))) rfl ?_
                refine g_iconst X297 hx (hb hby at_291) 292 rfl (1 : Int32) rfl ?_
                refine g_iadd X297 hx (hb hby at_292) 293 rfl (Int32.ofNat (N + 4 + 1)) (Int32.ofNat_add (N + 4) 1).symm ?_
                refine g_baload X297 hx (hb hby at_293) 294 rfl hZ rfl Avo (own_in (by omega) (by omega)) (.int (62 : Int32)) (by rw [own_cl (by omega)]; exact own_fr N 5 _ _) ?_
                refine g_bipush X297 hx (hb hby at_294) 296 rfl (62 : Int32) rfl ?_
                refine g_icmp_eq X297 hx (hb hby at_296) 301 299 (by decide) (by decide) rfl (fun hc296 => ?_) (fun hc296 => False.elim (hc296 rfl))
                refine g_iload X297 hx (hb hby at_301) 303 rfl (v := f3) rfl ?_
                refine g_if_eq X297 hx (hb hby at_303) 332 306 (by decide) (by decide) rfl (fun hc303 => False.elim (hc136 hc303)) (fun hc303 => ?_)
                refine g_aload X297 hx (hb hby at_306) 308 rfl (v := (.ref b_297)) rfl rfl ?_
                refine g_iload X297 hx (hb hby at_308) 310 rfl (v := (Int32.ofNat (N + 4))) rfl ?_
                refine g_iconst X297 hx (hb hby at_310) 311 rfl (2 : Int32) rfl ?_
                refine g_iadd X297 hx (hb hby at_311) 312 rfl (Int32.ofNat (N + 4 + 2)) (Int32.ofNat_add (N + 4) 2).symm ?_
                refine g_baload X297 hx (hb hby at_312) 313 rfl hZ rfl Avo (own_in (by omega) (by omega)) (.int (47 : Int32)) (by rw [own_cl (by omega)]; exact own_fr N 6 _ _) ?_
                refine g_bipush X297 hx (hb hby at_313) 315 rfl (47 : Int32) rfl ?_
                refine g_icmp_ne X297 hx (hb hby at_315) 330 318 (by decide) (by decide) rfl (fun hc315 => False.elim (hc315 rfl)) (fun hc315 => ?_)
                refine g_aload X297 hx (hb hby at_318) 320 rfl (v := (.ref b_297)) rfl rfl ?_
                refine g_iload X297 hx (hb hby at_320) 322 rfl (v := (Int32.ofNat (N + 4))) rfl ?_
                refine g_iconst X297 hx (hb hby at_322) 323 rfl (3 : Int32) rfl ?_
                refine g_iadd X297 hx (hb hby at_323) 324 rfl (Int32.ofNat (N + 4 + 3)) (Int32.ofNat_add (N + 4) 3).symm ?_
                refine g_baload X297 hx (hb hby at_324) 325 rfl hZ rfl Avo (own_in (by omega) (by omega)) (.int (62 : Int32)) (by rw [own_cl (by omega)]; exact own_fr N 7 _ _) ?_
                refine g_bipush X297 hx (hb hby at_325) 327 rfl (62 : Int32) rfl ?_
                refine g_icmp_eq X297 hx (hb hby at_327) 332 330 (by decide) (by decide) rfl (fun hc327 => ?_) (fun hc327 => False.elim (hc327 rfl))
                refine g_iconst X297 hx (hb hby at_332) 333 rfl (1 : Int32) rfl ?_
                refine Go.retNS X297 hx hlk (t := .boolean) Bd.returns (by simp) (hb hby at_333) (by decide) (by decide) Ss239 hk298 (own_EW hw) hZ (by rw [hh]; exact R298) ?_
                exact ⟨rfl, N297⟩
        obtain ⟨T319, h319, X319, e319, E319, A319, D319, -, st319⟩ := newO X0 hx hZ hown (hw _ (List.mem_of_getElem? (i := 0) rfl)) (hw _ (List.mem_of_getElem? (i := 1) rfl)) (hw _ (List.mem_of_getElem? (i := 2) rfl)) e0 (g := (mkF m 60 #[.val (.int p1), .val (.int p2), .val (.int p3), .val (.int p4), .val (.int f1), .val (.int f2), .val (.int f3), .val (.int (Int32.ofNat nz)), .val (.int c1), .val (.int c2), .unset, .unset, .unset, .unset, .unset, .unset, .unset, .unset, .unset] [])) rfl (hb hby at_60) (by decide) (by decide)
        refine Go.st st319 ?_
        obtain ⟨os, q319⟩ : ∃ z, z = h0.size := ⟨_, rfl⟩
        rw [← q319] at A319 D319 ⊢
        have g_os : n0 ≤ os := Nat.le_trans Z0 (Nat.le_of_eq q319.symm)
        have Sf_os : Safe Z own_EL s.vm h0 os := Safe.new (Nat.le_of_eq q319.symm)
        have mh_os : h0.size ≤ os := Nat.le_trans K0.1 (Nat.le_of_eq q319.symm)
        have Sf_os_320 : Safe Z own_EL s.vm h319 os := Safe.ext E319 R0.1 Sf_os
        have R320 : CHr Z own_EL s.vm h0 s.vm h319 := CHr.trans R0 (CHr.ext E319 R0.1)
        have hk320 : _ ≤ h319.size := Nat.le_trans (Nat.zero_le _) (E319.1)
        have F_coder_319 : Fld Z h319 os "java/lang/String" "coder" "B" (.int (0 : Int32)) := D319 (Or.inr (hw _ (List.mem_of_getElem? (i := 27) rfl))) (ty := .byte) (by decide)
        have F_value_319 : Fld Z h319 os "java/lang/String" "value" "[B" .null := D319 (Or.inr (hw _ (List.mem_of_getElem? (i := 29) rfl))) (ty := (.array .byte)) (by decide)
        have K319 : Keep h0 h319 [] := Keep.ext K0 E319
        have Zs319 : n0 ≤ h319.size := Nat.le_trans Z0 E319.1
        show Go p e below _ (T319.setTop (mkF m 63 #[.val (.int p1), .val (.int p2), .val (.int p3), .val (.int p4), .val (.int f1), .val (.int f2), .val (.int f3), .val (.int (Int32.ofNat nz)), .val (.int c1), .val (.int c2), .unset, .unset, .unset, .unset, .unset, .unset, .unset, .unset, .unset] [(.ref os)]))
        refine g_dup X319 hx (hb hby at_63) 64 rfl rfl ?_
        refine g_iload X319 hx (hb hby at_64) 66 rfl (v := (Int32.ofNat nz)) rfl ?_
        obtain ⟨T322, h322, cA322, X322, e322, E322, A322, st322⟩ := newP X319 hx hZ (aty := .char) (hw _ (List.mem_of_getElem? (i := 3) rfl)) e319 (g := (mkF m 66 #[.val (.int p1), .val (.int p2), .val (.int p3), .val (.int p4), .val (.int f1), .val (.int f2), .val (.int f3), .val (.int (Int32.ofNat nz)), .val (.int c1), .val (.int c2), .unset, .unset, .unset, .unset, .unset, .unset, .unset, .unset, .unset] [(.int (Int32.ofNat nz)), (.ref os), (.ref os)])) rfl (hb hby at_66) rfl (own_in (N := nz + 1) (by omega) (by omega)).1 (cap := 4095) (by rw [own_cl (by omega)]; omega) (by decide) (by decide) (by decide)
        refine Go.st st322 ?_
        obtain ⟨oc, q322⟩ : ∃ z, z = h319.size := ⟨_, rfl⟩
        rw [← q322] at A322 ⊢
        have ne_os_oc : os ≠ oc := Nat.ne_of_lt (Nat.lt_of_lt_of_eq A319.lt q322.symm)
        have g_oc : n0 ≤ oc := Nat.le_trans Zs319 (Nat.le_of_eq q322.symm)
        have Sf_oc : Safe Z own_EL s.vm h319 oc := Safe.new (Nat.le_of_eq q322.symm)
        have mh_oc : h0.size ≤ oc := Nat.le_trans K319.1 (Nat.le_of_eq q322.symm)
        have Sf_os_323 : Safe Z own_EL s.vm h322 os := Safe.ext E322 R320.1 Sf_os_320
        have Sf_oc_323 : Safe Z own_EL s.vm h322 oc := Safe.ext E322 R320.1 Sf_oc
        have R323 : CHr Z own_EL s.vm h0 s.vm h322 := CHr.trans R320 (CHr.ext E322 R320.1)
        have hk323 : _ ≤ h322.size := Nat.le_trans hk320 (E322.1)
        have E_os_324 : Exa Z h322 os "java/lang/String" := Exa.ext E322 A319
        have F_coder_os_324 : Fld Z h322 os "java/lang/String" "coder" "B" (.int (0 : Int32)) := Fld.ext E322 F_coder_319
        have F_value_os_324 : Fld Z h322 os "java/lang/String" "value" "[B" .null := Fld.ext E322 F_value_319
        have K322 : Keep h0 h322 [] := Keep.ext K319 E322
        have Zs322 : n0 ≤ h322.size := Nat.le_trans Zs319 E322.1
        have Av_oc : Arv Z h322 oc cA322 .char (Int32.ofNat nz) (List.replicate nz (.int (0 : Int32))) (.int (0 : Int32)) := Arv.pad (Arv.new A322 (own_in (N := nz + 1) (by omega) (by omega)).1) (pad_rep [] (.int (0 : Int32)) nz)
        show Go p e below _ (T322.setTop (mkF m 68 #[.val (.int p1), .val (.int p2), .val (.int p3), .val (.int p4), .val (.int f1), .val (.int f2), .val (.int f3), .val (.int (Int32.ofNat nz)), .val (.int c1), .val (.int c2), .unset, .unset, .unset, .unset, .unset, .unset, .unset, .unset, .unset] [(.ref oc), (.ref os), (.ref os)]))
        by_cases qz : nz = 0
        · subst qz
          have Avc : Arv Z h322 oc cA322 .char (0 : Int32) [] (.int (0 : Int32)) := Av_oc
          obtain ⟨_, _, ⟨T325, L325, k325, n325⟩, -, X325, hS325, gr325, ⟨Lc325, hQ325, l325, y325, z325, C325⟩, st325⟩ := X322.specialBackS hx (y := (⟨"java/lang/String", "<init>", "([C)V"⟩ : MethodName)) rfl hown (mvT hZ (hw _ (List.mem_of_getElem? (i := 4) rfl))) (mvT hZ (hw _ (List.mem_of_getElem? (i := 5) rfl))) (mvT hZ (hw _ (List.mem_of_getElem? (i := 6) rfl))) (by decide) (backOfSH (W := 1) (rmsC0 l Z a0 hw [] os oc cA322 h322 n0 Zs322 E_os_324 g_os F_value_os_324 F_coder_os_324 Avc ne_os_oc) hZ (hw _ (List.mem_of_getElem? (i := 6) rfl)) (hw _ (List.mem_of_getElem? (i := 2) rfl)) (by decide) (by decide) (own_EW hw) R323.1) (g := (mkF m 68 #[.val (.int p1), .val (.int p2), .val (.int p3), .val (.int p4), .val (.int f1), .val (.int f2), .val (.int f3), .val (.int (Int32.ofNat 0)), .val (.int c1), .val (.int c2), .unset, .unset, .unset, .unset, .unset, .unset, .unset, .unset, .unset] [(.ref oc), (.ref os), (.ref os)])) rfl (by rw [hml]; rfl) (Steps.refl _) (a := os) (argsL := [(.ref oc)]) (rest := [(.ref os)]) (lenOf own_pd31 rfl) rfl (by show 2 * 0 + _ ≤ _; exact Nat.le_of_eq rfl) (hb hby at_68) (fun _ _ => ⟨rfl, e322, (by decide : 2 + 4 ≤ _), (by decide : 4099 + 8 ≤ _)⟩)
          dsimp only [Pt.U, Pt.locs, Pt.cells, Pt.slots] at X325 l325 y325 z325 st325 hQ325 hS325 gr325 C325
          subst l325 y325 z325
          obtain ⟨vb_325, kb_325, rfl, Nq325, Kq325, f325_0, f325_1, f325_2, f325_3, f325_4⟩ := hQ325
          refine Go.tr st325 ?_
          obtain ⟨X325, hS325, hZ, hown⟩ := rebS hS0 (by rw [e322]; exact hk323) X325 hS325 gr325 hZ hown
          have Sf_os_325 : Safe Z own_EL T325.vm T325.heap os := CHr.safe C325 E_os_324.lt Sf_os_323
          have Sf_oc_325 : Safe Z own_EL T325.vm T325.heap oc := CHr.safe C325 Avc.lt Sf_oc_323
          have R325 : CHr Z own_EL s.vm h0 T325.vm T325.heap := CHr.trans R323 C325
          have N325 := Fr.app N0 Nq325
          have E_os_326 : Exa Z T325.heap os "java/lang/String" := Exa.keep E_os_324 Kq325
          have A_oc_326 : Arv Z T325.heap oc cA322 .char (0 : Int32) [] (.int (0 : Int32)) := Arv.keep Avc Kq325 (ninS (Ne.symm ne_os_oc) nin0)
          have K325 : Keep h0 T325.heap [] := Keep.trans K322 Kq325 (allS (Or.inr mh_os) all0)
          have Zs325 : n0 ≤ T325.heap.size := Nat.le_trans Zs322 Kq325.1
          show Go p e below _ (T325.setTop (mkF m 71 #[.val (.int p1), .val (.int p2), .val (.int p3), .val (.int p4), .val (.int f1), .val (.int f2), .val (.int f3), .val (.int (Int32.ofNat 0)), .val (.int c1), .val (.int c2), .unset, .unset, .unset, .unset, .unset, .unset, .unset, .unset, .unset] [(.ref os)]))
          have Avv : Arv Z T325.heap vb_325 kb_325 .byte (Int32.ofNat 0) (List.replicate 0 (.int (0 : Int32))) (.int (0 : Int32)) := f325_3
          refine g_astore X325 hx (hb hby at_71) 73 rfl rfl #[.val (.int p1), .val (.int p2), .val (.int p3), .val (.int p4), .val (.int f1), .val (.int f2), .val (.int f3), .val (.int (Int32.ofNat 0)), .val (.int c1), .val (.int c2), .val (.ref os), .unset, .unset, .unset, .unset, .unset, .unset, .unset, .unset] rfl ?_
          refine g_iload X325 hx (hb hby at_73) 75 rfl (v := c1) rfl ?_
          obtain ⟨_, _, ⟨T327, L327, k327, n327⟩, -, X327, ⟨Lc327, hQ327, l327, y327, z327⟩, st327⟩ := Jvm.LawKit.callS X325 hx (y := (⟨"java/lang/String", "valueOf", "(C)Ljava/lang/String;"⟩ : MethodName)) hown (mvT hZ (hw _ (List.mem_of_getElem? (i := 30) rfl))) (mvT hZ (hw _ (List.mem_of_getElem? (i := 31) rfl))) (mvT hZ (hw _ (List.mem_of_getElem? (i := 2) rfl))) (mvT hZ (hw _ (List.mem_of_getElem? (i := 32) rfl))) (by decide) (backOf (W := 0) (rm7 l Z a0 hw [] c1 s_COMPACT_STRINGS T325.heap n0 Zs325 (own_Sta_keep S_COMPACT_STRINGS K325 all0) hz_s_COMPACT_STRINGS (e_c1 ▸ own_ch7 p3)) hZ (hw _ (List.mem_of_getElem? (i := 32) rfl)) (hw _ (List.mem_of_getElem? (i := 2) rfl)) (by decide) (by decide)) (g := (mkF m 75 #[.val (.int p1), .val (.int p2), .val (.int p3), .val (.int p4), .val (.int f1), .val (.int f2), .val (.int f3), .val (.int (Int32.ofNat 0)), .val (.int c1), .val (.int c2), .val (.ref os), .unset, .unset, .unset, .unset, .unset, .unset, .unset, .unset] [(.int c1)])) rfl (by rw [hml]; rfl) (argsL := [(.int c1)]) (rest := []) (lenOf own_pd32 rfl) rfl (by show 2 * 0 + _ ≤ _; exact Nat.le_of_eq rfl) (hb hby at_75) (fun _ _ => ⟨rfl, rfl, (by decide : 6 + 2 ≤ _), (by decide : 4107 + 5 ≤ _)⟩)
          dsimp only [Pt.U, Pt.locs, Pt.cells, Pt.slots] at X327 l327 y327 z327 st327 hQ327
          subst l327 y327 z327
          obtain ⟨b_327, vb_327, kb_327, rfl, Nq327, Kq327, f327_0, f327_1, f327_2, f327_3, f327_4, f327_5, f327_6⟩ := hQ327
          refine Go.st st327 ?_
          have N327 := Fr.app N325 Nq327
          have Sf_b_327 : Safe Z own_EL T325.vm T325.heap b_327 := Safe.new f327_0
          have Sf_vb_327 : Safe Z own_EL T325.vm T325.heap vb_327 := Safe.new f327_1
          have Sf_os_328 : Safe Z own_EL T325.vm T327.heap os := Safe.keep Kq327 all0 R325.1 Sf_os_325
          have Sf_oc_328 : Safe Z own_EL T325.vm T327.heap oc := Safe.keep Kq327 all0 R325.1 Sf_oc_325
          have Sf_b_327_328 : Safe Z own_EL T325.vm T327.heap b_327 := Safe.keep Kq327 all0 R325.1 Sf_b_327
          have Sf_vb_327_328 : Safe Z own_EL T325.vm T327.heap vb_327 := Safe.keep Kq327 all0 R325.1 Sf_vb_327
          have R328 : CHr Z own_EL s.vm h0 T325.vm T327.heap := CHr.trans R325 (CHr.keep Kq327 all0 R325.1)
          have hk328 : _ ≤ T327.heap.size := Nat.le_trans (Nat.le_refl _) (Kq327.1)
          have E_os_329 : Exa Z T327.heap os "java/lang/String" := Exa.keep f325_0 Kq327
          have A_oc_329 : Arv Z T327.heap oc cA322 .char (0 : Int32) [] (.int (0 : Int32)) := Arv.keep A_oc_326 Kq327 nin0
          have F_value_os_329 : Fld Z T327.heap os "java/lang/String" "value" "[B" (.ref vb_325) := Fld.keep f325_1 Kq327 nin0
          have F_coder_os_329 : Fld Z T327.heap os "java/lang/String" "coder" "B" (.int (0 : Int32)) := Fld.keep f325_2 Kq327 nin0
          have A_vb_325_329 : Arv Z T327.heap vb_325 kb_325 .byte (Int32.ofNat 0) (List.replicate 0 (.int (0 : Int32))) (.int (0 : Int32)) := Arv.keep Avv Kq327 nin0
          have ne_os_b_327 : os ≠ b_327 := Nat.ne_of_lt (Nat.lt_of_lt_of_le f325_0.lt f327_0)
          have ne_oc_b_327 : oc ≠ b_327 := Nat.ne_of_lt (Nat.lt_of_lt_of_le A_oc_326.lt f327_0)
          have ne_vb_325_b_327 : vb_325 ≠ b_327 := Nat.ne_of_lt (Nat.lt_of_lt_of_le Avv.lt f327_0)
          have g_b_327 : n0 ≤ b_327 := Nat.le_trans Zs325 f327_0
          have mh_b_327 : h0.size ≤ b_327 := Nat.le_trans K325.1 f327_0
          have ne_os_vb_327 : os ≠ vb_327 := Nat.ne_of_lt (Nat.lt_of_lt_of_le f325_0.lt f327_1)
          have ne_oc_vb_327 : oc ≠ vb_327 := Nat.ne_of_lt (Nat.lt_of_lt_of_le A_oc_326.lt f327_1)
          have ne_vb_325_vb_327 : vb_325 ≠ vb_327 := Nat.ne_of_lt (Nat.lt_of_lt_of_le Avv.lt f327_1)
          have g_vb_327 : n0 ≤ vb_327 := Nat.le_trans Zs325 f327_1
          have mh_vb_327 : h0.size ≤ vb_327 := Nat.le_trans K325.1 f327_1
          have K327 : Keep h0 T327.heap [] := Keep.trans K325 Kq327 all0
          have Zs327 : n0 ≤ T327.heap.size := Nat.le_trans Zs325 Kq327.1
          show Go p e below _ (T327.setTop (mkF m 78 #[.val (.int p1), .val (.int p2), .val (.int p3), .val (.int p4), .val (.int f1), .val (.int f2), .val (.int f3), .val (.int (Int32.ofNat 0)), .val (.int c1), .val (.int c2), .val (.ref os), .unset, .unset, .unset, .unset, .unset, .unset, .unset, .unset] [(.ref b_327)]))
          refine g_astore X327 hx (hb hby at_78) 80 rfl rfl #[.val (.int p1), .val (.int p2), .val (.int p3), .val (.int p4), .val (.int f1), .val (.int f2), .val (.int f3), .val (.int (Int32.ofNat 0)), .val (.int c1), .val (.int c2), .val (.ref os), .val (.ref b_327), .unset, .unset, .unset, .unset, .unset, .unset, .unset] rfl ?_
          refine g_iload X327 hx (hb hby at_80) 82 rfl (v := c2) rfl ?_
          obtain ⟨_, _, ⟨T330, L330, k330, n330⟩, -, X330, ⟨Lc330, hQ330, l330, y330, z330⟩, st330⟩ := Jvm.LawKit.callS X327 hx (y := (⟨"java/lang/String", "valueOf", "(C)Ljava/lang/String;"⟩ : MethodName)) hown (mvT hZ (hw _ (List.mem_of_getElem? (i := 30) rfl))) (mvT hZ (hw _ (List.mem_of_getElem? (i := 31) rfl))) (mvT hZ (hw _ (List.mem_of_getElem? (i := 2) rfl))) (mvT hZ (hw _ (List.mem_of_getElem? (i := 32) rfl))) (by decide) (backOf (W := 0) (rm7 l Z a0 hw [] c2 s_COMPACT_STRINGS T327.heap n0 Zs327 (own_Sta_keep S_COMPACT_STRINGS K327 all0) hz_s_COMPACT_STRINGS (e_c2 ▸ own_ch7 p4)) hZ (hw _ (List.mem_of_getElem? (i := 32) rfl)) (hw _ (List.mem_of_getElem? (i := 2) rfl)) (by decide) (by decide)) (g := (mkF m 82 #[.val (.int p1), .val (.int p2), .val (.int p3), .val (.int p4), .val (.int f1), .val (.int f2), .val (.int f3), .val (.int (Int32.ofNat 0)), .val (.int c1), .val (.int c2), .val (.ref os), .val (.ref b_327), .unset, .unset, .unset, .unset, .unset, .unset, .unset] [(.int c2)])) rfl (by rw [hml]; rfl) (argsL := [(.int c2)]) (rest := []) (lenOf own_pd32 rfl) rfl (by show 2 * 0 + _ ≤ _; exact Nat.le_of_eq rfl) (hb hby at_82) (fun _ _ => ⟨rfl, rfl, (by decide : 8 + 2 ≤ _), (by decide : 4112 + 5 ≤ _)⟩)
          dsimp only [Pt.U, Pt.locs, Pt.cells, Pt.slots] at X330 l330 y330 z330 st330 hQ330
          subst l330 y330 z330
          obtain ⟨b_330, vb_330, kb_330, rfl, Nq330, Kq330, f330_0, f330_1, f330_2, f330_3, f330_4, f330_5, f330_6⟩ := hQ330
          refine Go.st st330 ?_
          have N330 := Fr.app N327 Nq330
          have Sf_b_330 : Safe Z own_EL T325.vm T327.heap b_330 := Safe.new f330_0
          have Sf_vb_330 : Safe Z own_EL T325.vm T327.heap vb_330 := Safe.new f330_1
          have Sf_os_331 : Safe Z own_EL T325.vm T330.heap os := Safe.keep Kq330 all0 R328.1 Sf_os_328
          have Sf_oc_331 : Safe Z own_EL T325.vm T330.heap oc := Safe.keep Kq330 all0 R328.1 Sf_oc_328
          have Sf_b_327_331 : Safe Z own_EL T325.vm T330.heap b_327 := Safe.keep Kq330 all0 R328.1 Sf_b_327_328
          have Sf_vb_327_331 : Safe Z own_EL T325.vm T330.heap vb_327 := Safe.keep Kq330 all0 R328.1 Sf_vb_327_328
          have Sf_b_330_331 : Safe Z own_EL T325.vm T330.heap b_330 := Safe.keep Kq330 all0 R328.1 Sf_b_330
          have Sf_vb_330_331 : Safe Z own_EL T325.vm T330.heap vb_330 := Safe.keep Kq330 all0 R328.1 Sf_vb_330
          have R331 : CHr Z own_EL s.vm h0 T325.vm T330.heap := CHr.trans R328 (CHr.keep Kq330 all0 R328.1)
          have hk331 : _ ≤ T330.heap.size := Nat.le_trans hk328 (Kq330.1)
          have E_os_332 : Exa Z T330.heap os "java/lang/String" := Exa.keep E_os_329 Kq330
          have A_oc_332 : Arv Z T330.heap oc cA322 .char (0 : Int32) [] (.int (0 : Int32)) := Arv.keep A_oc_329 Kq330 nin0
          have F_value_os_332 : Fld Z T330.heap os "java/lang/String" "value" "[B" (.ref vb_325) := Fld.keep F_value_os_329 Kq330 nin0
          have F_coder_os_332 : Fld Z T330.heap os "java/lang/String" "coder" "B" (.int (0 : Int32)) := Fld.keep F_coder_os_329 Kq330 nin0
          have A_vb_325_332 : Arv Z T330.heap vb_325 kb_325 .byte (Int32.ofNat 0) (List.replicate 0 (.int (0 : Int32))) (.int (0 : Int32)) := Arv.keep A_vb_325_329 Kq330 nin0
          have E_b_327_332 : Exa Z T330.heap b_327 "java/lang/String" := Exa.keep f327_3 Kq330
          have F_value_b_327_332 : Fld Z T330.heap b_327 "java/lang/String" "value" "[B" (.ref vb_327) := Fld.keep f327_4 Kq330 nin0
          have F_coder_b_327_332 : Fld Z T330.heap b_327 "java/lang/String" "coder" "B" (.int (0 : Int32)) := Fld.keep f327_5 Kq330 nin0
          have A_vb_327_332 : Arv Z T330.heap vb_327 kb_327 .byte (1 : Int32) ([(.int c1.toInt8.toInt32)]) (.int (0 : Int32)) := Arv.keep f327_6 Kq330 nin0
          have ne_os_b_330 : os ≠ b_330 := Nat.ne_of_lt (Nat.lt_of_lt_of_le E_os_329.lt f330_0)
          have ne_oc_b_330 : oc ≠ b_330 := Nat.ne_of_lt (Nat.lt_of_lt_of_le A_oc_329.lt f330_0)
          have ne_vb_325_b_330 : vb_325 ≠ b_330 := Nat.ne_of_lt (Nat.lt_of_lt_of_le A_vb_325_329.lt f330_0)
          have ne_b_327_b_330 : b_327 ≠ b_330 := Nat.ne_of_lt (Nat.lt_of_lt_of_le f327_3.lt f330_0)
          have ne_vb_327_b_330 : vb_327 ≠ b_330 := Nat.ne_of_lt (Nat.lt_of_lt_of_le f327_6.lt f330_0)
          have g_b_330 : n0 ≤ b_330 := Nat.le_trans Zs327 f330_0
          have mh_b_330 : h0.size ≤ b_330 := Nat.le_trans K327.1 f330_0
          have ne_os_vb_330 : os ≠ vb_330 := Nat.ne_of_lt (Nat.lt_of_lt_of_le E_os_329.lt f330_1)
          have ne_oc_vb_330 : oc ≠ vb_330 := Nat.ne_of_lt (Nat.lt_of_lt_of_le A_oc_329.lt f330_1)
          have ne_vb_325_vb_330 : vb_325 ≠ vb_330 := Nat.ne_of_lt (Nat.lt_of_lt_of_le A_vb_325_329.lt f330_1)
          have ne_b_327_vb_330 : b_327 ≠ vb_330 := Nat.ne_of_lt (Nat.lt_of_lt_of_le f327_3.lt f330_1)
          have ne_vb_327_vb_330 : vb_327 ≠ vb_330 := Nat.ne_of_lt (Nat.lt_of_lt_of_le f327_6.lt f330_1)
          have g_vb_330 : n0 ≤ vb_330 := Nat.le_trans Zs327 f330_1
          have mh_vb_330 : h0.size ≤ vb_330 := Nat.le_trans K327.1 f330_1
          have K330 : Keep h0 T330.heap [] := Keep.trans K327 Kq330 all0
          have Zs330 : n0 ≤ T330.heap.size := Nat.le_trans Zs327 Kq330.1
          show Go p e below _ (T330.setTop (mkF m 85 #[.val (.int p1), .val (.int p2), .val (.int p3), .val (.int p4), .val (.int f1), .val (.int f2), .val (.int f3), .val (.int (Int32.ofNat 0)), .val (.int c1), .val (.int c2), .val (.ref os), .val (.ref b_327), .unset, .unset, .unset, .unset, .unset, .unset, .unset] [(.ref b_330)]))
          refine g_astore X330 hx (hb hby at_85) 87 rfl rfl #[.val (.int p1), .val (.int p2), .val (.int p3), .val (.int p4), .val (.int f1), .val (.int f2), .val (.int f3), .val (.int (Int32.ofNat 0)), .val (.int c1), .val (.int c2), .val (.ref os), .val (.ref b_327), .val (.ref b_330), .unset, .unset, .unset, .unset, .unset, .unset] rfl ?_
          obtain ⟨T333, h333, X333, e333, E333, A333, D333, -, st333⟩ := newO X330 hx hZ hown (hw _ (List.mem_of_getElem? (i := 44) rfl)) (hw _ (List.mem_of_getElem? (i := 45) rfl)) (hw _ (List.mem_of_getElem? (i := 46) rfl)) rfl (g := (mkF m 87 #[.val (.int p1), .val (.int p2), .val (.int p3), .val (.int p4), .val (.int f1), .val (.int f2), .val (.int f3), .val (.int (Int32.ofNat 0)), .val (.int c1), .val (.int c2), .val (.ref os), .val (.ref b_327), .val (.ref b_330), .unset, .unset, .unset, .unset, .unset, .unset] [])) rfl (hb hby at_87) (by decide) (by decide)
          refine Go.st st333 ?_
          obtain ⟨om, q333⟩ : ∃ z, z = T330.heap.size := ⟨_, rfl⟩
          rw [← q333] at A333 D333 ⊢
          have ne_os_om : os ≠ om := Nat.ne_of_lt (Nat.lt_of_lt_of_eq E_os_332.lt q333.symm)
          have ne_oc_om : oc ≠ om := Nat.ne_of_lt (Nat.lt_of_lt_of_eq A_oc_332.lt q333.symm)
          have ne_vb_325_om : vb_325 ≠ om := Nat.ne_of_lt (Nat.lt_of_lt_of_eq A_vb_325_332.lt q333.symm)
          have ne_b_327_om : b_327 ≠ om := Nat.ne_of_lt (Nat.lt_of_lt_of_eq E_b_327_332.lt q333.symm)
          have ne_vb_327_om : vb_327 ≠ om := Nat.ne_of_lt (Nat.lt_of_lt_of_eq A_vb_327_332.lt q333.symm)
          have ne_b_330_om : b_330 ≠ om := Nat.ne_of_lt (Nat.lt_of_lt_of_eq f330_3.lt q333.symm)
          have ne_vb_330_om : vb_330 ≠ om := Nat.ne_of_lt (Nat.lt_of_lt_of_eq f330_6.lt q333.symm)
          have g_om : n0 ≤ om := Nat.le_trans Zs330 (Nat.le_of_eq q333.symm)
          have Sf_om : Safe Z own_EL T325.vm T330.heap om := Safe.new (Nat.le_of_eq q333.symm)
          have mh_om : h0.size ≤ om := Nat.le_trans K330.1 (Nat.le_of_eq q333.symm)
          have Sf_os_334 : Safe Z own_EL T325.vm h333 os := Safe.ext E333 R331.1 Sf_os_331
          have Sf_oc_334 : Safe Z own_EL T325.vm h333 oc := Safe.ext E333 R331.1 Sf_oc_331
          have Sf_b_327_334 : Safe Z own_EL T325.vm h333 b_327 := Safe.ext E333 R331.1 Sf_b_327_331
          have Sf_vb_327_334 : Safe Z own_EL T325.vm h333 vb_327 := Safe.ext E333 R331.1 Sf_vb_327_331
          have Sf_b_330_334 : Safe Z own_EL T325.vm h333 b_330 := Safe.ext E333 R331.1 Sf_b_330_331
          have Sf_vb_330_334 : Safe Z own_EL T325.vm h333 vb_330 := Safe.ext E333 R331.1 Sf_vb_330_331
          have Sf_om_334 : Safe Z own_EL T325.vm h333 om := Safe.ext E333 R331.1 Sf_om
          have R334 : CHr Z own_EL s.vm h0 T325.vm h333 := CHr.trans R331 (CHr.ext E333 R331.1)
          have hk334 : _ ≤ h333.size := Nat.le_trans hk331 (E333.1)
          have E_os_335 : Exa Z h333 os "java/lang/String" := Exa.ext E333 E_os_332
          have A_oc_335 : Arv Z h333 oc cA322 .char (0 : Int32) [] (.int (0 : Int32)) := Arv.ext A_oc_332 E333
          have F_value_os_335 : Fld Z h333 os "java/lang/String" "value" "[B" (.ref vb_325) := Fld.ext E333 F_value_os_332
          have F_coder_os_335 : Fld Z h333 os "java/lang/String" "coder" "B" (.int (0 : Int32)) := Fld.ext E333 F_coder_os_332
          have A_vb_325_335 : Arv Z h333 vb_325 kb_325 .byte (Int32.ofNat 0) (List.replicate 0 (.int (0 : Int32))) (.int (0 : Int32)) := Arv.ext A_vb_325_332 E333
          have E_b_327_335 : Exa Z h333 b_327 "java/lang/String" := Exa.ext E333 E_b_327_332
          have F_value_b_327_335 : Fld Z h333 b_327 "java/lang/String" "value" "[B" (.ref vb_327) := Fld.ext E333 F_value_b_327_332
          have F_coder_b_327_335 : Fld Z h333 b_327 "java/lang/String" "coder" "B" (.int (0 : Int32)) := Fld.ext E333 F_coder_b_327_332
          have A_vb_327_335 : Arv Z h333 vb_327 kb_327 .byte (1 : Int32) ([(.int c1.toInt8.toInt32)]) (.int (0 : Int32)) := Arv.ext A_vb_327_332 E333
          have E_b_330_335 : Exa Z h333 b_330 "java/lang/String" := Exa.ext E333 f330_3
          have F_value_b_330_335 : Fld Z h333 b_330 "java/lang/String" "value" "[B" (.ref vb_330) := Fld.ext E333 f330_4
          have F_coder_b_330_335 : Fld Z h333 b_330 "java/lang/String" "coder" "B" (.int (0 : Int32)) := Fld.ext E333 f330_5
          have A_vb_330_335 : Arv Z h333 vb_330 kb_330 .byte (1 : Int32) ([(.int c2.toInt8.toInt32)]) (.int (0 : Int32)) := Arv.ext f330_6 E333
          have F_bytes_333 : Fld Z h333 om "com/example/anagrafe/anagrafe/atom/Markup" "bytes" "[B" .null := D333 (Or.inl (hw _ (List.mem_of_getElem? (i := 52) rfl))) (ty := (.array .byte)) (by decide)
          have F_size_333 : Fld Z h333 om "com/example/anagrafe/anagrafe/atom/Markup" "size" "I" (.int (0 : Int32)) := D333 (Or.inl (hw _ (List.mem_of_getElem? (i := 63) rfl))) (ty := .int) (by decide)
          have K333 : Keep h0 h333 [] := Keep.ext K330 E333
          have Zs333 : n0 ≤ h333.size := Nat.le_trans Zs330 E333.1
          show Go p e below _ (T333.setTop (mkF m 90 #[.val (.int p1), .val (.int p2), .val (.int p3), .val (.int p4), .val (.int f1), .val (.int f2), .val (.int f3), .val (.int (Int32.ofNat 0)), .val (.int c1), .val (.int c2), .val (.ref os), .val (.ref b_327), .val (.ref b_330), .unset, .unset, .unset, .unset, .unset, .unset] [(.ref om)]))
          refine g_dup X333 hx (hb hby at_90) 91 rfl rfl ?_
          obtain ⟨_, _, ⟨T336, L336, k336, n336⟩, -, X336, ⟨Lc336, hQ336, l336, y336, z336⟩, st336⟩ := X333.specialBack hx (y := (⟨"com/example/anagrafe/anagrafe/atom/Markup", "<init>", "()V"⟩ : MethodName)) rfl hown (mvT hZ (hw _ (List.mem_of_getElem? (i := 47) rfl))) (mvT hZ (hw _ (List.mem_of_getElem? (i := 48) rfl))) (mvT hZ (hw _ (List.mem_of_getElem? (i := 49) rfl))) (by decide) (backOf (W := 1) (rm11 l Z a0 hw [] om .null h333 n0 Zs333 A333 g_om F_bytes_333 F_size_333) hZ (hw _ (List.mem_of_getElem? (i := 49) rfl)) (hw _ (List.mem_of_getElem? (i := 46) rfl)) (by decide) (by decide)) (g := (mkF m 91 #[.val (.int p1), .val (.int p2), .val (.int p3), .val (.int p4), .val (.int f1), .val (.int f2), .val (.int f3), .val (.int (Int32.ofNat 0)), .val (.int c1), .val (.int c2), .val (.ref os), .val (.ref b_327), .val (.ref b_330), .unset, .unset, .unset, .unset, .unset, .unset] [(.ref om), (.ref om)])) rfl (by rw [hml]; rfl) (Steps.refl _) (a := om) (argsL := []) (rest := [(.ref om)]) (lenOf own_pd28 rfl) rfl (by show 2 * 0 + _ ≤ _; exact Nat.le_of_eq rfl) (hb hby at_91) (fun _ _ => ⟨rfl, e333, (by decide : 11 + 1 ≤ _), (by decide : 4119 + 16384 ≤ _)⟩)
          dsimp only [Pt.U, Pt.locs, Pt.cells, Pt.slots] at X336 l336 y336 z336 st336 hQ336
          subst l336 y336 z336
          obtain ⟨wq_336, kq_336, rfl, Nq336, Kq336, f336_0, f336_1, f336_2, f336_3, f336_4⟩ := hQ336
          refine Go.tr st336 ?_
          have N336 := Fr.app N330 Nq336
          have Sf_wq_336 : Safe Z own_EL T325.vm h333 wq_336 := Safe.new f336_0
          have Sf_os_337 : Safe Z own_EL T325.vm T336.heap os := Safe.keep Kq336 (allS Sf_om_334 all0) R334.1 Sf_os_334
          have Sf_oc_337 : Safe Z own_EL T325.vm T336.heap oc := Safe.keep Kq336 (allS Sf_om_334 all0) R334.1 Sf_oc_334
          have Sf_b_327_337 : Safe Z own_EL T325.vm T336.heap b_327 := Safe.keep Kq336 (allS Sf_om_334 all0) R334.1 Sf_b_327_334
          have Sf_vb_327_337 : Safe Z own_EL T325.vm T336.heap vb_327 := Safe.keep Kq336 (allS Sf_om_334 all0) R334.1 Sf_vb_327_334
          have Sf_b_330_337 : Safe Z own_EL T325.vm T336.heap b_330 := Safe.keep Kq336 (allS Sf_om_334 all0) R334.1 Sf_b_330_334
          have Sf_vb_330_337 : Safe Z own_EL T325.vm T336.heap vb_330 := Safe.keep Kq336 (allS Sf_om_334 all0) R334.1 Sf_vb_330_334
          have Sf_om_337 : Safe Z own_EL T325.vm T336.heap om := Safe.keep Kq336 (allS Sf_om_334 all0) R334.1 Sf_om_334
          have Sf_wq_336_337 : Safe Z own_EL T325.vm T336.heap wq_336 := Safe.keep Kq336 (allS Sf_om_334 all0) R334.1 Sf_wq_336
          have R337 : CHr Z own_EL s.vm h0 T325.vm T336.heap := CHr.trans R334 (CHr.keep Kq336 (allS Sf_om_334 all0) R334.1)
          have hk337 : _ ≤ T336.heap.size := Nat.le_trans hk334 (Kq336.1)
          have E_os_338 : Exa Z T336.heap os "java/lang/String" := Exa.keep E_os_335 Kq336
          have A_oc_338 : Arv Z T336.heap oc cA322 .char (0 : Int32) [] (.int (0 : Int32)) := Arv.keep A_oc_335 Kq336 (ninS ne_oc_om nin0)
          have F_value_os_338 : Fld Z T336.heap os "java/lang/String" "value" "[B" (.ref vb_325) := Fld.keep F_value_os_335 Kq336 (ninS ne_os_om nin0)
          have F_coder_os_338 : Fld Z T336.heap os "java/lang/String" "coder" "B" (.int (0 : Int32)) := Fld.keep F_coder_os_335 Kq336 (ninS ne_os_om nin0)
          have A_vb_325_338 : Arv Z T336.heap vb_325 kb_325 .byte (Int32.ofNat 0) (List.replicate 0 (.int (0 : Int32))) (.int (0 : Int32)) := Arv.keep A_vb_325_335 Kq336 (ninS ne_vb_325_om nin0)
          have E_b_327_338 : Exa Z T336.heap b_327 "java/lang/String" := Exa.keep E_b_327_335 Kq336
          have F_value_b_327_338 : Fld Z T336.heap b_327 "java/lang/String" "value" "[B" (.ref vb_327) := Fld.keep F_value_b_327_335 Kq336 (ninS ne_b_327_om nin0)
          have F_coder_b_327_338 : Fld Z T336.heap b_327 "java/lang/String" "coder" "B" (.int (0 : Int32)) := Fld.keep F_coder_b_327_335 Kq336 (ninS ne_b_327_om nin0)
          have A_vb_327_338 : Arv Z T336.heap vb_327 kb_327 .byte (1 : Int32) ([(.int c1.toInt8.toInt32)]) (.int (0 : Int32)) := Arv.keep A_vb_327_335 Kq336 (ninS ne_vb_327_om nin0)
          have E_b_330_338 : Exa Z T336.heap b_330 "java/lang/String" := Exa.keep E_b_330_335 Kq336
          have F_value_b_330_338 : Fld Z T336.heap b_330 "java/lang/String" "value" "[B" (.ref vb_330) := Fld.keep F_value_b_330_335 Kq336 (ninS ne_b_330_om nin0)
          have F_coder_b_330_338 : Fld Z T336.heap b_330 "java/lang/String" "coder" "B" (.int (0 : Int32)) := Fld.keep F_coder_b_330_335 Kq336 (ninS ne_b_330_om nin0)
          have A_vb_330_338 : Arv Z T336.heap vb_330 kb_330 .byte (1 : Int32) ([(.int c2.toInt8.toInt32)]) (.int (0 : Int32)) := Arv.keep A_vb_330_335 Kq336 (ninS ne_vb_330_om nin0)
          have E_om_338 : Exa Z T336.heap om "com/example/anagrafe/anagrafe/atom/Markup" := Exa.keep A333 Kq336
          have ne_os_wq_336 : os ≠ wq_336 := Nat.ne_of_lt (Nat.lt_of_lt_of_le E_os_335.lt f336_0)
          have ne_oc_wq_336 : oc ≠ wq_336 := Nat.ne_of_lt (Nat.lt_of_lt_of_le A_oc_335.lt f336_0)
          have ne_vb_325_wq_336 : vb_325 ≠ wq_336 := Nat.ne_of_lt (Nat.lt_of_lt_of_le A_vb_325_335.lt f336_0)
          have ne_b_327_wq_336 : b_327 ≠ wq_336 := Nat.ne_of_lt (Nat.lt_of_lt_of_le E_b_327_335.lt f336_0)
          have ne_vb_327_wq_336 : vb_327 ≠ wq_336 := Nat.ne_of_lt (Nat.lt_of_lt_of_le A_vb_327_335.lt f336_0)
          have ne_b_330_wq_336 : b_330 ≠ wq_336 := Nat.ne_of_lt (Nat.lt_of_lt_of_le E_b_330_335.lt f336_0)
          have ne_vb_330_wq_336 : vb_330 ≠ wq_336 := Nat.ne_of_lt (Nat.lt_of_lt_of_le A_vb_330_335.lt f336_0)
          have ne_om_wq_336 : om ≠ wq_336 := Nat.ne_of_lt (Nat.lt_of_lt_of_le A333.lt f336_0)
          have g_wq_336 : n0 ≤ wq_336 := Nat.le_trans Zs333 f336_0
          have mh_wq_336 : h0.size ≤ wq_336 := Nat.le_trans K333.1 f336_0
          have K336 : Keep h0 T336.heap [] := Keep.trans K333 Kq336 (allS (Or.inr mh_om) all0)
          have Zs336 : n0 ≤ T336.heap.size := Nat.le_trans Zs333 Kq336.1
          show Go p e below _ (T336.setTop (mkF m 94 #[.val (.int p1), .val (.int p2), .val (.int p3), .val (.int p4), .val (.int f1), .val (.int f2), .val (.int f3), .val (.int (Int32.ofNat 0)), .val (.int c1), .val (.int c2), .val (.ref os), .val (.ref b_327), .val (.ref b_330), .unset, .unset, .unset, .unset, .unset, .unset] [(.ref om)]))
          refine g_astore X336 hx (hb hby at_94) 96 rfl rfl #[.val (.int p1), .val (.int p2), .val (.int p3), .val (.int p4), .val (.int f1), .val (.int f2), .val (.int f3), .val (.int (Int32.ofNat 0)), .val (.int c1), .val (.int c2), .val (.ref os), .val (.ref b_327), .val (.ref b_330), .val (.ref om), .unset, .unset, .unset, .unset, .unset] rfl ?_
          refine g_iconst X336 hx (hb hby at_96) 97 rfl (0 : Int32) rfl ?_
          refine g_istore X336 hx (hb hby at_97) 99 rfl #[.val (.int p1), .val (.int p2), .val (.int p3), .val (.int p4), .val (.int f1), .val (.int f2), .val (.int f3), .val (.int (Int32.ofNat 0)), .val (.int c1), .val (.int c2), .val (.ref os), .val (.ref b_327), .val (.ref b_330), .val (.ref om), .val (.int (0 : Int32)), .unset, .unset, .unset, .unset] rfl ?_
          refine g_iload X336 hx (hb hby at_99) 101 rfl (v := f1) rfl ?_
          refine g_if_eq X336 hx (hb hby at_101) 115 104 (by decide) (by decide) rfl (fun hc101 => ?_) (fun hc101 => ?_)
          · exact q115 b_327 vb_327 b_330 vb_330 om wq_336 kb_327 kb_330 kq_336 16384 0 (.val (.ref os)) (own_mono X336 (by decide) (by decide)) rfl N336 K336 Zs336 hS325 hk337 hZ hown R337 E_b_327_338 F_value_b_327_338 F_coder_b_327_338 A_vb_327_338 E_b_330_338 F_value_b_330_338 F_coder_b_330_338 A_vb_330_338 f336_1 f336_2 f336_3 (Arv.pad f336_4 (pad_rep [] (.int (0 : Int32)) 0)) Sf_wq_336_337 g_om g_wq_336 mh_om mh_wq_336 ne_om_wq_336 (Ne.symm ne_b_327_om) (Ne.symm ne_vb_327_om) (Ne.symm ne_b_330_om) (Ne.symm ne_vb_330_om) (Ne.symm ne_b_327_wq_336) (Ne.symm ne_vb_327_wq_336) (Ne.symm ne_b_330_wq_336) (Ne.symm ne_vb_330_wq_336) (by decide) (by decide)
          · refine g_aload X336 hx (hb hby at_104) 106 rfl (v := (.ref om)) rfl rfl ?_
            refine g_aload X336 hx (hb hby at_106) 108 rfl (v := (.ref os)) rfl rfl ?_
            obtain ⟨cq339, kq339, q339a, q339b, q339c⟩ := isOf hZ rfl f336_1
            obtain ⟨_, _, ⟨T339, L339, k339, n339⟩, -, X339, ⟨Lc339, hQ339, l339, y339, z339⟩, st339⟩ := X336.virtualBack hx (y := (⟨"com/example/anagrafe/anagrafe/atom/Markup", "text", "(Ljava/lang/String;)V"⟩ : MethodName)) (z := (⟨"com/example/anagrafe/anagrafe/atom/Markup", "text", "(Ljava/lang/String;)V"⟩ : MethodName)) hown (mvT hZ (hw _ (List.mem_of_getElem? (i := 81) rfl))) (mvT hZ (hw _ (List.mem_of_getElem? (i := 82) rfl))) (notFace_of_selects (args := #[]) (mvT hZ (hw _ (List.mem_of_getElem? (i := 84) rfl)))) (mvT hZ (hw _ (List.mem_of_getElem? (i := 84) rfl))) (mvT hZ (hw _ (List.mem_of_getElem? (i := 83) rfl))) (by decide) (backOf (W := 0) (rmtxs l Z a0 hw [] om os wq_336 kq_336 s_COMPACT_STRINGS s_SIOOBE_FORMATTER te eb ke ev vb_325 kb_325 0 T336.heap n0 Zs336 (own_Sta_keep S_COMPACT_STRINGS K336 all0) (own_Sta_keep S_SIOOBE_FORMATTER K336 all0) (own_Sta_keep S_TEXT K336 all0) f336_1 f336_2 f336_3 f336_4 g_om g_wq_336 ne_om_wq_336 E_os_338 F_value_os_338 F_coder_os_338 A_vb_325_338 (Exa.keep E_te K336) (Fld.keep F_escaped_te K336 nin0) (Arv.keep A_eb K336 nin0) ne_os_om ne_vb_325_om (Nat.ne_of_lt (Nat.lt_of_lt_of_le E_te.lt mh_om)) (Nat.ne_of_lt (Nat.lt_of_lt_of_le A_eb.lt mh_om)) ne_os_wq_336 ne_vb_325_wq_336 (Nat.ne_of_lt (Nat.lt_of_lt_of_le E_te.lt mh_wq_336)) (Nat.ne_of_lt (Nat.lt_of_lt_of_le A_eb.lt mh_wq_336)) hz_s_COMPACT_STRINGS hR_s_SIOOBE_FORMATTER hev (by omega)) hZ (hw _ (List.mem_of_getElem? (i := 85) rfl)) (hw _ (List.mem_of_getElem? (i := 46) rfl)) (by decide) (by decide)) q339a q339c (g := (mkF m 108 #[.val (.int p1), .val (.int p2), .val (.int p3), .val (.int p4), .val (.int f1), .val (.int f2), .val (.int f3), .val (.int (Int32.ofNat 0)), .val (.int c1), .val (.int c2), .val (.ref os), .val (.ref b_327), .val (.ref b_330), .val (.ref om), .val (.int (0 : Int32)), .unset, .unset, .unset, .unset] [(.ref os), (.ref om)])) rfl (by rw [hml]; rfl) (Steps.refl _) (argsL := [(.ref os)]) (rest := []) (lenOf own_pd17 rfl) rfl (by show 2 * 0 + _ ≤ _; exact Nat.le_of_eq rfl) (hb hby at_108) (fun _ _ => ⟨rfl, rfl, (by decide : 12 + 0 ≤ _), (by decide : 20503 + 0 ≤ _)⟩)
            dsimp only [Pt.U, Pt.locs, Pt.cells, Pt.slots] at X339 l339 y339 z339 st339 hQ339
            subst l339 y339 z339
            obtain ⟨rfl, Nq339, Kq339, f339_0, f339_1, f339_2, f339_3⟩ := hQ339
            refine Go.tr st339 ?_
            have N339 := Fr.app N336 Nq339
            have Sf_os_340 : Safe Z own_EL T325.vm T339.heap os := Safe.keep Kq339 (allS Sf_om_337 (allS Sf_wq_336_337 all0)) R337.1 Sf_os_337
            have Sf_oc_340 : Safe Z own_EL T325.vm T339.heap oc := Safe.keep Kq339 (allS Sf_om_337 (allS Sf_wq_336_337 all0)) R337.1 Sf_oc_337
            have Sf_b_327_340 : Safe Z own_EL T325.vm T339.heap b_327 := Safe.keep Kq339 (allS Sf_om_337 (allS Sf_wq_336_337 all0)) R337.1 Sf_b_327_337
            have Sf_vb_327_340 : Safe Z own_EL T325.vm T339.heap vb_327 := Safe.keep Kq339 (allS Sf_om_337 (allS Sf_wq_336_337 all0)) R337.1 Sf_vb_327_337
            have Sf_b_330_340 : Safe Z own_EL T325.vm T339.heap b_330 := Safe.keep Kq339 (allS Sf_om_337 (allS Sf_wq_336_337 all0)) R337.1 Sf_b_330_337
            have Sf_vb_330_340 : Safe Z own_EL T325.vm T339.heap vb_330 := Safe.keep Kq339 (allS Sf_om_337 (allS Sf_wq_336_337 all0)) R337.1 Sf_vb_330_337
            have Sf_om_340 : Safe Z own_EL T325.vm T339.heap om := Safe.keep Kq339 (allS Sf_om_337 (allS Sf_wq_336_337 all0)) R337.1 Sf_om_337
            have Sf_wq_336_340 : Safe Z own_EL T325.vm T339.heap wq_336 := Safe.keep Kq339 (allS Sf_om_337 (allS Sf_wq_336_337 all0)) R337.1 Sf_wq_336_337
            have R340 : CHr Z own_EL s.vm h0 T325.vm T339.heap := CHr.trans R337 (CHr.keep Kq339 (allS Sf_om_337 (allS Sf_wq_336_337 all0)) R337.1)
            have hk340 : _ ≤ T339.heap.size := Nat.le_trans hk337 (Kq339.1)
            have E_os_341 : Exa Z T339.heap os "java/lang/String" := Exa.keep E_os_338 Kq339
            have A_oc_341 : Arv Z T339.heap oc cA322 .char (0 : Int32) [] (.int (0 : Int32)) := Arv.keep A_oc_338 Kq339 (ninS ne_oc_om (ninS ne_oc_wq_336 nin0))
            have F_value_os_341 : Fld Z T339.heap os "java/lang/String" "value" "[B" (.ref vb_325) := Fld.keep F_value_os_338 Kq339 (ninS ne_os_om (ninS ne_os_wq_336 nin0))
            have F_coder_os_341 : Fld Z T339.heap os "java/lang/String" "coder" "B" (.int (0 : Int32)) := Fld.keep F_coder_os_338 Kq339 (ninS ne_os_om (ninS ne_os_wq_336 nin0))
            have A_vb_325_341 : Arv Z T339.heap vb_325 kb_325 .byte (Int32.ofNat 0) (List.replicate 0 (.int (0 : Int32))) (.int (0 : Int32)) := Arv.keep A_vb_325_338 Kq339 (ninS ne_vb_325_om (ninS ne_vb_325_wq_336 nin0))
            have E_b_327_341 : Exa Z T339.heap b_327 "java/lang/String" := Exa.keep E_b_327_338 Kq339
            have F_value_b_327_341 : Fld Z T339.heap b_327 "java/lang/String" "value" "[B" (.ref vb_327) := Fld.keep F_value_b_327_338 Kq339 (ninS ne_b_327_om (ninS ne_b_327_wq_336 nin0))
            have F_coder_b_327_341 : Fld Z T339.heap b_327 "java/lang/String" "coder" "B" (.int (0 : Int32)) := Fld.keep F_coder_b_327_338 Kq339 (ninS ne_b_327_om (ninS ne_b_327_wq_336 nin0))
            have A_vb_327_341 : Arv Z T339.heap vb_327 kb_327 .byte (1 : Int32) ([(.int c1.toInt8.toInt32)]) (.int (0 : Int32)) := Arv.keep A_vb_327_338 Kq339 (ninS ne_vb_327_om (ninS ne_vb_327_wq_336 nin0))
            have E_b_330_341 : Exa Z T339.heap b_330 "java/lang/String" := Exa.keep E_b_330_338 Kq339
            have F_value_b_330_341 : Fld Z T339.heap b_330 "java/lang/String" "value" "[B" (.ref vb_330) := Fld.keep F_value_b_330_338 Kq339 (ninS ne_b_330_om (ninS ne_b_330_wq_336 nin0))
            have F_coder_b_330_341 : Fld Z T339.heap b_330 "java/lang/String" "coder" "B" (.int (0 : Int32)) := Fld.keep F_coder_b_330_338 Kq339 (ninS ne_b_330_om (ninS ne_b_330_wq_336 nin0))
            have A_vb_330_341 : Arv Z T339.heap vb_330 kb_330 .byte (1 : Int32) ([(.int c2.toInt8.toInt32)]) (.int (0 : Int32)) := Arv.keep A_vb_330_338 Kq339 (ninS ne_vb_330_om (ninS ne_vb_330_wq_336 nin0))
            have E_om_341 : Exa Z T339.heap om "com/example/anagrafe/anagrafe/atom/Markup" := Exa.keep f336_1 Kq339
            have K339 : Keep h0 T339.heap [] := Keep.trans K336 Kq339 (allS (Or.inr mh_om) (allS (Or.inr mh_wq_336) all0))
            have Zs339 : n0 ≤ T339.heap.size := Nat.le_trans Zs336 Kq339.1
            show Go p e below _ (T339.setTop (mkF m 111 #[.val (.int p1), .val (.int p2), .val (.int p3), .val (.int p4), .val (.int f1), .val (.int f2), .val (.int f3), .val (.int (Int32.ofNat 0)), .val (.int c1), .val (.int c2), .val (.ref os), .val (.ref b_327), .val (.ref b_330), .val (.ref om), .val (.int (0 : Int32)), .unset, .unset, .unset, .unset] []))
            refine g_iload X339 hx (hb hby at_111) 113 rfl (v := (Int32.ofNat 0)) rfl ?_
            refine g_istore X339 hx (hb hby at_113) 115 rfl #[.val (.int p1), .val (.int p2), .val (.int p3), .val (.int p4), .val (.int f1), .val (.int f2), .val (.int f3), .val (.int (Int32.ofNat 0)), .val (.int c1), .val (.int c2), .val (.ref os), .val (.ref b_327), .val (.ref b_330), .val (.ref om), .val (.int (Int32.ofNat 0)), .unset, .unset, .unset, .unset] rfl ?_
            exact q115 b_327 vb_327 b_330 vb_330 om wq_336 kb_327 kb_330 kq_336 16384 0 (.val (.ref os)) (own_mono X339 (by decide) (by decide)) rfl N339 K339 Zs339 hS325 hk340 hZ hown R340 E_b_327_341 F_value_b_327_341 F_coder_b_327_341 A_vb_327_341 E_b_330_341 F_value_b_330_341 F_coder_b_330_341 A_vb_330_341 f339_0 f339_1 f339_2 f339_3 Sf_wq_336_340 g_om g_wq_336 mh_om mh_wq_336 ne_om_wq_336 (Ne.symm ne_b_327_om) (Ne.symm ne_vb_327_om) (Ne.symm ne_b_330_om) (Ne.symm ne_vb_330_om) (Ne.symm ne_b_327_wq_336) (Ne.symm ne_vb_327_wq_336) (Ne.symm ne_b_330_wq_336) (Ne.symm ne_vb_330_wq_336) (by decide) (by decide)
        · have hpos : 0 < nz := by omega
          obtain ⟨_, _, ⟨T342, L342, k342, n342⟩, -, X342, ⟨Lc342, hQ342, l342, y342, z342⟩, st342⟩ := X322.specialBack hx (y := (⟨"java/lang/String", "<init>", "([C)V"⟩ : MethodName)) rfl hown (mvT hZ (hw _ (List.mem_of_getElem? (i := 4) rfl))) (mvT hZ (hw _ (List.mem_of_getElem? (i := 5) rfl))) (mvT hZ (hw _ (List.mem_of_getElem? (i := 6) rfl))) (by decide) (backOf (W := 1) (rmsCz l Z a0 hw [] os oc s_COMPACT_STRINGS cA322 nz h322 n0 Zs322 (own_Sta_keep S_COMPACT_STRINGS K322 all0) E_os_324 g_os F_value_os_324 F_coder_os_324 Av_oc ne_os_oc hz_s_COMPACT_STRINGS hn hpos) hZ (hw _ (List.mem_of_getElem? (i := 6) rfl)) (hw _ (List.mem_of_getElem? (i := 2) rfl)) (by decide) (by decide)) (g := (mkF m 68 #[.val (.int p1), .val (.int p2), .val (.int p3), .val (.int p4), .val (.int f1), .val (.int f2), .val (.int f3), .val (.int (Int32.ofNat nz)), .val (.int c1), .val (.int c2), .unset, .unset, .unset, .unset, .unset, .unset, .unset, .unset, .unset] [(.ref oc), (.ref os), (.ref os)])) rfl (by rw [hml]; rfl) (Steps.refl _) (a := os) (argsL := [(.ref oc)]) (rest := [(.ref os)]) (lenOf own_pd31 rfl) rfl (by show 2 * 0 + _ ≤ _; exact Nat.le_of_eq rfl) (hb hby at_68) (fun _ _ => ⟨rfl, e322, (by decide : 2 + 1 ≤ _), (by decide : 4099 + 4095 ≤ _)⟩)
          dsimp only [Pt.U, Pt.locs, Pt.cells, Pt.slots] at X342 l342 y342 z342 st342 hQ342
          subst l342 y342 z342
          obtain ⟨vb_342, kb_342, rfl, Nq342, Kq342, f342_0, f342_1, f342_2, f342_3, f342_4, f342_5⟩ := hQ342
          refine Go.tr st342 ?_
          have N342 := Fr.app N0 Nq342
          have Sf_vb_342 : Safe Z own_EL s.vm h322 vb_342 := Safe.new f342_0
          have Sf_os_343 : Safe Z own_EL s.vm T342.heap os := Safe.keep Kq342 (allS Sf_os_323 all0) R323.1 Sf_os_323
          have Sf_oc_343 : Safe Z own_EL s.vm T342.heap oc := Safe.keep Kq342 (allS Sf_os_323 all0) R323.1 Sf_oc_323
          have Sf_vb_342_343 : Safe Z own_EL s.vm T342.heap vb_342 := Safe.keep Kq342 (allS Sf_os_323 all0) R323.1 Sf_vb_342
          have R343 : CHr Z own_EL s.vm h0 s.vm T342.heap := CHr.trans R323 (CHr.keep Kq342 (allS Sf_os_323 all0) R323.1)
          have hk343 : _ ≤ T342.heap.size := Nat.le_trans hk323 (Kq342.1)
          have E_os_344 : Exa Z T342.heap os "java/lang/String" := Exa.keep E_os_324 Kq342
          have A_oc_344 : Arv Z T342.heap oc cA322 .char (Int32.ofNat nz) (List.replicate nz (.int (0 : Int32))) (.int (0 : Int32)) := Arv.keep Av_oc Kq342 (ninS (Ne.symm ne_os_oc) nin0)
          have ne_os_vb_342 : os ≠ vb_342 := Nat.ne_of_lt (Nat.lt_of_lt_of_le E_os_324.lt f342_0)
          have ne_oc_vb_342 : oc ≠ vb_342 := Nat.ne_of_lt (Nat.lt_of_lt_of_le Av_oc.lt f342_0)
          have g_vb_342 : n0 ≤ vb_342 := Nat.le_trans Zs322 f342_0
          have mh_vb_342 : h0.size ≤ vb_342 := Nat.le_trans K322.1 f342_0
          have K342 : Keep h0 T342.heap [] := Keep.trans K322 Kq342 (allS (Or.inr mh_os) all0)
          have Zs342 : n0 ≤ T342.heap.size := Nat.le_trans Zs322 Kq342.1
          show Go p e below _ (T342.setTop (mkF m 71 #[.val (.int p1), .val (.int p2), .val (.int p3), .val (.int p4), .val (.int f1), .val (.int f2), .val (.int f3), .val (.int (Int32.ofNat nz)), .val (.int c1), .val (.int c2), .unset, .unset, .unset, .unset, .unset, .unset, .unset, .unset, .unset] [(.ref os)]))
          refine g_astore X342 hx (hb hby at_71) 73 rfl rfl #[.val (.int p1), .val (.int p2), .val (.int p3), .val (.int p4), .val (.int f1), .val (.int f2), .val (.int f3), .val (.int (Int32.ofNat nz)), .val (.int c1), .val (.int c2), .val (.ref os), .unset, .unset, .unset, .unset, .unset, .unset, .unset, .unset] rfl ?_
          refine g_iload X342 hx (hb hby at_73) 75 rfl (v := c1) rfl ?_
          obtain ⟨_, _, ⟨T345, L345, k345, n345⟩, -, X345, ⟨Lc345, hQ345, l345, y345, z345⟩, st345⟩ := Jvm.LawKit.callS X342 hx (y := (⟨"java/lang/String", "valueOf", "(C)Ljava/lang/String;"⟩ : MethodName)) hown (mvT hZ (hw _ (List.mem_of_getElem? (i := 30) rfl))) (mvT hZ (hw _ (List.mem_of_getElem? (i := 31) rfl))) (mvT hZ (hw _ (List.mem_of_getElem? (i := 2) rfl))) (mvT hZ (hw _ (List.mem_of_getElem? (i := 32) rfl))) (by decide) (backOf (W := 0) (rm7 l Z a0 hw [] c1 s_COMPACT_STRINGS T342.heap n0 Zs342 (own_Sta_keep S_COMPACT_STRINGS K342 all0) hz_s_COMPACT_STRINGS (e_c1 ▸ own_ch7 p3)) hZ (hw _ (List.mem_of_getElem? (i := 32) rfl)) (hw _ (List.mem_of_getElem? (i := 2) rfl)) (by decide) (by decide)) (g := (mkF m 75 #[.val (.int p1), .val (.int p2), .val (.int p3), .val (.int p4), .val (.int f1), .val (.int f2), .val (.int f3), .val (.int (Int32.ofNat nz)), .val (.int c1), .val (.int c2), .val (.ref os), .unset, .unset, .unset, .unset, .unset, .unset, .unset, .unset] [(.int c1)])) rfl (by rw [hml]; rfl) (argsL := [(.int c1)]) (rest := []) (lenOf own_pd32 rfl) rfl (by show 2 * 0 + _ ≤ _; exact Nat.le_of_eq rfl) (hb hby at_75) (fun _ _ => ⟨rfl, rfl, (by decide : 3 + 2 ≤ _), (by decide : 8194 + 5 ≤ _)⟩)
          dsimp only [Pt.U, Pt.locs, Pt.cells, Pt.slots] at X345 l345 y345 z345 st345 hQ345
          subst l345 y345 z345
          obtain ⟨b_345, vb_345, kb_345, rfl, Nq345, Kq345, f345_0, f345_1, f345_2, f345_3, f345_4, f345_5, f345_6⟩ := hQ345
          refine Go.st st345 ?_
          have N345 := Fr.app N342 Nq345
          have Sf_b_345 : Safe Z own_EL s.vm T342.heap b_345 := Safe.new f345_0
          have Sf_vb_345 : Safe Z own_EL s.vm T342.heap vb_345 := Safe.new f345_1
          have Sf_os_346 : Safe Z own_EL s.vm T345.heap os := Safe.keep Kq345 all0 R343.1 Sf_os_343
          have Sf_oc_346 : Safe Z own_EL s.vm T345.heap oc := Safe.keep Kq345 all0 R343.1 Sf_oc_343
          have Sf_vb_342_346 : Safe Z own_EL s.vm T345.heap vb_342 := Safe.keep Kq345 all0 R343.1 Sf_vb_342_343
          have Sf_b_345_346 : Safe Z own_EL s.vm T345.heap b_345 := Safe.keep Kq345 all0 R343.1 Sf_b_345
          have Sf_vb_345_346 : Safe Z own_EL s.vm T345.heap vb_345 := Safe.keep Kq345 all0 R343.1 Sf_vb_345
          have R346 : CHr Z own_EL s.vm h0 s.vm T345.heap := CHr.trans R343 (CHr.keep Kq345 all0 R343.1)
          have hk346 : _ ≤ T345.heap.size := Nat.le_trans hk343 (Kq345.1)
          have E_os_347 : Exa Z T345.heap os "java/lang/String" := Exa.keep f342_1 Kq345
          have A_oc_347 : Arv Z T345.heap oc cA322 .char (Int32.ofNat nz) (List.replicate nz (.int (0 : Int32))) (.int (0 : Int32)) := Arv.keep A_oc_344 Kq345 nin0
          have F_value_os_347 : Fld Z T345.heap os "java/lang/String" "value" "[B" (.ref vb_342) := Fld.keep f342_2 Kq345 nin0
          have F_coder_os_347 : Fld Z T345.heap os "java/lang/String" "coder" "B" (.int (0 : Int32)) := Fld.keep f342_3 Kq345 nin0
          have E_vb_342_347 : Exa Z T345.heap vb_342 "[B" := Exa.keep f342_4 Kq345
          have A_vb_342_347 : Arv Z T345.heap vb_342 kb_342 .byte (Int32.ofNat nz) (List.replicate nz (.int (0 : Int32))) (.int (0 : Int32)) := Arv.keep f342_5 Kq345 nin0
          have ne_os_b_345 : os ≠ b_345 := Nat.ne_of_lt (Nat.lt_of_lt_of_le f342_1.lt f345_0)
          have ne_oc_b_345 : oc ≠ b_345 := Nat.ne_of_lt (Nat.lt_of_lt_of_le A_oc_344.lt f345_0)
          have ne_vb_342_b_345 : vb_342 ≠ b_345 := Nat.ne_of_lt (Nat.lt_of_lt_of_le f342_4.lt f345_0)
          have g_b_345 : n0 ≤ b_345 := Nat.le_trans Zs342 f345_0
          have mh_b_345 : h0.size ≤ b_345 := Nat.le_trans K342.1 f345_0
          have ne_os_vb_345 : os ≠ vb_345 := Nat.ne_of_lt (Nat.lt_of_lt_of_le f342_1.lt f345_1)
          have ne_oc_vb_345 : oc ≠ vb_345 := Nat.ne_of_lt (Nat.lt_of_lt_of_le A_oc_344.lt f345_1)
          have ne_vb_342_vb_345 : vb_342 ≠ vb_345 := Nat.ne_of_lt (Nat.lt_of_lt_of_le f342_4.lt f345_1)
          have g_vb_345 : n0 ≤ vb_345 := Nat.le_trans Zs342 f345_1
          have mh_vb_345 : h0.size ≤ vb_345 := Nat.le_trans K342.1 f345_1
          have K345 : Keep h0 T345.heap [] := Keep.trans K342 Kq345 all0
          have Zs345 : n0 ≤ T345.heap.size := Nat.le_trans Zs342 Kq345.1
          show Go p e below _ (T345.setTop (mkF m 78 #[.val (.int p1), .val (.int p2), .val (.int p3), .val (.int p4), .val (.int f1), .val (.int f2), .val (.int f3), .val (.int (Int32.ofNat nz)), .val (.int c1), .val (.int c2), .val (.ref os), .unset, .unset, .unset, .unset, .unset, .unset, .unset, .unset] [(.ref b_345)]))
          refine g_astore X345 hx (hb hby at_78) 80 rfl rfl #[.val (.int p1), .val (.int p2), .val (.int p3), .val (.int p4), .val (.int f1), .val (.int f2), .val (.int f3), .val (.int (Int32.ofNat nz)), .val (.int c1), .val (.int c2), .val (.ref os), .val (.ref b_345), .unset, .unset, .unset, .unset, .unset, .unset, .unset] rfl ?_
          refine g_iload X345 hx (hb hby at_80) 82 rfl (v := c2) rfl ?_
          obtain ⟨_, _, ⟨T348, L348, k348, n348⟩, -, X348, ⟨Lc348, hQ348, l348, y348, z348⟩, st348⟩ := Jvm.LawKit.callS X345 hx (y := (⟨"java/lang/String", "valueOf", "(C)Ljava/lang/String;"⟩ : MethodName)) hown (mvT hZ (hw _ (List.mem_of_getElem? (i := 30) rfl))) (mvT hZ (hw _ (List.mem_of_getElem? (i := 31) rfl))) (mvT hZ (hw _ (List.mem_of_getElem? (i := 2) rfl))) (mvT hZ (hw _ (List.mem_of_getElem? (i := 32) rfl))) (by decide) (backOf (W := 0) (rm7 l Z a0 hw [] c2 s_COMPACT_STRINGS T345.heap n0 Zs345 (own_Sta_keep S_COMPACT_STRINGS K345 all0) hz_s_COMPACT_STRINGS (e_c2 ▸ own_ch7 p4)) hZ (hw _ (List.mem_of_getElem? (i := 32) rfl)) (hw _ (List.mem_of_getElem? (i := 2) rfl)) (by decide) (by decide)) (g := (mkF m 82 #[.val (.int p1), .val (.int p2), .val (.int p3), .val (.int p4), .val (.int f1), .val (.int f2), .val (.int f3), .val (.int (Int32.ofNat nz)), .val (.int c1), .val (.int c2), .val (.ref os), .val (.ref b_345), .unset, .unset, .unset, .unset, .unset, .unset, .unset] [(.int c2)])) rfl (by rw [hml]; rfl) (argsL := [(.int c2)]) (rest := []) (lenOf own_pd32 rfl) rfl (by show 2 * 0 + _ ≤ _; exact Nat.le_of_eq rfl) (hb hby at_82) (fun _ _ => ⟨rfl, rfl, (by decide : 5 + 2 ≤ _), (by decide : 8199 + 5 ≤ _)⟩)
          dsimp only [Pt.U, Pt.locs, Pt.cells, Pt.slots] at X348 l348 y348 z348 st348 hQ348
          subst l348 y348 z348
          obtain ⟨b_348, vb_348, kb_348, rfl, Nq348, Kq348, f348_0, f348_1, f348_2, f348_3, f348_4, f348_5, f348_6⟩ := hQ348
          refine Go.st st348 ?_
          have N348 := Fr.app N345 Nq348
          have Sf_b_348 : Safe Z own_EL s.vm T345.heap b_348 := Safe.new f348_0
          have Sf_vb_348 : Safe Z own_EL s.vm T345.heap vb_348 := Safe.new f348_1
          have Sf_os_349 : Safe Z own_EL s.vm T348.heap os := Safe.keep Kq348 all0 R346.1 Sf_os_346
          have Sf_oc_349 : Safe Z own_EL s.vm T348.heap oc := Safe.keep Kq348 all0 R346.1 Sf_oc_346
          have Sf_vb_342_349 : Safe Z own_EL s.vm T348.heap vb_342 := Safe.keep Kq348 all0 R346.1 Sf_vb_342_346
          have Sf_b_345_349 : Safe Z own_EL s.vm T348.heap b_345 := Safe.keep Kq348 all0 R346.1 Sf_b_345_346
          have Sf_vb_345_349 : Safe Z own_EL s.vm T348.heap vb_345 := Safe.keep Kq348 all0 R346.1 Sf_vb_345_346
          have Sf_b_348_349 : Safe Z own_EL s.vm T348.heap b_348 := Safe.keep Kq348 all0 R346.1 Sf_b_348
          have Sf_vb_348_349 : Safe Z own_EL s.vm T348.heap vb_348 := Safe.keep Kq348 all0 R346.1 Sf_vb_348
          have R349 : CHr Z own_EL s.vm h0 s.vm T348.heap := CHr.trans R346 (CHr.keep Kq348 all0 R346.1)
          have hk349 : _ ≤ T348.heap.size := Nat.le_trans hk346 (Kq348.1)
          have E_os_350 : Exa Z T348.heap os "java/lang/String" := Exa.keep E_os_347 Kq348
          have A_oc_350 : Arv Z T348.heap oc cA322 .char (Int32.ofNat nz) (List.replicate nz (.int (0 : Int32))) (.int (0 : Int32)) := Arv.keep A_oc_347 Kq348 nin0
          have F_value_os_350 : Fld Z T348.heap os "java/lang/String" "value" "[B" (.ref vb_342) := Fld.keep F_value_os_347 Kq348 nin0
          have F_coder_os_350 : Fld Z T348.heap os "java/lang/String" "coder" "B" (.int (0 : Int32)) := Fld.keep F_coder_os_347 Kq348 nin0
          have E_vb_342_350 : Exa Z T348.heap vb_342 "[B" := Exa.keep E_vb_342_347 Kq348
          have A_vb_342_350 : Arv Z T348.heap vb_342 kb_342 .byte (Int32.ofNat nz) (List.replicate nz (.int (0 : Int32))) (.int (0 : Int32)) := Arv.keep A_vb_342_347 Kq348 nin0
          have E_b_345_350 : Exa Z T348.heap b_345 "java/lang/String" := Exa.keep f345_3 Kq348
          have F_value_b_345_350 : Fld Z T348.heap b_345 "java/lang/String" "value" "[B" (.ref vb_345) := Fld.keep f345_4 Kq348 nin0
          have F_coder_b_345_350 : Fld Z T348.heap b_345 "java/lang/String" "coder" "B" (.int (0 : Int32)) := Fld.keep f345_5 Kq348 nin0
          have A_vb_345_350 : Arv Z T348.heap vb_345 kb_345 .byte (1 : Int32) ([(.int c1.toInt8.toInt32)]) (.int (0 : Int32)) := Arv.keep f345_6 Kq348 nin0
          have ne_os_b_348 : os ≠ b_348 := Nat.ne_of_lt (Nat.lt_of_lt_of_le E_os_347.lt f348_0)
          have ne_oc_b_348 : oc ≠ b_348 := Nat.ne_of_lt (Nat.lt_of_lt_of_le A_oc_347.lt f348_0)
          have ne_vb_342_b_348 : vb_342 ≠ b_348 := Nat.ne_of_lt (Nat.lt_of_lt_of_le E_vb_342_347.lt f348_0)
          have ne_b_345_b_348 : b_345 ≠ b_348 := Nat.ne_of_lt (Nat.lt_of_lt_of_le f345_3.lt f348_0)
          have ne_vb_345_b_348 : vb_345 ≠ b_348 := Nat.ne_of_lt (Nat.lt_of_lt_of_le f345_6.lt f348_0)
          have g_b_348 : n0 ≤ b_348 := Nat.le_trans Zs345 f348_0
          have mh_b_348 : h0.size ≤ b_348 := Nat.le_trans K345.1 f348_0
          have ne_os_vb_348 : os ≠ vb_348 := Nat.ne_of_lt (Nat.lt_of_lt_of_le E_os_347.lt f348_1)
          have ne_oc_vb_348 : oc ≠ vb_348 := Nat.ne_of_lt (Nat.lt_of_lt_of_le A_oc_347.lt f348_1)
          have ne_vb_342_vb_348 : vb_342 ≠ vb_348 := Nat.ne_of_lt (Nat.lt_of_lt_of_le E_vb_342_347.lt f348_1)
          have ne_b_345_vb_348 : b_345 ≠ vb_348 := Nat.ne_of_lt (Nat.lt_of_lt_of_le f345_3.lt f348_1)
          have ne_vb_345_vb_348 : vb_345 ≠ vb_348 := Nat.ne_of_lt (Nat.lt_of_lt_of_le f345_6.lt f348_1)
          have g_vb_348 : n0 ≤ vb_348 := Nat.le_trans Zs345 f348_1
          have mh_vb_348 : h0.size ≤ vb_348 := Nat.le_trans K345.1 f348_1
          have K348 : Keep h0 T348.heap [] := Keep.trans K345 Kq348 all0
          have Zs348 : n0 ≤ T348.heap.size := Nat.le_trans Zs345 Kq348.1
          show Go p e below _ (T348.setTop (mkF m 85 #[.val (.int p1), .val (.int p2), .val (.int p3), .val (.int p4), .val (.int f1), .val (.int f2), .val (.int f3), .val (.int (Int32.ofNat nz)), .val (.int c1), .val (.int c2), .val (.ref os), .val (.ref b_345), .unset, .unset, .unset, .unset, .unset, .unset, .unset] [(.ref b_348)]))
          refine g_astore X348 hx (hb hby at_85) 87 rfl rfl #[.val (.int p1), .val (.int p2), .val (.int p3), .val (.int p4), .val (.int f1), .val (.int f2), .val (.int f3), .val (.int (Int32.ofNat nz)), .val (.int c1), .val (.int c2), .val (.ref os), .val (.ref b_345), .val (.ref b_348), .unset, .unset, .unset, .unset, .unset, .unset] rfl ?_
          obtain ⟨T351, h351, X351, e351, E351, A351, D351, -, st351⟩ := newO X348 hx hZ hown (hw _ (List.mem_of_getElem? (i := 44) rfl)) (hw _ (List.mem_of_getElem? (i := 45) rfl)) (hw _ (List.mem_of_getElem? (i := 46) rfl)) rfl (g := (mkF m 87 #[.val (.int p1), .val (.int p2), .val (.int p3), .val (.int p4), .val (.int f1), .val (.int f2), .val (.int f3), .val (.int (Int32.ofNat nz)), .val (.int c1), .val (.int c2), .val (.ref os), .val (.ref b_345), .val (.ref b_348), .unset, .unset, .unset, .unset, .unset, .unset] [])) rfl (hb hby at_87) (by decide) (by decide)
          refine Go.st st351 ?_
          obtain ⟨om, q351⟩ : ∃ z, z = T348.heap.size := ⟨_, rfl⟩
          rw [← q351] at A351 D351 ⊢
          have ne_os_om : os ≠ om := Nat.ne_of_lt (Nat.lt_of_lt_of_eq E_os_350.lt q351.symm)
          have ne_oc_om : oc ≠ om := Nat.ne_of_lt (Nat.lt_of_lt_of_eq A_oc_350.lt q351.symm)
          have ne_vb_342_om : vb_342 ≠ om := Nat.ne_of_lt (Nat.lt_of_lt_of_eq E_vb_342_350.lt q351.symm)
          have ne_b_345_om : b_345 ≠ om := Nat.ne_of_lt (Nat.lt_of_lt_of_eq E_b_345_350.lt q351.symm)
          have ne_vb_345_om : vb_345 ≠ om := Nat.ne_of_lt (Nat.lt_of_lt_of_eq A_vb_345_350.lt q351.symm)
          have ne_b_348_om : b_348 ≠ om := Nat.ne_of_lt (Nat.lt_of_lt_of_eq f348_3.lt q351.symm)
          have ne_vb_348_om : vb_348 ≠ om := Nat.ne_of_lt (Nat.lt_of_lt_of_eq f348_6.lt q351.symm)
          have g_om : n0 ≤ om := Nat.le_trans Zs348 (Nat.le_of_eq q351.symm)
          have Sf_om : Safe Z own_EL s.vm T348.heap om := Safe.new (Nat.le_of_eq q351.symm)
          have mh_om : h0.size ≤ om := Nat.le_trans K348.1 (Nat.le_of_eq q351.symm)
          have Sf_os_352 : Safe Z own_EL s.vm h351 os := Safe.ext E351 R349.1 Sf_os_349
          have Sf_oc_352 : Safe Z own_EL s.vm h351 oc := Safe.ext E351 R349.1 Sf_oc_349
          have Sf_vb_342_352 : Safe Z own_EL s.vm h351 vb_342 := Safe.ext E351 R349.1 Sf_vb_342_349
          have Sf_b_345_352 : Safe Z own_EL s.vm h351 b_345 := Safe.ext E351 R349.1 Sf_b_345_349
          have Sf_vb_345_352 : Safe Z own_EL s.vm h351 vb_345 := Safe.ext E351 R349.1 Sf_vb_345_349
          have Sf_b_348_352 : Safe Z own_EL s.vm h351 b_348 := Safe.ext E351 R349.1 Sf_b_348_349
          have Sf_vb_348_352 : Safe Z own_EL s.vm h351 vb_348 := Safe.ext E351 R349.1 Sf_vb_348_349
          have Sf_om_352 : Safe Z own_EL s.vm h351 om := Safe.ext E351 R349.1 Sf_om
          have R352 : CHr Z own_EL s.vm h0 s.vm h351 := CHr.trans R349 (CHr.ext E351 R349.1)
          have hk352 : _ ≤ h351.size := Nat.le_trans hk349 (E351.1)
          have E_os_353 : Exa Z h351 os "java/lang/String" := Exa.ext E351 E_os_350
          have A_oc_353 : Arv Z h351 oc cA322 .char (Int32.ofNat nz) (List.replicate nz (.int (0 : Int32))) (.int (0 : Int32)) := Arv.ext A_oc_350 E351
          have F_value_os_353 : Fld Z h351 os "java/lang/String" "value" "[B" (.ref vb_342) := Fld.ext E351 F_value_os_350
          have F_coder_os_353 : Fld Z h351 os "java/lang/String" "coder" "B" (.int (0 : Int32)) := Fld.ext E351 F_coder_os_350
          have E_vb_342_353 : Exa Z h351 vb_342 "[B" := Exa.ext E351 E_vb_342_350
          have A_vb_342_353 : Arv Z h351 vb_342 kb_342 .byte (Int32.ofNat nz) (List.replicate nz (.int (0 : Int32))) (.int (0 : Int32)) := Arv.ext A_vb_342_350 E351
          have E_b_345_353 : Exa Z h351 b_345 "java/lang/String" := Exa.ext E351 E_b_345_350
          have F_value_b_345_353 : Fld Z h351 b_345 "java/lang/String" "value" "[B" (.ref vb_345) := Fld.ext E351 F_value_b_345_350
          have F_coder_b_345_353 : Fld Z h351 b_345 "java/lang/String" "coder" "B" (.int (0 : Int32)) := Fld.ext E351 F_coder_b_345_350
          have A_vb_345_353 : Arv Z h351 vb_345 kb_345 .byte (1 : Int32) ([(.int c1.toInt8.toInt32)]) (.int (0 : Int32)) := Arv.ext A_vb_345_350 E351
          have E_b_348_353 : Exa Z h351 b_348 "java/lang/String" := Exa.ext E351 f348_3
          have F_value_b_348_353 : Fld Z h351 b_348 "java/lang/String" "value" "[B" (.ref vb_348) := Fld.ext E351 f348_4
          have F_coder_b_348_353 : Fld Z h351 b_348 "java/lang/String" "coder" "B" (.int (0 : Int32)) := Fld.ext E351 f348_5
          have A_vb_348_353 : Arv Z h351 vb_348 kb_348 .byte (1 : Int32) ([(.int c2.toInt8.toInt32)]) (.int (0 : Int32)) := Arv.ext f348_6 E351
          have F_bytes_351 : Fld Z h351 om "com/example/anagrafe/anagrafe/atom/Markup" "bytes" "[B" .null := D351 (Or.inl (hw _ (List.mem_of_getElem? (i := 52) rfl))) (ty := (.array .byte)) (by decide)
          have F_size_351 : Fld Z h351 om "com/example/anagrafe/anagrafe/atom/Markup" "size" "I" (.int (0 : Int32)) := D351 (Or.inl (hw _ (List.mem_of_getElem? (i := 63) rfl))) (ty := .int) (by decide)
          have K351 : Keep h0 h351 [] := Keep.ext K348 E351
          have Zs351 : n0 ≤ h351.size := Nat.le_trans Zs348 E351.1
          show Go p e below _ (T351.setTop (mkF m 90 #[.val (.int p1), .val (.int p2), .val (.int p3), .val (.int p4), .val (.int f1), .val (.int f2), .val (.int f3), .val (.int (Int32.ofNat nz)), .val (.int c1), .val (.int c2), .val (.ref os), .val (.ref b_345), .val (.ref b_348), .unset, .unset, .unset, .unset, .unset, .unset] [(.ref om)]))
          refine g_dup X351 hx (hb hby at_90) 91 rfl rfl ?_
          obtain ⟨_, _, ⟨T354, L354, k354, n354⟩, -, X354, ⟨Lc354, hQ354, l354, y354, z354⟩, st354⟩ := X351.specialBack hx (y := (⟨"com/example/anagrafe/anagrafe/atom/Markup", "<init>", "()V"⟩ : MethodName)) rfl hown (mvT hZ (hw _ (List.mem_of_getElem? (i := 47) rfl))) (mvT hZ (hw _ (List.mem_of_getElem? (i := 48) rfl))) (mvT hZ (hw _ (List.mem_of_getElem? (i := 49) rfl))) (by decide) (backOf (W := 1) (rm11 l Z a0 hw [] om .null h351 n0 Zs351 A351 g_om F_bytes_351 F_size_351) hZ (hw _ (List.mem_of_getElem? (i := 49) rfl)) (hw _ (List.mem_of_getElem? (i := 46) rfl)) (by decide) (by decide)) (g := (mkF m 91 #[.val (.int p1), .val (.int p2), .val (.int p3), .val (.int p4), .val (.int f1), .val (.int f2), .val (.int f3), .val (.int (Int32.ofNat nz)), .val (.int c1), .val (.int c2), .val (.ref os), .val (.ref b_345), .val (.ref b_348), .unset, .unset, .unset, .unset, .unset, .unset] [(.ref om), (.ref om)])) rfl (by rw [hml]; rfl) (Steps.refl _) (a := om) (argsL := []) (rest := [(.ref om)]) (lenOf own_pd28 rfl) rfl (by show 2 * 0 + _ ≤ _; exact Nat.le_of_eq rfl) (hb hby at_91) (fun _ _ => ⟨rfl, e351, (by decide : 8 + 1 ≤ _), (by decide : 8206 + 16384 ≤ _)⟩)
          dsimp only [Pt.U, Pt.locs, Pt.cells, Pt.slots] at X354 l354 y354 z354 st354 hQ354
          subst l354 y354 z354
          obtain ⟨wq_354, kq_354, rfl, Nq354, Kq354, f354_0, f354_1, f354_2, f354_3, f354_4⟩ := hQ354
          refine Go.tr st354 ?_
          have N354 := Fr.app N348 Nq354
          have Sf_wq_354 : Safe Z own_EL s.vm h351 wq_354 := Safe.new f354_0
          have Sf_os_355 : Safe Z own_EL s.vm T354.heap os := Safe.keep Kq354 (allS Sf_om_352 all0) R352.1 Sf_os_352
          have Sf_oc_355 : Safe Z own_EL s.vm T354.heap oc := Safe.keep Kq354 (allS Sf_om_352 all0) R352.1 Sf_oc_352
          have Sf_vb_342_355 : Safe Z own_EL s.vm T354.heap vb_342 := Safe.keep Kq354 (allS Sf_om_352 all0) R352.1 Sf_vb_342_352
          have Sf_b_345_355 : Safe Z own_EL s.vm T354.heap b_345 := Safe.keep Kq354 (allS Sf_om_352 all0) R352.1 Sf_b_345_352
          have Sf_vb_345_355 : Safe Z own_EL s.vm T354.heap vb_345 := Safe.keep Kq354 (allS Sf_om_352 all0) R352.1 Sf_vb_345_352
          have Sf_b_348_355 : Safe Z own_EL s.vm T354.heap b_348 := Safe.keep Kq354 (allS Sf_om_352 all0) R352.1 Sf_b_348_352
          have Sf_vb_348_355 : Safe Z own_EL s.vm T354.heap vb_348 := Safe.keep Kq354 (allS Sf_om_352 all0) R352.1 Sf_vb_348_352
          have Sf_om_355 : Safe Z own_EL s.vm T354.heap om := Safe.keep Kq354 (allS Sf_om_352 all0) R352.1 Sf_om_352
          have Sf_wq_354_355 : Safe Z own_EL s.vm T354.heap wq_354 := Safe.keep Kq354 (allS Sf_om_352 all0) R352.1 Sf_wq_354
          have R355 : CHr Z own_EL s.vm h0 s.vm T354.heap := CHr.trans R352 (CHr.keep Kq354 (allS Sf_om_352 all0) R352.1)
          have hk355 : _ ≤ T354.heap.size := Nat.le_trans hk352 (Kq354.1)
          have E_os_356 : Exa Z T354.heap os "java/lang/String" := Exa.keep E_os_353 Kq354
          have A_oc_356 : Arv Z T354.heap oc cA322 .char (Int32.ofNat nz) (List.replicate nz (.int (0 : Int32))) (.int (0 : Int32)) := Arv.keep A_oc_353 Kq354 (ninS ne_oc_om nin0)
          have F_value_os_356 : Fld Z T354.heap os "java/lang/String" "value" "[B" (.ref vb_342) := Fld.keep F_value_os_353 Kq354 (ninS ne_os_om nin0)
          have F_coder_os_356 : Fld Z T354.heap os "java/lang/String" "coder" "B" (.int (0 : Int32)) := Fld.keep F_coder_os_353 Kq354 (ninS ne_os_om nin0)
          have E_vb_342_356 : Exa Z T354.heap vb_342 "[B" := Exa.keep E_vb_342_353 Kq354
          have A_vb_342_356 : Arv Z T354.heap vb_342 kb_342 .byte (Int32.ofNat nz) (List.replicate nz (.int (0 : Int32))) (.int (0 : Int32)) := Arv.keep A_vb_342_353 Kq354 (ninS ne_vb_342_om nin0)
          have E_b_345_356 : Exa Z T354.heap b_345 "java/lang/String" := Exa.keep E_b_345_353 Kq354
          have F_value_b_345_356 : Fld Z T354.heap b_345 "java/lang/String" "value" "[B" (.ref vb_345) := Fld.keep F_value_b_345_353 Kq354 (ninS ne_b_345_om nin0)
          have F_coder_b_345_356 : Fld Z T354.heap b_345 "java/lang/String" "coder" "B" (.int (0 : Int32)) := Fld.keep F_coder_b_345_353 Kq354 (ninS ne_b_345_om nin0)
          have A_vb_345_356 : Arv Z T354.heap vb_345 kb_345 .byte (1 : Int32) ([(.int c1.toInt8.toInt32)]) (.int (0 : Int32)) := Arv.keep A_vb_345_353 Kq354 (ninS ne_vb_345_om nin0)
          have E_b_348_356 : Exa Z T354.heap b_348 "java/lang/String" := Exa.keep E_b_348_353 Kq354
          have F_value_b_348_356 : Fld Z T354.heap b_348 "java/lang/String" "value" "[B" (.ref vb_348) := Fld.keep F_value_b_348_353 Kq354 (ninS ne_b_348_om nin0)
          have F_coder_b_348_356 : Fld Z T354.heap b_348 "java/lang/String" "coder" "B" (.int (0 : Int32)) := Fld.keep F_coder_b_348_353 Kq354 (ninS ne_b_348_om nin0)
          have A_vb_348_356 : Arv Z T354.heap vb_348 kb_348 .byte (1 : Int32) ([(.int c2.toInt8.toInt32)]) (.int (0 : Int32)) := Arv.keep A_vb_348_353 Kq354 (ninS ne_vb_348_om nin0)
          have E_om_356 : Exa Z T354.heap om "com/example/anagrafe/anagrafe/atom/Markup" := Exa.keep A351 Kq354
          have ne_os_wq_354 : os ≠ wq_354 := Nat.ne_of_lt (Nat.lt_of_lt_of_le E_os_353.lt f354_0)
          have ne_oc_wq_354 : oc ≠ wq_354 := Nat.ne_of_lt (Nat.lt_of_lt_of_le A_oc_353.lt f354_0)
          have ne_vb_342_wq_354 : vb_342 ≠ wq_354 := Nat.ne_of_lt (Nat.lt_of_lt_of_le E_vb_342_353.lt f354_0)
          have ne_b_345_wq_354 : b_345 ≠ wq_354 := Nat.ne_of_lt (Nat.lt_of_lt_of_le E_b_345_353.lt f354_0)
          have ne_vb_345_wq_354 : vb_345 ≠ wq_354 := Nat.ne_of_lt (Nat.lt_of_lt_of_le A_vb_345_353.lt f354_0)
          have ne_b_348_wq_354 : b_348 ≠ wq_354 := Nat.ne_of_lt (Nat.lt_of_lt_of_le E_b_348_353.lt f354_0)
          have ne_vb_348_wq_354 : vb_348 ≠ wq_354 := Nat.ne_of_lt (Nat.lt_of_lt_of_le A_vb_348_353.lt f354_0)
          have ne_om_wq_354 : om ≠ wq_354 := Nat.ne_of_lt (Nat.lt_of_lt_of_le A351.lt f354_0)
          have g_wq_354 : n0 ≤ wq_354 := Nat.le_trans Zs351 f354_0
          have mh_wq_354 : h0.size ≤ wq_354 := Nat.le_trans K351.1 f354_0
          have K354 : Keep h0 T354.heap [] := Keep.trans K351 Kq354 (allS (Or.inr mh_om) all0)
          have Zs354 : n0 ≤ T354.heap.size := Nat.le_trans Zs351 Kq354.1
          show Go p e below _ (T354.setTop (mkF m 94 #[.val (.int p1), .val (.int p2), .val (.int p3), .val (.int p4), .val (.int f1), .val (.int f2), .val (.int f3), .val (.int (Int32.ofNat nz)), .val (.int c1), .val (.int c2), .val (.ref os), .val (.ref b_345), .val (.ref b_348), .unset, .unset, .unset, .unset, .unset, .unset] [(.ref om)]))
          refine g_astore X354 hx (hb hby at_94) 96 rfl rfl #[.val (.int p1), .val (.int p2), .val (.int p3), .val (.int p4), .val (.int f1), .val (.int f2), .val (.int f3), .val (.int (Int32.ofNat nz)), .val (.int c1), .val (.int c2), .val (.ref os), .val (.ref b_345), .val (.ref b_348), .val (.ref om), .unset, .unset, .unset, .unset, .unset] rfl ?_
          refine g_iconst X354 hx (hb hby at_96) 97 rfl (0 : Int32) rfl ?_
          refine g_istore X354 hx (hb hby at_97) 99 rfl #[.val (.int p1), .val (.int p2), .val (.int p3), .val (.int p4), .val (.int f1), .val (.int f2), .val (.int f3), .val (.int (Int32.ofNat nz)), .val (.int c1), .val (.int c2), .val (.ref os), .val (.ref b_345), .val (.ref b_348), .val (.ref om), .val (.int (0 : Int32)), .unset, .unset, .unset, .unset] rfl ?_
          refine g_iload X354 hx (hb hby at_99) 101 rfl (v := f1) rfl ?_
          refine g_if_eq X354 hx (hb hby at_101) 115 104 (by decide) (by decide) rfl (fun hc101 => ?_) (fun hc101 => ?_)
          · exact q115 b_345 vb_345 b_348 vb_348 om wq_354 kb_345 kb_348 kq_354 16384 0 (.val (.ref os)) (own_mono X354 (by decide) (by decide)) rfl N354 K354 Zs354 hS0 hk355 hZ hown R355 E_b_345_356 F_value_b_345_356 F_coder_b_345_356 A_vb_345_356 E_b_348_356 F_value_b_348_356 F_coder_b_348_356 A_vb_348_356 f354_1 f354_2 f354_3 (Arv.pad f354_4 (pad_rep [] (.int (0 : Int32)) 0)) Sf_wq_354_355 g_om g_wq_354 mh_om mh_wq_354 ne_om_wq_354 (Ne.symm ne_b_345_om) (Ne.symm ne_vb_345_om) (Ne.symm ne_b_348_om) (Ne.symm ne_vb_348_om) (Ne.symm ne_b_345_wq_354) (Ne.symm ne_vb_345_wq_354) (Ne.symm ne_b_348_wq_354) (Ne.symm ne_vb_348_wq_354) (by decide) (by decide)
          · refine g_aload X354 hx (hb hby at_104) 106 rfl (v := (.ref om)) rfl rfl ?_
            refine g_aload X354 hx (hb hby at_106) 108 rfl (v := (.ref os)) rfl rfl ?_
            by_cases qs : nz < 16
            · obtain ⟨cq357, kq357, q357a, q357b, q357c⟩ := isOf hZ rfl f354_1
              obtain ⟨_, _, ⟨T357, L357, k357, n357⟩, -, X357, ⟨Lc357, hQ357, l357, y357, z357⟩, st357⟩ := X354.virtualBack hx (y := (⟨"com/example/anagrafe/anagrafe/atom/Markup", "text", "(Ljava/lang/String;)V"⟩ : MethodName)) (z := (⟨"com/example/anagrafe/anagrafe/atom/Markup", "text", "(Ljava/lang/String;)V"⟩ : MethodName)) hown (mvT hZ (hw _ (List.mem_of_getElem? (i := 81) rfl))) (mvT hZ (hw _ (List.mem_of_getElem? (i := 82) rfl))) (notFace_of_selects (args := #[]) (mvT hZ (hw _ (List.mem_of_getElem? (i := 84) rfl)))) (mvT hZ (hw _ (List.mem_of_getElem? (i := 84) rfl))) (mvT hZ (hw _ (List.mem_of_getElem? (i := 83) rfl))) (by decide) (backOf (W := 0) (rmtxs l Z a0 hw [] om os wq_354 kq_354 s_COMPACT_STRINGS s_SIOOBE_FORMATTER te eb ke ev vb_342 kb_342 nz T354.heap n0 Zs354 (own_Sta_keep S_COMPACT_STRINGS K354 all0) (own_Sta_keep S_SIOOBE_FORMATTER K354 all0) (own_Sta_keep S_TEXT K354 all0) f354_1 f354_2 f354_3 f354_4 g_om g_wq_354 ne_om_wq_354 E_os_356 F_value_os_356 F_coder_os_356 A_vb_342_356 (Exa.keep E_te K354) (Fld.keep F_escaped_te K354 nin0) (Arv.keep A_eb K354 nin0) ne_os_om ne_vb_342_om (Nat.ne_of_lt (Nat.lt_of_lt_of_le E_te.lt mh_om)) (Nat.ne_of_lt (Nat.lt_of_lt_of_le A_eb.lt mh_om)) ne_os_wq_354 ne_vb_342_wq_354 (Nat.ne_of_lt (Nat.lt_of_lt_of_le E_te.lt mh_wq_354)) (Nat.ne_of_lt (Nat.lt_of_lt_of_le A_eb.lt mh_wq_354)) hz_s_COMPACT_STRINGS hR_s_SIOOBE_FORMATTER hev (by omega)) hZ (hw _ (List.mem_of_getElem? (i := 85) rfl)) (hw _ (List.mem_of_getElem? (i := 46) rfl)) (by decide) (by decide)) q357a q357c (g := (mkF m 108 #[.val (.int p1), .val (.int p2), .val (.int p3), .val (.int p4), .val (.int f1), .val (.int f2), .val (.int f3), .val (.int (Int32.ofNat nz)), .val (.int c1), .val (.int c2), .val (.ref os), .val (.ref b_345), .val (.ref b_348), .val (.ref om), .val (.int (0 : Int32)), .unset, .unset, .unset, .unset] [(.ref os), (.ref om)])) rfl (by rw [hml]; rfl) (Steps.refl _) (argsL := [(.ref os)]) (rest := []) (lenOf own_pd17 rfl) rfl (by show 2 * 0 + _ ≤ _; exact Nat.le_of_eq rfl) (hb hby at_108) (fun _ _ => ⟨rfl, rfl, (by decide : 9 + 0 ≤ _), (by decide : 24590 + 0 ≤ _)⟩)
              dsimp only [Pt.U, Pt.locs, Pt.cells, Pt.slots] at X357 l357 y357 z357 st357 hQ357
              subst l357 y357 z357
              obtain ⟨rfl, Nq357, Kq357, f357_0, f357_1, f357_2, f357_3⟩ := hQ357
              refine Go.tr st357 ?_
              have N357 := Fr.app N354 Nq357
              have Sf_os_358 : Safe Z own_EL s.vm T357.heap os := Safe.keep Kq357 (allS Sf_om_355 (allS Sf_wq_354_355 all0)) R355.1 Sf_os_355
              have Sf_oc_358 : Safe Z own_EL s.vm T357.heap oc := Safe.keep Kq357 (allS Sf_om_355 (allS Sf_wq_354_355 all0)) R355.1 Sf_oc_355
              have Sf_vb_342_358 : Safe Z own_EL s.vm T357.heap vb_342 := Safe.keep Kq357 (allS Sf_om_355 (allS Sf_wq_354_355 all0)) R355.1 Sf_vb_342_355
              have Sf_b_345_358 : Safe Z own_EL s.vm T357.heap b_345 := Safe.keep Kq357 (allS Sf_om_355 (allS Sf_wq_354_355 all0)) R355.1 Sf_b_345_355
              have Sf_vb_345_358 : Safe Z own_EL s.vm T357.heap vb_345 := Safe.keep Kq357 (allS Sf_om_355 (allS Sf_wq_354_355 all0)) R355.1 Sf_vb_345_355
              have Sf_b_348_358 : Safe Z own_EL s.vm T357.heap b_348 := Safe.keep Kq357 (allS Sf_om_355 (allS Sf_wq_354_355 all0)) R355.1 Sf_b_348_355
              have Sf_vb_348_358 : Safe Z own_EL s.vm T357.heap vb_348 := Safe.keep Kq357 (allS Sf_om_355 (allS Sf_wq_354_355 all0)) R355.1 Sf_vb_348_355
              have Sf_om_358 : Safe Z own_EL s.vm T357.heap om := Safe.keep Kq357 (allS Sf_om_355 (allS Sf_wq_354_355 all0)) R355.1 Sf_om_355
              have Sf_wq_354_358 : Safe Z own_EL s.vm T357.heap wq_354 := Safe.keep Kq357 (allS Sf_om_355 (allS Sf_wq_354_355 all0)) R355.1 Sf_wq_354_355
              have R358 : CHr Z own_EL s.vm h0 s.vm T357.heap := CHr.trans R355 (CHr.keep Kq357 (allS Sf_om_355 (allS Sf_wq_354_355 all0)) R355.1)
              have hk358 : _ ≤ T357.heap.size := Nat.le_trans hk355 (Kq357.1)
              have E_os_359 : Exa Z T357.heap os "java/lang/String" := Exa.keep E_os_356 Kq357
              have A_oc_359 : Arv Z T357.heap oc cA322 .char (Int32.ofNat nz) (List.replicate nz (.int (0 : Int32))) (.int (0 : Int32)) := Arv.keep A_oc_356 Kq357 (ninS ne_oc_om (ninS ne_oc_wq_354 nin0))
              have F_value_os_359 : Fld Z T357.heap os "java/lang/String" "value" "[B" (.ref vb_342) := Fld.keep F_value_os_356 Kq357 (ninS ne_os_om (ninS ne_os_wq_354 nin0))
              have F_coder_os_359 : Fld Z T357.heap os "java/lang/String" "coder" "B" (.int (0 : Int32)) := Fld.keep F_coder_os_356 Kq357 (ninS ne_os_om (ninS ne_os_wq_354 nin0))
              have E_vb_342_359 : Exa Z T357.heap vb_342 "[B" := Exa.keep E_vb_342_356 Kq357
              have A_vb_342_359 : Arv Z T357.heap vb_342 kb_342 .byte (Int32.ofNat nz) (List.replicate nz (.int (0 : Int32))) (.int (0 : Int32)) := Arv.keep A_vb_342_356 Kq357 (ninS ne_vb_342_om (ninS ne_vb_342_wq_354 nin0))
              have E_b_345_359 : Exa Z T357.heap b_345 "java/lang/String" := Exa.keep E_b_345_356 Kq357
              have F_value_b_345_359 : Fld Z T357.heap b_345 "java/lang/String" "value" "[B" (.ref vb_345) := Fld.keep F_value_b_345_356 Kq357 (ninS ne_b_345_om (ninS ne_b_345_wq_354 nin0))
              have F_coder_b_345_359 : Fld Z T357.heap b_345 "java/lang/String" "coder" "B" (.int (0 : Int32)) := Fld.keep F_coder_b_345_356 Kq357 (ninS ne_b_345_om (ninS ne_b_345_wq_354 nin0))
              have A_vb_345_359 : Arv Z T357.heap vb_345 kb_345 .byte (1 : Int32) ([(.int c1.toInt8.toInt32)]) (.int (0 : Int32)) := Arv.keep A_vb_345_356 Kq357 (ninS ne_vb_345_om (ninS ne_vb_345_wq_354 nin0))
              have E_b_348_359 : Exa Z T357.heap b_348 "java/lang/String" := Exa.keep E_b_348_356 Kq357
              have F_value_b_348_359 : Fld Z T357.heap b_348 "java/lang/String" "value" "[B" (.ref vb_348) := Fld.keep F_value_b_348_356 Kq357 (ninS ne_b_348_om (ninS ne_b_348_wq_354 nin0))
              have F_coder_b_348_359 : Fld Z T357.heap b_348 "java/lang/String" "coder" "B" (.int (0 : Int32)) := Fld.keep F_coder_b_348_356 Kq357 (ninS ne_b_348_om (ninS ne_b_348_wq_354 nin0))
              have A_vb_348_359 : Arv Z T357.heap vb_348 kb_348 .byte (1 : Int32) ([(.int c2.toInt8.toInt32)]) (.int (0 : Int32)) := Arv.keep A_vb_348_356 Kq357 (ninS ne_vb_348_om (ninS ne_vb_348_wq_354 nin0))
              have E_om_359 : Exa Z T357.heap om "com/example/anagrafe/anagrafe/atom/Markup" := Exa.keep f354_1 Kq357
              have K357 : Keep h0 T357.heap [] := Keep.trans K354 Kq357 (allS (Or.inr mh_om) (allS (Or.inr mh_wq_354) all0))
              have Zs357 : n0 ≤ T357.heap.size := Nat.le_trans Zs354 Kq357.1
              show Go p e below _ (T357.setTop (mkF m 111 #[.val (.int p1), .val (.int p2), .val (.int p3), .val (.int p4), .val (.int f1), .val (.int f2), .val (.int f3), .val (.int (Int32.ofNat nz)), .val (.int c1), .val (.int c2), .val (.ref os), .val (.ref b_345), .val (.ref b_348), .val (.ref om), .val (.int (0 : Int32)), .unset, .unset, .unset, .unset] []))
              refine g_iload X357 hx (hb hby at_111) 113 rfl (v := (Int32.ofNat nz)) rfl ?_
              refine g_istore X357 hx (hb hby at_113) 115 rfl #[.val (.int p1), .val (.int p2), .val (.int p3), .val (.int p4), .val (.int f1), .val (.int f2), .val (.int f3), .val (.int (Int32.ofNat nz)), .val (.int c1), .val (.int c2), .val (.ref os), .val (.ref b_345), .val (.ref b_348), .val (.ref om), .val (.int (Int32.ofNat nz)), .unset, .unset, .unset, .unset] rfl ?_
              exact q115 b_345 vb_345 b_348 vb_348 om wq_354 kb_345 kb_348 kq_354 16384 nz (.val (.ref os)) (own_mono X357 (by decide) (by decide)) rfl N357 K357 Zs357 hS0 hk358 hZ hown R358 E_b_345_359 F_value_b_345_359 F_coder_b_345_359 A_vb_345_359 E_b_348_359 F_value_b_348_359 F_coder_b_348_359 A_vb_348_359 f357_0 f357_1 f357_2 f357_3 Sf_wq_354_358 g_om g_wq_354 mh_om mh_wq_354 ne_om_wq_354 (Ne.symm ne_b_345_om) (Ne.symm ne_vb_345_om) (Ne.symm ne_b_348_om) (Ne.symm ne_vb_348_om) (Ne.symm ne_b_345_wq_354) (Ne.symm ne_vb_345_wq_354) (Ne.symm ne_b_348_wq_354) (Ne.symm ne_vb_348_wq_354) (by decide) hn
            · by_cases qg : 16384 < 6 * nz
              · obtain ⟨cq360, kq360, q360a, q360b, q360c⟩ := isOf hZ rfl f354_1
                obtain ⟨_, _, ⟨T360, L360, k360, n360⟩, -, X360, ⟨Lc360, hQ360, l360, y360, z360⟩, st360⟩ := X354.virtualBack hx (y := (⟨"com/example/anagrafe/anagrafe/atom/Markup", "text", "(Ljava/lang/String;)V"⟩ : MethodName)) (z := (⟨"com/example/anagrafe/anagrafe/atom/Markup", "text", "(Ljava/lang/String;)V"⟩ : MethodName)) hown (mvT hZ (hw _ (List.mem_of_getElem? (i := 81) rfl))) (mvT hZ (hw _ (List.mem_of_getElem? (i := 82) rfl))) (notFace_of_selects (args := #[]) (mvT hZ (hw _ (List.mem_of_getElem? (i := 84) rfl)))) (mvT hZ (hw _ (List.mem_of_getElem? (i := 84) rfl))) (mvT hZ (hw _ (List.mem_of_getElem? (i := 83) rfl))) (by decide) (backOf (W := 0) (rmtxG l Z a0 hw [] om os wq_354 kq_354 s_COMPACT_STRINGS s_SIOOBE_FORMATTER te u8 ca cv kcv vb_342 kb_342 nz T354.heap n0 Zs354 (own_Sta_keep S_COMPACT_STRINGS K354 all0) (own_Sta_keep S_SIOOBE_FORMATTER K354 all0) (own_Sta_keep S_TEXT K354 all0) (own_Sta_keep S_INSTANCE K354 all0) (own_Sta_keep S_UTF_8 K354 all0) f354_1 f354_2 f354_3 f354_4 g_om g_wq_354 ne_om_wq_354 E_os_356 F_value_os_356 F_coder_os_356 A_vb_342_356 E_vb_342_356 (Exa.keep E_te K354) (Fld.keep F_characters_te K354 nin0) (Exa.keep E_ca K354) (Fld.keep F_value_ca K354 nin0) (Fld.keep F_coder_ca K354 nin0) (Arv.keep A_cv K354 nin0) ne_os_om ne_vb_342_om (Nat.ne_of_lt (Nat.lt_of_lt_of_le E_te.lt mh_om)) (Nat.ne_of_lt (Nat.lt_of_lt_of_le E_ca.lt mh_om)) (Nat.ne_of_lt (Nat.lt_of_lt_of_le A_cv.lt mh_om)) ne_os_wq_354 ne_vb_342_wq_354 (Nat.ne_of_lt (Nat.lt_of_lt_of_le E_te.lt mh_wq_354)) (Nat.ne_of_lt (Nat.lt_of_lt_of_le E_ca.lt mh_wq_354)) (Nat.ne_of_lt (Nat.lt_of_lt_of_le A_cv.lt mh_wq_354)) hz_s_COMPACT_STRINGS hR_s_SIOOBE_FORMATTER hn (by omega)) hZ (hw _ (List.mem_of_getElem? (i := 85) rfl)) (hw _ (List.mem_of_getElem? (i := 46) rfl)) (by decide) (by decide)) q360a q360c (g := (mkF m 108 #[.val (.int p1), .val (.int p2), .val (.int p3), .val (.int p4), .val (.int f1), .val (.int f2), .val (.int f3), .val (.int (Int32.ofNat nz)), .val (.int c1), .val (.int c2), .val (.ref os), .val (.ref b_345), .val (.ref b_348), .val (.ref om), .val (.int (0 : Int32)), .unset, .unset, .unset, .unset] [(.ref os), (.ref om)])) rfl (by rw [hml]; rfl) (Steps.refl _) (argsL := [(.ref os)]) (rest := []) (lenOf own_pd17 rfl) rfl (by show 2 * 0 + _ ≤ _; exact Nat.le_of_eq rfl) (hb hby at_108) (fun _ _ => ⟨rfl, rfl, (by decide : 9 + 2 ≤ _), (by decide : 24590 + 36863 ≤ _)⟩)
                dsimp only [Pt.U, Pt.locs, Pt.cells, Pt.slots] at X360 l360 y360 z360 st360 hQ360
                subst l360 y360 z360
                obtain ⟨wq_360, kq_360, rfl, Nq360, Kq360, f360_0, f360_1, f360_2, f360_3, f360_4⟩ := hQ360
                refine Go.tr st360 ?_
                have N360 := Fr.app N354 Nq360
                have Sf_wq_360 : Safe Z own_EL s.vm T354.heap wq_360 := Safe.new f360_0
                have Sf_os_361 : Safe Z own_EL s.vm T360.heap os := Safe.keep Kq360 (allS Sf_om_355 all0) R355.1 Sf_os_355
                have Sf_oc_361 : Safe Z own_EL s.vm T360.heap oc := Safe.keep Kq360 (allS Sf_om_355 all0) R355.1 Sf_oc_355
                have Sf_vb_342_361 : Safe Z own_EL s.vm T360.heap vb_342 := Safe.keep Kq360 (allS Sf_om_355 all0) R355.1 Sf_vb_342_355
                have Sf_b_345_361 : Safe Z own_EL s.vm T360.heap b_345 := Safe.keep Kq360 (allS Sf_om_355 all0) R355.1 Sf_b_345_355
                have Sf_vb_345_361 : Safe Z own_EL s.vm T360.heap vb_345 := Safe.keep Kq360 (allS Sf_om_355 all0) R355.1 Sf_vb_345_355
                have Sf_b_348_361 : Safe Z own_EL s.vm T360.heap b_348 := Safe.keep Kq360 (allS Sf_om_355 all0) R355.1 Sf_b_348_355
                have Sf_vb_348_361 : Safe Z own_EL s.vm T360.heap vb_348 := Safe.keep Kq360 (allS Sf_om_355 all0) R355.1 Sf_vb_348_355
                have Sf_om_361 : Safe Z own_EL s.vm T360.heap om := Safe.keep Kq360 (allS Sf_om_355 all0) R355.1 Sf_om_355
                have Sf_wq_354_361 : Safe Z own_EL s.vm T360.heap wq_354 := Safe.keep Kq360 (allS Sf_om_355 all0) R355.1 Sf_wq_354_355
                have Sf_wq_360_361 : Safe Z own_EL s.vm T360.heap wq_360 := Safe.keep Kq360 (allS Sf_om_355 all0) R355.1 Sf_wq_360
                have R361 : CHr Z own_EL s.vm h0 s.vm T360.heap := CHr.trans R355 (CHr.keep Kq360 (allS Sf_om_355 all0) R355.1)
                have hk361 : _ ≤ T360.heap.size := Nat.le_trans hk355 (Kq360.1)
                have E_os_362 : Exa Z T360.heap os "java/lang/String" := Exa.keep E_os_356 Kq360
                have A_oc_362 : Arv Z T360.heap oc cA322 .char (Int32.ofNat nz) (List.replicate nz (.int (0 : Int32))) (.int (0 : Int32)) := Arv.keep A_oc_356 Kq360 (ninS ne_oc_om nin0)
                have F_value_os_362 : Fld Z T360.heap os "java/lang/String" "value" "[B" (.ref vb_342) := Fld.keep F_value_os_356 Kq360 (ninS ne_os_om nin0)
                have F_coder_os_362 : Fld Z T360.heap os "java/lang/String" "coder" "B" (.int (0 : Int32)) := Fld.keep F_coder_os_356 Kq360 (ninS ne_os_om nin0)
                have E_vb_342_362 : Exa Z T360.heap vb_342 "[B" := Exa.keep E_vb_342_356 Kq360
                have A_vb_342_362 : Arv Z T360.heap vb_342 kb_342 .byte (Int32.ofNat nz) (List.replicate nz (.int (0 : Int32))) (.int (0 : Int32)) := Arv.keep A_vb_342_356 Kq360 (ninS ne_vb_342_om nin0)
                have E_b_345_362 : Exa Z T360.heap b_345 "java/lang/String" := Exa.keep E_b_345_356 Kq360
                have F_value_b_345_362 : Fld Z T360.heap b_345 "java/lang/String" "value" "[B" (.ref vb_345) := Fld.keep F_value_b_345_356 Kq360 (ninS ne_b_345_om nin0)
                have F_coder_b_345_362 : Fld Z T360.heap b_345 "java/lang/String" "coder" "B" (.int (0 : Int32)) := Fld.keep F_coder_b_345_356 Kq360 (ninS ne_b_345_om nin0)
                have A_vb_345_362 : Arv Z T360.heap vb_345 kb_345 .byte (1 : Int32) ([(.int c1.toInt8.toInt32)]) (.int (0 : Int32)) := Arv.keep A_vb_345_356 Kq360 (ninS ne_vb_345_om nin0)
                have E_b_348_362 : Exa Z T360.heap b_348 "java/lang/String" := Exa.keep E_b_348_356 Kq360
                have F_value_b_348_362 : Fld Z T360.heap b_348 "java/lang/String" "value" "[B" (.ref vb_348) := Fld.keep F_value_b_348_356 Kq360 (ninS ne_b_348_om nin0)
                have F_coder_b_348_362 : Fld Z T360.heap b_348 "java/lang/String" "coder" "B" (.int (0 : Int32)) := Fld.keep F_coder_b_348_356 Kq360 (ninS ne_b_348_om nin0)
                have A_vb_348_362 : Arv Z T360.heap vb_348 kb_348 .byte (1 : Int32) ([(.int c2.toInt8.toInt32)]) (.int (0 : Int32)) := Arv.keep A_vb_348_356 Kq360 (ninS ne_vb_348_om nin0)
                have E_om_362 : Exa Z T360.heap om "com/example/anagrafe/anagrafe/atom/Markup" := Exa.keep f354_1 Kq360
                have A_wq_354_362 : Arv Z T360.heap wq_354 kq_354 .byte (Int32.ofNat 16384) [] (.int (0 : Int32)) := Arv.keep f354_4 Kq360 (ninS (Ne.symm ne_om_wq_354) nin0)
                have ne_os_wq_360 : os ≠ wq_360 := Nat.ne_of_lt (Nat.lt_of_lt_of_le E_os_356.lt f360_0)
                have ne_oc_wq_360 : oc ≠ wq_360 := Nat.ne_of_lt (Nat.lt_of_lt_of_le A_oc_356.lt f360_0)
                have ne_vb_342_wq_360 : vb_342 ≠ wq_360 := Nat.ne_of_lt (Nat.lt_of_lt_of_le E_vb_342_356.lt f360_0)
                have ne_b_345_wq_360 : b_345 ≠ wq_360 := Nat.ne_of_lt (Nat.lt_of_lt_of_le E_b_345_356.lt f360_0)
                have ne_vb_345_wq_360 : vb_345 ≠ wq_360 := Nat.ne_of_lt (Nat.lt_of_lt_of_le A_vb_345_356.lt f360_0)
                have ne_b_348_wq_360 : b_348 ≠ wq_360 := Nat.ne_of_lt (Nat.lt_of_lt_of_le E_b_348_356.lt f360_0)
                have ne_vb_348_wq_360 : vb_348 ≠ wq_360 := Nat.ne_of_lt (Nat.lt_of_lt_of_le A_vb_348_356.lt f360_0)
                have ne_om_wq_360 : om ≠ wq_360 := Nat.ne_of_lt (Nat.lt_of_lt_of_le f354_1.lt f360_0)
                have ne_wq_354_wq_360 : wq_354 ≠ wq_360 := Nat.ne_of_lt (Nat.lt_of_lt_of_le f354_4.lt f360_0)
                have g_wq_360 : n0 ≤ wq_360 := Nat.le_trans Zs354 f360_0
                have mh_wq_360 : h0.size ≤ wq_360 := Nat.le_trans K354.1 f360_0
                have K360 : Keep h0 T360.heap [] := Keep.trans K354 Kq360 (allS (Or.inr mh_om) all0)
                have Zs360 : n0 ≤ T360.heap.size := Nat.le_trans Zs354 Kq360.1
                show Go p e below _ (T360.setTop (mkF m 111 #[.val (.int p1), .val (.int p2), .val (.int p3), .val (.int p4), .val (.int f1), .val (.int f2), .val (.int f3), .val (.int (Int32.ofNat nz)), .val (.int c1), .val (.int c2), .val (.ref os), .val (.ref b_345), .val (.ref b_348), .val (.ref om), .val (.int (0 : Int32)), .unset, .unset, .unset, .unset] []))
                refine g_iload X360 hx (hb hby at_111) 113 rfl (v := (Int32.ofNat nz)) rfl ?_
                refine g_istore X360 hx (hb hby at_113) 115 rfl #[.val (.int p1), .val (.int p2), .val (.int p3), .val (.int p4), .val (.int f1), .val (.int f2), .val (.int f3), .val (.int (Int32.ofNat nz)), .val (.int c1), .val (.int c2), .val (.ref os), .val (.ref b_345), .val (.ref b_348), .val (.ref om), .val (.int (Int32.ofNat nz)), .unset, .unset, .unset, .unset] rfl ?_
                exact q115 b_345 vb_345 b_348 vb_348 om wq_360 kb_345 kb_348 kq_360 32768 nz (.val (.ref os)) (own_mono X360 (by decide) (by decide)) rfl N360 K360 Zs360 hS0 hk361 hZ hown R361 E_b_345_362 F_value_b_345_362 F_coder_b_345_362 A_vb_345_362 E_b_348_362 F_value_b_348_362 F_coder_b_348_362 A_vb_348_362 f360_1 f360_2 f360_3 f360_4 Sf_wq_360_361 g_om g_wq_360 mh_om mh_wq_360 ne_om_wq_360 (Ne.symm ne_b_345_om) (Ne.symm ne_vb_345_om) (Ne.symm ne_b_348_om) (Ne.symm ne_vb_348_om) (Ne.symm ne_b_345_wq_360) (Ne.symm ne_vb_345_wq_360) (Ne.symm ne_b_348_wq_360) (Ne.symm ne_vb_348_wq_360) (by decide) hn
              · obtain ⟨cq363, kq363, q363a, q363b, q363c⟩ := isOf hZ rfl f354_1
                obtain ⟨_, _, ⟨T363, L363, k363, n363⟩, -, X363, ⟨Lc363, hQ363, l363, y363, z363⟩, st363⟩ := X354.virtualBack hx (y := (⟨"com/example/anagrafe/anagrafe/atom/Markup", "text", "(Ljava/lang/String;)V"⟩ : MethodName)) (z := (⟨"com/example/anagrafe/anagrafe/atom/Markup", "text", "(Ljava/lang/String;)V"⟩ : MethodName)) hown (mvT hZ (hw _ (List.mem_of_getElem? (i := 81) rfl))) (mvT hZ (hw _ (List.mem_of_getElem? (i := 82) rfl))) (notFace_of_selects (args := #[]) (mvT hZ (hw _ (List.mem_of_getElem? (i := 84) rfl)))) (mvT hZ (hw _ (List.mem_of_getElem? (i := 84) rfl))) (mvT hZ (hw _ (List.mem_of_getElem? (i := 83) rfl))) (by decide) (backOf (W := 0) (rmtxm l Z a0 hw [] om os wq_354 kq_354 s_COMPACT_STRINGS s_SIOOBE_FORMATTER te u8 ca cv kcv vb_342 kb_342 nz T354.heap n0 Zs354 (own_Sta_keep S_COMPACT_STRINGS K354 all0) (own_Sta_keep S_SIOOBE_FORMATTER K354 all0) (own_Sta_keep S_TEXT K354 all0) (own_Sta_keep S_INSTANCE K354 all0) (own_Sta_keep S_UTF_8 K354 all0) f354_1 f354_2 f354_3 f354_4 g_om g_wq_354 ne_om_wq_354 E_os_356 F_value_os_356 F_coder_os_356 A_vb_342_356 E_vb_342_356 (Exa.keep E_te K354) (Fld.keep F_characters_te K354 nin0) (Exa.keep E_ca K354) (Fld.keep F_value_ca K354 nin0) (Fld.keep F_coder_ca K354 nin0) (Arv.keep A_cv K354 nin0) ne_os_om ne_vb_342_om (Nat.ne_of_lt (Nat.lt_of_lt_of_le E_te.lt mh_om)) (Nat.ne_of_lt (Nat.lt_of_lt_of_le E_ca.lt mh_om)) (Nat.ne_of_lt (Nat.lt_of_lt_of_le A_cv.lt mh_om)) ne_os_wq_354 ne_vb_342_wq_354 (Nat.ne_of_lt (Nat.lt_of_lt_of_le E_te.lt mh_wq_354)) (Nat.ne_of_lt (Nat.lt_of_lt_of_le E_ca.lt mh_wq_354)) (Nat.ne_of_lt (Nat.lt_of_lt_of_le A_cv.lt mh_wq_354)) hz_s_COMPACT_STRINGS hR_s_SIOOBE_FORMATTER hn (by omega)) hZ (hw _ (List.mem_of_getElem? (i := 85) rfl)) (hw _ (List.mem_of_getElem? (i := 46) rfl)) (by decide) (by decide)) q363a q363c (g := (mkF m 108 #[.val (.int p1), .val (.int p2), .val (.int p3), .val (.int p4), .val (.int f1), .val (.int f2), .val (.int f3), .val (.int (Int32.ofNat nz)), .val (.int c1), .val (.int c2), .val (.ref os), .val (.ref b_345), .val (.ref b_348), .val (.ref om), .val (.int (0 : Int32)), .unset, .unset, .unset, .unset] [(.ref os), (.ref om)])) rfl (by rw [hml]; rfl) (Steps.refl _) (argsL := [(.ref os)]) (rest := []) (lenOf own_pd17 rfl) rfl (by show 2 * 0 + _ ≤ _; exact Nat.le_of_eq rfl) (hb hby at_108) (fun _ _ => ⟨rfl, rfl, (by decide : 9 + 1 ≤ _), (by decide : 24590 + 4095 ≤ _)⟩)
                dsimp only [Pt.U, Pt.locs, Pt.cells, Pt.slots] at X363 l363 y363 z363 st363 hQ363
                subst l363 y363 z363
                obtain ⟨rfl, Nq363, Kq363, f363_0, f363_1, f363_2, f363_3⟩ := hQ363
                refine Go.tr st363 ?_
                have N363 := Fr.app N354 Nq363
                have Sf_os_364 : Safe Z own_EL s.vm T363.heap os := Safe.keep Kq363 (allS Sf_om_355 (allS Sf_wq_354_355 all0)) R355.1 Sf_os_355
                have Sf_oc_364 : Safe Z own_EL s.vm T363.heap oc := Safe.keep Kq363 (allS Sf_om_355 (allS Sf_wq_354_355 all0)) R355.1 Sf_oc_355
                have Sf_vb_342_364 : Safe Z own_EL s.vm T363.heap vb_342 := Safe.keep Kq363 (allS Sf_om_355 (allS Sf_wq_354_355 all0)) R355.1 Sf_vb_342_355
                have Sf_b_345_364 : Safe Z own_EL s.vm T363.heap b_345 := Safe.keep Kq363 (allS Sf_om_355 (allS Sf_wq_354_355 all0)) R355.1 Sf_b_345_355
                have Sf_vb_345_364 : Safe Z own_EL s.vm T363.heap vb_345 := Safe.keep Kq363 (allS Sf_om_355 (allS Sf_wq_354_355 all0)) R355.1 Sf_vb_345_355
                have Sf_b_348_364 : Safe Z own_EL s.vm T363.heap b_348 := Safe.keep Kq363 (allS Sf_om_355 (allS Sf_wq_354_355 all0)) R355.1 Sf_b_348_355
                have Sf_vb_348_364 : Safe Z own_EL s.vm T363.heap vb_348 := Safe.keep Kq363 (allS Sf_om_355 (allS Sf_wq_354_355 all0)) R355.1 Sf_vb_348_355
                have Sf_om_364 : Safe Z own_EL s.vm T363.heap om := Safe.keep Kq363 (allS Sf_om_355 (allS Sf_wq_354_355 all0)) R355.1 Sf_om_355
                have Sf_wq_354_364 : Safe Z own_EL s.vm T363.heap wq_354 := Safe.keep Kq363 (allS Sf_om_355 (allS Sf_wq_354_355 all0)) R355.1 Sf_wq_354_355
                have R364 : CHr Z own_EL s.vm h0 s.vm T363.heap := CHr.trans R355 (CHr.keep Kq363 (allS Sf_om_355 (allS Sf_wq_354_355 all0)) R355.1)
                have hk364 : _ ≤ T363.heap.size := Nat.le_trans hk355 (Kq363.1)
                have E_os_365 : Exa Z T363.heap os "java/lang/String" := Exa.keep E_os_356 Kq363
                have A_oc_365 : Arv Z T363.heap oc cA322 .char (Int32.ofNat nz) (List.replicate nz (.int (0 : Int32))) (.int (0 : Int32)) := Arv.keep A_oc_356 Kq363 (ninS ne_oc_om (ninS ne_oc_wq_354 nin0))
                have F_value_os_365 : Fld Z T363.heap os "java/lang/String" "value" "[B" (.ref vb_342) := Fld.keep F_value_os_356 Kq363 (ninS ne_os_om (ninS ne_os_wq_354 nin0))
                have F_coder_os_365 : Fld Z T363.heap os "java/lang/String" "coder" "B" (.int (0 : Int32)) := Fld.keep F_coder_os_356 Kq363 (ninS ne_os_om (ninS ne_os_wq_354 nin0))
                have E_vb_342_365 : Exa Z T363.heap vb_342 "[B" := Exa.keep E_vb_342_356 Kq363
                have A_vb_342_365 : Arv Z T363.heap vb_342 kb_342 .byte (Int32.ofNat nz) (List.replicate nz (.int (0 : Int32))) (.int (0 : Int32)) := Arv.keep A_vb_342_356 Kq363 (ninS ne_vb_342_om (ninS ne_vb_342_wq_354 nin0))
                have E_b_345_365 : Exa Z T363.heap b_345 "java/lang/String" := Exa.keep E_b_345_356 Kq363
                have F_value_b_345_365 : Fld Z T363.heap b_345 "java/lang/String" "value" "[B" (.ref vb_345) := Fld.keep F_value_b_345_356 Kq363 (ninS ne_b_345_om (ninS ne_b_345_wq_354 nin0))
                have F_coder_b_345_365 : Fld Z T363.heap b_345 "java/lang/String" "coder" "B" (.int (0 : Int32)) := Fld.keep F_coder_b_345_356 Kq363 (ninS ne_b_345_om (ninS ne_b_345_wq_354 nin0))
                have A_vb_345_365 : Arv Z T363.heap vb_345 kb_345 .byte (1 : Int32) ([(.int c1.toInt8.toInt32)]) (.int (0 : Int32)) := Arv.keep A_vb_345_356 Kq363 (ninS ne_vb_345_om (ninS ne_vb_345_wq_354 nin0))
                have E_b_348_365 : Exa Z T363.heap b_348 "java/lang/String" := Exa.keep E_b_348_356 Kq363
                have F_value_b_348_365 : Fld Z T363.heap b_348 "java/lang/String" "value" "[B" (.ref vb_348) := Fld.keep F_value_b_348_356 Kq363 (ninS ne_b_348_om (ninS ne_b_348_wq_354 nin0))
                have F_coder_b_348_365 : Fld Z T363.heap b_348 "java/lang/String" "coder" "B" (.int (0 : Int32)) := Fld.keep F_coder_b_348_356 Kq363 (ninS ne_b_348_om (ninS ne_b_348_wq_354 nin0))
                have A_vb_348_365 : Arv Z T363.heap vb_348 kb_348 .byte (1 : Int32) ([(.int c2.toInt8.toInt32)]) (.int (0 : Int32)) := Arv.keep A_vb_348_356 Kq363 (ninS ne_vb_348_om (ninS ne_vb_348_wq_354 nin0))
                have E_om_365 : Exa Z T363.heap om "com/example/anagrafe/anagrafe/atom/Markup" := Exa.keep f354_1 Kq363
                have K363 : Keep h0 T363.heap [] := Keep.trans K354 Kq363 (allS (Or.inr mh_om) (allS (Or.inr mh_wq_354) all0))
                have Zs363 : n0 ≤ T363.heap.size := Nat.le_trans Zs354 Kq363.1
                show Go p e below _ (T363.setTop (mkF m 111 #[.val (.int p1), .val (.int p2), .val (.int p3), .val (.int p4), .val (.int f1), .val (.int f2), .val (.int f3), .val (.int (Int32.ofNat nz)), .val (.int c1), .val (.int c2), .val (.ref os), .val (.ref b_345), .val (.ref b_348), .val (.ref om), .val (.int (0 : Int32)), .unset, .unset, .unset, .unset] []))
                refine g_iload X363 hx (hb hby at_111) 113 rfl (v := (Int32.ofNat nz)) rfl ?_
                refine g_istore X363 hx (hb hby at_113) 115 rfl #[.val (.int p1), .val (.int p2), .val (.int p3), .val (.int p4), .val (.int f1), .val (.int f2), .val (.int f3), .val (.int (Int32.ofNat nz)), .val (.int c1), .val (.int c2), .val (.ref os), .val (.ref b_345), .val (.ref b_348), .val (.ref om), .val (.int (Int32.ofNat nz)), .unset, .unset, .unset, .unset] rfl ?_
                exact q115 b_345 vb_345 b_348 vb_348 om wq_354 kb_345 kb_348 kq_354 16384 nz (.val (.ref os)) (own_mono X363 (by decide) (by decide)) rfl N363 K363 Zs363 hS0 hk364 hZ hown R364 E_b_345_365 F_value_b_345_365 F_coder_b_345_365 A_vb_345_365 E_b_348_365 F_value_b_348_365 F_coder_b_348_365 A_vb_348_365 f363_0 f363_1 f363_2 f363_3 Sf_wq_354_364 g_om g_wq_354 mh_om mh_wq_354 ne_om_wq_354 (Ne.symm ne_b_345_om) (Ne.symm ne_vb_345_om) (Ne.symm ne_b_348_om) (Ne.symm ne_vb_348_om) (Ne.symm ne_b_345_wq_354) (Ne.symm ne_vb_345_wq_354) (Ne.symm ne_b_348_wq_354) (Ne.symm ne_vb_348_wq_354) (by decide) hn
      refine g_iloadN X0 hx (hb hby at_26) 27 rfl (v := p1) rfl ?_
      refine g_iconst X0 hx (hb hby at_27) 28 rfl (4 : Int32) rfl ?_
      refine g_iand X0 hx (hb hby at_28) 29 rfl (p1 &&& (4 : Int32)) rfl ?_
      refine g_if_eq X0 hx (hb hby at_29) 36 32 (by decide) (by decide) rfl (fun hc29 => ?_) (fun hc29 => ?_)
      · refine g_iconst X0 hx (hb hby at_36) 37 rfl (0 : Int32) rfl ?_
        exact tc (0 : Int32)
      · refine g_iconst X0 hx (hb hby at_32) 33 rfl (1 : Int32) rfl ?_
        refine g_goto X0 hx (hb hby at_33) 37 (by decide) (by decide) ?_
        exact tc (1 : Int32)
    refine g_iloadN X0 hx (hb hby at_13) 14 rfl (v := p1) rfl ?_
    refine g_iconst X0 hx (hb hby at_14) 15 rfl (2 : Int32) rfl ?_
    refine g_iand X0 hx (hb hby at_15) 16 rfl (p1 &&& (2 : Int32)) rfl ?_
    refine g_if_eq X0 hx (hb hby at_16) 23 19 (by decide) (by decide) rfl (fun hc16 => ?_) (fun hc16 => ?_)
    · refine g_iconst X0 hx (hb hby at_23) 24 rfl (0 : Int32) rfl ?_
      exact tb (0 : Int32)
    · refine g_iconst X0 hx (hb hby at_19) 20 rfl (1 : Int32) rfl ?_
      refine g_goto X0 hx (hb hby at_20) 24 (by decide) (by decide) ?_
      exact tb (1 : Int32)
  refine g_iloadN X0 hx (hb hby at_0) 1 rfl (v := p1) rfl ?_
  refine g_iconst X0 hx (hb hby at_1) 2 rfl (1 : Int32) rfl ?_
  refine g_iand X0 hx (hb hby at_2) 3 rfl (p1 &&& (1 : Int32)) rfl ?_
  refine g_if_eq X0 hx (hb hby at_3) 10 6 (by decide) (by decide) rfl (fun hc3 => ?_) (fun hc3 => ?_)
  · refine g_iconst X0 hx (hb hby at_10) 11 rfl (0 : Int32) rfl ?_
    exact ta (0 : Int32)
  · refine g_iconst X0 hx (hb hby at_6) 7 rfl (1 : Int32) rfl ?_
    refine g_goto X0 hx (hb hby at_7) 11 (by decide) (by decide) ?_
    exact ta (1 : Int32)
theorem own_held {s : State} {own : String} {i : Nat} (h : constHeld s own i) : Jvm.Lit.constHeld s own i := h
theorem own_cin : ∀ q ∈ own_EL, q ∈ consts_1 := by decide
set_option maxRecDepth 65536 in
set_option maxHeartbeats 40000000 in
theorem comes_1 {Post : Tables → Env → Array Value → State → Outcome → State → Prop} (hpost : ∀ tb e args s v u, (limb_1_1.after args s (.returned v) u = true ∧ limb_1_2.after args s (.returned v) u = true ∧ True) → ReturnedEndW s (.returned v) u (Jvm.fieldLocs frame_1_writes args s ++ Jvm.arrayLocs frame_1_arrays args s ++ Jvm.staticLocs frame_1_statics s) 40 132224 → Post tb e args s (.returned v) u) :
    ArmFor flags0 classFile x code maxLocals ret World_1 tables_1 room_1 Calls_1 rest_1 Pre_1 Post := by
  intro l hfl _ _ p e ha hc hk s m args below hf hA hF happ hP
  obtain ⟨hcalls, hrest, hpre⟩ := hP
  obtain ⟨-, -, -, hnamed, -, -, -, hat⟩ := (Spec.applies_iff hf).mp happ
  obtain ⟨hg, hn⟩ := and_e (Cond.before_iff.mp (show (Jvm.Cond.and given_1 narrow_1).before args s = true from hpre))
  obtain ⟨c0, r0⟩ := and_e hg
  obtain ⟨c1, r1⟩ := and_e r0
  obtain ⟨c2, r2⟩ := and_e r1
  obtain ⟨c3, r3⟩ := and_e r2
  obtain ⟨w0, w1, w2, w3, rfl⟩ : ∃ w0 w1 w2 w3 : Value, args = #[w0, w1, w2, w3] := by
    have hs : args.size = 4 := by simpa [Cond.value, given_1] using c0
    obtain ⟨L⟩ := args
    match L, hs with
    | [w0, w1, w2, w3], _ => exact ⟨w0, w1, w2, w3, rfl⟩
  have hw := fun d (hd : d ∈ tables_1) => atoms_spec (ws := Jvm.Cond.code x code maxLocals ret :: tables_1) hat d (List.mem_cons_of_mem _ hd)
  have hfit : Fit s := fun {y c} hc i hi => by
    obtain ⟨ha, rfl⟩ := Array.getElem?_eq_some_iff.mp hc
    have q := List.all_eq_true.mp ((Array.all_eq_true_iff_forall_mem.mp hF) _ (Array.getElem_mem ha)) i (List.mem_range.mpr hi)
    simpa [Array.getElem?_eq_getElem hi] using q
  obtain ⟨i0, ei0⟩ := is_v c1
  obtain rfl : w0 = (.int i0) := Option.some.inj ei0
  obtain ⟨i1, ei1⟩ := is_v c2
  obtain rfl : w1 = (.int i1) := Option.some.inj ei1
  obtain ⟨i2, ei2⟩ := is_v c3
  obtain rfl : w2 = (.int i2) := Option.some.inj ei2
  obtain ⟨i3, ei3⟩ := is_v r3
  obtain rfl : w3 = (.int i3) := Option.some.inj ei3
  obtain ⟨hsets, hown0⟩ := atoms_of _ (rest_1_c_eq ▸ (show rest_1_c.before _ s = true from hrest))
  obtain ⟨s_COMPACT_STRINGS, e_s_COMPACT_STRINGS⟩ := is_v (Cond.before_iff.mp (hsets _ (List.mem_of_getElem? (i := 1) rfl)))
  have S_COMPACT_STRINGS : Sta s s.heap "java/lang/String" "COMPACT_STRINGS" "Z" (.int s_COMPACT_STRINGS) := Sta.start e_s_COMPACT_STRINGS (Or.inl (hsets _ (List.mem_of_getElem? (i := 0) rfl)))
  obtain ⟨s_SIOOBE_FORMATTER, e_s_SIOOBE_FORMATTER, r_s_SIOOBE_FORMATTER⟩ := isR_v (Cond.before_iff.mp (hsets _ (List.mem_of_getElem? (i := 8) rfl)))
  have S_SIOOBE_FORMATTER : Sta s s.heap "jdk/internal/util/Preconditions" "SIOOBE_FORMATTER" "Ljava/util/function/BiFunction;" s_SIOOBE_FORMATTER := Sta.start e_s_SIOOBE_FORMATTER (Or.inl (hsets _ (List.mem_of_getElem? (i := 7) rfl)))
  have z_s_COMPACT_STRINGS : ¬ s_COMPACT_STRINGS = 0 := own_nz e_s_COMPACT_STRINGS (Cond.before_iff.mp (hsets _ (List.mem_of_getElem? (i := 2) rfl)))
  obtain ⟨u8, ev_u8⟩ := exa_v (Cond.before_iff.mp (hsets _ (List.mem_of_getElem? (i := 14) rfl)))
  have S_UTF_8 : Sta s s.heap "java/nio/charset/StandardCharsets" "UTF_8" "Ljava/nio/charset/Charset;" (.ref u8) := Sta.start ev_u8 (Or.inl (hsets _ (List.mem_of_getElem? (i := 10) rfl)))
  have ev_in := own_eqr ev_u8 (Cond.before_iff.mp (hsets _ (List.mem_of_getElem? (i := 13) rfl)))
  have S_INSTANCE : Sta s s.heap "sun/nio/cs/UTF_8" "INSTANCE" "Lsun/nio/cs/UTF_8;" (.ref u8) := Sta.start ev_in (Or.inl (hsets _ (List.mem_of_getElem? (i := 12) rfl)))
  obtain ⟨z0, zr0⟩ := and_e hn
  obtain ⟨z1, zr1⟩ := and_e zr0
  obtain ⟨z2, zr2⟩ := and_e zr1
  obtain ⟨z3, zr3⟩ := and_e zr2
  obtain ⟨z4, zr4⟩ := and_e zr3
  obtain ⟨z5, zr5⟩ := and_e zr4
  obtain ⟨z6, zr6⟩ := and_e zr5
  obtain ⟨z7, zr7⟩ := and_e zr6
  obtain ⟨z8, zr8⟩ := and_e zr7
  obtain ⟨z9, zr9⟩ := and_e zr8
  obtain ⟨z10, zr10⟩ := and_e zr9
  obtain ⟨z11, zr11⟩ := and_e zr10
  obtain ⟨z12, zr12⟩ := and_e zr11
  obtain ⟨z13, zr13⟩ := and_e zr12
  obtain ⟨z14, zr14⟩ := and_e zr13
  obtain ⟨z15, zr15⟩ := and_e zr14
  obtain ⟨te, v_te⟩ := exa_v z0
  have S_TEXT : Sta s s.heap "com/example/anagrafe/anagrafe/atom/Markup$Escape" "TEXT" "Lcom/example/anagrafe/anagrafe/atom/Markup$Escape;" (.ref te) := Sta.start v_te (Or.inr ⟨(hw _ (List.mem_of_getElem? (i := 97) rfl)), (hw _ (List.mem_of_getElem? (i := 98) rfl))⟩)
  have E_te : Exa s s.heap te "com/example/anagrafe/anagrafe/atom/Markup$Escape" := Exa.start v_te z0
  obtain ⟨ca, v_ca⟩ := exa_v z1
  have E_ca : Exa s s.heap ca "java/lang/String" := Exa.start v_ca z1
  have F_characters_te : Fld s s.heap te "com/example/anagrafe/anagrafe/atom/Markup$Escape" "characters" "Ljava/lang/String;" (.ref ca) := Fld.start ((fld_at v_te).symm.trans v_ca)
  obtain ⟨cv, v_cv⟩ := arr_v z2
  have F_value_ca : Fld s s.heap ca "java/lang/String" "value" "[B" (.ref cv) := Fld.start ((fld_at v_ca).symm.trans v_cv)
  obtain ⟨cl1, A1⟩ := Arr.start v_cv z2
  obtain ⟨q1, e1⟩ := own_lenA v_cv A1 (own_eqi z3)
  have F_coder_ca : Fld s s.heap ca "java/lang/String" "coder" "B" (.int (0 : Int32)) := own_fld_int v_ca z4
  have A_cv : Arv s s.heap cv cl1.cls .byte (3 : Int32) [(.int (38 : Int32)), (.int (60 : Int32)), (.int (62 : Int32))] (.int (0 : Int32)) := Arv.start hfit A1 q1 e1 (by decide) (by decide) ⟨(elem_in (own_eqi z5) v_cv (Term.int_eval 0) A1.1).2, (elem_in (own_eqi z6) v_cv (Term.int_eval 1) A1.1).2, (elem_in (own_eqi z7) v_cv (Term.int_eval 2) A1.1).2, trivial⟩
  obtain ⟨eb, v_eb⟩ := arr_v z8
  have F_escaped_te : Fld s s.heap te "com/example/anagrafe/anagrafe/atom/Markup$Escape" "escaped" "[Z" (.ref eb) := Fld.start ((fld_at v_te).symm.trans v_eb)
  obtain ⟨cl2, A2⟩ := Arr.start v_eb z8
  obtain ⟨q2, e2⟩ := own_lenA v_eb A2 (own_eqi z9)
  have A_eb : Arv s s.heap eb cl2.cls .boolean (128 : Int32) cl2.slots.toList (.int (0 : Int32)) := own_arvL hfit A2 q2 e2 (by decide)
  have s2 : cl2.slots.size = 128 := by rw [show cl2.slots.size = (128 : Int32).toNatClampNeg from by rw [← e2]; simp only [Int32.toNatClampNeg, len_toInt q2]; rfl]; decide
  have hev0 := own_ev0 (fun _ => v_eb) A2 (by omega) z10
  obtain ⟨n, o, h1, h2, h3, _, L, rfl, ⟨rfl, N⟩, -, hq⟩ := rm0 l s _ hw tables_1 i0 i1 i2 i3 s_COMPACT_STRINGS s_SIOOBE_FORMATTER u8 te ca cv cl1.cls eb cl2.cls cl2.slots.toList s.heap s.heap.size (Nat.le_refl _) S_COMPACT_STRINGS S_SIOOBE_FORMATTER S_INSTANCE S_UTF_8 S_TEXT E_te F_characters_te E_ca F_value_ca F_coder_ca A_cv F_escaped_te A_eb rfl z_s_COMPACT_STRINGS r_s_SIOOBE_FORMATTER hev0 p e ha hc hk s m _ below hf ((Spec.applies_iff_loose hf).mp happ).1 ⟨rfl, State.Warmed39.refl s, rfl, (CHv.start (own_EW hw) (fun q hq => own_held (hcalls.1 q (own_cin q hq))) (hsets _ (List.mem_of_getElem? (i := 2) rfl)) (hw _ (List.mem_of_getElem? (i := 19) rfl)) (hw _ (List.mem_of_getElem? (i := 1) rfl)))⟩ trivial
  refine ⟨n, _, h1, h2, h3, hpost _ _ _ _ _ _ ⟨Cond.after_iff.mpr rfl, Cond.after_iff.mpr (eq_i res_at (Term.int_eval (1)) rfl), trivial⟩ ⟨hq.1, hq.2.1, hq.2.2.1, (hq.2.2.2.sift fun y hy => Or.inr (N y hy)).mono (by decide) (by decide)⟩⟩
theorem main_1_1 : Claimed_1_1 := comes_1 fun _ _ _ _ _ _ h hF => ⟨h.1, hF⟩
theorem main_1_2 : Claimed_1_2 := comes_1 fun _ _ _ _ _ _ h hF => ⟨h.2.1, hF⟩
end Jvm.Pilot.@@N@@
namespace Jvm.Pilot.@@N@@
open Jvm Jvm.ClassFile Sem Op Lib Jvm.Free Jvm.Stand Jvm.Pilot.@@N@@.Jvm.D
/-! MADE BY PROGRAM (witnessworld.py) out of the Statement's table words and the real class files: 33 classes; the members and pool entries that the words name. The judged class is class 1, her method 1. -/
namespace start1
open Jvm.ClassFile
def u (s : String) : CpInfo := .utf8 (stringToUtf16 s)
/-- a pool by its gaps: so many unusable entries, then the entry; so many at the end -/
def gap : Nat → List CpInfo → List CpInfo
  | 0, r => r
  | n + 1, r => .unusable :: gap n r
def poolList (es : List (Nat × CpInfo)) (last : Nat) : List CpInfo := es.foldr (fun e r => gap e.1 (e.2 :: r)) (gap last [])
def pool (es : List (Nat × CpInfo)) (last : Nat) : Array CpInfo := ⟨poolList es last⟩
def fileOf (pool : Array CpInfo) (this : Nat) (attrs : Array Attribute := #[]) (ms : Array MethodInfo := #[]) (fl : Nat := 33) (sup : Nat := 0) (ifs : Array Nat := #[]) (fds : Array FieldInfo := #[]) : ClassFile where
  minorVersion := 0
  majorVersion := 65
  constantPool := pool
  accessFlags := fl
  thisClass := this
  superClass := sup
  interfaces := ifs
  fields := fds
  methods := ms
  attributes := attrs
def plain (name : String) (sup : Option ClassId) : Class where
  name := name
  kind := .ordinary
  loader := none
  accessFlags := 33
  super := sup
  interfaces := #[]
  cf := none
  fields := #[]
  methods := #[]
  instanceTypes := #[]
  staticTypes := #[]
  resolved := #[]
  callSites := []
  init := .initialized
  statics := none
  mirror := none

def pool0 : Array CpInfo := pool [(5, u "<init>"), (0, u "()V"), (1, .class_ 10), (1, u "java/lang/Object"), (85, u "clone"), (0, u "()Ljava/lang/Object;")] 26

def k0c0 : Code := { maxStack := 0, maxLocals := 1, code := object_method_1_code, exceptionTable := #[], attributes := #[] }
def k0m0 : Method := { name := "<init>", desc := "()V", sig := { parameters := [], returnType := none }, accessFlags := 1, code := some k0c0 }
def k0m1 : Method := { name := "clone", desc := "()Ljava/lang/Object;", sig := { parameters := [], returnType := some (.object "java/lang/Object") }, accessFlags := 260, code := none }
/-- java/lang/Object -/
def k0 : Class := { plain "java/lang/Object" none with
  accessFlags := 33
  interfaces := #[]
  cf := some (fileOf pool0 8 #[] #[{ accessFlags := 1, nameIndex := 5, descriptorIndex := 6, attributes := #[] }, { accessFlags := 260, nameIndex := 96, descriptorIndex := 97, attributes := #[] }] 33 0 #[] #[])
  fields := #[]
  methods := #[k0m0, k0m1]
  instanceTypes := #[]
  staticTypes := #[]
  resolved := Array.replicate 124 none
  statics := none }

def pool1 : Array CpInfo := pool [(2, .class_ 4), (0, .nameAndType 5 6), (0, u "java/lang/Object"), (0, u "<init>"), (0, u "()V"), (0, .class_ 8), (0, u "java/lang/String"), (0, .methodref 7 10), (0, .nameAndType 5 11), (0, u "([C)V"), (0, .methodref 7 13), (0, .nameAndType 14 15), (0, u "valueOf"), (0, u "(C)Ljava/lang/String;"), (0, .class_ 17), (0, u "com/example/anagrafe/anagrafe/atom/Markup"), (0, .methodref 16 3), (0, .methodref 16 20), (0, .nameAndType 21 22), (0, u "text"), (0, u "(Ljava/lang/String;)V"), (0, .methodref 16 24), (0, .nameAndType 25 26), (0, u "open"), (0, u "(Ljava/lang/String;Ljava/lang/String;)V"), (0, .methodref 16 28), (0, .nameAndType 29 6), (0, u "endEmpty"), (0, .methodref 16 31), (0, .nameAndType 32 33), (0, u "toByteArray"), (0, u "()[B"), (0, .class_ 35), (0, u "com/example/anagrafe/anagrafe/atom/MarkupEndEmptyPinLaw"), (2, u "law"), (0, u "(IIII)Z")] 5

def k1m0 : Method := { name := "<init>", desc := "()V", sig := { parameters := [], returnType := none }, accessFlags := 1, code := none }
def k1c1 : Code := { maxStack := 3, maxLocals := 19, code := code, exceptionTable := #[], attributes := #[] }
def k1m1 : Method := { name := "law", desc := "(IIII)Z", sig := { parameters := [.int, .int, .int, .int], returnType := some .boolean }, accessFlags := 9, code := some k1c1 }
/-- com/example/anagrafe/anagrafe/atom/MarkupEndEmptyPinLaw -/
def k1 : Class := { plain "com/example/anagrafe/anagrafe/atom/MarkupEndEmptyPinLaw" (some 0) with
  accessFlags := 49
  interfaces := #[]
  cf := some (fileOf pool1 34 #[] #[{ accessFlags := 1, nameIndex := 5, descriptorIndex := 6, attributes := #[] }, { accessFlags := 9, nameIndex := 38, descriptorIndex := 39, attributes := #[] }] 49 2 #[] #[])
  fields := #[]
  methods := #[k1m0, k1m1]
  instanceTypes := #[]
  staticTypes := #[]
  resolved := Array.replicate 45 none
  statics := none }

def pool2 : Array CpInfo := pool [(1, .class_ 2), (0, u "java/io/Serializable"), (0, .class_ 4), (0, u "java/lang/Object")] 2

/-- java/io/Serializable -/
def k2 : Class := { plain "java/io/Serializable" (some 0) with
  accessFlags := 1537
  interfaces := #[]
  cf := some (fileOf pool2 1 #[] #[] 1537 3 #[] #[])
  fields := #[]
  methods := #[]
  instanceTypes := #[]
  staticTypes := #[]
  resolved := Array.replicate 7 none
  statics := none }

def pool3 : Array CpInfo := pool [(1, .class_ 2), (0, u "java/lang/Comparable"), (0, .class_ 4), (0, u "java/lang/Object")] 7

/-- java/lang/Comparable -/
def k3 : Class := { plain "java/lang/Comparable" (some 0) with
  accessFlags := 1537
  interfaces := #[]
  cf := some (fileOf pool3 1 #[] #[] 1537 3 #[] #[])
  fields := #[]
  methods := #[]
  instanceTypes := #[]
  staticTypes := #[]
  resolved := Array.replicate 12 none
  statics := none }

def pool4 : Array CpInfo := pool [(2, .class_ 4), (1, u "java/lang/CharSequence"), (42, .class_ 48), (0, u "java/lang/CharSequence$1CodePointIterator"), (10, .class_ 60), (0, u "java/lang/CharSequence$1CharIterator"), (5, .class_ 67), (0, u "java/lang/Object")] 63

/-- java/lang/CharSequence -/
def k4 : Class := { plain "java/lang/CharSequence" (some 0) with
  accessFlags := 1537
  interfaces := #[]
  cf := some (fileOf pool4 2 #[.nestMembers #[47, 59]] #[] 1537 66 #[] #[])
  fields := #[]
  methods := #[]
  instanceTypes := #[]
  staticTypes := #[]
  resolved := Array.replicate 131 none
  statics := none }

def pool5 : Array CpInfo := pool [(1, .class_ 2), (0, u "java/lang/constant/Constable"), (0, .class_ 4), (0, u "java/lang/Object")] 6

/-- java/lang/constant/Constable -/
def k5 : Class := { plain "java/lang/constant/Constable" (some 0) with
  accessFlags := 1537
  interfaces := #[]
  cf := some (fileOf pool5 1 #[] #[] 1537 3 #[] #[])
  fields := #[]
  methods := #[]
  instanceTypes := #[]
  staticTypes := #[]
  resolved := Array.replicate 11 none
  statics := none }

def pool6 : Array CpInfo := pool [(1, .class_ 2), (0, u "java/lang/constant/ConstantDesc"), (0, .class_ 4), (0, u "java/lang/Object")] 32

/-- java/lang/constant/ConstantDesc -/
def k6 : Class := { plain "java/lang/constant/ConstantDesc" (some 0) with
  accessFlags := 1537
  interfaces := #[]
  cf := some (fileOf pool6 1 #[] #[] 1537 3 #[] #[])
  fields := #[]
  methods := #[]
  instanceTypes := #[]
  staticTypes := #[]
  resolved := Array.replicate 37 none
  statics := none }

def pool7 : Array CpInfo := pool [(1, .methodref 2 3), (0, .class_ 4), (0, .nameAndType 5 6), (0, u "java/lang/Object"), (0, u "<init>"), (0, u "()V"), (0, .string 8), (0, u ""), (0, .fieldref 10 11), (0, .class_ 12), (0, .nameAndType 13 14), (0, u "java/lang/String"), (0, u "value"), (0, u "[B"), (0, .fieldref 10 16), (0, .nameAndType 17 18), (0, u "coder"), (0, u "B"), (2, u "hash"), (0, u "I"), (2, u "hashIsZero"), (0, u "Z"), (0, .methodref 10 28), (0, .nameAndType 5 29), (0, u "([CIILjava/lang/Void;)V"), (8, .fieldref 10 39), (0, .nameAndType 40 26), (0, u "COMPACT_STRINGS"), (1, .class_ 44), (1, u "java/lang/StringUTF16"), (0, u "compress"), (1, .methodref 42 48), (0, .nameAndType 49 50), (0, u "coderFromArrayLen"), (0, u "([BI)B"), (2, u "toBytes"), (32, .fieldref 87 88), (0, .class_ 89), (0, .nameAndType 90 91), (0, u "sun/nio/cs/UTF_8"), (0, u "INSTANCE"), (0, u "Lsun/nio/cs/UTF_8;"), (1, .class_ 95), (1, u "java/lang/StringCoding"), (11, .class_ 109), (1, u "java/lang/StringLatin1"), (18, .methodref 93 129), (0, .nameAndType 130 131), (0, u "hasNegatives"), (0, u "([BII)Z"), (10, u "()Z"), (34, .methodref 42 178), (0, .nameAndType 45 179), (0, u "([CII)[B"), (29, .methodref 10 210), (0, .nameAndType 5 211), (0, u "([BB)V"), (40, .methodref 10 253), (0, .nameAndType 254 255), (0, u "encodeUTF8"), (0, u "(B[BZ)[B"), (23, .methodref 280 281), (0, .class_ 14), (0, .nameAndType 282 283), (0, u "clone"), (0, u "()Ljava/lang/Object;"), (33, u "encode"), (16, u "()I"), (0, .methodref 10 336), (0, .nameAndType 17 337), (0, u "()B"), (25, u "([BI)C"), (5, u "(C)Z"), (21, u "(II)V"), (35, u "(I)C"), (64, .methodref 10 493), (0, .nameAndType 494 142), (0, u "isLatin1"), (0, .methodref 107 496), (0, .nameAndType 497 363), (0, u "charAt"), (3, u "checkIndex"), (3, .methodref 10 506), (0, .nameAndType 507 334), (0, u "length"), (24, u "getBytes"), (2, .methodref 10 536), (0, .nameAndType 317 537), (0, u "(Ljava/nio/charset/Charset;B[B)[B"), (37, .class_ 576), (0, u "java/lang/CharSequence"), (22, u "CASE_INSENSITIVE_ORDER"), (0, u "Ljava/util/Comparator;"), (32, .methodref 10 634), (0, .nameAndType 635 636), (0, u "indexOf"), (0, u "(II)I"), (0, .methodref 107 638), (0, .nameAndType 635 639), (0, u "([BIII)I"), (125, u "(I)I"), (16, u "valueOf"), (0, u "(C)Ljava/lang/String;"), (226, u "([C)V"), (4, .methodref 107 1016), (0, .nameAndType 1017 369), (0, u "canEncode"), (0, .methodref 107 1019), (0, .nameAndType 53 1020), (0, u "(C)[B"), (32, .fieldref 1054 1055), (0, .class_ 1056), (0, .nameAndType 1057 1058), (0, u "jdk/internal/util/Preconditions"), (0, u "SIOOBE_FORMATTER"), (0, u "Ljava/util/function/BiFunction;"), (0, .methodref 1054 1060), (0, .nameAndType 501 1061), (0, u "(IILjava/util/function/BiFunction;)I"), (39, u "serialPersistentFields"), (0, u "[Ljava/io/ObjectStreamField;"), (0, .class_ 1104), (0, u "java/lang/String$CaseInsensitiveComparator"), (1, .class_ 1107), (0, u "java/io/Serializable"), (0, .class_ 1109), (0, u "java/lang/Comparable"), (0, .class_ 1111), (0, u "java/lang/constant/Constable"), (0, .class_ 1113), (0, u "java/lang/constant/ConstantDesc"), (2, u "serialVersionUID"), (0, u "J"), (3, u "REPL"), (0, u "C"), (2, u "LATIN1"), (1, u "UTF16"), (117, u "(Ljava/nio/charset/Charset;)[B")] 205

def k7m0 : Method := { name := "<init>", desc := "()V", sig := { parameters := [], returnType := none }, accessFlags := 1, code := none }
def k7c1 : Code := { maxStack := 5, maxLocals := 2, code := jdk_42_method_3_code, exceptionTable := #[], attributes := #[] }
def k7m1 : Method := { name := "<init>", desc := "([C)V", sig := { parameters := [(.array .char)], returnType := none }, accessFlags := 1, code := some k7c1 }
def k7c2 : Code := { maxStack := 4, maxLocals := 3, code := jdk_42_method_18_code, exceptionTable := #[], attributes := #[] }
def k7m2 : Method := { name := "encode", desc := "(Ljava/nio/charset/Charset;B[B)[B", sig := { parameters := [(.object "java/nio/charset/Charset"), .byte, (.array .byte)], returnType := some (.array .byte) }, accessFlags := 10, code := some k7c2 }
def k7c3 : Code := { maxStack := 5, maxLocals := 9, code := jdk_42_method_46_code, exceptionTable := #[], attributes := #[] }
def k7m3 : Method := { name := "encodeUTF8", desc := "(B[BZ)[B", sig := { parameters := [.byte, (.array .byte), .boolean], returnType := some (.array .byte) }, accessFlags := 10, code := some k7c3 }
def k7c4 : Code := { maxStack := 2, maxLocals := 1, code := jdk_42_method_54_code, exceptionTable := #[], attributes := #[] }
def k7m4 : Method := { name := "length", desc := "()I", sig := { parameters := [], returnType := some .int }, accessFlags := 1, code := some k7c4 }
def k7c5 : Code := { maxStack := 2, maxLocals := 2, code := jdk_42_method_56_code, exceptionTable := #[], attributes := #[] }
def k7m5 : Method := { name := "charAt", desc := "(I)C", sig := { parameters := [.int], returnType := some .char }, accessFlags := 1, code := some k7c5 }
def k7c6 : Code := { maxStack := 3, maxLocals := 2, code := jdk_42_method_64_code, exceptionTable := #[], attributes := #[] }
def k7m6 : Method := { name := "getBytes", desc := "(Ljava/nio/charset/Charset;)[B", sig := { parameters := [(.object "java/nio/charset/Charset")], returnType := some (.array .byte) }, accessFlags := 1, code := some k7c6 }
def k7c7 : Code := { maxStack := 3, maxLocals := 2, code := jdk_42_method_79_code, exceptionTable := #[], attributes := #[] }
def k7m7 : Method := { name := "indexOf", desc := "(I)I", sig := { parameters := [.int], returnType := some .int }, accessFlags := 1, code := some k7c7 }
def k7c8 : Code := { maxStack := 4, maxLocals := 3, code := jdk_42_method_80_code, exceptionTable := #[], attributes := #[] }
def k7m8 : Method := { name := "indexOf", desc := "(II)I", sig := { parameters := [.int, .int], returnType := some .int }, accessFlags := 1, code := some k7c8 }
def k7c9 : Code := { maxStack := 4, maxLocals := 1, code := jdk_42_method_139_code, exceptionTable := #[], attributes := #[] }
def k7m9 : Method := { name := "valueOf", desc := "(C)Ljava/lang/String;", sig := { parameters := [.char], returnType := some (.object "java/lang/String") }, accessFlags := 9, code := some k7c9 }
def k7c10 : Code := { maxStack := 4, maxLocals := 6, code := jdk_42_method_149_code, exceptionTable := #[], attributes := #[] }
def k7m10 : Method := { name := "<init>", desc := "([CIILjava/lang/Void;)V", sig := { parameters := [(.array .char), .int, .int, (.object "java/lang/Void")], returnType := none }, accessFlags := 2, code := some k7c10 }
def k7c11 : Code := { maxStack := 2, maxLocals := 3, code := jdk_42_method_151_code, exceptionTable := #[], attributes := #[] }
def k7m11 : Method := { name := "<init>", desc := "([BB)V", sig := { parameters := [(.array .byte), .byte], returnType := none }, accessFlags := 0, code := some k7c11 }
def k7c12 : Code := { maxStack := 1, maxLocals := 1, code := jdk_42_method_152_code, exceptionTable := #[], attributes := #[] }
def k7m12 : Method := { name := "coder", desc := "()B", sig := { parameters := [], returnType := some .byte }, accessFlags := 0, code := some k7c12 }
def k7c13 : Code := { maxStack := 1, maxLocals := 1, code := jdk_42_method_154_code, exceptionTable := #[], attributes := #[] }
def k7m13 : Method := { name := "isLatin1", desc := "()Z", sig := { parameters := [], returnType := some .boolean }, accessFlags := 0, code := some k7c13 }
def k7c14 : Code := { maxStack := 3, maxLocals := 2, code := jdk_42_method_155_code, exceptionTable := #[], attributes := #[] }
def k7m14 : Method := { name := "checkIndex", desc := "(II)V", sig := { parameters := [.int, .int], returnType := none }, accessFlags := 8, code := some k7c14 }
/-- java/lang/String -/
def k7 : Class := { plain "java/lang/String" (some 0) with
  accessFlags := 49
  interfaces := #[2, 3, 4, 5, 6]
  cf := some (fileOf pool7 10 #[.nestMembers #[1103]] #[{ accessFlags := 1, nameIndex := 5, descriptorIndex := 6, attributes := #[] }, { accessFlags := 1, nameIndex := 5, descriptorIndex := 1010, attributes := #[] }, { accessFlags := 10, nameIndex := 317, descriptorIndex := 537, attributes := #[] }, { accessFlags := 10, nameIndex := 254, descriptorIndex := 255, attributes := #[] }, { accessFlags := 1, nameIndex := 507, descriptorIndex := 334, attributes := #[] }, { accessFlags := 1, nameIndex := 497, descriptorIndex := 427, attributes := #[] }, { accessFlags := 1, nameIndex := 532, descriptorIndex := 1245, attributes := #[] }, { accessFlags := 1, nameIndex := 635, descriptorIndex := 765, attributes := #[] }, { accessFlags := 1, nameIndex := 635, descriptorIndex := 636, attributes := #[] }, { accessFlags := 9, nameIndex := 782, descriptorIndex := 783, attributes := #[] }, { accessFlags := 2, nameIndex := 5, descriptorIndex := 29, attributes := #[] }, { accessFlags := 0, nameIndex := 5, descriptorIndex := 211, attributes := #[] }, { accessFlags := 0, nameIndex := 17, descriptorIndex := 337, attributes := #[] }, { accessFlags := 0, nameIndex := 494, descriptorIndex := 142, attributes := #[] }, { accessFlags := 8, nameIndex := 501, descriptorIndex := 391, attributes := #[] }] 49 2 #[1106, 1108, 575, 1110, 1112] #[{ accessFlags := 18, nameIndex := 13, descriptorIndex := 14, attributes := #[] }, { accessFlags := 18, nameIndex := 17, descriptorIndex := 18, attributes := #[] }, { accessFlags := 2, nameIndex := 21, descriptorIndex := 22, attributes := #[] }, { accessFlags := 2, nameIndex := 25, descriptorIndex := 26, attributes := #[] }, { accessFlags := 26, nameIndex := 1116, descriptorIndex := 1117, attributes := #[] }, { accessFlags := 24, nameIndex := 40, descriptorIndex := 26, attributes := #[] }, { accessFlags := 26, nameIndex := 1101, descriptorIndex := 1102, attributes := #[] }, { accessFlags := 26, nameIndex := 1121, descriptorIndex := 1122, attributes := #[] }, { accessFlags := 25, nameIndex := 599, descriptorIndex := 600, attributes := #[] }, { accessFlags := 24, nameIndex := 1125, descriptorIndex := 18, attributes := #[] }, { accessFlags := 24, nameIndex := 1127, descriptorIndex := 18, attributes := #[] }])
  fields := #[{ name := "value", type := (.array .byte), accessFlags := 18, slot := 0, constantValue := 0 }, { name := "coder", type := .byte, accessFlags := 18, slot := 1, constantValue := 0 }, { name := "hash", type := .int, accessFlags := 2, slot := 2, constantValue := 0 }, { name := "hashIsZero", type := .boolean, accessFlags := 2, slot := 3, constantValue := 0 }, { name := "serialVersionUID", type := .long, accessFlags := 26, slot := 0, constantValue := 0 }, { name := "COMPACT_STRINGS", type := .boolean, accessFlags := 24, slot := 1, constantValue := 0 }, { name := "serialPersistentFields", type := (.array (.object "java/io/ObjectStreamField")), accessFlags := 26, slot := 2, constantValue := 0 }, { name := "REPL", type := .char, accessFlags := 26, slot := 3, constantValue := 0 }, { name := "CASE_INSENSITIVE_ORDER", type := (.object "java/util/Comparator"), accessFlags := 25, slot := 4, constantValue := 0 }, { name := "LATIN1", type := .byte, accessFlags := 24, slot := 5, constantValue := 0 }, { name := "UTF16", type := .byte, accessFlags := 24, slot := 6, constantValue := 0 }]
  methods := #[k7m0, k7m1, k7m2, k7m3, k7m4, k7m5, k7m6, k7m7, k7m8, k7m9, k7m10, k7m11, k7m12, k7m13, k7m14]
  instanceTypes := #[(.array .byte), .byte, .int, .boolean]
  staticTypes := #[.long, .boolean, (.array (.object "java/io/ObjectStreamField")), .char, (.object "java/util/Comparator"), .byte, .byte]
  resolved := Array.replicate 1451 none
  statics := some 0 }

def pool8 : Array CpInfo := pool [(6, .class_ 8), (1, u "java/lang/Object"), (0, u "<init>"), (0, u "()V"), (1, .class_ 14), (1, u "java/lang/StringUTF16"), (31, u "$assertionsDisabled"), (0, u "Z"), (13, u "HI_BYTE_SHIFT"), (0, u "I"), (2, u "LO_BYTE_SHIFT"), (49, .methodref 12 116), (0, .nameAndType 117 118), (0, u "compress"), (0, u "([CI[BII)I"), (3, u "([CII)[B"), (138, u "coderFromArrayLen"), (0, u "([BI)B"), (106, .class_ 371), (1, u "java/lang/StringUTF16$LinesSpliterator"), (58, u "MAX_LENGTH"), (196, .class_ 628), (0, u "java/lang/StringUTF16$CodePointsSpliterator"), (0, .class_ 630), (0, u "java/lang/StringUTF16$CharsSpliterator")] 4

def k8m0 : Method := { name := "<init>", desc := "()V", sig := { parameters := [], returnType := none }, accessFlags := 0, code := none }
def k8c1 : Code := { maxStack := 2, maxLocals := 2, code := jdk_52_method_15_code, exceptionTable := #[], attributes := #[] }
def k8m1 : Method := { name := "coderFromArrayLen", desc := "([BI)B", sig := { parameters := [(.array .byte), .int], returnType := some .byte }, accessFlags := 8, code := some k8c1 }
def k8c2 : Code := { maxStack := 5, maxLocals := 6, code := jdk_52_method_16_code, exceptionTable := #[], attributes := #[] }
def k8m2 : Method := { name := "compress", desc := "([CII)[B", sig := { parameters := [(.array .char), .int, .int], returnType := some (.array .byte) }, accessFlags := 9, code := some k8c2 }
def k8c3 : Code := { maxStack := 3, maxLocals := 7, code := jdk_52_method_21_code, exceptionTable := #[], attributes := #[] }
def k8m3 : Method := { name := "compress", desc := "([CI[BII)I", sig := { parameters := [(.array .char), .int, (.array .byte), .int, .int], returnType := some .int }, accessFlags := 9, code := some k8c3 }
/-- java/lang/StringUTF16 -/
def k8 : Class := { plain "java/lang/StringUTF16" (some 0) with
  accessFlags := 48
  interfaces := #[]
  cf := some (fileOf pool8 12 #[.nestMembers #[627, 629, 369]] #[{ accessFlags := 0, nameIndex := 9, descriptorIndex := 10, attributes := #[] }, { accessFlags := 8, nameIndex := 261, descriptorIndex := 262, attributes := #[] }, { accessFlags := 9, nameIndex := 117, descriptorIndex := 122, attributes := #[] }, { accessFlags := 9, nameIndex := 117, descriptorIndex := 118, attributes := #[] }] 48 6 #[] #[{ accessFlags := 26, nameIndex := 61, descriptorIndex := 62, attributes := #[] }, { accessFlags := 26, nameIndex := 65, descriptorIndex := 62, attributes := #[] }, { accessFlags := 24, nameIndex := 430, descriptorIndex := 62, attributes := #[] }, { accessFlags := 4120, nameIndex := 46, descriptorIndex := 47, attributes := #[] }])
  fields := #[{ name := "HI_BYTE_SHIFT", type := .int, accessFlags := 26, slot := 0, constantValue := 0 }, { name := "LO_BYTE_SHIFT", type := .int, accessFlags := 26, slot := 1, constantValue := 0 }, { name := "MAX_LENGTH", type := .int, accessFlags := 24, slot := 2, constantValue := 0 }, { name := "$assertionsDisabled", type := .boolean, accessFlags := 4120, slot := 3, constantValue := 0 }]
  methods := #[k8m0, k8m1, k8m2, k8m3]
  instanceTypes := #[]
  staticTypes := #[.int, .int, .int, .boolean]
  resolved := Array.replicate 635 none
  statics := none }

def pool9 : Array CpInfo := pool [(1, .class_ 2), (0, u "java/lang/String"), (1, .class_ 6), (1, u "java/lang/Object"), (0, u "<init>"), (0, u "()V"), (0, .methodref 1 10), (0, .nameAndType 11 12), (0, u "checkIndex"), (0, u "(II)V"), (1, .class_ 16), (1, u "java/lang/StringLatin1"), (21, .methodref 39 40), (0, .class_ 41), (0, .nameAndType 42 43), (0, u "java/lang/Math"), (0, u "min"), (0, u "(II)I"), (9, u "([BI)C"), (34, .methodref 14 89), (0, .nameAndType 90 91), (0, u "canEncode"), (0, u "(I)Z"), (0, .methodref 39 93), (0, .nameAndType 94 43), (0, u "max"), (0, .methodref 14 96), (0, .nameAndType 97 98), (0, u "indexOfChar"), (0, u "([BIII)I"), (2, u "indexOf"), (3, u "(C)Z"), (15, u "$assertionsDisabled"), (0, u "Z"), (98, .class_ 223), (1, u "java/lang/StringLatin1$LinesSpliterator"), (28, u "charAt"), (127, u "toBytes"), (1, u "(C)[B"), (7, .class_ 391), (0, u "java/lang/StringLatin1$CharsSpliterator")] 3

def k9m0 : Method := { name := "<init>", desc := "()V", sig := { parameters := [], returnType := none }, accessFlags := 0, code := none }
def k9c1 : Code := { maxStack := 2, maxLocals := 2, code := jdk_43_method_2_code, exceptionTable := #[], attributes := #[] }
def k9m1 : Method := { name := "charAt", desc := "([BI)C", sig := { parameters := [(.array .byte), .int], returnType := some .char }, accessFlags := 9, code := some k9c1 }
def k9c2 : Code := { maxStack := 2, maxLocals := 1, code := jdk_43_method_3_code, exceptionTable := #[], attributes := #[] }
def k9m2 : Method := { name := "canEncode", desc := "(C)Z", sig := { parameters := [.char], returnType := some .boolean }, accessFlags := 9, code := some k9c2 }
def k9c3 : Code := { maxStack := 2, maxLocals := 1, code := jdk_43_method_4_code, exceptionTable := #[], attributes := #[] }
def k9m3 : Method := { name := "canEncode", desc := "(I)Z", sig := { parameters := [.int], returnType := some .boolean }, accessFlags := 9, code := some k9c3 }
def k9c4 : Code := { maxStack := 4, maxLocals := 4, code := jdk_43_method_22_code, exceptionTable := #[], attributes := #[] }
def k9m4 : Method := { name := "indexOf", desc := "([BIII)I", sig := { parameters := [(.array .byte), .int, .int, .int], returnType := some .int }, accessFlags := 9, code := some k9c4 }
def k9c5 : Code := { maxStack := 2, maxLocals := 6, code := jdk_43_method_23_code, exceptionTable := #[], attributes := #[] }
def k9m5 : Method := { name := "indexOfChar", desc := "([BIII)I", sig := { parameters := [(.array .byte), .int, .int, .int], returnType := some .int }, accessFlags := 10, code := some k9c5 }
def k9c6 : Code := { maxStack := 4, maxLocals := 1, code := jdk_43_method_46_code, exceptionTable := #[], attributes := #[] }
def k9m6 : Method := { name := "toBytes", desc := "(C)[B", sig := { parameters := [.char], returnType := some (.array .byte) }, accessFlags := 9, code := some k9c6 }
/-- java/lang/StringLatin1 -/
def k9 : Class := { plain "java/lang/StringLatin1" (some 0) with
  accessFlags := 48
  interfaces := #[]
  cf := some (fileOf pool9 14 #[.nestMembers #[390, 221]] #[{ accessFlags := 0, nameIndex := 7, descriptorIndex := 8, attributes := #[] }, { accessFlags := 9, nameIndex := 252, descriptorIndex := 53, attributes := #[] }, { accessFlags := 9, nameIndex := 90, descriptorIndex := 105, attributes := #[] }, { accessFlags := 9, nameIndex := 90, descriptorIndex := 91, attributes := #[] }, { accessFlags := 9, nameIndex := 101, descriptorIndex := 98, attributes := #[] }, { accessFlags := 10, nameIndex := 97, descriptorIndex := 98, attributes := #[] }, { accessFlags := 9, nameIndex := 380, descriptorIndex := 382, attributes := #[] }] 48 4 #[] #[{ accessFlags := 4120, nameIndex := 121, descriptorIndex := 122, attributes := #[] }])
  fields := #[{ name := "$assertionsDisabled", type := .boolean, accessFlags := 4120, slot := 0, constantValue := 0 }]
  methods := #[k9m0, k9m1, k9m2, k9m3, k9m4, k9m5, k9m6]
  instanceTypes := #[]
  staticTypes := #[.boolean]
  resolved := Array.replicate 395 none
  statics := none }

def pool10 : Array CpInfo := pool [(1, .methodref 2 3), (0, .class_ 4), (0, .nameAndType 5 6), (0, u "java/lang/Object"), (0, u "<init>"), (0, u "()V"), (0, .class_ 8), (0, u "com/example/anagrafe/anagrafe/atom/Markup"), (0, .fieldref 7 10), (0, .nameAndType 11 12), (0, u "bytes"), (0, u "[B"), (2, .methodref 16 17), (0, .class_ 18), (0, .nameAndType 19 20), (0, u "java/lang/String"), (0, u "length"), (0, u "()I"), (0, .methodref 7 22), (0, .nameAndType 23 24), (0, u "room"), (0, u "(I)V"), (0, .methodref 7 26), (0, .nameAndType 27 28), (0, u "ascii"), (0, u "(Ljava/lang/String;)V"), (0, .fieldref 7 30), (0, .nameAndType 31 32), (0, u "size"), (0, u "I"), (1, .class_ 36), (1, u "com/example/anagrafe/anagrafe/atom/Markup$Escape"), (1, u "Lcom/example/anagrafe/anagrafe/atom/Markup$Escape;"), (0, .methodref 7 40), (0, .nameAndType 41 42), (0, u "put"), (0, u "(Ljava/lang/String;Lcom/example/anagrafe/anagrafe/atom/Markup$Escape;)V"), (0, .fieldref 34 44), (0, .nameAndType 45 38), (0, u "TEXT"), (0, .methodref 47 48), (0, .class_ 49), (0, .nameAndType 50 51), (0, u "java/util/Arrays"), (0, u "copyOf"), (0, u "([BI)[B"), (0, .methodref 53 54), (0, .class_ 55), (0, .nameAndType 56 57), (0, u "java/lang/Math"), (0, u "max"), (0, u "(II)I"), (0, .methodref 16 59), (0, .nameAndType 60 61), (0, u "charAt"), (0, u "(I)C"), (0, .methodref 34 63), (0, .nameAndType 64 65), (0, u "isNeededBy"), (0, u "(Ljava/lang/String;)Z"), (0, .fieldref 67 68), (0, .class_ 69), (0, .nameAndType 70 71), (0, u "java/nio/charset/StandardCharsets"), (0, u "UTF_8"), (0, u "Ljava/nio/charset/Charset;"), (0, .methodref 16 73), (0, .nameAndType 74 75), (0, u "getBytes"), (0, u "(Ljava/nio/charset/Charset;)[B"), (0, .methodref 77 78), (0, .class_ 79), (0, .nameAndType 80 81), (0, u "java/lang/System"), (0, u "arraycopy"), (0, u "(Ljava/lang/Object;ILjava/lang/Object;II)V"), (0, .methodref 34 83), (0, .nameAndType 84 85), (0, u "escapes"), (0, u "(C)Z"), (25, u "FIRST_SIZE"), (2, u "MOST_BYTES_PER_CHAR"), (1, u "BULK_LENGTH"), (1, u "UNPAIRED"), (0, u "B"), (1, u "DECLARATION"), (0, u "Ljava/lang/String;"), (3, u "open"), (0, u "(Ljava/lang/String;Ljava/lang/String;)V"), (2, u "endEmpty"), (0, u "text"), (1, u "toByteArray"), (0, u "()[B")] 7

def k10c0 : Code := { maxStack := 2, maxLocals := 1, code := prog_9_method_1_code, exceptionTable := #[], attributes := #[] }
def k10m0 : Method := { name := "<init>", desc := "()V", sig := { parameters := [], returnType := none }, accessFlags := 0, code := some k10c0 }
def k10c1 : Code := { maxStack := 5, maxLocals := 3, code := prog_9_method_3_code, exceptionTable := #[], attributes := #[] }
def k10m1 : Method := { name := "open", desc := "(Ljava/lang/String;Ljava/lang/String;)V", sig := { parameters := [(.object "java/lang/String"), (.object "java/lang/String")], returnType := none }, accessFlags := 0, code := some k10c1 }
def k10c2 : Code := { maxStack := 5, maxLocals := 1, code := prog_9_method_6_code, exceptionTable := #[], attributes := #[] }
def k10m2 : Method := { name := "endEmpty", desc := "()V", sig := { parameters := [], returnType := none }, accessFlags := 0, code := some k10c2 }
def k10c3 : Code := { maxStack := 3, maxLocals := 2, code := prog_9_method_7_code, exceptionTable := #[], attributes := #[] }
def k10m3 : Method := { name := "text", desc := "(Ljava/lang/String;)V", sig := { parameters := [(.object "java/lang/String")], returnType := none }, accessFlags := 0, code := some k10c3 }
def k10c4 : Code := { maxStack := 2, maxLocals := 1, code := prog_9_method_9_code, exceptionTable := #[], attributes := #[] }
def k10m4 : Method := { name := "toByteArray", desc := "()[B", sig := { parameters := [], returnType := some (.array .byte) }, accessFlags := 0, code := some k10c4 }
def k10c5 : Code := { maxStack := 4, maxLocals := 3, code := prog_9_method_10_code, exceptionTable := #[], attributes := #[] }
def k10m5 : Method := { name := "room", desc := "(I)V", sig := { parameters := [.int], returnType := none }, accessFlags := 2, code := some k10c5 }
def k10c6 : Code := { maxStack := 4, maxLocals := 5, code := prog_9_method_11_code, exceptionTable := #[], attributes := #[] }
def k10m6 : Method := { name := "ascii", desc := "(Ljava/lang/String;)V", sig := { parameters := [(.object "java/lang/String")], returnType := none }, accessFlags := 2, code := some k10c6 }
def k10c7 : Code := { maxStack := 5, maxLocals := 8, code := prog_9_method_12_code, exceptionTable := #[], attributes := #[] }
def k10m7 : Method := { name := "put", desc := "(Ljava/lang/String;Lcom/example/anagrafe/anagrafe/atom/Markup$Escape;)V", sig := { parameters := [(.object "java/lang/String"), (.object "com/example/anagrafe/anagrafe/atom/Markup$Escape")], returnType := none }, accessFlags := 2, code := some k10c7 }
/-- com/example/anagrafe/anagrafe/atom/Markup -/
def k10 : Class := { plain "com/example/anagrafe/anagrafe/atom/Markup" (some 0) with
  accessFlags := 32
  interfaces := #[]
  cf := some (fileOf pool10 7 #[.nestMembers #[34]] #[{ accessFlags := 0, nameIndex := 5, descriptorIndex := 6, attributes := #[] }, { accessFlags := 0, nameIndex := 126, descriptorIndex := 127, attributes := #[] }, { accessFlags := 0, nameIndex := 130, descriptorIndex := 6, attributes := #[] }, { accessFlags := 0, nameIndex := 131, descriptorIndex := 28, attributes := #[] }, { accessFlags := 0, nameIndex := 133, descriptorIndex := 134, attributes := #[] }, { accessFlags := 2, nameIndex := 23, descriptorIndex := 24, attributes := #[] }, { accessFlags := 2, nameIndex := 27, descriptorIndex := 28, attributes := #[] }, { accessFlags := 2, nameIndex := 41, descriptorIndex := 42, attributes := #[] }] 32 2 #[] #[{ accessFlags := 26, nameIndex := 111, descriptorIndex := 32, attributes := #[] }, { accessFlags := 26, nameIndex := 114, descriptorIndex := 32, attributes := #[] }, { accessFlags := 26, nameIndex := 116, descriptorIndex := 32, attributes := #[] }, { accessFlags := 26, nameIndex := 118, descriptorIndex := 119, attributes := #[] }, { accessFlags := 26, nameIndex := 121, descriptorIndex := 122, attributes := #[] }, { accessFlags := 2, nameIndex := 11, descriptorIndex := 12, attributes := #[] }, { accessFlags := 2, nameIndex := 31, descriptorIndex := 32, attributes := #[] }])
  fields := #[{ name := "FIRST_SIZE", type := .int, accessFlags := 26, slot := 0, constantValue := 0 }, { name := "MOST_BYTES_PER_CHAR", type := .int, accessFlags := 26, slot := 1, constantValue := 0 }, { name := "BULK_LENGTH", type := .int, accessFlags := 26, slot := 2, constantValue := 0 }, { name := "UNPAIRED", type := .byte, accessFlags := 26, slot := 3, constantValue := 0 }, { name := "DECLARATION", type := (.object "java/lang/String"), accessFlags := 26, slot := 4, constantValue := 0 }, { name := "bytes", type := (.array .byte), accessFlags := 2, slot := 0, constantValue := 0 }, { name := "size", type := .int, accessFlags := 2, slot := 1, constantValue := 0 }]
  methods := #[k10m0, k10m1, k10m2, k10m3, k10m4, k10m5, k10m6, k10m7]
  instanceTypes := #[(.array .byte), .int]
  staticTypes := #[.int, .int, .int, .byte, (.object "java/lang/String")]
  resolved := Array.replicate 142 none
  statics := none }

def pool11 : Array CpInfo := pool [(2, .class_ 4), (1, u "java/lang/Object"), (0, u "<init>"), (0, u "()V"), (7, .class_ 16), (1, u "java/util/Arrays"), (57, .class_ 76), (1, u "java/util/Arrays$NaturalOrder"), (36, .class_ 115), (1, u "java/util/Arrays$LegacyMergeSort"), (1, u "Z"), (32, .methodref 151 152), (0, .class_ 153), (0, .nameAndType 154 155), (0, u "java/lang/System"), (0, u "arraycopy"), (0, u "(Ljava/lang/Object;ILjava/lang/Object;II)V"), (146, u "copyOf"), (1, .methodref 305 306), (0, .class_ 307), (0, .nameAndType 308 309), (0, u "java/lang/Math"), (0, u "min"), (0, u "(II)I"), (65, .class_ 376), (0, u "java/util/Arrays$ArrayList"), (68, u "$assertionsDisabled"), (269, u "MIN_ARRAY_SORT_GRAN"), (0, u "I"), (2, u "INSERTIONSORT_THRESHOLD"), (149, u "([BI)[B"), (105, .class_ 976), (0, u "java/util/Arrays$ArrayItr")] 52

def k11m0 : Method := { name := "<init>", desc := "()V", sig := { parameters := [], returnType := none }, accessFlags := 2, code := none }
def k11c1 : Code := { maxStack := 6, maxLocals := 3, code := jdk_65_method_121_code, exceptionTable := #[], attributes := #[] }
def k11m1 : Method := { name := "copyOf", desc := "([BI)[B", sig := { parameters := [(.array .byte), .int], returnType := some (.array .byte) }, accessFlags := 9, code := some k11c1 }
/-- java/util/Arrays -/
def k11 : Class := { plain "java/util/Arrays" (some 0) with
  accessFlags := 49
  interfaces := #[]
  cf := some (fileOf pool11 14 #[.nestMembers #[975, 375, 113, 74]] #[{ accessFlags := 2, nameIndex := 5, descriptorIndex := 6, attributes := #[] }, { accessFlags := 9, nameIndex := 302, descriptorIndex := 869, attributes := #[] }] 49 2 #[] #[{ accessFlags := 26, nameIndex := 715, descriptorIndex := 716, attributes := #[] }, { accessFlags := 26, nameIndex := 719, descriptorIndex := 716, attributes := #[] }, { accessFlags := 4120, nameIndex := 445, descriptorIndex := 117, attributes := #[] }])
  fields := #[{ name := "MIN_ARRAY_SORT_GRAN", type := .int, accessFlags := 26, slot := 0, constantValue := 0 }, { name := "INSERTIONSORT_THRESHOLD", type := .int, accessFlags := 26, slot := 1, constantValue := 0 }, { name := "$assertionsDisabled", type := .boolean, accessFlags := 4120, slot := 2, constantValue := 0 }]
  methods := #[k11m0, k11m1]
  instanceTypes := #[]
  staticTypes := #[.int, .int, .boolean]
  resolved := Array.replicate 1029 none
  statics := none }

def pool12 : Array CpInfo := pool [(1, .class_ 2), (0, u "java/lang/Math"), (1, .class_ 6), (1, u "java/lang/Object"), (0, u "<init>"), (0, u "()V"), (89, .class_ 100), (1, u "java/lang/Math$RandomNumberGeneratorHolder"), (71, u "negativeZeroFloatBits"), (0, u "J"), (2, u "negativeZeroDoubleBits"), (21, u "max"), (2, u "min"), (43, u "$assertionsDisabled"), (0, u "Z"), (88, u "(II)I"), (2, u "twoToTheDoubleScaleDown"), (0, u "D"), (4, u "twoToTheDoubleScaleUp"), (9, u "E"), (3, u "PI"), (2, u "TAU"), (2, u "DEGREES_TO_RADIANS"), (0, u "RADIANS_TO_DEGREES")] 94

def k12m0 : Method := { name := "<init>", desc := "()V", sig := { parameters := [], returnType := none }, accessFlags := 2, code := none }
def k12c1 : Code := { maxStack := 2, maxLocals := 2, code := jdk_29_method_65_code, exceptionTable := #[], attributes := #[] }
def k12m1 : Method := { name := "max", desc := "(II)I", sig := { parameters := [.int, .int], returnType := some .int }, accessFlags := 9, code := some k12c1 }
def k12c2 : Code := { maxStack := 2, maxLocals := 2, code := jdk_29_method_69_code, exceptionTable := #[], attributes := #[] }
def k12m2 : Method := { name := "min", desc := "(II)I", sig := { parameters := [.int, .int], returnType := some .int }, accessFlags := 9, code := some k12c2 }
/-- java/lang/Math -/
def k12 : Class := { plain "java/lang/Math" (some 0) with
  accessFlags := 49
  interfaces := #[]
  cf := some (fileOf pool12 1 #[.nestMembers #[98]] #[{ accessFlags := 2, nameIndex := 7, descriptorIndex := 8, attributes := #[] }, { accessFlags := 9, nameIndex := 198, descriptorIndex := 335, attributes := #[] }, { accessFlags := 9, nameIndex := 201, descriptorIndex := 335, attributes := #[] }] 49 4 #[] #[{ accessFlags := 25, nameIndex := 354, descriptorIndex := 339, attributes := #[] }, { accessFlags := 25, nameIndex := 358, descriptorIndex := 339, attributes := #[] }, { accessFlags := 25, nameIndex := 361, descriptorIndex := 339, attributes := #[] }, { accessFlags := 26, nameIndex := 364, descriptorIndex := 339, attributes := #[] }, { accessFlags := 26, nameIndex := 365, descriptorIndex := 339, attributes := #[] }, { accessFlags := 26, nameIndex := 172, descriptorIndex := 173, attributes := #[] }, { accessFlags := 26, nameIndex := 176, descriptorIndex := 173, attributes := #[] }, { accessFlags := 8, nameIndex := 344, descriptorIndex := 339, attributes := #[] }, { accessFlags := 8, nameIndex := 338, descriptorIndex := 339, attributes := #[] }, { accessFlags := 4120, nameIndex := 245, descriptorIndex := 246, attributes := #[] }])
  fields := #[{ name := "E", type := .double, accessFlags := 25, slot := 0, constantValue := 0 }, { name := "PI", type := .double, accessFlags := 25, slot := 1, constantValue := 0 }, { name := "TAU", type := .double, accessFlags := 25, slot := 2, constantValue := 0 }, { name := "DEGREES_TO_RADIANS", type := .double, accessFlags := 26, slot := 3, constantValue := 0 }, { name := "RADIANS_TO_DEGREES", type := .double, accessFlags := 26, slot := 4, constantValue := 0 }, { name := "negativeZeroFloatBits", type := .long, accessFlags := 26, slot := 5, constantValue := 0 }, { name := "negativeZeroDoubleBits", type := .long, accessFlags := 26, slot := 6, constantValue := 0 }, { name := "twoToTheDoubleScaleUp", type := .double, accessFlags := 8, slot := 7, constantValue := 0 }, { name := "twoToTheDoubleScaleDown", type := .double, accessFlags := 8, slot := 8, constantValue := 0 }, { name := "$assertionsDisabled", type := .boolean, accessFlags := 4120, slot := 9, constantValue := 0 }]
  methods := #[k12m0, k12m1, k12m2]
  instanceTypes := #[]
  staticTypes := #[.double, .double, .double, .double, .double, .long, .long, .double, .double, .boolean]
  resolved := Array.replicate 460 none
  statics := none }

def pool13 : Array CpInfo := pool [(2, .class_ 4), (1, u "java/lang/Object"), (0, u "<init>"), (0, u "()V"), (1, .class_ 10), (1, u "java/lang/System"), (0, u "allowSecurityManager"), (0, u "I"), (16, u "cons"), (0, u "Ljava/io/Console;"), (77, .class_ 110), (1, u "java/lang/System$CallersHolder"), (43, u "initialErrStream"), (0, u "Ljava/io/PrintStream;"), (19, u "security"), (0, u "Ljava/lang/SecurityManager;"), (31, .class_ 209), (0, u "java/lang/System$1"), (7, u "props"), (0, u "Ljava/util/Properties;"), (2, u "lineSeparator"), (0, u "Ljava/lang/String;"), (96, .class_ 321), (1, u "java/lang/System$LoggerFinder"), (5, .class_ 328), (0, u "java/lang/System$Logger"), (67, u "err"), (2, u "out"), (91, u "notSupportedJnuEncoding"), (15, u "in"), (17, u "initialIn"), (0, u "Ljava/io/InputStream;"), (35, u "bootLayer"), (0, u "Ljava/lang/ModuleLayer;"), (99, .class_ 664), (0, u "java/lang/System$2"), (9, u "NEVER"), (2, u "MAYBE"), (49, u "arraycopy"), (0, u "(Ljava/lang/Object;ILjava/lang/Object;II)V"), (72, .class_ 802), (0, u "java/lang/System$Logger$Level")] 31

def k13m0 : Method := { name := "<init>", desc := "()V", sig := { parameters := [], returnType := none }, accessFlags := 2, code := none }
def k13m1 : Method := { name := "arraycopy", desc := "(Ljava/lang/Object;ILjava/lang/Object;II)V", sig := { parameters := [(.object "java/lang/Object"), .int, (.object "java/lang/Object"), .int, .int], returnType := none }, accessFlags := 265, code := none }
/-- java/lang/System -/
def k13 : Class := { plain "java/lang/System" (some 0) with
  accessFlags := 49
  interfaces := #[]
  cf := some (fileOf pool13 8 #[.nestMembers #[319, 327, 801, 108, 663, 208]] #[{ accessFlags := 2, nameIndex := 5, descriptorIndex := 6, attributes := #[] }, { accessFlags := 265, nameIndex := 727, descriptorIndex := 728, attributes := #[] }] 49 2 #[] #[{ accessFlags := 25, nameIndex := 507, descriptorIndex := 526, attributes := #[] }, { accessFlags := 25, nameIndex := 399, descriptorIndex := 155, attributes := #[] }, { accessFlags := 25, nameIndex := 396, descriptorIndex := 155, attributes := #[] }, { accessFlags := 10, nameIndex := 525, descriptorIndex := 526, attributes := #[] }, { accessFlags := 26, nameIndex := 674, descriptorIndex := 12, attributes := #[] }, { accessFlags := 26, nameIndex := 677, descriptorIndex := 12, attributes := #[] }, { accessFlags := 10, nameIndex := 11, descriptorIndex := 12, attributes := #[] }, { accessFlags := 74, nameIndex := 175, descriptorIndex := 176, attributes := #[] }, { accessFlags := 10, nameIndex := 491, descriptorIndex := 222, attributes := #[] }, { accessFlags := 74, nameIndex := 29, descriptorIndex := 30, attributes := #[] }, { accessFlags := 74, nameIndex := 154, descriptorIndex := 155, attributes := #[] }, { accessFlags := 10, nameIndex := 217, descriptorIndex := 218, attributes := #[] }, { accessFlags := 10, nameIndex := 221, descriptorIndex := 222, attributes := #[] }, { accessFlags := 8, nameIndex := 562, descriptorIndex := 563, attributes := #[] }])
  fields := #[{ name := "in", type := (.object "java/io/InputStream"), accessFlags := 25, slot := 0, constantValue := 0 }, { name := "out", type := (.object "java/io/PrintStream"), accessFlags := 25, slot := 1, constantValue := 0 }, { name := "err", type := (.object "java/io/PrintStream"), accessFlags := 25, slot := 2, constantValue := 0 }, { name := "initialIn", type := (.object "java/io/InputStream"), accessFlags := 10, slot := 3, constantValue := 0 }, { name := "NEVER", type := .int, accessFlags := 26, slot := 4, constantValue := 0 }, { name := "MAYBE", type := .int, accessFlags := 26, slot := 5, constantValue := 0 }, { name := "allowSecurityManager", type := .int, accessFlags := 10, slot := 6, constantValue := 0 }, { name := "security", type := (.object "java/lang/SecurityManager"), accessFlags := 74, slot := 7, constantValue := 0 }, { name := "notSupportedJnuEncoding", type := (.object "java/lang/String"), accessFlags := 10, slot := 8, constantValue := 0 }, { name := "cons", type := (.object "java/io/Console"), accessFlags := 74, slot := 9, constantValue := 0 }, { name := "initialErrStream", type := (.object "java/io/PrintStream"), accessFlags := 74, slot := 10, constantValue := 0 }, { name := "props", type := (.object "java/util/Properties"), accessFlags := 10, slot := 11, constantValue := 0 }, { name := "lineSeparator", type := (.object "java/lang/String"), accessFlags := 10, slot := 12, constantValue := 0 }, { name := "bootLayer", type := (.object "java/lang/ModuleLayer"), accessFlags := 8, slot := 13, constantValue := 0 }]
  methods := #[k13m0, k13m1]
  instanceTypes := #[]
  staticTypes := #[(.object "java/io/InputStream"), (.object "java/io/PrintStream"), (.object "java/io/PrintStream"), (.object "java/io/InputStream"), .int, .int, .int, (.object "java/lang/SecurityManager"), (.object "java/lang/String"), (.object "java/io/Console"), (.object "java/io/PrintStream"), (.object "java/util/Properties"), (.object "java/lang/String"), (.object "java/lang/ModuleLayer")]
  resolved := Array.replicate 834 none
  statics := none }

def pool14 : Array CpInfo := pool [(2, .class_ 4), (1, u "java/lang/Enum"), (0, u "name"), (0, u "Ljava/lang/String;"), (2, u "ordinal"), (0, u "I"), (1, .class_ 14), (1, u "java/lang/Object"), (4, u "hash"), (86, .class_ 108), (1, u "java/lang/Enum$EnumDesc"), (2, .class_ 112), (0, u "java/lang/constant/Constable"), (0, .class_ 114), (0, u "java/lang/Comparable"), (0, .class_ 116), (0, u "java/io/Serializable")] 87

/-- java/lang/Enum -/
def k14 : Class := { plain "java/lang/Enum" (some 0) with
  accessFlags := 1057
  interfaces := #[5, 3, 2]
  cf := some (fileOf pool14 2 #[.nestMembers #[106]] #[] 1057 12 #[111, 113, 115] #[{ accessFlags := 18, nameIndex := 5, descriptorIndex := 6, attributes := #[] }, { accessFlags := 18, nameIndex := 9, descriptorIndex := 10, attributes := #[] }, { accessFlags := 2, nameIndex := 19, descriptorIndex := 10, attributes := #[] }])
  fields := #[{ name := "name", type := (.object "java/lang/String"), accessFlags := 18, slot := 0, constantValue := 0 }, { name := "ordinal", type := .int, accessFlags := 18, slot := 1, constantValue := 0 }, { name := "hash", type := .int, accessFlags := 2, slot := 2, constantValue := 0 }]
  methods := #[]
  instanceTypes := #[(.object "java/lang/String"), .int, .int]
  staticTypes := #[]
  resolved := Array.replicate 204 none
  statics := none }

def pool15 : Array CpInfo := pool [(1, .class_ 2), (0, u "com/example/anagrafe/anagrafe/atom/Markup$Escape"), (2, u "TEXT"), (0, u "Lcom/example/anagrafe/anagrafe/atom/Markup$Escape;"), (2, u "ATTRIBUTE"), (2, u "$VALUES"), (0, u "[Lcom/example/anagrafe/anagrafe/atom/Markup$Escape;"), (6, .class_ 22), (1, u "java/lang/Enum"), (6, .fieldref 1 30), (0, .nameAndType 31 32), (0, u "escaped"), (0, u "[Z"), (0, .fieldref 1 34), (0, .nameAndType 35 36), (0, u "characters"), (0, u "Ljava/lang/String;"), (0, .methodref 38 39), (0, .class_ 40), (0, .nameAndType 41 42), (0, u "java/lang/String"), (0, u "length"), (0, u "()I"), (0, .methodref 38 44), (0, .nameAndType 45 46), (0, u "charAt"), (0, u "(I)C"), (0, .methodref 38 48), (0, .nameAndType 49 50), (0, u "indexOf"), (0, u "(I)I"), (37, u "escapes"), (0, u "(C)Z"), (0, u "isNeededBy"), (0, u "(Ljava/lang/String;)Z"), (7, .class_ 100), (0, u "com/example/anagrafe/anagrafe/atom/Markup")] 16

def k15c0 : Code := { maxStack := 2, maxLocals := 2, code := prog_10_method_4_code, exceptionTable := #[], attributes := #[] }
def k15m0 : Method := { name := "escapes", desc := "(C)Z", sig := { parameters := [.char], returnType := some .boolean }, accessFlags := 0, code := some k15c0 }
def k15c1 : Code := { maxStack := 3, maxLocals := 3, code := prog_10_method_5_code, exceptionTable := #[], attributes := #[] }
def k15m1 : Method := { name := "isNeededBy", desc := "(Ljava/lang/String;)Z", sig := { parameters := [(.object "java/lang/String")], returnType := some .boolean }, accessFlags := 0, code := some k15c1 }
/-- com/example/anagrafe/anagrafe/atom/Markup$Escape -/
def k15 : Class := { plain "com/example/anagrafe/anagrafe/atom/Markup$Escape" (some 14) with
  accessFlags := 16432
  interfaces := #[]
  cf := some (fileOf pool15 1 #[.nestHost 99] #[{ accessFlags := 0, nameIndex := 88, descriptorIndex := 89, attributes := #[] }, { accessFlags := 0, nameIndex := 90, descriptorIndex := 91, attributes := #[] }] 16432 20 #[] #[{ accessFlags := 16409, nameIndex := 5, descriptorIndex := 6, attributes := #[] }, { accessFlags := 16409, nameIndex := 9, descriptorIndex := 6, attributes := #[] }, { accessFlags := 18, nameIndex := 35, descriptorIndex := 36, attributes := #[] }, { accessFlags := 18, nameIndex := 31, descriptorIndex := 32, attributes := #[] }, { accessFlags := 4122, nameIndex := 12, descriptorIndex := 13, attributes := #[] }])
  fields := #[{ name := "TEXT", type := (.object "com/example/anagrafe/anagrafe/atom/Markup$Escape"), accessFlags := 16409, slot := 0, constantValue := 0 }, { name := "ATTRIBUTE", type := (.object "com/example/anagrafe/anagrafe/atom/Markup$Escape"), accessFlags := 16409, slot := 1, constantValue := 0 }, { name := "characters", type := (.object "java/lang/String"), accessFlags := 18, slot := 3, constantValue := 0 }, { name := "escaped", type := (.array .boolean), accessFlags := 18, slot := 4, constantValue := 0 }, { name := "$VALUES", type := (.array (.object "com/example/anagrafe/anagrafe/atom/Markup$Escape")), accessFlags := 4122, slot := 2, constantValue := 0 }]
  methods := #[k15m0, k15m1]
  instanceTypes := #[(.object "java/lang/String"), .int, .int, (.object "java/lang/String"), (.array .boolean)]
  staticTypes := #[(.object "com/example/anagrafe/anagrafe/atom/Markup$Escape"), (.object "com/example/anagrafe/anagrafe/atom/Markup$Escape"), (.array (.object "com/example/anagrafe/anagrafe/atom/Markup$Escape"))]
  resolved := Array.replicate 117 none
  statics := some 1 }

def pool16 : Array CpInfo := pool [(2, .class_ 4), (1, u "java/lang/Object"), (0, u "<init>"), (0, u "()V"), (17, .class_ 26), (1, u "jdk/internal/util/Preconditions"), (6, u "checkIndex"), (21, .class_ 56), (0, u "jdk/internal/util/Preconditions$4"), (57, .class_ 115), (0, u "jdk/internal/util/Preconditions$1"), (7, u "SIOOBE_FORMATTER"), (0, u "Ljava/util/function/BiFunction;"), (0, .class_ 126), (0, u "jdk/internal/util/Preconditions$2"), (3, u "AIOOBE_FORMATTER"), (0, .class_ 132), (0, u "jdk/internal/util/Preconditions$3"), (3, u "IOOBE_FORMATTER"), (41, u "(IILjava/util/function/BiFunction;)I")] 15

def k16m0 : Method := { name := "<init>", desc := "()V", sig := { parameters := [], returnType := none }, accessFlags := 1, code := none }
def k16c1 : Code := { maxStack := 3, maxLocals := 3, code := jdk_41_method_11_code, exceptionTable := #[], attributes := #[] }
def k16m1 : Method := { name := "checkIndex", desc := "(IILjava/util/function/BiFunction;)I", sig := { parameters := [.int, .int, (.object "java/util/function/BiFunction")], returnType := some .int }, accessFlags := 9, code := some k16c1 }
/-- jdk/internal/util/Preconditions -/
def k16 : Class := { plain "jdk/internal/util/Preconditions" (some 0) with
  accessFlags := 33
  interfaces := #[]
  cf := some (fileOf pool16 24 #[.nestMembers #[55, 131, 125, 114]] #[{ accessFlags := 1, nameIndex := 5, descriptorIndex := 6, attributes := #[] }, { accessFlags := 9, nameIndex := 33, descriptorIndex := 178, attributes := #[] }] 33 2 #[] #[{ accessFlags := 25, nameIndex := 123, descriptorIndex := 124, attributes := #[] }, { accessFlags := 25, nameIndex := 130, descriptorIndex := 124, attributes := #[] }, { accessFlags := 25, nameIndex := 136, descriptorIndex := 124, attributes := #[] }])
  fields := #[{ name := "SIOOBE_FORMATTER", type := (.object "java/util/function/BiFunction"), accessFlags := 25, slot := 0, constantValue := 0 }, { name := "AIOOBE_FORMATTER", type := (.object "java/util/function/BiFunction"), accessFlags := 25, slot := 1, constantValue := 0 }, { name := "IOOBE_FORMATTER", type := (.object "java/util/function/BiFunction"), accessFlags := 25, slot := 2, constantValue := 0 }]
  methods := #[k16m0, k16m1]
  instanceTypes := #[]
  staticTypes := #[(.object "java/util/function/BiFunction"), (.object "java/util/function/BiFunction"), (.object "java/util/function/BiFunction")]
  resolved := Array.replicate 194 none
  statics := some 2 }

def pool17 : Array CpInfo := pool [(2, .class_ 4), (1, u "java/lang/Object"), (0, u "<init>"), (0, u "()V"), (14, .class_ 23), (1, u "java/nio/charset/StandardCharsets"), (0, u "US_ASCII"), (0, u "Ljava/nio/charset/Charset;"), (7, u "ISO_8859_1"), (7, u "UTF_8"), (5, u "UTF_16BE"), (5, u "UTF_16LE"), (5, u "UTF_16")] 8

def k17m0 : Method := { name := "<init>", desc := "()V", sig := { parameters := [], returnType := none }, accessFlags := 2, code := none }
/-- java/nio/charset/StandardCharsets -/
def k17 : Class := { plain "java/nio/charset/StandardCharsets" (some 0) with
  accessFlags := 49
  interfaces := #[]
  cf := some (fileOf pool17 21 #[] #[{ accessFlags := 2, nameIndex := 5, descriptorIndex := 6, attributes := #[] }] 49 2 #[] #[{ accessFlags := 25, nameIndex := 24, descriptorIndex := 25, attributes := #[] }, { accessFlags := 25, nameIndex := 33, descriptorIndex := 25, attributes := #[] }, { accessFlags := 25, nameIndex := 41, descriptorIndex := 25, attributes := #[] }, { accessFlags := 25, nameIndex := 47, descriptorIndex := 25, attributes := #[] }, { accessFlags := 25, nameIndex := 53, descriptorIndex := 25, attributes := #[] }, { accessFlags := 25, nameIndex := 59, descriptorIndex := 25, attributes := #[] }])
  fields := #[{ name := "US_ASCII", type := (.object "java/nio/charset/Charset"), accessFlags := 25, slot := 0, constantValue := 0 }, { name := "ISO_8859_1", type := (.object "java/nio/charset/Charset"), accessFlags := 25, slot := 1, constantValue := 0 }, { name := "UTF_8", type := (.object "java/nio/charset/Charset"), accessFlags := 25, slot := 2, constantValue := 0 }, { name := "UTF_16BE", type := (.object "java/nio/charset/Charset"), accessFlags := 25, slot := 3, constantValue := 0 }, { name := "UTF_16LE", type := (.object "java/nio/charset/Charset"), accessFlags := 25, slot := 4, constantValue := 0 }, { name := "UTF_16", type := (.object "java/nio/charset/Charset"), accessFlags := 25, slot := 5, constantValue := 0 }]
  methods := #[k17m0]
  instanceTypes := #[]
  staticTypes := #[(.object "java/nio/charset/Charset"), (.object "java/nio/charset/Charset"), (.object "java/nio/charset/Charset"), (.object "java/nio/charset/Charset"), (.object "java/nio/charset/Charset"), (.object "java/nio/charset/Charset")]
  resolved := Array.replicate 68 none
  statics := some 3 }

def pool18 : Array CpInfo := pool [(18, .class_ 20), (1, u "java/nio/charset/Charset"), (0, u "cache1"), (0, u "[Ljava/lang/Object;"), (2, u "cache2"), (0, .class_ 27), (0, u "java/lang/Object"), (0, .class_ 29), (0, u "java/nio/charset/Charset$1"), (4, .class_ 36), (1, u "java/nio/charset/Charset$ThreadTrackHolder"), (21, .class_ 59), (0, u "java/nio/charset/Charset$2"), (11, .class_ 73), (1, u "java/nio/charset/Charset$ExtendedProviderHolder"), (22, u "standardProvider"), (0, u "Ljava/nio/charset/spi/CharsetProvider;"), (29, u "name"), (7, .class_ 136), (0, u "java/nio/charset/Charset$3"), (5, u "defaultCharset"), (0, u "Ljava/nio/charset/Charset;"), (14, u "zeroAliases"), (0, u "[Ljava/lang/String;"), (29, u "Ljava/lang/String;"), (2, u "aliases"), (2, u "aliasSet"), (0, u "Ljava/util/Set;"), (82, .class_ 280), (0, u "java/lang/Comparable"), (84, .class_ 366), (0, u "java/nio/charset/Charset$ExtendedProviderHolder$1")] 3

/-- java/nio/charset/Charset -/
def k18 : Class := { plain "java/nio/charset/Charset" (some 0) with
  accessFlags := 1057
  interfaces := #[3]
  cf := some (fileOf pool18 18 #[.nestMembers #[71, 365, 34, 135, 58, 28]] #[] 1057 26 #[279] #[{ accessFlags := 26, nameIndex := 96, descriptorIndex := 97, attributes := #[] }, { accessFlags := 26, nameIndex := 158, descriptorIndex := 159, attributes := #[] }, { accessFlags := 74, nameIndex := 21, descriptorIndex := 22, attributes := #[] }, { accessFlags := 74, nameIndex := 25, descriptorIndex := 22, attributes := #[] }, { accessFlags := 10, nameIndex := 142, descriptorIndex := 143, attributes := #[] }, { accessFlags := 18, nameIndex := 127, descriptorIndex := 189, attributes := #[] }, { accessFlags := 18, nameIndex := 192, descriptorIndex := 159, attributes := #[] }, { accessFlags := 2, nameIndex := 195, descriptorIndex := 196, attributes := #[] }])
  fields := #[{ name := "standardProvider", type := (.object "java/nio/charset/spi/CharsetProvider"), accessFlags := 26, slot := 0, constantValue := 0 }, { name := "zeroAliases", type := (.array (.object "java/lang/String")), accessFlags := 26, slot := 1, constantValue := 0 }, { name := "cache1", type := (.array (.object "java/lang/Object")), accessFlags := 74, slot := 2, constantValue := 0 }, { name := "cache2", type := (.array (.object "java/lang/Object")), accessFlags := 74, slot := 3, constantValue := 0 }, { name := "defaultCharset", type := (.object "java/nio/charset/Charset"), accessFlags := 10, slot := 4, constantValue := 0 }, { name := "name", type := (.object "java/lang/String"), accessFlags := 18, slot := 0, constantValue := 0 }, { name := "aliases", type := (.array (.object "java/lang/String")), accessFlags := 18, slot := 1, constantValue := 0 }, { name := "aliasSet", type := (.object "java/util/Set"), accessFlags := 2, slot := 2, constantValue := 0 }]
  methods := #[]
  instanceTypes := #[(.object "java/lang/String"), (.array (.object "java/lang/String")), (.object "java/util/Set")]
  staticTypes := #[(.object "java/nio/charset/spi/CharsetProvider"), (.array (.object "java/lang/String")), (.array (.object "java/lang/Object")), (.array (.object "java/lang/Object")), (.object "java/nio/charset/Charset")]
  resolved := Array.replicate 370 none
  statics := none }

def pool19 : Array CpInfo := pool [(1, .class_ 2), (0, u "sun/nio/cs/HistoricallyNamedCharset"), (0, .class_ 4), (0, u "java/lang/Object")] 4

/-- sun/nio/cs/HistoricallyNamedCharset -/
def k19 : Class := { plain "sun/nio/cs/HistoricallyNamedCharset" (some 0) with
  accessFlags := 1537
  interfaces := #[]
  cf := some (fileOf pool19 1 #[] #[] 1537 3 #[] #[])
  fields := #[]
  methods := #[]
  instanceTypes := #[]
  staticTypes := #[]
  resolved := Array.replicate 9 none
  statics := none }

def pool20 : Array CpInfo := pool [(2, .class_ 4), (1, u "java/nio/charset/Charset"), (130, .class_ 136), (0, u "sun/nio/cs/Unicode"), (0, .class_ 138), (0, u "sun/nio/cs/HistoricallyNamedCharset")] 15

/-- sun/nio/cs/Unicode -/
def k20 : Class := { plain "sun/nio/cs/Unicode" (some 18) with
  accessFlags := 1056
  interfaces := #[19]
  cf := some (fileOf pool20 135 #[] #[] 1056 2 #[137] #[])
  fields := #[]
  methods := #[]
  instanceTypes := #[(.object "java/lang/String"), (.array (.object "java/lang/String")), (.object "java/util/Set")]
  staticTypes := #[]
  resolved := Array.replicate 154 none
  statics := none }

def pool21 : Array CpInfo := pool [(10, .class_ 12), (1, u "sun/nio/cs/Unicode"), (0, u "<init>"), (3, .class_ 18), (0, u "sun/nio/cs/UTF_8$Decoder"), (3, .class_ 23), (0, u "sun/nio/cs/UTF_8$Encoder"), (15, .class_ 40), (0, u "sun/nio/cs/UTF_8"), (2, u "()V"), (2, u "INSTANCE"), (0, u "Lsun/nio/cs/UTF_8;"), (8, u "JLA"), (0, u "Ljdk/internal/access/JavaLangAccess;")] 26

def k21m0 : Method := { name := "<init>", desc := "()V", sig := { parameters := [], returnType := none }, accessFlags := 1, code := none }
/-- sun/nio/cs/UTF_8 -/
def k21 : Class := { plain "sun/nio/cs/UTF_8" (some 20) with
  accessFlags := 49
  interfaces := #[]
  cf := some (fileOf pool21 39 #[.nestMembers #[22, 17]] #[{ accessFlags := 1, nameIndex := 13, descriptorIndex := 43, attributes := #[] }] 49 10 #[] #[{ accessFlags := 25, nameIndex := 46, descriptorIndex := 47, attributes := #[] }, { accessFlags := 26, nameIndex := 56, descriptorIndex := 57, attributes := #[] }])
  fields := #[{ name := "INSTANCE", type := (.object "sun/nio/cs/UTF_8"), accessFlags := 25, slot := 0, constantValue := 0 }, { name := "JLA", type := (.object "jdk/internal/access/JavaLangAccess"), accessFlags := 26, slot := 1, constantValue := 0 }]
  methods := #[k21m0]
  instanceTypes := #[(.object "java/lang/String"), (.array (.object "java/lang/String")), (.object "java/util/Set")]
  staticTypes := #[(.object "sun/nio/cs/UTF_8"), (.object "jdk/internal/access/JavaLangAccess")]
  resolved := Array.replicate 84 none
  statics := some 4 }

def pool22 : Array CpInfo := pool [(2, .class_ 4), (1, u "java/lang/Object"), (0, u "<init>"), (0, u "()V"), (0, .methodref 8 9), (0, .class_ 10), (0, .nameAndType 11 12), (0, u "java/lang/StringCoding"), (0, u "countPositives"), (0, u "([BII)I"), (11, u "hasNegatives"), (0, u "([BII)Z")] 23

def k22m0 : Method := { name := "<init>", desc := "()V", sig := { parameters := [], returnType := none }, accessFlags := 2, code := none }
def k22c1 : Code := { maxStack := 3, maxLocals := 3, code := jdk_123_method_2_code, exceptionTable := #[], attributes := #[] }
def k22m1 : Method := { name := "hasNegatives", desc := "([BII)Z", sig := { parameters := [(.array .byte), .int, .int], returnType := some .boolean }, accessFlags := 9, code := some k22c1 }
def k22c2 : Code := { maxStack := 2, maxLocals := 5, code := jdk_123_method_3_code, exceptionTable := #[], attributes := #[] }
def k22m2 : Method := { name := "countPositives", desc := "([BII)I", sig := { parameters := [(.array .byte), .int, .int], returnType := some .int }, accessFlags := 9, code := some k22c2 }
/-- java/lang/StringCoding -/
def k22 : Class := { plain "java/lang/StringCoding" (some 0) with
  accessFlags := 32
  interfaces := #[]
  cf := some (fileOf pool22 8 #[] #[{ accessFlags := 2, nameIndex := 5, descriptorIndex := 6, attributes := #[] }, { accessFlags := 9, nameIndex := 24, descriptorIndex := 25, attributes := #[] }, { accessFlags := 9, nameIndex := 11, descriptorIndex := 12, attributes := #[] }] 32 2 #[] #[])
  fields := #[]
  methods := #[k22m0, k22m1, k22m2]
  instanceTypes := #[]
  staticTypes := #[]
  resolved := Array.replicate 49 none
  statics := none }

def pool23 : Array CpInfo := pool [(1, .class_ 2), (0, u "java/lang/Cloneable"), (0, .class_ 4), (0, u "java/lang/Object")] 2

/-- java/lang/Cloneable -/
def k23 : Class := { plain "java/lang/Cloneable" (some 0) with
  accessFlags := 1537
  interfaces := #[]
  cf := some (fileOf pool23 1 #[] #[] 1537 3 #[] #[])
  fields := #[]
  methods := #[]
  instanceTypes := #[]
  staticTypes := #[]
  resolved := Array.replicate 7 none
  statics := none }

def pool24 : Array CpInfo := pool [(9, u "<init>"), (6, .class_ 18), (1, u "java/lang/Object"), (0, u "()V"), (1, .class_ 23), (1, u "jdk/internal/util/ArraysSupport"), (0, u "LOG2_ARRAY_LONG_INDEX_SCALE"), (0, u "I"), (2, u "U"), (0, u "Ljdk/internal/misc/Unsafe;"), (8, u "BIG_ENDIAN"), (0, u "Z"), (8, u "LOG2_BYTE_BIT_SIZE"), (4, u "LOG2_ARRAY_INT_INDEX_SCALE"), (54, u "JLA"), (0, u "Ljdk/internal/access/JavaLangAccess;"), (11, u "LOG2_ARRAY_BOOLEAN_INDEX_SCALE"), (9, u "LOG2_ARRAY_BYTE_INDEX_SCALE"), (5, u "LOG2_ARRAY_CHAR_INDEX_SCALE"), (5, u "LOG2_ARRAY_SHORT_INDEX_SCALE"), (18, u "LOG2_ARRAY_FLOAT_INDEX_SCALE"), (24, u "LOG2_ARRAY_DOUBLE_INDEX_SCALE"), (89, u "T_BOOLEAN"), (2, u "T_CHAR"), (1, u "T_FLOAT"), (1, u "T_DOUBLE"), (1, u "T_BYTE"), (1, u "T_SHORT"), (1, u "T_INT"), (1, u "T_LONG"), (1, u "SOFT_MAX_ARRAY_LENGTH")] 83

def k24m0 : Method := { name := "<init>", desc := "()V", sig := { parameters := [], returnType := none }, accessFlags := 2, code := none }
/-- jdk/internal/util/ArraysSupport -/
def k24 : Class := { plain "jdk/internal/util/ArraysSupport" (some 0) with
  accessFlags := 33
  interfaces := #[]
  cf := some (fileOf pool24 21 #[] #[{ accessFlags := 2, nameIndex := 9, descriptorIndex := 19, attributes := #[] }] 33 16 #[] #[{ accessFlags := 24, nameIndex := 28, descriptorIndex := 29, attributes := #[] }, { accessFlags := 26, nameIndex := 38, descriptorIndex := 39, attributes := #[] }, { accessFlags := 25, nameIndex := 121, descriptorIndex := 25, attributes := #[] }, { accessFlags := 25, nameIndex := 131, descriptorIndex := 25, attributes := #[] }, { accessFlags := 25, nameIndex := 137, descriptorIndex := 25, attributes := #[] }, { accessFlags := 25, nameIndex := 143, descriptorIndex := 25, attributes := #[] }, { accessFlags := 25, nameIndex := 53, descriptorIndex := 25, attributes := #[] }, { accessFlags := 25, nameIndex := 24, descriptorIndex := 25, attributes := #[] }, { accessFlags := 25, nameIndex := 162, descriptorIndex := 25, attributes := #[] }, { accessFlags := 25, nameIndex := 187, descriptorIndex := 25, attributes := #[] }, { accessFlags := 26, nameIndex := 48, descriptorIndex := 25, attributes := #[] }, { accessFlags := 25, nameIndex := 277, descriptorIndex := 25, attributes := #[] }, { accessFlags := 25, nameIndex := 280, descriptorIndex := 25, attributes := #[] }, { accessFlags := 25, nameIndex := 282, descriptorIndex := 25, attributes := #[] }, { accessFlags := 25, nameIndex := 284, descriptorIndex := 25, attributes := #[] }, { accessFlags := 25, nameIndex := 286, descriptorIndex := 25, attributes := #[] }, { accessFlags := 25, nameIndex := 288, descriptorIndex := 25, attributes := #[] }, { accessFlags := 25, nameIndex := 290, descriptorIndex := 25, attributes := #[] }, { accessFlags := 25, nameIndex := 292, descriptorIndex := 25, attributes := #[] }, { accessFlags := 26, nameIndex := 108, descriptorIndex := 109, attributes := #[] }, { accessFlags := 25, nameIndex := 294, descriptorIndex := 25, attributes := #[] }])
  fields := #[{ name := "U", type := (.object "jdk/internal/misc/Unsafe"), accessFlags := 24, slot := 0, constantValue := 0 }, { name := "BIG_ENDIAN", type := .boolean, accessFlags := 26, slot := 1, constantValue := 0 }, { name := "LOG2_ARRAY_BOOLEAN_INDEX_SCALE", type := .int, accessFlags := 25, slot := 2, constantValue := 0 }, { name := "LOG2_ARRAY_BYTE_INDEX_SCALE", type := .int, accessFlags := 25, slot := 3, constantValue := 0 }, { name := "LOG2_ARRAY_CHAR_INDEX_SCALE", type := .int, accessFlags := 25, slot := 4, constantValue := 0 }, { name := "LOG2_ARRAY_SHORT_INDEX_SCALE", type := .int, accessFlags := 25, slot := 5, constantValue := 0 }, { name := "LOG2_ARRAY_INT_INDEX_SCALE", type := .int, accessFlags := 25, slot := 6, constantValue := 0 }, { name := "LOG2_ARRAY_LONG_INDEX_SCALE", type := .int, accessFlags := 25, slot := 7, constantValue := 0 }, { name := "LOG2_ARRAY_FLOAT_INDEX_SCALE", type := .int, accessFlags := 25, slot := 8, constantValue := 0 }, { name := "LOG2_ARRAY_DOUBLE_INDEX_SCALE", type := .int, accessFlags := 25, slot := 9, constantValue := 0 }, { name := "LOG2_BYTE_BIT_SIZE", type := .int, accessFlags := 26, slot := 10, constantValue := 0 }, { name := "T_BOOLEAN", type := .int, accessFlags := 25, slot := 11, constantValue := 0 }, { name := "T_CHAR", type := .int, accessFlags := 25, slot := 12, constantValue := 0 }, { name := "T_FLOAT", type := .int, accessFlags := 25, slot := 13, constantValue := 0 }, { name := "T_DOUBLE", type := .int, accessFlags := 25, slot := 14, constantValue := 0 }, { name := "T_BYTE", type := .int, accessFlags := 25, slot := 15, constantValue := 0 }, { name := "T_SHORT", type := .int, accessFlags := 25, slot := 16, constantValue := 0 }, { name := "T_INT", type := .int, accessFlags := 25, slot := 17, constantValue := 0 }, { name := "T_LONG", type := .int, accessFlags := 25, slot := 18, constantValue := 0 }, { name := "JLA", type := (.object "jdk/internal/access/JavaLangAccess"), accessFlags := 26, slot := 19, constantValue := 0 }, { name := "SOFT_MAX_ARRAY_LENGTH", type := .int, accessFlags := 25, slot := 20, constantValue := 0 }]
  methods := #[k24m0]
  instanceTypes := #[]
  staticTypes := #[(.object "jdk/internal/misc/Unsafe"), .boolean, .int, .int, .int, .int, .int, .int, .int, .int, .int, .int, .int, .int, .int, .int, .int, .int, .int, (.object "jdk/internal/access/JavaLangAccess"), .int]
  resolved := Array.replicate 378 none
  statics := none }

/-- the primitive boolean -/
def k25 : Class := { plain "boolean" none with kind := .primitive 'Z', accessFlags := 0x411 }
/-- [Z -/
def k26 : Class := { plain "[Z" (some 0) with kind := .array 25 .boolean, interfaces := #[23, 2], accessFlags := 1041 }

/-- the primitive byte -/
def k27 : Class := { plain "byte" none with kind := .primitive 'B', accessFlags := 0x411 }
/-- [B -/
def k28 : Class := { plain "[B" (some 0) with kind := .array 27 .byte, interfaces := #[23, 2], accessFlags := 1041 }

/-- the primitive char -/
def k29 : Class := { plain "char" none with kind := .primitive 'C', accessFlags := 0x411 }
/-- [C -/
def k30 : Class := { plain "[C" (some 0) with kind := .array 29 .char, interfaces := #[23, 2], accessFlags := 1041 }

/-- the primitive int -/
def k31 : Class := { plain "int" none with kind := .primitive 'I', accessFlags := 0x411 }
/-- [I -/
def k32 : Class := { plain "[I" (some 0) with kind := .array 31 .int, interfaces := #[23, 2], accessFlags := 1041 }

def heap : Heap := #[{ cls := 7, slots := #[.long 0, .int 1, .null, .int 0, .null, .int 0, .int 0], vm := .statics 7 },
  { cls := 15, slots := #[.ref 8, .null, .null], vm := .statics 15 },
  { cls := 16, slots := #[.null, .null, .null], vm := .statics 16 },
  { cls := 17, slots := #[.null, .null, .ref 9, .null, .null, .null], vm := .statics 17 },
  { cls := 21, slots := #[.ref 9, .null], vm := .statics 21 },
  { cls := 28, slots := #[.int 38, .int 60, .int 62], vm := .none },
  { cls := 7, slots := #[.ref 5, .int 0, .int 0, .int 0], vm := .none },
  { cls := 26, slots := #[.int 0, .int 0, .int 0, .int 0, .int 0, .int 0, .int 0, .int 0, .int 0, .int 0, .int 0, .int 0, .int 0, .int 0, .int 0, .int 0, .int 0, .int 0, .int 0, .int 0, .int 0, .int 0, .int 0, .int 0, .int 0, .int 0, .int 0, .int 0, .int 0, .int 0, .int 0, .int 0, .int 0, .int 0, .int 0, .int 0, .int 0, .int 0, .int 1, .int 0, .int 0, .int 0, .int 0, .int 0, .int 0, .int 0, .int 0, .int 0, .int 0, .int 0, .int 0, .int 0, .int 0, .int 0, .int 0, .int 0, .int 0, .int 0, .int 0, .int 0, .int 1, .int 0, .int 1, .int 0, .int 0, .int 0, .int 0, .int 0, .int 0, .int 0, .int 0, .int 0, .int 0, .int 0, .int 0, .int 0, .int 0, .int 0, .int 0, .int 0, .int 0, .int 0, .int 0, .int 0, .int 0, .int 0, .int 0, .int 0, .int 0, .int 0, .int 0, .int 0, .int 0, .int 0, .int 0, .int 0, .int 0, .int 0, .int 0, .int 0, .int 0, .int 0, .int 0, .int 0, .int 0, .int 0, .int 0, .int 0, .int 0, .int 0, .int 0, .int 0, .int 0, .int 0, .int 0, .int 0, .int 0, .int 0, .int 0, .int 0, .int 0, .int 0, .int 0, .int 0, .int 0, .int 0, .int 0, .int 0], vm := .none },
  { cls := 15, slots := #[.null, .int 0, .int 0, .ref 6, .ref 7], vm := .none },
  { cls := 21, slots := #[.null, .null, .null], vm := .none }]
def classes : Array Class := #[k0, k1, k2, k3, k4, k5, k6, k7, k8, k9, k10, k11, k12, k13, k14, k15, k16, k17, k18, k19, k20, k21, k22, k23, k24, k25, k26, k27, k28, k29, k30, k31, k32]
def interned : List (Array UInt16 × Addr) := []
def slotsUsed : Nat := 164
def theMethod : MethodId := ⟨1, 1⟩
def args0 : Array Value := #[.int 1, .int 2, .int 3, .int 4]
def aboutOver (below : List Frame) : State where
  vm := { classes := classes, interned := interned.toArray }
  heap := heap
  slotsUsed := slotsUsed
  threads := #[{ frames := .invoking theMethod args0 :: below }]
def below0 : List Frame := [.native { method := ⟨0, 0⟩, args := #[] }]
def about1 : State := aboutOver below0
def p0 : Program := .bare "" "" ""
def e0 : Env := launch0.env 0 0 0
theorem w_frames : about1.frames = Frame.invoking theMethod args0 :: below0 := rfl
set_option maxRecDepth 65536 in
theorem w_args : argsFit about1.vm theMethod args0 = true := by decide +kernel
set_option maxRecDepth 65536 in
theorem w_heap : heapFits about1 = true := by decide +kernel
set_option maxRecDepth 65536 in
theorem w_runnable : about1.curStatus? = some .runnable := by decide +kernel
set_option maxRecDepth 65536 in
theorem w_alone : about1.alone = true := by decide +kernel
set_option maxRecDepth 65536 in
theorem w_named : about1.methodNamed? x = some theMethod := by decide +kernel
set_option maxRecDepth 65536 in
theorem w_hears : about1.hears theMethod below0 = true := by decide +kernel
set_option maxRecDepth 65536 in
theorem w_ripe : about1.ripe theMethod args0 below0 = true := by decide +kernel
theorem w_running : about1.status = .running := rfl
set_option maxRecDepth 65536 in
theorem w_room : about1.hasRoom e0.platform room_1 = true :=
  launch0.hasRoom_least _ room_1 (by decide +kernel) (by decide +kernel) (by decide +kernel) (by decide +kernel) (by decide +kernel) (by decide +kernel)
theorem allAtoms_all (ts : List Jvm.Cond) (a : Array Jvm.Value) (st : Jvm.State) : (allAtoms ts).before a st = ts.all (fun c => c.before a st) := by
  induction ts with
  | nil => rfl
  | cons c t ih =>
    show (Jvm.Cond.and c (allAtoms t)).before a st = _
    rw [Jvm.Cond.before_and, ih, List.all_cons]
def words1 : List Jvm.Cond := Jvm.Cond.code x code maxLocals ret :: tables_1
/-- a 'code' word, met by the world's own term for the bytes: nothing is compared byte by byte -/
theorem code_word {y : MethodName} {bytes : ByteArray} {mx : Nat} {rt : Option FieldType} {a : Array Value} {s : State} {m : MethodId} {meth : Method} {c : Code} (h1 : s.methodNamed? y = some m) (h2 : s.vm.method? m = some meth) (h3 : meth.code = some c) (h4 : c.code = bytes)
    (h5 : (c.maxLocals == mx && c.exceptionTable.isEmpty && decide (c.maxStack ≤ mostOperands) && decide (meth.sig.returnType = rt) && !meth.locks && decide (parseMethodDescriptor y.desc = some meth.sig)) = true) : (Jvm.Cond.code y bytes mx rt).before a s = true := by
  simp only [Bool.and_eq_true, beq_iff_eq, Bool.not_eq_true', decide_eq_true_eq] at h5
  obtain ⟨⟨⟨⟨⟨g1, g2⟩, g3⟩, g4⟩, g5⟩, g6⟩ := h5
  simp [Cond.before, Cond.holds, Cond.value, h1, h2, h3, h4, g1, g2, g3, g4, g5, g6]
def isCode : Jvm.Cond → Bool
  | .code _ _ _ _ => true
  | _ => false
theorem all_split {L : List Jvm.Cond} {P : Jvm.Cond → Bool} (h1 : L.all (fun c => isCode c || P c) = true) (h2 : ∀ c ∈ L.filter isCode, P c = true) : L.all P = true := by
  refine List.all_eq_true.mpr fun c hc => ?_
  have h := List.all_eq_true.mp h1 c hc
  rcases Bool.eq_false_or_eq_true (isCode c) with hi | hi
  · exact h2 c (List.mem_filter.mpr ⟨hc, hi⟩)
  · simpa [hi] using h
set_option maxRecDepth 65536 in
theorem w_c0 : (Jvm.Cond.code x code maxLocals ret).before args0 about1 = true := code_word (m := ⟨1, 1⟩) (meth := k1m1) (c := k1c1) (by decide +kernel) rfl rfl rfl (by decide +kernel)
set_option maxRecDepth 65536 in
theorem w_c1 : (Jvm.Cond.code ({ cls := "java/lang/String", name := "<init>", desc := "([C)V" } : Jvm.MethodName) jdk_42_method_3_code (2 : Nat) (Option.none : Option Jvm.ClassFile.FieldType)).before args0 about1 = true := code_word (m := ⟨7, 1⟩) (meth := k7m1) (c := k7c1) (by decide +kernel) rfl rfl rfl (by decide +kernel)
set_option maxRecDepth 65536 in
theorem w_c2 : (Jvm.Cond.code ({ cls := "java/lang/String", name := "<init>", desc := "([CIILjava/lang/Void;)V" } : Jvm.MethodName) jdk_42_method_149_code (6 : Nat) (Option.none : Option Jvm.ClassFile.FieldType)).before args0 about1 = true := code_word (m := ⟨7, 10⟩) (meth := k7m10) (c := k7c10) (by decide +kernel) rfl rfl rfl (by decide +kernel)
set_option maxRecDepth 65536 in
theorem w_c3 : (Jvm.Cond.code ({ cls := "java/lang/Object", name := "<init>", desc := "()V" } : Jvm.MethodName) object_method_1_code (1 : Nat) (Option.none : Option Jvm.ClassFile.FieldType)).before args0 about1 = true := code_word (m := ⟨0, 0⟩) (meth := k0m0) (c := k0c0) (by decide +kernel) rfl rfl rfl (by decide +kernel)
set_option maxRecDepth 65536 in
theorem w_c4 : (Jvm.Cond.code ({ cls := "java/lang/StringUTF16", name := "compress", desc := "([CII)[B" } : Jvm.MethodName) jdk_52_method_16_code (6 : Nat) (Option.some (Jvm.ClassFile.FieldType.array Jvm.ClassFile.FieldType.byte))).before args0 about1 = true := code_word (m := ⟨8, 2⟩) (meth := k8m2) (c := k8c2) (by decide +kernel) rfl rfl rfl (by decide +kernel)
set_option maxRecDepth 65536 in
theorem w_c5 : (Jvm.Cond.code ({ cls := "java/lang/StringUTF16", name := "compress", desc := "([CI[BII)I" } : Jvm.MethodName) jdk_52_method_21_code (7 : Nat) (Option.some Jvm.ClassFile.FieldType.int)).before args0 about1 = true := code_word (m := ⟨8, 3⟩) (meth := k8m3) (c := k8c3) (by decide +kernel) rfl rfl rfl (by decide +kernel)
set_option maxRecDepth 65536 in
theorem w_c6 : (Jvm.Cond.code ({ cls := "java/lang/StringUTF16", name := "coderFromArrayLen", desc := "([BI)B" } : Jvm.MethodName) jdk_52_method_15_code (2 : Nat) (Option.some Jvm.ClassFile.FieldType.byte)).before args0 about1 = true := code_word (m := ⟨8, 1⟩) (meth := k8m1) (c := k8c1) (by decide +kernel) rfl rfl rfl (by decide +kernel)
set_option maxRecDepth 65536 in
theorem w_c7 : (Jvm.Cond.code ({ cls := "java/lang/String", name := "valueOf", desc := "(C)Ljava/lang/String;" } : Jvm.MethodName) jdk_42_method_139_code (1 : Nat) (Option.some (Jvm.ClassFile.FieldType.object "java/lang/String"))).before args0 about1 = true := code_word (m := ⟨7, 9⟩) (meth := k7m9) (c := k7c9) (by decide +kernel) rfl rfl rfl (by decide +kernel)
set_option maxRecDepth 65536 in
theorem w_c8 : (Jvm.Cond.code ({ cls := "java/lang/StringLatin1", name := "canEncode", desc := "(C)Z" } : Jvm.MethodName) jdk_43_method_3_code (1 : Nat) (Option.some Jvm.ClassFile.FieldType.boolean)).before args0 about1 = true := code_word (m := ⟨9, 2⟩) (meth := k9m2) (c := k9c2) (by decide +kernel) rfl rfl rfl (by decide +kernel)
set_option maxRecDepth 65536 in
theorem w_c9 : (Jvm.Cond.code ({ cls := "java/lang/StringLatin1", name := "toBytes", desc := "(C)[B" } : Jvm.MethodName) jdk_43_method_46_code (1 : Nat) (Option.some (Jvm.ClassFile.FieldType.array Jvm.ClassFile.FieldType.byte))).before args0 about1 = true := code_word (m := ⟨9, 6⟩) (meth := k9m6) (c := k9c6) (by decide +kernel) rfl rfl rfl (by decide +kernel)
set_option maxRecDepth 65536 in
theorem w_c10 : (Jvm.Cond.code ({ cls := "java/lang/String", name := "<init>", desc := "([BB)V" } : Jvm.MethodName) jdk_42_method_151_code (3 : Nat) (Option.none : Option Jvm.ClassFile.FieldType)).before args0 about1 = true := code_word (m := ⟨7, 11⟩) (meth := k7m11) (c := k7c11) (by decide +kernel) rfl rfl rfl (by decide +kernel)
set_option maxRecDepth 65536 in
theorem w_c11 : (Jvm.Cond.code ({ cls := "com/example/anagrafe/anagrafe/atom/Markup", name := "<init>", desc := "()V" } : Jvm.MethodName) prog_9_method_1_code (1 : Nat) (Option.none : Option Jvm.ClassFile.FieldType)).before args0 about1 = true := code_word (m := ⟨10, 0⟩) (meth := k10m0) (c := k10c0) (by decide +kernel) rfl rfl rfl (by decide +kernel)
set_option maxRecDepth 65536 in
theorem w_c12 : (Jvm.Cond.code ({ cls := "com/example/anagrafe/anagrafe/atom/Markup", name := "endEmpty", desc := "()V" } : Jvm.MethodName) prog_9_method_6_code (1 : Nat) (Option.none : Option Jvm.ClassFile.FieldType)).before args0 about1 = true := code_word (m := ⟨10, 2⟩) (meth := k10m2) (c := k10c2) (by decide +kernel) rfl rfl rfl (by decide +kernel)
set_option maxRecDepth 65536 in
theorem w_c13 : (Jvm.Cond.code ({ cls := "com/example/anagrafe/anagrafe/atom/Markup", name := "room", desc := "(I)V" } : Jvm.MethodName) prog_9_method_10_code (3 : Nat) (Option.none : Option Jvm.ClassFile.FieldType)).before args0 about1 = true := code_word (m := ⟨10, 5⟩) (meth := k10m5) (c := k10c5) (by decide +kernel) rfl rfl rfl (by decide +kernel)
set_option maxRecDepth 65536 in
theorem w_c14 : (Jvm.Cond.code ({ cls := "com/example/anagrafe/anagrafe/atom/Markup", name := "toByteArray", desc := "()[B" } : Jvm.MethodName) prog_9_method_9_code (1 : Nat) (Option.some (Jvm.ClassFile.FieldType.array Jvm.ClassFile.FieldType.byte))).before args0 about1 = true := code_word (m := ⟨10, 4⟩) (meth := k10m4) (c := k10c4) (by decide +kernel) rfl rfl rfl (by decide +kernel)
set_option maxRecDepth 65536 in
theorem w_c15 : (Jvm.Cond.code ({ cls := "java/util/Arrays", name := "copyOf", desc := "([BI)[B" } : Jvm.MethodName) jdk_65_method_121_code (3 : Nat) (Option.some (Jvm.ClassFile.FieldType.array Jvm.ClassFile.FieldType.byte))).before args0 about1 = true := code_word (m := ⟨11, 1⟩) (meth := k11m1) (c := k11c1) (by decide +kernel) rfl rfl rfl (by decide +kernel)
set_option maxRecDepth 65536 in
theorem w_c16 : (Jvm.Cond.code ({ cls := "java/lang/Math", name := "min", desc := "(II)I" } : Jvm.MethodName) jdk_29_method_69_code (2 : Nat) (Option.some Jvm.ClassFile.FieldType.int)).before args0 about1 = true := code_word (m := ⟨12, 2⟩) (meth := k12m2) (c := k12c2) (by decide +kernel) rfl rfl rfl (by decide +kernel)
set_option maxRecDepth 65536 in
theorem w_c17 : (Jvm.Cond.code ({ cls := "com/example/anagrafe/anagrafe/atom/Markup", name := "text", desc := "(Ljava/lang/String;)V" } : Jvm.MethodName) prog_9_method_7_code (2 : Nat) (Option.none : Option Jvm.ClassFile.FieldType)).before args0 about1 = true := code_word (m := ⟨10, 3⟩) (meth := k10m3) (c := k10c3) (by decide +kernel) rfl rfl rfl (by decide +kernel)
set_option maxRecDepth 65536 in
theorem w_c18 : (Jvm.Cond.code ({ cls := "java/lang/String", name := "length", desc := "()I" } : Jvm.MethodName) jdk_42_method_54_code (1 : Nat) (Option.some Jvm.ClassFile.FieldType.int)).before args0 about1 = true := code_word (m := ⟨7, 4⟩) (meth := k7m4) (c := k7c4) (by decide +kernel) rfl rfl rfl (by decide +kernel)
set_option maxRecDepth 65536 in
theorem w_c19 : (Jvm.Cond.code ({ cls := "java/lang/String", name := "coder", desc := "()B" } : Jvm.MethodName) jdk_42_method_152_code (1 : Nat) (Option.some Jvm.ClassFile.FieldType.byte)).before args0 about1 = true := code_word (m := ⟨7, 12⟩) (meth := k7m12) (c := k7c12) (by decide +kernel) rfl rfl rfl (by decide +kernel)
set_option maxRecDepth 65536 in
theorem w_c20 : (Jvm.Cond.code ({ cls := "com/example/anagrafe/anagrafe/atom/Markup", name := "put", desc := "(Ljava/lang/String;Lcom/example/anagrafe/anagrafe/atom/Markup$Escape;)V" } : Jvm.MethodName) prog_9_method_12_code (8 : Nat) (Option.none : Option Jvm.ClassFile.FieldType)).before args0 about1 = true := code_word (m := ⟨10, 7⟩) (meth := k10m7) (c := k10c7) (by decide +kernel) rfl rfl rfl (by decide +kernel)
set_option maxRecDepth 65536 in
theorem w_c21 : (Jvm.Cond.code ({ cls := "com/example/anagrafe/anagrafe/atom/Markup$Escape", name := "isNeededBy", desc := "(Ljava/lang/String;)Z" } : Jvm.MethodName) prog_10_method_5_code (3 : Nat) (Option.some Jvm.ClassFile.FieldType.boolean)).before args0 about1 = true := code_word (m := ⟨15, 1⟩) (meth := k15m1) (c := k15c1) (by decide +kernel) rfl rfl rfl (by decide +kernel)
set_option maxRecDepth 65536 in
theorem w_c22 : (Jvm.Cond.code ({ cls := "java/lang/String", name := "charAt", desc := "(I)C" } : Jvm.MethodName) jdk_42_method_56_code (2 : Nat) (Option.some Jvm.ClassFile.FieldType.char)).before args0 about1 = true := code_word (m := ⟨7, 5⟩) (meth := k7m5) (c := k7c5) (by decide +kernel) rfl rfl rfl (by decide +kernel)
set_option maxRecDepth 65536 in
theorem w_c23 : (Jvm.Cond.code ({ cls := "java/lang/String", name := "isLatin1", desc := "()Z" } : Jvm.MethodName) jdk_42_method_154_code (1 : Nat) (Option.some Jvm.ClassFile.FieldType.boolean)).before args0 about1 = true := code_word (m := ⟨7, 13⟩) (meth := k7m13) (c := k7c13) (by decide +kernel) rfl rfl rfl (by decide +kernel)
set_option maxRecDepth 65536 in
theorem w_c24 : (Jvm.Cond.code ({ cls := "java/lang/StringLatin1", name := "charAt", desc := "([BI)C" } : Jvm.MethodName) jdk_43_method_2_code (2 : Nat) (Option.some Jvm.ClassFile.FieldType.char)).before args0 about1 = true := code_word (m := ⟨9, 1⟩) (meth := k9m1) (c := k9c1) (by decide +kernel) rfl rfl rfl (by decide +kernel)
set_option maxRecDepth 65536 in
theorem w_c25 : (Jvm.Cond.code ({ cls := "java/lang/String", name := "checkIndex", desc := "(II)V" } : Jvm.MethodName) jdk_42_method_155_code (2 : Nat) (Option.none : Option Jvm.ClassFile.FieldType)).before args0 about1 = true := code_word (m := ⟨7, 14⟩) (meth := k7m14) (c := k7c14) (by decide +kernel) rfl rfl rfl (by decide +kernel)
set_option maxRecDepth 65536 in
theorem w_c26 : (Jvm.Cond.code ({ cls := "jdk/internal/util/Preconditions", name := "checkIndex", desc := "(IILjava/util/function/BiFunction;)I" } : Jvm.MethodName) jdk_41_method_11_code (3 : Nat) (Option.some Jvm.ClassFile.FieldType.int)).before args0 about1 = true := code_word (m := ⟨16, 1⟩) (meth := k16m1) (c := k16c1) (by decide +kernel) rfl rfl rfl (by decide +kernel)
set_option maxRecDepth 65536 in
theorem w_c27 : (Jvm.Cond.code ({ cls := "java/lang/String", name := "indexOf", desc := "(I)I" } : Jvm.MethodName) jdk_42_method_79_code (2 : Nat) (Option.some Jvm.ClassFile.FieldType.int)).before args0 about1 = true := code_word (m := ⟨7, 7⟩) (meth := k7m7) (c := k7c7) (by decide +kernel) rfl rfl rfl (by decide +kernel)
set_option maxRecDepth 65536 in
theorem w_c28 : (Jvm.Cond.code ({ cls := "java/lang/String", name := "indexOf", desc := "(II)I" } : Jvm.MethodName) jdk_42_method_80_code (3 : Nat) (Option.some Jvm.ClassFile.FieldType.int)).before args0 about1 = true := code_word (m := ⟨7, 8⟩) (meth := k7m8) (c := k7c8) (by decide +kernel) rfl rfl rfl (by decide +kernel)
set_option maxRecDepth 65536 in
theorem w_c29 : (Jvm.Cond.code ({ cls := "java/lang/StringLatin1", name := "indexOf", desc := "([BIII)I" } : Jvm.MethodName) jdk_43_method_22_code (4 : Nat) (Option.some Jvm.ClassFile.FieldType.int)).before args0 about1 = true := code_word (m := ⟨9, 4⟩) (meth := k9m4) (c := k9c4) (by decide +kernel) rfl rfl rfl (by decide +kernel)
set_option maxRecDepth 65536 in
theorem w_c30 : (Jvm.Cond.code ({ cls := "java/lang/StringLatin1", name := "canEncode", desc := "(I)Z" } : Jvm.MethodName) jdk_43_method_4_code (1 : Nat) (Option.some Jvm.ClassFile.FieldType.boolean)).before args0 about1 = true := code_word (m := ⟨9, 3⟩) (meth := k9m3) (c := k9c3) (by decide +kernel) rfl rfl rfl (by decide +kernel)
set_option maxRecDepth 65536 in
theorem w_c31 : (Jvm.Cond.code ({ cls := "java/lang/Math", name := "max", desc := "(II)I" } : Jvm.MethodName) jdk_29_method_65_code (2 : Nat) (Option.some Jvm.ClassFile.FieldType.int)).before args0 about1 = true := code_word (m := ⟨12, 1⟩) (meth := k12m1) (c := k12c1) (by decide +kernel) rfl rfl rfl (by decide +kernel)
set_option maxRecDepth 65536 in
theorem w_c32 : (Jvm.Cond.code ({ cls := "java/lang/StringLatin1", name := "indexOfChar", desc := "([BIII)I" } : Jvm.MethodName) jdk_43_method_23_code (6 : Nat) (Option.some Jvm.ClassFile.FieldType.int)).before args0 about1 = true := code_word (m := ⟨9, 5⟩) (meth := k9m5) (c := k9c5) (by decide +kernel) rfl rfl rfl (by decide +kernel)
set_option maxRecDepth 65536 in
theorem w_c33 : (Jvm.Cond.code ({ cls := "java/lang/String", name := "getBytes", desc := "(Ljava/nio/charset/Charset;)[B" } : Jvm.MethodName) jdk_42_method_64_code (2 : Nat) (Option.some (Jvm.ClassFile.FieldType.array Jvm.ClassFile.FieldType.byte))).before args0 about1 = true := code_word (m := ⟨7, 6⟩) (meth := k7m6) (c := k7c6) (by decide +kernel) rfl rfl rfl (by decide +kernel)
set_option maxRecDepth 65536 in
theorem w_c34 : (Jvm.Cond.code ({ cls := "java/lang/String", name := "encode", desc := "(Ljava/nio/charset/Charset;B[B)[B" } : Jvm.MethodName) jdk_42_method_18_code (3 : Nat) (Option.some (Jvm.ClassFile.FieldType.array Jvm.ClassFile.FieldType.byte))).before args0 about1 = true := code_word (m := ⟨7, 2⟩) (meth := k7m2) (c := k7c2) (by decide +kernel) rfl rfl rfl (by decide +kernel)
set_option maxRecDepth 65536 in
theorem w_c35 : (Jvm.Cond.code ({ cls := "java/lang/String", name := "encodeUTF8", desc := "(B[BZ)[B" } : Jvm.MethodName) jdk_42_method_46_code (9 : Nat) (Option.some (Jvm.ClassFile.FieldType.array Jvm.ClassFile.FieldType.byte))).before args0 about1 = true := code_word (m := ⟨7, 3⟩) (meth := k7m3) (c := k7c3) (by decide +kernel) rfl rfl rfl (by decide +kernel)
set_option maxRecDepth 65536 in
theorem w_c36 : (Jvm.Cond.code ({ cls := "java/lang/StringCoding", name := "hasNegatives", desc := "([BII)Z" } : Jvm.MethodName) jdk_123_method_2_code (3 : Nat) (Option.some Jvm.ClassFile.FieldType.boolean)).before args0 about1 = true := code_word (m := ⟨22, 1⟩) (meth := k22m1) (c := k22c1) (by decide +kernel) rfl rfl rfl (by decide +kernel)
set_option maxRecDepth 65536 in
theorem w_c37 : (Jvm.Cond.code ({ cls := "java/lang/StringCoding", name := "countPositives", desc := "([BII)I" } : Jvm.MethodName) jdk_123_method_3_code (5 : Nat) (Option.some Jvm.ClassFile.FieldType.int)).before args0 about1 = true := code_word (m := ⟨22, 2⟩) (meth := k22m2) (c := k22c2) (by decide +kernel) rfl rfl rfl (by decide +kernel)
set_option maxRecDepth 65536 in
theorem w_c38 : (Jvm.Cond.code ({ cls := "com/example/anagrafe/anagrafe/atom/Markup", name := "open", desc := "(Ljava/lang/String;Ljava/lang/String;)V" } : Jvm.MethodName) prog_9_method_3_code (3 : Nat) (Option.none : Option Jvm.ClassFile.FieldType)).before args0 about1 = true := code_word (m := ⟨10, 1⟩) (meth := k10m1) (c := k10c1) (by decide +kernel) rfl rfl rfl (by decide +kernel)
set_option maxRecDepth 65536 in
theorem w_c39 : (Jvm.Cond.code ({ cls := "com/example/anagrafe/anagrafe/atom/Markup", name := "ascii", desc := "(Ljava/lang/String;)V" } : Jvm.MethodName) prog_9_method_11_code (5 : Nat) (Option.none : Option Jvm.ClassFile.FieldType)).before args0 about1 = true := code_word (m := ⟨10, 6⟩) (meth := k10m6) (c := k10c6) (by decide +kernel) rfl rfl rfl (by decide +kernel)
set_option maxRecDepth 65536 in
theorem w_c40 : (Jvm.Cond.code ({ cls := "com/example/anagrafe/anagrafe/atom/Markup$Escape", name := "escapes", desc := "(C)Z" } : Jvm.MethodName) prog_10_method_4_code (2 : Nat) (Option.some Jvm.ClassFile.FieldType.boolean)).before args0 about1 = true := code_word (m := ⟨15, 0⟩) (meth := k15m0) (c := k15c0) (by decide +kernel) rfl rfl rfl (by decide +kernel)
def codes1 : List Jvm.Cond := [Jvm.Cond.code x code maxLocals ret, Jvm.Cond.code ({ cls := "java/lang/String", name := "<init>", desc := "([C)V" } : Jvm.MethodName) jdk_42_method_3_code (2 : Nat) (Option.none : Option Jvm.ClassFile.FieldType), Jvm.Cond.code ({ cls := "java/lang/String", name := "<init>", desc := "([CIILjava/lang/Void;)V" } : Jvm.MethodName) jdk_42_method_149_code (6 : Nat) (Option.none : Option Jvm.ClassFile.FieldType), Jvm.Cond.code ({ cls := "java/lang/Object", name := "<init>", desc := "()V" } : Jvm.MethodName) object_method_1_code (1 : Nat) (Option.none : Option Jvm.ClassFile.FieldType), Jvm.Cond.code ({ cls := "java/lang/StringUTF16", name := "compress", desc := "([CII)[B" } : Jvm.MethodName) jdk_52_method_16_code (6 : Nat) (Option.some (Jvm.ClassFile.FieldType.array Jvm.ClassFile.FieldType.byte)), Jvm.Cond.code ({ cls := "java/lang/StringUTF16", name := "compress", desc := "([CI[BII)I" } : Jvm.MethodName) jdk_52_method_21_code (7 : Nat) (Option.some Jvm.ClassFile.FieldType.int), Jvm.Cond.code ({ cls := "java/lang/StringUTF16", name := "coderFromArrayLen", desc := "([BI)B" } : Jvm.MethodName) jdk_52_method_15_code (2 : Nat) (Option.some Jvm.ClassFile.FieldType.byte), Jvm.Cond.code ({ cls := "java/lang/String", name := "valueOf", desc := "(C)Ljava/lang/String;" } : Jvm.MethodName) jdk_42_method_139_code (1 : Nat) (Option.some (Jvm.ClassFile.FieldType.object "java/lang/String")), Jvm.Cond.code ({ cls := "java/lang/StringLatin1", name := "canEncode", desc := "(C)Z" } : Jvm.MethodName) jdk_43_method_3_code (1 : Nat) (Option.some Jvm.ClassFile.FieldType.boolean), Jvm.Cond.code ({ cls := "java/lang/StringLatin1", name := "toBytes", desc := "(C)[B" } : Jvm.MethodName) jdk_43_method_46_code (1 : Nat) (Option.some (Jvm.ClassFile.FieldType.array Jvm.ClassFile.FieldType.byte)), Jvm.Cond.code ({ cls := "java/lang/String", name := "<init>", desc := "([BB)V" } : Jvm.MethodName) jdk_42_method_151_code (3 : Nat) (Option.none : Option Jvm.ClassFile.FieldType), Jvm.Cond.code ({ cls := "com/example/anagrafe/anagrafe/atom/Markup", name := "<init>", desc := "()V" } : Jvm.MethodName) prog_9_method_1_code (1 : Nat) (Option.none : Option Jvm.ClassFile.FieldType), Jvm.Cond.code ({ cls := "com/example/anagrafe/anagrafe/atom/Markup", name := "endEmpty", desc := "()V" } : Jvm.MethodName) prog_9_method_6_code (1 : Nat) (Option.none : Option Jvm.ClassFile.FieldType), Jvm.Cond.code ({ cls := "com/example/anagrafe/anagrafe/atom/Markup", name := "room", desc := "(I)V" } : Jvm.MethodName) prog_9_method_10_code (3 : Nat) (Option.none : Option Jvm.ClassFile.FieldType), Jvm.Cond.code ({ cls := "com/example/anagrafe/anagrafe/atom/Markup", name := "toByteArray", desc := "()[B" } : Jvm.MethodName) prog_9_method_9_code (1 : Nat) (Option.some (Jvm.ClassFile.FieldType.array Jvm.ClassFile.FieldType.byte)), Jvm.Cond.code ({ cls := "java/util/Arrays", name := "copyOf", desc := "([BI)[B" } : Jvm.MethodName) jdk_65_method_121_code (3 : Nat) (Option.some (Jvm.ClassFile.FieldType.array Jvm.ClassFile.FieldType.byte)), Jvm.Cond.code ({ cls := "java/lang/Math", name := "min", desc := "(II)I" } : Jvm.MethodName) jdk_29_method_69_code (2 : Nat) (Option.some Jvm.ClassFile.FieldType.int), Jvm.Cond.code ({ cls := "com/example/anagrafe/anagrafe/atom/Markup", name := "text", desc := "(Ljava/lang/String;)V" } : Jvm.MethodName) prog_9_method_7_code (2 : Nat) (Option.none : Option Jvm.ClassFile.FieldType), Jvm.Cond.code ({ cls := "java/lang/String", name := "length", desc := "()I" } : Jvm.MethodName) jdk_42_method_54_code (1 : Nat) (Option.some Jvm.ClassFile.FieldType.int), Jvm.Cond.code ({ cls := "java/lang/String", name := "coder", desc := "()B" } : Jvm.MethodName) jdk_42_method_152_code (1 : Nat) (Option.some Jvm.ClassFile.FieldType.byte), Jvm.Cond.code ({ cls := "com/example/anagrafe/anagrafe/atom/Markup", name := "put", desc := "(Ljava/lang/String;Lcom/example/anagrafe/anagrafe/atom/Markup$Escape;)V" } : Jvm.MethodName) prog_9_method_12_code (8 : Nat) (Option.none : Option Jvm.ClassFile.FieldType), Jvm.Cond.code ({ cls := "com/example/anagrafe/anagrafe/atom/Markup$Escape", name := "isNeededBy", desc := "(Ljava/lang/String;)Z" } : Jvm.MethodName) prog_10_method_5_code (3 : Nat) (Option.some Jvm.ClassFile.FieldType.boolean), Jvm.Cond.code ({ cls := "java/lang/String", name := "charAt", desc := "(I)C" } : Jvm.MethodName) jdk_42_method_56_code (2 : Nat) (Option.some Jvm.ClassFile.FieldType.char), Jvm.Cond.code ({ cls := "java/lang/String", name := "isLatin1", desc := "()Z" } : Jvm.MethodName) jdk_42_method_154_code (1 : Nat) (Option.some Jvm.ClassFile.FieldType.boolean), Jvm.Cond.code ({ cls := "java/lang/StringLatin1", name := "charAt", desc := "([BI)C" } : Jvm.MethodName) jdk_43_method_2_code (2 : Nat) (Option.some Jvm.ClassFile.FieldType.char), Jvm.Cond.code ({ cls := "java/lang/String", name := "checkIndex", desc := "(II)V" } : Jvm.MethodName) jdk_42_method_155_code (2 : Nat) (Option.none : Option Jvm.ClassFile.FieldType), Jvm.Cond.code ({ cls := "jdk/internal/util/Preconditions", name := "checkIndex", desc := "(IILjava/util/function/BiFunction;)I" } : Jvm.MethodName) jdk_41_method_11_code (3 : Nat) (Option.some Jvm.ClassFile.FieldType.int), Jvm.Cond.code ({ cls := "java/lang/String", name := "indexOf", desc := "(I)I" } : Jvm.MethodName) jdk_42_method_79_code (2 : Nat) (Option.some Jvm.ClassFile.FieldType.int), Jvm.Cond.code ({ cls := "java/lang/String", name := "indexOf", desc := "(II)I" } : Jvm.MethodName) jdk_42_method_80_code (3 : Nat) (Option.some Jvm.ClassFile.FieldType.int), Jvm.Cond.code ({ cls := "java/lang/StringLatin1", name := "indexOf", desc := "([BIII)I" } : Jvm.MethodName) jdk_43_method_22_code (4 : Nat) (Option.some Jvm.ClassFile.FieldType.int), Jvm.Cond.code ({ cls := "java/lang/StringLatin1", name := "canEncode", desc := "(I)Z" } : Jvm.MethodName) jdk_43_method_4_code (1 : Nat) (Option.some Jvm.ClassFile.FieldType.boolean), Jvm.Cond.code ({ cls := "java/lang/Math", name := "max", desc := "(II)I" } : Jvm.MethodName) jdk_29_method_65_code (2 : Nat) (Option.some Jvm.ClassFile.FieldType.int), Jvm.Cond.code ({ cls := "java/lang/StringLatin1", name := "indexOfChar", desc := "([BIII)I" } : Jvm.MethodName) jdk_43_method_23_code (6 : Nat) (Option.some Jvm.ClassFile.FieldType.int), Jvm.Cond.code ({ cls := "java/lang/String", name := "getBytes", desc := "(Ljava/nio/charset/Charset;)[B" } : Jvm.MethodName) jdk_42_method_64_code (2 : Nat) (Option.some (Jvm.ClassFile.FieldType.array Jvm.ClassFile.FieldType.byte)), Jvm.Cond.code ({ cls := "java/lang/String", name := "encode", desc := "(Ljava/nio/charset/Charset;B[B)[B" } : Jvm.MethodName) jdk_42_method_18_code (3 : Nat) (Option.some (Jvm.ClassFile.FieldType.array Jvm.ClassFile.FieldType.byte)), Jvm.Cond.code ({ cls := "java/lang/String", name := "encodeUTF8", desc := "(B[BZ)[B" } : Jvm.MethodName) jdk_42_method_46_code (9 : Nat) (Option.some (Jvm.ClassFile.FieldType.array Jvm.ClassFile.FieldType.byte)), Jvm.Cond.code ({ cls := "java/lang/StringCoding", name := "hasNegatives", desc := "([BII)Z" } : Jvm.MethodName) jdk_123_method_2_code (3 : Nat) (Option.some Jvm.ClassFile.FieldType.boolean), Jvm.Cond.code ({ cls := "java/lang/StringCoding", name := "countPositives", desc := "([BII)I" } : Jvm.MethodName) jdk_123_method_3_code (5 : Nat) (Option.some Jvm.ClassFile.FieldType.int), Jvm.Cond.code ({ cls := "com/example/anagrafe/anagrafe/atom/Markup", name := "open", desc := "(Ljava/lang/String;Ljava/lang/String;)V" } : Jvm.MethodName) prog_9_method_3_code (3 : Nat) (Option.none : Option Jvm.ClassFile.FieldType), Jvm.Cond.code ({ cls := "com/example/anagrafe/anagrafe/atom/Markup", name := "ascii", desc := "(Ljava/lang/String;)V" } : Jvm.MethodName) prog_9_method_11_code (5 : Nat) (Option.none : Option Jvm.ClassFile.FieldType), Jvm.Cond.code ({ cls := "com/example/anagrafe/anagrafe/atom/Markup$Escape", name := "escapes", desc := "(C)Z" } : Jvm.MethodName) prog_10_method_4_code (2 : Nat) (Option.some Jvm.ClassFile.FieldType.boolean)]
set_option maxRecDepth 65536 in
theorem codes_eq : words1.filter isCode = codes1 := rfl
theorem w_codes : ∀ c ∈ words1.filter isCode, c.before args0 about1 = true := by
  rw [codes_eq]
  intro c hc
  simp only [codes1, List.mem_cons, List.not_mem_nil, or_false] at hc
  rcases hc with rfl | rfl | rfl | rfl | rfl | rfl | rfl | rfl | rfl | rfl | rfl | rfl | rfl | rfl | rfl | rfl | rfl | rfl | rfl | rfl | rfl | rfl | rfl | rfl | rfl | rfl | rfl | rfl | rfl | rfl | rfl | rfl | rfl | rfl | rfl | rfl | rfl | rfl | rfl | rfl | rfl
  · exact w_c0
  · exact w_c1
  · exact w_c2
  · exact w_c3
  · exact w_c4
  · exact w_c5
  · exact w_c6
  · exact w_c7
  · exact w_c8
  · exact w_c9
  · exact w_c10
  · exact w_c11
  · exact w_c12
  · exact w_c13
  · exact w_c14
  · exact w_c15
  · exact w_c16
  · exact w_c17
  · exact w_c18
  · exact w_c19
  · exact w_c20
  · exact w_c21
  · exact w_c22
  · exact w_c23
  · exact w_c24
  · exact w_c25
  · exact w_c26
  · exact w_c27
  · exact w_c28
  · exact w_c29
  · exact w_c30
  · exact w_c31
  · exact w_c32
  · exact w_c33
  · exact w_c34
  · exact w_c35
  · exact w_c36
  · exact w_c37
  · exact w_c38
  · exact w_c39
  · exact w_c40
set_option maxRecDepth 65536 in
theorem w_t1 : (words1.take 24).all (fun c => isCode c || c.before args0 about1) = true := by decide +kernel
set_option maxRecDepth 65536 in
theorem w_t2 : ((words1.drop 24).take 24).all (fun c => isCode c || c.before args0 about1) = true := by decide +kernel
set_option maxRecDepth 65536 in
theorem w_t3 : (((words1.drop 24).drop 24).take 24).all (fun c => isCode c || c.before args0 about1) = true := by decide +kernel
set_option maxRecDepth 65536 in
theorem w_t4 : ((((words1.drop 24).drop 24).drop 24).take 24).all (fun c => isCode c || c.before args0 about1) = true := by decide +kernel
set_option maxRecDepth 65536 in
theorem w_t5 : (((((words1.drop 24).drop 24).drop 24).drop 24).take 24).all (fun c => isCode c || c.before args0 about1) = true := by decide +kernel
set_option maxRecDepth 65536 in
theorem w_t6 : ((((((words1.drop 24).drop 24).drop 24).drop 24).drop 24).take 24).all (fun c => isCode c || c.before args0 about1) = true := by decide +kernel
set_option maxRecDepth 65536 in
theorem w_t7 : (((((((words1.drop 24).drop 24).drop 24).drop 24).drop 24).drop 24).take 24).all (fun c => isCode c || c.before args0 about1) = true := by decide +kernel
set_option maxRecDepth 65536 in
theorem w_t8 : ((((((((words1.drop 24).drop 24).drop 24).drop 24).drop 24).drop 24).drop 24).take 24).all (fun c => isCode c || c.before args0 about1) = true := by decide +kernel
set_option maxRecDepth 65536 in
theorem w_t9 : ((((((((words1.drop 24).drop 24).drop 24).drop 24).drop 24).drop 24).drop 24).drop 24).all (fun c => isCode c || c.before args0 about1) = true := by decide +kernel
theorem w_tables : (allAtoms (Jvm.Cond.code x code maxLocals ret :: tables_1)).before args0 about1 = true := by
  rw [allAtoms_all]
  show words1.all (fun c => c.before args0 about1) = true
  refine all_split ?_ w_codes
  rw [← List.take_append_drop 24 words1, List.all_append, w_t1, ← List.take_append_drop 24 (words1.drop 24), List.all_append, w_t2, ← List.take_append_drop 24 ((words1.drop 24).drop 24), List.all_append, w_t3, ← List.take_append_drop 24 (((words1.drop 24).drop 24).drop 24), List.all_append, w_t4, ← List.take_append_drop 24 ((((words1.drop 24).drop 24).drop 24).drop 24), List.all_append, w_t5, ← List.take_append_drop 24 (((((words1.drop 24).drop 24).drop 24).drop 24).drop 24), List.all_append, w_t6, ← List.take_append_drop 24 ((((((words1.drop 24).drop 24).drop 24).drop 24).drop 24).drop 24), List.all_append, w_t7, ← List.take_append_drop 24 (((((((words1.drop 24).drop 24).drop 24).drop 24).drop 24).drop 24).drop 24), List.all_append, w_t8, w_t9]
  rfl
set_option maxRecDepth 65536 in
theorem w_rest : rest_1_c.before args0 about1 = true := by decide +kernel
set_option maxRecDepth 65536 in
theorem w_case : (Jvm.Cond.and given_1 narrow_1).before args0 about1 = true := by decide +kernel
set_option maxRecDepth 65536 in
theorem w_consts : constsHeld consts_1 about1 := Jvm.Lit.constsHeldB_iff.mp (by decide +kernel)
theorem w_applies : (headSpec (Jvm.Cond.code x code maxLocals ret :: tables_1) room_1).applies x e0.platform about1 = true :=
  (Spec.applies_iff w_frames).mpr ⟨w_running, w_runnable, w_alone, w_named, w_hears, w_ripe, w_room, w_tables⟩
theorem atStart : AtStart classFile x code maxLocals ret World_1 tables_1 room_1 Calls_1 rest_1 Pre_1 launch0 p0 e0 about1 theMethod args0 below0 :=
  ⟨lists_1, trivial, launch0.admits_env _ _ _, launch0.least_env, fairChoices_fair.cas, fairChoices_fair.clock, w_frames, w_args, w_heap, w_applies, ⟨w_consts, trivial⟩, w_rest, w_case⟩
end start1
theorem witness_1 : WitnessClaimed_1 := ⟨start1.p0, start1.e0, start1.about1, start1.theMethod, start1.args0, start1.below0, start1.atStart⟩
end Jvm.Pilot.@@N@@
