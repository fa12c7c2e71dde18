import JvmDerived
import JvmDerived.Pilot.@@N@@Statement
import JvmDerived.Pilot.@@N@@Code
set_option linter.unusedVariables false
set_option linter.unusedSimpArgs false
namespace Jvm.Pilot.@@N@@
open Jvm Jvm.ClassFile Sem Op Lib Jvm.Free Jvm.Stand Jvm.LawKit Jvm.RoadKit Bundle Jvm.Pilot.@@N@@.Jvm.D
theorem own_nz {args : Array Value} {s : State} {tm : Term} {z : Int32} (ev : tm.eval args s none [] s = some (.int z)) (h : (Jvm.Cond.not (Jvm.Cond.eq tm (Term.int 0))).value args s none s [] = some true) : ¬ z = 0 := by
  have h1 := not_v h
  have e2 : (Term.int 0).eval args s none [] s = some (.int 0) := Term.int_eval 0
  intro q
  subst q
  simp [Jvm.Cond.value, ev, e2] at h1
theorem own_Sta_keep {Z : State} {h h' : Heap} {C n d : String} {v : Value} {ws : List Addr} (F : Sta Z h C n d v) (K : Keep h h' ws) (q : ∀ a ∈ ws, ∃ c : Cell, h[a]? = some c ∧ c.vm.isStatics = false) : Sta Z h' C n d v := by
  obtain ⟨cf, i, k, f, st, cell, h1, h2, h3, h4, h5, h6, h7⟩ := F
  refine ⟨cf, i, k, f, st, cell, h1, h2, h3, h4, K.2.1 st cell h5 (fun z => ?_), h6, h7⟩
  obtain ⟨c, e1, e2⟩ := q st z
  cases h5.symm.trans e1
  rw [e2] at h6
  cases h6
theorem own_cat {v : Value} (h : v.isRef = true) : v.category = 1 := by cases v <;> simp [Value.isRef, Value.category] at h ⊢
theorem own_narrow {v : Value} (h : v.isRef = true) {t : FieldType} (ht : t.isReference = true) : narrow t v = v := by cases t <;> cases v <;> simp_all [narrow, Value.isRef, FieldType.isReference]
theorem own_fits {v : Value} (h : v.isRef = true) {t : FieldType} (ht : t.isReference = true) : fits t v = true := by cases t <;> cases v <;> simp_all [fits, Value.isRef, FieldType.isReference]
theorem own_fits_nar (t : FieldType) (x : Int32) (ht : t = .boolean ∨ t = .byte ∨ t = .char ∨ t = .short) : fits t (.int (nar t x)) = true := by
  rcases ht with rfl | rfl | rfl | rfl
  · exact fits_nar_bool x
  · exact fits_nar_byte x
  · exact fits_nar_char x
  · exact fits_nar_short x
section Layer
variable {p : Program} {l : Launch} {e : Env} {R : Room} {s : State} {m : MethodId} {args : Array Value} {below : List Frame} {meth : Method} {c : Code} {T : State} {locs : List Loc} {cells slots : Nat}
/-- the walk from σ comes to an end at which K holds -/
def Go (p : Program) (e : Env) (below : List Frame) (K : State → Outcome → Prop) (σ : State) : Prop := ∃ s₂ o, Steps p.tables e below σ s₂ ∧ K s₂ o
theorem Go.st {K : State → Outcome → Prop} {σ σ' : State} (h : ∀ t, Steps p.tables e below σ' t → Steps p.tables e below σ t) (k : Go p e below K σ') : Go p e below K σ := by
  obtain ⟨a, b, c, d⟩ := k
  exact ⟨a, b, h _ c, d⟩
theorem Go.tr {K : State → Outcome → Prop} {σ σ' : State} (h : Steps p.tables e below σ σ') (k : Go p e below K σ') : Go p e below K σ := Go.st (fun _ q => h.trans q) k
/-- what a contract asks of the end -/
def KQ (s : State) (below : List Frame) (Q : Option Value → Heap → List Loc → Prop) (C S : Nat) (s₂ : State) (o : Outcome) : Prop :=
  s₂.status = .running ∧ Ended s₂ below o ∧ ∃ v L, o = .returned v ∧ Q v s₂.heap L ∧ FrameEnd s o s₂ L C S
theorem Go.body {K : State → Outcome → Prop} {σ : State} {g g' : JFrame} (hg : g = g') (k : Go p e below K (T.setTop g')) : Go p e below K (T.setTop g) := hg ▸ k
/-- return of nothing -/
theorem Go.retV {Q : Option Value → Heap → List Loc → Prop} {C S : Nat} (X : Stand p l e R s m args below meth c T locs cells slots) (hx : p.tables.exec = Jvm.exec) (hlk : meth.locks = false) (hret : meth.sig.returnType = none) {pc : Nat} {Ls : Array Slot} (hd : decode c.code pc = .ok (.return_, 1)) (hC : cells ≤ C) (hS : slots ≤ S) (q : Q none T.heap locs) :
    Go p e below (KQ s below Q C S) (T.setTop (mkF m pc Ls [])) := by
  obtain ⟨fs, hr, hrun, hended, hW, hsame⟩ := X.leave (v := none) (fun _ => rfl)
  exact ⟨_, _, X.returnOut hx hret hd hr, hrun, hended, _, _, rfl, q, ⟨_, rfl⟩, hW, hsame.mono hC hS⟩
/-- return of an int -/
theorem Go.retI {Q : Option Value → Heap → List Loc → Prop} {C S : Nat} (X : Stand p l e R s m args below meth c T locs cells slots) (hx : p.tables.exec = Jvm.exec) (hlk : meth.locks = false) (hret : meth.sig.returnType = some .int) {pc : Nat} {Ls : Array Slot} {z : Int32} {rest : List Value} (hd : decode c.code pc = .ok (.ireturn, 1)) (hC : cells ≤ C) (hS : slots ≤ S) (q : Q (some (.int z)) T.heap locs) :
    Go p e below (KQ s below Q C S) (T.setTop (mkF m pc Ls (.int z :: rest))) := by
  obtain ⟨fs, hr, hrun, hended, hW, hsame⟩ := X.leave (v := some (.int z)) (fun h => by rw [hret] at h; cases h)
  exact ⟨_, _, retOut X hx hret rfl (Or.inl ⟨rfl, Or.inl rfl, _, rfl⟩) hd hr, hrun, hended, _, _, rfl, q, ⟨_, rfl⟩, hW, hsame.mono hC hS⟩
/-- return of a boolean, byte, char or short -/
theorem Go.retN {Q : Option Value → Heap → List Loc → Prop} {C S : Nat} (X : Stand p l e R s m args below meth c T locs cells slots) (hx : p.tables.exec = Jvm.exec) (hlk : meth.locks = false) {t : FieldType} (hret : meth.sig.returnType = some t) (ht : t = .boolean ∨ t = .byte ∨ t = .char ∨ t = .short) {pc : Nat} {Ls : Array Slot} {z : Int32} {rest : List Value} (hd : decode c.code pc = .ok (.ireturn, 1)) (hC : cells ≤ C) (hS : slots ≤ S) (q : Q (some (.int (nar t z))) T.heap locs) :
    Go p e below (KQ s below Q C S) (T.setTop (mkF m pc Ls (.int z :: rest))) := by
  obtain ⟨fs, hr, hrun, hended, hW, hsame⟩ := X.leave (v := some (.int (nar t z))) (fun h => by rw [hret] at h; cases h)
  exact ⟨_, _, RoadKit.retN X hx hret ht hd hr, hrun, hended, _, _, rfl, q, ⟨_, rfl⟩, hW, hsame.mono hC hS⟩
/-- return of a reference -/
theorem Go.retA {Q : Option Value → Heap → List Loc → Prop} {C S : Nat} (X : Stand p l e R s m args below meth c T locs cells slots) (hx : p.tables.exec = Jvm.exec) (hlk : meth.locks = false) {t : FieldType} (hret : meth.sig.returnType = some t) (ht : t.isReference = true) {pc : Nat} {Ls : Array Slot} {w : Value} (hw : w.isRef = true) {rest : List Value} (hd : decode c.code pc = .ok (.areturn, 1)) (hC : cells ≤ C) (hS : slots ≤ S) (q : Q (some w) T.heap locs) :
    Go p e below (KQ s below Q C S) (T.setTop (mkF m pc Ls (w :: rest))) := by
  obtain ⟨fs, hr, hrun, hended, hW, hsame⟩ := X.leave (v := some w) (fun h => by rw [hret] at h; cases h)
  exact ⟨_, _, retOut X hx hret (by cases t <;> cases w <;> simp_all [narrow, Value.isRef, FieldType.isReference]) (Or.inr (Or.inr (Or.inr (Or.inr ⟨rfl, ht, hw⟩)))) hd hr, hrun, hended, _, _, rfl, q, ⟨_, rfl⟩, hW, hsame.mono hC hS⟩
/-- return of a long -/
theorem Go.retJ {Q : Option Value → Heap → List Loc → Prop} {C S : Nat} (X : Stand p l e R s m args below meth c T locs cells slots) (hx : p.tables.exec = Jvm.exec) (hlk : meth.locks = false) (hret : meth.sig.returnType = some .long) {pc : Nat} {Ls : Array Slot} {z : Int64} {rest : List Value} (hd : decode c.code pc = .ok (.lreturn, 1)) (hC : cells ≤ C) (hS : slots ≤ S) (q : Q (some (.long z)) T.heap locs) :
    Go p e below (KQ s below Q C S) (T.setTop (mkF m pc Ls (.long z :: rest))) := by
  obtain ⟨fs, hr, hrun, hended, hW, hsame⟩ := X.leave (v := some (.long z)) (fun h => by rw [hret] at h; cases h)
  exact ⟨_, _, retOut X hx hret rfl (Or.inr (Or.inl ⟨rfl, rfl, _, rfl⟩)) hd hr, hrun, hended, _, _, rfl, q, ⟨_, rfl⟩, hW, hsame.mono hC hS⟩
/-- return of a double -/
theorem Go.retD {Q : Option Value → Heap → List Loc → Prop} {C S : Nat} (X : Stand p l e R s m args below meth c T locs cells slots) (hx : p.tables.exec = Jvm.exec) (hlk : meth.locks = false) (hret : meth.sig.returnType = some .double) {pc : Nat} {Ls : Array Slot} {z : UInt64} {rest : List Value} (hd : decode c.code pc = .ok (.dreturn, 1)) (hC : cells ≤ C) (hS : slots ≤ S) (q : Q (some (.double z)) T.heap locs) :
    Go p e below (KQ s below Q C S) (T.setTop (mkF m pc Ls (.double z :: rest))) := by
  obtain ⟨fs, hr, hrun, hended, hW, hsame⟩ := X.leave (v := some (.double z)) (fun h => by rw [hret] at h; cases h)
  exact ⟨_, _, retOut X hx hret rfl (Or.inr (Or.inr (Or.inl ⟨rfl, rfl, _, rfl⟩))) hd hr, hrun, hended, _, _, rfl, q, ⟨_, rfl⟩, hW, hsame.mono hC hS⟩
theorem g_iloadN {K : State → Outcome → Prop} (X : Stand p l e R s m args below meth c T locs cells slots) (hx : p.tables.exec = Jvm.exec) {pc : Nat} {L : Array Slot} {S : List Value} {k : Fin 4} {v : Int32} (hd : decode c.code pc = .ok (.iload_n k, 1)) (pc' : Nat) (hp : pc + 1 = pc') (hl : L[k.val]? = some (.val (.int v))) (r : Go p e below K (T.setTop (mkF m pc' L (.int v :: S)))) : Go p e below K (T.setTop (mkF m pc L S)) := by
  subst hp
  exact Go.st (fun _ => XS.iloadN X.here hx rfl hd hl) r
theorem g_iload {K : State → Outcome → Prop} (X : Stand p l e R s m args below meth c T locs cells slots) (hx : p.tables.exec = Jvm.exec) {pc : Nat} {L : Array Slot} {S : List Value} {k : Nat} {v : Int32} (hd : decode c.code pc = .ok (.iload k, 2)) (pc' : Nat) (hp : pc + 2 = pc') (hl : L[k]? = some (.val (.int v))) (r : Go p e below K (T.setTop (mkF m pc' L (.int v :: S)))) : Go p e below K (T.setTop (mkF m pc L S)) := by
  subst hp
  exact Go.st (fun _ => XS.iload X.here hx rfl hd hl) r
theorem g_aloadN {K : State → Outcome → Prop} (X : Stand p l e R s m args below meth c T locs cells slots) (hx : p.tables.exec = Jvm.exec) {pc : Nat} {L : Array Slot} {S : List Value} {k : Fin 4} {v : Value} (hd : decode c.code pc = .ok (.aload_n k, 1)) (pc' : Nat) (hp : pc + 1 = pc') (hl : L[k.val]? = some (.val v)) (hv : v.isRef = true) (r : Go p e below K (T.setTop (mkF m pc' L (v :: S)))) : Go p e below K (T.setTop (mkF m pc L S)) := by
  subst hp
  exact Go.st (fun _ => XS.aloadN X.here hx rfl hd hl hv) r
theorem g_aload {K : State → Outcome → Prop} (X : Stand p l e R s m args below meth c T locs cells slots) (hx : p.tables.exec = Jvm.exec) {pc : Nat} {L : Array Slot} {S : List Value} {k : Nat} {v : Value} (hd : decode c.code pc = .ok (.aload k, 2)) (pc' : Nat) (hp : pc + 2 = pc') (hl : L[k]? = some (.val v)) (hv : v.isRef = true) (r : Go p e below K (T.setTop (mkF m pc' L (v :: S)))) : Go p e below K (T.setTop (mkF m pc L S)) := by
  subst hp
  exact Go.st (fun _ => XS.aload X.here hx rfl hd hl hv) r
theorem g_istore {K : State → Outcome → Prop} (X : Stand p l e R s m args below meth c T locs cells slots) (hx : p.tables.exec = Jvm.exec) {pc : Nat} {L : Array Slot} {S : List Value} {k : Nat} {v : Int32} (hd : decode c.code pc = .ok (.istore k, 2)) (pc' : Nat) (hp : pc + 2 = pc') (L' : Array Slot) (hl : storeLocals L k (.int v) = some L') (r : Go p e below K (T.setTop (mkF m pc' L' S))) : Go p e below K (T.setTop (mkF m pc L (.int v :: S))) := by
  subst hp
  exact Go.st (fun _ => XS.istore X.here hx rfl hd rfl hl) r
theorem g_astore {K : State → Outcome → Prop} (X : Stand p l e R s m args below meth c T locs cells slots) (hx : p.tables.exec = Jvm.exec) {pc : Nat} {L : Array Slot} {S : List Value} {k : Nat} {v : Value} (hd : decode c.code pc = .ok (.astore k, 2)) (pc' : Nat) (hp : pc + 2 = pc') (hv : v.isRef = true) (L' : Array Slot) (hl : storeLocals L k v = some L') (r : Go p e below K (T.setTop (mkF m pc' L' S))) : Go p e below K (T.setTop (mkF m pc L (v :: S))) := by
  subst hp
  exact Go.st (fun _ => XS.astore X.here hx rfl hd rfl hv hl) r
theorem g_iconst {K : State → Outcome → Prop} (X : Stand p l e R s m args below meth c T locs cells slots) (hx : p.tables.exec = Jvm.exec) {pc : Nat} {L : Array Slot} {S : List Value} {i : Int} (hd : decode c.code pc = .ok (.iconst i, 1)) (pc' : Nat) (hp : pc + 1 = pc') (z : Int32) (hz : Int32.ofInt i = z) (r : Go p e below K (T.setTop (mkF m pc' L (.int z :: S)))) : Go p e below K (T.setTop (mkF m pc L S)) := by
  subst hp; subst hz
  exact Go.st (fun _ => XS.iconst X.here hx rfl hd) r
theorem g_bipush {K : State → Outcome → Prop} (X : Stand p l e R s m args below meth c T locs cells slots) (hx : p.tables.exec = Jvm.exec) {pc : Nat} {L : Array Slot} {S : List Value} {i : Int} (hd : decode c.code pc = .ok (.bipush i, 2)) (pc' : Nat) (hp : pc + 2 = pc') (z : Int32) (hz : (Int8.ofInt i).toInt32 = z) (r : Go p e below K (T.setTop (mkF m pc' L (.int z :: S)))) : Go p e below K (T.setTop (mkF m pc L S)) := by
  subst hp; subst hz
  exact Go.st (fun _ => XS.bipush X.here hx rfl hd) r
theorem g_sipush {K : State → Outcome → Prop} (X : Stand p l e R s m args below meth c T locs cells slots) (hx : p.tables.exec = Jvm.exec) {pc : Nat} {L : Array Slot} {S : List Value} {i : Int} (hd : decode c.code pc = .ok (.sipush i, 3)) (pc' : Nat) (hp : pc + 3 = pc') (z : Int32) (hz : (Int16.ofInt i).toInt32 = z) (r : Go p e below K (T.setTop (mkF m pc' L (.int z :: S)))) : Go p e below K (T.setTop (mkF m pc L S)) := by
  subst hp; subst hz
  exact Go.st (fun _ => XS.sipush X.here hx rfl hd) r
theorem g_null {K : State → Outcome → Prop} (X : Stand p l e R s m args below meth c T locs cells slots) (hx : p.tables.exec = Jvm.exec) {pc : Nat} {L : Array Slot} {S : List Value} (hd : decode c.code pc = .ok (.aconst_null, 1)) (pc' : Nat) (hp : pc + 1 = pc') (r : Go p e below K (T.setTop (mkF m pc' L (.null :: S)))) : Go p e below K (T.setTop (mkF m pc L S)) := by
  subst hp
  exact Go.st (fun _ => XS.aconstNull X.here hx rfl hd) r
theorem g_iand {K : State → Outcome → Prop} (X : Stand p l e R s m args below meth c T locs cells slots) (hx : p.tables.exec = Jvm.exec) {pc : Nat} {L : Array Slot} {S : List Value} {x y : Int32} (hd : decode c.code pc = .ok (.iand, 1)) (pc' : Nat) (hp : pc + 1 = pc') (z : Int32) (hz : x &&& y = z) (r : Go p e below K (T.setTop (mkF m pc' L (.int z :: S)))) : Go p e below K (T.setTop (mkF m pc L (.int y :: .int x :: S))) := by
  subst hp; subst hz
  exact Go.st (fun _ => XS.iand X.here hx rfl hd rfl) r
theorem g_iushr {K : State → Outcome → Prop} (X : Stand p l e R s m args below meth c T locs cells slots) (hx : p.tables.exec = Jvm.exec) {pc : Nat} {L : Array Slot} {S : List Value} {x y : Int32} (hd : decode c.code pc = .ok (.iushr, 1)) (pc' : Nat) (hp : pc + 1 = pc') (z : Int32) (hz : XT.ushr x y = z) (r : Go p e below K (T.setTop (mkF m pc' L (.int z :: S)))) : Go p e below K (T.setTop (mkF m pc L (.int y :: .int x :: S))) := by
  subst hp; subst hz
  exact Go.st (fun _ => XT.iushr X.here hx rfl hd rfl) r
theorem g_i2b {K : State → Outcome → Prop} (X : Stand p l e R s m args below meth c T locs cells slots) (hx : p.tables.exec = Jvm.exec) {pc : Nat} {L : Array Slot} {S : List Value} {x : Int32} (hd : decode c.code pc = .ok (.i2b, 1)) (pc' : Nat) (hp : pc + 1 = pc') (z : Int32) (hz : x.toInt8.toInt32 = z) (r : Go p e below K (T.setTop (mkF m pc' L (.int z :: S)))) : Go p e below K (T.setTop (mkF m pc L (.int x :: S))) := by
  subst hp; subst hz
  exact Go.st (fun _ => XT.i2b X.here hx rfl hd rfl) r
theorem g_i2c {K : State → Outcome → Prop} (X : Stand p l e R s m args below meth c T locs cells slots) (hx : p.tables.exec = Jvm.exec) {pc : Nat} {L : Array Slot} {S : List Value} {x : Int32} (hd : decode c.code pc = .ok (.i2c, 1)) (pc' : Nat) (hp : pc + 1 = pc') (z : Int32) (hz : x.toUInt32.toUInt16.toUInt32.toInt32 = z) (r : Go p e below K (T.setTop (mkF m pc' L (.int z :: S)))) : Go p e below K (T.setTop (mkF m pc L (.int x :: S))) := by
  subst hp; subst hz
  exact Go.st (fun _ => XT.i2c X.here hx rfl hd rfl) r
theorem g_dup {K : State → Outcome → Prop} (X : Stand p l e R s m args below meth c T locs cells slots) (hx : p.tables.exec = Jvm.exec) {pc : Nat} {L : Array Slot} {S : List Value} {x : Value} (hd : decode c.code pc = .ok (.dup, 1)) (pc' : Nat) (hp : pc + 1 = pc') (hc : x.category = 1) (r : Go p e below K (T.setTop (mkF m pc' L (x :: x :: S)))) : Go p e below K (T.setTop (mkF m pc L (x :: S))) := by
  subst hp
  exact Go.st (fun _ => XS.dup X.here hx rfl hd rfl hc) r
theorem g_goto {K : State → Outcome → Prop} (X : Stand p l e R s m args below meth c T locs cells slots) (hx : p.tables.exec = Jvm.exec) {pc : Nat} {L : Array Slot} {S : List Value} {o : Int} (hd : decode c.code pc = .ok (.goto o, 3)) (pc' : Nat) (h0 : 0 ≤ (pc : Int) + o) (hp : ((pc : Int) + o).toNat = pc') (r : Go p e below K (T.setTop (mkF m pc' L S))) : Go p e below K (T.setTop (mkF m pc L S)) :=
  Go.st (fun _ => XS.goto X.here hx rfl (pc0 := pc) rfl hd h0 hp) r
theorem g_icmp {K : State → Outcome → Prop} (X : Stand p l e R s m args below meth c T locs cells slots) (hx : p.tables.exec = Jvm.exec) {pc : Nat} {L : Array Slot} {S : List Value} {cd : ClassFile.Cond} {o : Int} {x y : Int32} (hd : decode c.code pc = .ok (.if_icmp cd o, 3)) (pc1 pc2 : Nat) (h0 : 0 ≤ (pc : Int) + o) (h1 : ((pc : Int) + o).toNat = pc1) (h2 : pc + 3 = pc2) (yes : if_icmp.holds cd x y = true → Go p e below K (T.setTop (mkF m pc1 L S))) (no : if_icmp.holds cd x y = false → Go p e below K (T.setTop (mkF m pc2 L S))) : Go p e below K (T.setTop (mkF m pc L (.int y :: .int x :: S))) := by
  subst h2
  cases hc : if_icmp.holds cd x y with
  | true => exact Go.st (fun _ => XS.icmpYes X.here hx rfl (pc0 := pc) rfl hd rfl hc h0 h1) (yes hc)
  | false => exact Go.st (fun _ => XS.icmpNo X.here hx rfl hd rfl hc) (no hc)
theorem g_if {K : State → Outcome → Prop} (X : Stand p l e R s m args below meth c T locs cells slots) (hx : p.tables.exec = Jvm.exec) {pc : Nat} {L : Array Slot} {S : List Value} {cd : ClassFile.Cond} {o : Int} {x : Int32} (hd : decode c.code pc = .ok (.ifCond cd o, 3)) (pc1 pc2 : Nat) (h0 : 0 ≤ (pc : Int) + o) (h1 : ((pc : Int) + o).toNat = pc1) (h2 : pc + 3 = pc2) (yes : if_icmp.holds cd x 0 = true → Go p e below K (T.setTop (mkF m pc1 L S))) (no : if_icmp.holds cd x 0 = false → Go p e below K (T.setTop (mkF m pc2 L S))) : Go p e below K (T.setTop (mkF m pc L (.int x :: S))) := by
  subst h2
  cases hc : if_icmp.holds cd x 0 with
  | true => exact Go.st (fun _ => XS.ifYes X.here hx rfl (pc0 := pc) rfl hd rfl ((if0 cd x).trans hc) h0 h1) (yes hc)
  | false => exact Go.st (fun _ => XS.ifNo X.here hx rfl hd rfl ((if0 cd x).trans hc)) (no hc)
theorem g_icmp_eq {K : State → Outcome → Prop} (X : Stand p l e R s m args below meth c T locs cells slots) (hx : p.tables.exec = Jvm.exec) {pc : Nat} {L : Array Slot} {S : List Value} {o : Int} {x y : Int32} (hd : decode c.code pc = .ok (.if_icmp .eq o, 3)) (pc1 pc2 : Nat) (h0 : 0 ≤ (pc : Int) + o) (h1 : ((pc : Int) + o).toNat = pc1) (h2 : pc + 3 = pc2) (yes : x = y → Go p e below K (T.setTop (mkF m pc1 L S))) (no : ¬ x = y → Go p e below K (T.setTop (mkF m pc2 L S))) : Go p e below K (T.setTop (mkF m pc L (.int y :: .int x :: S))) := by
  refine g_icmp X hx hd pc1 pc2 h0 h1 h2 (fun hc => ?_) (fun hc => ?_)
  · by_cases q : x = y
    · exact yes q
    · rw [(feq q).1] at hc; cases hc
  · by_cases q : x = y
    · rw [(teq q).1] at hc; cases hc
    · exact no q
theorem g_if_eq {K : State → Outcome → Prop} (X : Stand p l e R s m args below meth c T locs cells slots) (hx : p.tables.exec = Jvm.exec) {pc : Nat} {L : Array Slot} {S : List Value} {o : Int} {x : Int32} (hd : decode c.code pc = .ok (.ifCond .eq o, 3)) (pc1 pc2 : Nat) (h0 : 0 ≤ (pc : Int) + o) (h1 : ((pc : Int) + o).toNat = pc1) (h2 : pc + 3 = pc2) (yes : x = (0 : Int32) → Go p e below K (T.setTop (mkF m pc1 L S))) (no : ¬ x = (0 : Int32) → Go p e below K (T.setTop (mkF m pc2 L S))) : Go p e below K (T.setTop (mkF m pc L (.int x :: S))) := by
  refine g_if X hx hd pc1 pc2 h0 h1 h2 (fun hc => ?_) (fun hc => ?_)
  · by_cases q : x = (0 : Int32)
    · exact yes q
    · rw [(feq q).1] at hc; cases hc
  · by_cases q : x = (0 : Int32)
    · rw [(teq q).1] at hc; cases hc
    · exact no q
theorem g_icmp_ne {K : State → Outcome → Prop} (X : Stand p l e R s m args below meth c T locs cells slots) (hx : p.tables.exec = Jvm.exec) {pc : Nat} {L : Array Slot} {S : List Value} {o : Int} {x y : Int32} (hd : decode c.code pc = .ok (.if_icmp .ne o, 3)) (pc1 pc2 : Nat) (h0 : 0 ≤ (pc : Int) + o) (h1 : ((pc : Int) + o).toNat = pc1) (h2 : pc + 3 = pc2) (yes : ¬ x = y → Go p e below K (T.setTop (mkF m pc1 L S))) (no : x = y → Go p e below K (T.setTop (mkF m pc2 L S))) : Go p e below K (T.setTop (mkF m pc L (.int y :: .int x :: S))) := by
  refine g_icmp X hx hd pc1 pc2 h0 h1 h2 (fun hc => ?_) (fun hc => ?_)
  · by_cases q : x = y
    · rw [(teq q).2] at hc; cases hc
    · exact yes q
  · by_cases q : x = y
    · exact no q
    · rw [(feq q).2] at hc; cases hc
theorem g_icmp_ge {K : State → Outcome → Prop} (X : Stand p l e R s m args below meth c T locs cells slots) (hx : p.tables.exec = Jvm.exec) {pc : Nat} {L : Array Slot} {S : List Value} {o : Int} {x y : Int32} (hd : decode c.code pc = .ok (.if_icmp .ge o, 3)) (pc1 pc2 : Nat) (h0 : 0 ≤ (pc : Int) + o) (h1 : ((pc : Int) + o).toNat = pc1) (h2 : pc + 3 = pc2) (yes : ¬ x < y → Go p e below K (T.setTop (mkF m pc1 L S))) (no : x < y → Go p e below K (T.setTop (mkF m pc2 L S))) : Go p e below K (T.setTop (mkF m pc L (.int y :: .int x :: S))) := by
  refine g_icmp X hx hd pc1 pc2 h0 h1 h2 (fun hc => ?_) (fun hc => ?_)
  · by_cases q : x < y
    · rw [(tlt q).2.1] at hc; cases hc
    · exact yes q
  · by_cases q : x < y
    · exact no q
    · rw [(flt q).2.1] at hc; cases hc
theorem g_icmp_gt {K : State → Outcome → Prop} (X : Stand p l e R s m args below meth c T locs cells slots) (hx : p.tables.exec = Jvm.exec) {pc : Nat} {L : Array Slot} {S : List Value} {o : Int} {x y : Int32} (hd : decode c.code pc = .ok (.if_icmp .gt o, 3)) (pc1 pc2 : Nat) (h0 : 0 ≤ (pc : Int) + o) (h1 : ((pc : Int) + o).toNat = pc1) (h2 : pc + 3 = pc2) (yes : y < x → Go p e below K (T.setTop (mkF m pc1 L S))) (no : ¬ y < x → Go p e below K (T.setTop (mkF m pc2 L S))) : Go p e below K (T.setTop (mkF m pc L (.int y :: .int x :: S))) := by
  refine g_icmp X hx hd pc1 pc2 h0 h1 h2 (fun hc => ?_) (fun hc => ?_)
  · by_cases q : y < x
    · exact yes q
    · rw [(flt q).2.2.1] at hc; cases hc
  · by_cases q : y < x
    · rw [(tlt q).2.2.1] at hc; cases hc
    · exact no q
theorem g_if_gt {K : State → Outcome → Prop} (X : Stand p l e R s m args below meth c T locs cells slots) (hx : p.tables.exec = Jvm.exec) {pc : Nat} {L : Array Slot} {S : List Value} {o : Int} {x : Int32} (hd : decode c.code pc = .ok (.ifCond .gt o, 3)) (pc1 pc2 : Nat) (h0 : 0 ≤ (pc : Int) + o) (h1 : ((pc : Int) + o).toNat = pc1) (h2 : pc + 3 = pc2) (yes : (0 : Int32) < x → Go p e below K (T.setTop (mkF m pc1 L S))) (no : ¬ (0 : Int32) < x → Go p e below K (T.setTop (mkF m pc2 L S))) : Go p e below K (T.setTop (mkF m pc L (.int x :: S))) := by
  refine g_if X hx hd pc1 pc2 h0 h1 h2 (fun hc => ?_) (fun hc => ?_)
  · by_cases q : (0 : Int32) < x
    · exact yes q
    · rw [(flt q).2.2.1] at hc; cases hc
  · by_cases q : (0 : Int32) < x
    · rw [(tlt q).2.2.1] at hc; cases hc
    · exact no q
theorem g_bastore {Z : State} {h : Heap} {a : Addr} {k : ClassId} {z : Int32} {vs : List Value} {dv : Value} (X : Stand p l e R s m args below meth c T locs cells slots) (hx : p.tables.exec = Jvm.exec) {pc : Nat} {L : Array Slot} {S : List Value} {j : Int32} {x : Int32} (hd : decode c.code pc = .ok (.bastore, 1)) (hZ : Z.Warmed39 s.vm) (eT : T.heap = h) (F : Arv Z h a k .byte z vs dv) (q : ¬ j < 0 ∧ j < z) {i : Nat} (hj : j.toNatClampNeg = i) (hi : i < vs.length) :
    ∃ T' h', Stand p l e R s m args below meth c T' (locs ++ [⟨a, j.toNatClampNeg⟩]) cells slots ∧ T'.heap = h' ∧ Wr h h' a j.toNatClampNeg (.int (nar .byte x)) ∧ Arv Z h' a k .byte z (vs.set i (.int (nar .byte x))) dv ∧ ∀ target, Steps p.tables e below (T'.setTop (mkF m (pc + 1) L S)) target → Steps p.tables e below (T.setTop (mkF m pc L (.int x :: .int j :: .ref a :: S))) target := by
  obtain ⟨cl, A, r1, r2, r3, Hh, Gg⟩ := F
  obtain ⟨T', h', X', e', W', st⟩ := stB X hx hZ eT A (inb_of r2 q) (g := mkF m pc L (.int x :: .int j :: .ref a :: S)) rfl rfl hd
  exact ⟨T', h', X', e', W', Arv.set A r1 r2 r3 Hh Gg (own_fits_nar .byte x (by simp)) W' i hj hi, st⟩
end Layer
theorem own_i2b (x : Int32) : nar .byte x.toInt8.toInt32 = x.toInt8.toInt32 := by
  show x.toInt8.toInt32.toInt8.toInt32 = x.toInt8.toInt32
  rw [Int8.toInt8_toInt32]
theorem own_ch (x : Int32) : ¬ (255 : Int32) < (x &&& (255 : Int32)).toUInt32.toUInt16.toUInt32.toInt32 := by
  have h1 := c_and x (255 : Int32) (by decide)
  have h2 := c_i2c (x &&& (255 : Int32))
  have e1 : (255 : Int32).toInt = 255 := by decide
  rw [Int32.lt_iff_toInt_lt, e1]
  omega
theorem own_nb {z : Int32} (h : z = 0 ∨ z = 1) : narrow .boolean (.int z) = .int z := by rcases h with rfl | rfl <;> rfl
theorem own_fb {z : Int32} (h : z = 0 ∨ z = 1) : fits .boolean (.int z) = true := by rcases h with rfl | rfl <;> rfl
theorem own_pos (x : Int32) : ¬ (x &&& (2147483647 : Int32)) < 0 := by
  have h := (c_and x (2147483647 : Int32) (by decide)).1
  rw [Int32.lt_iff_toInt_lt]
  have e0 : (0 : Int32).toInt = 0 := by decide
  omega
theorem own_gt {x : Int32} (h : ¬ x < 0) (h1 : ¬ x = 0) : 0 < x := by
  rw [Int32.lt_iff_toInt_lt] at h ⊢
  rw [← Int32.toInt_inj] at h1
  have e0 : (0 : Int32).toInt = 0 := by decide
  omega
theorem own_ltmax {x : Int32} (h1 : ¬ x = 2147483647) : x < 2147483647 := by
  rw [← Int32.toInt_inj] at h1
  rw [Int32.lt_iff_toInt_lt]
  have e0 : (2147483647 : Int32).toInt = 2147483647 := by decide
  have := rng32 x
  omega

theorem own_pn_java_lang_StringLatin1 : plainName "java/lang/StringLatin1" = true := by first | (simp [plainName, overriddenIn]; done) | decide +kernel
theorem ef_2 (m : MethodId) (x0 : Int32) : entryFrame m #[(.int x0)] 1 = mkF m 0 #[.val (.int x0)] [] := by first | (simp [entryFrame, mkF, argsToLocals, Value.category]; done) | rfl
theorem d2_0 : decode jdk_43_method_3_code 0 = .ok (.iload_n 0, 1) := by decide +kernel
theorem d2_1 : decode jdk_43_method_3_code 1 = .ok (.sipush 255, 3) := by decide +kernel
theorem d2_4 : decode jdk_43_method_3_code 4 = .ok (.if_icmp .gt 7, 3) := by decide +kernel
theorem d2_7 : decode jdk_43_method_3_code 7 = .ok (.iconst 1, 1) := by decide +kernel
theorem d2_8 : decode jdk_43_method_3_code 8 = .ok (.goto 4, 3) := by decide +kernel
theorem d2_12 : decode jdk_43_method_3_code 12 = .ok (.ireturn, 1) := by decide +kernel
def Q2 (Z : State) (p1 : Int32) (h0 : Heap) (n0 : Nat) (v : Option Value) (h : Heap) (L : List Loc) : Prop := v = some (.int (1 : Int32)) ∧ Fr n0 L ∧ h = h0
set_option maxRecDepth 65536 in
set_option maxHeartbeats 40000000 in
theorem rm2 (l : Launch) (Z : State) (a0 : Array Value) (hw : ∀ d ∈ tables_1, d.before a0 Z = true) (ws : List Jvm.Cond) (p1 : Int32) (h0 : Heap) (n0 : Nat) (Z0 : n0 ≤ h0.size) (hp : ¬ (255 : Int32) < p1) :
    MetFree l (⟨"java/lang/StringLatin1", "canEncode", "(C)Z"⟩ : MethodName) (head1 (Jvm.Cond.code (⟨"java/lang/StringLatin1", "canEncode", "(C)Z"⟩ : MethodName) jdk_43_method_3_code 1 (some .boolean) :: ws) ({ frames := 0, cells := 0, slots := 0, locals := 0 } : Room)) (fun a U => a = #[(.int p1)] ∧ Z.Warmed39 U.vm ∧ U.heap = h0) (fun _ _ _ _ _ => True) (fun _ U o U' => ∃ v L, o = .returned v ∧ Q2 Z p1 h0 n0 v U'.heap L ∧ FrameEnd U o U' L ({ frames := 0, cells := 0, slots := 0, locals := 0 } : Room).cells ({ frames := 0, cells := 0, slots := 0, locals := 0 } : Room).slots) := by
  refine MetFree.of_bodySF (plainFor_of_name own_pn_java_lang_StringLatin1) hisR ?_
  intro p e s m args below meth c s₁ Bd hml0 hP hK
  obtain ⟨rfl, hZ, hh⟩ := hP
  have hx := Bd.exec
  have hby := Bd.bytes
  have hlk := Bd.notSynchronized
  have hml : c.maxLocals = 1 := hml0
  have hown : s.vm.findClass "java/lang/StringLatin1" = some m.cls := findClass_of_methodNamed Bd.named
  have hnm := (name_of_methodNamed Bd.named Bd.method).1
  have X0 : Stand p l e ({ frames := 0, cells := 0, slots := 0, locals := 0 } : Room) s m #[(.int p1)] below meth c s₁ [] 0 0 := Stand.of_body Bd
  have e0 : s₁.heap = h0 := by rw [← hh, Bd.state]; rfl
  have N0 := Fr.nil n0
  show Go p e below (KQ s below (Q2 Z p1 h0 n0) ({ frames := 0, cells := 0, slots := 0, locals := 0 } : Room).cells ({ frames := 0, cells := 0, slots := 0, locals := 0 } : Room).slots) _
  refine Go.body (T := s₁) (σ := s₁) (g' := (mkF m 0 #[.val (.int p1)] [])) (ef_2 m p1) ?_
  refine g_iloadN X0 hx (hb hby d2_0) 1 rfl (v := p1) rfl ?_
  refine g_sipush X0 hx (hb hby d2_1) 4 rfl (255 : Int32) rfl ?_
  refine g_icmp_gt X0 hx (hb hby d2_4) 11 7 (by decide) (by decide) rfl (fun hc4 => False.elim (hp hc4)) (fun hc4 => ?_)
  refine g_iconst X0 hx (hb hby d2_7) 8 rfl (1 : Int32) rfl ?_
  refine g_goto X0 hx (hb hby d2_8) 12 (by decide) (by decide) ?_
  refine Go.retN X0 hx hlk (t := .boolean) Bd.returns (by simp) (hb hby d2_12) (by decide) (by decide) ?_
  show Q2 Z p1 h0 n0 _ s₁.heap _
  rw [e0]
  exact ⟨rfl, N0, rfl⟩
theorem ef_3 (m : MethodId) (x0 : Int32) : entryFrame m #[(.int x0)] 1 = mkF m 0 #[.val (.int x0)] [] := by first | (simp [entryFrame, mkF, argsToLocals, Value.category]; done) | rfl
theorem d3_0 : decode jdk_43_method_46_code 0 = .ok (.iconst 1, 1) := by decide +kernel
theorem d3_1 : decode jdk_43_method_46_code 1 = .ok (.newarray .byte, 2) := by decide +kernel
theorem d3_3 : decode jdk_43_method_46_code 3 = .ok (.dup, 1) := by decide +kernel
theorem d3_4 : decode jdk_43_method_46_code 4 = .ok (.iconst 0, 1) := by decide +kernel
theorem d3_5 : decode jdk_43_method_46_code 5 = .ok (.iload_n 0, 1) := by decide +kernel
theorem d3_6 : decode jdk_43_method_46_code 6 = .ok (.i2b, 1) := by decide +kernel
theorem d3_7 : decode jdk_43_method_46_code 7 = .ok (.bastore, 1) := by decide +kernel
theorem d3_8 : decode jdk_43_method_46_code 8 = .ok (.areturn, 1) := by decide +kernel
def Q3 (Z : State) (p1 : Int32) (h0 : Heap) (n0 : Nat) (v : Option Value) (h : Heap) (L : List Loc) : Prop := ∃ b : Addr, ∃ kb : ClassId, v = some (.ref b) ∧ Fr n0 L ∧ Keep h0 h [] ∧ h0.size ≤ b ∧ (Arv Z h b kb .byte (1 : Int32) ([(.int p1.toInt8.toInt32)]) (.int (0 : Int32)))
set_option maxRecDepth 65536 in
set_option maxHeartbeats 40000000 in
theorem rm3 (l : Launch) (Z : State) (a0 : Array Value) (hw : ∀ d ∈ tables_1, d.before a0 Z = true) (ws : List Jvm.Cond) (p1 : Int32) (h0 : Heap) (n0 : Nat) (Z0 : n0 ≤ h0.size)  :
    MetFree l (⟨"java/lang/StringLatin1", "toBytes", "(C)[B"⟩ : MethodName) (head1 (Jvm.Cond.code (⟨"java/lang/StringLatin1", "toBytes", "(C)[B"⟩ : MethodName) jdk_43_method_46_code 1 (some (.array .byte)) :: ws) ({ frames := 0, cells := 1, slots := 1, locals := 0 } : Room)) (fun a U => a = #[(.int p1)] ∧ Z.Warmed39 U.vm ∧ U.heap = h0) (fun _ _ _ _ _ => True) (fun _ U o U' => ∃ v L, o = .returned v ∧ Q3 Z p1 h0 n0 v U'.heap L ∧ FrameEnd U o U' L ({ frames := 0, cells := 1, slots := 1, locals := 0 } : Room).cells ({ frames := 0, cells := 1, slots := 1, locals := 0 } : Room).slots) := by
  refine MetFree.of_bodySF (plainFor_of_name own_pn_java_lang_StringLatin1) hisR ?_
  intro p e s m args below meth c s₁ Bd hml0 hP hK
  obtain ⟨rfl, hZ, hh⟩ := hP
  have hx := Bd.exec
  have hby := Bd.bytes
  have hlk := Bd.notSynchronized
  have hml : c.maxLocals = 1 := hml0
  have hown : s.vm.findClass "java/lang/StringLatin1" = some m.cls := findClass_of_methodNamed Bd.named
  have hnm := (name_of_methodNamed Bd.named Bd.method).1
  have X0 : Stand p l e ({ frames := 0, cells := 1, slots := 1, locals := 0 } : Room) s m #[(.int p1)] below meth c s₁ [] 0 0 := Stand.of_body Bd
  have e0 : s₁.heap = h0 := by rw [← hh, Bd.state]; rfl
  have N0 := Fr.nil n0
  have K0 : Keep h0 h0 [] := Keep.refl _ _
  show Go p e below (KQ s below (Q3 Z p1 h0 n0) ({ frames := 0, cells := 1, slots := 1, locals := 0 } : Room).cells ({ frames := 0, cells := 1, slots := 1, locals := 0 } : Room).slots) _
  refine Go.body (T := s₁) (σ := s₁) (g' := (mkF m 0 #[.val (.int p1)] [])) (ef_3 m p1) ?_
  refine g_iconst X0 hx (hb hby d3_0) 1 rfl (1 : Int32) rfl ?_
  obtain ⟨T1, h1, cA1, X1, e1, E1, A1, st1⟩ := newP X0 hx hZ (aty := .byte) (hw _ (List.mem_of_getElem? (i := 15) rfl)) e0 (g := (mkF m 1 #[.val (.int p1)] [(.int (1 : Int32))])) rfl (hb hby d3_1) rfl (by decide) (cap := 1) (by decide) (by decide) (by decide) (by decide)
  refine Go.st st1 ?_
  obtain ⟨ob, q1⟩ : ∃ z, z = h0.size := ⟨_, rfl⟩
  rw [← q1] at A1 ⊢
  have g_ob : n0 ≤ ob := Nat.le_trans Z0 (Nat.le_of_eq q1.symm)
  have mh_ob : h0.size ≤ ob := Nat.le_trans K0.1 (Nat.le_of_eq q1.symm)
  have K1 : Keep h0 h1 [] := Keep.ext K0 E1
  have Zs1 : n0 ≤ h1.size := Nat.le_trans Z0 E1.1
  have Av_ob : Arv Z h1 ob cA1 .byte (1 : Int32) ([(.int (0 : Int32))]) (.int (0 : Int32)) := Arv.pad (Arv.new A1 (by decide)) (pad_rep [] (.int (0 : Int32)) 1)
  show Go p e below _ (T1.setTop (mkF m 3 #[.val (.int p1)] [(.ref ob)]))
  refine g_dup X1 hx (hb hby d3_3) 4 rfl rfl ?_
  refine g_iconst X1 hx (hb hby d3_4) 5 rfl (0 : Int32) rfl ?_
  refine g_iloadN X1 hx (hb hby d3_5) 6 rfl (v := p1) rfl ?_
  refine g_i2b X1 hx (hb hby d3_6) 7 rfl p1.toInt8.toInt32 rfl ?_
  obtain ⟨T3, h3, X3, e3, W3, B3, st3⟩ := g_bastore X1 hx (hb hby d3_7) hZ e1 Av_ob (show ¬ (0 : Int32) < 0 ∧ (0 : Int32) < (1 : Int32) from by decide) (i := 0) rfl (by decide)  (L := #[.val (.int p1)]) (S := [(.ref ob)])
  refine Go.st st3 ?_
  have Av_ob_3 : Arv Z h3 ob cA1 .byte (1 : Int32) ([(.int p1.toInt8.toInt32)]) (.int (0 : Int32)) := (own_i2b p1 ▸ B3)
  have K3 : Keep h0 h3 [] := Keep.wr K1 W3 (Or.inr mh_ob)
  have N3 := Fr.snoc X3 N0 g_ob
  have Zs3 : n0 ≤ h3.size := by rw [W3.size]; exact Zs1
  show Go p e below _ (T3.setTop (mkF m 8 #[.val (.int p1)] [(.ref ob)]))
  refine Go.retA X3 hx hlk Bd.returns rfl rfl (hb hby d3_8) (by decide) (by decide) ?_
  show Q3 Z p1 h0 n0 _ T3.heap _
  rw [e3]
  exact ⟨ob, cA1, rfl, N3, K3, mh_ob, Av_ob_3⟩
theorem own_pn_java_lang_String : plainName "java/lang/String" = true := by first | (simp [plainName, overriddenIn]; done) | decide +kernel
theorem ef_4 (m : MethodId) (x0 : Addr) (x1 : Addr) (x2 : Int32) : entryFrame m #[(.ref x0), (.ref x1), (.int x2)] 3 = mkF m 0 #[.val (.ref x0), .val (.ref x1), .val (.int x2)] [] := by first | (simp [entryFrame, mkF, argsToLocals, Value.category]; done) | rfl
theorem d4_0 : decode jdk_42_method_151_code 0 = .ok (.aload_n 0, 1) := by decide +kernel
theorem d4_1 : decode jdk_42_method_151_code 1 = .ok (.invokespecial 1, 3) := by decide +kernel
theorem d4_4 : decode jdk_42_method_151_code 4 = .ok (.aload_n 0, 1) := by decide +kernel
theorem d4_5 : decode jdk_42_method_151_code 5 = .ok (.aload_n 1, 1) := by decide +kernel
theorem d4_6 : decode jdk_42_method_151_code 6 = .ok (.putfield 9, 3) := by decide +kernel
theorem d4_9 : decode jdk_42_method_151_code 9 = .ok (.aload_n 0, 1) := by decide +kernel
theorem d4_10 : decode jdk_42_method_151_code 10 = .ok (.iload_n 2, 1) := by decide +kernel
theorem d4_11 : decode jdk_42_method_151_code 11 = .ok (.putfield 15, 3) := by decide +kernel
theorem d4_14 : decode jdk_42_method_151_code 14 = .ok (.return_, 1) := by decide +kernel
def Q4 (Z : State) (a1 : Addr) (a2 : Addr) (u1 : Value) (u2 : Value) (h0 : Heap) (n0 : Nat) (v : Option Value) (h : Heap) (L : List Loc) : Prop := v = none ∧ Fr n0 L ∧ Keep h0 h [a1] ∧ (Exa Z h a1 "java/lang/String") ∧ (Fld Z h a1 "java/lang/String" "value" "[B" (.ref a2)) ∧ (Fld Z h a1 "java/lang/String" "coder" "B" (.int (0 : Int32)))
set_option maxRecDepth 65536 in
set_option maxHeartbeats 40000000 in
theorem rm4 (l : Launch) (Z : State) (a0 : Array Value) (hw : ∀ d ∈ tables_1, d.before a0 Z = true) (ws : List Jvm.Cond) (a1 : Addr) (a2 : Addr) (u1 : Value) (u2 : Value) (h0 : Heap) (n0 : Nat) (Z0 : n0 ≤ h0.size) (E_a1 : Exa Z h0 a1 "java/lang/String") (g_a1 : n0 ≤ a1) (F_value_a1 : Fld Z h0 a1 "java/lang/String" "value" "[B" u1) (F_coder_a1 : Fld Z h0 a1 "java/lang/String" "coder" "B" u2) :
    MetFree l (⟨"java/lang/String", "<init>", "([BB)V"⟩ : MethodName) (head1 (Jvm.Cond.code (⟨"java/lang/String", "<init>", "([BB)V"⟩ : MethodName) jdk_42_method_151_code 3 none :: ws) ({ frames := 1, cells := 0, slots := 0, locals := 12 } : Room)) (fun a U => a = #[(.ref a1), (.ref a2), (.int (0 : Int32))] ∧ Z.Warmed39 U.vm ∧ U.heap = h0) (fun _ _ _ _ _ => True) (fun _ U o U' => ∃ v L, o = .returned v ∧ Q4 Z a1 a2 u1 u2 h0 n0 v U'.heap L ∧ FrameEnd U o U' L ({ frames := 1, cells := 0, slots := 0, locals := 12 } : Room).cells ({ frames := 1, cells := 0, slots := 0, locals := 12 } : Room).slots) := by
  refine MetFree.of_bodySF (plainFor_of_name own_pn_java_lang_String) hisR ?_
  intro p e s m args below meth c s₁ Bd hml0 hP hK
  obtain ⟨rfl, hZ, hh⟩ := hP
  have hx := Bd.exec
  have hby := Bd.bytes
  have hlk := Bd.notSynchronized
  have hml : c.maxLocals = 3 := hml0
  have hown : s.vm.findClass "java/lang/String" = some m.cls := findClass_of_methodNamed Bd.named
  have hnm := (name_of_methodNamed Bd.named Bd.method).1
  have X0 : Stand p l e ({ frames := 1, cells := 0, slots := 0, locals := 12 } : Room) s m #[(.ref a1), (.ref a2), (.int (0 : Int32))] below meth c s₁ [] 0 0 := Stand.of_body Bd
  have e0 : s₁.heap = h0 := by rw [← hh, Bd.state]; rfl
  have N0 := Fr.nil n0
  have K0 : Keep h0 h0 [a1] := Keep.refl _ _
  show Go p e below (KQ s below (Q4 Z a1 a2 u1 u2 h0 n0) ({ frames := 1, cells := 0, slots := 0, locals := 12 } : Room).cells ({ frames := 1, cells := 0, slots := 0, locals := 12 } : Room).slots) _
  refine Go.body (T := s₁) (σ := s₁) (g' := (mkF m 0 #[.val (.ref a1), .val (.ref a2), .val (.int (0 : Int32))] [])) (ef_4 m a1 a2 (0 : Int32)) ?_
  refine g_aloadN X0 hx (hb hby d4_0) 1 rfl (v := (.ref a1)) rfl rfl ?_
  obtain ⟨T5, X5, e5, st5⟩ := initO X0 hx hZ hown (hw _ (List.mem_of_getElem? (i := 20) rfl)) (hw _ (List.mem_of_getElem? (i := 21) rfl)) (hw _ (List.mem_of_getElem? (i := 22) rfl)) e0 (g := (mkF m 1 #[.val (.ref a1), .val (.ref a2), .val (.int (0 : Int32))] [(.ref a1)])) rfl (by rw [hml]; rfl) rfl (hb hby d4_1) (by decide) (W := 0) (by show 2 * 0 + _ ≤ _; exact Nat.le_of_eq rfl) (by decide)
  refine Go.st st5 ?_
  show Go p e below _ (T5.setTop (mkF m 4 #[.val (.ref a1), .val (.ref a2), .val (.int (0 : Int32))] []))
  refine g_aloadN X5 hx (hb hby d4_4) 5 rfl (v := (.ref a1)) rfl rfl ?_
  refine g_aloadN X5 hx (hb hby d4_5) 6 rfl (v := (.ref a2)) rfl rfl ?_
  obtain ⟨T6, h6, X6, e6, W6, st6⟩ := putF X5 hx hZ hown (host := "") (Or.inl (hw _ (List.mem_of_getElem? (i := 23) rfl))) Via.refl e5 F_value_a1 E_a1 (Or.inr ⟨(hw _ (List.mem_of_getElem? (i := 24) rfl)), rfl, hnm⟩) (hw _ (List.mem_of_getElem? (i := 11) rfl)) (ty := (.array .byte)) (by decide) rfl rfl (g := (mkF m 6 #[.val (.ref a1), .val (.ref a2), .val (.int (0 : Int32))] [(.ref a2), (.ref a1)])) rfl rfl (hb hby d4_6)
  refine Go.st st6 ?_
  have E_a1_7 : Exa Z h6 a1 "java/lang/String" := Exa.wr W6 E_a1
  have F_coder_a1_7 : Fld Z h6 a1 "java/lang/String" "coder" "B" u2 := Fld.other W6 F_coder_a1 (Or.inr (slot_ne (Or.inr (hw _ (List.mem_of_getElem? (i := 26) rfl))) (Or.inr (hw _ (List.mem_of_getElem? (i := 24) rfl))) (by decide) (t := .byte) (t' := (.array .byte)) (by decide) (by decide)))
  have F_value_a1_6w : Fld Z h6 a1 "java/lang/String" "value" "[B" (.ref a2) := Fld.same W6 F_value_a1
  have K6 : Keep h0 h6 [a1] := Keep.wr K0 W6 (Or.inl (List.mem_of_getElem? (i := 0) rfl))
  have N6 := Fr.snoc X6 N0 g_a1
  have Zs6 : n0 ≤ h6.size := by rw [W6.size]; exact Z0
  show Go p e below _ (T6.setTop (mkF m 9 #[.val (.ref a1), .val (.ref a2), .val (.int (0 : Int32))] []))
  refine g_aloadN X6 hx (hb hby d4_9) 10 rfl (v := (.ref a1)) rfl rfl ?_
  refine g_iloadN X6 hx (hb hby d4_10) 11 rfl (v := (0 : Int32)) rfl ?_
  obtain ⟨T8, h8, X8, e8, W8, st8⟩ := putF X6 hx hZ hown (host := "") (Or.inl (hw _ (List.mem_of_getElem? (i := 25) rfl))) Via.refl e6 F_coder_a1_7 E_a1_7 (Or.inr ⟨(hw _ (List.mem_of_getElem? (i := 26) rfl)), rfl, hnm⟩) (hw _ (List.mem_of_getElem? (i := 11) rfl)) (ty := .byte) (by decide) rfl rfl (g := (mkF m 11 #[.val (.ref a1), .val (.ref a2), .val (.int (0 : Int32))] [(.int (0 : Int32)), (.ref a1)])) rfl rfl (hb hby d4_11)
  refine Go.st st8 ?_
  have E_a1_9 : Exa Z h8 a1 "java/lang/String" := Exa.wr W8 E_a1_7
  have F_value_a1_9 : Fld Z h8 a1 "java/lang/String" "value" "[B" (.ref a2) := Fld.other W8 F_value_a1_6w (Or.inr (slot_ne (Or.inr (hw _ (List.mem_of_getElem? (i := 24) rfl))) (Or.inr (hw _ (List.mem_of_getElem? (i := 26) rfl))) (by decide) (t := (.array .byte)) (t' := .byte) (by decide) (by decide)))
  have F_coder_a1_8w : Fld Z h8 a1 "java/lang/String" "coder" "B" (.int (0 : Int32)) := Fld.same W8 F_coder_a1_7
  have K8 : Keep h0 h8 [a1] := Keep.wr K6 W8 (Or.inl (List.mem_of_getElem? (i := 0) rfl))
  have N8 := Fr.snoc X8 N6 g_a1
  have Zs8 : n0 ≤ h8.size := by rw [W8.size]; exact Zs6
  show Go p e below _ (T8.setTop (mkF m 14 #[.val (.ref a1), .val (.ref a2), .val (.int (0 : Int32))] []))
  refine Go.retV X8 hx hlk Bd.returns (hb hby d4_14) (by decide) (by decide) ?_
  show Q4 Z a1 a2 u1 u2 h0 n0 _ T8.heap _
  rw [e8]
  exact ⟨rfl, N8, K8, E_a1_9, F_value_a1_9, F_coder_a1_8w⟩
theorem ef_1 (m : MethodId) (x0 : Int32) : entryFrame m #[(.int x0)] 1 = mkF m 0 #[.val (.int x0)] [] := by first | (simp [entryFrame, mkF, argsToLocals, Value.category]; done) | rfl
theorem d1_0 : decode jdk_42_method_139_code 0 = .ok (.getstatic 38, 3) := by decide +kernel
theorem d1_3 : decode jdk_42_method_139_code 3 = .ok (.ifCond .eq 23, 3) := by decide +kernel
theorem d1_6 : decode jdk_42_method_139_code 6 = .ok (.iload_n 0, 1) := by decide +kernel
theorem own_pd0 : parseMethodDescriptor "(C)Z" = some ⟨[.char], some .boolean⟩ := by decide +kernel
theorem d1_7 : decode jdk_42_method_139_code 7 = .ok (.invokestatic 1015, 3) := by decide +kernel
theorem d1_10 : decode jdk_42_method_139_code 10 = .ok (.ifCond .eq 16, 3) := by decide +kernel
theorem d1_13 : decode jdk_42_method_139_code 13 = .ok (.new 10, 3) := by decide +kernel
theorem d1_16 : decode jdk_42_method_139_code 16 = .ok (.dup, 1) := by decide +kernel
theorem d1_17 : decode jdk_42_method_139_code 17 = .ok (.iload_n 0, 1) := by decide +kernel
theorem own_pd1 : parseMethodDescriptor "(C)[B" = some ⟨[.char], some (.array .byte)⟩ := by decide +kernel
theorem d1_18 : decode jdk_42_method_139_code 18 = .ok (.invokestatic 1018, 3) := by decide +kernel
theorem d1_21 : decode jdk_42_method_139_code 21 = .ok (.iconst 0, 1) := by decide +kernel
theorem own_pd2 : parseMethodDescriptor "([BB)V" = some ⟨[(.array .byte), .byte], none⟩ := by decide +kernel
theorem d1_22 : decode jdk_42_method_139_code 22 = .ok (.invokespecial 209, 3) := by decide +kernel
theorem d1_25 : decode jdk_42_method_139_code 25 = .ok (.areturn, 1) := by decide +kernel
def Q1 (Z : State) (p1 : Int32) (cs : Int32) (h0 : Heap) (n0 : Nat) (v : Option Value) (h : Heap) (L : List Loc) : Prop := ∃ b : Addr, ∃ vb : Addr, ∃ kb : ClassId, v = some (.ref b) ∧ Fr n0 L ∧ Keep h0 h [] ∧ h0.size ≤ b ∧ h0.size ≤ vb ∧ (b ≠ vb) ∧ (Exa Z h b "java/lang/String") ∧ (Fld Z h b "java/lang/String" "value" "[B" (.ref vb)) ∧ (Fld Z h b "java/lang/String" "coder" "B" (.int (0 : Int32))) ∧ (Arv Z h vb kb .byte (1 : Int32) ([(.int p1.toInt8.toInt32)]) (.int (0 : Int32)))
set_option maxRecDepth 65536 in
set_option maxHeartbeats 40000000 in
theorem rm1 (l : Launch) (Z : State) (a0 : Array Value) (hw : ∀ d ∈ tables_1, d.before a0 Z = true) (ws : List Jvm.Cond) (p1 : Int32) (cs : Int32) (h0 : Heap) (n0 : Nat) (Z0 : n0 ≤ h0.size) (S_COMPACT_STRINGS : Sta Z h0 "java/lang/String" "COMPACT_STRINGS" "Z" (.int cs)) (hcs : ¬ cs = 0) (hp : ¬ (255 : Int32) < p1) :
    MetFree l (⟨"java/lang/String", "valueOf", "(C)Ljava/lang/String;"⟩ : MethodName) (head1 (Jvm.Cond.code (⟨"java/lang/String", "valueOf", "(C)Ljava/lang/String;"⟩ : MethodName) jdk_42_method_139_code 1 (some (.object "java/lang/String")) :: ws) ({ frames := 2, cells := 2, slots := 5, locals := 27 } : Room)) (fun a U => a = #[(.int p1)] ∧ Z.Warmed39 U.vm ∧ U.heap = h0) (fun _ _ _ _ _ => True) (fun _ U o U' => ∃ v L, o = .returned v ∧ Q1 Z p1 cs h0 n0 v U'.heap L ∧ FrameEnd U o U' L ({ frames := 2, cells := 2, slots := 5, locals := 27 } : Room).cells ({ frames := 2, cells := 2, slots := 5, locals := 27 } : Room).slots) := by
  refine MetFree.of_bodySF (plainFor_of_name own_pn_java_lang_String) hisR ?_
  intro p e s m args below meth c s₁ Bd hml0 hP hK
  obtain ⟨rfl, hZ, hh⟩ := hP
  have hx := Bd.exec
  have hby := Bd.bytes
  have hlk := Bd.notSynchronized
  have hml : c.maxLocals = 1 := hml0
  have hown : s.vm.findClass "java/lang/String" = some m.cls := findClass_of_methodNamed Bd.named
  have hnm := (name_of_methodNamed Bd.named Bd.method).1
  have X0 : Stand p l e ({ frames := 2, cells := 2, slots := 5, locals := 27 } : Room) s m #[(.int p1)] below meth c s₁ [] 0 0 := Stand.of_body Bd
  have e0 : s₁.heap = h0 := by rw [← hh, Bd.state]; rfl
  have N0 := Fr.nil n0
  have K0 : Keep h0 h0 [] := Keep.refl _ _
  show Go p e below (KQ s below (Q1 Z p1 cs h0 n0) ({ frames := 2, cells := 2, slots := 5, locals := 27 } : Room).cells ({ frames := 2, cells := 2, slots := 5, locals := 27 } : Room).slots) _
  refine Go.body (T := s₁) (σ := s₁) (g' := (mkF m 0 #[.val (.int p1)] [])) (ef_1 m p1) ?_
  obtain ⟨T10, X10, e10, st10⟩ := getS2 X0 hx hZ hown (host := "") (Or.inl (hw _ (List.mem_of_getElem? (i := 5) rfl))) Via.refl e0 S_COMPACT_STRINGS (g := (mkF m 0 #[.val (.int p1)] [])) rfl (hb hby d1_0)
  refine Go.st st10 ?_
  show Go p e below _ (T10.setTop (mkF m 3 #[.val (.int p1)] [(.int cs)]))
  refine g_if_eq X10 hx (hb hby d1_3) 26 6 (by decide) (by decide) rfl (fun hc3 => False.elim (hcs hc3)) (fun hc3 => ?_)
  refine g_iloadN X10 hx (hb hby d1_6) 7 rfl (v := p1) rfl ?_
  obtain ⟨_, _, ⟨T11, L11, k11, n11⟩, -, X11, ⟨Lc11, hQ11, l11, y11, z11⟩, st11⟩ := Jvm.LawKit.callS X10 hx (y := (⟨"java/lang/StringLatin1", "canEncode", "(C)Z"⟩ : MethodName)) hown (mvT hZ (hw _ (List.mem_of_getElem? (i := 6) rfl))) (mvT hZ (hw _ (List.mem_of_getElem? (i := 7) rfl))) (mvT hZ (hw _ (List.mem_of_getElem? (i := 8) rfl))) (mvT hZ (hw _ (List.mem_of_getElem? (i := 9) rfl))) (by decide) (backOf (W := 0) (rm2 l Z a0 hw [] p1 h0 n0 Z0 hp) hZ (hw _ (List.mem_of_getElem? (i := 9) rfl)) (hw _ (List.mem_of_getElem? (i := 8) rfl)) (by decide) (by decide)) (g := (mkF m 7 #[.val (.int p1)] [(.int p1)])) rfl (by rw [hml]; rfl) (argsL := [(.int p1)]) (rest := []) (lenOf own_pd0 rfl) rfl (by show 2 * 0 + _ ≤ _; exact Nat.le_of_eq rfl) (hb hby d1_7) (fun _ _ => ⟨rfl, e10, (by decide : 0 + 0 ≤ _), (by decide : 0 + 0 ≤ _)⟩)
  dsimp only [Pt.U, Pt.locs, Pt.cells, Pt.slots] at X11 l11 y11 z11 st11 hQ11
  subst l11 y11 z11
  obtain ⟨rfl, Nq11, e11⟩ := hQ11
  refine Go.st st11 ?_
  have N11 := Fr.app N0 Nq11
  show Go p e below _ (T11.setTop (mkF m 10 #[.val (.int p1)] [(.int (1 : Int32))]))
  refine g_if_eq X11 hx (hb hby d1_10) 26 13 (by decide) (by decide) rfl (fun hc10 => False.elim (absurd hc10 (by decide))) (fun hc10 => ?_)
  obtain ⟨T12, h12, X12, e12, E12, A12, D12, -, st12⟩ := newO X11 hx hZ hown (hw _ (List.mem_of_getElem? (i := 10) rfl)) (hw _ (List.mem_of_getElem? (i := 11) rfl)) (hw _ (List.mem_of_getElem? (i := 3) rfl)) e11 (g := (mkF m 13 #[.val (.int p1)] [])) rfl (hb hby d1_13) (by decide) (by decide)
  refine Go.st st12 ?_
  obtain ⟨ob, q12⟩ : ∃ z, z = h0.size := ⟨_, rfl⟩
  rw [← q12] at A12 D12 ⊢
  have g_ob : n0 ≤ ob := Nat.le_trans Z0 (Nat.le_of_eq q12.symm)
  have mh_ob : h0.size ≤ ob := Nat.le_trans K0.1 (Nat.le_of_eq q12.symm)
  have F_value_12 : Fld Z h12 ob "java/lang/String" "value" "[B" .null := D12 (Or.inr (hw _ (List.mem_of_getElem? (i := 24) rfl))) (ty := (.array .byte)) (by decide)
  have F_coder_12 : Fld Z h12 ob "java/lang/String" "coder" "B" (.int (0 : Int32)) := D12 (Or.inr (hw _ (List.mem_of_getElem? (i := 26) rfl))) (ty := .byte) (by decide)
  have K12 : Keep h0 h12 [] := Keep.ext K0 E12
  have Zs12 : n0 ≤ h12.size := Nat.le_trans Z0 E12.1
  show Go p e below _ (T12.setTop (mkF m 16 #[.val (.int p1)] [(.ref ob)]))
  refine g_dup X12 hx (hb hby d1_16) 17 rfl rfl ?_
  refine g_iloadN X12 hx (hb hby d1_17) 18 rfl (v := p1) rfl ?_
  obtain ⟨_, _, ⟨T14, L14, k14, n14⟩, -, X14, ⟨Lc14, hQ14, l14, y14, z14⟩, st14⟩ := Jvm.LawKit.callS X12 hx (y := (⟨"java/lang/StringLatin1", "toBytes", "(C)[B"⟩ : MethodName)) hown (mvT hZ (hw _ (List.mem_of_getElem? (i := 12) rfl))) (mvT hZ (hw _ (List.mem_of_getElem? (i := 13) rfl))) (mvT hZ (hw _ (List.mem_of_getElem? (i := 8) rfl))) (mvT hZ (hw _ (List.mem_of_getElem? (i := 14) rfl))) (by decide) (backOf (W := 2) (rm3 l Z a0 hw [] p1 h12 n0 Zs12 ) hZ (hw _ (List.mem_of_getElem? (i := 14) rfl)) (hw _ (List.mem_of_getElem? (i := 8) rfl)) (by decide) (by decide)) (g := (mkF m 18 #[.val (.int p1)] [(.int p1), (.ref ob), (.ref ob)])) rfl (by rw [hml]; rfl) (argsL := [(.int p1)]) (rest := [(.ref ob), (.ref ob)]) (lenOf own_pd1 rfl) rfl (by show 2 * 0 + _ ≤ _; exact Nat.le_of_eq rfl) (hb hby d1_18) (fun _ _ => ⟨rfl, e12, (by decide : 1 + 1 ≤ _), (by decide : 4 + 1 ≤ _)⟩)
  dsimp only [Pt.U, Pt.locs, Pt.cells, Pt.slots] at X14 l14 y14 z14 st14 hQ14
  subst l14 y14 z14
  obtain ⟨ovb, okb, rfl, Nq14, Kq14, f14_0, f14_1⟩ := hQ14
  refine Go.st st14 ?_
  have N14 := Fr.app N11 Nq14
  have E_ob_15 : Exa Z T14.heap ob "java/lang/String" := Exa.keep A12 Kq14
  have F_value_ob_15 : Fld Z T14.heap ob "java/lang/String" "value" "[B" .null := Fld.keep F_value_12 Kq14 nin0
  have F_coder_ob_15 : Fld Z T14.heap ob "java/lang/String" "coder" "B" (.int (0 : Int32)) := Fld.keep F_coder_12 Kq14 nin0
  have ne_ob_ovb : ob ≠ ovb := Nat.ne_of_lt (Nat.lt_of_lt_of_le A12.lt f14_0)
  have g_ovb : n0 ≤ ovb := Nat.le_trans Zs12 f14_0
  have mh_ovb : h0.size ≤ ovb := Nat.le_trans K12.1 f14_0
  have K14 : Keep h0 T14.heap [] := Keep.trans K12 Kq14 all0
  have Zs14 : n0 ≤ T14.heap.size := Nat.le_trans Zs12 Kq14.1
  show Go p e below _ (T14.setTop (mkF m 21 #[.val (.int p1)] [(.ref ovb), (.ref ob), (.ref ob)]))
  refine g_iconst X14 hx (hb hby d1_21) 22 rfl (0 : Int32) rfl ?_
  obtain ⟨_, _, ⟨T16, L16, k16, n16⟩, -, X16, ⟨Lc16, hQ16, l16, y16, z16⟩, st16⟩ := X14.specialBack hx (y := (⟨"java/lang/String", "<init>", "([BB)V"⟩ : MethodName)) rfl hown (mvT hZ (hw _ (List.mem_of_getElem? (i := 16) rfl))) (mvT hZ (hw _ (List.mem_of_getElem? (i := 17) rfl))) (mvT hZ (hw _ (List.mem_of_getElem? (i := 19) rfl))) (by decide) (backOf (W := 1) (rm4 l Z a0 hw [] ob ovb .null (.int (0 : Int32)) T14.heap n0 Zs14 E_ob_15 g_ob F_value_ob_15 F_coder_ob_15) hZ (hw _ (List.mem_of_getElem? (i := 19) rfl)) (hw _ (List.mem_of_getElem? (i := 3) rfl)) (by decide) (by decide)) (g := (mkF m 22 #[.val (.int p1)] [(.int (0 : Int32)), (.ref ovb), (.ref ob), (.ref ob)])) rfl (by rw [hml]; rfl) (Steps.refl _) (a := ob) (argsL := [(.ref ovb), (.int (0 : Int32))]) (rest := [(.ref ob)]) (lenOf own_pd2 rfl) rfl (by show 2 * 0 + _ ≤ _; exact Nat.le_of_eq rfl) (hb hby d1_22) (fun _ _ => ⟨rfl, rfl, (by decide : 2 + 0 ≤ _), (by decide : 5 + 0 ≤ _)⟩)
  dsimp only [Pt.U, Pt.locs, Pt.cells, Pt.slots] at X16 l16 y16 z16 st16 hQ16
  subst l16 y16 z16
  obtain ⟨rfl, Nq16, Kq16, f16_0, f16_1, f16_2⟩ := hQ16
  refine Go.tr st16 ?_
  have N16 := Fr.app N14 Nq16
  have E_ob_17 : Exa Z T16.heap ob "java/lang/String" := Exa.keep E_ob_15 Kq16
  have A_ovb_17 : Arv Z T16.heap ovb okb .byte (1 : Int32) ([(.int p1.toInt8.toInt32)]) (.int (0 : Int32)) := Arv.keep f14_1 Kq16 (ninS (Ne.symm ne_ob_ovb) nin0)
  have K16 : Keep h0 T16.heap [] := Keep.trans K14 Kq16 (allS (Or.inr mh_ob) all0)
  have Zs16 : n0 ≤ T16.heap.size := Nat.le_trans Zs14 Kq16.1
  show Go p e below _ (T16.setTop (mkF m 25 #[.val (.int p1)] [(.ref ob)]))
  refine Go.retA X16 hx hlk Bd.returns rfl rfl (hb hby d1_25) (by decide) (by decide) ?_
  show Q1 Z p1 cs h0 n0 _ T16.heap _
  exact ⟨ob, ovb, okb, rfl, N16, K16, mh_ob, mh_ovb, ne_ob_ovb, f16_0, f16_1, f16_2, A_ovb_17⟩
theorem own_pn_java_lang_Record : plainName "java/lang/Record" = true := by first | (simp [plainName, overriddenIn]; done) | decide +kernel
theorem ef_7 (m : MethodId) (x0 : Addr) : entryFrame m #[(.ref x0)] 1 = mkF m 0 #[.val (.ref x0)] [] := by first | (simp [entryFrame, mkF, argsToLocals, Value.category]; done) | rfl
theorem d7_0 : decode jdk_30_method_1_code 0 = .ok (.aload_n 0, 1) := by decide +kernel
theorem d7_1 : decode jdk_30_method_1_code 1 = .ok (.invokespecial 1, 3) := by decide +kernel
theorem d7_4 : decode jdk_30_method_1_code 4 = .ok (.return_, 1) := by decide +kernel
def Q7 (Z : State) (a1 : Addr) (h0 : Heap) (n0 : Nat) (v : Option Value) (h : Heap) (L : List Loc) : Prop := v = none ∧ Fr n0 L ∧ h = h0
set_option maxRecDepth 65536 in
set_option maxHeartbeats 40000000 in
theorem rm7 (l : Launch) (Z : State) (a0 : Array Value) (hw : ∀ d ∈ tables_1, d.before a0 Z = true) (ws : List Jvm.Cond) (a1 : Addr) (h0 : Heap) (n0 : Nat) (Z0 : n0 ≤ h0.size)  :
    MetFree l (⟨"java/lang/Record", "<init>", "()V"⟩ : MethodName) (head1 (Jvm.Cond.code (⟨"java/lang/Record", "<init>", "()V"⟩ : MethodName) jdk_30_method_1_code 1 none :: ws) ({ frames := 1, cells := 0, slots := 0, locals := 12 } : Room)) (fun a U => a = #[(.ref a1)] ∧ Z.Warmed39 U.vm ∧ U.heap = h0) (fun _ _ _ _ _ => True) (fun _ U o U' => ∃ v L, o = .returned v ∧ Q7 Z a1 h0 n0 v U'.heap L ∧ FrameEnd U o U' L ({ frames := 1, cells := 0, slots := 0, locals := 12 } : Room).cells ({ frames := 1, cells := 0, slots := 0, locals := 12 } : Room).slots) := by
  refine MetFree.of_bodySF (plainFor_of_name own_pn_java_lang_Record) hisR ?_
  intro p e s m args below meth c s₁ Bd hml0 hP hK
  obtain ⟨rfl, hZ, hh⟩ := hP
  have hx := Bd.exec
  have hby := Bd.bytes
  have hlk := Bd.notSynchronized
  have hml : c.maxLocals = 1 := hml0
  have hown : s.vm.findClass "java/lang/Record" = some m.cls := findClass_of_methodNamed Bd.named
  have hnm := (name_of_methodNamed Bd.named Bd.method).1
  have X0 : Stand p l e ({ frames := 1, cells := 0, slots := 0, locals := 12 } : Room) s m #[(.ref a1)] below meth c s₁ [] 0 0 := Stand.of_body Bd
  have e0 : s₁.heap = h0 := by rw [← hh, Bd.state]; rfl
  have N0 := Fr.nil n0
  show Go p e below (KQ s below (Q7 Z a1 h0 n0) ({ frames := 1, cells := 0, slots := 0, locals := 12 } : Room).cells ({ frames := 1, cells := 0, slots := 0, locals := 12 } : Room).slots) _
  refine Go.body (T := s₁) (σ := s₁) (g' := (mkF m 0 #[.val (.ref a1)] [])) (ef_7 m a1) ?_
  refine g_aloadN X0 hx (hb hby d7_0) 1 rfl (v := (.ref a1)) rfl rfl ?_
  obtain ⟨T18, X18, e18, st18⟩ := initO X0 hx hZ hown (hw _ (List.mem_of_getElem? (i := 38) rfl)) (hw _ (List.mem_of_getElem? (i := 21) rfl)) (hw _ (List.mem_of_getElem? (i := 22) rfl)) e0 (g := (mkF m 1 #[.val (.ref a1)] [(.ref a1)])) rfl (by rw [hml]; rfl) rfl (hb hby d7_1) (by decide) (W := 0) (by show 2 * 0 + _ ≤ _; exact Nat.le_of_eq rfl) (by decide)
  refine Go.st st18 ?_
  show Go p e below _ (T18.setTop (mkF m 4 #[.val (.ref a1)] []))
  refine Go.retV X18 hx hlk Bd.returns (hb hby d7_4) (by decide) (by decide) ?_
  show Q7 Z a1 h0 n0 _ T18.heap _
  rw [e18]
  exact ⟨rfl, N0, rfl⟩
theorem own_pn_com_example_scrivenmoor_scrivenmoor_ConversionPattern_Conversion : plainName "com/example/scrivenmoor/scrivenmoor/ConversionPattern$Conversion" = true := by first | (simp [plainName, overriddenIn]; done) | decide +kernel
theorem ef_6 (m : MethodId) (x0 : Addr) (x1 : Int32) (x2 : Addr) (x3 : Value) (x4 : Int32) (x5 : Int32) (x6 : Int32) (x7 : Int32) (c3 : x3.category = 1) : entryFrame m #[(.ref x0), (.int x1), (.ref x2), x3, (.int x4), (.int x5), (.int x6), (.int x7)] 8 = mkF m 0 #[.val (.ref x0), .val (.int x1), .val (.ref x2), .val x3, .val (.int x4), .val (.int x5), .val (.int x6), .val (.int x7)] [] := by cases x3 <;> simp [entryFrame, mkF, argsToLocals, Value.category] at c3 ⊢
theorem d6_0 : decode prog_16_method_1_code 0 = .ok (.aload_n 0, 1) := by decide +kernel
theorem own_pd3 : parseMethodDescriptor "()V" = some ⟨[], none⟩ := by decide +kernel
theorem d6_1 : decode prog_16_method_1_code 1 = .ok (.invokespecial 1, 3) := by decide +kernel
theorem d6_4 : decode prog_16_method_1_code 4 = .ok (.aload_n 0, 1) := by decide +kernel
theorem d6_5 : decode prog_16_method_1_code 5 = .ok (.iload_n 1, 1) := by decide +kernel
theorem d6_6 : decode prog_16_method_1_code 6 = .ok (.putfield 7, 3) := by decide +kernel
theorem d6_9 : decode prog_16_method_1_code 9 = .ok (.aload_n 0, 1) := by decide +kernel
theorem d6_10 : decode prog_16_method_1_code 10 = .ok (.aload_n 2, 1) := by decide +kernel
theorem d6_11 : decode prog_16_method_1_code 11 = .ok (.putfield 13, 3) := by decide +kernel
theorem d6_14 : decode prog_16_method_1_code 14 = .ok (.aload_n 0, 1) := by decide +kernel
theorem d6_15 : decode prog_16_method_1_code 15 = .ok (.aload_n 3, 1) := by decide +kernel
theorem d6_16 : decode prog_16_method_1_code 16 = .ok (.putfield 17, 3) := by decide +kernel
theorem d6_19 : decode prog_16_method_1_code 19 = .ok (.aload_n 0, 1) := by decide +kernel
theorem d6_20 : decode prog_16_method_1_code 20 = .ok (.iload 4, 2) := by decide +kernel
theorem d6_22 : decode prog_16_method_1_code 22 = .ok (.putfield 20, 3) := by decide +kernel
theorem d6_25 : decode prog_16_method_1_code 25 = .ok (.aload_n 0, 1) := by decide +kernel
theorem d6_26 : decode prog_16_method_1_code 26 = .ok (.iload 5, 2) := by decide +kernel
theorem d6_28 : decode prog_16_method_1_code 28 = .ok (.putfield 23, 3) := by decide +kernel
theorem d6_31 : decode prog_16_method_1_code 31 = .ok (.aload_n 0, 1) := by decide +kernel
theorem d6_32 : decode prog_16_method_1_code 32 = .ok (.iload 6, 2) := by decide +kernel
theorem d6_34 : decode prog_16_method_1_code 34 = .ok (.putfield 27, 3) := by decide +kernel
theorem d6_37 : decode prog_16_method_1_code 37 = .ok (.aload_n 0, 1) := by decide +kernel
theorem d6_38 : decode prog_16_method_1_code 38 = .ok (.iload 7, 2) := by decide +kernel
theorem d6_40 : decode prog_16_method_1_code 40 = .ok (.putfield 30, 3) := by decide +kernel
theorem d6_43 : decode prog_16_method_1_code 43 = .ok (.return_, 1) := by decide +kernel
def Q6 (Z : State) (a1 : Addr) (p1 : Int32) (a2 : Addr) (p4 : Int32) (p5 : Int32) (p6 : Int32) (p7 : Int32) (vo : Value) (u0 : Value) (u1 : Value) (u2 : Value) (u3 : Value) (u4 : Value) (u5 : Value) (u6 : Value) (h0 : Heap) (n0 : Nat) (v : Option Value) (h : Heap) (L : List Loc) : Prop := v = none ∧ Fr n0 L ∧ Keep h0 h [a1] ∧ (Exa Z h a1 "com/example/scrivenmoor/scrivenmoor/ConversionPattern$Conversion") ∧ (Fld Z h a1 "com/example/scrivenmoor/scrivenmoor/ConversionPattern$Conversion" "position" "I" (.int p1)) ∧ (Fld Z h a1 "com/example/scrivenmoor/scrivenmoor/ConversionPattern$Conversion" "word" "Ljava/lang/String;" (.ref a2)) ∧ (Fld Z h a1 "com/example/scrivenmoor/scrivenmoor/ConversionPattern$Conversion" "option" "Ljava/lang/String;" vo) ∧ (Fld Z h a1 "com/example/scrivenmoor/scrivenmoor/ConversionPattern$Conversion" "minWidth" "I" (.int p4)) ∧ (Fld Z h a1 "com/example/scrivenmoor/scrivenmoor/ConversionPattern$Conversion" "padRight" "Z" (.int p5)) ∧ (Fld Z h a1 "com/example/scrivenmoor/scrivenmoor/ConversionPattern$Conversion" "maxWidth" "I" (.int p6)) ∧ (Fld Z h a1 "com/example/scrivenmoor/scrivenmoor/ConversionPattern$Conversion" "keepLeft" "Z" (.int p7))
set_option maxRecDepth 65536 in
set_option maxHeartbeats 40000000 in
theorem rm6 (l : Launch) (Z : State) (a0 : Array Value) (hw : ∀ d ∈ tables_1, d.before a0 Z = true) (ws : List Jvm.Cond) (a1 : Addr) (p1 : Int32) (a2 : Addr) (p4 : Int32) (p5 : Int32) (p6 : Int32) (p7 : Int32) (vo : Value) (u0 : Value) (u1 : Value) (u2 : Value) (u3 : Value) (u4 : Value) (u5 : Value) (u6 : Value) (h0 : Heap) (n0 : Nat) (Z0 : n0 ≤ h0.size) (E_a1 : Exa Z h0 a1 "com/example/scrivenmoor/scrivenmoor/ConversionPattern$Conversion") (g_a1 : n0 ≤ a1) (F_position_a1 : Fld Z h0 a1 "com/example/scrivenmoor/scrivenmoor/ConversionPattern$Conversion" "position" "I" u0) (F_word_a1 : Fld Z h0 a1 "com/example/scrivenmoor/scrivenmoor/ConversionPattern$Conversion" "word" "Ljava/lang/String;" u1) (F_option_a1 : Fld Z h0 a1 "com/example/scrivenmoor/scrivenmoor/ConversionPattern$Conversion" "option" "Ljava/lang/String;" u2) (F_minWidth_a1 : Fld Z h0 a1 "com/example/scrivenmoor/scrivenmoor/ConversionPattern$Conversion" "minWidth" "I" u3) (F_padRight_a1 : Fld Z h0 a1 "com/example/scrivenmoor/scrivenmoor/ConversionPattern$Conversion" "padRight" "Z" u4) (F_maxWidth_a1 : Fld Z h0 a1 "com/example/scrivenmoor/scrivenmoor/ConversionPattern$Conversion" "maxWidth" "I" u5) (F_keepLeft_a1 : Fld Z h0 a1 "com/example/scrivenmoor/scrivenmoor/ConversionPattern$Conversion" "keepLeft" "Z" u6) (hvo : vo.isRef = true) (h5 : p5 = 0 ∨ p5 = 1) (h7 : p7 = 0 ∨ p7 = 1) :
    MetFree l (⟨"com/example/scrivenmoor/scrivenmoor/ConversionPattern$Conversion", "<init>", "(ILjava/lang/String;Ljava/lang/String;IZIZ)V"⟩ : MethodName) (head1 (Jvm.Cond.code (⟨"com/example/scrivenmoor/scrivenmoor/ConversionPattern$Conversion", "<init>", "(ILjava/lang/String;Ljava/lang/String;IZIZ)V"⟩ : MethodName) prog_16_method_1_code 8 none :: ws) ({ frames := 2, cells := 0, slots := 0, locals := 24 } : Room)) (fun a U => a = #[(.ref a1), (.int p1), (.ref a2), vo, (.int p4), (.int p5), (.int p6), (.int p7)] ∧ Z.Warmed39 U.vm ∧ U.heap = h0) (fun _ _ _ _ _ => True) (fun _ U o U' => ∃ v L, o = .returned v ∧ Q6 Z a1 p1 a2 p4 p5 p6 p7 vo u0 u1 u2 u3 u4 u5 u6 h0 n0 v U'.heap L ∧ FrameEnd U o U' L ({ frames := 2, cells := 0, slots := 0, locals := 24 } : Room).cells ({ frames := 2, cells := 0, slots := 0, locals := 24 } : Room).slots) := by
  refine MetFree.of_bodySF (plainFor_of_name own_pn_com_example_scrivenmoor_scrivenmoor_ConversionPattern_Conversion) hisR ?_
  intro p e s m args below meth c s₁ Bd hml0 hP hK
  obtain ⟨rfl, hZ, hh⟩ := hP
  have hx := Bd.exec
  have hby := Bd.bytes
  have hlk := Bd.notSynchronized
  have hml : c.maxLocals = 8 := hml0
  have hown : s.vm.findClass "com/example/scrivenmoor/scrivenmoor/ConversionPattern$Conversion" = some m.cls := findClass_of_methodNamed Bd.named
  have hnm := (name_of_methodNamed Bd.named Bd.method).1
  have X0 : Stand p l e ({ frames := 2, cells := 0, slots := 0, locals := 24 } : Room) s m #[(.ref a1), (.int p1), (.ref a2), vo, (.int p4), (.int p5), (.int p6), (.int p7)] below meth c s₁ [] 0 0 := Stand.of_body Bd
  have e0 : s₁.heap = h0 := by rw [← hh, Bd.state]; rfl
  have N0 := Fr.nil n0
  have K0 : Keep h0 h0 [a1] := Keep.refl _ _
  show Go p e below (KQ s below (Q6 Z a1 p1 a2 p4 p5 p6 p7 vo u0 u1 u2 u3 u4 u5 u6 h0 n0) ({ frames := 2, cells := 0, slots := 0, locals := 24 } : Room).cells ({ frames := 2, cells := 0, slots := 0, locals := 24 } : Room).slots) _
  refine Go.body (T := s₁) (σ := s₁) (g' := (mkF m 0 #[.val (.ref a1), .val (.int p1), .val (.ref a2), .val vo, .val (.int p4), .val (.int p5), .val (.int p6), .val (.int p7)] [])) (ef_6 m a1 p1 a2 vo p4 p5 p6 p7 (own_cat hvo)) ?_
  refine g_aloadN X0 hx (hb hby d6_0) 1 rfl (v := (.ref a1)) rfl rfl ?_
  obtain ⟨_, _, ⟨T19, L19, k19, n19⟩, -, X19, ⟨Lc19, hQ19, l19, y19, z19⟩, st19⟩ := X0.specialBack hx (y := (⟨"java/lang/Record", "<init>", "()V"⟩ : MethodName)) rfl hown (mvT hZ (hw _ (List.mem_of_getElem? (i := 33) rfl))) (mvT hZ (hw _ (List.mem_of_getElem? (i := 34) rfl))) (mvT hZ (hw _ (List.mem_of_getElem? (i := 37) rfl))) (by decide) (backOf (W := 0) (rm7 l Z a0 hw [] a1 h0 n0 Z0 ) hZ (hw _ (List.mem_of_getElem? (i := 37) rfl)) (hw _ (List.mem_of_getElem? (i := 36) rfl)) (by decide) (by decide)) (g := (mkF m 1 #[.val (.ref a1), .val (.int p1), .val (.ref a2), .val vo, .val (.int p4), .val (.int p5), .val (.int p6), .val (.int p7)] [(.ref a1)])) rfl (by rw [hml]; rfl) (Steps.refl _) (a := a1) (argsL := []) (rest := []) (lenOf own_pd3 rfl) rfl (by show 2 * 0 + _ ≤ _; exact Nat.le_of_eq rfl) (hb hby d6_1) (fun _ _ => ⟨rfl, e0, (by decide : 0 + 0 ≤ _), (by decide : 0 + 0 ≤ _)⟩)
  dsimp only [Pt.U, Pt.locs, Pt.cells, Pt.slots] at X19 l19 y19 z19 st19 hQ19
  subst l19 y19 z19
  obtain ⟨rfl, Nq19, e19⟩ := hQ19
  refine Go.tr st19 ?_
  have N19 := Fr.app N0 Nq19
  show Go p e below _ (T19.setTop (mkF m 4 #[.val (.ref a1), .val (.int p1), .val (.ref a2), .val vo, .val (.int p4), .val (.int p5), .val (.int p6), .val (.int p7)] []))
  refine g_aloadN X19 hx (hb hby d6_4) 5 rfl (v := (.ref a1)) rfl rfl ?_
  refine g_iloadN X19 hx (hb hby d6_5) 6 rfl (v := p1) rfl ?_
  obtain ⟨T20, h20, X20, e20, W20, st20⟩ := putF X19 hx hZ hown (host := "") (Or.inl (hw _ (List.mem_of_getElem? (i := 39) rfl))) Via.refl e19 F_position_a1 E_a1 (Or.inr ⟨(hw _ (List.mem_of_getElem? (i := 40) rfl)), rfl, hnm⟩) (hw _ (List.mem_of_getElem? (i := 28) rfl)) (ty := .int) (by decide) rfl rfl (g := (mkF m 6 #[.val (.ref a1), .val (.int p1), .val (.ref a2), .val vo, .val (.int p4), .val (.int p5), .val (.int p6), .val (.int p7)] [(.int p1), (.ref a1)])) rfl rfl (hb hby d6_6)
  refine Go.st st20 ?_
  have E_a1_21 : Exa Z h20 a1 "com/example/scrivenmoor/scrivenmoor/ConversionPattern$Conversion" := Exa.wr W20 E_a1
  have F_word_a1_21 : Fld Z h20 a1 "com/example/scrivenmoor/scrivenmoor/ConversionPattern$Conversion" "word" "Ljava/lang/String;" u1 := Fld.other W20 F_word_a1 (Or.inr (slot_ne (Or.inr (hw _ (List.mem_of_getElem? (i := 42) rfl))) (Or.inr (hw _ (List.mem_of_getElem? (i := 40) rfl))) (by decide) (t := (.object "java/lang/String")) (t' := .int) (by decide) (by decide)))
  have F_option_a1_21 : Fld Z h20 a1 "com/example/scrivenmoor/scrivenmoor/ConversionPattern$Conversion" "option" "Ljava/lang/String;" u2 := Fld.other W20 F_option_a1 (Or.inr (slot_ne (Or.inr (hw _ (List.mem_of_getElem? (i := 44) rfl))) (Or.inr (hw _ (List.mem_of_getElem? (i := 40) rfl))) (by decide) (t := (.object "java/lang/String")) (t' := .int) (by decide) (by decide)))
  have F_minWidth_a1_21 : Fld Z h20 a1 "com/example/scrivenmoor/scrivenmoor/ConversionPattern$Conversion" "minWidth" "I" u3 := Fld.other W20 F_minWidth_a1 (Or.inr (slot_ne (Or.inr (hw _ (List.mem_of_getElem? (i := 46) rfl))) (Or.inr (hw _ (List.mem_of_getElem? (i := 40) rfl))) (by decide) (t := .int) (t' := .int) (by decide) (by decide)))
  have F_padRight_a1_21 : Fld Z h20 a1 "com/example/scrivenmoor/scrivenmoor/ConversionPattern$Conversion" "padRight" "Z" u4 := Fld.other W20 F_padRight_a1 (Or.inr (slot_ne (Or.inr (hw _ (List.mem_of_getElem? (i := 48) rfl))) (Or.inr (hw _ (List.mem_of_getElem? (i := 40) rfl))) (by decide) (t := .boolean) (t' := .int) (by decide) (by decide)))
  have F_maxWidth_a1_21 : Fld Z h20 a1 "com/example/scrivenmoor/scrivenmoor/ConversionPattern$Conversion" "maxWidth" "I" u5 := Fld.other W20 F_maxWidth_a1 (Or.inr (slot_ne (Or.inr (hw _ (List.mem_of_getElem? (i := 50) rfl))) (Or.inr (hw _ (List.mem_of_getElem? (i := 40) rfl))) (by decide) (t := .int) (t' := .int) (by decide) (by decide)))
  have F_keepLeft_a1_21 : Fld Z h20 a1 "com/example/scrivenmoor/scrivenmoor/ConversionPattern$Conversion" "keepLeft" "Z" u6 := Fld.other W20 F_keepLeft_a1 (Or.inr (slot_ne (Or.inr (hw _ (List.mem_of_getElem? (i := 52) rfl))) (Or.inr (hw _ (List.mem_of_getElem? (i := 40) rfl))) (by decide) (t := .boolean) (t' := .int) (by decide) (by decide)))
  have F_position_a1_20w : Fld Z h20 a1 "com/example/scrivenmoor/scrivenmoor/ConversionPattern$Conversion" "position" "I" (.int p1) := Fld.same W20 F_position_a1
  have K20 : Keep h0 h20 [a1] := Keep.wr K0 W20 (Or.inl (List.mem_of_getElem? (i := 0) rfl))
  have N20 := Fr.snoc X20 N19 g_a1
  have Zs20 : n0 ≤ h20.size := by rw [W20.size]; exact Z0
  show Go p e below _ (T20.setTop (mkF m 9 #[.val (.ref a1), .val (.int p1), .val (.ref a2), .val vo, .val (.int p4), .val (.int p5), .val (.int p6), .val (.int p7)] []))
  refine g_aloadN X20 hx (hb hby d6_9) 10 rfl (v := (.ref a1)) rfl rfl ?_
  refine g_aloadN X20 hx (hb hby d6_10) 11 rfl (v := (.ref a2)) rfl rfl ?_
  obtain ⟨T22, h22, X22, e22, W22, st22⟩ := putF X20 hx hZ hown (host := "") (Or.inl (hw _ (List.mem_of_getElem? (i := 41) rfl))) Via.refl e20 F_word_a1_21 E_a1_21 (Or.inr ⟨(hw _ (List.mem_of_getElem? (i := 42) rfl)), rfl, hnm⟩) (hw _ (List.mem_of_getElem? (i := 28) rfl)) (ty := (.object "java/lang/String")) (by decide) rfl rfl (g := (mkF m 11 #[.val (.ref a1), .val (.int p1), .val (.ref a2), .val vo, .val (.int p4), .val (.int p5), .val (.int p6), .val (.int p7)] [(.ref a2), (.ref a1)])) rfl rfl (hb hby d6_11)
  refine Go.st st22 ?_
  have E_a1_23 : Exa Z h22 a1 "com/example/scrivenmoor/scrivenmoor/ConversionPattern$Conversion" := Exa.wr W22 E_a1_21
  have F_option_a1_23 : Fld Z h22 a1 "com/example/scrivenmoor/scrivenmoor/ConversionPattern$Conversion" "option" "Ljava/lang/String;" u2 := Fld.other W22 F_option_a1_21 (Or.inr (slot_ne (Or.inr (hw _ (List.mem_of_getElem? (i := 44) rfl))) (Or.inr (hw _ (List.mem_of_getElem? (i := 42) rfl))) (by decide) (t := (.object "java/lang/String")) (t' := (.object "java/lang/String")) (by decide) (by decide)))
  have F_minWidth_a1_23 : Fld Z h22 a1 "com/example/scrivenmoor/scrivenmoor/ConversionPattern$Conversion" "minWidth" "I" u3 := Fld.other W22 F_minWidth_a1_21 (Or.inr (slot_ne (Or.inr (hw _ (List.mem_of_getElem? (i := 46) rfl))) (Or.inr (hw _ (List.mem_of_getElem? (i := 42) rfl))) (by decide) (t := .int) (t' := (.object "java/lang/String")) (by decide) (by decide)))
  have F_padRight_a1_23 : Fld Z h22 a1 "com/example/scrivenmoor/scrivenmoor/ConversionPattern$Conversion" "padRight" "Z" u4 := Fld.other W22 F_padRight_a1_21 (Or.inr (slot_ne (Or.inr (hw _ (List.mem_of_getElem? (i := 48) rfl))) (Or.inr (hw _ (List.mem_of_getElem? (i := 42) rfl))) (by decide) (t := .boolean) (t' := (.object "java/lang/String")) (by decide) (by decide)))
  have F_maxWidth_a1_23 : Fld Z h22 a1 "com/example/scrivenmoor/scrivenmoor/ConversionPattern$Conversion" "maxWidth" "I" u5 := Fld.other W22 F_maxWidth_a1_21 (Or.inr (slot_ne (Or.inr (hw _ (List.mem_of_getElem? (i := 50) rfl))) (Or.inr (hw _ (List.mem_of_getElem? (i := 42) rfl))) (by decide) (t := .int) (t' := (.object "java/lang/String")) (by decide) (by decide)))
  have F_keepLeft_a1_23 : Fld Z h22 a1 "com/example/scrivenmoor/scrivenmoor/ConversionPattern$Conversion" "keepLeft" "Z" u6 := Fld.other W22 F_keepLeft_a1_21 (Or.inr (slot_ne (Or.inr (hw _ (List.mem_of_getElem? (i := 52) rfl))) (Or.inr (hw _ (List.mem_of_getElem? (i := 42) rfl))) (by decide) (t := .boolean) (t' := (.object "java/lang/String")) (by decide) (by decide)))
  have F_position_a1_23 : Fld Z h22 a1 "com/example/scrivenmoor/scrivenmoor/ConversionPattern$Conversion" "position" "I" (.int p1) := Fld.other W22 F_position_a1_20w (Or.inr (slot_ne (Or.inr (hw _ (List.mem_of_getElem? (i := 40) rfl))) (Or.inr (hw _ (List.mem_of_getElem? (i := 42) rfl))) (by decide) (t := .int) (t' := (.object "java/lang/String")) (by decide) (by decide)))
  have F_word_a1_22w : Fld Z h22 a1 "com/example/scrivenmoor/scrivenmoor/ConversionPattern$Conversion" "word" "Ljava/lang/String;" (.ref a2) := Fld.same W22 F_word_a1_21
  have K22 : Keep h0 h22 [a1] := Keep.wr K20 W22 (Or.inl (List.mem_of_getElem? (i := 0) rfl))
  have N22 := Fr.snoc X22 N20 g_a1
  have Zs22 : n0 ≤ h22.size := by rw [W22.size]; exact Zs20
  show Go p e below _ (T22.setTop (mkF m 14 #[.val (.ref a1), .val (.int p1), .val (.ref a2), .val vo, .val (.int p4), .val (.int p5), .val (.int p6), .val (.int p7)] []))
  refine g_aloadN X22 hx (hb hby d6_14) 15 rfl (v := (.ref a1)) rfl rfl ?_
  refine g_aloadN X22 hx (hb hby d6_15) 16 rfl (v := vo) rfl hvo ?_
  obtain ⟨T24, h24, X24, e24, W24, st24⟩ := putF X22 hx hZ hown (host := "") (Or.inl (hw _ (List.mem_of_getElem? (i := 43) rfl))) Via.refl e22 F_option_a1_23 E_a1_23 (Or.inr ⟨(hw _ (List.mem_of_getElem? (i := 44) rfl)), rfl, hnm⟩) (hw _ (List.mem_of_getElem? (i := 28) rfl)) (ty := (.object "java/lang/String")) (by decide) (own_narrow hvo rfl) (own_fits hvo rfl) (g := (mkF m 16 #[.val (.ref a1), .val (.int p1), .val (.ref a2), .val vo, .val (.int p4), .val (.int p5), .val (.int p6), .val (.int p7)] [vo, (.ref a1)])) rfl rfl (hb hby d6_16)
  refine Go.st st24 ?_
  have E_a1_25 : Exa Z h24 a1 "com/example/scrivenmoor/scrivenmoor/ConversionPattern$Conversion" := Exa.wr W24 E_a1_23
  have F_minWidth_a1_25 : Fld Z h24 a1 "com/example/scrivenmoor/scrivenmoor/ConversionPattern$Conversion" "minWidth" "I" u3 := Fld.other W24 F_minWidth_a1_23 (Or.inr (slot_ne (Or.inr (hw _ (List.mem_of_getElem? (i := 46) rfl))) (Or.inr (hw _ (List.mem_of_getElem? (i := 44) rfl))) (by decide) (t := .int) (t' := (.object "java/lang/String")) (by decide) (by decide)))
  have F_padRight_a1_25 : Fld Z h24 a1 "com/example/scrivenmoor/scrivenmoor/ConversionPattern$Conversion" "padRight" "Z" u4 := Fld.other W24 F_padRight_a1_23 (Or.inr (slot_ne (Or.inr (hw _ (List.mem_of_getElem? (i := 48) rfl))) (Or.inr (hw _ (List.mem_of_getElem? (i := 44) rfl))) (by decide) (t := .boolean) (t' := (.object "java/lang/String")) (by decide) (by decide)))
  have F_maxWidth_a1_25 : Fld Z h24 a1 "com/example/scrivenmoor/scrivenmoor/ConversionPattern$Conversion" "maxWidth" "I" u5 := Fld.other W24 F_maxWidth_a1_23 (Or.inr (slot_ne (Or.inr (hw _ (List.mem_of_getElem? (i := 50) rfl))) (Or.inr (hw _ (List.mem_of_getElem? (i := 44) rfl))) (by decide) (t := .int) (t' := (.object "java/lang/String")) (by decide) (by decide)))
  have F_keepLeft_a1_25 : Fld Z h24 a1 "com/example/scrivenmoor/scrivenmoor/ConversionPattern$Conversion" "keepLeft" "Z" u6 := Fld.other W24 F_keepLeft_a1_23 (Or.inr (slot_ne (Or.inr (hw _ (List.mem_of_getElem? (i := 52) rfl))) (Or.inr (hw _ (List.mem_of_getElem? (i := 44) rfl))) (by decide) (t := .boolean) (t' := (.object "java/lang/String")) (by decide) (by decide)))
  have F_position_a1_25 : Fld Z h24 a1 "com/example/scrivenmoor/scrivenmoor/ConversionPattern$Conversion" "position" "I" (.int p1) := Fld.other W24 F_position_a1_23 (Or.inr (slot_ne (Or.inr (hw _ (List.mem_of_getElem? (i := 40) rfl))) (Or.inr (hw _ (List.mem_of_getElem? (i := 44) rfl))) (by decide) (t := .int) (t' := (.object "java/lang/String")) (by decide) (by decide)))
  have F_word_a1_25 : Fld Z h24 a1 "com/example/scrivenmoor/scrivenmoor/ConversionPattern$Conversion" "word" "Ljava/lang/String;" (.ref a2) := Fld.other W24 F_word_a1_22w (Or.inr (slot_ne (Or.inr (hw _ (List.mem_of_getElem? (i := 42) rfl))) (Or.inr (hw _ (List.mem_of_getElem? (i := 44) rfl))) (by decide) (t := (.object "java/lang/String")) (t' := (.object "java/lang/String")) (by decide) (by decide)))
  have F_option_a1_24w : Fld Z h24 a1 "com/example/scrivenmoor/scrivenmoor/ConversionPattern$Conversion" "option" "Ljava/lang/String;" vo := Fld.same W24 F_option_a1_23
  have K24 : Keep h0 h24 [a1] := Keep.wr K22 W24 (Or.inl (List.mem_of_getElem? (i := 0) rfl))
  have N24 := Fr.snoc X24 N22 g_a1
  have Zs24 : n0 ≤ h24.size := by rw [W24.size]; exact Zs22
  show Go p e below _ (T24.setTop (mkF m 19 #[.val (.ref a1), .val (.int p1), .val (.ref a2), .val vo, .val (.int p4), .val (.int p5), .val (.int p6), .val (.int p7)] []))
  refine g_aloadN X24 hx (hb hby d6_19) 20 rfl (v := (.ref a1)) rfl rfl ?_
  refine g_iload X24 hx (hb hby d6_20) 22 rfl (v := p4) rfl ?_
  obtain ⟨T26, h26, X26, e26, W26, st26⟩ := putF X24 hx hZ hown (host := "") (Or.inl (hw _ (List.mem_of_getElem? (i := 45) rfl))) Via.refl e24 F_minWidth_a1_25 E_a1_25 (Or.inr ⟨(hw _ (List.mem_of_getElem? (i := 46) rfl)), rfl, hnm⟩) (hw _ (List.mem_of_getElem? (i := 28) rfl)) (ty := .int) (by decide) rfl rfl (g := (mkF m 22 #[.val (.ref a1), .val (.int p1), .val (.ref a2), .val vo, .val (.int p4), .val (.int p5), .val (.int p6), .val (.int p7)] [(.int p4), (.ref a1)])) rfl rfl (hb hby d6_22)
  refine Go.st st26 ?_
  have E_a1_27 : Exa Z h26 a1 "com/example/scrivenmoor/scrivenmoor/ConversionPattern$Conversion" := Exa.wr W26 E_a1_25
  have F_padRight_a1_27 : Fld Z h26 a1 "com/example/scrivenmoor/scrivenmoor/ConversionPattern$Conversion" "padRight" "Z" u4 := Fld.other W26 F_padRight_a1_25 (Or.inr (slot_ne (Or.inr (hw _ (List.mem_of_getElem? (i := 48) rfl))) (Or.inr (hw _ (List.mem_of_getElem? (i := 46) rfl))) (by decide) (t := .boolean) (t' := .int) (by decide) (by decide)))
  have F_maxWidth_a1_27 : Fld Z h26 a1 "com/example/scrivenmoor/scrivenmoor/ConversionPattern$Conversion" "maxWidth" "I" u5 := Fld.other W26 F_maxWidth_a1_25 (Or.inr (slot_ne (Or.inr (hw _ (List.mem_of_getElem? (i := 50) rfl))) (Or.inr (hw _ (List.mem_of_getElem? (i := 46) rfl))) (by decide) (t := .int) (t' := .int) (by decide) (by decide)))
  have F_keepLeft_a1_27 : Fld Z h26 a1 "com/example/scrivenmoor/scrivenmoor/ConversionPattern$Conversion" "keepLeft" "Z" u6 := Fld.other W26 F_keepLeft_a1_25 (Or.inr (slot_ne (Or.inr (hw _ (List.mem_of_getElem? (i := 52) rfl))) (Or.inr (hw _ (List.mem_of_getElem? (i := 46) rfl))) (by decide) (t := .boolean) (t' := .int) (by decide) (by decide)))
  have F_position_a1_27 : Fld Z h26 a1 "com/example/scrivenmoor/scrivenmoor/ConversionPattern$Conversion" "position" "I" (.int p1) := Fld.other W26 F_position_a1_25 (Or.inr (slot_ne (Or.inr (hw _ (List.mem_of_getElem? (i := 40) rfl))) (Or.inr (hw _ (List.mem_of_getElem? (i := 46) rfl))) (by decide) (t := .int) (t' := .int) (by decide) (by decide)))
  have F_word_a1_27 : Fld Z h26 a1 "com/example/scrivenmoor/scrivenmoor/ConversionPattern$Conversion" "word" "Ljava/lang/String;" (.ref a2) := Fld.other W26 F_word_a1_25 (Or.inr (slot_ne (Or.inr (hw _ (List.mem_of_getElem? (i := 42) rfl))) (Or.inr (hw _ (List.mem_of_getElem? (i := 46) rfl))) (by decide) (t := (.object "java/lang/String")) (t' := .int) (by decide) (by decide)))
  have F_option_a1_27 : Fld Z h26 a1 "com/example/scrivenmoor/scrivenmoor/ConversionPattern$Conversion" "option" "Ljava/lang/String;" vo := Fld.other W26 F_option_a1_24w (Or.inr (slot_ne (Or.inr (hw _ (List.mem_of_getElem? (i := 44) rfl))) (Or.inr (hw _ (List.mem_of_getElem? (i := 46) rfl))) (by decide) (t := (.object "java/lang/String")) (t' := .int) (by decide) (by decide)))
  have F_minWidth_a1_26w : Fld Z h26 a1 "com/example/scrivenmoor/scrivenmoor/ConversionPattern$Conversion" "minWidth" "I" (.int p4) := Fld.same W26 F_minWidth_a1_25
  have K26 : Keep h0 h26 [a1] := Keep.wr K24 W26 (Or.inl (List.mem_of_getElem? (i := 0) rfl))
  have N26 := Fr.snoc X26 N24 g_a1
  have Zs26 : n0 ≤ h26.size := by rw [W26.size]; exact Zs24
  show Go p e below _ (T26.setTop (mkF m 25 #[.val (.ref a1), .val (.int p1), .val (.ref a2), .val vo, .val (.int p4), .val (.int p5), .val (.int p6), .val (.int p7)] []))
  refine g_aloadN X26 hx (hb hby d6_25) 26 rfl (v := (.ref a1)) rfl rfl ?_
  refine g_iload X26 hx (hb hby d6_26) 28 rfl (v := p5) rfl ?_
  obtain ⟨T28, h28, X28, e28, W28, st28⟩ := putF X26 hx hZ hown (host := "") (Or.inl (hw _ (List.mem_of_getElem? (i := 47) rfl))) Via.refl e26 F_padRight_a1_27 E_a1_27 (Or.inr ⟨(hw _ (List.mem_of_getElem? (i := 48) rfl)), rfl, hnm⟩) (hw _ (List.mem_of_getElem? (i := 28) rfl)) (ty := .boolean) (by decide) (own_nb h5) (own_fb h5) (g := (mkF m 28 #[.val (.ref a1), .val (.int p1), .val (.ref a2), .val vo, .val (.int p4), .val (.int p5), .val (.int p6), .val (.int p7)] [(.int p5), (.ref a1)])) rfl rfl (hb hby d6_28)
  refine Go.st st28 ?_
  have E_a1_29 : Exa Z h28 a1 "com/example/scrivenmoor/scrivenmoor/ConversionPattern$Conversion" := Exa.wr W28 E_a1_27
  have F_maxWidth_a1_29 : Fld Z h28 a1 "com/example/scrivenmoor/scrivenmoor/ConversionPattern$Conversion" "maxWidth" "I" u5 := Fld.other W28 F_maxWidth_a1_27 (Or.inr (slot_ne (Or.inr (hw _ (List.mem_of_getElem? (i := 50) rfl))) (Or.inr (hw _ (List.mem_of_getElem? (i := 48) rfl))) (by decide) (t := .int) (t' := .boolean) (by decide) (by decide)))
  have F_keepLeft_a1_29 : Fld Z h28 a1 "com/example/scrivenmoor/scrivenmoor/ConversionPattern$Conversion" "keepLeft" "Z" u6 := Fld.other W28 F_keepLeft_a1_27 (Or.inr (slot_ne (Or.inr (hw _ (List.mem_of_getElem? (i := 52) rfl))) (Or.inr (hw _ (List.mem_of_getElem? (i := 48) rfl))) (by decide) (t := .boolean) (t' := .boolean) (by decide) (by decide)))
  have F_position_a1_29 : Fld Z h28 a1 "com/example/scrivenmoor/scrivenmoor/ConversionPattern$Conversion" "position" "I" (.int p1) := Fld.other W28 F_position_a1_27 (Or.inr (slot_ne (Or.inr (hw _ (List.mem_of_getElem? (i := 40) rfl))) (Or.inr (hw _ (List.mem_of_getElem? (i := 48) rfl))) (by decide) (t := .int) (t' := .boolean) (by decide) (by decide)))
  have F_word_a1_29 : Fld Z h28 a1 "com/example/scrivenmoor/scrivenmoor/ConversionPattern$Conversion" "word" "Ljava/lang/String;" (.ref a2) := Fld.other W28 F_word_a1_27 (Or.inr (slot_ne (Or.inr (hw _ (List.mem_of_getElem? (i := 42) rfl))) (Or.inr (hw _ (List.mem_of_getElem? (i := 48) rfl))) (by decide) (t := (.object "java/lang/String")) (t' := .boolean) (by decide) (by decide)))
  have F_option_a1_29 : Fld Z h28 a1 "com/example/scrivenmoor/scrivenmoor/ConversionPattern$Conversion" "option" "Ljava/lang/String;" vo := Fld.other W28 F_option_a1_27 (Or.inr (slot_ne (Or.inr (hw _ (List.mem_of_getElem? (i := 44) rfl))) (Or.inr (hw _ (List.mem_of_getElem? (i := 48) rfl))) (by decide) (t := (.object "java/lang/String")) (t' := .boolean) (by decide) (by decide)))
  have F_minWidth_a1_29 : Fld Z h28 a1 "com/example/scrivenmoor/scrivenmoor/ConversionPattern$Conversion" "minWidth" "I" (.int p4) := Fld.other W28 F_minWidth_a1_26w (Or.inr (slot_ne (Or.inr (hw _ (List.mem_of_getElem? (i := 46) rfl))) (Or.inr (hw _ (List.mem_of_getElem? (i := 48) rfl))) (by decide) (t := .int) (t' := .boolean) (by decide) (by decide)))
  have F_padRight_a1_28w : Fld Z h28 a1 "com/example/scrivenmoor/scrivenmoor/ConversionPattern$Conversion" "padRight" "Z" (.int p5) := Fld.same W28 F_padRight_a1_27
  have K28 : Keep h0 h28 [a1] := Keep.wr K26 W28 (Or.inl (List.mem_of_getElem? (i := 0) rfl))
  have N28 := Fr.snoc X28 N26 g_a1
  have Zs28 : n0 ≤ h28.size := by rw [W28.size]; exact Zs26
  show Go p e below _ (T28.setTop (mkF m 31 #[.val (.ref a1), .val (.int p1), .val (.ref a2), .val vo, .val (.int p4), .val (.int p5), .val (.int p6), .val (.int p7)] []))
  refine g_aloadN X28 hx (hb hby d6_31) 32 rfl (v := (.ref a1)) rfl rfl ?_
  refine g_iload X28 hx (hb hby d6_32) 34 rfl (v := p6) rfl ?_
  obtain ⟨T30, h30, X30, e30, W30, st30⟩ := putF X28 hx hZ hown (host := "") (Or.inl (hw _ (List.mem_of_getElem? (i := 49) rfl))) Via.refl e28 F_maxWidth_a1_29 E_a1_29 (Or.inr ⟨(hw _ (List.mem_of_getElem? (i := 50) rfl)), rfl, hnm⟩) (hw _ (List.mem_of_getElem? (i := 28) rfl)) (ty := .int) (by decide) rfl rfl (g := (mkF m 34 #[.val (.ref a1), .val (.int p1), .val (.ref a2), .val vo, .val (.int p4), .val (.int p5), .val (.int p6), .val (.int p7)] [(.int p6), (.ref a1)])) rfl rfl (hb hby d6_34)
  refine Go.st st30 ?_
  have E_a1_31 : Exa Z h30 a1 "com/example/scrivenmoor/scrivenmoor/ConversionPattern$Conversion" := Exa.wr W30 E_a1_29
  have F_keepLeft_a1_31 : Fld Z h30 a1 "com/example/scrivenmoor/scrivenmoor/ConversionPattern$Conversion" "keepLeft" "Z" u6 := Fld.other W30 F_keepLeft_a1_29 (Or.inr (slot_ne (Or.inr (hw _ (List.mem_of_getElem? (i := 52) rfl))) (Or.inr (hw _ (List.mem_of_getElem? (i := 50) rfl))) (by decide) (t := .boolean) (t' := .int) (by decide) (by decide)))
  have F_position_a1_31 : Fld Z h30 a1 "com/example/scrivenmoor/scrivenmoor/ConversionPattern$Conversion" "position" "I" (.int p1) := Fld.other W30 F_position_a1_29 (Or.inr (slot_ne (Or.inr (hw _ (List.mem_of_getElem? (i := 40) rfl))) (Or.inr (hw _ (List.mem_of_getElem? (i := 50) rfl))) (by decide) (t := .int) (t' := .int) (by decide) (by decide)))
  have F_word_a1_31 : Fld Z h30 a1 "com/example/scrivenmoor/scrivenmoor/ConversionPattern$Conversion" "word" "Ljava/lang/String;" (.ref a2) := Fld.other W30 F_word_a1_29 (Or.inr (slot_ne (Or.inr (hw _ (List.mem_of_getElem? (i := 42) rfl))) (Or.inr (hw _ (List.mem_of_getElem? (i := 50) rfl))) (by decide) (t := (.object "java/lang/String")) (t' := .int) (by decide) (by decide)))
  have F_option_a1_31 : Fld Z h30 a1 "com/example/scrivenmoor/scrivenmoor/ConversionPattern$Conversion" "option" "Ljava/lang/String;" vo := Fld.other W30 F_option_a1_29 (Or.inr (slot_ne (Or.inr (hw _ (List.mem_of_getElem? (i := 44) rfl))) (Or.inr (hw _ (List.mem_of_getElem? (i := 50) rfl))) (by decide) (t := (.object "java/lang/String")) (t' := .int) (by decide) (by decide)))
  have F_minWidth_a1_31 : Fld Z h30 a1 "com/example/scrivenmoor/scrivenmoor/ConversionPattern$Conversion" "minWidth" "I" (.int p4) := Fld.other W30 F_minWidth_a1_29 (Or.inr (slot_ne (Or.inr (hw _ (List.mem_of_getElem? (i := 46) rfl))) (Or.inr (hw _ (List.mem_of_getElem? (i := 50) rfl))) (by decide) (t := .int) (t' := .int) (by decide) (by decide)))
  have F_padRight_a1_31 : Fld Z h30 a1 "com/example/scrivenmoor/scrivenmoor/ConversionPattern$Conversion" "padRight" "Z" (.int p5) := Fld.other W30 F_padRight_a1_28w (Or.inr (slot_ne (Or.inr (hw _ (List.mem_of_getElem? (i := 48) rfl))) (Or.inr (hw _ (List.mem_of_getElem? (i := 50) rfl))) (by decide) (t := .boolean) (t' := .int) (by decide) (by decide)))
  have F_maxWidth_a1_30w : Fld Z h30 a1 "com/example/scrivenmoor/scrivenmoor/ConversionPattern$Conversion" "maxWidth" "I" (.int p6) := Fld.same W30 F_maxWidth_a1_29
  have K30 : Keep h0 h30 [a1] := Keep.wr K28 W30 (Or.inl (List.mem_of_getElem? (i := 0) rfl))
  have N30 := Fr.snoc X30 N28 g_a1
  have Zs30 : n0 ≤ h30.size := by rw [W30.size]; exact Zs28
  show Go p e below _ (T30.setTop (mkF m 37 #[.val (.ref a1), .val (.int p1), .val (.ref a2), .val vo, .val (.int p4), .val (.int p5), .val (.int p6), .val (.int p7)] []))
  refine g_aloadN X30 hx (hb hby d6_37) 38 rfl (v := (.ref a1)) rfl rfl ?_
  refine g_iload X30 hx (hb hby d6_38) 40 rfl (v := p7) rfl ?_
  obtain ⟨T32, h32, X32, e32, W32, st32⟩ := putF X30 hx hZ hown (host := "") (Or.inl (hw _ (List.mem_of_getElem? (i := 51) rfl))) Via.refl e30 F_keepLeft_a1_31 E_a1_31 (Or.inr ⟨(hw _ (List.mem_of_getElem? (i := 52) rfl)), rfl, hnm⟩) (hw _ (List.mem_of_getElem? (i := 28) rfl)) (ty := .boolean) (by decide) (own_nb h7) (own_fb h7) (g := (mkF m 40 #[.val (.ref a1), .val (.int p1), .val (.ref a2), .val vo, .val (.int p4), .val (.int p5), .val (.int p6), .val (.int p7)] [(.int p7), (.ref a1)])) rfl rfl (hb hby d6_40)
  refine Go.st st32 ?_
  have E_a1_33 : Exa Z h32 a1 "com/example/scrivenmoor/scrivenmoor/ConversionPattern$Conversion" := Exa.wr W32 E_a1_31
  have F_position_a1_33 : Fld Z h32 a1 "com/example/scrivenmoor/scrivenmoor/ConversionPattern$Conversion" "position" "I" (.int p1) := Fld.other W32 F_position_a1_31 (Or.inr (slot_ne (Or.inr (hw _ (List.mem_of_getElem? (i := 40) rfl))) (Or.inr (hw _ (List.mem_of_getElem? (i := 52) rfl))) (by decide) (t := .int) (t' := .boolean) (by decide) (by decide)))
  have F_word_a1_33 : Fld Z h32 a1 "com/example/scrivenmoor/scrivenmoor/ConversionPattern$Conversion" "word" "Ljava/lang/String;" (.ref a2) := Fld.other W32 F_word_a1_31 (Or.inr (slot_ne (Or.inr (hw _ (List.mem_of_getElem? (i := 42) rfl))) (Or.inr (hw _ (List.mem_of_getElem? (i := 52) rfl))) (by decide) (t := (.object "java/lang/String")) (t' := .boolean) (by decide) (by decide)))
  have F_option_a1_33 : Fld Z h32 a1 "com/example/scrivenmoor/scrivenmoor/ConversionPattern$Conversion" "option" "Ljava/lang/String;" vo := Fld.other W32 F_option_a1_31 (Or.inr (slot_ne (Or.inr (hw _ (List.mem_of_getElem? (i := 44) rfl))) (Or.inr (hw _ (List.mem_of_getElem? (i := 52) rfl))) (by decide) (t := (.object "java/lang/String")) (t' := .boolean) (by decide) (by decide)))
  have F_minWidth_a1_33 : Fld Z h32 a1 "com/example/scrivenmoor/scrivenmoor/ConversionPattern$Conversion" "minWidth" "I" (.int p4) := Fld.other W32 F_minWidth_a1_31 (Or.inr (slot_ne (Or.inr (hw _ (List.mem_of_getElem? (i := 46) rfl))) (Or.inr (hw _ (List.mem_of_getElem? (i := 52) rfl))) (by decide) (t := .int) (t' := .boolean) (by decide) (by decide)))
  have F_padRight_a1_33 : Fld Z h32 a1 "com/example/scrivenmoor/scrivenmoor/ConversionPattern$Conversion" "padRight" "Z" (.int p5) := Fld.other W32 F_padRight_a1_31 (Or.inr (slot_ne (Or.inr (hw _ (List.mem_of_getElem? (i := 48) rfl))) (Or.inr (hw _ (List.mem_of_getElem? (i := 52) rfl))) (by decide) (t := .boolean) (t' := .boolean) (by decide) (by decide)))
  have F_maxWidth_a1_33 : Fld Z h32 a1 "com/example/scrivenmoor/scrivenmoor/ConversionPattern$Conversion" "maxWidth" "I" (.int p6) := Fld.other W32 F_maxWidth_a1_30w (Or.inr (slot_ne (Or.inr (hw _ (List.mem_of_getElem? (i := 50) rfl))) (Or.inr (hw _ (List.mem_of_getElem? (i := 52) rfl))) (by decide) (t := .int) (t' := .boolean) (by decide) (by decide)))
  have F_keepLeft_a1_32w : Fld Z h32 a1 "com/example/scrivenmoor/scrivenmoor/ConversionPattern$Conversion" "keepLeft" "Z" (.int p7) := Fld.same W32 F_keepLeft_a1_31
  have K32 : Keep h0 h32 [a1] := Keep.wr K30 W32 (Or.inl (List.mem_of_getElem? (i := 0) rfl))
  have N32 := Fr.snoc X32 N30 g_a1
  have Zs32 : n0 ≤ h32.size := by rw [W32.size]; exact Zs30
  show Go p e below _ (T32.setTop (mkF m 43 #[.val (.ref a1), .val (.int p1), .val (.ref a2), .val vo, .val (.int p4), .val (.int p5), .val (.int p6), .val (.int p7)] []))
  refine Go.retV X32 hx hlk Bd.returns (hb hby d6_43) (by decide) (by decide) ?_
  show Q6 Z a1 p1 a2 p4 p5 p6 p7 vo u0 u1 u2 u3 u4 u5 u6 h0 n0 _ T32.heap _
  rw [e32]
  exact ⟨rfl, N32, K32, E_a1_33, F_position_a1_33, F_word_a1_33, F_option_a1_33, F_minWidth_a1_33, F_padRight_a1_33, F_maxWidth_a1_33, F_keepLeft_a1_32w⟩
theorem ef_8 (m : MethodId) (x0 : Addr) : entryFrame m #[(.ref x0)] 1 = mkF m 0 #[.val (.ref x0)] [] := by first | (simp [entryFrame, mkF, argsToLocals, Value.category]; done) | rfl
theorem d8_0 : decode prog_16_method_2_code 0 = .ok (.aload_n 0, 1) := by decide +kernel
theorem d8_1 : decode prog_16_method_2_code 1 = .ok (.getfield 20, 3) := by decide +kernel
theorem d8_4 : decode prog_16_method_2_code 4 = .ok (.ifCond .gt 12, 3) := by decide +kernel
theorem d8_16 : decode prog_16_method_2_code 16 = .ok (.iconst 1, 1) := by decide +kernel
theorem d8_17 : decode prog_16_method_2_code 17 = .ok (.goto 4, 3) := by decide +kernel
theorem d8_21 : decode prog_16_method_2_code 21 = .ok (.ireturn, 1) := by decide +kernel
theorem d8_7 : decode prog_16_method_2_code 7 = .ok (.aload_n 0, 1) := by decide +kernel
theorem d8_8 : decode prog_16_method_2_code 8 = .ok (.getfield 27, 3) := by decide +kernel
theorem d8_11 : decode prog_16_method_2_code 11 = .ok (.ldc 35, 2) := by decide +kernel
theorem d8_13 : decode prog_16_method_2_code 13 = .ok (.if_icmp .ge 7, 3) := by decide +kernel
theorem d8_20 : decode prog_16_method_2_code 20 = .ok (.iconst 0, 1) := by decide +kernel
def Q8 (Z : State) (a1 : Addr) (x : Int32) (y : Int32) (h0 : Heap) (n0 : Nat) (v : Option Value) (h : Heap) (L : List Loc) : Prop := ∃ r : Int32, v = some (.int r) ∧ Fr n0 L ∧ h = h0 ∧ (r = if 0 < x then 1 else if y < 2147483647 then 1 else 0)
set_option maxRecDepth 65536 in
set_option maxHeartbeats 40000000 in
theorem rm8 (l : Launch) (Z : State) (a0 : Array Value) (hw : ∀ d ∈ tables_1, d.before a0 Z = true) (ws : List Jvm.Cond) (a1 : Addr) (x : Int32) (y : Int32) (h0 : Heap) (n0 : Nat) (Z0 : n0 ≤ h0.size) (F_minWidth_a1 : Fld Z h0 a1 "com/example/scrivenmoor/scrivenmoor/ConversionPattern$Conversion" "minWidth" "I" (.int x)) (F_maxWidth_a1 : Fld Z h0 a1 "com/example/scrivenmoor/scrivenmoor/ConversionPattern$Conversion" "maxWidth" "I" (.int y)) :
    MetFree l (⟨"com/example/scrivenmoor/scrivenmoor/ConversionPattern$Conversion", "modified", "()Z"⟩ : MethodName) (head1 (Jvm.Cond.code (⟨"com/example/scrivenmoor/scrivenmoor/ConversionPattern$Conversion", "modified", "()Z"⟩ : MethodName) prog_16_method_2_code 1 (some .boolean) :: ws) ({ frames := 0, cells := 0, slots := 0, locals := 0 } : Room)) (fun a U => a = #[(.ref a1)] ∧ Z.Warmed39 U.vm ∧ U.heap = h0) (fun _ _ _ _ _ => True) (fun _ U o U' => ∃ v L, o = .returned v ∧ Q8 Z a1 x y h0 n0 v U'.heap L ∧ FrameEnd U o U' L ({ frames := 0, cells := 0, slots := 0, locals := 0 } : Room).cells ({ frames := 0, cells := 0, slots := 0, locals := 0 } : Room).slots) := by
  refine MetFree.of_bodySF (plainFor_of_name own_pn_com_example_scrivenmoor_scrivenmoor_ConversionPattern_Conversion) hisR ?_
  intro p e s m args below meth c s₁ Bd hml0 hP hK
  obtain ⟨rfl, hZ, hh⟩ := hP
  have hx := Bd.exec
  have hby := Bd.bytes
  have hlk := Bd.notSynchronized
  have hml : c.maxLocals = 1 := hml0
  have hown : s.vm.findClass "com/example/scrivenmoor/scrivenmoor/ConversionPattern$Conversion" = some m.cls := findClass_of_methodNamed Bd.named
  have hnm := (name_of_methodNamed Bd.named Bd.method).1
  have X0 : Stand p l e ({ frames := 0, cells := 0, slots := 0, locals := 0 } : Room) s m #[(.ref a1)] below meth c s₁ [] 0 0 := Stand.of_body Bd
  have e0 : s₁.heap = h0 := by rw [← hh, Bd.state]; rfl
  have N0 := Fr.nil n0
  show Go p e below (KQ s below (Q8 Z a1 x y h0 n0) ({ frames := 0, cells := 0, slots := 0, locals := 0 } : Room).cells ({ frames := 0, cells := 0, slots := 0, locals := 0 } : Room).slots) _
  refine Go.body (T := s₁) (σ := s₁) (g' := (mkF m 0 #[.val (.ref a1)] [])) (ef_8 m a1) ?_
  refine g_aloadN X0 hx (hb hby d8_0) 1 rfl (v := (.ref a1)) rfl rfl ?_
  obtain ⟨T34, X34, e34, st34⟩ := getF X0 hx hZ hown (host := "") (Or.inl (hw _ (List.mem_of_getElem? (i := 45) rfl))) Via.refl e0 F_minWidth_a1 (g := (mkF m 1 #[.val (.ref a1)] [(.ref a1)])) rfl rfl (hb hby d8_1)
  refine Go.st st34 ?_
  show Go p e below _ (T34.setTop (mkF m 4 #[.val (.ref a1)] [(.int x)]))
  refine g_if_gt X34 hx (hb hby d8_4) 16 7 (by decide) (by decide) rfl (fun hc4 => ?_) (fun hc4 => ?_)
  · refine g_iconst X34 hx (hb hby d8_16) 17 rfl (1 : Int32) rfl ?_
    refine g_goto X34 hx (hb hby d8_17) 21 (by decide) (by decide) ?_
    refine Go.retN X34 hx hlk (t := .boolean) Bd.returns (by simp) (hb hby d8_21) (by decide) (by decide) ?_
    show Q8 Z a1 x y h0 n0 _ T34.heap _
    rw [e34]
    exact ⟨(1 : Int32), rfl, N0, rfl, (by simp [hc4])⟩
  · refine g_aloadN X34 hx (hb hby d8_7) 8 rfl (v := (.ref a1)) rfl rfl ?_
    obtain ⟨T35, X35, e35, st35⟩ := getF X34 hx hZ hown (host := "") (Or.inl (hw _ (List.mem_of_getElem? (i := 49) rfl))) Via.refl e34 F_maxWidth_a1 (g := (mkF m 8 #[.val (.ref a1)] [(.ref a1)])) rfl rfl (hb hby d8_8)
    refine Go.st st35 ?_
    show Go p e below _ (T35.setTop (mkF m 11 #[.val (.ref a1)] [(.int y)]))
    refine Go.st (X35.ldcInt hx hown (mvT hZ (hw _ (List.mem_of_getElem? (i := 58) rfl))) (g := (mkF m 11 #[.val (.ref a1)] [(.int y)])) rfl (hb hby d8_11)) ?_
    show Go p e below _ (T35.setTop (mkF m 13 #[.val (.ref a1)] [(.int (2147483647 : Int32)), (.int y)]))
    refine g_icmp_ge X35 hx (hb hby d8_13) 20 16 (by decide) (by decide) rfl (fun hc13 => ?_) (fun hc13 => ?_)
    · refine g_iconst X35 hx (hb hby d8_20) 21 rfl (0 : Int32) rfl ?_
      refine Go.retN X35 hx hlk (t := .boolean) Bd.returns (by simp) (hb hby d8_21) (by decide) (by decide) ?_
      show Q8 Z a1 x y h0 n0 _ T35.heap _
      rw [e35]
      exact ⟨(0 : Int32), rfl, N0, rfl, (by simp [hc4, hc13])⟩
    · refine g_iconst X35 hx (hb hby d8_16) 17 rfl (1 : Int32) rfl ?_
      refine g_goto X35 hx (hb hby d8_17) 21 (by decide) (by decide) ?_
      refine Go.retN X35 hx hlk (t := .boolean) Bd.returns (by simp) (hb hby d8_21) (by decide) (by decide) ?_
      show Q8 Z a1 x y h0 n0 _ T35.heap _
      rw [e35]
      exact ⟨(1 : Int32), rfl, N0, rfl, (by simp [hc4, hc13])⟩
theorem own_pn_com_example_scrivenmoor_scrivenmoor_ConversionModifiedPinLaw : plainName "com/example/scrivenmoor/scrivenmoor/ConversionModifiedPinLaw" = true := by first | (simp [plainName, overriddenIn]; done) | decide +kernel
theorem ef_0 (m : MethodId) (x0 : Int32) (x1 : Int32) (x2 : Int32) (x3 : Int32) (x4 : Int32) : entryFrame m #[(.int x0), (.int x1), (.int x2), (.int x3), (.int x4)] maxLocals = mkF m 0 #[.val (.int x0), .val (.int x1), .val (.int x2), .val (.int x3), .val (.int x4), .unset, .unset, .unset, .unset, .unset, .unset, .unset, .unset, .unset] [] := by first | (simp [entryFrame, mkF, argsToLocals, Value.category, maxLocals]; done) | rfl
theorem own_pd4 : parseMethodDescriptor "(C)Ljava/lang/String;" = some ⟨[.char], some (.object "java/lang/String")⟩ := by decide +kernel
theorem own_pd5 : parseMethodDescriptor "(ILjava/lang/String;Ljava/lang/String;IZIZ)V" = some ⟨[.int, (.object "java/lang/String"), (.object "java/lang/String"), .int, .boolean, .int, .boolean], none⟩ := by decide +kernel
theorem own_pd6 : parseMethodDescriptor "()Z" = some ⟨[], some .boolean⟩ := by decide +kernel
def Q0 (Z : State) (p1 : Int32) (p2 : Int32) (p3 : Int32) (p4 : Int32) (p5 : Int32) (s_COMPACT_STRINGS : Int32) (s_SIOOBE_FORMATTER : Value) (h0 : Heap) (n0 : Nat) (v : Option Value) (h : Heap) (L : List Loc) : Prop := v = some (.int (1 : Int32)) ∧ Fr n0 L
set_option maxRecDepth 65536 in
set_option maxHeartbeats 40000000 in
theorem rm0 (l : Launch) (Z : State) (a0 : Array Value) (hw : ∀ d ∈ tables_1, d.before a0 Z = true) (ws : List Jvm.Cond) (p1 : Int32) (p2 : Int32) (p3 : Int32) (p4 : Int32) (p5 : Int32) (s_COMPACT_STRINGS : Int32) (s_SIOOBE_FORMATTER : Value) (h0 : Heap) (n0 : Nat) (Z0 : n0 ≤ h0.size) (S_COMPACT_STRINGS : Sta Z h0 "java/lang/String" "COMPACT_STRINGS" "Z" (.int s_COMPACT_STRINGS)) (S_SIOOBE_FORMATTER : Sta Z h0 "jdk/internal/util/Preconditions" "SIOOBE_FORMATTER" "Ljava/util/function/BiFunction;" s_SIOOBE_FORMATTER) (hn0 : h0.size = n0) (hz_s_COMPACT_STRINGS : ¬ s_COMPACT_STRINGS = 0) (hR_s_SIOOBE_FORMATTER : s_SIOOBE_FORMATTER.isRef = true) :
    MetFree l x (head1 (Jvm.Cond.code x code maxLocals ret :: ws) room_1) (fun a U => a = #[(.int p1), (.int p2), (.int p3), (.int p4), (.int p5)] ∧ Z.Warmed39 U.vm ∧ U.heap = h0) (fun _ _ _ _ _ => True) (fun _ U o U' => ∃ v L, o = .returned v ∧ Q0 Z p1 p2 p3 p4 p5 s_COMPACT_STRINGS s_SIOOBE_FORMATTER h0 n0 v U'.heap L ∧ FrameEnd U o U' L 24 128) := by
  refine MetFree.of_bodySF (plainFor_of_name own_pn_com_example_scrivenmoor_scrivenmoor_ConversionModifiedPinLaw) hisR ?_
  intro p e s m args below meth c s₁ Bd hml0 hP hK
  obtain ⟨rfl, hZ, hh⟩ := hP
  have hx := Bd.exec
  have hby := Bd.bytes
  have hlk := Bd.notSynchronized
  have hml : c.maxLocals = 14 := hml0
  have hown : s.vm.findClass "com/example/scrivenmoor/scrivenmoor/ConversionModifiedPinLaw" = some m.cls := findClass_of_methodNamed Bd.named
  have hnm := (name_of_methodNamed Bd.named Bd.method).1
  have X0 : Stand p l e room_1 s m #[(.int p1), (.int p2), (.int p3), (.int p4), (.int p5)] below meth c s₁ [] 0 0 := Stand.of_body Bd
  have e0 : s₁.heap = h0 := by rw [← hh, Bd.state]; rfl
  have N0 := Fr.nil n0
  have K0 : Keep h0 h0 [] := Keep.refl _ _
  show Go p e below (KQ s below (Q0 Z p1 p2 p3 p4 p5 s_COMPACT_STRINGS s_SIOOBE_FORMATTER h0 n0) 24 128) _
  refine Go.body (T := s₁) (σ := s₁) (g' := (mkF m 0 #[.val (.int p1), .val (.int p2), .val (.int p3), .val (.int p4), .val (.int p5), .unset, .unset, .unset, .unset, .unset, .unset, .unset, .unset, .unset] [])) (ef_0 m p1 p2 p3 p4 p5) ?_
  refine g_iloadN X0 hx (hb hby at_0) 1 rfl (v := p2) rfl ?_
  refine Go.st (X0.ldcInt hx hown (mvT hZ (hw _ (List.mem_of_getElem? (i := 0) rfl))) (g := (mkF m 1 #[.val (.int p1), .val (.int p2), .val (.int p3), .val (.int p4), .val (.int p5), .unset, .unset, .unset, .unset, .unset, .unset, .unset, .unset, .unset] [(.int p2)])) rfl (hb hby at_1)) ?_
  show Go p e below _ (s₁.setTop (mkF m 3 #[.val (.int p1), .val (.int p2), .val (.int p3), .val (.int p4), .val (.int p5), .unset, .unset, .unset, .unset, .unset, .unset, .unset, .unset, .unset] [(.int (2147483647 : Int32)), (.int p2)]))
  obtain ⟨mw, e_mw⟩ : ∃ z, (p2 &&& (2147483647 : Int32)) = z := ⟨_, rfl⟩
  refine g_iand X0 hx (hb hby at_3) 4 rfl mw e_mw ?_
  refine g_istore X0 hx (hb hby at_4) 6 rfl #[.val (.int p1), .val (.int p2), .val (.int p3), .val (.int p4), .val (.int p5), .val (.int mw), .unset, .unset, .unset, .unset, .unset, .unset, .unset, .unset] rfl ?_
  refine g_iloadN X0 hx (hb hby at_6) 7 rfl (v := p3) rfl ?_
  refine Go.st (X0.ldcInt hx hown (mvT hZ (hw _ (List.mem_of_getElem? (i := 0) rfl))) (g := (mkF m 7 #[.val (.int p1), .val (.int p2), .val (.int p3), .val (.int p4), .val (.int p5), .val (.int mw), .unset, .unset, .unset, .unset, .unset, .unset, .unset, .unset] [(.int p3)])) rfl (hb hby at_7)) ?_
  show Go p e below _ (s₁.setTop (mkF m 9 #[.val (.int p1), .val (.int p2), .val (.int p3), .val (.int p4), .val (.int p5), .val (.int mw), .unset, .unset, .unset, .unset, .unset, .unset, .unset, .unset] [(.int (2147483647 : Int32)), (.int p3)]))
  obtain ⟨xw, e_xw⟩ : ∃ z, (p3 &&& (2147483647 : Int32)) = z := ⟨_, rfl⟩
  refine g_iand X0 hx (hb hby at_9) 10 rfl xw e_xw ?_
  refine g_istore X0 hx (hb hby at_10) 12 rfl #[.val (.int p1), .val (.int p2), .val (.int p3), .val (.int p4), .val (.int p5), .val (.int mw), .val (.int xw), .unset, .unset, .unset, .unset, .unset, .unset, .unset] rfl ?_
  have hmw : ¬ mw < 0 := e_mw ▸ own_pos p2
  have tl25 : ∀ (zp : Int32) (_ : zp = 0 ∨ zp = 1), Go p e below (KQ s below (Q0 Z p1 p2 p3 p4 p5 s_COMPACT_STRINGS s_SIOOBE_FORMATTER h0 n0) 24 128) (s₁.setTop (mkF m 25 #[.val (.int p1), .val (.int p2), .val (.int p3), .val (.int p4), .val (.int p5), .val (.int mw), .val (.int xw), .val (.int zp), .unset, .unset, .unset, .unset, .unset, .unset] [])) := by
    intro zp h_zp
    have tl38 : ∀ (zk : Int32) (_ : zk = 0 ∨ zk = 1), Go p e below (KQ s below (Q0 Z p1 p2 p3 p4 p5 s_COMPACT_STRINGS s_SIOOBE_FORMATTER h0 n0) 24 128) (s₁.setTop (mkF m 38 #[.val (.int p1), .val (.int p2), .val (.int p3), .val (.int p4), .val (.int p5), .val (.int mw), .val (.int xw), .val (.int zp), .val (.int zk), .unset, .unset, .unset, .unset, .unset] [])) := by
      intro zk h_zk
      have tl51 : ∀ (zn : Int32) (_ : zn = 0 ∨ zn = 1), Go p e below (KQ s below (Q0 Z p1 p2 p3 p4 p5 s_COMPACT_STRINGS s_SIOOBE_FORMATTER h0 n0) 24 128) (s₁.setTop (mkF m 51 #[.val (.int p1), .val (.int p2), .val (.int p3), .val (.int p4), .val (.int p5), .val (.int mw), .val (.int xw), .val (.int zp), .val (.int zk), .val (.int zn), .unset, .unset, .unset, .unset] [])) := by
        intro zn h_zn
        refine g_iload X0 hx (hb hby at_51) 53 rfl (v := p5) rfl ?_
        refine g_sipush X0 hx (hb hby at_53) 56 rfl (255 : Int32) rfl ?_
        refine g_iand X0 hx (hb hby at_56) 57 rfl (p5 &&& (255 : Int32)) rfl ?_
        refine g_i2c X0 hx (hb hby at_57) 58 rfl (p5 &&& (255 : Int32)).toUInt32.toUInt16.toUInt32.toInt32 rfl ?_
        obtain ⟨_, _, ⟨T36, L36, k36, n36⟩, -, X36, ⟨Lc36, hQ36, l36, y36, z36⟩, st36⟩ := Jvm.LawKit.callS X0 hx (y := (⟨"java/lang/String", "valueOf", "(C)Ljava/lang/String;"⟩ : MethodName)) hown (mvT hZ (hw _ (List.mem_of_getElem? (i := 1) rfl))) (mvT hZ (hw _ (List.mem_of_getElem? (i := 2) rfl))) (mvT hZ (hw _ (List.mem_of_getElem? (i := 3) rfl))) (mvT hZ (hw _ (List.mem_of_getElem? (i := 4) rfl))) (by decide) (backOf (W := 0) (rm1 l Z a0 hw [] ((p5 &&& (255 : Int32)).toUInt32.toUInt16.toUInt32.toInt32) s_COMPACT_STRINGS h0 n0 Z0 S_COMPACT_STRINGS hz_s_COMPACT_STRINGS (own_ch p5)) hZ (hw _ (List.mem_of_getElem? (i := 4) rfl)) (hw _ (List.mem_of_getElem? (i := 3) rfl)) (by decide) (by decide)) (g := (mkF m 58 #[.val (.int p1), .val (.int p2), .val (.int p3), .val (.int p4), .val (.int p5), .val (.int mw), .val (.int xw), .val (.int zp), .val (.int zk), .val (.int zn), .unset, .unset, .unset, .unset] [(.int (p5 &&& (255 : Int32)).toUInt32.toUInt16.toUInt32.toInt32)])) rfl (by rw [hml]; rfl) (argsL := [(.int (p5 &&& (255 : Int32)).toUInt32.toUInt16.toUInt32.toInt32)]) (rest := []) (lenOf own_pd4 rfl) rfl (by show 2 * 0 + _ ≤ _; exact Nat.le_of_eq rfl) (hb hby at_58) (fun _ _ => ⟨rfl, e0, (by decide : 0 + 2 ≤ _), (by decide : 0 + 5 ≤ _)⟩)
        dsimp only [Pt.U, Pt.locs, Pt.cells, Pt.slots] at X36 l36 y36 z36 st36 hQ36
        subst l36 y36 z36
        obtain ⟨b_36, vb_36, kb_36, rfl, Nq36, Kq36, f36_0, f36_1, f36_2, f36_3, f36_4, f36_5, f36_6⟩ := hQ36
        refine Go.st st36 ?_
        have N36 := Fr.app N0 Nq36
        have g_b_36 : n0 ≤ b_36 := Nat.le_trans Z0 f36_0
        have mh_b_36 : h0.size ≤ b_36 := Nat.le_trans K0.1 f36_0
        have g_vb_36 : n0 ≤ vb_36 := Nat.le_trans Z0 f36_1
        have mh_vb_36 : h0.size ≤ vb_36 := Nat.le_trans K0.1 f36_1
        have K36 : Keep h0 T36.heap [] := Keep.trans K0 Kq36 all0
        have Zs36 : n0 ≤ T36.heap.size := Nat.le_trans Z0 Kq36.1
        show Go p e below _ (T36.setTop (mkF m 61 #[.val (.int p1), .val (.int p2), .val (.int p3), .val (.int p4), .val (.int p5), .val (.int mw), .val (.int xw), .val (.int zp), .val (.int zk), .val (.int zn), .unset, .unset, .unset, .unset] [(.ref b_36)]))
        refine g_astore X36 hx (hb hby at_61) 63 rfl rfl #[.val (.int p1), .val (.int p2), .val (.int p3), .val (.int p4), .val (.int p5), .val (.int mw), .val (.int xw), .val (.int zp), .val (.int zk), .val (.int zn), .val (.ref b_36), .unset, .unset, .unset] rfl ?_
        refine g_iload X36 hx (hb hby at_63) 65 rfl (v := zn) rfl ?_
        refine g_if_eq X36 hx (hb hby at_65) 72 68 (by decide) (by decide) rfl (fun hc65 => ?_) (fun hc65 => ?_)
        · refine g_iload X36 hx (hb hby at_72) 74 rfl (v := p5) rfl ?_
          refine g_bipush X36 hx (hb hby at_74) 76 rfl (8 : Int32) rfl ?_
          refine g_iushr X36 hx (hb hby at_76) 77 rfl (XT.ushr p5 (8 : Int32)) rfl ?_
          refine g_sipush X36 hx (hb hby at_77) 80 rfl (255 : Int32) rfl ?_
          refine g_iand X36 hx (hb hby at_80) 81 rfl ((XT.ushr p5 (8 : Int32)) &&& (255 : Int32)) rfl ?_
          refine g_i2c X36 hx (hb hby at_81) 82 rfl ((XT.ushr p5 (8 : Int32)) &&& (255 : Int32)).toUInt32.toUInt16.toUInt32.toInt32 rfl ?_
          obtain ⟨_, _, ⟨T38, L38, k38, n38⟩, -, X38, ⟨Lc38, hQ38, l38, y38, z38⟩, st38⟩ := Jvm.LawKit.callS X36 hx (y := (⟨"java/lang/String", "valueOf", "(C)Ljava/lang/String;"⟩ : MethodName)) hown (mvT hZ (hw _ (List.mem_of_getElem? (i := 1) rfl))) (mvT hZ (hw _ (List.mem_of_getElem? (i := 2) rfl))) (mvT hZ (hw _ (List.mem_of_getElem? (i := 3) rfl))) (mvT hZ (hw _ (List.mem_of_getElem? (i := 4) rfl))) (by decide) (backOf (W := 0) (rm1 l Z a0 hw [] (((XT.ushr p5 (8 : Int32)) &&& (255 : Int32)).toUInt32.toUInt16.toUInt32.toInt32) s_COMPACT_STRINGS T36.heap n0 Zs36 (own_Sta_keep S_COMPACT_STRINGS K36 all0) hz_s_COMPACT_STRINGS (own_ch _)) hZ (hw _ (List.mem_of_getElem? (i := 4) rfl)) (hw _ (List.mem_of_getElem? (i := 3) rfl)) (by decide) (by decide)) (g := (mkF m 82 #[.val (.int p1), .val (.int p2), .val (.int p3), .val (.int p4), .val (.int p5), .val (.int mw), .val (.int xw), .val (.int zp), .val (.int zk), .val (.int zn), .val (.ref b_36), .unset, .unset, .unset] [(.int ((XT.ushr p5 (8 : Int32)) &&& (255 : Int32)).toUInt32.toUInt16.toUInt32.toInt32)])) rfl (by rw [hml]; rfl) (argsL := [(.int ((XT.ushr p5 (8 : Int32)) &&& (255 : Int32)).toUInt32.toUInt16.toUInt32.toInt32)]) (rest := []) (lenOf own_pd4 rfl) rfl (by show 2 * 0 + _ ≤ _; exact Nat.le_of_eq rfl) (hb hby at_82) (fun _ _ => ⟨rfl, rfl, (by decide : 2 + 2 ≤ _), (by decide : 5 + 5 ≤ _)⟩)
          dsimp only [Pt.U, Pt.locs, Pt.cells, Pt.slots] at X38 l38 y38 z38 st38 hQ38
          subst l38 y38 z38
          obtain ⟨b_38, vb_38, kb_38, rfl, Nq38, Kq38, f38_0, f38_1, f38_2, f38_3, f38_4, f38_5, f38_6⟩ := hQ38
          refine Go.st st38 ?_
          have N38 := Fr.app N36 Nq38
          have E_b_36_39 : Exa Z T38.heap b_36 "java/lang/String" := Exa.keep f36_3 Kq38
          have F_value_b_36_39 : Fld Z T38.heap b_36 "java/lang/String" "value" "[B" (.ref vb_36) := Fld.keep f36_4 Kq38 nin0
          have F_coder_b_36_39 : Fld Z T38.heap b_36 "java/lang/String" "coder" "B" (.int (0 : Int32)) := Fld.keep f36_5 Kq38 nin0
          have A_vb_36_39 : Arv Z T38.heap vb_36 kb_36 .byte (1 : Int32) ([(.int ((p5 &&& (255 : Int32)).toUInt32.toUInt16.toUInt32.toInt32).toInt8.toInt32)]) (.int (0 : Int32)) := Arv.keep f36_6 Kq38 nin0
          have ne_b_36_b_38 : b_36 ≠ b_38 := Nat.ne_of_lt (Nat.lt_of_lt_of_le f36_3.lt f38_0)
          have ne_vb_36_b_38 : vb_36 ≠ b_38 := Nat.ne_of_lt (Nat.lt_of_lt_of_le f36_6.lt f38_0)
          have g_b_38 : n0 ≤ b_38 := Nat.le_trans Zs36 f38_0
          have mh_b_38 : h0.size ≤ b_38 := Nat.le_trans K36.1 f38_0
          have ne_b_36_vb_38 : b_36 ≠ vb_38 := Nat.ne_of_lt (Nat.lt_of_lt_of_le f36_3.lt f38_1)
          have ne_vb_36_vb_38 : vb_36 ≠ vb_38 := Nat.ne_of_lt (Nat.lt_of_lt_of_le f36_6.lt f38_1)
          have g_vb_38 : n0 ≤ vb_38 := Nat.le_trans Zs36 f38_1
          have mh_vb_38 : h0.size ≤ vb_38 := Nat.le_trans K36.1 f38_1
          have K38 : Keep h0 T38.heap [] := Keep.trans K36 Kq38 all0
          have Zs38 : n0 ≤ T38.heap.size := Nat.le_trans Zs36 Kq38.1
          show Go p e below _ (T38.setTop (mkF m 85 #[.val (.int p1), .val (.int p2), .val (.int p3), .val (.int p4), .val (.int p5), .val (.int mw), .val (.int xw), .val (.int zp), .val (.int zk), .val (.int zn), .val (.ref b_36), .unset, .unset, .unset] [(.ref b_38)]))
          refine g_astore X38 hx (hb hby at_85) 87 rfl rfl #[.val (.int p1), .val (.int p2), .val (.int p3), .val (.int p4), .val (.int p5), .val (.int mw), .val (.int xw), .val (.int zp), .val (.int zk), .val (.int zn), .val (.ref b_36), .val (.ref b_38), .unset, .unset] rfl ?_
          obtain ⟨T40, h40, X40, e40, E40, A40, D40, -, st40⟩ := newO X38 hx hZ hown (hw _ (List.mem_of_getElem? (i := 27) rfl)) (hw _ (List.mem_of_getElem? (i := 28) rfl)) (hw _ (List.mem_of_getElem? (i := 29) rfl)) rfl (g := (mkF m 87 #[.val (.int p1), .val (.int p2), .val (.int p3), .val (.int p4), .val (.int p5), .val (.int mw), .val (.int xw), .val (.int zp), .val (.int zk), .val (.int zn), .val (.ref b_36), .val (.ref b_38), .unset, .unset] [])) rfl (hb hby at_87) (by decide) (by decide)
          refine Go.st st40 ?_
          obtain ⟨oc, q40⟩ : ∃ z, z = T38.heap.size := ⟨_, rfl⟩
          rw [← q40] at A40 D40 ⊢
          have ne_b_36_oc : b_36 ≠ oc := Nat.ne_of_lt (Nat.lt_of_lt_of_eq E_b_36_39.lt q40.symm)
          have ne_vb_36_oc : vb_36 ≠ oc := Nat.ne_of_lt (Nat.lt_of_lt_of_eq A_vb_36_39.lt q40.symm)
          have ne_b_38_oc : b_38 ≠ oc := Nat.ne_of_lt (Nat.lt_of_lt_of_eq f38_3.lt q40.symm)
          have ne_vb_38_oc : vb_38 ≠ oc := Nat.ne_of_lt (Nat.lt_of_lt_of_eq f38_6.lt q40.symm)
          have g_oc : n0 ≤ oc := Nat.le_trans Zs38 (Nat.le_of_eq q40.symm)
          have mh_oc : h0.size ≤ oc := Nat.le_trans K38.1 (Nat.le_of_eq q40.symm)
          have E_b_36_41 : Exa Z h40 b_36 "java/lang/String" := Exa.ext E40 E_b_36_39
          have F_value_b_36_41 : Fld Z h40 b_36 "java/lang/String" "value" "[B" (.ref vb_36) := Fld.ext E40 F_value_b_36_39
          have F_coder_b_36_41 : Fld Z h40 b_36 "java/lang/String" "coder" "B" (.int (0 : Int32)) := Fld.ext E40 F_coder_b_36_39
          have A_vb_36_41 : Arv Z h40 vb_36 kb_36 .byte (1 : Int32) ([(.int ((p5 &&& (255 : Int32)).toUInt32.toUInt16.toUInt32.toInt32).toInt8.toInt32)]) (.int (0 : Int32)) := Arv.ext A_vb_36_39 E40
          have E_b_38_41 : Exa Z h40 b_38 "java/lang/String" := Exa.ext E40 f38_3
          have F_value_b_38_41 : Fld Z h40 b_38 "java/lang/String" "value" "[B" (.ref vb_38) := Fld.ext E40 f38_4
          have F_coder_b_38_41 : Fld Z h40 b_38 "java/lang/String" "coder" "B" (.int (0 : Int32)) := Fld.ext E40 f38_5
          have A_vb_38_41 : Arv Z h40 vb_38 kb_38 .byte (1 : Int32) ([(.int (((XT.ushr p5 (8 : Int32)) &&& (255 : Int32)).toUInt32.toUInt16.toUInt32.toInt32).toInt8.toInt32)]) (.int (0 : Int32)) := Arv.ext f38_6 E40
          have F_position_40 : Fld Z h40 oc "com/example/scrivenmoor/scrivenmoor/ConversionPattern$Conversion" "position" "I" (.int (0 : Int32)) := D40 (Or.inr (hw _ (List.mem_of_getElem? (i := 40) rfl))) (ty := .int) (by decide)
          have F_word_40 : Fld Z h40 oc "com/example/scrivenmoor/scrivenmoor/ConversionPattern$Conversion" "word" "Ljava/lang/String;" .null := D40 (Or.inr (hw _ (List.mem_of_getElem? (i := 42) rfl))) (ty := (.object "java/lang/String")) (by decide)
          have F_option_40 : Fld Z h40 oc "com/example/scrivenmoor/scrivenmoor/ConversionPattern$Conversion" "option" "Ljava/lang/String;" .null := D40 (Or.inr (hw _ (List.mem_of_getElem? (i := 44) rfl))) (ty := (.object "java/lang/String")) (by decide)
          have F_minWidth_40 : Fld Z h40 oc "com/example/scrivenmoor/scrivenmoor/ConversionPattern$Conversion" "minWidth" "I" (.int (0 : Int32)) := D40 (Or.inr (hw _ (List.mem_of_getElem? (i := 46) rfl))) (ty := .int) (by decide)
          have F_padRight_40 : Fld Z h40 oc "com/example/scrivenmoor/scrivenmoor/ConversionPattern$Conversion" "padRight" "Z" (.int (0 : Int32)) := D40 (Or.inr (hw _ (List.mem_of_getElem? (i := 48) rfl))) (ty := .boolean) (by decide)
          have F_maxWidth_40 : Fld Z h40 oc "com/example/scrivenmoor/scrivenmoor/ConversionPattern$Conversion" "maxWidth" "I" (.int (0 : Int32)) := D40 (Or.inr (hw _ (List.mem_of_getElem? (i := 50) rfl))) (ty := .int) (by decide)
          have F_keepLeft_40 : Fld Z h40 oc "com/example/scrivenmoor/scrivenmoor/ConversionPattern$Conversion" "keepLeft" "Z" (.int (0 : Int32)) := D40 (Or.inr (hw _ (List.mem_of_getElem? (i := 52) rfl))) (ty := .boolean) (by decide)
          have K40 : Keep h0 h40 [] := Keep.ext K38 E40
          have Zs40 : n0 ≤ h40.size := Nat.le_trans Zs38 E40.1
          show Go p e below _ (T40.setTop (mkF m 90 #[.val (.int p1), .val (.int p2), .val (.int p3), .val (.int p4), .val (.int p5), .val (.int mw), .val (.int xw), .val (.int zp), .val (.int zk), .val (.int zn), .val (.ref b_36), .val (.ref b_38), .unset, .unset] [(.ref oc)]))
          refine g_dup X40 hx (hb hby at_90) 91 rfl rfl ?_
          refine g_iloadN X40 hx (hb hby at_91) 92 rfl (v := p1) rfl ?_
          refine g_aload X40 hx (hb hby at_92) 94 rfl (v := (.ref b_36)) rfl rfl ?_
          refine g_aload X40 hx (hb hby at_94) 96 rfl (v := (.ref b_38)) rfl rfl ?_
          refine g_iload X40 hx (hb hby at_96) 98 rfl (v := mw) rfl ?_
          refine g_iload X40 hx (hb hby at_98) 100 rfl (v := zp) rfl ?_
          refine g_iload X40 hx (hb hby at_100) 102 rfl (v := xw) rfl ?_
          refine g_iload X40 hx (hb hby at_102) 104 rfl (v := zk) rfl ?_
          obtain ⟨_, _, ⟨T42, L42, k42, n42⟩, -, X42, ⟨Lc42, hQ42, l42, y42, z42⟩, st42⟩ := X40.specialBack hx (y := (⟨"com/example/scrivenmoor/scrivenmoor/ConversionPattern$Conversion", "<init>", "(ILjava/lang/String;Ljava/lang/String;IZIZ)V"⟩ : MethodName)) rfl hown (mvT hZ (hw _ (List.mem_of_getElem? (i := 30) rfl))) (mvT hZ (hw _ (List.mem_of_getElem? (i := 31) rfl))) (mvT hZ (hw _ (List.mem_of_getElem? (i := 32) rfl))) (by decide) (backOf (W := 1) (rm6 l Z a0 hw [] oc p1 b_36 mw zp xw zk (.ref b_38) (.int (0 : Int32)) .null .null (.int (0 : Int32)) (.int (0 : Int32)) (.int (0 : Int32)) (.int (0 : Int32)) h40 n0 Zs40 A40 g_oc F_position_40 F_word_40 F_option_40 F_minWidth_40 F_padRight_40 F_maxWidth_40 F_keepLeft_40 rfl h_zp h_zk) hZ (hw _ (List.mem_of_getElem? (i := 32) rfl)) (hw _ (List.mem_of_getElem? (i := 29) rfl)) (by decide) (by decide)) (g := (mkF m 104 #[.val (.int p1), .val (.int p2), .val (.int p3), .val (.int p4), .val (.int p5), .val (.int mw), .val (.int xw), .val (.int zp), .val (.int zk), .val (.int zn), .val (.ref b_36), .val (.ref b_38), .unset, .unset] [(.int zk), (.int xw), (.int zp), (.int mw), (.ref b_38), (.ref b_36), (.int p1), (.ref oc), (.ref oc)])) rfl (by rw [hml]; rfl) (Steps.refl _) (a := oc) (argsL := [(.int p1), (.ref b_36), (.ref b_38), (.int mw), (.int zp), (.int xw), (.int zk)]) (rest := [(.ref oc)]) (lenOf own_pd5 rfl) rfl (by show 2 * 0 + _ ≤ _; exact Nat.le_of_eq rfl) (hb hby at_104) (fun _ _ => ⟨rfl, e40, (by decide : 5 + 0 ≤ _), (by decide : 17 + 0 ≤ _)⟩)
          dsimp only [Pt.U, Pt.locs, Pt.cells, Pt.slots] at X42 l42 y42 z42 st42 hQ42
          subst l42 y42 z42
          obtain ⟨rfl, Nq42, Kq42, f42_0, f42_1, f42_2, f42_3, f42_4, f42_5, f42_6, f42_7⟩ := hQ42
          refine Go.tr st42 ?_
          have N42 := Fr.app N38 Nq42
          have E_b_36_43 : Exa Z T42.heap b_36 "java/lang/String" := Exa.keep E_b_36_41 Kq42
          have F_value_b_36_43 : Fld Z T42.heap b_36 "java/lang/String" "value" "[B" (.ref vb_36) := Fld.keep F_value_b_36_41 Kq42 (ninS ne_b_36_oc nin0)
          have F_coder_b_36_43 : Fld Z T42.heap b_36 "java/lang/String" "coder" "B" (.int (0 : Int32)) := Fld.keep F_coder_b_36_41 Kq42 (ninS ne_b_36_oc nin0)
          have A_vb_36_43 : Arv Z T42.heap vb_36 kb_36 .byte (1 : Int32) ([(.int ((p5 &&& (255 : Int32)).toUInt32.toUInt16.toUInt32.toInt32).toInt8.toInt32)]) (.int (0 : Int32)) := Arv.keep A_vb_36_41 Kq42 (ninS ne_vb_36_oc nin0)
          have E_b_38_43 : Exa Z T42.heap b_38 "java/lang/String" := Exa.keep E_b_38_41 Kq42
          have F_value_b_38_43 : Fld Z T42.heap b_38 "java/lang/String" "value" "[B" (.ref vb_38) := Fld.keep F_value_b_38_41 Kq42 (ninS ne_b_38_oc nin0)
          have F_coder_b_38_43 : Fld Z T42.heap b_38 "java/lang/String" "coder" "B" (.int (0 : Int32)) := Fld.keep F_coder_b_38_41 Kq42 (ninS ne_b_38_oc nin0)
          have A_vb_38_43 : Arv Z T42.heap vb_38 kb_38 .byte (1 : Int32) ([(.int (((XT.ushr p5 (8 : Int32)) &&& (255 : Int32)).toUInt32.toUInt16.toUInt32.toInt32).toInt8.toInt32)]) (.int (0 : Int32)) := Arv.keep A_vb_38_41 Kq42 (ninS ne_vb_38_oc nin0)
          have E_oc_43 : Exa Z T42.heap oc "com/example/scrivenmoor/scrivenmoor/ConversionPattern$Conversion" := Exa.keep A40 Kq42
          have K42 : Keep h0 T42.heap [] := Keep.trans K40 Kq42 (allS (Or.inr mh_oc) all0)
          have Zs42 : n0 ≤ T42.heap.size := Nat.le_trans Zs40 Kq42.1
          show Go p e below _ (T42.setTop (mkF m 107 #[.val (.int p1), .val (.int p2), .val (.int p3), .val (.int p4), .val (.int p5), .val (.int mw), .val (.int xw), .val (.int zp), .val (.int zk), .val (.int zn), .val (.ref b_36), .val (.ref b_38), .unset, .unset] [(.ref oc)]))
          refine g_astore X42 hx (hb hby at_107) 109 rfl rfl #[.val (.int p1), .val (.int p2), .val (.int p3), .val (.int p4), .val (.int p5), .val (.int mw), .val (.int xw), .val (.int zp), .val (.int zk), .val (.int zn), .val (.ref b_36), .val (.ref b_38), .val (.ref oc), .unset] rfl ?_
          refine g_iload X42 hx (hb hby at_109) 111 rfl (v := mw) rfl ?_
          refine g_if_eq X42 hx (hb hby at_111) 120 114 (by decide) (by decide) rfl (fun hc111 => ?_) (fun hc111 => ?_)
          · refine g_iload X42 hx (hb hby at_120) 122 rfl (v := xw) rfl ?_
            refine Go.st (X42.ldcInt hx hown (mvT hZ (hw _ (List.mem_of_getElem? (i := 0) rfl))) (g := (mkF m 122 #[.val (.int p1), .val (.int p2), .val (.int p3), .val (.int p4), .val (.int p5), .val (.int mw), .val (.int xw), .val (.int zp), .val (.int zk), .val (.int zn), .val (.ref b_36), .val (.ref b_38), .val (.ref oc), .unset] [(.int xw)])) rfl (hb hby at_122)) ?_
            show Go p e below _ (T42.setTop (mkF m 124 #[.val (.int p1), .val (.int p2), .val (.int p3), .val (.int p4), .val (.int p5), .val (.int mw), .val (.int xw), .val (.int zp), .val (.int zk), .val (.int zn), .val (.ref b_36), .val (.ref b_38), .val (.ref oc), .unset] [(.int (2147483647 : Int32)), (.int xw)]))
            refine g_icmp_eq X42 hx (hb hby at_124) 133 127 (by decide) (by decide) rfl (fun hc124 => ?_) (fun hc124 => ?_)
            · refine g_iconst X42 hx (hb hby at_133) 134 rfl (0 : Int32) rfl ?_
              refine g_istore X42 hx (hb hby at_134) 136 rfl #[.val (.int p1), .val (.int p2), .val (.int p3), .val (.int p4), .val (.int p5), .val (.int mw), .val (.int xw), .val (.int zp), .val (.int zk), .val (.int zn), .val (.ref b_36), .val (.ref b_38), .val (.ref oc), .val (.int (0 : Int32))] rfl ?_
              refine g_aload X42 hx (hb hby at_136) 138 rfl (v := (.ref oc)) rfl rfl ?_
              obtain ⟨cq44, kq44, q44a, q44b, q44c⟩ := isOf hZ rfl f42_0
              obtain ⟨_, _, ⟨T44, L44, k44, n44⟩, -, X44, ⟨Lc44, hQ44, l44, y44, z44⟩, st44⟩ := X42.virtualBack hx (y := (⟨"com/example/scrivenmoor/scrivenmoor/ConversionPattern$Conversion", "modified", "()Z"⟩ : MethodName)) (z := (⟨"com/example/scrivenmoor/scrivenmoor/ConversionPattern$Conversion", "modified", "()Z"⟩ : MethodName)) hown (mvT hZ (hw _ (List.mem_of_getElem? (i := 53) rfl))) (mvT hZ (hw _ (List.mem_of_getElem? (i := 54) rfl))) (notFace_of_selects (args := #[]) (mvT hZ (hw _ (List.mem_of_getElem? (i := 56) rfl)))) (mvT hZ (hw _ (List.mem_of_getElem? (i := 56) rfl))) (mvT hZ (hw _ (List.mem_of_getElem? (i := 55) rfl))) (by decide) (backOf (W := 0) (rm8 l Z a0 hw [] oc mw xw T42.heap n0 Zs42 f42_4 f42_6) hZ (hw _ (List.mem_of_getElem? (i := 57) rfl)) (hw _ (List.mem_of_getElem? (i := 29) rfl)) (by decide) (by decide)) q44a q44c (g := (mkF m 138 #[.val (.int p1), .val (.int p2), .val (.int p3), .val (.int p4), .val (.int p5), .val (.int mw), .val (.int xw), .val (.int zp), .val (.int zk), .val (.int zn), .val (.ref b_36), .val (.ref b_38), .val (.ref oc), .val (.int (0 : Int32))] [(.ref oc)])) rfl (by rw [hml]; rfl) (Steps.refl _) (argsL := []) (rest := []) (lenOf own_pd6 rfl) rfl (by show 2 * 0 + _ ≤ _; exact Nat.le_of_eq rfl) (hb hby at_138) (fun _ _ => ⟨rfl, rfl, (by decide : 5 + 0 ≤ _), (by decide : 17 + 0 ≤ _)⟩)
              dsimp only [Pt.U, Pt.locs, Pt.cells, Pt.slots] at X44 l44 y44 z44 st44 hQ44
              subst l44 y44 z44
              obtain ⟨r_44, rfl, Nq44, e44, p44_0⟩ := hQ44
              refine Go.tr st44 ?_
              have N44 := Fr.app N42 Nq44
              show Go p e below _ (T44.setTop (mkF m 141 #[.val (.int p1), .val (.int p2), .val (.int p3), .val (.int p4), .val (.int p5), .val (.int mw), .val (.int xw), .val (.int zp), .val (.int zk), .val (.int zn), .val (.ref b_36), .val (.ref b_38), .val (.ref oc), .val (.int (0 : Int32))] [(.int r_44)]))
              refine g_iload X44 hx (hb hby at_141) 143 rfl (v := (0 : Int32)) rfl ?_
              refine g_icmp_ne X44 hx (hb hby at_143) 150 146 (by decide) (by decide) rfl (fun hc143 => False.elim (hc143 (by rw [p44_0, hc111, hc124, if_neg (by decide), if_neg (by decide)]))) (fun hc143 => ?_)
              refine g_iconst X44 hx (hb hby at_146) 147 rfl (1 : Int32) rfl ?_
              refine g_goto X44 hx (hb hby at_147) 151 (by decide) (by decide) ?_
              refine Go.retN X44 hx hlk (t := .boolean) Bd.returns (by simp) (hb hby at_151) (by decide) (by decide) ?_
              exact ⟨rfl, N44⟩
            · refine g_iconst X42 hx (hb hby at_127) 128 rfl (1 : Int32) rfl ?_
              refine g_istore X42 hx (hb hby at_128) 130 rfl #[.val (.int p1), .val (.int p2), .val (.int p3), .val (.int p4), .val (.int p5), .val (.int mw), .val (.int xw), .val (.int zp), .val (.int zk), .val (.int zn), .val (.ref b_36), .val (.ref b_38), .val (.ref oc), .val (.int (1 : Int32))] rfl ?_
              refine g_goto X42 hx (hb hby at_130) 136 (by decide) (by decide) ?_
              refine g_aload X42 hx (hb hby at_136) 138 rfl (v := (.ref oc)) rfl rfl ?_
              obtain ⟨cq45, kq45, q45a, q45b, q45c⟩ := isOf hZ rfl f42_0
              obtain ⟨_, _, ⟨T45, L45, k45, n45⟩, -, X45, ⟨Lc45, hQ45, l45, y45, z45⟩, st45⟩ := X42.virtualBack hx (y := (⟨"com/example/scrivenmoor/scrivenmoor/ConversionPattern$Conversion", "modified", "()Z"⟩ : MethodName)) (z := (⟨"com/example/scrivenmoor/scrivenmoor/ConversionPattern$Conversion", "modified", "()Z"⟩ : MethodName)) hown (mvT hZ (hw _ (List.mem_of_getElem? (i := 53) rfl))) (mvT hZ (hw _ (List.mem_of_getElem? (i := 54) rfl))) (notFace_of_selects (args := #[]) (mvT hZ (hw _ (List.mem_of_getElem? (i := 56) rfl)))) (mvT hZ (hw _ (List.mem_of_getElem? (i := 56) rfl))) (mvT hZ (hw _ (List.mem_of_getElem? (i := 55) rfl))) (by decide) (backOf (W := 0) (rm8 l Z a0 hw [] oc mw xw T42.heap n0 Zs42 f42_4 f42_6) hZ (hw _ (List.mem_of_getElem? (i := 57) rfl)) (hw _ (List.mem_of_getElem? (i := 29) rfl)) (by decide) (by decide)) q45a q45c (g := (mkF m 138 #[.val (.int p1), .val (.int p2), .val (.int p3), .val (.int p4), .val (.int p5), .val (.int mw), .val (.int xw), .val (.int zp), .val (.int zk), .val (.int zn), .val (.ref b_36), .val (.ref b_38), .val (.ref oc), .val (.int (1 : Int32))] [(.ref oc)])) rfl (by rw [hml]; rfl) (Steps.refl _) (argsL := []) (rest := []) (lenOf own_pd6 rfl) rfl (by show 2 * 0 + _ ≤ _; exact Nat.le_of_eq rfl) (hb hby at_138) (fun _ _ => ⟨rfl, rfl, (by decide : 5 + 0 ≤ _), (by decide : 17 + 0 ≤ _)⟩)
              dsimp only [Pt.U, Pt.locs, Pt.cells, Pt.slots] at X45 l45 y45 z45 st45 hQ45
              subst l45 y45 z45
              obtain ⟨r_45, rfl, Nq45, e45, p45_0⟩ := hQ45
              refine Go.tr st45 ?_
              have N45 := Fr.app N42 Nq45
              show Go p e below _ (T45.setTop (mkF m 141 #[.val (.int p1), .val (.int p2), .val (.int p3), .val (.int p4), .val (.int p5), .val (.int mw), .val (.int xw), .val (.int zp), .val (.int zk), .val (.int zn), .val (.ref b_36), .val (.ref b_38), .val (.ref oc), .val (.int (1 : Int32))] [(.int r_45)]))
              refine g_iload X45 hx (hb hby at_141) 143 rfl (v := (1 : Int32)) rfl ?_
              refine g_icmp_ne X45 hx (hb hby at_143) 150 146 (by decide) (by decide) rfl (fun hc143 => False.elim (hc143 (by rw [p45_0, hc111, if_neg (by decide), if_pos (own_ltmax hc124)]))) (fun hc143 => ?_)
              refine g_iconst X45 hx (hb hby at_146) 147 rfl (1 : Int32) rfl ?_
              refine g_goto X45 hx (hb hby at_147) 151 (by decide) (by decide) ?_
              refine Go.retN X45 hx hlk (t := .boolean) Bd.returns (by simp) (hb hby at_151) (by decide) (by decide) ?_
              exact ⟨rfl, N45⟩
          · refine g_iconst X42 hx (hb hby at_114) 115 rfl (1 : Int32) rfl ?_
            refine g_istore X42 hx (hb hby at_115) 117 rfl #[.val (.int p1), .val (.int p2), .val (.int p3), .val (.int p4), .val (.int p5), .val (.int mw), .val (.int xw), .val (.int zp), .val (.int zk), .val (.int zn), .val (.ref b_36), .val (.ref b_38), .val (.ref oc), .val (.int (1 : Int32))] rfl ?_
            refine g_goto X42 hx (hb hby at_117) 136 (by decide) (by decide) ?_
            refine g_aload X42 hx (hb hby at_136) 138 rfl (v := (.ref oc)) rfl rfl ?_
            obtain ⟨cq46, kq46, q46a, q46b, q46c⟩ := isOf hZ rfl f42_0
            obtain ⟨_, _, ⟨T46, L46, k46, n46⟩, -, X46, ⟨Lc46, hQ46, l46, y46, z46⟩, st46⟩ := X42.virtualBack hx (y := (⟨"com/example/scrivenmoor/scrivenmoor/ConversionPattern$Conversion", "modified", "()Z"⟩ : MethodName)) (z := (⟨"com/example/scrivenmoor/scrivenmoor/ConversionPattern$Conversion", "modified", "()Z"⟩ : MethodName)) hown (mvT hZ (hw _ (List.mem_of_getElem? (i := 53) rfl))) (mvT hZ (hw _ (List.mem_of_getElem? (i := 54) rfl))) (notFace_of_selects (args := #[]) (mvT hZ (hw _ (List.mem_of_getElem? (i := 56) rfl)))) (mvT hZ (hw _ (List.mem_of_getElem? (i := 56) rfl))) (mvT hZ (hw _ (List.mem_of_getElem? (i := 55) rfl))) (by decide) (backOf (W := 0) (rm8 l Z a0 hw [] oc mw xw T42.heap n0 Zs42 f42_4 f42_6) hZ (hw _ (List.mem_of_getElem? (i := 57) rfl)) (hw _ (List.mem_of_getElem? (i := 29) rfl)) (by decide) (by decide)) q46a q46c (g := (mkF m 138 #[.val (.int p1), .val (.int p2), .val (.int p3), .val (.int p4), .val (.int p5), .val (.int mw), .val (.int xw), .val (.int zp), .val (.int zk), .val (.int zn), .val (.ref b_36), .val (.ref b_38), .val (.ref oc), .val (.int (1 : Int32))] [(.ref oc)])) rfl (by rw [hml]; rfl) (Steps.refl _) (argsL := []) (rest := []) (lenOf own_pd6 rfl) rfl (by show 2 * 0 + _ ≤ _; exact Nat.le_of_eq rfl) (hb hby at_138) (fun _ _ => ⟨rfl, rfl, (by decide : 5 + 0 ≤ _), (by decide : 17 + 0 ≤ _)⟩)
            dsimp only [Pt.U, Pt.locs, Pt.cells, Pt.slots] at X46 l46 y46 z46 st46 hQ46
            subst l46 y46 z46
            obtain ⟨r_46, rfl, Nq46, e46, p46_0⟩ := hQ46
            refine Go.tr st46 ?_
            have N46 := Fr.app N42 Nq46
            show Go p e below _ (T46.setTop (mkF m 141 #[.val (.int p1), .val (.int p2), .val (.int p3), .val (.int p4), .val (.int p5), .val (.int mw), .val (.int xw), .val (.int zp), .val (.int zk), .val (.int zn), .val (.ref b_36), .val (.ref b_38), .val (.ref oc), .val (.int (1 : Int32))] [(.int r_46)]))
            refine g_iload X46 hx (hb hby at_141) 143 rfl (v := (1 : Int32)) rfl ?_
            refine g_icmp_ne X46 hx (hb hby at_143) 150 146 (by decide) (by decide) rfl (fun hc143 => False.elim (hc143 (by rw [p46_0, if_pos (own_gt hmw hc111)]))) (fun hc143 => ?_)
            refine g_iconst X46 hx (hb hby at_146) 147 rfl (1 : Int32) rfl ?_
            refine g_goto X46 hx (hb hby at_147) 151 (by decide) (by decide) ?_
            refine Go.retN X46 hx hlk (t := .boolean) Bd.returns (by simp) (hb hby at_151) (by decide) (by decide) ?_
            exact ⟨rfl, N46⟩
        · refine g_null X36 hx (hb hby at_68) 69 rfl ?_
          refine g_goto X36 hx (hb hby at_69) 85 (by decide) (by decide) ?_
          refine g_astore X36 hx (hb hby at_85) 87 rfl rfl #[.val (.int p1), .val (.int p2), .val (.int p3), .val (.int p4), .val (.int p5), .val (.int mw), .val (.int xw), .val (.int zp), .val (.int zk), .val (.int zn), .val (.ref b_36), .val .null, .unset, .unset] rfl ?_
          obtain ⟨T47, h47, X47, e47, E47, A47, D47, -, st47⟩ := newO X36 hx hZ hown (hw _ (List.mem_of_getElem? (i := 27) rfl)) (hw _ (List.mem_of_getElem? (i := 28) rfl)) (hw _ (List.mem_of_getElem? (i := 29) rfl)) rfl (g := (mkF m 87 #[.val (.int p1), .val (.int p2), .val (.int p3), .val (.int p4), .val (.int p5), .val (.int mw), .val (.int xw), .val (.int zp), .val (.int zk), .val (.int zn), .val (.ref b_36), .val .null, .unset, .unset] [])) rfl (hb hby at_87) (by decide) (by decide)
          refine Go.st st47 ?_
          obtain ⟨oc, q47⟩ : ∃ z, z = T36.heap.size := ⟨_, rfl⟩
          rw [← q47] at A47 D47 ⊢
          have ne_b_36_oc : b_36 ≠ oc := Nat.ne_of_lt (Nat.lt_of_lt_of_eq f36_3.lt q47.symm)
          have ne_vb_36_oc : vb_36 ≠ oc := Nat.ne_of_lt (Nat.lt_of_lt_of_eq f36_6.lt q47.symm)
          have g_oc : n0 ≤ oc := Nat.le_trans Zs36 (Nat.le_of_eq q47.symm)
          have mh_oc : h0.size ≤ oc := Nat.le_trans K36.1 (Nat.le_of_eq q47.symm)
          have E_b_36_48 : Exa Z h47 b_36 "java/lang/String" := Exa.ext E47 f36_3
          have F_value_b_36_48 : Fld Z h47 b_36 "java/lang/String" "value" "[B" (.ref vb_36) := Fld.ext E47 f36_4
          have F_coder_b_36_48 : Fld Z h47 b_36 "java/lang/String" "coder" "B" (.int (0 : Int32)) := Fld.ext E47 f36_5
          have A_vb_36_48 : Arv Z h47 vb_36 kb_36 .byte (1 : Int32) ([(.int ((p5 &&& (255 : Int32)).toUInt32.toUInt16.toUInt32.toInt32).toInt8.toInt32)]) (.int (0 : Int32)) := Arv.ext f36_6 E47
          have F_position_47 : Fld Z h47 oc "com/example/scrivenmoor/scrivenmoor/ConversionPattern$Conversion" "position" "I" (.int (0 : Int32)) := D47 (Or.inr (hw _ (List.mem_of_getElem? (i := 40) rfl))) (ty := .int) (by decide)
          have F_word_47 : Fld Z h47 oc "com/example/scrivenmoor/scrivenmoor/ConversionPattern$Conversion" "word" "Ljava/lang/String;" .null := D47 (Or.inr (hw _ (List.mem_of_getElem? (i := 42) rfl))) (ty := (.object "java/lang/String")) (by decide)
          have F_option_47 : Fld Z h47 oc "com/example/scrivenmoor/scrivenmoor/ConversionPattern$Conversion" "option" "Ljava/lang/String;" .null := D47 (Or.inr (hw _ (List.mem_of_getElem? (i := 44) rfl))) (ty := (.object "java/lang/String")) (by decide)
          have F_minWidth_47 : Fld Z h47 oc "com/example/scrivenmoor/scrivenmoor/ConversionPattern$Conversion" "minWidth" "I" (.int (0 : Int32)) := D47 (Or.inr (hw _ (List.mem_of_getElem? (i := 46) rfl))) (ty := .int) (by decide)
          have F_padRight_47 : Fld Z h47 oc "com/example/scrivenmoor/scrivenmoor/ConversionPattern$Conversion" "padRight" "Z" (.int (0 : Int32)) := D47 (Or.inr (hw _ (List.mem_of_getElem? (i := 48) rfl))) (ty := .boolean) (by decide)
          have F_maxWidth_47 : Fld Z h47 oc "com/example/scrivenmoor/scrivenmoor/ConversionPattern$Conversion" "maxWidth" "I" (.int (0 : Int32)) := D47 (Or.inr (hw _ (List.mem_of_getElem? (i := 50) rfl))) (ty := .int) (by decide)
          have F_keepLeft_47 : Fld Z h47 oc "com/example/scrivenmoor/scrivenmoor/ConversionPattern$Conversion" "keepLeft" "Z" (.int (0 : Int32)) := D47 (Or.inr (hw _ (List.mem_of_getElem? (i := 52) rfl))) (ty := .boolean) (by decide)
          have K47 : Keep h0 h47 [] := Keep.ext K36 E47
          have Zs47 : n0 ≤ h47.size := Nat.le_trans Zs36 E47.1
          show Go p e below _ (T47.setTop (mkF m 90 #[.val (.int p1), .val (.int p2), .val (.int p3), .val (.int p4), .val (.int p5), .val (.int mw), .val (.int xw), .val (.int zp), .val (.int zk), .val (.int zn), .val (.ref b_36), .val .null, .unset, .unset] [(.ref oc)]))
          refine g_dup X47 hx (hb hby at_90) 91 rfl rfl ?_
          refine g_iloadN X47 hx (hb hby at_91) 92 rfl (v := p1) rfl ?_
          refine g_aload X47 hx (hb hby at_92) 94 rfl (v := (.ref b_36)) rfl rfl ?_
          refine g_aload X47 hx (hb hby at_94) 96 rfl (v := .null) rfl rfl ?_
          refine g_iload X47 hx (hb hby at_96) 98 rfl (v := mw) rfl ?_
          refine g_iload X47 hx (hb hby at_98) 100 rfl (v := zp) rfl ?_
          refine g_iload X47 hx (hb hby at_100) 102 rfl (v := xw) rfl ?_
          refine g_iload X47 hx (hb hby at_102) 104 rfl (v := zk) rfl ?_
          obtain ⟨_, _, ⟨T49, L49, k49, n49⟩, -, X49, ⟨Lc49, hQ49, l49, y49, z49⟩, st49⟩ := X47.specialBack hx (y := (⟨"com/example/scrivenmoor/scrivenmoor/ConversionPattern$Conversion", "<init>", "(ILjava/lang/String;Ljava/lang/String;IZIZ)V"⟩ : MethodName)) rfl hown (mvT hZ (hw _ (List.mem_of_getElem? (i := 30) rfl))) (mvT hZ (hw _ (List.mem_of_getElem? (i := 31) rfl))) (mvT hZ (hw _ (List.mem_of_getElem? (i := 32) rfl))) (by decide) (backOf (W := 1) (rm6 l Z a0 hw [] oc p1 b_36 mw zp xw zk .null (.int (0 : Int32)) .null .null (.int (0 : Int32)) (.int (0 : Int32)) (.int (0 : Int32)) (.int (0 : Int32)) h47 n0 Zs47 A47 g_oc F_position_47 F_word_47 F_option_47 F_minWidth_47 F_padRight_47 F_maxWidth_47 F_keepLeft_47 rfl h_zp h_zk) hZ (hw _ (List.mem_of_getElem? (i := 32) rfl)) (hw _ (List.mem_of_getElem? (i := 29) rfl)) (by decide) (by decide)) (g := (mkF m 104 #[.val (.int p1), .val (.int p2), .val (.int p3), .val (.int p4), .val (.int p5), .val (.int mw), .val (.int xw), .val (.int zp), .val (.int zk), .val (.int zn), .val (.ref b_36), .val .null, .unset, .unset] [(.int zk), (.int xw), (.int zp), (.int mw), .null, (.ref b_36), (.int p1), (.ref oc), (.ref oc)])) rfl (by rw [hml]; rfl) (Steps.refl _) (a := oc) (argsL := [(.int p1), (.ref b_36), .null, (.int mw), (.int zp), (.int xw), (.int zk)]) (rest := [(.ref oc)]) (lenOf own_pd5 rfl) rfl (by show 2 * 0 + _ ≤ _; exact Nat.le_of_eq rfl) (hb hby at_104) (fun _ _ => ⟨rfl, e47, (by decide : 3 + 0 ≤ _), (by decide : 12 + 0 ≤ _)⟩)
          dsimp only [Pt.U, Pt.locs, Pt.cells, Pt.slots] at X49 l49 y49 z49 st49 hQ49
          subst l49 y49 z49
          obtain ⟨rfl, Nq49, Kq49, f49_0, f49_1, f49_2, f49_3, f49_4, f49_5, f49_6, f49_7⟩ := hQ49
          refine Go.tr st49 ?_
          have N49 := Fr.app N36 Nq49
          have E_b_36_50 : Exa Z T49.heap b_36 "java/lang/String" := Exa.keep E_b_36_48 Kq49
          have F_value_b_36_50 : Fld Z T49.heap b_36 "java/lang/String" "value" "[B" (.ref vb_36) := Fld.keep F_value_b_36_48 Kq49 (ninS ne_b_36_oc nin0)
          have F_coder_b_36_50 : Fld Z T49.heap b_36 "java/lang/String" "coder" "B" (.int (0 : Int32)) := Fld.keep F_coder_b_36_48 Kq49 (ninS ne_b_36_oc nin0)
          have A_vb_36_50 : Arv Z T49.heap vb_36 kb_36 .byte (1 : Int32) ([(.int ((p5 &&& (255 : Int32)).toUInt32.toUInt16.toUInt32.toInt32).toInt8.toInt32)]) (.int (0 : Int32)) := Arv.keep A_vb_36_48 Kq49 (ninS ne_vb_36_oc nin0)
          have E_oc_50 : Exa Z T49.heap oc "com/example/scrivenmoor/scrivenmoor/ConversionPattern$Conversion" := Exa.keep A47 Kq49
          have K49 : Keep h0 T49.heap [] := Keep.trans K47 Kq49 (allS (Or.inr mh_oc) all0)
          have Zs49 : n0 ≤ T49.heap.size := Nat.le_trans Zs47 Kq49.1
          show Go p e below _ (T49.setTop (mkF m 107 #[.val (.int p1), .val (.int p2), .val (.int p3), .val (.int p4), .val (.int p5), .val (.int mw), .val (.int xw), .val (.int zp), .val (.int zk), .val (.int zn), .val (.ref b_36), .val .null, .unset, .unset] [(.ref oc)]))
          refine g_astore X49 hx (hb hby at_107) 109 rfl rfl #[.val (.int p1), .val (.int p2), .val (.int p3), .val (.int p4), .val (.int p5), .val (.int mw), .val (.int xw), .val (.int zp), .val (.int zk), .val (.int zn), .val (.ref b_36), .val .null, .val (.ref oc), .unset] rfl ?_
          refine g_iload X49 hx (hb hby at_109) 111 rfl (v := mw) rfl ?_
          refine g_if_eq X49 hx (hb hby at_111) 120 114 (by decide) (by decide) rfl (fun hc111 => ?_) (fun hc111 => ?_)
          · refine g_iload X49 hx (hb hby at_120) 122 rfl (v := xw) rfl ?_
            refine Go.st (X49.ldcInt hx hown (mvT hZ (hw _ (List.mem_of_getElem? (i := 0) rfl))) (g := (mkF m 122 #[.val (.int p1), .val (.int p2), .val (.int p3), .val (.int p4), .val (.int p5), .val (.int mw), .val (.int xw), .val (.int zp), .val (.int zk), .val (.int zn), .val (.ref b_36), .val .null, .val (.ref oc), .unset] [(.int xw)])) rfl (hb hby at_122)) ?_
            show Go p e below _ (T49.setTop (mkF m 124 #[.val (.int p1), .val (.int p2), .val (.int p3), .val (.int p4), .val (.int p5), .val (.int mw), .val (.int xw), .val (.int zp), .val (.int zk), .val (.int zn), .val (.ref b_36), .val .null, .val (.ref oc), .unset] [(.int (2147483647 : Int32)), (.int xw)]))
            refine g_icmp_eq X49 hx (hb hby at_124) 133 127 (by decide) (by decide) rfl (fun hc124 => ?_) (fun hc124 => ?_)
            · refine g_iconst X49 hx (hb hby at_133) 134 rfl (0 : Int32) rfl ?_
              refine g_istore X49 hx (hb hby at_134) 136 rfl #[.val (.int p1), .val (.int p2), .val (.int p3), .val (.int p4), .val (.int p5), .val (.int mw), .val (.int xw), .val (.int zp), .val (.int zk), .val (.int zn), .val (.ref b_36), .val .null, .val (.ref oc), .val (.int (0 : Int32))] rfl ?_
              refine g_aload X49 hx (hb hby at_136) 138 rfl (v := (.ref oc)) rfl rfl ?_
              obtain ⟨cq51, kq51, q51a, q51b, q51c⟩ := isOf hZ rfl f49_0
              obtain ⟨_, _, ⟨T51, L51, k51, n51⟩, -, X51, ⟨Lc51, hQ51, l51, y51, z51⟩, st51⟩ := X49.virtualBack hx (y := (⟨"com/example/scrivenmoor/scrivenmoor/ConversionPattern$Conversion", "modified", "()Z"⟩ : MethodName)) (z := (⟨"com/example/scrivenmoor/scrivenmoor/ConversionPattern$Conversion", "modified", "()Z"⟩ : MethodName)) hown (mvT hZ (hw _ (List.mem_of_getElem? (i := 53) rfl))) (mvT hZ (hw _ (List.mem_of_getElem? (i := 54) rfl))) (notFace_of_selects (args := #[]) (mvT hZ (hw _ (List.mem_of_getElem? (i := 56) rfl)))) (mvT hZ (hw _ (List.mem_of_getElem? (i := 56) rfl))) (mvT hZ (hw _ (List.mem_of_getElem? (i := 55) rfl))) (by decide) (backOf (W := 0) (rm8 l Z a0 hw [] oc mw xw T49.heap n0 Zs49 f49_4 f49_6) hZ (hw _ (List.mem_of_getElem? (i := 57) rfl)) (hw _ (List.mem_of_getElem? (i := 29) rfl)) (by decide) (by decide)) q51a q51c (g := (mkF m 138 #[.val (.int p1), .val (.int p2), .val (.int p3), .val (.int p4), .val (.int p5), .val (.int mw), .val (.int xw), .val (.int zp), .val (.int zk), .val (.int zn), .val (.ref b_36), .val .null, .val (.ref oc), .val (.int (0 : Int32))] [(.ref oc)])) rfl (by rw [hml]; rfl) (Steps.refl _) (argsL := []) (rest := []) (lenOf own_pd6 rfl) rfl (by show 2 * 0 + _ ≤ _; exact Nat.le_of_eq rfl) (hb hby at_138) (fun _ _ => ⟨rfl, rfl, (by decide : 3 + 0 ≤ _), (by decide : 12 + 0 ≤ _)⟩)
              dsimp only [Pt.U, Pt.locs, Pt.cells, Pt.slots] at X51 l51 y51 z51 st51 hQ51
              subst l51 y51 z51
              obtain ⟨r_51, rfl, Nq51, e51, p51_0⟩ := hQ51
              refine Go.tr st51 ?_
              have N51 := Fr.app N49 Nq51
              show Go p e below _ (T51.setTop (mkF m 141 #[.val (.int p1), .val (.int p2), .val (.int p3), .val (.int p4), .val (.int p5), .val (.int mw), .val (.int xw), .val (.int zp), .val (.int zk), .val (.int zn), .val (.ref b_36), .val .null, .val (.ref oc), .val (.int (0 : Int32))] [(.int r_51)]))
              refine g_iload X51 hx (hb hby at_141) 143 rfl (v := (0 : Int32)) rfl ?_
              refine g_icmp_ne X51 hx (hb hby at_143) 150 146 (by decide) (by decide) rfl (fun hc143 => False.elim (hc143 (by rw [p51_0, hc111, hc124, if_neg (by decide), if_neg (by decide)]))) (fun hc143 => ?_)
              refine g_iconst X51 hx (hb hby at_146) 147 rfl (1 : Int32) rfl ?_
              refine g_goto X51 hx (hb hby at_147) 151 (by decide) (by decide) ?_
              refine Go.retN X51 hx hlk (t := .boolean) Bd.returns (by simp) (hb hby at_151) (by decide) (by decide) ?_
              exact ⟨rfl, N51⟩
            · refine g_iconst X49 hx (hb hby at_127) 128 rfl (1 : Int32) rfl ?_
              refine g_istore X49 hx (hb hby at_128) 130 rfl #[.val (.int p1), .val (.int p2), .val (.int p3), .val (.int p4), .val (.int p5), .val (.int mw), .val (.int xw), .val (.int zp), .val (.int zk), .val (.int zn), .val (.ref b_36), .val .null, .val (.ref oc), .val (.int (1 : Int32))] rfl ?_
              refine g_goto X49 hx (hb hby at_130) 136 (by decide) (by decide) ?_
              refine g_aload X49 hx (hb hby at_136) 138 rfl (v := (.ref oc)) rfl rfl ?_
              obtain ⟨cq52, kq52, q52a, q52b, q52c⟩ := isOf hZ rfl f49_0
              obtain ⟨_, _, ⟨T52, L52, k52, n52⟩, -, X52, ⟨Lc52, hQ52, l52, y52, z52⟩, st52⟩ := X49.virtualBack hx (y := (⟨"com/example/scrivenmoor/scrivenmoor/ConversionPattern$Conversion", "modified", "()Z"⟩ : MethodName)) (z := (⟨"com/example/scrivenmoor/scrivenmoor/ConversionPattern$Conversion", "modified", "()Z"⟩ : MethodName)) hown (mvT hZ (hw _ (List.mem_of_getElem? (i := 53) rfl))) (mvT hZ (hw _ (List.mem_of_getElem? (i := 54) rfl))) (notFace_of_selects (args := #[]) (mvT hZ (hw _ (List.mem_of_getElem? (i := 56) rfl)))) (mvT hZ (hw _ (List.mem_of_getElem? (i := 56) rfl))) (mvT hZ (hw _ (List.mem_of_getElem? (i := 55) rfl))) (by decide) (backOf (W := 0) (rm8 l Z a0 hw [] oc mw xw T49.heap n0 Zs49 f49_4 f49_6) hZ (hw _ (List.mem_of_getElem? (i := 57) rfl)) (hw _ (List.mem_of_getElem? (i := 29) rfl)) (by decide) (by decide)) q52a q52c (g := (mkF m 138 #[.val (.int p1), .val (.int p2), .val (.int p3), .val (.int p4), .val (.int p5), .val (.int mw), .val (.int xw), .val (.int zp), .val (.int zk), .val (.int zn), .val (.ref b_36), .val .null, .val (.ref oc), .val (.int (1 : Int32))] [(.ref oc)])) rfl (by rw [hml]; rfl) (Steps.refl _) (argsL := []) (rest := []) (lenOf own_pd6 rfl) rfl (by show 2 * 0 + _ ≤ _; exact Nat.le_of_eq rfl) (hb hby at_138) (fun _ _ => ⟨rfl, rfl, (by decide : 3 + 0 ≤ _), (by decide : 12 + 0 ≤ _)⟩)
              dsimp only [Pt.U, Pt.locs, Pt.cells, Pt.slots] at X52 l52 y52 z52 st52 hQ52
              subst l52 y52 z52
              obtain ⟨r_52, rfl, Nq52, e52, p52_0⟩ := hQ52
              refine Go.tr st52 ?_
              have N52 := Fr.app N49 Nq52
              show Go p e below _ (T52.setTop (mkF m 141 #[.val (.int p1), .val (.int p2), .val (.int p3), .val (.int p4), .val (.int p5), .val (.int mw), .val (.int xw), .val (.int zp), .val (.int zk), .val (.int zn), .val (.ref b_36), .val .null, .val (.ref oc), .val (.int (1 : Int32))] [(.int r_52)]))
              refine g_iload X52 hx (hb hby at_141) 143 rfl (v := (1 : Int32)) rfl ?_
              refine g_icmp_ne X52 hx (hb hby at_143) 150 146 (by decide) (by decide) rfl (fun hc143 => False.elim (hc143 (by rw [p52_0, hc111, if_neg (by decide), if_pos (own_ltmax hc124)]))) (fun hc143 => ?_)
              refine g_iconst X52 hx (hb hby at_146) 147 rfl (1 : Int32) rfl ?_
              refine g_goto X52 hx (hb hby at_147) 151 (by decide) (by decide) ?_
              refine Go.retN X52 hx hlk (t := .boolean) Bd.returns (by simp) (hb hby at_151) (by decide) (by decide) ?_
              exact ⟨rfl, N52⟩
          · refine g_iconst X49 hx (hb hby at_114) 115 rfl (1 : Int32) rfl ?_
            refine g_istore X49 hx (hb hby at_115) 117 rfl #[.val (.int p1), .val (.int p2), .val (.int p3), .val (.int p4), .val (.int p5), .val (.int mw), .val (.int xw), .val (.int zp), .val (.int zk), .val (.int zn), .val (.ref b_36), .val .null, .val (.ref oc), .val (.int (1 : Int32))] rfl ?_
            refine g_goto X49 hx (hb hby at_117) 136 (by decide) (by decide) ?_
            refine g_aload X49 hx (hb hby at_136) 138 rfl (v := (.ref oc)) rfl rfl ?_
            obtain ⟨cq53, kq53, q53a, q53b, q53c⟩ := isOf hZ rfl f49_0
            obtain ⟨_, _, ⟨T53, L53, k53, n53⟩, -, X53, ⟨Lc53, hQ53, l53, y53, z53⟩, st53⟩ := X49.virtualBack hx (y := (⟨"com/example/scrivenmoor/scrivenmoor/ConversionPattern$Conversion", "modified", "()Z"⟩ : MethodName)) (z := (⟨"com/example/scrivenmoor/scrivenmoor/ConversionPattern$Conversion", "modified", "()Z"⟩ : MethodName)) hown (mvT hZ (hw _ (List.mem_of_getElem? (i := 53) rfl))) (mvT hZ (hw _ (List.mem_of_getElem? (i := 54) rfl))) (notFace_of_selects (args := #[]) (mvT hZ (hw _ (List.mem_of_getElem? (i := 56) rfl)))) (mvT hZ (hw _ (List.mem_of_getElem? (i := 56) rfl))) (mvT hZ (hw _ (List.mem_of_getElem? (i := 55) rfl))) (by decide) (backOf (W := 0) (rm8 l Z a0 hw [] oc mw xw T49.heap n0 Zs49 f49_4 f49_6) hZ (hw _ (List.mem_of_getElem? (i := 57) rfl)) (hw _ (List.mem_of_getElem? (i := 29) rfl)) (by decide) (by decide)) q53a q53c (g := (mkF m 138 #[.val (.int p1), .val (.int p2), .val (.int p3), .val (.int p4), .val (.int p5), .val (.int mw), .val (.int xw), .val (.int zp), .val (.int zk), .val (.int zn), .val (.ref b_36), .val .null, .val (.ref oc), .val (.int (1 : Int32))] [(.ref oc)])) rfl (by rw [hml]; rfl) (Steps.refl _) (argsL := []) (rest := []) (lenOf own_pd6 rfl) rfl (by show 2 * 0 + _ ≤ _; exact Nat.le_of_eq rfl) (hb hby at_138) (fun _ _ => ⟨rfl, rfl, (by decide : 3 + 0 ≤ _), (by decide : 12 + 0 ≤ _)⟩)
            dsimp only [Pt.U, Pt.locs, Pt.cells, Pt.slots] at X53 l53 y53 z53 st53 hQ53
            subst l53 y53 z53
            obtain ⟨r_53, rfl, Nq53, e53, p53_0⟩ := hQ53
            refine Go.tr st53 ?_
            have N53 := Fr.app N49 Nq53
            show Go p e below _ (T53.setTop (mkF m 141 #[.val (.int p1), .val (.int p2), .val (.int p3), .val (.int p4), .val (.int p5), .val (.int mw), .val (.int xw), .val (.int zp), .val (.int zk), .val (.int zn), .val (.ref b_36), .val .null, .val (.ref oc), .val (.int (1 : Int32))] [(.int r_53)]))
            refine g_iload X53 hx (hb hby at_141) 143 rfl (v := (1 : Int32)) rfl ?_
            refine g_icmp_ne X53 hx (hb hby at_143) 150 146 (by decide) (by decide) rfl (fun hc143 => False.elim (hc143 (by rw [p53_0, if_pos (own_gt hmw hc111)]))) (fun hc143 => ?_)
            refine g_iconst X53 hx (hb hby at_146) 147 rfl (1 : Int32) rfl ?_
            refine g_goto X53 hx (hb hby at_147) 151 (by decide) (by decide) ?_
            refine Go.retN X53 hx hlk (t := .boolean) Bd.returns (by simp) (hb hby at_151) (by decide) (by decide) ?_
            exact ⟨rfl, N53⟩
      refine g_iloadN X0 hx (hb hby at_38) 39 rfl (v := p4) rfl ?_
      refine g_iconst X0 hx (hb hby at_39) 40 rfl (4 : Int32) rfl ?_
      refine g_iand X0 hx (hb hby at_40) 41 rfl (p4 &&& (4 : Int32)) rfl ?_
      refine g_if_eq X0 hx (hb hby at_41) 48 44 (by decide) (by decide) rfl (fun hc41 => ?_) (fun hc41 => ?_)
      · refine g_iconst X0 hx (hb hby at_48) 49 rfl (0 : Int32) rfl ?_
        refine g_istore X0 hx (hb hby at_49) 51 rfl #[.val (.int p1), .val (.int p2), .val (.int p3), .val (.int p4), .val (.int p5), .val (.int mw), .val (.int xw), .val (.int zp), .val (.int zk), .val (.int (0 : Int32)), .unset, .unset, .unset, .unset] rfl ?_
        exact tl51 (0 : Int32) (Or.inl rfl)
      · refine g_iconst X0 hx (hb hby at_44) 45 rfl (1 : Int32) rfl ?_
        refine g_goto X0 hx (hb hby at_45) 49 (by decide) (by decide) ?_
        refine g_istore X0 hx (hb hby at_49) 51 rfl #[.val (.int p1), .val (.int p2), .val (.int p3), .val (.int p4), .val (.int p5), .val (.int mw), .val (.int xw), .val (.int zp), .val (.int zk), .val (.int (1 : Int32)), .unset, .unset, .unset, .unset] rfl ?_
        exact tl51 (1 : Int32) (Or.inr rfl)
    refine g_iloadN X0 hx (hb hby at_25) 26 rfl (v := p4) rfl ?_
    refine g_iconst X0 hx (hb hby at_26) 27 rfl (2 : Int32) rfl ?_
    refine g_iand X0 hx (hb hby at_27) 28 rfl (p4 &&& (2 : Int32)) rfl ?_
    refine g_if_eq X0 hx (hb hby at_28) 35 31 (by decide) (by decide) rfl (fun hc28 => ?_) (fun hc28 => ?_)
    · refine g_iconst X0 hx (hb hby at_35) 36 rfl (0 : Int32) rfl ?_
      refine g_istore X0 hx (hb hby at_36) 38 rfl #[.val (.int p1), .val (.int p2), .val (.int p3), .val (.int p4), .val (.int p5), .val (.int mw), .val (.int xw), .val (.int zp), .val (.int (0 : Int32)), .unset, .unset, .unset, .unset, .unset] rfl ?_
      exact tl38 (0 : Int32) (Or.inl rfl)
    · refine g_iconst X0 hx (hb hby at_31) 32 rfl (1 : Int32) rfl ?_
      refine g_goto X0 hx (hb hby at_32) 36 (by decide) (by decide) ?_
      refine g_istore X0 hx (hb hby at_36) 38 rfl #[.val (.int p1), .val (.int p2), .val (.int p3), .val (.int p4), .val (.int p5), .val (.int mw), .val (.int xw), .val (.int zp), .val (.int (1 : Int32)), .unset, .unset, .unset, .unset, .unset] rfl ?_
      exact tl38 (1 : Int32) (Or.inr rfl)
  refine g_iloadN X0 hx (hb hby at_12) 13 rfl (v := p4) rfl ?_
  refine g_iconst X0 hx (hb hby at_13) 14 rfl (1 : Int32) rfl ?_
  refine g_iand X0 hx (hb hby at_14) 15 rfl (p4 &&& (1 : Int32)) rfl ?_
  refine g_if_eq X0 hx (hb hby at_15) 22 18 (by decide) (by decide) rfl (fun hc15 => ?_) (fun hc15 => ?_)
  · refine g_iconst X0 hx (hb hby at_22) 23 rfl (0 : Int32) rfl ?_
    refine g_istore X0 hx (hb hby at_23) 25 rfl #[.val (.int p1), .val (.int p2), .val (.int p3), .val (.int p4), .val (.int p5), .val (.int mw), .val (.int xw), .val (.int (0 : Int32)), .unset, .unset, .unset, .unset, .unset, .unset] rfl ?_
    exact tl25 (0 : Int32) (Or.inl rfl)
  · refine g_iconst X0 hx (hb hby at_18) 19 rfl (1 : Int32) rfl ?_
    refine g_goto X0 hx (hb hby at_19) 23 (by decide) (by decide) ?_
    refine g_istore X0 hx (hb hby at_23) 25 rfl #[.val (.int p1), .val (.int p2), .val (.int p3), .val (.int p4), .val (.int p5), .val (.int mw), .val (.int xw), .val (.int (1 : Int32)), .unset, .unset, .unset, .unset, .unset, .unset] rfl ?_
    exact tl25 (1 : Int32) (Or.inr rfl)
set_option maxRecDepth 65536 in
set_option maxHeartbeats 40000000 in
theorem comes_1 {Post : Tables → Env → Array Value → State → Outcome → State → Prop} (hpost : ∀ tb e args s v u, (limb_1_1.after args s (.returned v) u = true ∧ limb_1_2.after args s (.returned v) u = true ∧ True) → FrameEnd s (.returned v) u (Jvm.fieldLocs frame_1_writes args s ++ Jvm.arrayLocs frame_1_arrays args s ++ Jvm.staticLocs frame_1_statics s) 24 128 → Post tb e args s (.returned v) u) :
    ArmFor flags0 classFile x code maxLocals ret World_1 tables_1 room_1 Calls_1 rest_1 Pre_1 Post := by
  intro l hfl _ _ p e ha hc hk s m args below hf hA hF happ hP
  obtain ⟨hcalls, hrest, hpre⟩ := hP
  obtain ⟨-, -, -, hnamed, -, -, -, hat⟩ := (Spec.applies_iff hf).mp happ
  obtain ⟨hg, hn⟩ := and_e (Cond.before_iff.mp (show (Jvm.Cond.and given_1 narrow_1).before args s = true from hpre))
  obtain ⟨c0, r0⟩ := and_e hg
  obtain ⟨c1, r1⟩ := and_e r0
  obtain ⟨c2, r2⟩ := and_e r1
  obtain ⟨c3, r3⟩ := and_e r2
  obtain ⟨c4, r4⟩ := and_e r3
  obtain ⟨w0, w1, w2, w3, w4, rfl⟩ : ∃ w0 w1 w2 w3 w4 : Value, args = #[w0, w1, w2, w3, w4] := by
    have hs : args.size = 5 := by simpa [Cond.value, given_1] using c0
    obtain ⟨L⟩ := args
    match L, hs with
    | [w0, w1, w2, w3, w4], _ => exact ⟨w0, w1, w2, w3, w4, rfl⟩
  have hw := fun d (hd : d ∈ tables_1) => atoms_spec (ws := Jvm.Cond.code x code maxLocals ret :: tables_1) hat d (List.mem_cons_of_mem _ hd)
  have hfit : Fit s := fun {y c} hc i hi => by
    obtain ⟨ha, rfl⟩ := Array.getElem?_eq_some_iff.mp hc
    have q := List.all_eq_true.mp ((Array.all_eq_true_iff_forall_mem.mp hF) _ (Array.getElem_mem ha)) i (List.mem_range.mpr hi)
    simpa [Array.getElem?_eq_getElem hi] using q
  obtain ⟨i0, ei0⟩ := is_v c1
  obtain rfl : w0 = (.int i0) := Option.some.inj ei0
  obtain ⟨i1, ei1⟩ := is_v c2
  obtain rfl : w1 = (.int i1) := Option.some.inj ei1
  obtain ⟨i2, ei2⟩ := is_v c3
  obtain rfl : w2 = (.int i2) := Option.some.inj ei2
  obtain ⟨i3, ei3⟩ := is_v c4
  obtain rfl : w3 = (.int i3) := Option.some.inj ei3
  obtain ⟨i4, ei4⟩ := is_v r4
  obtain rfl : w4 = (.int i4) := Option.some.inj ei4
  obtain ⟨hsets, hown0⟩ := atoms_of _ (rest_1_c_eq ▸ (show rest_1_c.before _ s = true from hrest))
  obtain ⟨s_COMPACT_STRINGS, e_s_COMPACT_STRINGS⟩ := is_v (Cond.before_iff.mp (hsets _ (List.mem_of_getElem? (i := 1) rfl)))
  have S_COMPACT_STRINGS : Sta s s.heap "java/lang/String" "COMPACT_STRINGS" "Z" (.int s_COMPACT_STRINGS) := Sta.start e_s_COMPACT_STRINGS (Or.inl (hsets _ (List.mem_of_getElem? (i := 0) rfl)))
  obtain ⟨s_SIOOBE_FORMATTER, e_s_SIOOBE_FORMATTER, r_s_SIOOBE_FORMATTER⟩ := isR_v (Cond.before_iff.mp (hsets _ (List.mem_of_getElem? (i := 8) rfl)))
  have S_SIOOBE_FORMATTER : Sta s s.heap "jdk/internal/util/Preconditions" "SIOOBE_FORMATTER" "Ljava/util/function/BiFunction;" s_SIOOBE_FORMATTER := Sta.start e_s_SIOOBE_FORMATTER (Or.inl (hsets _ (List.mem_of_getElem? (i := 7) rfl)))
  have z_s_COMPACT_STRINGS : ¬ s_COMPACT_STRINGS = 0 := own_nz e_s_COMPACT_STRINGS (Cond.before_iff.mp (hsets _ (List.mem_of_getElem? (i := 2) rfl)))
  obtain ⟨n, o, h1, h2, h3, _, L, rfl, ⟨rfl, N⟩, hq⟩ := rm0 l s _ hw tables_1 i0 i1 i2 i3 i4 s_COMPACT_STRINGS s_SIOOBE_FORMATTER s.heap s.heap.size (Nat.le_refl _) S_COMPACT_STRINGS S_SIOOBE_FORMATTER rfl z_s_COMPACT_STRINGS r_s_SIOOBE_FORMATTER p e ha hc hk s m _ below hf ((Spec.applies_iff_loose hf).mp happ).1 ⟨rfl, State.Warmed39.refl s, rfl⟩ trivial
  refine ⟨n, _, h1, h2, h3, hpost _ _ _ _ _ _ ⟨Cond.after_iff.mpr rfl, Cond.after_iff.mpr (eq_i res_at (Term.int_eval (1)) rfl), trivial⟩ ⟨hq.1, hq.2.1, (hq.2.2.sift fun y hy => Or.inr (N y hy)).mono (by decide) (by decide)⟩⟩
theorem main_1_1 : Claimed_1_1 := comes_1 fun _ _ _ _ _ _ h hF => ⟨h.1, hF⟩
theorem main_1_2 : Claimed_1_2 := comes_1 fun _ _ _ _ _ _ h hF => ⟨h.2.1, hF⟩
end Jvm.Pilot.@@N@@
namespace Jvm.Pilot.@@N@@
open Jvm Jvm.ClassFile Sem Op Lib Jvm.Free Jvm.Stand Jvm.Pilot.@@N@@.Jvm.D
/-! MADE BY PROGRAM (witnessworld.py) out of the Statement's table words and the real class files: 19 classes; the members and pool entries that the words name. The judged class is class 1, her method 1. -/
namespace start1
open Jvm.ClassFile
def u (s : String) : CpInfo := .utf8 (stringToUtf16 s)
/-- a pool by its gaps: so many unusable entries, then the entry; so many at the end -/
def gap : Nat → List CpInfo → List CpInfo
  | 0, r => r
  | n + 1, r => .unusable :: gap n r
def poolList (es : List (Nat × CpInfo)) (last : Nat) : List CpInfo := es.foldr (fun e r => gap e.1 (e.2 :: r)) (gap last [])
def pool (es : List (Nat × CpInfo)) (last : Nat) : Array CpInfo := ⟨poolList es last⟩
def fileOf (pool : Array CpInfo) (this : Nat) (attrs : Array Attribute := #[]) (ms : Array MethodInfo := #[]) (fl : Nat := 33) (sup : Nat := 0) (ifs : Array Nat := #[]) (fds : Array FieldInfo := #[]) : ClassFile where
  minorVersion := 0
  majorVersion := 65
  constantPool := pool
  accessFlags := fl
  thisClass := this
  superClass := sup
  interfaces := ifs
  fields := fds
  methods := ms
  attributes := attrs
def plain (name : String) (sup : Option ClassId) : Class where
  name := name
  kind := .ordinary
  loader := none
  accessFlags := 33
  super := sup
  interfaces := #[]
  cf := none
  fields := #[]
  methods := #[]
  instanceTypes := #[]
  staticTypes := #[]
  resolved := #[]
  callSites := []
  init := .initialized
  statics := none
  mirror := none

def pool0 : Array CpInfo := pool [(5, u "<init>"), (0, u "()V"), (1, .class_ 10), (1, u "java/lang/Object")] 113

def k0c0 : Code := { maxStack := 0, maxLocals := 1, code := object_method_1_code, exceptionTable := #[], attributes := #[] }
def k0m0 : Method := { name := "<init>", desc := "()V", sig := { parameters := [], returnType := none }, accessFlags := 1, code := some k0c0 }
/-- java/lang/Object -/
def k0 : Class := { plain "java/lang/Object" none with
  accessFlags := 33
  interfaces := #[]
  cf := some (fileOf pool0 8 #[] #[{ accessFlags := 1, nameIndex := 5, descriptorIndex := 6, attributes := #[] }] 33 0 #[] #[])
  fields := #[]
  methods := #[k0m0]
  instanceTypes := #[]
  staticTypes := #[]
  resolved := Array.replicate 124 none
  statics := none }

def pool1 : Array CpInfo := pool [(2, .class_ 4), (1, u "java/lang/Object"), (0, u "<init>"), (0, u "()V"), (0, .integer 2147483647), (0, .methodref 9 10), (0, .class_ 11), (0, .nameAndType 12 13), (0, u "java/lang/String"), (0, u "valueOf"), (0, u "(C)Ljava/lang/String;"), (0, .class_ 15), (0, u "com/example/scrivenmoor/scrivenmoor/ConversionPattern$Conversion"), (0, .methodref 14 17), (0, .nameAndType 5 18), (0, u "(ILjava/lang/String;Ljava/lang/String;IZIZ)V"), (2, .methodref 14 22), (0, .nameAndType 23 24), (0, u "modified"), (0, u "()Z"), (0, .class_ 26), (0, u "com/example/scrivenmoor/scrivenmoor/ConversionModifiedPinLaw"), (2, u "law"), (0, u "(IIIII)Z")] 7

def k1m0 : Method := { name := "<init>", desc := "()V", sig := { parameters := [], returnType := none }, accessFlags := 1, code := none }
def k1c1 : Code := { maxStack := 9, maxLocals := 14, code := code, exceptionTable := #[], attributes := #[] }
def k1m1 : Method := { name := "law", desc := "(IIIII)Z", sig := { parameters := [.int, .int, .int, .int, .int], returnType := some .boolean }, accessFlags := 9, code := some k1c1 }
/-- com/example/scrivenmoor/scrivenmoor/ConversionModifiedPinLaw -/
def k1 : Class := { plain "com/example/scrivenmoor/scrivenmoor/ConversionModifiedPinLaw" (some 0) with
  accessFlags := 49
  interfaces := #[]
  cf := some (fileOf pool1 25 #[] #[{ accessFlags := 1, nameIndex := 5, descriptorIndex := 6, attributes := #[] }, { accessFlags := 9, nameIndex := 29, descriptorIndex := 30, attributes := #[] }] 49 2 #[] #[])
  fields := #[]
  methods := #[k1m0, k1m1]
  instanceTypes := #[]
  staticTypes := #[]
  resolved := Array.replicate 38 none
  statics := none }

def pool2 : Array CpInfo := pool [(1, .class_ 2), (0, u "java/io/Serializable"), (0, .class_ 4), (0, u "java/lang/Object")] 2

/-- java/io/Serializable -/
def k2 : Class := { plain "java/io/Serializable" (some 0) with
  accessFlags := 1537
  interfaces := #[]
  cf := some (fileOf pool2 1 #[] #[] 1537 3 #[] #[])
  fields := #[]
  methods := #[]
  instanceTypes := #[]
  staticTypes := #[]
  resolved := Array.replicate 7 none
  statics := none }

def pool3 : Array CpInfo := pool [(1, .class_ 2), (0, u "java/lang/Comparable"), (0, .class_ 4), (0, u "java/lang/Object")] 7

/-- java/lang/Comparable -/
def k3 : Class := { plain "java/lang/Comparable" (some 0) with
  accessFlags := 1537
  interfaces := #[]
  cf := some (fileOf pool3 1 #[] #[] 1537 3 #[] #[])
  fields := #[]
  methods := #[]
  instanceTypes := #[]
  staticTypes := #[]
  resolved := Array.replicate 12 none
  statics := none }

def pool4 : Array CpInfo := pool [(2, .class_ 4), (1, u "java/lang/CharSequence"), (42, .class_ 48), (0, u "java/lang/CharSequence$1CodePointIterator"), (10, .class_ 60), (0, u "java/lang/CharSequence$1CharIterator"), (5, .class_ 67), (0, u "java/lang/Object")] 63

/-- java/lang/CharSequence -/
def k4 : Class := { plain "java/lang/CharSequence" (some 0) with
  accessFlags := 1537
  interfaces := #[]
  cf := some (fileOf pool4 2 #[.nestMembers #[47, 59]] #[] 1537 66 #[] #[])
  fields := #[]
  methods := #[]
  instanceTypes := #[]
  staticTypes := #[]
  resolved := Array.replicate 131 none
  statics := none }

def pool5 : Array CpInfo := pool [(1, .class_ 2), (0, u "java/lang/constant/Constable"), (0, .class_ 4), (0, u "java/lang/Object")] 6

/-- java/lang/constant/Constable -/
def k5 : Class := { plain "java/lang/constant/Constable" (some 0) with
  accessFlags := 1537
  interfaces := #[]
  cf := some (fileOf pool5 1 #[] #[] 1537 3 #[] #[])
  fields := #[]
  methods := #[]
  instanceTypes := #[]
  staticTypes := #[]
  resolved := Array.replicate 11 none
  statics := none }

def pool6 : Array CpInfo := pool [(1, .class_ 2), (0, u "java/lang/constant/ConstantDesc"), (0, .class_ 4), (0, u "java/lang/Object")] 32

/-- java/lang/constant/ConstantDesc -/
def k6 : Class := { plain "java/lang/constant/ConstantDesc" (some 0) with
  accessFlags := 1537
  interfaces := #[]
  cf := some (fileOf pool6 1 #[] #[] 1537 3 #[] #[])
  fields := #[]
  methods := #[]
  instanceTypes := #[]
  staticTypes := #[]
  resolved := Array.replicate 37 none
  statics := none }

def pool7 : Array CpInfo := pool [(1, .methodref 2 3), (0, .class_ 4), (0, .nameAndType 5 6), (0, u "java/lang/Object"), (0, u "<init>"), (0, u "()V"), (2, .fieldref 10 11), (0, .class_ 12), (0, .nameAndType 13 14), (0, u "java/lang/String"), (0, u "value"), (0, u "[B"), (0, .fieldref 10 16), (0, .nameAndType 17 18), (0, u "coder"), (0, u "B"), (2, u "hash"), (0, u "I"), (2, u "hashIsZero"), (0, u "Z"), (11, .fieldref 10 39), (0, .nameAndType 40 26), (0, u "COMPACT_STRINGS"), (12, u "toBytes"), (53, .class_ 109), (1, u "java/lang/StringLatin1"), (99, .methodref 10 210), (0, .nameAndType 5 211), (0, u "([BB)V"), (157, u "(C)Z"), (205, .class_ 576), (0, u "java/lang/CharSequence"), (22, u "CASE_INSENSITIVE_ORDER"), (0, u "Ljava/util/Comparator;"), (181, u "valueOf"), (0, u "(C)Ljava/lang/String;"), (231, .methodref 107 1016), (0, .nameAndType 1017 369), (0, u "canEncode"), (0, .methodref 107 1019), (0, .nameAndType 53 1020), (0, u "(C)[B"), (80, u "serialPersistentFields"), (0, u "[Ljava/io/ObjectStreamField;"), (0, .class_ 1104), (0, u "java/lang/String$CaseInsensitiveComparator"), (1, .class_ 1107), (0, u "java/io/Serializable"), (0, .class_ 1109), (0, u "java/lang/Comparable"), (0, .class_ 1111), (0, u "java/lang/constant/Constable"), (0, .class_ 1113), (0, u "java/lang/constant/ConstantDesc"), (2, u "serialVersionUID"), (0, u "J"), (3, u "REPL"), (0, u "C"), (2, u "LATIN1"), (1, u "UTF16")] 323

def k7m0 : Method := { name := "<init>", desc := "()V", sig := { parameters := [], returnType := none }, accessFlags := 1, code := none }
def k7c1 : Code := { maxStack := 4, maxLocals := 1, code := jdk_42_method_139_code, exceptionTable := #[], attributes := #[] }
def k7m1 : Method := { name := "valueOf", desc := "(C)Ljava/lang/String;", sig := { parameters := [.char], returnType := some (.object "java/lang/String") }, accessFlags := 9, code := some k7c1 }
def k7c2 : Code := { maxStack := 2, maxLocals := 3, code := jdk_42_method_151_code, exceptionTable := #[], attributes := #[] }
def k7m2 : Method := { name := "<init>", desc := "([BB)V", sig := { parameters := [(.array .byte), .byte], returnType := none }, accessFlags := 0, code := some k7c2 }
/-- java/lang/String -/
def k7 : Class := { plain "java/lang/String" (some 0) with
  accessFlags := 49
  interfaces := #[2, 3, 4, 5, 6]
  cf := some (fileOf pool7 10 #[.nestMembers #[1103]] #[{ accessFlags := 1, nameIndex := 5, descriptorIndex := 6, attributes := #[] }, { accessFlags := 9, nameIndex := 782, descriptorIndex := 783, attributes := #[] }, { accessFlags := 0, nameIndex := 5, descriptorIndex := 211, attributes := #[] }] 49 2 #[1106, 1108, 575, 1110, 1112] #[{ accessFlags := 18, nameIndex := 13, descriptorIndex := 14, attributes := #[] }, { accessFlags := 18, nameIndex := 17, descriptorIndex := 18, attributes := #[] }, { accessFlags := 2, nameIndex := 21, descriptorIndex := 22, attributes := #[] }, { accessFlags := 2, nameIndex := 25, descriptorIndex := 26, attributes := #[] }, { accessFlags := 26, nameIndex := 1116, descriptorIndex := 1117, attributes := #[] }, { accessFlags := 24, nameIndex := 40, descriptorIndex := 26, attributes := #[] }, { accessFlags := 26, nameIndex := 1101, descriptorIndex := 1102, attributes := #[] }, { accessFlags := 26, nameIndex := 1121, descriptorIndex := 1122, attributes := #[] }, { accessFlags := 25, nameIndex := 599, descriptorIndex := 600, attributes := #[] }, { accessFlags := 24, nameIndex := 1125, descriptorIndex := 18, attributes := #[] }, { accessFlags := 24, nameIndex := 1127, descriptorIndex := 18, attributes := #[] }])
  fields := #[{ name := "value", type := (.array .byte), accessFlags := 18, slot := 0, constantValue := 0 }, { name := "coder", type := .byte, accessFlags := 18, slot := 1, constantValue := 0 }, { name := "hash", type := .int, accessFlags := 2, slot := 2, constantValue := 0 }, { name := "hashIsZero", type := .boolean, accessFlags := 2, slot := 3, constantValue := 0 }, { name := "serialVersionUID", type := .long, accessFlags := 26, slot := 0, constantValue := 0 }, { name := "COMPACT_STRINGS", type := .boolean, accessFlags := 24, slot := 1, constantValue := 0 }, { name := "serialPersistentFields", type := (.array (.object "java/io/ObjectStreamField")), accessFlags := 26, slot := 2, constantValue := 0 }, { name := "REPL", type := .char, accessFlags := 26, slot := 3, constantValue := 0 }, { name := "CASE_INSENSITIVE_ORDER", type := (.object "java/util/Comparator"), accessFlags := 25, slot := 4, constantValue := 0 }, { name := "LATIN1", type := .byte, accessFlags := 24, slot := 5, constantValue := 0 }, { name := "UTF16", type := .byte, accessFlags := 24, slot := 6, constantValue := 0 }]
  methods := #[k7m0, k7m1, k7m2]
  instanceTypes := #[(.array .byte), .byte, .int, .boolean]
  staticTypes := #[.long, .boolean, (.array (.object "java/io/ObjectStreamField")), .char, (.object "java/util/Comparator"), .byte, .byte]
  resolved := Array.replicate 1451 none
  statics := some 0 }

def pool8 : Array CpInfo := pool [(4, .class_ 6), (1, u "java/lang/Object"), (0, u "<init>"), (0, u "()V"), (5, .class_ 16), (1, u "java/lang/StringLatin1"), (73, u "canEncode"), (14, u "(C)Z"), (15, u "$assertionsDisabled"), (0, u "Z"), (98, .class_ 223), (1, u "java/lang/StringLatin1$LinesSpliterator"), (156, u "toBytes"), (1, u "(C)[B"), (7, .class_ 391), (0, u "java/lang/StringLatin1$CharsSpliterator")] 3

def k8m0 : Method := { name := "<init>", desc := "()V", sig := { parameters := [], returnType := none }, accessFlags := 0, code := none }
def k8c1 : Code := { maxStack := 2, maxLocals := 1, code := jdk_43_method_3_code, exceptionTable := #[], attributes := #[] }
def k8m1 : Method := { name := "canEncode", desc := "(C)Z", sig := { parameters := [.char], returnType := some .boolean }, accessFlags := 9, code := some k8c1 }
def k8c2 : Code := { maxStack := 4, maxLocals := 1, code := jdk_43_method_46_code, exceptionTable := #[], attributes := #[] }
def k8m2 : Method := { name := "toBytes", desc := "(C)[B", sig := { parameters := [.char], returnType := some (.array .byte) }, accessFlags := 9, code := some k8c2 }
/-- java/lang/StringLatin1 -/
def k8 : Class := { plain "java/lang/StringLatin1" (some 0) with
  accessFlags := 48
  interfaces := #[]
  cf := some (fileOf pool8 14 #[.nestMembers #[390, 221]] #[{ accessFlags := 0, nameIndex := 7, descriptorIndex := 8, attributes := #[] }, { accessFlags := 9, nameIndex := 90, descriptorIndex := 105, attributes := #[] }, { accessFlags := 9, nameIndex := 380, descriptorIndex := 382, attributes := #[] }] 48 4 #[] #[{ accessFlags := 4120, nameIndex := 121, descriptorIndex := 122, attributes := #[] }])
  fields := #[{ name := "$assertionsDisabled", type := .boolean, accessFlags := 4120, slot := 0, constantValue := 0 }]
  methods := #[k8m0, k8m1, k8m2]
  instanceTypes := #[]
  staticTypes := #[.boolean]
  resolved := Array.replicate 395 none
  statics := none }

def pool9 : Array CpInfo := pool [(1, .methodref 2 3), (0, .class_ 4), (0, .nameAndType 5 6), (0, u "java/lang/Object"), (0, u "<init>"), (0, u "()V"), (0, .class_ 8), (0, u "java/lang/Record")] 13

def k9c0 : Code := { maxStack := 1, maxLocals := 1, code := jdk_30_method_1_code, exceptionTable := #[], attributes := #[] }
def k9m0 : Method := { name := "<init>", desc := "()V", sig := { parameters := [], returnType := none }, accessFlags := 4, code := some k9c0 }
/-- java/lang/Record -/
def k9 : Class := { plain "java/lang/Record" (some 0) with
  accessFlags := 1057
  interfaces := #[]
  cf := some (fileOf pool9 7 #[] #[{ accessFlags := 4, nameIndex := 5, descriptorIndex := 6, attributes := #[] }] 1057 2 #[] #[])
  fields := #[]
  methods := #[k9m0]
  instanceTypes := #[]
  staticTypes := #[]
  resolved := Array.replicate 22 none
  statics := none }

def pool10 : Array CpInfo := pool [(1, .class_ 2), (0, u "com/example/scrivenmoor/scrivenmoor/ConversionPattern$Part"), (0, .class_ 4), (0, u "java/lang/Object"), (3, .class_ 9), (0, u "com/example/scrivenmoor/scrivenmoor/ConversionPattern")] 9

/-- com/example/scrivenmoor/scrivenmoor/ConversionPattern$Part -/
def k10 : Class := { plain "com/example/scrivenmoor/scrivenmoor/ConversionPattern$Part" (some 0) with
  accessFlags := 1536
  interfaces := #[]
  cf := some (fileOf pool10 1 #[.nestHost 8] #[] 1536 3 #[] #[])
  fields := #[]
  methods := #[]
  instanceTypes := #[]
  staticTypes := #[]
  resolved := Array.replicate 19 none
  statics := none }

def pool11 : Array CpInfo := pool [(1, .methodref 2 3), (0, .class_ 4), (0, .nameAndType 5 6), (0, u "java/lang/Record"), (0, u "<init>"), (0, u "()V"), (0, .fieldref 8 9), (0, .class_ 10), (0, .nameAndType 11 12), (0, u "com/example/scrivenmoor/scrivenmoor/ConversionPattern$Conversion"), (0, u "position"), (0, u "I"), (0, .fieldref 8 14), (0, .nameAndType 15 16), (0, u "word"), (0, u "Ljava/lang/String;"), (0, .fieldref 8 18), (0, .nameAndType 19 16), (0, u "option"), (0, .fieldref 8 21), (0, .nameAndType 22 12), (0, u "minWidth"), (0, .fieldref 8 24), (0, .nameAndType 25 26), (0, u "padRight"), (0, u "Z"), (0, .fieldref 8 28), (0, .nameAndType 29 12), (0, u "maxWidth"), (0, .fieldref 8 31), (0, .nameAndType 32 26), (0, u "keepLeft"), (2, .integer 2147483647), (12, .class_ 49), (0, u "com/example/scrivenmoor/scrivenmoor/ConversionPattern$Part"), (0, u "(ILjava/lang/String;Ljava/lang/String;IZIZ)V"), (3, u "modified"), (0, u "()Z"), (7, .class_ 64), (0, u "com/example/scrivenmoor/scrivenmoor/ConversionPattern")] 26

def k11c0 : Code := { maxStack := 2, maxLocals := 8, code := prog_16_method_1_code, exceptionTable := #[], attributes := #[] }
def k11m0 : Method := { name := "<init>", desc := "(ILjava/lang/String;Ljava/lang/String;IZIZ)V", sig := { parameters := [.int, (.object "java/lang/String"), (.object "java/lang/String"), .int, .boolean, .int, .boolean], returnType := none }, accessFlags := 0, code := some k11c0 }
def k11c1 : Code := { maxStack := 2, maxLocals := 1, code := prog_16_method_2_code, exceptionTable := #[], attributes := #[] }
def k11m1 : Method := { name := "modified", desc := "()Z", sig := { parameters := [], returnType := some .boolean }, accessFlags := 0, code := some k11c1 }
/-- com/example/scrivenmoor/scrivenmoor/ConversionPattern$Conversion -/
def k11 : Class := { plain "com/example/scrivenmoor/scrivenmoor/ConversionPattern$Conversion" (some 9) with
  accessFlags := 48
  interfaces := #[10]
  cf := some (fileOf pool11 8 #[.nestHost 63] #[{ accessFlags := 0, nameIndex := 5, descriptorIndex := 50, attributes := #[] }, { accessFlags := 0, nameIndex := 54, descriptorIndex := 55, attributes := #[] }] 48 2 #[48] #[{ accessFlags := 18, nameIndex := 11, descriptorIndex := 12, attributes := #[] }, { accessFlags := 18, nameIndex := 15, descriptorIndex := 16, attributes := #[] }, { accessFlags := 18, nameIndex := 19, descriptorIndex := 16, attributes := #[] }, { accessFlags := 18, nameIndex := 22, descriptorIndex := 12, attributes := #[] }, { accessFlags := 18, nameIndex := 25, descriptorIndex := 26, attributes := #[] }, { accessFlags := 18, nameIndex := 29, descriptorIndex := 12, attributes := #[] }, { accessFlags := 18, nameIndex := 32, descriptorIndex := 26, attributes := #[] }])
  fields := #[{ name := "position", type := .int, accessFlags := 18, slot := 0, constantValue := 0 }, { name := "word", type := (.object "java/lang/String"), accessFlags := 18, slot := 1, constantValue := 0 }, { name := "option", type := (.object "java/lang/String"), accessFlags := 18, slot := 2, constantValue := 0 }, { name := "minWidth", type := .int, accessFlags := 18, slot := 3, constantValue := 0 }, { name := "padRight", type := .boolean, accessFlags := 18, slot := 4, constantValue := 0 }, { name := "maxWidth", type := .int, accessFlags := 18, slot := 5, constantValue := 0 }, { name := "keepLeft", type := .boolean, accessFlags := 18, slot := 6, constantValue := 0 }]
  methods := #[k11m0, k11m1]
  instanceTypes := #[.int, (.object "java/lang/String"), (.object "java/lang/String"), .int, .boolean, .int, .boolean]
  staticTypes := #[]
  resolved := Array.replicate 91 none
  statics := none }

def pool12 : Array CpInfo := pool [(2, .class_ 4), (1, u "java/lang/Object"), (0, u "<init>"), (0, u "()V"), (17, .class_ 26), (1, u "jdk/internal/util/Preconditions"), (28, .class_ 56), (0, u "jdk/internal/util/Preconditions$4"), (57, .class_ 115), (0, u "jdk/internal/util/Preconditions$1"), (7, u "SIOOBE_FORMATTER"), (0, u "Ljava/util/function/BiFunction;"), (0, .class_ 126), (0, u "jdk/internal/util/Preconditions$2"), (3, u "AIOOBE_FORMATTER"), (0, .class_ 132), (0, u "jdk/internal/util/Preconditions$3"), (3, u "IOOBE_FORMATTER")] 57

def k12m0 : Method := { name := "<init>", desc := "()V", sig := { parameters := [], returnType := none }, accessFlags := 1, code := none }
/-- jdk/internal/util/Preconditions -/
def k12 : Class := { plain "jdk/internal/util/Preconditions" (some 0) with
  accessFlags := 33
  interfaces := #[]
  cf := some (fileOf pool12 24 #[.nestMembers #[55, 131, 125, 114]] #[{ accessFlags := 1, nameIndex := 5, descriptorIndex := 6, attributes := #[] }] 33 2 #[] #[{ accessFlags := 25, nameIndex := 123, descriptorIndex := 124, attributes := #[] }, { accessFlags := 25, nameIndex := 130, descriptorIndex := 124, attributes := #[] }, { accessFlags := 25, nameIndex := 136, descriptorIndex := 124, attributes := #[] }])
  fields := #[{ name := "SIOOBE_FORMATTER", type := (.object "java/util/function/BiFunction"), accessFlags := 25, slot := 0, constantValue := 0 }, { name := "AIOOBE_FORMATTER", type := (.object "java/util/function/BiFunction"), accessFlags := 25, slot := 1, constantValue := 0 }, { name := "IOOBE_FORMATTER", type := (.object "java/util/function/BiFunction"), accessFlags := 25, slot := 2, constantValue := 0 }]
  methods := #[k12m0]
  instanceTypes := #[]
  staticTypes := #[(.object "java/util/function/BiFunction"), (.object "java/util/function/BiFunction"), (.object "java/util/function/BiFunction")]
  resolved := Array.replicate 194 none
  statics := some 1 }

def pool13 : Array CpInfo := pool [(9, u "<init>"), (6, .class_ 18), (1, u "java/lang/Object"), (0, u "()V"), (1, .class_ 23), (1, u "jdk/internal/util/ArraysSupport"), (0, u "LOG2_ARRAY_LONG_INDEX_SCALE"), (0, u "I"), (2, u "U"), (0, u "Ljdk/internal/misc/Unsafe;"), (8, u "BIG_ENDIAN"), (0, u "Z"), (8, u "LOG2_BYTE_BIT_SIZE"), (4, u "LOG2_ARRAY_INT_INDEX_SCALE"), (54, u "JLA"), (0, u "Ljdk/internal/access/JavaLangAccess;"), (11, u "LOG2_ARRAY_BOOLEAN_INDEX_SCALE"), (9, u "LOG2_ARRAY_BYTE_INDEX_SCALE"), (5, u "LOG2_ARRAY_CHAR_INDEX_SCALE"), (5, u "LOG2_ARRAY_SHORT_INDEX_SCALE"), (18, u "LOG2_ARRAY_FLOAT_INDEX_SCALE"), (24, u "LOG2_ARRAY_DOUBLE_INDEX_SCALE"), (89, u "T_BOOLEAN"), (2, u "T_CHAR"), (1, u "T_FLOAT"), (1, u "T_DOUBLE"), (1, u "T_BYTE"), (1, u "T_SHORT"), (1, u "T_INT"), (1, u "T_LONG"), (1, u "SOFT_MAX_ARRAY_LENGTH")] 83

def k13m0 : Method := { name := "<init>", desc := "()V", sig := { parameters := [], returnType := none }, accessFlags := 2, code := none }
/-- jdk/internal/util/ArraysSupport -/
def k13 : Class := { plain "jdk/internal/util/ArraysSupport" (some 0) with
  accessFlags := 33
  interfaces := #[]
  cf := some (fileOf pool13 21 #[] #[{ accessFlags := 2, nameIndex := 9, descriptorIndex := 19, attributes := #[] }] 33 16 #[] #[{ accessFlags := 24, nameIndex := 28, descriptorIndex := 29, attributes := #[] }, { accessFlags := 26, nameIndex := 38, descriptorIndex := 39, attributes := #[] }, { accessFlags := 25, nameIndex := 121, descriptorIndex := 25, attributes := #[] }, { accessFlags := 25, nameIndex := 131, descriptorIndex := 25, attributes := #[] }, { accessFlags := 25, nameIndex := 137, descriptorIndex := 25, attributes := #[] }, { accessFlags := 25, nameIndex := 143, descriptorIndex := 25, attributes := #[] }, { accessFlags := 25, nameIndex := 53, descriptorIndex := 25, attributes := #[] }, { accessFlags := 25, nameIndex := 24, descriptorIndex := 25, attributes := #[] }, { accessFlags := 25, nameIndex := 162, descriptorIndex := 25, attributes := #[] }, { accessFlags := 25, nameIndex := 187, descriptorIndex := 25, attributes := #[] }, { accessFlags := 26, nameIndex := 48, descriptorIndex := 25, attributes := #[] }, { accessFlags := 25, nameIndex := 277, descriptorIndex := 25, attributes := #[] }, { accessFlags := 25, nameIndex := 280, descriptorIndex := 25, attributes := #[] }, { accessFlags := 25, nameIndex := 282, descriptorIndex := 25, attributes := #[] }, { accessFlags := 25, nameIndex := 284, descriptorIndex := 25, attributes := #[] }, { accessFlags := 25, nameIndex := 286, descriptorIndex := 25, attributes := #[] }, { accessFlags := 25, nameIndex := 288, descriptorIndex := 25, attributes := #[] }, { accessFlags := 25, nameIndex := 290, descriptorIndex := 25, attributes := #[] }, { accessFlags := 25, nameIndex := 292, descriptorIndex := 25, attributes := #[] }, { accessFlags := 26, nameIndex := 108, descriptorIndex := 109, attributes := #[] }, { accessFlags := 25, nameIndex := 294, descriptorIndex := 25, attributes := #[] }])
  fields := #[{ name := "U", type := (.object "jdk/internal/misc/Unsafe"), accessFlags := 24, slot := 0, constantValue := 0 }, { name := "BIG_ENDIAN", type := .boolean, accessFlags := 26, slot := 1, constantValue := 0 }, { name := "LOG2_ARRAY_BOOLEAN_INDEX_SCALE", type := .int, accessFlags := 25, slot := 2, constantValue := 0 }, { name := "LOG2_ARRAY_BYTE_INDEX_SCALE", type := .int, accessFlags := 25, slot := 3, constantValue := 0 }, { name := "LOG2_ARRAY_CHAR_INDEX_SCALE", type := .int, accessFlags := 25, slot := 4, constantValue := 0 }, { name := "LOG2_ARRAY_SHORT_INDEX_SCALE", type := .int, accessFlags := 25, slot := 5, constantValue := 0 }, { name := "LOG2_ARRAY_INT_INDEX_SCALE", type := .int, accessFlags := 25, slot := 6, constantValue := 0 }, { name := "LOG2_ARRAY_LONG_INDEX_SCALE", type := .int, accessFlags := 25, slot := 7, constantValue := 0 }, { name := "LOG2_ARRAY_FLOAT_INDEX_SCALE", type := .int, accessFlags := 25, slot := 8, constantValue := 0 }, { name := "LOG2_ARRAY_DOUBLE_INDEX_SCALE", type := .int, accessFlags := 25, slot := 9, constantValue := 0 }, { name := "LOG2_BYTE_BIT_SIZE", type := .int, accessFlags := 26, slot := 10, constantValue := 0 }, { name := "T_BOOLEAN", type := .int, accessFlags := 25, slot := 11, constantValue := 0 }, { name := "T_CHAR", type := .int, accessFlags := 25, slot := 12, constantValue := 0 }, { name := "T_FLOAT", type := .int, accessFlags := 25, slot := 13, constantValue := 0 }, { name := "T_DOUBLE", type := .int, accessFlags := 25, slot := 14, constantValue := 0 }, { name := "T_BYTE", type := .int, accessFlags := 25, slot := 15, constantValue := 0 }, { name := "T_SHORT", type := .int, accessFlags := 25, slot := 16, constantValue := 0 }, { name := "T_INT", type := .int, accessFlags := 25, slot := 17, constantValue := 0 }, { name := "T_LONG", type := .int, accessFlags := 25, slot := 18, constantValue := 0 }, { name := "JLA", type := (.object "jdk/internal/access/JavaLangAccess"), accessFlags := 26, slot := 19, constantValue := 0 }, { name := "SOFT_MAX_ARRAY_LENGTH", type := .int, accessFlags := 25, slot := 20, constantValue := 0 }]
  methods := #[k13m0]
  instanceTypes := #[]
  staticTypes := #[(.object "jdk/internal/misc/Unsafe"), .boolean, .int, .int, .int, .int, .int, .int, .int, .int, .int, .int, .int, .int, .int, .int, .int, .int, .int, (.object "jdk/internal/access/JavaLangAccess"), .int]
  resolved := Array.replicate 378 none
  statics := none }

def pool14 : Array CpInfo := pool [(1, u "java/lang/Cloneable"), (0, .class_ 1), (0, u "java/lang/Object"), (0, .class_ 3)] 3

/-- java/lang/Cloneable -/
def k14 : Class := { plain "java/lang/Cloneable" (some 0) with
  accessFlags := 1537
  interfaces := #[]
  cf := some (fileOf pool14 2 #[] #[] 1537 4 #[] #[])
  fields := #[]
  methods := #[]
  instanceTypes := #[]
  staticTypes := #[]
  resolved := Array.replicate 8 none
  statics := none }

/-- the primitive byte -/
def k15 : Class := { plain "byte" none with kind := .primitive 'B', accessFlags := 0x411 }
/-- [B -/
def k16 : Class := { plain "[B" (some 0) with kind := .array 15 .byte, interfaces := #[14, 2], accessFlags := 1041 }

/-- the primitive int -/
def k17 : Class := { plain "int" none with kind := .primitive 'I', accessFlags := 0x411 }
/-- [I -/
def k18 : Class := { plain "[I" (some 0) with kind := .array 17 .int, interfaces := #[14, 2], accessFlags := 1041 }

def heap : Heap := #[{ cls := 7, slots := #[.long 0, .int 1, .null, .int 0, .null, .int 0, .int 0], vm := .statics 7 },
  { cls := 12, slots := #[.null, .null, .null], vm := .statics 12 }]
def classes : Array Class := #[k0, k1, k2, k3, k4, k5, k6, k7, k8, k9, k10, k11, k12, k13, k14, k15, k16, k17, k18]
def interned : List (Array UInt16 × Addr) := []
def slotsUsed : Nat := 10
def theMethod : MethodId := ⟨1, 1⟩
def args0 : Array Value := #[.int 1, .int 2, .int 3, .int 4, .int 5]
def aboutOver (below : List Frame) : State where
  vm := { classes := classes, interned := interned.toArray }
  heap := heap
  slotsUsed := slotsUsed
  threads := #[{ frames := .invoking theMethod args0 :: below }]
def below0 : List Frame := [.native { method := ⟨0, 0⟩, args := #[] }]
def about1 : State := aboutOver below0
def p0 : Program := .bare "" "" ""
def e0 : Env := launch0.env 0 0 0
theorem w_frames : about1.frames = Frame.invoking theMethod args0 :: below0 := rfl
set_option maxRecDepth 65536 in
theorem w_args : argsFit about1.vm theMethod args0 = true := by decide +kernel
set_option maxRecDepth 65536 in
theorem w_heap : heapFits about1 = true := by decide +kernel
set_option maxRecDepth 65536 in
theorem w_runnable : about1.curStatus? = some .runnable := by decide +kernel
set_option maxRecDepth 65536 in
theorem w_alone : about1.alone = true := by decide +kernel
set_option maxRecDepth 65536 in
theorem w_named : about1.methodNamed? x = some theMethod := by decide +kernel
set_option maxRecDepth 65536 in
theorem w_hears : about1.hears theMethod below0 = true := by decide +kernel
set_option maxRecDepth 65536 in
theorem w_ripe : about1.ripe theMethod args0 below0 = true := by decide +kernel
theorem w_running : about1.status = .running := rfl
set_option maxRecDepth 65536 in
theorem w_room : about1.hasRoom e0.platform room_1 = true :=
  launch0.hasRoom_least _ room_1 (by decide +kernel) (by decide +kernel) (by decide +kernel) (by decide +kernel) (by decide +kernel) (by decide +kernel)
theorem allAtoms_all (ts : List Jvm.Cond) (a : Array Jvm.Value) (st : Jvm.State) : (allAtoms ts).before a st = ts.all (fun c => c.before a st) := by
  induction ts with
  | nil => rfl
  | cons c t ih =>
    show (Jvm.Cond.and c (allAtoms t)).before a st = _
    rw [Jvm.Cond.before_and, ih, List.all_cons]
def words1 : List Jvm.Cond := Jvm.Cond.code x code maxLocals ret :: tables_1
/-- a 'code' word, met by the world's own term for the bytes: nothing is compared byte by byte -/
theorem code_word {y : MethodName} {bytes : ByteArray} {mx : Nat} {rt : Option FieldType} {a : Array Value} {s : State} {m : MethodId} {meth : Method} {c : Code} (h1 : s.methodNamed? y = some m) (h2 : s.vm.method? m = some meth) (h3 : meth.code = some c) (h4 : c.code = bytes)
    (h5 : (c.maxLocals == mx && c.exceptionTable.isEmpty && decide (c.maxStack ≤ mostOperands) && decide (meth.sig.returnType = rt) && !meth.locks && decide (parseMethodDescriptor y.desc = some meth.sig)) = true) : (Jvm.Cond.code y bytes mx rt).before a s = true := by
  simp only [Bool.and_eq_true, beq_iff_eq, Bool.not_eq_true', decide_eq_true_eq] at h5
  obtain ⟨⟨⟨⟨⟨g1, g2⟩, g3⟩, g4⟩, g5⟩, g6⟩ := h5
  simp [Cond.before, Cond.holds, Cond.value, h1, h2, h3, h4, g1, g2, g3, g4, g5, g6]
def isCode : Jvm.Cond → Bool
  | .code _ _ _ _ => true
  | _ => false
theorem all_split {L : List Jvm.Cond} {P : Jvm.Cond → Bool} (h1 : L.all (fun c => isCode c || P c) = true) (h2 : ∀ c ∈ L.filter isCode, P c = true) : L.all P = true := by
  refine List.all_eq_true.mpr fun c hc => ?_
  have h := List.all_eq_true.mp h1 c hc
  rcases Bool.eq_false_or_eq_true (isCode c) with hi | hi
  · exact h2 c (List.mem_filter.mpr ⟨hc, hi⟩)
  · simpa [hi] using h
set_option maxRecDepth 65536 in
theorem w_c0 : (Jvm.Cond.code x code maxLocals ret).before args0 about1 = true := code_word (m := ⟨1, 1⟩) (meth := k1m1) (c := k1c1) (by decide +kernel) rfl rfl rfl (by decide +kernel)
set_option maxRecDepth 65536 in
theorem w_c1 : (Jvm.Cond.code ({ cls := "java/lang/String", name := "valueOf", desc := "(C)Ljava/lang/String;" } : Jvm.MethodName) jdk_42_method_139_code (1 : Nat) (Option.some (Jvm.ClassFile.FieldType.object "java/lang/String"))).before args0 about1 = true := code_word (m := ⟨7, 1⟩) (meth := k7m1) (c := k7c1) (by decide +kernel) rfl rfl rfl (by decide +kernel)
set_option maxRecDepth 65536 in
theorem w_c2 : (Jvm.Cond.code ({ cls := "java/lang/StringLatin1", name := "canEncode", desc := "(C)Z" } : Jvm.MethodName) jdk_43_method_3_code (1 : Nat) (Option.some Jvm.ClassFile.FieldType.boolean)).before args0 about1 = true := code_word (m := ⟨8, 1⟩) (meth := k8m1) (c := k8c1) (by decide +kernel) rfl rfl rfl (by decide +kernel)
set_option maxRecDepth 65536 in
theorem w_c3 : (Jvm.Cond.code ({ cls := "java/lang/StringLatin1", name := "toBytes", desc := "(C)[B" } : Jvm.MethodName) jdk_43_method_46_code (1 : Nat) (Option.some (Jvm.ClassFile.FieldType.array Jvm.ClassFile.FieldType.byte))).before args0 about1 = true := code_word (m := ⟨8, 2⟩) (meth := k8m2) (c := k8c2) (by decide +kernel) rfl rfl rfl (by decide +kernel)
set_option maxRecDepth 65536 in
theorem w_c4 : (Jvm.Cond.code ({ cls := "java/lang/String", name := "<init>", desc := "([BB)V" } : Jvm.MethodName) jdk_42_method_151_code (3 : Nat) (Option.none : Option Jvm.ClassFile.FieldType)).before args0 about1 = true := code_word (m := ⟨7, 2⟩) (meth := k7m2) (c := k7c2) (by decide +kernel) rfl rfl rfl (by decide +kernel)
set_option maxRecDepth 65536 in
theorem w_c5 : (Jvm.Cond.code ({ cls := "java/lang/Object", name := "<init>", desc := "()V" } : Jvm.MethodName) object_method_1_code (1 : Nat) (Option.none : Option Jvm.ClassFile.FieldType)).before args0 about1 = true := code_word (m := ⟨0, 0⟩) (meth := k0m0) (c := k0c0) (by decide +kernel) rfl rfl rfl (by decide +kernel)
set_option maxRecDepth 65536 in
theorem w_c6 : (Jvm.Cond.code ({ cls := "com/example/scrivenmoor/scrivenmoor/ConversionPattern$Conversion", name := "<init>", desc := "(ILjava/lang/String;Ljava/lang/String;IZIZ)V" } : Jvm.MethodName) prog_16_method_1_code (8 : Nat) (Option.none : Option Jvm.ClassFile.FieldType)).before args0 about1 = true := code_word (m := ⟨11, 0⟩) (meth := k11m0) (c := k11c0) (by decide +kernel) rfl rfl rfl (by decide +kernel)
set_option maxRecDepth 65536 in
theorem w_c7 : (Jvm.Cond.code ({ cls := "java/lang/Record", name := "<init>", desc := "()V" } : Jvm.MethodName) jdk_30_method_1_code (1 : Nat) (Option.none : Option Jvm.ClassFile.FieldType)).before args0 about1 = true := code_word (m := ⟨9, 0⟩) (meth := k9m0) (c := k9c0) (by decide +kernel) rfl rfl rfl (by decide +kernel)
set_option maxRecDepth 65536 in
theorem w_c8 : (Jvm.Cond.code ({ cls := "com/example/scrivenmoor/scrivenmoor/ConversionPattern$Conversion", name := "modified", desc := "()Z" } : Jvm.MethodName) prog_16_method_2_code (1 : Nat) (Option.some Jvm.ClassFile.FieldType.boolean)).before args0 about1 = true := code_word (m := ⟨11, 1⟩) (meth := k11m1) (c := k11c1) (by decide +kernel) rfl rfl rfl (by decide +kernel)
def codes1 : List Jvm.Cond := [Jvm.Cond.code x code maxLocals ret, Jvm.Cond.code ({ cls := "java/lang/String", name := "valueOf", desc := "(C)Ljava/lang/String;" } : Jvm.MethodName) jdk_42_method_139_code (1 : Nat) (Option.some (Jvm.ClassFile.FieldType.object "java/lang/String")), Jvm.Cond.code ({ cls := "java/lang/StringLatin1", name := "canEncode", desc := "(C)Z" } : Jvm.MethodName) jdk_43_method_3_code (1 : Nat) (Option.some Jvm.ClassFile.FieldType.boolean), Jvm.Cond.code ({ cls := "java/lang/StringLatin1", name := "toBytes", desc := "(C)[B" } : Jvm.MethodName) jdk_43_method_46_code (1 : Nat) (Option.some (Jvm.ClassFile.FieldType.array Jvm.ClassFile.FieldType.byte)), Jvm.Cond.code ({ cls := "java/lang/String", name := "<init>", desc := "([BB)V" } : Jvm.MethodName) jdk_42_method_151_code (3 : Nat) (Option.none : Option Jvm.ClassFile.FieldType), Jvm.Cond.code ({ cls := "java/lang/Object", name := "<init>", desc := "()V" } : Jvm.MethodName) object_method_1_code (1 : Nat) (Option.none : Option Jvm.ClassFile.FieldType), Jvm.Cond.code ({ cls := "com/example/scrivenmoor/scrivenmoor/ConversionPattern$Conversion", name := "<init>", desc := "(ILjava/lang/String;Ljava/lang/String;IZIZ)V" } : Jvm.MethodName) prog_16_method_1_code (8 : Nat) (Option.none : Option Jvm.ClassFile.FieldType), Jvm.Cond.code ({ cls := "java/lang/Record", name := "<init>", desc := "()V" } : Jvm.MethodName) jdk_30_method_1_code (1 : Nat) (Option.none : Option Jvm.ClassFile.FieldType), Jvm.Cond.code ({ cls := "com/example/scrivenmoor/scrivenmoor/ConversionPattern$Conversion", name := "modified", desc := "()Z" } : Jvm.MethodName) prog_16_method_2_code (1 : Nat) (Option.some Jvm.ClassFile.FieldType.boolean)]
set_option maxRecDepth 65536 in
theorem codes_eq : words1.filter isCode = codes1 := rfl
theorem w_codes : ∀ c ∈ words1.filter isCode, c.before args0 about1 = true := by
  rw [codes_eq]
  intro c hc
  simp only [codes1, List.mem_cons, List.not_mem_nil, or_false] at hc
  rcases hc with rfl | rfl | rfl | rfl | rfl | rfl | rfl | rfl | rfl
  · exact w_c0
  · exact w_c1
  · exact w_c2
  · exact w_c3
  · exact w_c4
  · exact w_c5
  · exact w_c6
  · exact w_c7
  · exact w_c8
set_option maxRecDepth 65536 in
theorem w_t1 : (words1.take 24).all (fun c => isCode c || c.before args0 about1) = true := by decide +kernel
set_option maxRecDepth 65536 in
theorem w_t2 : ((words1.drop 24).take 24).all (fun c => isCode c || c.before args0 about1) = true := by decide +kernel
set_option maxRecDepth 65536 in
theorem w_t3 : ((words1.drop 24).drop 24).all (fun c => isCode c || c.before args0 about1) = true := by decide +kernel
theorem w_tables : (allAtoms (Jvm.Cond.code x code maxLocals ret :: tables_1)).before args0 about1 = true := by
  rw [allAtoms_all]
  show words1.all (fun c => c.before args0 about1) = true
  refine all_split ?_ w_codes
  rw [← List.take_append_drop 24 words1, List.all_append, w_t1, ← List.take_append_drop 24 (words1.drop 24), List.all_append, w_t2, w_t3]
  rfl
set_option maxRecDepth 65536 in
theorem w_rest : rest_1_c.before args0 about1 = true := by decide +kernel
set_option maxRecDepth 65536 in
theorem w_case : (Jvm.Cond.and given_1 narrow_1).before args0 about1 = true := by decide +kernel
theorem w_applies : (headSpec (Jvm.Cond.code x code maxLocals ret :: tables_1) room_1).applies x e0.platform about1 = true :=
  (Spec.applies_iff w_frames).mpr ⟨w_running, w_runnable, w_alone, w_named, w_hears, w_ripe, w_room, w_tables⟩
theorem atStart : AtStart classFile x code maxLocals ret World_1 tables_1 room_1 Calls_1 rest_1 Pre_1 launch0 p0 e0 about1 theMethod args0 below0 :=
  ⟨lists_1, trivial, launch0.admits_env _ _ _, launch0.least_env, fairChoices_fair.cas, fairChoices_fair.clock, w_frames, w_args, w_heap, w_applies, trivial, w_rest, w_case⟩
end start1
theorem witness_1 : WitnessClaimed_1 := ⟨start1.p0, start1.e0, start1.about1, start1.theMethod, start1.args0, start1.below0, start1.atStart⟩
end Jvm.Pilot.@@N@@
