import JvmDerived
import JvmDerived.Pilot.@@N@@Statement
import JvmDerived.Pilot.@@N@@Code
set_option linter.unusedVariables false
set_option linter.unusedSimpArgs false
namespace Jvm.Pilot.@@N@@
open Jvm Jvm.ClassFile Sem Op Lib Jvm.Free Jvm.Stand Jvm.LawKit Jvm.RoadKit Bundle Jvm.Pilot.@@N@@.Jvm.D
theorem own_Sta_keep {Z : State} {h h' : Heap} {C n d : String} {v : Value} {ws : List Addr} (F : Sta Z h C n d v) (K : Keep h h' ws) (q : ∀ a ∈ ws, ∃ c : Cell, h[a]? = some c ∧ c.vm.isStatics = false) : Sta Z h' C n d v := by
  obtain ⟨cf, i, k, f, st, cell, h1, h2, h3, h4, h5, h6, h7⟩ := F
  refine ⟨cf, i, k, f, st, cell, h1, h2, h3, h4, K.2.1 st cell h5 (fun z => ?_), h6, h7⟩
  obtain ⟨c, e1, e2⟩ := q st z
  cases h5.symm.trans e1
  rw [e2] at h6
  cases h6
theorem own_fld_int {args : Array Value} {s : State} {tm : Term} {O f d : String} {t : Addr} {z : Int32} (ev : tm.eval args s none [] s = some (.ref t)) (h : (Jvm.Cond.eq (Term.field tm O f d) (Term.int z)).value args s none s [] = some true) : Fld s s.heap t O f d (.int z) := by
  have e2 : (Term.int z).eval args s none [] s = some (.int z) := Term.int_eval z
  refine Fld.start ?_
  cases e1 : s.fieldOf? t O f d with
  | none => simp [Jvm.Cond.value, fld_at ev, e1, e2] at h
  | some x => cases x <;> simp [Jvm.Cond.value, fld_at ev, e1, e2] at h ⊢ <;> exact h
theorem own_fld_ref {args : Array Value} {s : State} {tm tm' : Term} {O f d : String} {t t' : Addr} (ev : tm.eval args s none [] s = some (.ref t)) (ev' : tm'.eval args s none [] s = some (.ref t')) (h : (Jvm.Cond.eq (Term.field tm O f d) tm').value args s none s [] = some true) : Fld s s.heap t O f d (.ref t') := by
  refine Fld.start ?_
  cases e1 : s.fieldOf? t O f d with
  | none => simp [Jvm.Cond.value, fld_at ev, e1, ev'] at h
  | some x => cases x <;> simp [Jvm.Cond.value, fld_at ev, e1, ev'] at h ⊢ <;> exact h
theorem own_fits {v : Value} (h : v.isRef = true) {t : FieldType} (ht : t.isReference = true) : fits t v = true := by cases t <;> cases v <;> simp_all [fits, Value.isRef, FieldType.isReference]
section Layer
variable {p : Program} {l : Launch} {e : Env} {R : Room} {s : State} {m : MethodId} {args : Array Value} {below : List Frame} {meth : Method} {c : Code} {T : State} {locs : List Loc} {cells slots : Nat}
/-- the walk from σ comes to an end at which K holds -/
def Go (p : Program) (e : Env) (below : List Frame) (K : State → Outcome → Prop) (σ : State) : Prop := ∃ s₂ o, Steps p.tables e below σ s₂ ∧ K s₂ o
theorem Go.st {K : State → Outcome → Prop} {σ σ' : State} (h : ∀ t, Steps p.tables e below σ' t → Steps p.tables e below σ t) (k : Go p e below K σ') : Go p e below K σ := by
  obtain ⟨a, b, c, d⟩ := k
  exact ⟨a, b, h _ c, d⟩
theorem Go.tr {K : State → Outcome → Prop} {σ σ' : State} (h : Steps p.tables e below σ σ') (k : Go p e below K σ') : Go p e below K σ := Go.st (fun _ q => h.trans q) k
/-- what a contract asks of the end -/
def KQ (s : State) (below : List Frame) (Q : Option Value → Heap → List Loc → Prop) (C S : Nat) (s₂ : State) (o : Outcome) : Prop :=
  s₂.status = .running ∧ Ended s₂ below o ∧ ∃ v L, o = .returned v ∧ Q v s₂.heap L ∧ FrameEnd s o s₂ L C S
theorem Go.body {K : State → Outcome → Prop} {σ : State} {g g' : JFrame} (hg : g = g') (k : Go p e below K (T.setTop g')) : Go p e below K (T.setTop g) := hg ▸ k
/-- return of nothing -/
theorem Go.retV {Q : Option Value → Heap → List Loc → Prop} {C S : Nat} (X : Stand p l e R s m args below meth c T locs cells slots) (hx : p.tables.exec = Jvm.exec) (hlk : meth.locks = false) (hret : meth.sig.returnType = none) {pc : Nat} {Ls : Array Slot} (hd : decode c.code pc = .ok (.return_, 1)) (hC : cells ≤ C) (hS : slots ≤ S) (q : Q none T.heap locs) :
    Go p e below (KQ s below Q C S) (T.setTop (mkF m pc Ls [])) := by
  obtain ⟨fs, hr, hrun, hended, hW, hsame⟩ := X.leave (v := none) (fun _ => rfl)
  exact ⟨_, _, X.returnOut hx hret hd hr, hrun, hended, _, _, rfl, q, ⟨_, rfl⟩, hW, hsame.mono hC hS⟩
/-- return of an int -/
theorem Go.retI {Q : Option Value → Heap → List Loc → Prop} {C S : Nat} (X : Stand p l e R s m args below meth c T locs cells slots) (hx : p.tables.exec = Jvm.exec) (hlk : meth.locks = false) (hret : meth.sig.returnType = some .int) {pc : Nat} {Ls : Array Slot} {z : Int32} {rest : List Value} (hd : decode c.code pc = .ok (.ireturn, 1)) (hC : cells ≤ C) (hS : slots ≤ S) (q : Q (some (.int z)) T.heap locs) :
    Go p e below (KQ s below Q C S) (T.setTop (mkF m pc Ls (.int z :: rest))) := by
  obtain ⟨fs, hr, hrun, hended, hW, hsame⟩ := X.leave (v := some (.int z)) (fun h => by rw [hret] at h; cases h)
  exact ⟨_, _, retOut X hx hret rfl (Or.inl ⟨rfl, Or.inl rfl, _, rfl⟩) hd hr, hrun, hended, _, _, rfl, q, ⟨_, rfl⟩, hW, hsame.mono hC hS⟩
/-- return of a boolean, byte, char or short -/
theorem Go.retN {Q : Option Value → Heap → List Loc → Prop} {C S : Nat} (X : Stand p l e R s m args below meth c T locs cells slots) (hx : p.tables.exec = Jvm.exec) (hlk : meth.locks = false) {t : FieldType} (hret : meth.sig.returnType = some t) (ht : t = .boolean ∨ t = .byte ∨ t = .char ∨ t = .short) {pc : Nat} {Ls : Array Slot} {z : Int32} {rest : List Value} (hd : decode c.code pc = .ok (.ireturn, 1)) (hC : cells ≤ C) (hS : slots ≤ S) (q : Q (some (.int (nar t z))) T.heap locs) :
    Go p e below (KQ s below Q C S) (T.setTop (mkF m pc Ls (.int z :: rest))) := by
  obtain ⟨fs, hr, hrun, hended, hW, hsame⟩ := X.leave (v := some (.int (nar t z))) (fun h => by rw [hret] at h; cases h)
  exact ⟨_, _, RoadKit.retN X hx hret ht hd hr, hrun, hended, _, _, rfl, q, ⟨_, rfl⟩, hW, hsame.mono hC hS⟩
/-- return of a reference -/
theorem Go.retA {Q : Option Value → Heap → List Loc → Prop} {C S : Nat} (X : Stand p l e R s m args below meth c T locs cells slots) (hx : p.tables.exec = Jvm.exec) (hlk : meth.locks = false) {t : FieldType} (hret : meth.sig.returnType = some t) (ht : t.isReference = true) {pc : Nat} {Ls : Array Slot} {w : Value} (hw : w.isRef = true) {rest : List Value} (hd : decode c.code pc = .ok (.areturn, 1)) (hC : cells ≤ C) (hS : slots ≤ S) (q : Q (some w) T.heap locs) :
    Go p e below (KQ s below Q C S) (T.setTop (mkF m pc Ls (w :: rest))) := by
  obtain ⟨fs, hr, hrun, hended, hW, hsame⟩ := X.leave (v := some w) (fun h => by rw [hret] at h; cases h)
  exact ⟨_, _, retOut X hx hret (by cases t <;> cases w <;> simp_all [narrow, Value.isRef, FieldType.isReference]) (Or.inr (Or.inr (Or.inr (Or.inr ⟨rfl, ht, hw⟩)))) hd hr, hrun, hended, _, _, rfl, q, ⟨_, rfl⟩, hW, hsame.mono hC hS⟩
/-- return of a long -/
theorem Go.retJ {Q : Option Value → Heap → List Loc → Prop} {C S : Nat} (X : Stand p l e R s m args below meth c T locs cells slots) (hx : p.tables.exec = Jvm.exec) (hlk : meth.locks = false) (hret : meth.sig.returnType = some .long) {pc : Nat} {Ls : Array Slot} {z : Int64} {rest : List Value} (hd : decode c.code pc = .ok (.lreturn, 1)) (hC : cells ≤ C) (hS : slots ≤ S) (q : Q (some (.long z)) T.heap locs) :
    Go p e below (KQ s below Q C S) (T.setTop (mkF m pc Ls (.long z :: rest))) := by
  obtain ⟨fs, hr, hrun, hended, hW, hsame⟩ := X.leave (v := some (.long z)) (fun h => by rw [hret] at h; cases h)
  exact ⟨_, _, retOut X hx hret rfl (Or.inr (Or.inl ⟨rfl, rfl, _, rfl⟩)) hd hr, hrun, hended, _, _, rfl, q, ⟨_, rfl⟩, hW, hsame.mono hC hS⟩
/-- return of a double -/
theorem Go.retD {Q : Option Value → Heap → List Loc → Prop} {C S : Nat} (X : Stand p l e R s m args below meth c T locs cells slots) (hx : p.tables.exec = Jvm.exec) (hlk : meth.locks = false) (hret : meth.sig.returnType = some .double) {pc : Nat} {Ls : Array Slot} {z : UInt64} {rest : List Value} (hd : decode c.code pc = .ok (.dreturn, 1)) (hC : cells ≤ C) (hS : slots ≤ S) (q : Q (some (.double z)) T.heap locs) :
    Go p e below (KQ s below Q C S) (T.setTop (mkF m pc Ls (.double z :: rest))) := by
  obtain ⟨fs, hr, hrun, hended, hW, hsame⟩ := X.leave (v := some (.double z)) (fun h => by rw [hret] at h; cases h)
  exact ⟨_, _, retOut X hx hret rfl (Or.inr (Or.inr (Or.inl ⟨rfl, rfl, _, rfl⟩))) hd hr, hrun, hended, _, _, rfl, q, ⟨_, rfl⟩, hW, hsame.mono hC hS⟩
theorem g_iloadN {K : State → Outcome → Prop} (X : Stand p l e R s m args below meth c T locs cells slots) (hx : p.tables.exec = Jvm.exec) {pc : Nat} {L : Array Slot} {S : List Value} {k : Fin 4} {v : Int32} (hd : decode c.code pc = .ok (.iload_n k, 1)) (pc' : Nat) (hp : pc + 1 = pc') (hl : L[k.val]? = some (.val (.int v))) (r : Go p e below K (T.setTop (mkF m pc' L (.int v :: S)))) : Go p e below K (T.setTop (mkF m pc L S)) := by
  subst hp
  exact Go.st (fun _ => XS.iloadN X.here hx rfl hd hl) r
theorem g_aloadN {K : State → Outcome → Prop} (X : Stand p l e R s m args below meth c T locs cells slots) (hx : p.tables.exec = Jvm.exec) {pc : Nat} {L : Array Slot} {S : List Value} {k : Fin 4} {v : Value} (hd : decode c.code pc = .ok (.aload_n k, 1)) (pc' : Nat) (hp : pc + 1 = pc') (hl : L[k.val]? = some (.val v)) (hv : v.isRef = true) (r : Go p e below K (T.setTop (mkF m pc' L (v :: S)))) : Go p e below K (T.setTop (mkF m pc L S)) := by
  subst hp
  exact Go.st (fun _ => XS.aloadN X.here hx rfl hd hl hv) r
theorem g_istoreN {K : State → Outcome → Prop} (X : Stand p l e R s m args below meth c T locs cells slots) (hx : p.tables.exec = Jvm.exec) {pc : Nat} {L : Array Slot} {S : List Value} {k : Fin 4} {v : Int32} (hd : decode c.code pc = .ok (.istore_n k, 1)) (pc' : Nat) (hp : pc + 1 = pc') (L' : Array Slot) (hl : storeLocals L k.val (.int v) = some L') (r : Go p e below K (T.setTop (mkF m pc' L' S))) : Go p e below K (T.setTop (mkF m pc L (.int v :: S))) := by
  subst hp
  exact Go.st (fun _ => XS.istoreN X.here hx rfl hd rfl hl) r
theorem g_astoreN {K : State → Outcome → Prop} (X : Stand p l e R s m args below meth c T locs cells slots) (hx : p.tables.exec = Jvm.exec) {pc : Nat} {L : Array Slot} {S : List Value} {k : Fin 4} {v : Value} (hd : decode c.code pc = .ok (.astore_n k, 1)) (pc' : Nat) (hp : pc + 1 = pc') (hv : v.isRef = true) (L' : Array Slot) (hl : storeLocals L k.val v = some L') (r : Go p e below K (T.setTop (mkF m pc' L' S))) : Go p e below K (T.setTop (mkF m pc L (v :: S))) := by
  subst hp
  exact Go.st (fun _ => XS.astoreN X.here hx rfl hd rfl hv hl) r
theorem g_iconst {K : State → Outcome → Prop} (X : Stand p l e R s m args below meth c T locs cells slots) (hx : p.tables.exec = Jvm.exec) {pc : Nat} {L : Array Slot} {S : List Value} {i : Int} (hd : decode c.code pc = .ok (.iconst i, 1)) (pc' : Nat) (hp : pc + 1 = pc') (z : Int32) (hz : Int32.ofInt i = z) (r : Go p e below K (T.setTop (mkF m pc' L (.int z :: S)))) : Go p e below K (T.setTop (mkF m pc L S)) := by
  subst hp; subst hz
  exact Go.st (fun _ => XS.iconst X.here hx rfl hd) r
theorem g_bipush {K : State → Outcome → Prop} (X : Stand p l e R s m args below meth c T locs cells slots) (hx : p.tables.exec = Jvm.exec) {pc : Nat} {L : Array Slot} {S : List Value} {i : Int} (hd : decode c.code pc = .ok (.bipush i, 2)) (pc' : Nat) (hp : pc + 2 = pc') (z : Int32) (hz : (Int8.ofInt i).toInt32 = z) (r : Go p e below K (T.setTop (mkF m pc' L (.int z :: S)))) : Go p e below K (T.setTop (mkF m pc L S)) := by
  subst hp; subst hz
  exact Go.st (fun _ => XS.bipush X.here hx rfl hd) r
theorem g_iand {K : State → Outcome → Prop} (X : Stand p l e R s m args below meth c T locs cells slots) (hx : p.tables.exec = Jvm.exec) {pc : Nat} {L : Array Slot} {S : List Value} {x y : Int32} (hd : decode c.code pc = .ok (.iand, 1)) (pc' : Nat) (hp : pc + 1 = pc') (z : Int32) (hz : x &&& y = z) (r : Go p e below K (T.setTop (mkF m pc' L (.int z :: S)))) : Go p e below K (T.setTop (mkF m pc L (.int y :: .int x :: S))) := by
  subst hp; subst hz
  exact Go.st (fun _ => XS.iand X.here hx rfl hd rfl) r
theorem g_irem {K : State → Outcome → Prop} (X : Stand p l e R s m args below meth c T locs cells slots) (hx : p.tables.exec = Jvm.exec) {pc : Nat} {L : Array Slot} {S : List Value} {x y : Int32} (hd : decode c.code pc = .ok (.irem, 1)) (pc' : Nat) (hp : pc + 1 = pc') (hy : y ≠ 0) (z : Int32) (hz : x % y = z) (r : Go p e below K (T.setTop (mkF m pc' L (.int z :: S)))) : Go p e below K (T.setTop (mkF m pc L (.int y :: .int x :: S))) := by
  subst hp; subst hz
  exact Go.st (fun _ => iremM X hx rfl hd rfl hy) r
theorem g_dup {K : State → Outcome → Prop} (X : Stand p l e R s m args below meth c T locs cells slots) (hx : p.tables.exec = Jvm.exec) {pc : Nat} {L : Array Slot} {S : List Value} {x : Value} (hd : decode c.code pc = .ok (.dup, 1)) (pc' : Nat) (hp : pc + 1 = pc') (hc : x.category = 1) (r : Go p e below K (T.setTop (mkF m pc' L (x :: x :: S)))) : Go p e below K (T.setTop (mkF m pc L (x :: S))) := by
  subst hp
  exact Go.st (fun _ => XS.dup X.here hx rfl hd rfl hc) r
theorem g_goto {K : State → Outcome → Prop} (X : Stand p l e R s m args below meth c T locs cells slots) (hx : p.tables.exec = Jvm.exec) {pc : Nat} {L : Array Slot} {S : List Value} {o : Int} (hd : decode c.code pc = .ok (.goto o, 3)) (pc' : Nat) (h0 : 0 ≤ (pc : Int) + o) (hp : ((pc : Int) + o).toNat = pc') (r : Go p e below K (T.setTop (mkF m pc' L S))) : Go p e below K (T.setTop (mkF m pc L S)) :=
  Go.st (fun _ => XS.goto X.here hx rfl (pc0 := pc) rfl hd h0 hp) r
theorem g_icmp {K : State → Outcome → Prop} (X : Stand p l e R s m args below meth c T locs cells slots) (hx : p.tables.exec = Jvm.exec) {pc : Nat} {L : Array Slot} {S : List Value} {cd : ClassFile.Cond} {o : Int} {x y : Int32} (hd : decode c.code pc = .ok (.if_icmp cd o, 3)) (pc1 pc2 : Nat) (h0 : 0 ≤ (pc : Int) + o) (h1 : ((pc : Int) + o).toNat = pc1) (h2 : pc + 3 = pc2) (yes : if_icmp.holds cd x y = true → Go p e below K (T.setTop (mkF m pc1 L S))) (no : if_icmp.holds cd x y = false → Go p e below K (T.setTop (mkF m pc2 L S))) : Go p e below K (T.setTop (mkF m pc L (.int y :: .int x :: S))) := by
  subst h2
  cases hc : if_icmp.holds cd x y with
  | true => exact Go.st (fun _ => XS.icmpYes X.here hx rfl (pc0 := pc) rfl hd rfl hc h0 h1) (yes hc)
  | false => exact Go.st (fun _ => XS.icmpNo X.here hx rfl hd rfl hc) (no hc)
theorem g_icmp_ne {K : State → Outcome → Prop} (X : Stand p l e R s m args below meth c T locs cells slots) (hx : p.tables.exec = Jvm.exec) {pc : Nat} {L : Array Slot} {S : List Value} {o : Int} {x y : Int32} (hd : decode c.code pc = .ok (.if_icmp .ne o, 3)) (pc1 pc2 : Nat) (h0 : 0 ≤ (pc : Int) + o) (h1 : ((pc : Int) + o).toNat = pc1) (h2 : pc + 3 = pc2) (yes : ¬ x = y → Go p e below K (T.setTop (mkF m pc1 L S))) (no : x = y → Go p e below K (T.setTop (mkF m pc2 L S))) : Go p e below K (T.setTop (mkF m pc L (.int y :: .int x :: S))) := by
  refine g_icmp X hx hd pc1 pc2 h0 h1 h2 (fun hc => ?_) (fun hc => ?_)
  · by_cases q : x = y
    · rw [(teq q).2] at hc; cases hc
    · exact yes q
  · by_cases q : x = y
    · exact no q
    · rw [(feq q).2] at hc; cases hc
theorem g_icmp_lt {K : State → Outcome → Prop} (X : Stand p l e R s m args below meth c T locs cells slots) (hx : p.tables.exec = Jvm.exec) {pc : Nat} {L : Array Slot} {S : List Value} {o : Int} {x y : Int32} (hd : decode c.code pc = .ok (.if_icmp .lt o, 3)) (pc1 pc2 : Nat) (h0 : 0 ≤ (pc : Int) + o) (h1 : ((pc : Int) + o).toNat = pc1) (h2 : pc + 3 = pc2) (yes : x < y → Go p e below K (T.setTop (mkF m pc1 L S))) (no : ¬ x < y → Go p e below K (T.setTop (mkF m pc2 L S))) : Go p e below K (T.setTop (mkF m pc L (.int y :: .int x :: S))) := by
  refine g_icmp X hx hd pc1 pc2 h0 h1 h2 (fun hc => ?_) (fun hc => ?_)
  · by_cases q : x < y
    · exact yes q
    · rw [(flt q).1] at hc; cases hc
  · by_cases q : x < y
    · rw [(tlt q).1] at hc; cases hc
    · exact no q
theorem g_acmp_eq {K : State → Outcome → Prop} (X : Stand p l e R s m args below meth c T locs cells slots) (hx : p.tables.exec = Jvm.exec) {pc : Nat} {L : Array Slot} {S : List Value} {o : Int} {x y : Value} (hd : decode c.code pc = .ok (.if_acmp .eq o, 3)) (pc1 pc2 : Nat) (h0 : 0 ≤ (pc : Int) + o) (h1 : ((pc : Int) + o).toNat = pc1) (h2 : pc + 3 = pc2) (hx' : x.isRef = true) (hy' : y.isRef = true) (yes : x = y → Go p e below K (T.setTop (mkF m pc1 L S))) (no : ¬ x = y → Go p e below K (T.setTop (mkF m pc2 L S))) : Go p e below K (T.setTop (mkF m pc L (y :: x :: S))) := by
  subst h2
  by_cases q : x = y
  · exact Go.st (fun _ => XT.acmpYes X.here hx rfl (pc0 := pc) rfl hd rfl hx' hy' (by simp [XT.acmp, q]) h0 h1) (yes q)
  · exact Go.st (fun _ => XT.acmpNo X.here hx rfl hd rfl hx' hy' (by simp [XT.acmp, q])) (no q)
theorem g_acmp_ne {K : State → Outcome → Prop} (X : Stand p l e R s m args below meth c T locs cells slots) (hx : p.tables.exec = Jvm.exec) {pc : Nat} {L : Array Slot} {S : List Value} {o : Int} {x y : Value} (hd : decode c.code pc = .ok (.if_acmp .ne o, 3)) (pc1 pc2 : Nat) (h0 : 0 ≤ (pc : Int) + o) (h1 : ((pc : Int) + o).toNat = pc1) (h2 : pc + 3 = pc2) (hx' : x.isRef = true) (hy' : y.isRef = true) (yes : ¬ x = y → Go p e below K (T.setTop (mkF m pc1 L S))) (no : x = y → Go p e below K (T.setTop (mkF m pc2 L S))) : Go p e below K (T.setTop (mkF m pc L (y :: x :: S))) := by
  subst h2
  by_cases q : x = y
  · exact Go.st (fun _ => XT.acmpNo X.here hx rfl hd rfl hx' hy' (by simp [XT.acmp, q])) (no q)
  · exact Go.st (fun _ => XT.acmpYes X.here hx rfl (pc0 := pc) rfl hd rfl hx' hy' (by simp [XT.acmp, q]) h0 h1) (yes q)
theorem g_aaload {K : State → Outcome → Prop} {Z : State} {h : Heap} {a : Addr} {k : ClassId} {ty : FieldType} {z : Int32} {vs : List Value} {dv : Value} (X : Stand p l e R s m args below meth c T locs cells slots) (hx : p.tables.exec = Jvm.exec) {pc : Nat} {L : Array Slot} {S : List Value} {j : Int32} (hd : decode c.code pc = .ok (.aaload, 1)) (pc' : Nat) (hp : pc + 1 = pc') (hZ : Z.Warmed39 s.vm) (eT : T.heap = h) (F : Arv Z h a k ty z vs dv) (hty : ty.isReference = true) (q : ¬ j < 0 ∧ j < z) (v : Value) (u : vs.getD j.toNatClampNeg dv = v) (r : Go p e below K (T.setTop (mkF m pc' L (v :: S)))) : Go p e below K (T.setTop (mkF m pc L (.int j :: .ref a :: S))) := by
  subst hp
  obtain ⟨cl, A, r1, r2, r3, Hh, Gg⟩ := F
  exact Go.st (X.aaload hx (by rw [eT]; exact A.1) (State.isArrayOf_alike hZ.alike A.2.1) hty A.2.2 (inb_of r2 q) (Hh.at (inb_of r2 q) u) (g := mkF m pc L (.int j :: .ref a :: S)) rfl rfl hd) r
theorem g_aastore {Z : State} {h : Heap} {a : Addr} {k : ClassId} {z : Int32} {vs : List Value} {dv : Value} (X : Stand p l e R s m args below meth c T locs cells slots) (hx : p.tables.exec = Jvm.exec) {pc : Nat} {L : Array Slot} {S : List Value} {j : Int32} {ty : FieldType} {v : Value} (hd : decode c.code pc = .ok (.aastore, 1)) (hZ : Z.Warmed39 s.vm) (eT : T.heap = h) (F : Arv Z h a k ty z vs dv) (q : ¬ j < 0 ∧ j < z) {i : Nat} (hj : j.toNatClampNeg = i) (hi : i < vs.length) (hty : ty.isReference = true) (hv : v.isRef = true) (Fs : Sto Z h a v) :
    ∃ T' h', Stand p l e R s m args below meth c T' (locs ++ [⟨a, j.toNatClampNeg⟩]) cells slots ∧ T'.heap = h' ∧ Wr h h' a j.toNatClampNeg v ∧ Arv Z h' a k ty z (vs.set i v) dv ∧ ∀ target, Steps p.tables e below (T'.setTop (mkF m (pc + 1) L S)) target → Steps p.tables e below (T.setTop (mkF m pc L (v :: .int j :: .ref a :: S))) target := by
  obtain ⟨cl, A, r1, r2, r3, Hh, Gg⟩ := F
  obtain ⟨T', h', X', e', W', st⟩ := stR X hx hZ eT A (v := v) (inb_of r2 q) hty Fs (g := mkF m pc L (v :: .int j :: .ref a :: S)) rfl rfl hd
  exact ⟨T', h', X', e', W', Arv.set A r1 r2 r3 Hh Gg (own_fits hv hty) W' i hj hi, st⟩
end Layer
theorem own_idx (a : Int32) : ¬ ((a &&& (2147483647 : Int32)) % (21 : Int32)) < 0 ∧ ((a &&& (2147483647 : Int32)) % (21 : Int32)) < 21 := by
  have h1 := (c_and a (2147483647 : Int32) (by decide)).1
  have h2 := (c_irem (a &&& (2147483647 : Int32)) (21 : Int32) 21 (by decide)).1 h1
  rw [Int32.lt_iff_toInt_lt, Int32.lt_iff_toInt_lt, h2]
  have h3 : (0 : Int32).toInt = 0 := by decide
  have h4 : (21 : Int32).toInt = 21 := by decide
  omega
theorem own_21 (i : Int32) (h : ¬ i < 0 ∧ i < 21) : i = 0 ∨ i = 1 ∨ i = 2 ∨ i = 3 ∨ i = 4 ∨ i = 5 ∨ i = 6 ∨ i = 7 ∨ i = 8 ∨ i = 9 ∨ i = 10 ∨ i = 11 ∨ i = 12 ∨ i = 13 ∨ i = 14 ∨ i = 15 ∨ i = 16 ∨ i = 17 ∨ i = 18 ∨ i = 19 ∨ i = 20 := by
  rw [Int32.lt_iff_toInt_lt, Int32.lt_iff_toInt_lt] at h
  have e0 : (0 : Int32).toInt = 0 := by decide
  have e21 : (21 : Int32).toInt = 21 := by decide
  have f0 : i.toInt = 0 → i = 0 := fun q => Int32.toInt_inj.mp (q.trans (by decide))
  have f1 : i.toInt = 1 → i = 1 := fun q => Int32.toInt_inj.mp (q.trans (by decide))
  have f2 : i.toInt = 2 → i = 2 := fun q => Int32.toInt_inj.mp (q.trans (by decide))
  have f3 : i.toInt = 3 → i = 3 := fun q => Int32.toInt_inj.mp (q.trans (by decide))
  have f4 : i.toInt = 4 → i = 4 := fun q => Int32.toInt_inj.mp (q.trans (by decide))
  have f5 : i.toInt = 5 → i = 5 := fun q => Int32.toInt_inj.mp (q.trans (by decide))
  have f6 : i.toInt = 6 → i = 6 := fun q => Int32.toInt_inj.mp (q.trans (by decide))
  have f7 : i.toInt = 7 → i = 7 := fun q => Int32.toInt_inj.mp (q.trans (by decide))
  have f8 : i.toInt = 8 → i = 8 := fun q => Int32.toInt_inj.mp (q.trans (by decide))
  have f9 : i.toInt = 9 → i = 9 := fun q => Int32.toInt_inj.mp (q.trans (by decide))
  have f10 : i.toInt = 10 → i = 10 := fun q => Int32.toInt_inj.mp (q.trans (by decide))
  have f11 : i.toInt = 11 → i = 11 := fun q => Int32.toInt_inj.mp (q.trans (by decide))
  have f12 : i.toInt = 12 → i = 12 := fun q => Int32.toInt_inj.mp (q.trans (by decide))
  have f13 : i.toInt = 13 → i = 13 := fun q => Int32.toInt_inj.mp (q.trans (by decide))
  have f14 : i.toInt = 14 → i = 14 := fun q => Int32.toInt_inj.mp (q.trans (by decide))
  have f15 : i.toInt = 15 → i = 15 := fun q => Int32.toInt_inj.mp (q.trans (by decide))
  have f16 : i.toInt = 16 → i = 16 := fun q => Int32.toInt_inj.mp (q.trans (by decide))
  have f17 : i.toInt = 17 → i = 17 := fun q => Int32.toInt_inj.mp (q.trans (by decide))
  have f18 : i.toInt = 18 → i = 18 := fun q => Int32.toInt_inj.mp (q.trans (by decide))
  have f19 : i.toInt = 19 → i = 19 := fun q => Int32.toInt_inj.mp (q.trans (by decide))
  have f20 : i.toInt = 20 → i = 20 := fun q => Int32.toInt_inj.mp (q.trans (by decide))
  have : i.toInt = 0 ∨ i.toInt = 1 ∨ i.toInt = 2 ∨ i.toInt = 3 ∨ i.toInt = 4 ∨ i.toInt = 5 ∨ i.toInt = 6 ∨ i.toInt = 7 ∨ i.toInt = 8 ∨ i.toInt = 9 ∨ i.toInt = 10 ∨ i.toInt = 11 ∨ i.toInt = 12 ∨ i.toInt = 13 ∨ i.toInt = 14 ∨ i.toInt = 15 ∨ i.toInt = 16 ∨ i.toInt = 17 ∨ i.toInt = 18 ∨ i.toInt = 19 ∨ i.toInt = 20 := by omega
  rcases this with q | q | q | q | q | q | q | q | q | q | q | q | q | q | q | q | q | q | q | q | q
  · exact Or.inl (f0 q)
  · exact Or.inr (Or.inl (f1 q))
  · exact Or.inr (Or.inr (Or.inl (f2 q)))
  · exact Or.inr (Or.inr (Or.inr (Or.inl (f3 q))))
  · exact Or.inr (Or.inr (Or.inr (Or.inr (Or.inl (f4 q)))))
  · exact Or.inr (Or.inr (Or.inr (Or.inr (Or.inr (Or.inl (f5 q))))))
  · exact Or.inr (Or.inr (Or.inr (Or.inr (Or.inr (Or.inr (Or.inl (f6 q)))))))
  · exact Or.inr (Or.inr (Or.inr (Or.inr (Or.inr (Or.inr (Or.inr (Or.inl (f7 q))))))))
  · exact Or.inr (Or.inr (Or.inr (Or.inr (Or.inr (Or.inr (Or.inr (Or.inr (Or.inl (f8 q)))))))))
  · exact Or.inr (Or.inr (Or.inr (Or.inr (Or.inr (Or.inr (Or.inr (Or.inr (Or.inr (Or.inl (f9 q))))))))))
  · exact Or.inr (Or.inr (Or.inr (Or.inr (Or.inr (Or.inr (Or.inr (Or.inr (Or.inr (Or.inr (Or.inl (f10 q)))))))))))
  · exact Or.inr (Or.inr (Or.inr (Or.inr (Or.inr (Or.inr (Or.inr (Or.inr (Or.inr (Or.inr (Or.inr (Or.inl (f11 q))))))))))))
  · exact Or.inr (Or.inr (Or.inr (Or.inr (Or.inr (Or.inr (Or.inr (Or.inr (Or.inr (Or.inr (Or.inr (Or.inr (Or.inl (f12 q)))))))))))))
  · exact Or.inr (Or.inr (Or.inr (Or.inr (Or.inr (Or.inr (Or.inr (Or.inr (Or.inr (Or.inr (Or.inr (Or.inr (Or.inr (Or.inl (f13 q))))))))))))))
  · exact Or.inr (Or.inr (Or.inr (Or.inr (Or.inr (Or.inr (Or.inr (Or.inr (Or.inr (Or.inr (Or.inr (Or.inr (Or.inr (Or.inr (Or.inl (f14 q)))))))))))))))
  · exact Or.inr (Or.inr (Or.inr (Or.inr (Or.inr (Or.inr (Or.inr (Or.inr (Or.inr (Or.inr (Or.inr (Or.inr (Or.inr (Or.inr (Or.inr (Or.inl (f15 q))))))))))))))))
  · exact Or.inr (Or.inr (Or.inr (Or.inr (Or.inr (Or.inr (Or.inr (Or.inr (Or.inr (Or.inr (Or.inr (Or.inr (Or.inr (Or.inr (Or.inr (Or.inr (Or.inl (f16 q)))))))))))))))))
  · exact Or.inr (Or.inr (Or.inr (Or.inr (Or.inr (Or.inr (Or.inr (Or.inr (Or.inr (Or.inr (Or.inr (Or.inr (Or.inr (Or.inr (Or.inr (Or.inr (Or.inr (Or.inl (f17 q))))))))))))))))))
  · exact Or.inr (Or.inr (Or.inr (Or.inr (Or.inr (Or.inr (Or.inr (Or.inr (Or.inr (Or.inr (Or.inr (Or.inr (Or.inr (Or.inr (Or.inr (Or.inr (Or.inr (Or.inr (Or.inl (f18 q)))))))))))))))))))
  · exact Or.inr (Or.inr (Or.inr (Or.inr (Or.inr (Or.inr (Or.inr (Or.inr (Or.inr (Or.inr (Or.inr (Or.inr (Or.inr (Or.inr (Or.inr (Or.inr (Or.inr (Or.inr (Or.inr (Or.inl (f19 q))))))))))))))))))))
  · exact Or.inr (Or.inr (Or.inr (Or.inr (Or.inr (Or.inr (Or.inr (Or.inr (Or.inr (Or.inr (Or.inr (Or.inr (Or.inr (Or.inr (Or.inr (Or.inr (Or.inr (Or.inr (Or.inr (Or.inr (f20 q))))))))))))))))))))

theorem own_pn_com_example_buildwright_buildwright_script_ScriptElement : plainName "com/example/buildwright/buildwright/script/ScriptElement" = true := by first | (simp [plainName, overriddenIn]; done) | decide +kernel
theorem ef_1 (m : MethodId) (x0 : Addr) : entryFrame m #[(.ref x0)] 1 = mkF m 0 #[.val (.ref x0)] [] := by first | (simp [entryFrame, mkF, argsToLocals, Value.category]; done) | rfl
theorem d1_0 : decode prog_80_method_8_code 0 = .ok (.aload_n 0, 1) := by decide +kernel
theorem d1_1 : decode prog_80_method_8_code 1 = .ok (.getfield 90, 3) := by decide +kernel
theorem d1_4 : decode prog_80_method_8_code 4 = .ok (.getstatic 127, 3) := by decide +kernel
theorem d1_7 : decode prog_80_method_8_code 7 = .ok (.if_acmp .eq 13, 3) := by decide +kernel
theorem d1_20 : decode prog_80_method_8_code 20 = .ok (.iconst 1, 1) := by decide +kernel
theorem d1_21 : decode prog_80_method_8_code 21 = .ok (.goto 4, 3) := by decide +kernel
theorem d1_25 : decode prog_80_method_8_code 25 = .ok (.ireturn, 1) := by decide +kernel
theorem d1_10 : decode prog_80_method_8_code 10 = .ok (.aload_n 0, 1) := by decide +kernel
theorem d1_11 : decode prog_80_method_8_code 11 = .ok (.getfield 90, 3) := by decide +kernel
theorem d1_14 : decode prog_80_method_8_code 14 = .ok (.getstatic 132, 3) := by decide +kernel
theorem d1_17 : decode prog_80_method_8_code 17 = .ok (.if_acmp .ne 7, 3) := by decide +kernel
theorem d1_24 : decode prog_80_method_8_code 24 = .ok (.iconst 0, 1) := by decide +kernel
def Q1 (Z : State) (a1 : Addr) (r : Addr) (tc : Addr) (tb : Addr) (h0 : Heap) (n0 : Nat) (v : Option Value) (h : Heap) (L : List Loc) : Prop := v = some (.int (if r = tc ∨ r = tb then 1 else 0)) ∧ Fr n0 L ∧ h = h0
set_option maxRecDepth 65536 in
set_option maxHeartbeats 40000000 in
theorem rm1 (l : Launch) (Z : State) (a0 : Array Value) (hw : ∀ d ∈ tables_1, d.before a0 Z = true) (ws : List Jvm.Cond) (a1 : Addr) (r : Addr) (tc : Addr) (tb : Addr) (h0 : Heap) (n0 : Nat) (Z0 : n0 ≤ h0.size) (F_role_a1 : Fld Z h0 a1 "com/example/buildwright/buildwright/script/ScriptElement" "role" "Lcom/example/buildwright/buildwright/script/ScriptElement$Role;" (.ref r)) (S_CONTROL : Sta Z h0 "com/example/buildwright/buildwright/script/ScriptElement$Role" "CONTROL" "Lcom/example/buildwright/buildwright/script/ScriptElement$Role;" (.ref tc)) (S_BODY : Sta Z h0 "com/example/buildwright/buildwright/script/ScriptElement$Role" "BODY" "Lcom/example/buildwright/buildwright/script/ScriptElement$Role;" (.ref tb)) :
    MetFree l (⟨"com/example/buildwright/buildwright/script/ScriptElement", "isControl", "()Z"⟩ : MethodName) (head1 (Jvm.Cond.code (⟨"com/example/buildwright/buildwright/script/ScriptElement", "isControl", "()Z"⟩ : MethodName) prog_80_method_8_code 1 (some .boolean) :: ws) ({ frames := 0, cells := 0, slots := 0, locals := 0 } : Room)) (fun a U => a = #[(.ref a1)] ∧ Z.Warmed39 U.vm ∧ U.heap = h0) (fun _ _ _ _ _ => True) (fun _ U o U' => ∃ v L, o = .returned v ∧ Q1 Z a1 r tc tb h0 n0 v U'.heap L ∧ FrameEnd U o U' L ({ frames := 0, cells := 0, slots := 0, locals := 0 } : Room).cells ({ frames := 0, cells := 0, slots := 0, locals := 0 } : Room).slots) := by
  refine MetFree.of_bodySF (plainFor_of_name own_pn_com_example_buildwright_buildwright_script_ScriptElement) hisR ?_
  intro p e s m args below meth c s₁ Bd hml0 hP hK
  obtain ⟨rfl, hZ, hh⟩ := hP
  have hx := Bd.exec
  have hby := Bd.bytes
  have hlk := Bd.notSynchronized
  have hml : c.maxLocals = 1 := hml0
  have hown : s.vm.findClass "com/example/buildwright/buildwright/script/ScriptElement" = some m.cls := findClass_of_methodNamed Bd.named
  have hnm := (name_of_methodNamed Bd.named Bd.method).1
  have X0 : Stand p l e ({ frames := 0, cells := 0, slots := 0, locals := 0 } : Room) s m #[(.ref a1)] below meth c s₁ [] 0 0 := Stand.of_body Bd
  have e0 : s₁.heap = h0 := by rw [← hh, Bd.state]; rfl
  have N0 := Fr.nil n0
  show Go p e below (KQ s below (Q1 Z a1 r tc tb h0 n0) ({ frames := 0, cells := 0, slots := 0, locals := 0 } : Room).cells ({ frames := 0, cells := 0, slots := 0, locals := 0 } : Room).slots) _
  refine Go.body (T := s₁) (σ := s₁) (g' := (mkF m 0 #[.val (.ref a1)] [])) (ef_1 m a1) ?_
  refine g_aloadN X0 hx (hb hby d1_0) 1 rfl (v := (.ref a1)) rfl rfl ?_
  obtain ⟨T1, X1, e1, st1⟩ := getF X0 hx hZ hown (host := "") (Or.inl (hw _ (List.mem_of_getElem? (i := 52) rfl))) Via.refl e0 F_role_a1 (g := (mkF m 1 #[.val (.ref a1)] [(.ref a1)])) rfl rfl (hb hby d1_1)
  refine Go.st st1 ?_
  show Go p e below _ (T1.setTop (mkF m 4 #[.val (.ref a1)] [(.ref r)]))
  obtain ⟨T2, X2, e2, st2⟩ := getS2 X1 hx hZ hown (host := "") (Or.inl (hw _ (List.mem_of_getElem? (i := 56) rfl))) Via.refl e1 S_CONTROL (g := (mkF m 4 #[.val (.ref a1)] [(.ref r)])) rfl (hb hby d1_4)
  refine Go.st st2 ?_
  show Go p e below _ (T2.setTop (mkF m 7 #[.val (.ref a1)] [(.ref tc), (.ref r)]))
  refine g_acmp_eq X2 hx (hb hby d1_7) 20 10 (by decide) (by decide) rfl rfl rfl (fun hc7 => ?_) (fun hc7 => ?_)
  · refine g_iconst X2 hx (hb hby d1_20) 21 rfl (1 : Int32) rfl ?_
    refine g_goto X2 hx (hb hby d1_21) 25 (by decide) (by decide) ?_
    refine Go.retN X2 hx hlk (t := .boolean) Bd.returns (by simp) (hb hby d1_25) (by decide) (by decide) ?_
    show Q1 Z a1 r tc tb h0 n0 _ T2.heap _
    rw [e2]
    exact ⟨(by rw [if_pos (Or.inl (Value.ref.inj hc7))]; rfl), N0, rfl⟩
  · refine g_aloadN X2 hx (hb hby d1_10) 11 rfl (v := (.ref a1)) rfl rfl ?_
    obtain ⟨T3, X3, e3, st3⟩ := getF X2 hx hZ hown (host := "") (Or.inl (hw _ (List.mem_of_getElem? (i := 52) rfl))) Via.refl e2 F_role_a1 (g := (mkF m 11 #[.val (.ref a1)] [(.ref a1)])) rfl rfl (hb hby d1_11)
    refine Go.st st3 ?_
    show Go p e below _ (T3.setTop (mkF m 14 #[.val (.ref a1)] [(.ref r)]))
    obtain ⟨T4, X4, e4, st4⟩ := getS2 X3 hx hZ hown (host := "") (Or.inl (hw _ (List.mem_of_getElem? (i := 58) rfl))) Via.refl e3 S_BODY (g := (mkF m 14 #[.val (.ref a1)] [(.ref r)])) rfl (hb hby d1_14)
    refine Go.st st4 ?_
    show Go p e below _ (T4.setTop (mkF m 17 #[.val (.ref a1)] [(.ref tb), (.ref r)]))
    refine g_acmp_ne X4 hx (hb hby d1_17) 24 20 (by decide) (by decide) rfl rfl rfl (fun hc17 => ?_) (fun hc17 => ?_)
    · refine g_iconst X4 hx (hb hby d1_24) 25 rfl (0 : Int32) rfl ?_
      refine Go.retN X4 hx hlk (t := .boolean) Bd.returns (by simp) (hb hby d1_25) (by decide) (by decide) ?_
      show Q1 Z a1 r tc tb h0 n0 _ T4.heap _
      rw [e4]
      exact ⟨(by rw [if_neg (fun q => q.elim (fun z => hc7 (congrArg Value.ref z)) (fun z => hc17 (congrArg Value.ref z)))]; rfl), N0, rfl⟩
    · refine g_iconst X4 hx (hb hby d1_20) 21 rfl (1 : Int32) rfl ?_
      refine g_goto X4 hx (hb hby d1_21) 25 (by decide) (by decide) ?_
      refine Go.retN X4 hx hlk (t := .boolean) Bd.returns (by simp) (hb hby d1_25) (by decide) (by decide) ?_
      show Q1 Z a1 r tc tb h0 n0 _ T4.heap _
      rw [e4]
      exact ⟨(by rw [if_pos (Or.inr (Value.ref.inj hc17))]; rfl), N0, rfl⟩
theorem own_pn_com_example_buildwright_buildwright_script_ScriptElementIsControlPinLaw : plainName "com/example/buildwright/buildwright/script/ScriptElementIsControlPinLaw" = true := by first | (simp [plainName, overriddenIn]; done) | decide +kernel
theorem ef_0 (m : MethodId) (x0 : Int32) : entryFrame m #[(.int x0)] maxLocals = mkF m 0 #[.val (.int x0), .unset, .unset, .unset] [] := by first | (simp [entryFrame, mkF, argsToLocals, Value.category, maxLocals]; done) | rfl
theorem own_pd0 : parseMethodDescriptor "()Z" = some ⟨[], some .boolean⟩ := by decide +kernel
def Q0 (Z : State) (p1 : Int32) (t_BUILDWRIGHT : Addr) (t_NODE : Addr) (t_AGGREGATE : Addr) (t_AGENT : Addr) (t_TRIGGER : Addr) (t_WARNING : Addr) (t_ERROR : Addr) (t_SPAWN : Addr) (t_SOURCE_INDEX : Addr) (t_TEST : Addr) (t_LOG : Addr) (t_PROPERTY : Addr) (t_OPTION : Addr) (t_ENV_VAR : Addr) (t_INCLUDE : Addr) (t_DEPENDENCY : Addr) (t_DO : Addr) (t_SWITCH : Addr) (t_CASE : Addr) (t_DEFAULT : Addr) (t_FOR_EACH : Addr) (t_LISTED : Addr) (t_CONTROL : Addr) (t_BODY : Addr) (t_DIRECT : Addr) (h0 : Heap) (n0 : Nat) (v : Option Value) (h : Heap) (L : List Loc) : Prop := v = some (.int (1 : Int32)) ∧ Fr n0 L
set_option maxRecDepth 65536 in
set_option maxHeartbeats 40000000 in
theorem rm0 (l : Launch) (Z : State) (a0 : Array Value) (hw : ∀ d ∈ tables_1, d.before a0 Z = true) (ws : List Jvm.Cond) (p1 : Int32) (t_BUILDWRIGHT : Addr) (t_NODE : Addr) (t_AGGREGATE : Addr) (t_AGENT : Addr) (t_TRIGGER : Addr) (t_WARNING : Addr) (t_ERROR : Addr) (t_SPAWN : Addr) (t_SOURCE_INDEX : Addr) (t_TEST : Addr) (t_LOG : Addr) (t_PROPERTY : Addr) (t_OPTION : Addr) (t_ENV_VAR : Addr) (t_INCLUDE : Addr) (t_DEPENDENCY : Addr) (t_DO : Addr) (t_SWITCH : Addr) (t_CASE : Addr) (t_DEFAULT : Addr) (t_FOR_EACH : Addr) (t_LISTED : Addr) (t_CONTROL : Addr) (t_BODY : Addr) (t_DIRECT : Addr) (h0 : Heap) (n0 : Nat) (Z0 : n0 ≤ h0.size) (S_BUILDWRIGHT : Sta Z h0 "com/example/buildwright/buildwright/script/ScriptElement" "BUILDWRIGHT" "Lcom/example/buildwright/buildwright/script/ScriptElement;" (.ref t_BUILDWRIGHT)) (E_t_BUILDWRIGHT : Exa Z h0 t_BUILDWRIGHT "com/example/buildwright/buildwright/script/ScriptElement") (S_NODE : Sta Z h0 "com/example/buildwright/buildwright/script/ScriptElement" "NODE" "Lcom/example/buildwright/buildwright/script/ScriptElement;" (.ref t_NODE)) (E_t_NODE : Exa Z h0 t_NODE "com/example/buildwright/buildwright/script/ScriptElement") (S_AGGREGATE : Sta Z h0 "com/example/buildwright/buildwright/script/ScriptElement" "AGGREGATE" "Lcom/example/buildwright/buildwright/script/ScriptElement;" (.ref t_AGGREGATE)) (E_t_AGGREGATE : Exa Z h0 t_AGGREGATE "com/example/buildwright/buildwright/script/ScriptElement") (S_AGENT : Sta Z h0 "com/example/buildwright/buildwright/script/ScriptElement" "AGENT" "Lcom/example/buildwright/buildwright/script/ScriptElement;" (.ref t_AGENT)) (E_t_AGENT : Exa Z h0 t_AGENT "com/example/buildwright/buildwright/script/ScriptElement") (S_TRIGGER : Sta Z h0 "com/example/buildwright/buildwright/script/ScriptElement" "TRIGGER" "Lcom/example/buildwright/buildwright/script/ScriptElement;" (.ref t_TRIGGER)) (E_t_TRIGGER : Exa Z h0 t_TRIGGER "com/example/buildwright/buildwright/script/ScriptElement") (S_WARNING : Sta Z h0 "com/example/buildwright/buildwright/script/ScriptElement" "WARNING" "Lcom/example/buildwright/buildwright/script/ScriptElement;" (.ref t_WARNING)) (E_t_WARNING : Exa Z h0 t_WARNING "com/example/buildwright/buildwright/script/ScriptElement") (S_ERROR : Sta Z h0 "com/example/buildwright/buildwright/script/ScriptElement" "ERROR" "Lcom/example/buildwright/buildwright/script/ScriptElement;" (.ref t_ERROR)) (E_t_ERROR : Exa Z h0 t_ERROR "com/example/buildwright/buildwright/script/ScriptElement") (S_SPAWN : Sta Z h0 "com/example/buildwright/buildwright/script/ScriptElement" "SPAWN" "Lcom/example/buildwright/buildwright/script/ScriptElement;" (.ref t_SPAWN)) (E_t_SPAWN : Exa Z h0 t_SPAWN "com/example/buildwright/buildwright/script/ScriptElement") (S_SOURCE_INDEX : Sta Z h0 "com/example/buildwright/buildwright/script/ScriptElement" "SOURCE_INDEX" "Lcom/example/buildwright/buildwright/script/ScriptElement;" (.ref t_SOURCE_INDEX)) (E_t_SOURCE_INDEX : Exa Z h0 t_SOURCE_INDEX "com/example/buildwright/buildwright/script/ScriptElement") (S_TEST : Sta Z h0 "com/example/buildwright/buildwright/script/ScriptElement" "TEST" "Lcom/example/buildwright/buildwright/script/ScriptElement;" (.ref t_TEST)) (E_t_TEST : Exa Z h0 t_TEST "com/example/buildwright/buildwright/script/ScriptElement") (S_LOG : Sta Z h0 "com/example/buildwright/buildwright/script/ScriptElement" "LOG" "Lcom/example/buildwright/buildwright/script/ScriptElement;" (.ref t_LOG)) (E_t_LOG : Exa Z h0 t_LOG "com/example/buildwright/buildwright/script/ScriptElement") (S_PROPERTY : Sta Z h0 "com/example/buildwright/buildwright/script/ScriptElement" "PROPERTY" "Lcom/example/buildwright/buildwright/script/ScriptElement;" (.ref t_PROPERTY)) (E_t_PROPERTY : Exa Z h0 t_PROPERTY "com/example/buildwright/buildwright/script/ScriptElement") (S_OPTION : Sta Z h0 "com/example/buildwright/buildwright/script/ScriptElement" "OPTION" "Lcom/example/buildwright/buildwright/script/ScriptElement;" (.ref t_OPTION)) (E_t_OPTION : Exa Z h0 t_OPTION "com/example/buildwright/buildwright/script/ScriptElement") (S_ENV_VAR : Sta Z h0 "com/example/buildwright/buildwright/script/ScriptElement" "ENV_VAR" "Lcom/example/buildwright/buildwright/script/ScriptElement;" (.ref t_ENV_VAR)) (E_t_ENV_VAR : Exa Z h0 t_ENV_VAR "com/example/buildwright/buildwright/script/ScriptElement") (S_INCLUDE : Sta Z h0 "com/example/buildwright/buildwright/script/ScriptElement" "INCLUDE" "Lcom/example/buildwright/buildwright/script/ScriptElement;" (.ref t_INCLUDE)) (E_t_INCLUDE : Exa Z h0 t_INCLUDE "com/example/buildwright/buildwright/script/ScriptElement") (S_DEPENDENCY : Sta Z h0 "com/example/buildwright/buildwright/script/ScriptElement" "DEPENDENCY" "Lcom/example/buildwright/buildwright/script/ScriptElement;" (.ref t_DEPENDENCY)) (E_t_DEPENDENCY : Exa Z h0 t_DEPENDENCY "com/example/buildwright/buildwright/script/ScriptElement") (S_DO : Sta Z h0 "com/example/buildwright/buildwright/script/ScriptElement" "DO" "Lcom/example/buildwright/buildwright/script/ScriptElement;" (.ref t_DO)) (E_t_DO : Exa Z h0 t_DO "com/example/buildwright/buildwright/script/ScriptElement") (S_SWITCH : Sta Z h0 "com/example/buildwright/buildwright/script/ScriptElement" "SWITCH" "Lcom/example/buildwright/buildwright/script/ScriptElement;" (.ref t_SWITCH)) (E_t_SWITCH : Exa Z h0 t_SWITCH "com/example/buildwright/buildwright/script/ScriptElement") (S_CASE : Sta Z h0 "com/example/buildwright/buildwright/script/ScriptElement" "CASE" "Lcom/example/buildwright/buildwright/script/ScriptElement;" (.ref t_CASE)) (E_t_CASE : Exa Z h0 t_CASE "com/example/buildwright/buildwright/script/ScriptElement") (S_DEFAULT : Sta Z h0 "com/example/buildwright/buildwright/script/ScriptElement" "DEFAULT" "Lcom/example/buildwright/buildwright/script/ScriptElement;" (.ref t_DEFAULT)) (E_t_DEFAULT : Exa Z h0 t_DEFAULT "com/example/buildwright/buildwright/script/ScriptElement") (S_FOR_EACH : Sta Z h0 "com/example/buildwright/buildwright/script/ScriptElement" "FOR_EACH" "Lcom/example/buildwright/buildwright/script/ScriptElement;" (.ref t_FOR_EACH)) (E_t_FOR_EACH : Exa Z h0 t_FOR_EACH "com/example/buildwright/buildwright/script/ScriptElement") (S_LISTED : Sta Z h0 "com/example/buildwright/buildwright/script/ScriptElement$Role" "LISTED" "Lcom/example/buildwright/buildwright/script/ScriptElement$Role;" (.ref t_LISTED)) (E_t_LISTED : Exa Z h0 t_LISTED "com/example/buildwright/buildwright/script/ScriptElement$Role") (S_CONTROL : Sta Z h0 "com/example/buildwright/buildwright/script/ScriptElement$Role" "CONTROL" "Lcom/example/buildwright/buildwright/script/ScriptElement$Role;" (.ref t_CONTROL)) (E_t_CONTROL : Exa Z h0 t_CONTROL "com/example/buildwright/buildwright/script/ScriptElement$Role") (S_BODY : Sta Z h0 "com/example/buildwright/buildwright/script/ScriptElement$Role" "BODY" "Lcom/example/buildwright/buildwright/script/ScriptElement$Role;" (.ref t_BODY)) (E_t_BODY : Exa Z h0 t_BODY "com/example/buildwright/buildwright/script/ScriptElement$Role") (S_DIRECT : Sta Z h0 "com/example/buildwright/buildwright/script/ScriptElement$Role" "DIRECT" "Lcom/example/buildwright/buildwright/script/ScriptElement$Role;" (.ref t_DIRECT)) (E_t_DIRECT : Exa Z h0 t_DIRECT "com/example/buildwright/buildwright/script/ScriptElement$Role") (F_role_t_BUILDWRIGHT : Fld Z h0 t_BUILDWRIGHT "com/example/buildwright/buildwright/script/ScriptElement" "role" "Lcom/example/buildwright/buildwright/script/ScriptElement$Role;" (.ref t_LISTED)) (F_ordinal_t_LISTED : Fld Z h0 t_LISTED "java/lang/Enum" "ordinal" "I" (.int (0 : Int32))) (F_ordinal_t_CONTROL : Fld Z h0 t_CONTROL "java/lang/Enum" "ordinal" "I" (.int (2 : Int32))) (F_ordinal_t_BODY : Fld Z h0 t_BODY "java/lang/Enum" "ordinal" "I" (.int (3 : Int32))) (F_role_t_AGENT : Fld Z h0 t_AGENT "com/example/buildwright/buildwright/script/ScriptElement" "role" "Lcom/example/buildwright/buildwright/script/ScriptElement$Role;" (.ref t_LISTED)) (F_role_t_WARNING : Fld Z h0 t_WARNING "com/example/buildwright/buildwright/script/ScriptElement" "role" "Lcom/example/buildwright/buildwright/script/ScriptElement$Role;" (.ref t_LISTED)) (F_role_t_ENV_VAR : Fld Z h0 t_ENV_VAR "com/example/buildwright/buildwright/script/ScriptElement" "role" "Lcom/example/buildwright/buildwright/script/ScriptElement$Role;" (.ref t_DIRECT)) (F_ordinal_t_DIRECT : Fld Z h0 t_DIRECT "java/lang/Enum" "ordinal" "I" (.int (1 : Int32))) (F_role_t_ERROR : Fld Z h0 t_ERROR "com/example/buildwright/buildwright/script/ScriptElement" "role" "Lcom/example/buildwright/buildwright/script/ScriptElement$Role;" (.ref t_LISTED)) (F_role_t_PROPERTY : Fld Z h0 t_PROPERTY "com/example/buildwright/buildwright/script/ScriptElement" "role" "Lcom/example/buildwright/buildwright/script/ScriptElement$Role;" (.ref t_LISTED)) (F_role_t_SPAWN : Fld Z h0 t_SPAWN "com/example/buildwright/buildwright/script/ScriptElement" "role" "Lcom/example/buildwright/buildwright/script/ScriptElement$Role;" (.ref t_LISTED)) (F_role_t_AGGREGATE : Fld Z h0 t_AGGREGATE "com/example/buildwright/buildwright/script/ScriptElement" "role" "Lcom/example/buildwright/buildwright/script/ScriptElement$Role;" (.ref t_LISTED)) (F_role_t_LOG : Fld Z h0 t_LOG "com/example/buildwright/buildwright/script/ScriptElement" "role" "Lcom/example/buildwright/buildwright/script/ScriptElement$Role;" (.ref t_LISTED)) (F_role_t_SOURCE_INDEX : Fld Z h0 t_SOURCE_INDEX "com/example/buildwright/buildwright/script/ScriptElement" "role" "Lcom/example/buildwright/buildwright/script/ScriptElement$Role;" (.ref t_LISTED)) (F_role_t_NODE : Fld Z h0 t_NODE "com/example/buildwright/buildwright/script/ScriptElement" "role" "Lcom/example/buildwright/buildwright/script/ScriptElement$Role;" (.ref t_LISTED)) (F_role_t_INCLUDE : Fld Z h0 t_INCLUDE "com/example/buildwright/buildwright/script/ScriptElement" "role" "Lcom/example/buildwright/buildwright/script/ScriptElement$Role;" (.ref t_DIRECT)) (F_role_t_DEPENDENCY : Fld Z h0 t_DEPENDENCY "com/example/buildwright/buildwright/script/ScriptElement" "role" "Lcom/example/buildwright/buildwright/script/ScriptElement$Role;" (.ref t_DIRECT)) (F_role_t_TEST : Fld Z h0 t_TEST "com/example/buildwright/buildwright/script/ScriptElement" "role" "Lcom/example/buildwright/buildwright/script/ScriptElement$Role;" (.ref t_LISTED)) (F_role_t_DEFAULT : Fld Z h0 t_DEFAULT "com/example/buildwright/buildwright/script/ScriptElement" "role" "Lcom/example/buildwright/buildwright/script/ScriptElement$Role;" (.ref t_BODY)) (F_role_t_DO : Fld Z h0 t_DO "com/example/buildwright/buildwright/script/ScriptElement" "role" "Lcom/example/buildwright/buildwright/script/ScriptElement$Role;" (.ref t_BODY)) (F_role_t_SWITCH : Fld Z h0 t_SWITCH "com/example/buildwright/buildwright/script/ScriptElement" "role" "Lcom/example/buildwright/buildwright/script/ScriptElement$Role;" (.ref t_CONTROL)) (F_role_t_FOR_EACH : Fld Z h0 t_FOR_EACH "com/example/buildwright/buildwright/script/ScriptElement" "role" "Lcom/example/buildwright/buildwright/script/ScriptElement$Role;" (.ref t_BODY)) (F_role_t_TRIGGER : Fld Z h0 t_TRIGGER "com/example/buildwright/buildwright/script/ScriptElement" "role" "Lcom/example/buildwright/buildwright/script/ScriptElement$Role;" (.ref t_LISTED)) (F_role_t_OPTION : Fld Z h0 t_OPTION "com/example/buildwright/buildwright/script/ScriptElement" "role" "Lcom/example/buildwright/buildwright/script/ScriptElement$Role;" (.ref t_DIRECT)) (F_role_t_CASE : Fld Z h0 t_CASE "com/example/buildwright/buildwright/script/ScriptElement" "role" "Lcom/example/buildwright/buildwright/script/ScriptElement$Role;" (.ref t_BODY)) (hn0 : h0.size = n0) :
    MetFree l x (head1 (Jvm.Cond.code x code maxLocals ret :: ws) room_1) (fun a U => a = #[(.int p1)] ∧ Z.Warmed39 U.vm ∧ U.heap = h0) (fun _ _ _ _ _ => True) (fun _ U o U' => ∃ v L, o = .returned v ∧ Q0 Z p1 t_BUILDWRIGHT t_NODE t_AGGREGATE t_AGENT t_TRIGGER t_WARNING t_ERROR t_SPAWN t_SOURCE_INDEX t_TEST t_LOG t_PROPERTY t_OPTION t_ENV_VAR t_INCLUDE t_DEPENDENCY t_DO t_SWITCH t_CASE t_DEFAULT t_FOR_EACH t_LISTED t_CONTROL t_BODY t_DIRECT h0 n0 v U'.heap L ∧ FrameEnd U o U' L 16 128) := by
  refine MetFree.of_bodySF (plainFor_of_name own_pn_com_example_buildwright_buildwright_script_ScriptElementIsControlPinLaw) hisR ?_
  intro p e s m args below meth c s₁ Bd hml0 hP hK
  obtain ⟨rfl, hZ, hh⟩ := hP
  have hx := Bd.exec
  have hby := Bd.bytes
  have hlk := Bd.notSynchronized
  have hml : c.maxLocals = 4 := hml0
  have hown : s.vm.findClass "com/example/buildwright/buildwright/script/ScriptElementIsControlPinLaw" = some m.cls := findClass_of_methodNamed Bd.named
  have hnm := (name_of_methodNamed Bd.named Bd.method).1
  have X0 : Stand p l e room_1 s m #[(.int p1)] below meth c s₁ [] 0 0 := Stand.of_body Bd
  have e0 : s₁.heap = h0 := by rw [← hh, Bd.state]; rfl
  have N0 := Fr.nil n0
  have K0 : Keep h0 h0 [] := Keep.refl _ _
  show Go p e below (KQ s below (Q0 Z p1 t_BUILDWRIGHT t_NODE t_AGGREGATE t_AGENT t_TRIGGER t_WARNING t_ERROR t_SPAWN t_SOURCE_INDEX t_TEST t_LOG t_PROPERTY t_OPTION t_ENV_VAR t_INCLUDE t_DEPENDENCY t_DO t_SWITCH t_CASE t_DEFAULT t_FOR_EACH t_LISTED t_CONTROL t_BODY t_DIRECT h0 n0) 16 128) _
  refine Go.body (T := s₁) (σ := s₁) (g' := (mkF m 0 #[.val (.int p1), .unset, .unset, .unset] [])) (ef_0 m p1) ?_
  refine g_bipush X0 hx (hb hby at_0) 2 rfl (21 : Int32) rfl ?_
  obtain ⟨T5, h5, cA5, X5, e5, E5, A5, O5, st5⟩ := newR X0 hx hZ hown (hw _ (List.mem_of_getElem? (i := 0) rfl)) (hw _ (List.mem_of_getElem? (i := 1) rfl)) e0 (g := (mkF m 2 #[.val (.int p1), .unset, .unset, .unset] [(.int (21 : Int32))])) rfl (hb hby at_2) rfl (by decide) (cap := 21) (by decide) (by decide) (by decide) (by decide)
  refine Go.st st5 ?_
  obtain ⟨o5, q5⟩ : ∃ z, z = h0.size := ⟨_, rfl⟩
  rw [← q5] at A5 ⊢
  have g_o5 : n0 ≤ o5 := Nat.le_trans Z0 (Nat.le_of_eq q5.symm)
  have mh_o5 : h0.size ≤ o5 := Nat.le_trans K0.1 (Nat.le_of_eq q5.symm)
  have K5 : Keep h0 h5 [] := Keep.ext K0 E5
  have Zs5 : n0 ≤ h5.size := Nat.le_trans Z0 E5.1
  have Av_o5 : Arv Z h5 o5 cA5 (.object "com/example/buildwright/buildwright/script/ScriptElement") (21 : Int32) ([.null, .null, .null, .null, .null, .null, .null, .null, .null, .null, .null, .null, .null, .null, .null, .null, .null, .null, .null, .null, .null]) .null := Arv.pad (Arv.new A5 (by decide)) (pad_rep [] .null 21)
  show Go p e below _ (T5.setTop (mkF m 5 #[.val (.int p1), .unset, .unset, .unset] [(.ref o5)]))
  refine g_dup X5 hx (hb hby at_5) 6 rfl rfl ?_
  refine g_iconst X5 hx (hb hby at_6) 7 rfl (0 : Int32) rfl ?_
  obtain ⟨T7, X7, e7, st7⟩ := getS2 X5 hx hZ hown (host := "") (Or.inl (hw _ (List.mem_of_getElem? (i := 2) rfl))) Via.refl e5 (own_Sta_keep S_BUILDWRIGHT K5 all0) (g := (mkF m 7 #[.val (.int p1), .unset, .unset, .unset] [(.int (0 : Int32)), (.ref o5), (.ref o5)])) rfl (hb hby at_7)
  refine Go.st st7 ?_
  show Go p e below _ (T7.setTop (mkF m 10 #[.val (.int p1), .unset, .unset, .unset] [(.ref t_BUILDWRIGHT), (.int (0 : Int32)), (.ref o5), (.ref o5)]))
  obtain ⟨T8, h8, X8, e8, W8, B8, st8⟩ := g_aastore X7 hx (hb hby at_10) hZ e7 Av_o5 (show ¬ (0 : Int32) < 0 ∧ (0 : Int32) < (21 : Int32) from by decide) (i := 0) rfl (by decide : 0 < 21) rfl rfl (by obtain ⟨cl, A, r1, -⟩ := Av_o5; exact Sto.ofV A r1 O5 (Ins.self (Exa.keep E_t_BUILDWRIGHT K5))) (L := #[.val (.int p1), .unset, .unset, .unset]) (S := [(.ref o5)])
  refine Go.st st8 ?_
  have Av_o5_8 : Arv Z h8 o5 cA5 (.object "com/example/buildwright/buildwright/script/ScriptElement") (21 : Int32) ([(.ref t_BUILDWRIGHT), .null, .null, .null, .null, .null, .null, .null, .null, .null, .null, .null, .null, .null, .null, .null, .null, .null, .null, .null, .null]) .null := B8
  have K8 : Keep h0 h8 [] := Keep.wr K5 W8 (Or.inr mh_o5)
  have N8 := Fr.snoc X8 N0 g_o5
  have Zs8 : n0 ≤ h8.size := by rw [W8.size]; exact Zs5
  show Go p e below _ (T8.setTop (mkF m 11 #[.val (.int p1), .unset, .unset, .unset] [(.ref o5)]))
  refine g_dup X8 hx (hb hby at_11) 12 rfl rfl ?_
  refine g_iconst X8 hx (hb hby at_12) 13 rfl (1 : Int32) rfl ?_
  obtain ⟨T10, X10, e10, st10⟩ := getS2 X8 hx hZ hown (host := "") (Or.inl (hw _ (List.mem_of_getElem? (i := 6) rfl))) Via.refl e8 (own_Sta_keep S_NODE K8 all0) (g := (mkF m 13 #[.val (.int p1), .unset, .unset, .unset] [(.int (1 : Int32)), (.ref o5), (.ref o5)])) rfl (hb hby at_13)
  refine Go.st st10 ?_
  show Go p e below _ (T10.setTop (mkF m 16 #[.val (.int p1), .unset, .unset, .unset] [(.ref t_NODE), (.int (1 : Int32)), (.ref o5), (.ref o5)]))
  obtain ⟨T11, h11, X11, e11, W11, B11, st11⟩ := g_aastore X10 hx (hb hby at_16) hZ e10 Av_o5_8 (show ¬ (1 : Int32) < 0 ∧ (1 : Int32) < (21 : Int32) from by decide) (i := 1) rfl (by decide : 1 < 21) rfl rfl (by obtain ⟨cl, A, r1, -⟩ := Av_o5_8; exact Sto.ofV A r1 O5 (Ins.self (Exa.keep E_t_NODE K8))) (L := #[.val (.int p1), .unset, .unset, .unset]) (S := [(.ref o5)])
  refine Go.st st11 ?_
  have Av_o5_11 : Arv Z h11 o5 cA5 (.object "com/example/buildwright/buildwright/script/ScriptElement") (21 : Int32) ([(.ref t_BUILDWRIGHT), (.ref t_NODE), .null, .null, .null, .null, .null, .null, .null, .null, .null, .null, .null, .null, .null, .null, .null, .null, .null, .null, .null]) .null := B11
  have K11 : Keep h0 h11 [] := Keep.wr K8 W11 (Or.inr mh_o5)
  have N11 := Fr.snoc X11 N8 g_o5
  have Zs11 : n0 ≤ h11.size := by rw [W11.size]; exact Zs8
  show Go p e below _ (T11.setTop (mkF m 17 #[.val (.int p1), .unset, .unset, .unset] [(.ref o5)]))
  refine g_dup X11 hx (hb hby at_17) 18 rfl rfl ?_
  refine g_iconst X11 hx (hb hby at_18) 19 rfl (2 : Int32) rfl ?_
  obtain ⟨T13, X13, e13, st13⟩ := getS2 X11 hx hZ hown (host := "") (Or.inl (hw _ (List.mem_of_getElem? (i := 8) rfl))) Via.refl e11 (own_Sta_keep S_AGGREGATE K11 all0) (g := (mkF m 19 #[.val (.int p1), .unset, .unset, .unset] [(.int (2 : Int32)), (.ref o5), (.ref o5)])) rfl (hb hby at_19)
  refine Go.st st13 ?_
  show Go p e below _ (T13.setTop (mkF m 22 #[.val (.int p1), .unset, .unset, .unset] [(.ref t_AGGREGATE), (.int (2 : Int32)), (.ref o5), (.ref o5)]))
  obtain ⟨T14, h14, X14, e14, W14, B14, st14⟩ := g_aastore X13 hx (hb hby at_22) hZ e13 Av_o5_11 (show ¬ (2 : Int32) < 0 ∧ (2 : Int32) < (21 : Int32) from by decide) (i := 2) rfl (by decide : 2 < 21) rfl rfl (by obtain ⟨cl, A, r1, -⟩ := Av_o5_11; exact Sto.ofV A r1 O5 (Ins.self (Exa.keep E_t_AGGREGATE K11))) (L := #[.val (.int p1), .unset, .unset, .unset]) (S := [(.ref o5)])
  refine Go.st st14 ?_
  have Av_o5_14 : Arv Z h14 o5 cA5 (.object "com/example/buildwright/buildwright/script/ScriptElement") (21 : Int32) ([(.ref t_BUILDWRIGHT), (.ref t_NODE), (.ref t_AGGREGATE), .null, .null, .null, .null, .null, .null, .null, .null, .null, .null, .null, .null, .null, .null, .null, .null, .null, .null]) .null := B14
  have K14 : Keep h0 h14 [] := Keep.wr K11 W14 (Or.inr mh_o5)
  have N14 := Fr.snoc X14 N11 g_o5
  have Zs14 : n0 ≤ h14.size := by rw [W14.size]; exact Zs11
  show Go p e below _ (T14.setTop (mkF m 23 #[.val (.int p1), .unset, .unset, .unset] [(.ref o5)]))
  refine g_dup X14 hx (hb hby at_23) 24 rfl rfl ?_
  refine g_iconst X14 hx (hb hby at_24) 25 rfl (3 : Int32) rfl ?_
  obtain ⟨T16, X16, e16, st16⟩ := getS2 X14 hx hZ hown (host := "") (Or.inl (hw _ (List.mem_of_getElem? (i := 10) rfl))) Via.refl e14 (own_Sta_keep S_AGENT K14 all0) (g := (mkF m 25 #[.val (.int p1), .unset, .unset, .unset] [(.int (3 : Int32)), (.ref o5), (.ref o5)])) rfl (hb hby at_25)
  refine Go.st st16 ?_
  show Go p e below _ (T16.setTop (mkF m 28 #[.val (.int p1), .unset, .unset, .unset] [(.ref t_AGENT), (.int (3 : Int32)), (.ref o5), (.ref o5)]))
  obtain ⟨T17, h17, X17, e17, W17, B17, st17⟩ := g_aastore X16 hx (hb hby at_28) hZ e16 Av_o5_14 (show ¬ (3 : Int32) < 0 ∧ (3 : Int32) < (21 : Int32) from by decide) (i := 3) rfl (by decide : 3 < 21) rfl rfl (by obtain ⟨cl, A, r1, -⟩ := Av_o5_14; exact Sto.ofV A r1 O5 (Ins.self (Exa.keep E_t_AGENT K14))) (L := #[.val (.int p1), .unset, .unset, .unset]) (S := [(.ref o5)])
  refine Go.st st17 ?_
  have Av_o5_17 : Arv Z h17 o5 cA5 (.object "com/example/buildwright/buildwright/script/ScriptElement") (21 : Int32) ([(.ref t_BUILDWRIGHT), (.ref t_NODE), (.ref t_AGGREGATE), (.ref t_AGENT), .null, .null, .null, .null, .null, .null, .null, .null, .null, .null, .null, .null, .null, .null, .null, .null, .null]) .null := B17
  have K17 : Keep h0 h17 [] := Keep.wr K14 W17 (Or.inr mh_o5)
  have N17 := Fr.snoc X17 N14 g_o5
  have Zs17 : n0 ≤ h17.size := by rw [W17.size]; exact Zs14
  show Go p e below _ (T17.setTop (mkF m 29 #[.val (.int p1), .unset, .unset, .unset] [(.ref o5)]))
  refine g_dup X17 hx (hb hby at_29) 30 rfl rfl ?_
  refine g_iconst X17 hx (hb hby at_30) 31 rfl (4 : Int32) rfl ?_
  obtain ⟨T19, X19, e19, st19⟩ := getS2 X17 hx hZ hown (host := "") (Or.inl (hw _ (List.mem_of_getElem? (i := 12) rfl))) Via.refl e17 (own_Sta_keep S_TRIGGER K17 all0) (g := (mkF m 31 #[.val (.int p1), .unset, .unset, .unset] [(.int (4 : Int32)), (.ref o5), (.ref o5)])) rfl (hb hby at_31)
  refine Go.st st19 ?_
  show Go p e below _ (T19.setTop (mkF m 34 #[.val (.int p1), .unset, .unset, .unset] [(.ref t_TRIGGER), (.int (4 : Int32)), (.ref o5), (.ref o5)]))
  obtain ⟨T20, h20, X20, e20, W20, B20, st20⟩ := g_aastore X19 hx (hb hby at_34) hZ e19 Av_o5_17 (show ¬ (4 : Int32) < 0 ∧ (4 : Int32) < (21 : Int32) from by decide) (i := 4) rfl (by decide : 4 < 21) rfl rfl (by obtain ⟨cl, A, r1, -⟩ := Av_o5_17; exact Sto.ofV A r1 O5 (Ins.self (Exa.keep E_t_TRIGGER K17))) (L := #[.val (.int p1), .unset, .unset, .unset]) (S := [(.ref o5)])
  refine Go.st st20 ?_
  have Av_o5_20 : Arv Z h20 o5 cA5 (.object "com/example/buildwright/buildwright/script/ScriptElement") (21 : Int32) ([(.ref t_BUILDWRIGHT), (.ref t_NODE), (.ref t_AGGREGATE), (.ref t_AGENT), (.ref t_TRIGGER), .null, .null, .null, .null, .null, .null, .null, .null, .null, .null, .null, .null, .null, .null, .null, .null]) .null := B20
  have K20 : Keep h0 h20 [] := Keep.wr K17 W20 (Or.inr mh_o5)
  have N20 := Fr.snoc X20 N17 g_o5
  have Zs20 : n0 ≤ h20.size := by rw [W20.size]; exact Zs17
  show Go p e below _ (T20.setTop (mkF m 35 #[.val (.int p1), .unset, .unset, .unset] [(.ref o5)]))
  refine g_dup X20 hx (hb hby at_35) 36 rfl rfl ?_
  refine g_iconst X20 hx (hb hby at_36) 37 rfl (5 : Int32) rfl ?_
  obtain ⟨T22, X22, e22, st22⟩ := getS2 X20 hx hZ hown (host := "") (Or.inl (hw _ (List.mem_of_getElem? (i := 14) rfl))) Via.refl e20 (own_Sta_keep S_WARNING K20 all0) (g := (mkF m 37 #[.val (.int p1), .unset, .unset, .unset] [(.int (5 : Int32)), (.ref o5), (.ref o5)])) rfl (hb hby at_37)
  refine Go.st st22 ?_
  show Go p e below _ (T22.setTop (mkF m 40 #[.val (.int p1), .unset, .unset, .unset] [(.ref t_WARNING), (.int (5 : Int32)), (.ref o5), (.ref o5)]))
  obtain ⟨T23, h23, X23, e23, W23, B23, st23⟩ := g_aastore X22 hx (hb hby at_40) hZ e22 Av_o5_20 (show ¬ (5 : Int32) < 0 ∧ (5 : Int32) < (21 : Int32) from by decide) (i := 5) rfl (by decide : 5 < 21) rfl rfl (by obtain ⟨cl, A, r1, -⟩ := Av_o5_20; exact Sto.ofV A r1 O5 (Ins.self (Exa.keep E_t_WARNING K20))) (L := #[.val (.int p1), .unset, .unset, .unset]) (S := [(.ref o5)])
  refine Go.st st23 ?_
  have Av_o5_23 : Arv Z h23 o5 cA5 (.object "com/example/buildwright/buildwright/script/ScriptElement") (21 : Int32) ([(.ref t_BUILDWRIGHT), (.ref t_NODE), (.ref t_AGGREGATE), (.ref t_AGENT), (.ref t_TRIGGER), (.ref t_WARNING), .null, .null, .null, .null, .null, .null, .null, .null, .null, .null, .null, .null, .null, .null, .null]) .null := B23
  have K23 : Keep h0 h23 [] := Keep.wr K20 W23 (Or.inr mh_o5)
  have N23 := Fr.snoc X23 N20 g_o5
  have Zs23 : n0 ≤ h23.size := by rw [W23.size]; exact Zs20
  show Go p e below _ (T23.setTop (mkF m 41 #[.val (.int p1), .unset, .unset, .unset] [(.ref o5)]))
  refine g_dup X23 hx (hb hby at_41) 42 rfl rfl ?_
  refine g_bipush X23 hx (hb hby at_42) 44 rfl (6 : Int32) rfl ?_
  obtain ⟨T25, X25, e25, st25⟩ := getS2 X23 hx hZ hown (host := "") (Or.inl (hw _ (List.mem_of_getElem? (i := 16) rfl))) Via.refl e23 (own_Sta_keep S_ERROR K23 all0) (g := (mkF m 44 #[.val (.int p1), .unset, .unset, .unset] [(.int (6 : Int32)), (.ref o5), (.ref o5)])) rfl (hb hby at_44)
  refine Go.st st25 ?_
  show Go p e below _ (T25.setTop (mkF m 47 #[.val (.int p1), .unset, .unset, .unset] [(.ref t_ERROR), (.int (6 : Int32)), (.ref o5), (.ref o5)]))
  obtain ⟨T26, h26, X26, e26, W26, B26, st26⟩ := g_aastore X25 hx (hb hby at_47) hZ e25 Av_o5_23 (show ¬ (6 : Int32) < 0 ∧ (6 : Int32) < (21 : Int32) from by decide) (i := 6) rfl (by decide : 6 < 21) rfl rfl (by obtain ⟨cl, A, r1, -⟩ := Av_o5_23; exact Sto.ofV A r1 O5 (Ins.self (Exa.keep E_t_ERROR K23))) (L := #[.val (.int p1), .unset, .unset, .unset]) (S := [(.ref o5)])
  refine Go.st st26 ?_
  have Av_o5_26 : Arv Z h26 o5 cA5 (.object "com/example/buildwright/buildwright/script/ScriptElement") (21 : Int32) ([(.ref t_BUILDWRIGHT), (.ref t_NODE), (.ref t_AGGREGATE), (.ref t_AGENT), (.ref t_TRIGGER), (.ref t_WARNING), (.ref t_ERROR), .null, .null, .null, .null, .null, .null, .null, .null, .null, .null, .null, .null, .null, .null]) .null := B26
  have K26 : Keep h0 h26 [] := Keep.wr K23 W26 (Or.inr mh_o5)
  have N26 := Fr.snoc X26 N23 g_o5
  have Zs26 : n0 ≤ h26.size := by rw [W26.size]; exact Zs23
  show Go p e below _ (T26.setTop (mkF m 48 #[.val (.int p1), .unset, .unset, .unset] [(.ref o5)]))
  refine g_dup X26 hx (hb hby at_48) 49 rfl rfl ?_
  refine g_bipush X26 hx (hb hby at_49) 51 rfl (7 : Int32) rfl ?_
  obtain ⟨T28, X28, e28, st28⟩ := getS2 X26 hx hZ hown (host := "") (Or.inl (hw _ (List.mem_of_getElem? (i := 18) rfl))) Via.refl e26 (own_Sta_keep S_SPAWN K26 all0) (g := (mkF m 51 #[.val (.int p1), .unset, .unset, .unset] [(.int (7 : Int32)), (.ref o5), (.ref o5)])) rfl (hb hby at_51)
  refine Go.st st28 ?_
  show Go p e below _ (T28.setTop (mkF m 54 #[.val (.int p1), .unset, .unset, .unset] [(.ref t_SPAWN), (.int (7 : Int32)), (.ref o5), (.ref o5)]))
  obtain ⟨T29, h29, X29, e29, W29, B29, st29⟩ := g_aastore X28 hx (hb hby at_54) hZ e28 Av_o5_26 (show ¬ (7 : Int32) < 0 ∧ (7 : Int32) < (21 : Int32) from by decide) (i := 7) rfl (by decide : 7 < 21) rfl rfl (by obtain ⟨cl, A, r1, -⟩ := Av_o5_26; exact Sto.ofV A r1 O5 (Ins.self (Exa.keep E_t_SPAWN K26))) (L := #[.val (.int p1), .unset, .unset, .unset]) (S := [(.ref o5)])
  refine Go.st st29 ?_
  have Av_o5_29 : Arv Z h29 o5 cA5 (.object "com/example/buildwright/buildwright/script/ScriptElement") (21 : Int32) ([(.ref t_BUILDWRIGHT), (.ref t_NODE), (.ref t_AGGREGATE), (.ref t_AGENT), (.ref t_TRIGGER), (.ref t_WARNING), (.ref t_ERROR), (.ref t_SPAWN), .null, .null, .null, .null, .null, .null, .null, .null, .null, .null, .null, .null, .null]) .null := B29
  have K29 : Keep h0 h29 [] := Keep.wr K26 W29 (Or.inr mh_o5)
  have N29 := Fr.snoc X29 N26 g_o5
  have Zs29 : n0 ≤ h29.size := by rw [W29.size]; exact Zs26
  show Go p e below _ (T29.setTop (mkF m 55 #[.val (.int p1), .unset, .unset, .unset] [(.ref o5)]))
  refine g_dup X29 hx (hb hby at_55) 56 rfl rfl ?_
  refine g_bipush X29 hx (hb hby at_56) 58 rfl (8 : Int32) rfl ?_
  obtain ⟨T31, X31, e31, st31⟩ := getS2 X29 hx hZ hown (host := "") (Or.inl (hw _ (List.mem_of_getElem? (i := 20) rfl))) Via.refl e29 (own_Sta_keep S_SOURCE_INDEX K29 all0) (g := (mkF m 58 #[.val (.int p1), .unset, .unset, .unset] [(.int (8 : Int32)), (.ref o5), (.ref o5)])) rfl (hb hby at_58)
  refine Go.st st31 ?_
  show Go p e below _ (T31.setTop (mkF m 61 #[.val (.int p1), .unset, .unset, .unset] [(.ref t_SOURCE_INDEX), (.int (8 : Int32)), (.ref o5), (.ref o5)]))
  obtain ⟨T32, h32, X32, e32, W32, B32, st32⟩ := g_aastore X31 hx (hb hby at_61) hZ e31 Av_o5_29 (show ¬ (8 : Int32) < 0 ∧ (8 : Int32) < (21 : Int32) from by decide) (i := 8) rfl (by decide : 8 < 21) rfl rfl (by obtain ⟨cl, A, r1, -⟩ := Av_o5_29; exact Sto.ofV A r1 O5 (Ins.self (Exa.keep E_t_SOURCE_INDEX K29))) (L := #[.val (.int p1), .unset, .unset, .unset]) (S := [(.ref o5)])
  refine Go.st st32 ?_
  have Av_o5_32 : Arv Z h32 o5 cA5 (.object "com/example/buildwright/buildwright/script/ScriptElement") (21 : Int32) ([(.ref t_BUILDWRIGHT), (.ref t_NODE), (.ref t_AGGREGATE), (.ref t_AGENT), (.ref t_TRIGGER), (.ref t_WARNING), (.ref t_ERROR), (.ref t_SPAWN), (.ref t_SOURCE_INDEX), .null, .null, .null, .null, .null, .null, .null, .null, .null, .null, .null, .null]) .null := B32
  have K32 : Keep h0 h32 [] := Keep.wr K29 W32 (Or.inr mh_o5)
  have N32 := Fr.snoc X32 N29 g_o5
  have Zs32 : n0 ≤ h32.size := by rw [W32.size]; exact Zs29
  show Go p e below _ (T32.setTop (mkF m 62 #[.val (.int p1), .unset, .unset, .unset] [(.ref o5)]))
  refine g_dup X32 hx (hb hby at_62) 63 rfl rfl ?_
  refine g_bipush X32 hx (hb hby at_63) 65 rfl (9 : Int32) rfl ?_
  obtain ⟨T34, X34, e34, st34⟩ := getS2 X32 hx hZ hown (host := "") (Or.inl (hw _ (List.mem_of_getElem? (i := 22) rfl))) Via.refl e32 (own_Sta_keep S_TEST K32 all0) (g := (mkF m 65 #[.val (.int p1), .unset, .unset, .unset] [(.int (9 : Int32)), (.ref o5), (.ref o5)])) rfl (hb hby at_65)
  refine Go.st st34 ?_
  show Go p e below _ (T34.setTop (mkF m 68 #[.val (.int p1), .unset, .unset, .unset] [(.ref t_TEST), (.int (9 : Int32)), (.ref o5), (.ref o5)]))
  obtain ⟨T35, h35, X35, e35, W35, B35, st35⟩ := g_aastore X34 hx (hb hby at_68) hZ e34 Av_o5_32 (show ¬ (9 : Int32) < 0 ∧ (9 : Int32) < (21 : Int32) from by decide) (i := 9) rfl (by decide : 9 < 21) rfl rfl (by obtain ⟨cl, A, r1, -⟩ := Av_o5_32; exact Sto.ofV A r1 O5 (Ins.self (Exa.keep E_t_TEST K32))) (L := #[.val (.int p1), .unset, .unset, .unset]) (S := [(.ref o5)])
  refine Go.st st35 ?_
  have Av_o5_35 : Arv Z h35 o5 cA5 (.object "com/example/buildwright/buildwright/script/ScriptElement") (21 : Int32) ([(.ref t_BUILDWRIGHT), (.ref t_NODE), (.ref t_AGGREGATE), (.ref t_AGENT), (.ref t_TRIGGER), (.ref t_WARNING), (.ref t_ERROR), (.ref t_SPAWN), (.ref t_SOURCE_INDEX), (.ref t_TEST), .null, .null, .null, .null, .null, .null, .null, .null, .null, .null, .null]) .null := B35
  have K35 : Keep h0 h35 [] := Keep.wr K32 W35 (Or.inr mh_o5)
  have N35 := Fr.snoc X35 N32 g_o5
  have Zs35 : n0 ≤ h35.size := by rw [W35.size]; exact Zs32
  show Go p e below _ (T35.setTop (mkF m 69 #[.val (.int p1), .unset, .unset, .unset] [(.ref o5)]))
  refine g_dup X35 hx (hb hby at_69) 70 rfl rfl ?_
  refine g_bipush X35 hx (hb hby at_70) 72 rfl (10 : Int32) rfl ?_
  obtain ⟨T37, X37, e37, st37⟩ := getS2 X35 hx hZ hown (host := "") (Or.inl (hw _ (List.mem_of_getElem? (i := 24) rfl))) Via.refl e35 (own_Sta_keep S_LOG K35 all0) (g := (mkF m 72 #[.val (.int p1), .unset, .unset, .unset] [(.int (10 : Int32)), (.ref o5), (.ref o5)])) rfl (hb hby at_72)
  refine Go.st st37 ?_
  show Go p e below _ (T37.setTop (mkF m 75 #[.val (.int p1), .unset, .unset, .unset] [(.ref t_LOG), (.int (10 : Int32)), (.ref o5), (.ref o5)]))
  obtain ⟨T38, h38, X38, e38, W38, B38, st38⟩ := g_aastore X37 hx (hb hby at_75) hZ e37 Av_o5_35 (show ¬ (10 : Int32) < 0 ∧ (10 : Int32) < (21 : Int32) from by decide) (i := 10) rfl (by decide : 10 < 21) rfl rfl (by obtain ⟨cl, A, r1, -⟩ := Av_o5_35; exact Sto.ofV A r1 O5 (Ins.self (Exa.keep E_t_LOG K35))) (L := #[.val (.int p1), .unset, .unset, .unset]) (S := [(.ref o5)])
  refine Go.st st38 ?_
  have Av_o5_38 : Arv Z h38 o5 cA5 (.object "com/example/buildwright/buildwright/script/ScriptElement") (21 : Int32) ([(.ref t_BUILDWRIGHT), (.ref t_NODE), (.ref t_AGGREGATE), (.ref t_AGENT), (.ref t_TRIGGER), (.ref t_WARNING), (.ref t_ERROR), (.ref t_SPAWN), (.ref t_SOURCE_INDEX), (.ref t_TEST), (.ref t_LOG), .null, .null, .null, .null, .null, .null, .null, .null, .null, .null]) .null := B38
  have K38 : Keep h0 h38 [] := Keep.wr K35 W38 (Or.inr mh_o5)
  have N38 := Fr.snoc X38 N35 g_o5
  have Zs38 : n0 ≤ h38.size := by rw [W38.size]; exact Zs35
  show Go p e below _ (T38.setTop (mkF m 76 #[.val (.int p1), .unset, .unset, .unset] [(.ref o5)]))
  refine g_dup X38 hx (hb hby at_76) 77 rfl rfl ?_
  refine g_bipush X38 hx (hb hby at_77) 79 rfl (11 : Int32) rfl ?_
  obtain ⟨T40, X40, e40, st40⟩ := getS2 X38 hx hZ hown (host := "") (Or.inl (hw _ (List.mem_of_getElem? (i := 26) rfl))) Via.refl e38 (own_Sta_keep S_PROPERTY K38 all0) (g := (mkF m 79 #[.val (.int p1), .unset, .unset, .unset] [(.int (11 : Int32)), (.ref o5), (.ref o5)])) rfl (hb hby at_79)
  refine Go.st st40 ?_
  show Go p e below _ (T40.setTop (mkF m 82 #[.val (.int p1), .unset, .unset, .unset] [(.ref t_PROPERTY), (.int (11 : Int32)), (.ref o5), (.ref o5)]))
  obtain ⟨T41, h41, X41, e41, W41, B41, st41⟩ := g_aastore X40 hx (hb hby at_82) hZ e40 Av_o5_38 (show ¬ (11 : Int32) < 0 ∧ (11 : Int32) < (21 : Int32) from by decide) (i := 11) rfl (by decide : 11 < 21) rfl rfl (by obtain ⟨cl, A, r1, -⟩ := Av_o5_38; exact Sto.ofV A r1 O5 (Ins.self (Exa.keep E_t_PROPERTY K38))) (L := #[.val (.int p1), .unset, .unset, .unset]) (S := [(.ref o5)])
  refine Go.st st41 ?_
  have Av_o5_41 : Arv Z h41 o5 cA5 (.object "com/example/buildwright/buildwright/script/ScriptElement") (21 : Int32) ([(.ref t_BUILDWRIGHT), (.ref t_NODE), (.ref t_AGGREGATE), (.ref t_AGENT), (.ref t_TRIGGER), (.ref t_WARNING), (.ref t_ERROR), (.ref t_SPAWN), (.ref t_SOURCE_INDEX), (.ref t_TEST), (.ref t_LOG), (.ref t_PROPERTY), .null, .null, .null, .null, .null, .null, .null, .null, .null]) .null := B41
  have K41 : Keep h0 h41 [] := Keep.wr K38 W41 (Or.inr mh_o5)
  have N41 := Fr.snoc X41 N38 g_o5
  have Zs41 : n0 ≤ h41.size := by rw [W41.size]; exact Zs38
  show Go p e below _ (T41.setTop (mkF m 83 #[.val (.int p1), .unset, .unset, .unset] [(.ref o5)]))
  refine g_dup X41 hx (hb hby at_83) 84 rfl rfl ?_
  refine g_bipush X41 hx (hb hby at_84) 86 rfl (12 : Int32) rfl ?_
  obtain ⟨T43, X43, e43, st43⟩ := getS2 X41 hx hZ hown (host := "") (Or.inl (hw _ (List.mem_of_getElem? (i := 28) rfl))) Via.refl e41 (own_Sta_keep S_OPTION K41 all0) (g := (mkF m 86 #[.val (.int p1), .unset, .unset, .unset] [(.int (12 : Int32)), (.ref o5), (.ref o5)])) rfl (hb hby at_86)
  refine Go.st st43 ?_
  show Go p e below _ (T43.setTop (mkF m 89 #[.val (.int p1), .unset, .unset, .unset] [(.ref t_OPTION), (.int (12 : Int32)), (.ref o5), (.ref o5)]))
  obtain ⟨T44, h44, X44, e44, W44, B44, st44⟩ := g_aastore X43 hx (hb hby at_89) hZ e43 Av_o5_41 (show ¬ (12 : Int32) < 0 ∧ (12 : Int32) < (21 : Int32) from by decide) (i := 12) rfl (by decide : 12 < 21) rfl rfl (by obtain ⟨cl, A, r1, -⟩ := Av_o5_41; exact Sto.ofV A r1 O5 (Ins.self (Exa.keep E_t_OPTION K41))) (L := #[.val (.int p1), .unset, .unset, .unset]) (S := [(.ref o5)])
  refine Go.st st44 ?_
  have Av_o5_44 : Arv Z h44 o5 cA5 (.object "com/example/buildwright/buildwright/script/ScriptElement") (21 : Int32) ([(.ref t_BUILDWRIGHT), (.ref t_NODE), (.ref t_AGGREGATE), (.ref t_AGENT), (.ref t_TRIGGER), (.ref t_WARNING), (.ref t_ERROR), (.ref t_SPAWN), (.ref t_SOURCE_INDEX), (.ref t_TEST), (.ref t_LOG), (.ref t_PROPERTY), (.ref t_OPTION), .null, .null, .null, .null, .null, .null, .null, .null]) .null := B44
  have K44 : Keep h0 h44 [] := Keep.wr K41 W44 (Or.inr mh_o5)
  have N44 := Fr.snoc X44 N41 g_o5
  have Zs44 : n0 ≤ h44.size := by rw [W44.size]; exact Zs41
  show Go p e below _ (T44.setTop (mkF m 90 #[.val (.int p1), .unset, .unset, .unset] [(.ref o5)]))
  refine g_dup X44 hx (hb hby at_90) 91 rfl rfl ?_
  refine g_bipush X44 hx (hb hby at_91) 93 rfl (13 : Int32) rfl ?_
  obtain ⟨T46, X46, e46, st46⟩ := getS2 X44 hx hZ hown (host := "") (Or.inl (hw _ (List.mem_of_getElem? (i := 30) rfl))) Via.refl e44 (own_Sta_keep S_ENV_VAR K44 all0) (g := (mkF m 93 #[.val (.int p1), .unset, .unset, .unset] [(.int (13 : Int32)), (.ref o5), (.ref o5)])) rfl (hb hby at_93)
  refine Go.st st46 ?_
  show Go p e below _ (T46.setTop (mkF m 96 #[.val (.int p1), .unset, .unset, .unset] [(.ref t_ENV_VAR), (.int (13 : Int32)), (.ref o5), (.ref o5)]))
  obtain ⟨T47, h47, X47, e47, W47, B47, st47⟩ := g_aastore X46 hx (hb hby at_96) hZ e46 Av_o5_44 (show ¬ (13 : Int32) < 0 ∧ (13 : Int32) < (21 : Int32) from by decide) (i := 13) rfl (by decide : 13 < 21) rfl rfl (by obtain ⟨cl, A, r1, -⟩ := Av_o5_44; exact Sto.ofV A r1 O5 (Ins.self (Exa.keep E_t_ENV_VAR K44))) (L := #[.val (.int p1), .unset, .unset, .unset]) (S := [(.ref o5)])
  refine Go.st st47 ?_
  have Av_o5_47 : Arv Z h47 o5 cA5 (.object "com/example/buildwright/buildwright/script/ScriptElement") (21 : Int32) ([(.ref t_BUILDWRIGHT), (.ref t_NODE), (.ref t_AGGREGATE), (.ref t_AGENT), (.ref t_TRIGGER), (.ref t_WARNING), (.ref t_ERROR), (.ref t_SPAWN), (.ref t_SOURCE_INDEX), (.ref t_TEST), (.ref t_LOG), (.ref t_PROPERTY), (.ref t_OPTION), (.ref t_ENV_VAR), .null, .null, .null, .null, .null, .null, .null]) .null := B47
  have K47 : Keep h0 h47 [] := Keep.wr K44 W47 (Or.inr mh_o5)
  have N47 := Fr.snoc X47 N44 g_o5
  have Zs47 : n0 ≤ h47.size := by rw [W47.size]; exact Zs44
  show Go p e below _ (T47.setTop (mkF m 97 #[.val (.int p1), .unset, .unset, .unset] [(.ref o5)]))
  refine g_dup X47 hx (hb hby at_97) 98 rfl rfl ?_
  refine g_bipush X47 hx (hb hby at_98) 100 rfl (14 : Int32) rfl ?_
  obtain ⟨T49, X49, e49, st49⟩ := getS2 X47 hx hZ hown (host := "") (Or.inl (hw _ (List.mem_of_getElem? (i := 32) rfl))) Via.refl e47 (own_Sta_keep S_INCLUDE K47 all0) (g := (mkF m 100 #[.val (.int p1), .unset, .unset, .unset] [(.int (14 : Int32)), (.ref o5), (.ref o5)])) rfl (hb hby at_100)
  refine Go.st st49 ?_
  show Go p e below _ (T49.setTop (mkF m 103 #[.val (.int p1), .unset, .unset, .unset] [(.ref t_INCLUDE), (.int (14 : Int32)), (.ref o5), (.ref o5)]))
  obtain ⟨T50, h50, X50, e50, W50, B50, st50⟩ := g_aastore X49 hx (hb hby at_103) hZ e49 Av_o5_47 (show ¬ (14 : Int32) < 0 ∧ (14 : Int32) < (21 : Int32) from by decide) (i := 14) rfl (by decide : 14 < 21) rfl rfl (by obtain ⟨cl, A, r1, -⟩ := Av_o5_47; exact Sto.ofV A r1 O5 (Ins.self (Exa.keep E_t_INCLUDE K47))) (L := #[.val (.int p1), .unset, .unset, .unset]) (S := [(.ref o5)])
  refine Go.st st50 ?_
  have Av_o5_50 : Arv Z h50 o5 cA5 (.object "com/example/buildwright/buildwright/script/ScriptElement") (21 : Int32) ([(.ref t_BUILDWRIGHT), (.ref t_NODE), (.ref t_AGGREGATE), (.ref t_AGENT), (.ref t_TRIGGER), (.ref t_WARNING), (.ref t_ERROR), (.ref t_SPAWN), (.ref t_SOURCE_INDEX), (.ref t_TEST), (.ref t_LOG), (.ref t_PROPERTY), (.ref t_OPTION), (.ref t_ENV_VAR), (.ref t_INCLUDE), .null, .null, .null, .null, .null, .null]) .null := B50
  have K50 : Keep h0 h50 [] := Keep.wr K47 W50 (Or.inr mh_o5)
  have N50 := Fr.snoc X50 N47 g_o5
  have Zs50 : n0 ≤ h50.size := by rw [W50.size]; exact Zs47
  show Go p e below _ (T50.setTop (mkF m 104 #[.val (.int p1), .unset, .unset, .unset] [(.ref o5)]))
  refine g_dup X50 hx (hb hby at_104) 105 rfl rfl ?_
  refine g_bipush X50 hx (hb hby at_105) 107 rfl (15 : Int32) rfl ?_
  obtain ⟨T52, X52, e52, st52⟩ := getS2 X50 hx hZ hown (host := "") (Or.inl (hw _ (List.mem_of_getElem? (i := 34) rfl))) Via.refl e50 (own_Sta_keep S_DEPENDENCY K50 all0) (g := (mkF m 107 #[.val (.int p1), .unset, .unset, .unset] [(.int (15 : Int32)), (.ref o5), (.ref o5)])) rfl (hb hby at_107)
  refine Go.st st52 ?_
  show Go p e below _ (T52.setTop (mkF m 110 #[.val (.int p1), .unset, .unset, .unset] [(.ref t_DEPENDENCY), (.int (15 : Int32)), (.ref o5), (.ref o5)]))
  obtain ⟨T53, h53, X53, e53, W53, B53, st53⟩ := g_aastore X52 hx (hb hby at_110) hZ e52 Av_o5_50 (show ¬ (15 : Int32) < 0 ∧ (15 : Int32) < (21 : Int32) from by decide) (i := 15) rfl (by decide : 15 < 21) rfl rfl (by obtain ⟨cl, A, r1, -⟩ := Av_o5_50; exact Sto.ofV A r1 O5 (Ins.self (Exa.keep E_t_DEPENDENCY K50))) (L := #[.val (.int p1), .unset, .unset, .unset]) (S := [(.ref o5)])
  refine Go.st st53 ?_
  have Av_o5_53 : Arv Z h53 o5 cA5 (.object "com/example/buildwright/buildwright/script/ScriptElement") (21 : Int32) ([(.ref t_BUILDWRIGHT), (.ref t_NODE), (.ref t_AGGREGATE), (.ref t_AGENT), (.ref t_TRIGGER), (.ref t_WARNING), (.ref t_ERROR), (.ref t_SPAWN), (.ref t_SOURCE_INDEX), (.ref t_TEST), (.ref t_LOG), (.ref t_PROPERTY), (.ref t_OPTION), (.ref t_ENV_VAR), (.ref t_INCLUDE), (.ref t_DEPENDENCY), .null, .null, .null, .null, .null]) .null := B53
  have K53 : Keep h0 h53 [] := Keep.wr K50 W53 (Or.inr mh_o5)
  have N53 := Fr.snoc X53 N50 g_o5
  have Zs53 : n0 ≤ h53.size := by rw [W53.size]; exact Zs50
  show Go p e below _ (T53.setTop (mkF m 111 #[.val (.int p1), .unset, .unset, .unset] [(.ref o5)]))
  refine g_dup X53 hx (hb hby at_111) 112 rfl rfl ?_
  refine g_bipush X53 hx (hb hby at_112) 114 rfl (16 : Int32) rfl ?_
  obtain ⟨T55, X55, e55, st55⟩ := getS2 X53 hx hZ hown (host := "") (Or.inl (hw _ (List.mem_of_getElem? (i := 36) rfl))) Via.refl e53 (own_Sta_keep S_DO K53 all0) (g := (mkF m 114 #[.val (.int p1), .unset, .unset, .unset] [(.int (16 : Int32)), (.ref o5), (.ref o5)])) rfl (hb hby at_114)
  refine Go.st st55 ?_
  show Go p e below _ (T55.setTop (mkF m 117 #[.val (.int p1), .unset, .unset, .unset] [(.ref t_DO), (.int (16 : Int32)), (.ref o5), (.ref o5)]))
  obtain ⟨T56, h56, X56, e56, W56, B56, st56⟩ := g_aastore X55 hx (hb hby at_117) hZ e55 Av_o5_53 (show ¬ (16 : Int32) < 0 ∧ (16 : Int32) < (21 : Int32) from by decide) (i := 16) rfl (by decide : 16 < 21) rfl rfl (by obtain ⟨cl, A, r1, -⟩ := Av_o5_53; exact Sto.ofV A r1 O5 (Ins.self (Exa.keep E_t_DO K53))) (L := #[.val (.int p1), .unset, .unset, .unset]) (S := [(.ref o5)])
  refine Go.st st56 ?_
  have Av_o5_56 : Arv Z h56 o5 cA5 (.object "com/example/buildwright/buildwright/script/ScriptElement") (21 : Int32) ([(.ref t_BUILDWRIGHT), (.ref t_NODE), (.ref t_AGGREGATE), (.ref t_AGENT), (.ref t_TRIGGER), (.ref t_WARNING), (.ref t_ERROR), (.ref t_SPAWN), (.ref t_SOURCE_INDEX), (.ref t_TEST), (.ref t_LOG), (.ref t_PROPERTY), (.ref t_OPTION), (.ref t_ENV_VAR), (.ref t_INCLUDE), (.ref t_DEPENDENCY), (.ref t_DO), .null, .null, .null, .null]) .null := B56
  have K56 : Keep h0 h56 [] := Keep.wr K53 W56 (Or.inr mh_o5)
  have N56 := Fr.snoc X56 N53 g_o5
  have Zs56 : n0 ≤ h56.size := by rw [W56.size]; exact Zs53
  show Go p e below _ (T56.setTop (mkF m 118 #[.val (.int p1), .unset, .unset, .unset] [(.ref o5)]))
  refine g_dup X56 hx (hb hby at_118) 119 rfl rfl ?_
  refine g_bipush X56 hx (hb hby at_119) 121 rfl (17 : Int32) rfl ?_
  obtain ⟨T58, X58, e58, st58⟩ := getS2 X56 hx hZ hown (host := "") (Or.inl (hw _ (List.mem_of_getElem? (i := 38) rfl))) Via.refl e56 (own_Sta_keep S_SWITCH K56 all0) (g := (mkF m 121 #[.val (.int p1), .unset, .unset, .unset] [(.int (17 : Int32)), (.ref o5), (.ref o5)])) rfl (hb hby at_121)
  refine Go.st st58 ?_
  show Go p e below _ (T58.setTop (mkF m 124 #[.val (.int p1), .unset, .unset, .unset] [(.ref t_SWITCH), (.int (17 : Int32)), (.ref o5), (.ref o5)]))
  obtain ⟨T59, h59, X59, e59, W59, B59, st59⟩ := g_aastore X58 hx (hb hby at_124) hZ e58 Av_o5_56 (show ¬ (17 : Int32) < 0 ∧ (17 : Int32) < (21 : Int32) from by decide) (i := 17) rfl (by decide : 17 < 21) rfl rfl (by obtain ⟨cl, A, r1, -⟩ := Av_o5_56; exact Sto.ofV A r1 O5 (Ins.self (Exa.keep E_t_SWITCH K56))) (L := #[.val (.int p1), .unset, .unset, .unset]) (S := [(.ref o5)])
  refine Go.st st59 ?_
  have Av_o5_59 : Arv Z h59 o5 cA5 (.object "com/example/buildwright/buildwright/script/ScriptElement") (21 : Int32) ([(.ref t_BUILDWRIGHT), (.ref t_NODE), (.ref t_AGGREGATE), (.ref t_AGENT), (.ref t_TRIGGER), (.ref t_WARNING), (.ref t_ERROR), (.ref t_SPAWN), (.ref t_SOURCE_INDEX), (.ref t_TEST), (.ref t_LOG), (.ref t_PROPERTY), (.ref t_OPTION), (.ref t_ENV_VAR), (.ref t_INCLUDE), (.ref t_DEPENDENCY), (.ref t_DO), (.ref t_SWITCH), .null, .null, .null]) .null := B59
  have K59 : Keep h0 h59 [] := Keep.wr K56 W59 (Or.inr mh_o5)
  have N59 := Fr.snoc X59 N56 g_o5
  have Zs59 : n0 ≤ h59.size := by rw [W59.size]; exact Zs56
  show Go p e below _ (T59.setTop (mkF m 125 #[.val (.int p1), .unset, .unset, .unset] [(.ref o5)]))
  refine g_dup X59 hx (hb hby at_125) 126 rfl rfl ?_
  refine g_bipush X59 hx (hb hby at_126) 128 rfl (18 : Int32) rfl ?_
  obtain ⟨T61, X61, e61, st61⟩ := getS2 X59 hx hZ hown (host := "") (Or.inl (hw _ (List.mem_of_getElem? (i := 40) rfl))) Via.refl e59 (own_Sta_keep S_CASE K59 all0) (g := (mkF m 128 #[.val (.int p1), .unset, .unset, .unset] [(.int (18 : Int32)), (.ref o5), (.ref o5)])) rfl (hb hby at_128)
  refine Go.st st61 ?_
  show Go p e below _ (T61.setTop (mkF m 131 #[.val (.int p1), .unset, .unset, .unset] [(.ref t_CASE), (.int (18 : Int32)), (.ref o5), (.ref o5)]))
  obtain ⟨T62, h62, X62, e62, W62, B62, st62⟩ := g_aastore X61 hx (hb hby at_131) hZ e61 Av_o5_59 (show ¬ (18 : Int32) < 0 ∧ (18 : Int32) < (21 : Int32) from by decide) (i := 18) rfl (by decide : 18 < 21) rfl rfl (by obtain ⟨cl, A, r1, -⟩ := Av_o5_59; exact Sto.ofV A r1 O5 (Ins.self (Exa.keep E_t_CASE K59))) (L := #[.val (.int p1), .unset, .unset, .unset]) (S := [(.ref o5)])
  refine Go.st st62 ?_
  have Av_o5_62 : Arv Z h62 o5 cA5 (.object "com/example/buildwright/buildwright/script/ScriptElement") (21 : Int32) ([(.ref t_BUILDWRIGHT), (.ref t_NODE), (.ref t_AGGREGATE), (.ref t_AGENT), (.ref t_TRIGGER), (.ref t_WARNING), (.ref t_ERROR), (.ref t_SPAWN), (.ref t_SOURCE_INDEX), (.ref t_TEST), (.ref t_LOG), (.ref t_PROPERTY), (.ref t_OPTION), (.ref t_ENV_VAR), (.ref t_INCLUDE), (.ref t_DEPENDENCY), (.ref t_DO), (.ref t_SWITCH), (.ref t_CASE), .null, .null]) .null := B62
  have K62 : Keep h0 h62 [] := Keep.wr K59 W62 (Or.inr mh_o5)
  have N62 := Fr.snoc X62 N59 g_o5
  have Zs62 : n0 ≤ h62.size := by rw [W62.size]; exact Zs59
  show Go p e below _ (T62.setTop (mkF m 132 #[.val (.int p1), .unset, .unset, .unset] [(.ref o5)]))
  refine g_dup X62 hx (hb hby at_132) 133 rfl rfl ?_
  refine g_bipush X62 hx (hb hby at_133) 135 rfl (19 : Int32) rfl ?_
  obtain ⟨T64, X64, e64, st64⟩ := getS2 X62 hx hZ hown (host := "") (Or.inl (hw _ (List.mem_of_getElem? (i := 42) rfl))) Via.refl e62 (own_Sta_keep S_DEFAULT K62 all0) (g := (mkF m 135 #[.val (.int p1), .unset, .unset, .unset] [(.int (19 : Int32)), (.ref o5), (.ref o5)])) rfl (hb hby at_135)
  refine Go.st st64 ?_
  show Go p e below _ (T64.setTop (mkF m 138 #[.val (.int p1), .unset, .unset, .unset] [(.ref t_DEFAULT), (.int (19 : Int32)), (.ref o5), (.ref o5)]))
  obtain ⟨T65, h65, X65, e65, W65, B65, st65⟩ := g_aastore X64 hx (hb hby at_138) hZ e64 Av_o5_62 (show ¬ (19 : Int32) < 0 ∧ (19 : Int32) < (21 : Int32) from by decide) (i := 19) rfl (by decide : 19 < 21) rfl rfl (by obtain ⟨cl, A, r1, -⟩ := Av_o5_62; exact Sto.ofV A r1 O5 (Ins.self (Exa.keep E_t_DEFAULT K62))) (L := #[.val (.int p1), .unset, .unset, .unset]) (S := [(.ref o5)])
  refine Go.st st65 ?_
  have Av_o5_65 : Arv Z h65 o5 cA5 (.object "com/example/buildwright/buildwright/script/ScriptElement") (21 : Int32) ([(.ref t_BUILDWRIGHT), (.ref t_NODE), (.ref t_AGGREGATE), (.ref t_AGENT), (.ref t_TRIGGER), (.ref t_WARNING), (.ref t_ERROR), (.ref t_SPAWN), (.ref t_SOURCE_INDEX), (.ref t_TEST), (.ref t_LOG), (.ref t_PROPERTY), (.ref t_OPTION), (.ref t_ENV_VAR), (.ref t_INCLUDE), (.ref t_DEPENDENCY), (.ref t_DO), (.ref t_SWITCH), (.ref t_CASE), (.ref t_DEFAULT), .null]) .null := B65
  have K65 : Keep h0 h65 [] := Keep.wr K62 W65 (Or.inr mh_o5)
  have N65 := Fr.snoc X65 N62 g_o5
  have Zs65 : n0 ≤ h65.size := by rw [W65.size]; exact Zs62
  show Go p e below _ (T65.setTop (mkF m 139 #[.val (.int p1), .unset, .unset, .unset] [(.ref o5)]))
  refine g_dup X65 hx (hb hby at_139) 140 rfl rfl ?_
  refine g_bipush X65 hx (hb hby at_140) 142 rfl (20 : Int32) rfl ?_
  obtain ⟨T67, X67, e67, st67⟩ := getS2 X65 hx hZ hown (host := "") (Or.inl (hw _ (List.mem_of_getElem? (i := 44) rfl))) Via.refl e65 (own_Sta_keep S_FOR_EACH K65 all0) (g := (mkF m 142 #[.val (.int p1), .unset, .unset, .unset] [(.int (20 : Int32)), (.ref o5), (.ref o5)])) rfl (hb hby at_142)
  refine Go.st st67 ?_
  show Go p e below _ (T67.setTop (mkF m 145 #[.val (.int p1), .unset, .unset, .unset] [(.ref t_FOR_EACH), (.int (20 : Int32)), (.ref o5), (.ref o5)]))
  obtain ⟨T68, h68, X68, e68, W68, B68, st68⟩ := g_aastore X67 hx (hb hby at_145) hZ e67 Av_o5_65 (show ¬ (20 : Int32) < 0 ∧ (20 : Int32) < (21 : Int32) from by decide) (i := 20) rfl (by decide : 20 < 21) rfl rfl (by obtain ⟨cl, A, r1, -⟩ := Av_o5_65; exact Sto.ofV A r1 O5 (Ins.self (Exa.keep E_t_FOR_EACH K65))) (L := #[.val (.int p1), .unset, .unset, .unset]) (S := [(.ref o5)])
  refine Go.st st68 ?_
  have Av_o5_68 : Arv Z h68 o5 cA5 (.object "com/example/buildwright/buildwright/script/ScriptElement") (21 : Int32) ([(.ref t_BUILDWRIGHT), (.ref t_NODE), (.ref t_AGGREGATE), (.ref t_AGENT), (.ref t_TRIGGER), (.ref t_WARNING), (.ref t_ERROR), (.ref t_SPAWN), (.ref t_SOURCE_INDEX), (.ref t_TEST), (.ref t_LOG), (.ref t_PROPERTY), (.ref t_OPTION), (.ref t_ENV_VAR), (.ref t_INCLUDE), (.ref t_DEPENDENCY), (.ref t_DO), (.ref t_SWITCH), (.ref t_CASE), (.ref t_DEFAULT), (.ref t_FOR_EACH)]) .null := B68
  have K68 : Keep h0 h68 [] := Keep.wr K65 W68 (Or.inr mh_o5)
  have N68 := Fr.snoc X68 N65 g_o5
  have Zs68 : n0 ≤ h68.size := by rw [W68.size]; exact Zs65
  show Go p e below _ (T68.setTop (mkF m 146 #[.val (.int p1), .unset, .unset, .unset] [(.ref o5)]))
  refine g_astoreN X68 hx (hb hby at_146) 147 rfl rfl #[.val (.int p1), .val (.ref o5), .unset, .unset] rfl ?_
  refine g_iloadN X68 hx (hb hby at_147) 148 rfl (v := p1) rfl ?_
  refine Go.st (X68.ldcInt hx hown (mvT hZ (hw _ (List.mem_of_getElem? (i := 46) rfl))) (g := (mkF m 148 #[.val (.int p1), .val (.ref o5), .unset, .unset] [(.int p1)])) rfl (hb hby at_148)) ?_
  show Go p e below _ (T68.setTop (mkF m 150 #[.val (.int p1), .val (.ref o5), .unset, .unset] [(.int (2147483647 : Int32)), (.int p1)]))
  refine g_iand X68 hx (hb hby at_150) 151 rfl (p1 &&& (2147483647 : Int32)) rfl ?_
  refine g_bipush X68 hx (hb hby at_151) 153 rfl (21 : Int32) rfl ?_
  obtain ⟨i, e_i⟩ : ∃ z, ((p1 &&& (2147483647 : Int32)) % (21 : Int32)) = z := ⟨_, rfl⟩
  refine g_irem X68 hx (hb hby at_153) 154 rfl (by decide) i e_i ?_
  have hi : ¬ i < 0 ∧ i < 21 := e_i ▸ own_idx p1
  refine g_istoreN X68 hx (hb hby at_154) 155 rfl #[.val (.int p1), .val (.ref o5), .val (.int i), .unset] rfl ?_
  refine g_iloadN X68 hx (hb hby at_155) 156 rfl (v := i) rfl ?_
  refine g_bipush X68 hx (hb hby at_156) 158 rfl (16 : Int32) rfl ?_
  refine g_icmp_lt X68 hx (hb hby at_158) 165 161 (by decide) (by decide) rfl (fun hc158 => ?_) (fun hc158 => ?_)
  · refine g_iconst X68 hx (hb hby at_165) 166 rfl (0 : Int32) rfl ?_
    refine g_istoreN X68 hx (hb hby at_166) 167 rfl #[.val (.int p1), .val (.ref o5), .val (.int i), .val (.int (0 : Int32))] rfl ?_
    refine g_aloadN X68 hx (hb hby at_167) 168 rfl (v := (.ref o5)) rfl rfl ?_
    refine g_iloadN X68 hx (hb hby at_168) 169 rfl (v := i) rfl ?_
    have nr_LISTED_CONTROL : t_LISTED ≠ t_CONTROL := Fld.ne (Fld.keep F_ordinal_t_LISTED K68 nin0) (Fld.keep F_ordinal_t_CONTROL K68 nin0) (by simp)
    have nr_LISTED_BODY : t_LISTED ≠ t_BODY := Fld.ne (Fld.keep F_ordinal_t_LISTED K68 nin0) (Fld.keep F_ordinal_t_BODY K68 nin0) (by simp)
    have nr_DIRECT_CONTROL : t_DIRECT ≠ t_CONTROL := Fld.ne (Fld.keep F_ordinal_t_DIRECT K68 nin0) (Fld.keep F_ordinal_t_CONTROL K68 nin0) (by simp)
    have nr_DIRECT_BODY : t_DIRECT ≠ t_BODY := Fld.ne (Fld.keep F_ordinal_t_DIRECT K68 nin0) (Fld.keep F_ordinal_t_BODY K68 nin0) (by simp)
    have pk : ∃ tt rr : Addr, ([(.ref t_BUILDWRIGHT), (.ref t_NODE), (.ref t_AGGREGATE), (.ref t_AGENT), (.ref t_TRIGGER), (.ref t_WARNING), (.ref t_ERROR), (.ref t_SPAWN), (.ref t_SOURCE_INDEX), (.ref t_TEST), (.ref t_LOG), (.ref t_PROPERTY), (.ref t_OPTION), (.ref t_ENV_VAR), (.ref t_INCLUDE), (.ref t_DEPENDENCY), (.ref t_DO), (.ref t_SWITCH), (.ref t_CASE), (.ref t_DEFAULT), (.ref t_FOR_EACH)] : List Value).getD i.toNatClampNeg .null = .ref tt ∧ Exa Z h68 tt "com/example/buildwright/buildwright/script/ScriptElement" ∧ Fld Z h68 tt "com/example/buildwright/buildwright/script/ScriptElement" "role" "Lcom/example/buildwright/buildwright/script/ScriptElement$Role;" (.ref rr) ∧ (i < 16 → rr ≠ t_CONTROL ∧ rr ≠ t_BODY) ∧ (¬ i < 16 → rr = t_CONTROL ∨ rr = t_BODY) := by
      rcases own_21 i hi with rfl | rfl | rfl | rfl | rfl | rfl | rfl | rfl | rfl | rfl | rfl | rfl | rfl | rfl | rfl | rfl | rfl | rfl | rfl | rfl | rfl
      · exact ⟨t_BUILDWRIGHT, t_LISTED, rfl, (Exa.keep E_t_BUILDWRIGHT K68), (Fld.keep F_role_t_BUILDWRIGHT K68 nin0), fun _ => ⟨nr_LISTED_CONTROL, nr_LISTED_BODY⟩, fun q => absurd (by decide) q⟩
      · exact ⟨t_NODE, t_LISTED, rfl, (Exa.keep E_t_NODE K68), (Fld.keep F_role_t_NODE K68 nin0), fun _ => ⟨nr_LISTED_CONTROL, nr_LISTED_BODY⟩, fun q => absurd (by decide) q⟩
      · exact ⟨t_AGGREGATE, t_LISTED, rfl, (Exa.keep E_t_AGGREGATE K68), (Fld.keep F_role_t_AGGREGATE K68 nin0), fun _ => ⟨nr_LISTED_CONTROL, nr_LISTED_BODY⟩, fun q => absurd (by decide) q⟩
      · exact ⟨t_AGENT, t_LISTED, rfl, (Exa.keep E_t_AGENT K68), (Fld.keep F_role_t_AGENT K68 nin0), fun _ => ⟨nr_LISTED_CONTROL, nr_LISTED_BODY⟩, fun q => absurd (by decide) q⟩
      · exact ⟨t_TRIGGER, t_LISTED, rfl, (Exa.keep E_t_TRIGGER K68), (Fld.keep F_role_t_TRIGGER K68 nin0), fun _ => ⟨nr_LISTED_CONTROL, nr_LISTED_BODY⟩, fun q => absurd (by decide) q⟩
      · exact ⟨t_WARNING, t_LISTED, rfl, (Exa.keep E_t_WARNING K68), (Fld.keep F_role_t_WARNING K68 nin0), fun _ => ⟨nr_LISTED_CONTROL, nr_LISTED_BODY⟩, fun q => absurd (by decide) q⟩
      · exact ⟨t_ERROR, t_LISTED, rfl, (Exa.keep E_t_ERROR K68), (Fld.keep F_role_t_ERROR K68 nin0), fun _ => ⟨nr_LISTED_CONTROL, nr_LISTED_BODY⟩, fun q => absurd (by decide) q⟩
      · exact ⟨t_SPAWN, t_LISTED, rfl, (Exa.keep E_t_SPAWN K68), (Fld.keep F_role_t_SPAWN K68 nin0), fun _ => ⟨nr_LISTED_CONTROL, nr_LISTED_BODY⟩, fun q => absurd (by decide) q⟩
      · exact ⟨t_SOURCE_INDEX, t_LISTED, rfl, (Exa.keep E_t_SOURCE_INDEX K68), (Fld.keep F_role_t_SOURCE_INDEX K68 nin0), fun _ => ⟨nr_LISTED_CONTROL, nr_LISTED_BODY⟩, fun q => absurd (by decide) q⟩
      · exact ⟨t_TEST, t_LISTED, rfl, (Exa.keep E_t_TEST K68), (Fld.keep F_role_t_TEST K68 nin0), fun _ => ⟨nr_LISTED_CONTROL, nr_LISTED_BODY⟩, fun q => absurd (by decide) q⟩
      · exact ⟨t_LOG, t_LISTED, rfl, (Exa.keep E_t_LOG K68), (Fld.keep F_role_t_LOG K68 nin0), fun _ => ⟨nr_LISTED_CONTROL, nr_LISTED_BODY⟩, fun q => absurd (by decide) q⟩
      · exact ⟨t_PROPERTY, t_LISTED, rfl, (Exa.keep E_t_PROPERTY K68), (Fld.keep F_role_t_PROPERTY K68 nin0), fun _ => ⟨nr_LISTED_CONTROL, nr_LISTED_BODY⟩, fun q => absurd (by decide) q⟩
      · exact ⟨t_OPTION, t_DIRECT, rfl, (Exa.keep E_t_OPTION K68), (Fld.keep F_role_t_OPTION K68 nin0), fun _ => ⟨nr_DIRECT_CONTROL, nr_DIRECT_BODY⟩, fun q => absurd (by decide) q⟩
      · exact ⟨t_ENV_VAR, t_DIRECT, rfl, (Exa.keep E_t_ENV_VAR K68), (Fld.keep F_role_t_ENV_VAR K68 nin0), fun _ => ⟨nr_DIRECT_CONTROL, nr_DIRECT_BODY⟩, fun q => absurd (by decide) q⟩
      · exact ⟨t_INCLUDE, t_DIRECT, rfl, (Exa.keep E_t_INCLUDE K68), (Fld.keep F_role_t_INCLUDE K68 nin0), fun _ => ⟨nr_DIRECT_CONTROL, nr_DIRECT_BODY⟩, fun q => absurd (by decide) q⟩
      · exact ⟨t_DEPENDENCY, t_DIRECT, rfl, (Exa.keep E_t_DEPENDENCY K68), (Fld.keep F_role_t_DEPENDENCY K68 nin0), fun _ => ⟨nr_DIRECT_CONTROL, nr_DIRECT_BODY⟩, fun q => absurd (by decide) q⟩
      · exact ⟨t_DO, t_BODY, rfl, (Exa.keep E_t_DO K68), (Fld.keep F_role_t_DO K68 nin0), fun q => absurd q (by decide), fun _ => Or.inr rfl⟩
      · exact ⟨t_SWITCH, t_CONTROL, rfl, (Exa.keep E_t_SWITCH K68), (Fld.keep F_role_t_SWITCH K68 nin0), fun q => absurd q (by decide), fun _ => Or.inl rfl⟩
      · exact ⟨t_CASE, t_BODY, rfl, (Exa.keep E_t_CASE K68), (Fld.keep F_role_t_CASE K68 nin0), fun q => absurd q (by decide), fun _ => Or.inr rfl⟩
      · exact ⟨t_DEFAULT, t_BODY, rfl, (Exa.keep E_t_DEFAULT K68), (Fld.keep F_role_t_DEFAULT K68 nin0), fun q => absurd q (by decide), fun _ => Or.inr rfl⟩
      · exact ⟨t_FOR_EACH, t_BODY, rfl, (Exa.keep E_t_FOR_EACH K68), (Fld.keep F_role_t_FOR_EACH K68 nin0), fun q => absurd q (by decide), fun _ => Or.inr rfl⟩
    obtain ⟨tt, rr, u_tt, E_tt, F_tt, pk1, pk2⟩ := pk
    refine g_aaload X68 hx (hb hby at_169) 170 rfl hZ e68 Av_o5_68 rfl hi (.ref tt) u_tt ?_
    obtain ⟨cq71, kq71, q71a, q71b, q71c⟩ := isOf hZ e68 E_tt
    obtain ⟨_, _, ⟨T71, L71, k71, n71⟩, -, X71, ⟨Lc71, hQ71, l71, y71, z71⟩, st71⟩ := X68.virtualBack hx (y := (⟨"com/example/buildwright/buildwright/script/ScriptElement", "isControl", "()Z"⟩ : MethodName)) (z := (⟨"com/example/buildwright/buildwright/script/ScriptElement", "isControl", "()Z"⟩ : MethodName)) hown (mvT hZ (hw _ (List.mem_of_getElem? (i := 47) rfl))) (mvT hZ (hw _ (List.mem_of_getElem? (i := 48) rfl))) (notFace_of_selects (args := #[]) (mvT hZ (hw _ (List.mem_of_getElem? (i := 50) rfl)))) (mvT hZ (hw _ (List.mem_of_getElem? (i := 50) rfl))) (mvT hZ (hw _ (List.mem_of_getElem? (i := 49) rfl))) (by decide) (backOf (W := 0) (rm1 l Z a0 hw [] tt rr t_CONTROL t_BODY h68 n0 Zs68 F_tt (own_Sta_keep S_CONTROL K68 all0) (own_Sta_keep S_BODY K68 all0)) hZ (hw _ (List.mem_of_getElem? (i := 51) rfl)) (hw _ (List.mem_of_getElem? (i := 3) rfl)) (by decide) (by decide)) q71a q71c (g := (mkF m 170 #[.val (.int p1), .val (.ref o5), .val (.int i), .val (.int (0 : Int32))] [(.ref tt)])) rfl (by rw [hml]; rfl) (Steps.refl _) (argsL := []) (rest := []) (lenOf own_pd0 rfl) rfl (by show 2 * 0 + _ ≤ _; exact Nat.le_of_eq rfl) (hb hby at_170) (fun _ _ => ⟨rfl, e68, (by decide : 1 + 0 ≤ _), (by decide : 21 + 0 ≤ _)⟩)
    dsimp only [Pt.U, Pt.locs, Pt.cells, Pt.slots] at X71 l71 y71 z71 st71 hQ71
    subst l71 y71 z71
    obtain ⟨rfl, Nq71, e71⟩ := hQ71
    refine Go.tr st71 ?_
    have N71 := Fr.app N68 Nq71
    show Go p e below _ (T71.setTop (mkF m 173 #[.val (.int p1), .val (.ref o5), .val (.int i), .val (.int (0 : Int32))] [(.int (if rr = t_CONTROL ∨ rr = t_BODY then 1 else 0))]))
    refine g_iloadN X71 hx (hb hby at_173) 174 rfl (v := (0 : Int32)) rfl ?_
    refine g_icmp_ne X71 hx (hb hby at_174) 181 177 (by decide) (by decide) rfl (fun hc174 => False.elim (hc174 (if_neg (fun q => q.elim (pk1 hc158).1 (pk1 hc158).2)))) (fun hc174 => ?_)
    refine g_iconst X71 hx (hb hby at_177) 178 rfl (1 : Int32) rfl ?_
    refine g_goto X71 hx (hb hby at_178) 182 (by decide) (by decide) ?_
    refine Go.retN X71 hx hlk (t := .boolean) Bd.returns (by simp) (hb hby at_182) (by decide) (by decide) ?_
    exact ⟨rfl, N71⟩
  · refine g_iconst X68 hx (hb hby at_161) 162 rfl (1 : Int32) rfl ?_
    refine g_goto X68 hx (hb hby at_162) 166 (by decide) (by decide) ?_
    refine g_istoreN X68 hx (hb hby at_166) 167 rfl #[.val (.int p1), .val (.ref o5), .val (.int i), .val (.int (1 : Int32))] rfl ?_
    refine g_aloadN X68 hx (hb hby at_167) 168 rfl (v := (.ref o5)) rfl rfl ?_
    refine g_iloadN X68 hx (hb hby at_168) 169 rfl (v := i) rfl ?_
    have nr_LISTED_CONTROL : t_LISTED ≠ t_CONTROL := Fld.ne (Fld.keep F_ordinal_t_LISTED K68 nin0) (Fld.keep F_ordinal_t_CONTROL K68 nin0) (by simp)
    have nr_LISTED_BODY : t_LISTED ≠ t_BODY := Fld.ne (Fld.keep F_ordinal_t_LISTED K68 nin0) (Fld.keep F_ordinal_t_BODY K68 nin0) (by simp)
    have nr_DIRECT_CONTROL : t_DIRECT ≠ t_CONTROL := Fld.ne (Fld.keep F_ordinal_t_DIRECT K68 nin0) (Fld.keep F_ordinal_t_CONTROL K68 nin0) (by simp)
    have nr_DIRECT_BODY : t_DIRECT ≠ t_BODY := Fld.ne (Fld.keep F_ordinal_t_DIRECT K68 nin0) (Fld.keep F_ordinal_t_BODY K68 nin0) (by simp)
    have pk : ∃ tt rr : Addr, ([(.ref t_BUILDWRIGHT), (.ref t_NODE), (.ref t_AGGREGATE), (.ref t_AGENT), (.ref t_TRIGGER), (.ref t_WARNING), (.ref t_ERROR), (.ref t_SPAWN), (.ref t_SOURCE_INDEX), (.ref t_TEST), (.ref t_LOG), (.ref t_PROPERTY), (.ref t_OPTION), (.ref t_ENV_VAR), (.ref t_INCLUDE), (.ref t_DEPENDENCY), (.ref t_DO), (.ref t_SWITCH), (.ref t_CASE), (.ref t_DEFAULT), (.ref t_FOR_EACH)] : List Value).getD i.toNatClampNeg .null = .ref tt ∧ Exa Z h68 tt "com/example/buildwright/buildwright/script/ScriptElement" ∧ Fld Z h68 tt "com/example/buildwright/buildwright/script/ScriptElement" "role" "Lcom/example/buildwright/buildwright/script/ScriptElement$Role;" (.ref rr) ∧ (i < 16 → rr ≠ t_CONTROL ∧ rr ≠ t_BODY) ∧ (¬ i < 16 → rr = t_CONTROL ∨ rr = t_BODY) := by
      rcases own_21 i hi with rfl | rfl | rfl | rfl | rfl | rfl | rfl | rfl | rfl | rfl | rfl | rfl | rfl | rfl | rfl | rfl | rfl | rfl | rfl | rfl | rfl
      · exact ⟨t_BUILDWRIGHT, t_LISTED, rfl, (Exa.keep E_t_BUILDWRIGHT K68), (Fld.keep F_role_t_BUILDWRIGHT K68 nin0), fun _ => ⟨nr_LISTED_CONTROL, nr_LISTED_BODY⟩, fun q => absurd (by decide) q⟩
      · exact ⟨t_NODE, t_LISTED, rfl, (Exa.keep E_t_NODE K68), (Fld.keep F_role_t_NODE K68 nin0), fun _ => ⟨nr_LISTED_CONTROL, nr_LISTED_BODY⟩, fun q => absurd (by decide) q⟩
      · exact ⟨t_AGGREGATE, t_LISTED, rfl, (Exa.keep E_t_AGGREGATE K68), (Fld.keep F_role_t_AGGREGATE K68 nin0), fun _ => ⟨nr_LISTED_CONTROL, nr_LISTED_BODY⟩, fun q => absurd (by decide) q⟩
      · exact ⟨t_AGENT, t_LISTED, rfl, (Exa.keep E_t_AGENT K68), (Fld.keep F_role_t_AGENT K68 nin0), fun _ => ⟨nr_LISTED_CONTROL, nr_LISTED_BODY⟩, fun q => absurd (by decide) q⟩
      · exact ⟨t_TRIGGER, t_LISTED, rfl, (Exa.keep E_t_TRIGGER K68), (Fld.keep F_role_t_TRIGGER K68 nin0), fun _ => ⟨nr_LISTED_CONTROL, nr_LISTED_BODY⟩, fun q => absurd (by decide) q⟩
      · exact ⟨t_WARNING, t_LISTED, rfl, (Exa.keep E_t_WARNING K68), (Fld.keep F_role_t_WARNING K68 nin0), fun _ => ⟨nr_LISTED_CONTROL, nr_LISTED_BODY⟩, fun q => absurd (by decide) q⟩
      · exact ⟨t_ERROR, t_LISTED, rfl, (Exa.keep E_t_ERROR K68), (Fld.keep F_role_t_ERROR K68 nin0), fun _ => ⟨nr_LISTED_CONTROL, nr_LISTED_BODY⟩, fun q => absurd (by decide) q⟩
      · exact ⟨t_SPAWN, t_LISTED, rfl, (Exa.keep E_t_SPAWN K68), (Fld.keep F_role_t_SPAWN K68 nin0), fun _ => ⟨nr_LISTED_CONTROL, nr_LISTED_BODY⟩, fun q => absurd (by decide) q⟩
      · exact ⟨t_SOURCE_INDEX, t_LISTED, rfl, (Exa.keep E_t_SOURCE_INDEX K68), (Fld.keep F_role_t_SOURCE_INDEX K68 nin0), fun _ => ⟨nr_LISTED_CONTROL, nr_LISTED_BODY⟩, fun q => absurd (by decide) q⟩
      · exact ⟨t_TEST, t_LISTED, rfl, (Exa.keep E_t_TEST K68), (Fld.keep F_role_t_TEST K68 nin0), fun _ => ⟨nr_LISTED_CONTROL, nr_LISTED_BODY⟩, fun q => absurd (by decide) q⟩
      · exact ⟨t_LOG, t_LISTED, rfl, (Exa.keep E_t_LOG K68), (Fld.keep F_role_t_LOG K68 nin0), fun _ => ⟨nr_LISTED_CONTROL, nr_LISTED_BODY⟩, fun q => absurd (by decide) q⟩
      · exact ⟨t_PROPERTY, t_LISTED, rfl, (Exa.keep E_t_PROPERTY K68), (Fld.keep F_role_t_PROPERTY K68 nin0), fun _ => ⟨nr_LISTED_CONTROL, nr_LISTED_BODY⟩, fun q => absurd (by decide) q⟩
      · exact ⟨t_OPTION, t_DIRECT, rfl, (Exa.keep E_t_OPTION K68), (Fld.keep F_role_t_OPTION K68 nin0), fun _ => ⟨nr_DIRECT_CONTROL, nr_DIRECT_BODY⟩, fun q => absurd (by decide) q⟩
      · exact ⟨t_ENV_VAR, t_DIRECT, rfl, (Exa.keep E_t_ENV_VAR K68), (Fld.keep F_role_t_ENV_VAR K68 nin0), fun _ => ⟨nr_DIRECT_CONTROL, nr_DIRECT_BODY⟩, fun q => absurd (by decide) q⟩
      · exact ⟨t_INCLUDE, t_DIRECT, rfl, (Exa.keep E_t_INCLUDE K68), (Fld.keep F_role_t_INCLUDE K68 nin0), fun _ => ⟨nr_DIRECT_CONTROL, nr_DIRECT_BODY⟩, fun q => absurd (by decide) q⟩
      · exact ⟨t_DEPENDENCY, t_DIRECT, rfl, (Exa.keep E_t_DEPENDENCY K68), (Fld.keep F_role_t_DEPENDENCY K68 nin0), fun _ => ⟨nr_DIRECT_CONTROL, nr_DIRECT_BODY⟩, fun q => absurd (by decide) q⟩
      · exact ⟨t_DO, t_BODY, rfl, (Exa.keep E_t_DO K68), (Fld.keep F_role_t_DO K68 nin0), fun q => absurd q (by decide), fun _ => Or.inr rfl⟩
      · exact ⟨t_SWITCH, t_CONTROL, rfl, (Exa.keep E_t_SWITCH K68), (Fld.keep F_role_t_SWITCH K68 nin0), fun q => absurd q (by decide), fun _ => Or.inl rfl⟩
      · exact ⟨t_CASE, t_BODY, rfl, (Exa.keep E_t_CASE K68), (Fld.keep F_role_t_CASE K68 nin0), fun q => absurd q (by decide), fun _ => Or.inr rfl⟩
      · exact ⟨t_DEFAULT, t_BODY, rfl, (Exa.keep E_t_DEFAULT K68), (Fld.keep F_role_t_DEFAULT K68 nin0), fun q => absurd q (by decide), fun _ => Or.inr rfl⟩
      · exact ⟨t_FOR_EACH, t_BODY, rfl, (Exa.keep E_t_FOR_EACH K68), (Fld.keep F_role_t_FOR_EACH K68 nin0), fun q => absurd q (by decide), fun _ => Or.inr rfl⟩
    obtain ⟨tt, rr, u_tt, E_tt, F_tt, pk1, pk2⟩ := pk
    refine g_aaload X68 hx (hb hby at_169) 170 rfl hZ e68 Av_o5_68 rfl hi (.ref tt) u_tt ?_
    obtain ⟨cq73, kq73, q73a, q73b, q73c⟩ := isOf hZ e68 E_tt
    obtain ⟨_, _, ⟨T73, L73, k73, n73⟩, -, X73, ⟨Lc73, hQ73, l73, y73, z73⟩, st73⟩ := X68.virtualBack hx (y := (⟨"com/example/buildwright/buildwright/script/ScriptElement", "isControl", "()Z"⟩ : MethodName)) (z := (⟨"com/example/buildwright/buildwright/script/ScriptElement", "isControl", "()Z"⟩ : MethodName)) hown (mvT hZ (hw _ (List.mem_of_getElem? (i := 47) rfl))) (mvT hZ (hw _ (List.mem_of_getElem? (i := 48) rfl))) (notFace_of_selects (args := #[]) (mvT hZ (hw _ (List.mem_of_getElem? (i := 50) rfl)))) (mvT hZ (hw _ (List.mem_of_getElem? (i := 50) rfl))) (mvT hZ (hw _ (List.mem_of_getElem? (i := 49) rfl))) (by decide) (backOf (W := 0) (rm1 l Z a0 hw [] tt rr t_CONTROL t_BODY h68 n0 Zs68 F_tt (own_Sta_keep S_CONTROL K68 all0) (own_Sta_keep S_BODY K68 all0)) hZ (hw _ (List.mem_of_getElem? (i := 51) rfl)) (hw _ (List.mem_of_getElem? (i := 3) rfl)) (by decide) (by decide)) q73a q73c (g := (mkF m 170 #[.val (.int p1), .val (.ref o5), .val (.int i), .val (.int (1 : Int32))] [(.ref tt)])) rfl (by rw [hml]; rfl) (Steps.refl _) (argsL := []) (rest := []) (lenOf own_pd0 rfl) rfl (by show 2 * 0 + _ ≤ _; exact Nat.le_of_eq rfl) (hb hby at_170) (fun _ _ => ⟨rfl, e68, (by decide : 1 + 0 ≤ _), (by decide : 21 + 0 ≤ _)⟩)
    dsimp only [Pt.U, Pt.locs, Pt.cells, Pt.slots] at X73 l73 y73 z73 st73 hQ73
    subst l73 y73 z73
    obtain ⟨rfl, Nq73, e73⟩ := hQ73
    refine Go.tr st73 ?_
    have N73 := Fr.app N68 Nq73
    show Go p e below _ (T73.setTop (mkF m 173 #[.val (.int p1), .val (.ref o5), .val (.int i), .val (.int (1 : Int32))] [(.int (if rr = t_CONTROL ∨ rr = t_BODY then 1 else 0))]))
    refine g_iloadN X73 hx (hb hby at_173) 174 rfl (v := (1 : Int32)) rfl ?_
    refine g_icmp_ne X73 hx (hb hby at_174) 181 177 (by decide) (by decide) rfl (fun hc174 => False.elim (hc174 (if_pos (pk2 hc158)))) (fun hc174 => ?_)
    refine g_iconst X73 hx (hb hby at_177) 178 rfl (1 : Int32) rfl ?_
    refine g_goto X73 hx (hb hby at_178) 182 (by decide) (by decide) ?_
    refine Go.retN X73 hx hlk (t := .boolean) Bd.returns (by simp) (hb hby at_182) (by decide) (by decide) ?_
    exact ⟨rfl, N73⟩
set_option maxRecDepth 65536 in
set_option maxHeartbeats 40000000 in
theorem comes_1 {Post : Tables → Env → Array Value → State → Outcome → State → Prop} (hpost : ∀ tb e args s v u, (limb_1_1.after args s (.returned v) u = true ∧ limb_1_2.after args s (.returned v) u = true ∧ True) → FrameEnd s (.returned v) u (Jvm.fieldLocs frame_1_writes args s ++ Jvm.arrayLocs frame_1_arrays args s ++ Jvm.staticLocs frame_1_statics s) 16 128 → Post tb e args s (.returned v) u) :
    ArmFor flags0 classFile x code maxLocals ret World_1 tables_1 room_1 Calls_1 rest_1 Pre_1 Post := by
  intro l hfl _ _ p e ha hc hk s m args below hf hA hF happ hP
  obtain ⟨hcalls, hrest, hpre⟩ := hP
  obtain ⟨-, -, -, hnamed, -, -, -, hat⟩ := (Spec.applies_iff hf).mp happ
  obtain ⟨hg, hn⟩ := and_e (Cond.before_iff.mp (show (Jvm.Cond.and given_1 narrow_1).before args s = true from hpre))
  obtain ⟨c0, r0⟩ := and_e hg
  obtain ⟨w0, rfl⟩ : ∃ w0 : Value, args = #[w0] := by
    have hs : args.size = 1 := by simpa [Cond.value, given_1] using c0
    obtain ⟨L⟩ := args
    match L, hs with
    | [w0], _ => exact ⟨w0, rfl⟩
  have hw := fun d (hd : d ∈ tables_1) => atoms_spec (ws := Jvm.Cond.code x code maxLocals ret :: tables_1) hat d (List.mem_cons_of_mem _ hd)
  have hfit : Fit s := fun {y c} hc i hi => by
    obtain ⟨ha, rfl⟩ := Array.getElem?_eq_some_iff.mp hc
    have q := List.all_eq_true.mp ((Array.all_eq_true_iff_forall_mem.mp hF) _ (Array.getElem_mem ha)) i (List.mem_range.mpr hi)
    simpa [Array.getElem?_eq_getElem hi] using q
  obtain ⟨i0, ei0⟩ := is_v r0
  obtain rfl : w0 = (.int i0) := Option.some.inj ei0
  obtain ⟨z0, zr0⟩ := and_e hn
  obtain ⟨z1, zr1⟩ := and_e zr0
  obtain ⟨z2, zr2⟩ := and_e zr1
  obtain ⟨z3, zr3⟩ := and_e zr2
  obtain ⟨z4, zr4⟩ := and_e zr3
  obtain ⟨z5, zr5⟩ := and_e zr4
  obtain ⟨z6, zr6⟩ := and_e zr5
  obtain ⟨z7, zr7⟩ := and_e zr6
  obtain ⟨z8, zr8⟩ := and_e zr7
  obtain ⟨z9, zr9⟩ := and_e zr8
  obtain ⟨z10, zr10⟩ := and_e zr9
  obtain ⟨z11, zr11⟩ := and_e zr10
  obtain ⟨z12, zr12⟩ := and_e zr11
  obtain ⟨z13, zr13⟩ := and_e zr12
  obtain ⟨z14, zr14⟩ := and_e zr13
  obtain ⟨z15, zr15⟩ := and_e zr14
  obtain ⟨z16, zr16⟩ := and_e zr15
  obtain ⟨z17, zr17⟩ := and_e zr16
  obtain ⟨z18, zr18⟩ := and_e zr17
  obtain ⟨z19, zr19⟩ := and_e zr18
  obtain ⟨z20, zr20⟩ := and_e zr19
  obtain ⟨z21, zr21⟩ := and_e zr20
  obtain ⟨z22, zr22⟩ := and_e zr21
  obtain ⟨z23, zr23⟩ := and_e zr22
  obtain ⟨z24, zr24⟩ := and_e zr23
  obtain ⟨z25, zr25⟩ := and_e zr24
  obtain ⟨z26, zr26⟩ := and_e zr25
  obtain ⟨z27, zr27⟩ := and_e zr26
  obtain ⟨z28, zr28⟩ := and_e zr27
  obtain ⟨z29, zr29⟩ := and_e zr28
  obtain ⟨z30, zr30⟩ := and_e zr29
  obtain ⟨z31, zr31⟩ := and_e zr30
  obtain ⟨z32, zr32⟩ := and_e zr31
  obtain ⟨z33, zr33⟩ := and_e zr32
  obtain ⟨z34, zr34⟩ := and_e zr33
  obtain ⟨z35, zr35⟩ := and_e zr34
  obtain ⟨z36, zr36⟩ := and_e zr35
  obtain ⟨z37, zr37⟩ := and_e zr36
  obtain ⟨z38, zr38⟩ := and_e zr37
  obtain ⟨z39, zr39⟩ := and_e zr38
  obtain ⟨z40, zr40⟩ := and_e zr39
  obtain ⟨z41, zr41⟩ := and_e zr40
  obtain ⟨z42, zr42⟩ := and_e zr41
  obtain ⟨z43, zr43⟩ := and_e zr42
  obtain ⟨z44, zr44⟩ := and_e zr43
  obtain ⟨z45, zr45⟩ := and_e zr44
  obtain ⟨z46, zr46⟩ := and_e zr45
  obtain ⟨z47, zr47⟩ := and_e zr46
  obtain ⟨z48, zr48⟩ := and_e zr47
  obtain ⟨t_BUILDWRIGHT, v_t_BUILDWRIGHT⟩ := exa_v z0
  have S_t_BUILDWRIGHT : Sta s s.heap "com/example/buildwright/buildwright/script/ScriptElement" "BUILDWRIGHT" "Lcom/example/buildwright/buildwright/script/ScriptElement;" (.ref t_BUILDWRIGHT) := Sta.start v_t_BUILDWRIGHT (Or.inr ⟨(hw _ (List.mem_of_getElem? (i := 3) rfl)), (hw _ (List.mem_of_getElem? (i := 4) rfl))⟩)
  have E_t_BUILDWRIGHT : Exa s s.heap t_BUILDWRIGHT "com/example/buildwright/buildwright/script/ScriptElement" := Exa.start v_t_BUILDWRIGHT z0
  obtain ⟨t_NODE, v_t_NODE⟩ := exa_v z1
  have S_t_NODE : Sta s s.heap "com/example/buildwright/buildwright/script/ScriptElement" "NODE" "Lcom/example/buildwright/buildwright/script/ScriptElement;" (.ref t_NODE) := Sta.start v_t_NODE (Or.inr ⟨(hw _ (List.mem_of_getElem? (i := 3) rfl)), (hw _ (List.mem_of_getElem? (i := 7) rfl))⟩)
  have E_t_NODE : Exa s s.heap t_NODE "com/example/buildwright/buildwright/script/ScriptElement" := Exa.start v_t_NODE z1
  obtain ⟨t_AGGREGATE, v_t_AGGREGATE⟩ := exa_v z2
  have S_t_AGGREGATE : Sta s s.heap "com/example/buildwright/buildwright/script/ScriptElement" "AGGREGATE" "Lcom/example/buildwright/buildwright/script/ScriptElement;" (.ref t_AGGREGATE) := Sta.start v_t_AGGREGATE (Or.inr ⟨(hw _ (List.mem_of_getElem? (i := 3) rfl)), (hw _ (List.mem_of_getElem? (i := 9) rfl))⟩)
  have E_t_AGGREGATE : Exa s s.heap t_AGGREGATE "com/example/buildwright/buildwright/script/ScriptElement" := Exa.start v_t_AGGREGATE z2
  obtain ⟨t_AGENT, v_t_AGENT⟩ := exa_v z3
  have S_t_AGENT : Sta s s.heap "com/example/buildwright/buildwright/script/ScriptElement" "AGENT" "Lcom/example/buildwright/buildwright/script/ScriptElement;" (.ref t_AGENT) := Sta.start v_t_AGENT (Or.inr ⟨(hw _ (List.mem_of_getElem? (i := 3) rfl)), (hw _ (List.mem_of_getElem? (i := 11) rfl))⟩)
  have E_t_AGENT : Exa s s.heap t_AGENT "com/example/buildwright/buildwright/script/ScriptElement" := Exa.start v_t_AGENT z3
  obtain ⟨t_TRIGGER, v_t_TRIGGER⟩ := exa_v z4
  have S_t_TRIGGER : Sta s s.heap "com/example/buildwright/buildwright/script/ScriptElement" "TRIGGER" "Lcom/example/buildwright/buildwright/script/ScriptElement;" (.ref t_TRIGGER) := Sta.start v_t_TRIGGER (Or.inr ⟨(hw _ (List.mem_of_getElem? (i := 3) rfl)), (hw _ (List.mem_of_getElem? (i := 13) rfl))⟩)
  have E_t_TRIGGER : Exa s s.heap t_TRIGGER "com/example/buildwright/buildwright/script/ScriptElement" := Exa.start v_t_TRIGGER z4
  obtain ⟨t_WARNING, v_t_WARNING⟩ := exa_v z5
  have S_t_WARNING : Sta s s.heap "com/example/buildwright/buildwright/script/ScriptElement" "WARNING" "Lcom/example/buildwright/buildwright/script/ScriptElement;" (.ref t_WARNING) := Sta.start v_t_WARNING (Or.inr ⟨(hw _ (List.mem_of_getElem? (i := 3) rfl)), (hw _ (List.mem_of_getElem? (i := 15) rfl))⟩)
  have E_t_WARNING : Exa s s.heap t_WARNING "com/example/buildwright/buildwright/script/ScriptElement" := Exa.start v_t_WARNING z5
  obtain ⟨t_ERROR, v_t_ERROR⟩ := exa_v z6
  have S_t_ERROR : Sta s s.heap "com/example/buildwright/buildwright/script/ScriptElement" "ERROR" "Lcom/example/buildwright/buildwright/script/ScriptElement;" (.ref t_ERROR) := Sta.start v_t_ERROR (Or.inr ⟨(hw _ (List.mem_of_getElem? (i := 3) rfl)), (hw _ (List.mem_of_getElem? (i := 17) rfl))⟩)
  have E_t_ERROR : Exa s s.heap t_ERROR "com/example/buildwright/buildwright/script/ScriptElement" := Exa.start v_t_ERROR z6
  obtain ⟨t_SPAWN, v_t_SPAWN⟩ := exa_v z7
  have S_t_SPAWN : Sta s s.heap "com/example/buildwright/buildwright/script/ScriptElement" "SPAWN" "Lcom/example/buildwright/buildwright/script/ScriptElement;" (.ref t_SPAWN) := Sta.start v_t_SPAWN (Or.inr ⟨(hw _ (List.mem_of_getElem? (i := 3) rfl)), (hw _ (List.mem_of_getElem? (i := 19) rfl))⟩)
  have E_t_SPAWN : Exa s s.heap t_SPAWN "com/example/buildwright/buildwright/script/ScriptElement" := Exa.start v_t_SPAWN z7
  obtain ⟨t_SOURCE_INDEX, v_t_SOURCE_INDEX⟩ := exa_v z8
  have S_t_SOURCE_INDEX : Sta s s.heap "com/example/buildwright/buildwright/script/ScriptElement" "SOURCE_INDEX" "Lcom/example/buildwright/buildwright/script/ScriptElement;" (.ref t_SOURCE_INDEX) := Sta.start v_t_SOURCE_INDEX (Or.inr ⟨(hw _ (List.mem_of_getElem? (i := 3) rfl)), (hw _ (List.mem_of_getElem? (i := 21) rfl))⟩)
  have E_t_SOURCE_INDEX : Exa s s.heap t_SOURCE_INDEX "com/example/buildwright/buildwright/script/ScriptElement" := Exa.start v_t_SOURCE_INDEX z8
  obtain ⟨t_TEST, v_t_TEST⟩ := exa_v z9
  have S_t_TEST : Sta s s.heap "com/example/buildwright/buildwright/script/ScriptElement" "TEST" "Lcom/example/buildwright/buildwright/script/ScriptElement;" (.ref t_TEST) := Sta.start v_t_TEST (Or.inr ⟨(hw _ (List.mem_of_getElem? (i := 3) rfl)), (hw _ (List.mem_of_getElem? (i := 23) rfl))⟩)
  have E_t_TEST : Exa s s.heap t_TEST "com/example/buildwright/buildwright/script/ScriptElement" := Exa.start v_t_TEST z9
  obtain ⟨t_LOG, v_t_LOG⟩ := exa_v z10
  have S_t_LOG : Sta s s.heap "com/example/buildwright/buildwright/script/ScriptElement" "LOG" "Lcom/example/buildwright/buildwright/script/ScriptElement;" (.ref t_LOG) := Sta.start v_t_LOG (Or.inr ⟨(hw _ (List.mem_of_getElem? (i := 3) rfl)), (hw _ (List.mem_of_getElem? (i := 25) rfl))⟩)
  have E_t_LOG : Exa s s.heap t_LOG "com/example/buildwright/buildwright/script/ScriptElement" := Exa.start v_t_LOG z10
  obtain ⟨t_PROPERTY, v_t_PROPERTY⟩ := exa_v z11
  have S_t_PROPERTY : Sta s s.heap "com/example/buildwright/buildwright/script/ScriptElement" "PROPERTY" "Lcom/example/buildwright/buildwright/script/ScriptElement;" (.ref t_PROPERTY) := Sta.start v_t_PROPERTY (Or.inr ⟨(hw _ (List.mem_of_getElem? (i := 3) rfl)), (hw _ (List.mem_of_getElem? (i := 27) rfl))⟩)
  have E_t_PROPERTY : Exa s s.heap t_PROPERTY "com/example/buildwright/buildwright/script/ScriptElement" := Exa.start v_t_PROPERTY z11
  obtain ⟨t_OPTION, v_t_OPTION⟩ := exa_v z12
  have S_t_OPTION : Sta s s.heap "com/example/buildwright/buildwright/script/ScriptElement" "OPTION" "Lcom/example/buildwright/buildwright/script/ScriptElement;" (.ref t_OPTION) := Sta.start v_t_OPTION (Or.inr ⟨(hw _ (List.mem_of_getElem? (i := 3) rfl)), (hw _ (List.mem_of_getElem? (i := 29) rfl))⟩)
  have E_t_OPTION : Exa s s.heap t_OPTION "com/example/buildwright/buildwright/script/ScriptElement" := Exa.start v_t_OPTION z12
  obtain ⟨t_ENV_VAR, v_t_ENV_VAR⟩ := exa_v z13
  have S_t_ENV_VAR : Sta s s.heap "com/example/buildwright/buildwright/script/ScriptElement" "ENV_VAR" "Lcom/example/buildwright/buildwright/script/ScriptElement;" (.ref t_ENV_VAR) := Sta.start v_t_ENV_VAR (Or.inr ⟨(hw _ (List.mem_of_getElem? (i := 3) rfl)), (hw _ (List.mem_of_getElem? (i := 31) rfl))⟩)
  have E_t_ENV_VAR : Exa s s.heap t_ENV_VAR "com/example/buildwright/buildwright/script/ScriptElement" := Exa.start v_t_ENV_VAR z13
  obtain ⟨t_INCLUDE, v_t_INCLUDE⟩ := exa_v z14
  have S_t_INCLUDE : Sta s s.heap "com/example/buildwright/buildwright/script/ScriptElement" "INCLUDE" "Lcom/example/buildwright/buildwright/script/ScriptElement;" (.ref t_INCLUDE) := Sta.start v_t_INCLUDE (Or.inr ⟨(hw _ (List.mem_of_getElem? (i := 3) rfl)), (hw _ (List.mem_of_getElem? (i := 33) rfl))⟩)
  have E_t_INCLUDE : Exa s s.heap t_INCLUDE "com/example/buildwright/buildwright/script/ScriptElement" := Exa.start v_t_INCLUDE z14
  obtain ⟨t_DEPENDENCY, v_t_DEPENDENCY⟩ := exa_v z15
  have S_t_DEPENDENCY : Sta s s.heap "com/example/buildwright/buildwright/script/ScriptElement" "DEPENDENCY" "Lcom/example/buildwright/buildwright/script/ScriptElement;" (.ref t_DEPENDENCY) := Sta.start v_t_DEPENDENCY (Or.inr ⟨(hw _ (List.mem_of_getElem? (i := 3) rfl)), (hw _ (List.mem_of_getElem? (i := 35) rfl))⟩)
  have E_t_DEPENDENCY : Exa s s.heap t_DEPENDENCY "com/example/buildwright/buildwright/script/ScriptElement" := Exa.start v_t_DEPENDENCY z15
  obtain ⟨t_DO, v_t_DO⟩ := exa_v z16
  have S_t_DO : Sta s s.heap "com/example/buildwright/buildwright/script/ScriptElement" "DO" "Lcom/example/buildwright/buildwright/script/ScriptElement;" (.ref t_DO) := Sta.start v_t_DO (Or.inr ⟨(hw _ (List.mem_of_getElem? (i := 3) rfl)), (hw _ (List.mem_of_getElem? (i := 37) rfl))⟩)
  have E_t_DO : Exa s s.heap t_DO "com/example/buildwright/buildwright/script/ScriptElement" := Exa.start v_t_DO z16
  obtain ⟨t_SWITCH, v_t_SWITCH⟩ := exa_v z17
  have S_t_SWITCH : Sta s s.heap "com/example/buildwright/buildwright/script/ScriptElement" "SWITCH" "Lcom/example/buildwright/buildwright/script/ScriptElement;" (.ref t_SWITCH) := Sta.start v_t_SWITCH (Or.inr ⟨(hw _ (List.mem_of_getElem? (i := 3) rfl)), (hw _ (List.mem_of_getElem? (i := 39) rfl))⟩)
  have E_t_SWITCH : Exa s s.heap t_SWITCH "com/example/buildwright/buildwright/script/ScriptElement" := Exa.start v_t_SWITCH z17
  obtain ⟨t_CASE, v_t_CASE⟩ := exa_v z18
  have S_t_CASE : Sta s s.heap "com/example/buildwright/buildwright/script/ScriptElement" "CASE" "Lcom/example/buildwright/buildwright/script/ScriptElement;" (.ref t_CASE) := Sta.start v_t_CASE (Or.inr ⟨(hw _ (List.mem_of_getElem? (i := 3) rfl)), (hw _ (List.mem_of_getElem? (i := 41) rfl))⟩)
  have E_t_CASE : Exa s s.heap t_CASE "com/example/buildwright/buildwright/script/ScriptElement" := Exa.start v_t_CASE z18
  obtain ⟨t_DEFAULT, v_t_DEFAULT⟩ := exa_v z19
  have S_t_DEFAULT : Sta s s.heap "com/example/buildwright/buildwright/script/ScriptElement" "DEFAULT" "Lcom/example/buildwright/buildwright/script/ScriptElement;" (.ref t_DEFAULT) := Sta.start v_t_DEFAULT (Or.inr ⟨(hw _ (List.mem_of_getElem? (i := 3) rfl)), (hw _ (List.mem_of_getElem? (i := 43) rfl))⟩)
  have E_t_DEFAULT : Exa s s.heap t_DEFAULT "com/example/buildwright/buildwright/script/ScriptElement" := Exa.start v_t_DEFAULT z19
  obtain ⟨t_FOR_EACH, v_t_FOR_EACH⟩ := exa_v z20
  have S_t_FOR_EACH : Sta s s.heap "com/example/buildwright/buildwright/script/ScriptElement" "FOR_EACH" "Lcom/example/buildwright/buildwright/script/ScriptElement;" (.ref t_FOR_EACH) := Sta.start v_t_FOR_EACH (Or.inr ⟨(hw _ (List.mem_of_getElem? (i := 3) rfl)), (hw _ (List.mem_of_getElem? (i := 45) rfl))⟩)
  have E_t_FOR_EACH : Exa s s.heap t_FOR_EACH "com/example/buildwright/buildwright/script/ScriptElement" := Exa.start v_t_FOR_EACH z20
  obtain ⟨t_LISTED, v_t_LISTED⟩ := exa_v z21
  have S_t_LISTED : Sta s s.heap "com/example/buildwright/buildwright/script/ScriptElement$Role" "LISTED" "Lcom/example/buildwright/buildwright/script/ScriptElement$Role;" (.ref t_LISTED) := Sta.start v_t_LISTED (Or.inr ⟨(hw _ (List.mem_of_getElem? (i := 54) rfl)), (hw _ (List.mem_of_getElem? (i := 55) rfl))⟩)
  have E_t_LISTED : Exa s s.heap t_LISTED "com/example/buildwright/buildwright/script/ScriptElement$Role" := Exa.start v_t_LISTED z21
  obtain ⟨t_CONTROL, v_t_CONTROL⟩ := exa_v z23
  have S_t_CONTROL : Sta s s.heap "com/example/buildwright/buildwright/script/ScriptElement$Role" "CONTROL" "Lcom/example/buildwright/buildwright/script/ScriptElement$Role;" (.ref t_CONTROL) := Sta.start v_t_CONTROL (Or.inr ⟨(hw _ (List.mem_of_getElem? (i := 54) rfl)), (hw _ (List.mem_of_getElem? (i := 57) rfl))⟩)
  have E_t_CONTROL : Exa s s.heap t_CONTROL "com/example/buildwright/buildwright/script/ScriptElement$Role" := Exa.start v_t_CONTROL z23
  obtain ⟨t_BODY, v_t_BODY⟩ := exa_v z26
  have S_t_BODY : Sta s s.heap "com/example/buildwright/buildwright/script/ScriptElement$Role" "BODY" "Lcom/example/buildwright/buildwright/script/ScriptElement$Role;" (.ref t_BODY) := Sta.start v_t_BODY (Or.inr ⟨(hw _ (List.mem_of_getElem? (i := 54) rfl)), (hw _ (List.mem_of_getElem? (i := 59) rfl))⟩)
  have E_t_BODY : Exa s s.heap t_BODY "com/example/buildwright/buildwright/script/ScriptElement$Role" := Exa.start v_t_BODY z26
  obtain ⟨t_DIRECT, v_t_DIRECT⟩ := exa_v z30
  have S_t_DIRECT : Sta s s.heap "com/example/buildwright/buildwright/script/ScriptElement$Role" "DIRECT" "Lcom/example/buildwright/buildwright/script/ScriptElement$Role;" (.ref t_DIRECT) := Sta.start v_t_DIRECT (Or.inr ⟨(hw _ (List.mem_of_getElem? (i := 54) rfl)), (hw _ (List.mem_of_getElem? (i := 60) rfl))⟩)
  have E_t_DIRECT : Exa s s.heap t_DIRECT "com/example/buildwright/buildwright/script/ScriptElement$Role" := Exa.start v_t_DIRECT z30
  have F_role_t_BUILDWRIGHT : Fld s s.heap t_BUILDWRIGHT "com/example/buildwright/buildwright/script/ScriptElement" "role" "Lcom/example/buildwright/buildwright/script/ScriptElement$Role;" (.ref t_LISTED) := own_fld_ref v_t_BUILDWRIGHT v_t_LISTED z22
  have F_ordinal_t_LISTED : Fld s s.heap t_LISTED "java/lang/Enum" "ordinal" "I" (.int (0 : Int32)) := own_fld_int v_t_LISTED z24
  have F_ordinal_t_CONTROL : Fld s s.heap t_CONTROL "java/lang/Enum" "ordinal" "I" (.int (2 : Int32)) := own_fld_int v_t_CONTROL z25
  have F_ordinal_t_BODY : Fld s s.heap t_BODY "java/lang/Enum" "ordinal" "I" (.int (3 : Int32)) := own_fld_int v_t_BODY z27
  have F_role_t_AGENT : Fld s s.heap t_AGENT "com/example/buildwright/buildwright/script/ScriptElement" "role" "Lcom/example/buildwright/buildwright/script/ScriptElement$Role;" (.ref t_LISTED) := own_fld_ref v_t_AGENT v_t_LISTED z28
  have F_role_t_WARNING : Fld s s.heap t_WARNING "com/example/buildwright/buildwright/script/ScriptElement" "role" "Lcom/example/buildwright/buildwright/script/ScriptElement$Role;" (.ref t_LISTED) := own_fld_ref v_t_WARNING v_t_LISTED z29
  have F_role_t_ENV_VAR : Fld s s.heap t_ENV_VAR "com/example/buildwright/buildwright/script/ScriptElement" "role" "Lcom/example/buildwright/buildwright/script/ScriptElement$Role;" (.ref t_DIRECT) := own_fld_ref v_t_ENV_VAR v_t_DIRECT z31
  have F_ordinal_t_DIRECT : Fld s s.heap t_DIRECT "java/lang/Enum" "ordinal" "I" (.int (1 : Int32)) := own_fld_int v_t_DIRECT z32
  have F_role_t_ERROR : Fld s s.heap t_ERROR "com/example/buildwright/buildwright/script/ScriptElement" "role" "Lcom/example/buildwright/buildwright/script/ScriptElement$Role;" (.ref t_LISTED) := own_fld_ref v_t_ERROR v_t_LISTED z33
  have F_role_t_PROPERTY : Fld s s.heap t_PROPERTY "com/example/buildwright/buildwright/script/ScriptElement" "role" "Lcom/example/buildwright/buildwright/script/ScriptElement$Role;" (.ref t_LISTED) := own_fld_ref v_t_PROPERTY v_t_LISTED z34
  have F_role_t_SPAWN : Fld s s.heap t_SPAWN "com/example/buildwright/buildwright/script/ScriptElement" "role" "Lcom/example/buildwright/buildwright/script/ScriptElement$Role;" (.ref t_LISTED) := own_fld_ref v_t_SPAWN v_t_LISTED z35
  have F_role_t_AGGREGATE : Fld s s.heap t_AGGREGATE "com/example/buildwright/buildwright/script/ScriptElement" "role" "Lcom/example/buildwright/buildwright/script/ScriptElement$Role;" (.ref t_LISTED) := own_fld_ref v_t_AGGREGATE v_t_LISTED z36
  have F_role_t_LOG : Fld s s.heap t_LOG "com/example/buildwright/buildwright/script/ScriptElement" "role" "Lcom/example/buildwright/buildwright/script/ScriptElement$Role;" (.ref t_LISTED) := own_fld_ref v_t_LOG v_t_LISTED z37
  have F_role_t_SOURCE_INDEX : Fld s s.heap t_SOURCE_INDEX "com/example/buildwright/buildwright/script/ScriptElement" "role" "Lcom/example/buildwright/buildwright/script/ScriptElement$Role;" (.ref t_LISTED) := own_fld_ref v_t_SOURCE_INDEX v_t_LISTED z38
  have F_role_t_NODE : Fld s s.heap t_NODE "com/example/buildwright/buildwright/script/ScriptElement" "role" "Lcom/example/buildwright/buildwright/script/ScriptElement$Role;" (.ref t_LISTED) := own_fld_ref v_t_NODE v_t_LISTED z39
  have F_role_t_INCLUDE : Fld s s.heap t_INCLUDE "com/example/buildwright/buildwright/script/ScriptElement" "role" "Lcom/example/buildwright/buildwright/script/ScriptElement$Role;" (.ref t_DIRECT) := own_fld_ref v_t_INCLUDE v_t_DIRECT z40
  have F_role_t_DEPENDENCY : Fld s s.heap t_DEPENDENCY "com/example/buildwright/buildwright/script/ScriptElement" "role" "Lcom/example/buildwright/buildwright/script/ScriptElement$Role;" (.ref t_DIRECT) := own_fld_ref v_t_DEPENDENCY v_t_DIRECT z41
  have F_role_t_TEST : Fld s s.heap t_TEST "com/example/buildwright/buildwright/script/ScriptElement" "role" "Lcom/example/buildwright/buildwright/script/ScriptElement$Role;" (.ref t_LISTED) := own_fld_ref v_t_TEST v_t_LISTED z42
  have F_role_t_DEFAULT : Fld s s.heap t_DEFAULT "com/example/buildwright/buildwright/script/ScriptElement" "role" "Lcom/example/buildwright/buildwright/script/ScriptElement$Role;" (.ref t_BODY) := own_fld_ref v_t_DEFAULT v_t_BODY z43
  have F_role_t_DO : Fld s s.heap t_DO "com/example/buildwright/buildwright/script/ScriptElement" "role" "Lcom/example/buildwright/buildwright/script/ScriptElement$Role;" (.ref t_BODY) := own_fld_ref v_t_DO v_t_BODY z44
  have F_role_t_SWITCH : Fld s s.heap t_SWITCH "com/example/buildwright/buildwright/script/ScriptElement" "role" "Lcom/example/buildwright/buildwright/script/ScriptElement$Role;" (.ref t_CONTROL) := own_fld_ref v_t_SWITCH v_t_CONTROL z45
  have F_role_t_FOR_EACH : Fld s s.heap t_FOR_EACH "com/example/buildwright/buildwright/script/ScriptElement" "role" "Lcom/example/buildwright/buildwright/script/ScriptElement$Role;" (.ref t_BODY) := own_fld_ref v_t_FOR_EACH v_t_BODY z46
  have F_role_t_TRIGGER : Fld s s.heap t_TRIGGER "com/example/buildwright/buildwright/script/ScriptElement" "role" "Lcom/example/buildwright/buildwright/script/ScriptElement$Role;" (.ref t_LISTED) := own_fld_ref v_t_TRIGGER v_t_LISTED z47
  have F_role_t_OPTION : Fld s s.heap t_OPTION "com/example/buildwright/buildwright/script/ScriptElement" "role" "Lcom/example/buildwright/buildwright/script/ScriptElement$Role;" (.ref t_DIRECT) := own_fld_ref v_t_OPTION v_t_DIRECT z48
  have F_role_t_CASE : Fld s s.heap t_CASE "com/example/buildwright/buildwright/script/ScriptElement" "role" "Lcom/example/buildwright/buildwright/script/ScriptElement$Role;" (.ref t_BODY) := own_fld_ref v_t_CASE v_t_BODY zr48
  obtain ⟨n, o, h1, h2, h3, _, L, rfl, ⟨rfl, N⟩, hq⟩ := rm0 l s _ hw tables_1 i0 t_BUILDWRIGHT t_NODE t_AGGREGATE t_AGENT t_TRIGGER t_WARNING t_ERROR t_SPAWN t_SOURCE_INDEX t_TEST t_LOG t_PROPERTY t_OPTION t_ENV_VAR t_INCLUDE t_DEPENDENCY t_DO t_SWITCH t_CASE t_DEFAULT t_FOR_EACH t_LISTED t_CONTROL t_BODY t_DIRECT s.heap s.heap.size (Nat.le_refl _) S_t_BUILDWRIGHT E_t_BUILDWRIGHT S_t_NODE E_t_NODE S_t_AGGREGATE E_t_AGGREGATE S_t_AGENT E_t_AGENT S_t_TRIGGER E_t_TRIGGER S_t_WARNING E_t_WARNING S_t_ERROR E_t_ERROR S_t_SPAWN E_t_SPAWN S_t_SOURCE_INDEX E_t_SOURCE_INDEX S_t_TEST E_t_TEST S_t_LOG E_t_LOG S_t_PROPERTY E_t_PROPERTY S_t_OPTION E_t_OPTION S_t_ENV_VAR E_t_ENV_VAR S_t_INCLUDE E_t_INCLUDE S_t_DEPENDENCY E_t_DEPENDENCY S_t_DO E_t_DO S_t_SWITCH E_t_SWITCH S_t_CASE E_t_CASE S_t_DEFAULT E_t_DEFAULT S_t_FOR_EACH E_t_FOR_EACH S_t_LISTED E_t_LISTED S_t_CONTROL E_t_CONTROL S_t_BODY E_t_BODY S_t_DIRECT E_t_DIRECT F_role_t_BUILDWRIGHT F_ordinal_t_LISTED F_ordinal_t_CONTROL F_ordinal_t_BODY F_role_t_AGENT F_role_t_WARNING F_role_t_ENV_VAR F_ordinal_t_DIRECT F_role_t_ERROR F_role_t_PROPERTY F_role_t_SPAWN F_role_t_AGGREGATE F_role_t_LOG F_role_t_SOURCE_INDEX F_role_t_NODE F_role_t_INCLUDE F_role_t_DEPENDENCY F_role_t_TEST F_role_t_DEFAULT F_role_t_DO F_role_t_SWITCH F_role_t_FOR_EACH F_role_t_TRIGGER F_role_t_OPTION F_role_t_CASE rfl p e ha hc hk s m _ below hf ((Spec.applies_iff_loose hf).mp happ).1 ⟨rfl, State.Warmed39.refl s, rfl⟩ trivial
  refine ⟨n, _, h1, h2, h3, hpost _ _ _ _ _ _ ⟨Cond.after_iff.mpr rfl, Cond.after_iff.mpr (eq_i res_at (Term.int_eval (1)) rfl), trivial⟩ ⟨hq.1, hq.2.1, (hq.2.2.sift fun y hy => Or.inr (N y hy)).mono (by decide) (by decide)⟩⟩
theorem main_1_1 : Claimed_1_1 := comes_1 fun _ _ _ _ _ _ h hF => ⟨h.1, hF⟩
theorem main_1_2 : Claimed_1_2 := comes_1 fun _ _ _ _ _ _ h hF => ⟨h.2.1, hF⟩
end Jvm.Pilot.@@N@@
namespace Jvm.Pilot.@@N@@
open Jvm Jvm.ClassFile Sem Op Lib Jvm.Free Jvm.Stand Jvm.Pilot.@@N@@.Jvm.D
/-! MADE BY PROGRAM (witnessworld.py) out of the Statement's table words and the real class files: 14 classes; the members and pool entries that the words name. The judged class is class 1, her method 1. -/
namespace start1
open Jvm.ClassFile
def u (s : String) : CpInfo := .utf8 (stringToUtf16 s)
/-- a pool by its gaps: so many unusable entries, then the entry; so many at the end -/
def gap : Nat → List CpInfo → List CpInfo
  | 0, r => r
  | n + 1, r => .unusable :: gap n r
def poolList (es : List (Nat × CpInfo)) (last : Nat) : List CpInfo := es.foldr (fun e r => gap e.1 (e.2 :: r)) (gap last [])
def pool (es : List (Nat × CpInfo)) (last : Nat) : Array CpInfo := ⟨poolList es last⟩
def fileOf (pool : Array CpInfo) (this : Nat) (attrs : Array Attribute := #[]) (ms : Array MethodInfo := #[]) (fl : Nat := 33) (sup : Nat := 0) (ifs : Array Nat := #[]) (fds : Array FieldInfo := #[]) : ClassFile where
  minorVersion := 0
  majorVersion := 65
  constantPool := pool
  accessFlags := fl
  thisClass := this
  superClass := sup
  interfaces := ifs
  fields := fds
  methods := ms
  attributes := attrs
def plain (name : String) (sup : Option ClassId) : Class where
  name := name
  kind := .ordinary
  loader := none
  accessFlags := 33
  super := sup
  interfaces := #[]
  cf := none
  fields := #[]
  methods := #[]
  instanceTypes := #[]
  staticTypes := #[]
  resolved := #[]
  callSites := []
  init := .initialized
  statics := none
  mirror := none

def pool0 : Array CpInfo := pool [(5, u "<init>"), (0, u "()V"), (1, .class_ 10), (1, u "java/lang/Object")] 113

def k0m0 : Method := { name := "<init>", desc := "()V", sig := { parameters := [], returnType := none }, accessFlags := 1, code := none }
/-- java/lang/Object -/
def k0 : Class := { plain "java/lang/Object" none with
  accessFlags := 33
  interfaces := #[]
  cf := some (fileOf pool0 8 #[] #[{ accessFlags := 1, nameIndex := 5, descriptorIndex := 6, attributes := #[] }] 33 0 #[] #[])
  fields := #[]
  methods := #[k0m0]
  instanceTypes := #[]
  staticTypes := #[]
  resolved := Array.replicate 124 none
  statics := none }

def pool1 : Array CpInfo := pool [(2, .class_ 4), (1, u "java/lang/Object"), (0, u "<init>"), (0, u "()V"), (0, .class_ 8), (0, u "com/example/buildwright/buildwright/script/ScriptElement"), (0, .fieldref 7 10), (0, .nameAndType 11 12), (0, u "BUILDWRIGHT"), (0, u "Lcom/example/buildwright/buildwright/script/ScriptElement;"), (0, .fieldref 7 14), (0, .nameAndType 15 12), (0, u "NODE"), (0, .fieldref 7 17), (0, .nameAndType 18 12), (0, u "AGGREGATE"), (0, .fieldref 7 20), (0, .nameAndType 21 12), (0, u "AGENT"), (0, .fieldref 7 23), (0, .nameAndType 24 12), (0, u "TRIGGER"), (0, .fieldref 7 26), (0, .nameAndType 27 12), (0, u "WARNING"), (0, .fieldref 7 29), (0, .nameAndType 30 12), (0, u "ERROR"), (0, .fieldref 7 32), (0, .nameAndType 33 12), (0, u "SPAWN"), (0, .fieldref 7 35), (0, .nameAndType 36 12), (0, u "SOURCE_INDEX"), (0, .fieldref 7 38), (0, .nameAndType 39 12), (0, u "TEST"), (0, .fieldref 7 41), (0, .nameAndType 42 12), (0, u "LOG"), (0, .fieldref 7 44), (0, .nameAndType 45 12), (0, u "PROPERTY"), (0, .fieldref 7 47), (0, .nameAndType 48 12), (0, u "OPTION"), (0, .fieldref 7 50), (0, .nameAndType 51 12), (0, u "ENV_VAR"), (0, .fieldref 7 53), (0, .nameAndType 54 12), (0, u "INCLUDE"), (0, .fieldref 7 56), (0, .nameAndType 57 12), (0, u "DEPENDENCY"), (0, .fieldref 7 59), (0, .nameAndType 60 12), (0, u "DO"), (0, .fieldref 7 62), (0, .nameAndType 63 12), (0, u "SWITCH"), (0, .fieldref 7 65), (0, .nameAndType 66 12), (0, u "CASE"), (0, .fieldref 7 68), (0, .nameAndType 69 12), (0, u "DEFAULT"), (0, .fieldref 7 71), (0, .nameAndType 72 12), (0, u "FOR_EACH"), (0, .integer 2147483647), (0, .methodref 7 75), (0, .nameAndType 76 77), (0, u "isControl"), (0, u "()Z"), (0, .class_ 79), (0, u "com/example/buildwright/buildwright/script/ScriptElementIsControlPinLaw"), (2, u "law"), (0, u "(I)Z")] 5

def k1m0 : Method := { name := "<init>", desc := "()V", sig := { parameters := [], returnType := none }, accessFlags := 2, code := none }
def k1c1 : Code := { maxStack := 4, maxLocals := 4, code := code, exceptionTable := #[], attributes := #[] }
def k1m1 : Method := { name := "law", desc := "(I)Z", sig := { parameters := [.int], returnType := some .boolean }, accessFlags := 9, code := some k1c1 }
/-- com/example/buildwright/buildwright/script/ScriptElementIsControlPinLaw -/
def k1 : Class := { plain "com/example/buildwright/buildwright/script/ScriptElementIsControlPinLaw" (some 0) with
  accessFlags := 49
  interfaces := #[]
  cf := some (fileOf pool1 78 #[] #[{ accessFlags := 2, nameIndex := 5, descriptorIndex := 6, attributes := #[] }, { accessFlags := 9, nameIndex := 82, descriptorIndex := 83, attributes := #[] }] 49 2 #[] #[])
  fields := #[]
  methods := #[k1m0, k1m1]
  instanceTypes := #[]
  staticTypes := #[]
  resolved := Array.replicate 89 none
  statics := none }

def pool2 : Array CpInfo := pool [(1, .class_ 2), (0, u "java/lang/constant/Constable"), (0, .class_ 4), (0, u "java/lang/Object")] 6

/-- java/lang/constant/Constable -/
def k2 : Class := { plain "java/lang/constant/Constable" (some 0) with
  accessFlags := 1537
  interfaces := #[]
  cf := some (fileOf pool2 1 #[] #[] 1537 3 #[] #[])
  fields := #[]
  methods := #[]
  instanceTypes := #[]
  staticTypes := #[]
  resolved := Array.replicate 11 none
  statics := none }

def pool3 : Array CpInfo := pool [(1, .class_ 2), (0, u "java/lang/Comparable"), (0, .class_ 4), (0, u "java/lang/Object")] 7

/-- java/lang/Comparable -/
def k3 : Class := { plain "java/lang/Comparable" (some 0) with
  accessFlags := 1537
  interfaces := #[]
  cf := some (fileOf pool3 1 #[] #[] 1537 3 #[] #[])
  fields := #[]
  methods := #[]
  instanceTypes := #[]
  staticTypes := #[]
  resolved := Array.replicate 12 none
  statics := none }

def pool4 : Array CpInfo := pool [(1, .class_ 2), (0, u "java/io/Serializable"), (0, .class_ 4), (0, u "java/lang/Object")] 2

/-- java/io/Serializable -/
def k4 : Class := { plain "java/io/Serializable" (some 0) with
  accessFlags := 1537
  interfaces := #[]
  cf := some (fileOf pool4 1 #[] #[] 1537 3 #[] #[])
  fields := #[]
  methods := #[]
  instanceTypes := #[]
  staticTypes := #[]
  resolved := Array.replicate 7 none
  statics := none }

def pool5 : Array CpInfo := pool [(2, .class_ 4), (1, u "java/lang/Enum"), (0, u "name"), (0, u "Ljava/lang/String;"), (2, u "ordinal"), (0, u "I"), (1, .class_ 14), (1, u "java/lang/Object"), (4, u "hash"), (86, .class_ 108), (1, u "java/lang/Enum$EnumDesc"), (2, .class_ 112), (0, u "java/lang/constant/Constable"), (0, .class_ 114), (0, u "java/lang/Comparable"), (0, .class_ 116), (0, u "java/io/Serializable")] 87

/-- java/lang/Enum -/
def k5 : Class := { plain "java/lang/Enum" (some 0) with
  accessFlags := 1057
  interfaces := #[2, 3, 4]
  cf := some (fileOf pool5 2 #[.nestMembers #[106]] #[] 1057 12 #[111, 113, 115] #[{ accessFlags := 18, nameIndex := 5, descriptorIndex := 6, attributes := #[] }, { accessFlags := 18, nameIndex := 9, descriptorIndex := 10, attributes := #[] }, { accessFlags := 2, nameIndex := 19, descriptorIndex := 10, attributes := #[] }])
  fields := #[{ name := "name", type := (.object "java/lang/String"), accessFlags := 18, slot := 0, constantValue := 0 }, { name := "ordinal", type := .int, accessFlags := 18, slot := 1, constantValue := 0 }, { name := "hash", type := .int, accessFlags := 2, slot := 2, constantValue := 0 }]
  methods := #[]
  instanceTypes := #[(.object "java/lang/String"), .int, .int]
  staticTypes := #[]
  resolved := Array.replicate 204 none
  statics := none }

def pool6 : Array CpInfo := pool [(1, .class_ 2), (0, u "com/example/buildwright/buildwright/script/ScriptElement"), (2, u "BUILDWRIGHT"), (0, u "Lcom/example/buildwright/buildwright/script/ScriptElement;"), (2, u "NODE"), (2, u "AGGREGATE"), (2, u "AGENT"), (2, u "TRIGGER"), (2, u "WARNING"), (2, u "ERROR"), (2, u "SPAWN"), (2, u "SOURCE_INDEX"), (2, u "TEST"), (2, u "LOG"), (2, u "PROPERTY"), (2, u "OPTION"), (2, u "ENV_VAR"), (2, u "INCLUDE"), (2, u "DEPENDENCY"), (2, u "DO"), (2, u "SWITCH"), (2, u "CASE"), (2, u "DEFAULT"), (2, u "FOR_EACH"), (2, u "$VALUES"), (0, u "[Lcom/example/buildwright/buildwright/script/ScriptElement;"), (6, .class_ 79), (1, u "java/lang/Enum"), (8, u "tag"), (0, u "Ljava/lang/String;"), (0, .fieldref 1 91), (0, .nameAndType 92 93), (0, u "role"), (0, u "Lcom/example/buildwright/buildwright/script/ScriptElement$Role;"), (2, u "required"), (0, u "Ljava/util/List;"), (2, u "optional"), (2, u "children"), (2, u "BY_TAG"), (0, u "Ljava/util/Map;"), (19, .fieldref 128 129), (0, .class_ 130), (0, .nameAndType 131 93), (0, u "com/example/buildwright/buildwright/script/ScriptElement$Role"), (0, u "CONTROL"), (0, .fieldref 128 133), (0, .nameAndType 134 93), (0, u "BODY"), (162, u "CONDITION"), (15, u "isControl"), (0, u "()Z")] 9

def k6c0 : Code := { maxStack := 2, maxLocals := 1, code := prog_80_method_8_code, exceptionTable := #[], attributes := #[] }
def k6m0 : Method := { name := "isControl", desc := "()Z", sig := { parameters := [], returnType := some .boolean }, accessFlags := 0, code := some k6c0 }
/-- com/example/buildwright/buildwright/script/ScriptElement -/
def k6 : Class := { plain "com/example/buildwright/buildwright/script/ScriptElement" (some 5) with
  accessFlags := 16432
  interfaces := #[]
  cf := some (fileOf pool6 1 #[.nestMembers #[128]] #[{ accessFlags := 0, nameIndex := 313, descriptorIndex := 314, attributes := #[] }] 16432 77 #[] #[{ accessFlags := 16409, nameIndex := 5, descriptorIndex := 6, attributes := #[] }, { accessFlags := 16409, nameIndex := 9, descriptorIndex := 6, attributes := #[] }, { accessFlags := 16409, nameIndex := 12, descriptorIndex := 6, attributes := #[] }, { accessFlags := 16409, nameIndex := 15, descriptorIndex := 6, attributes := #[] }, { accessFlags := 16409, nameIndex := 18, descriptorIndex := 6, attributes := #[] }, { accessFlags := 16409, nameIndex := 21, descriptorIndex := 6, attributes := #[] }, { accessFlags := 16409, nameIndex := 24, descriptorIndex := 6, attributes := #[] }, { accessFlags := 16409, nameIndex := 27, descriptorIndex := 6, attributes := #[] }, { accessFlags := 16409, nameIndex := 30, descriptorIndex := 6, attributes := #[] }, { accessFlags := 16409, nameIndex := 33, descriptorIndex := 6, attributes := #[] }, { accessFlags := 16409, nameIndex := 36, descriptorIndex := 6, attributes := #[] }, { accessFlags := 16409, nameIndex := 39, descriptorIndex := 6, attributes := #[] }, { accessFlags := 16409, nameIndex := 42, descriptorIndex := 6, attributes := #[] }, { accessFlags := 16409, nameIndex := 45, descriptorIndex := 6, attributes := #[] }, { accessFlags := 16409, nameIndex := 48, descriptorIndex := 6, attributes := #[] }, { accessFlags := 16409, nameIndex := 51, descriptorIndex := 6, attributes := #[] }, { accessFlags := 16409, nameIndex := 54, descriptorIndex := 6, attributes := #[] }, { accessFlags := 16409, nameIndex := 57, descriptorIndex := 6, attributes := #[] }, { accessFlags := 16409, nameIndex := 60, descriptorIndex := 6, attributes := #[] }, { accessFlags := 16409, nameIndex := 63, descriptorIndex := 6, attributes := #[] }, { accessFlags := 16409, nameIndex := 66, descriptorIndex := 6, attributes := #[] }, { accessFlags := 24, nameIndex := 297, descriptorIndex := 89, attributes := #[] }, { accessFlags := 26, nameIndex := 106, descriptorIndex := 107, attributes := #[] }, { accessFlags := 18, nameIndex := 88, descriptorIndex := 89, attributes := #[] }, { accessFlags := 18, nameIndex := 92, descriptorIndex := 93, attributes := #[] }, { accessFlags := 18, nameIndex := 96, descriptorIndex := 97, attributes := #[] }, { accessFlags := 18, nameIndex := 100, descriptorIndex := 97, attributes := #[] }, { accessFlags := 18, nameIndex := 103, descriptorIndex := 97, attributes := #[] }, { accessFlags := 4122, nameIndex := 69, descriptorIndex := 70, attributes := #[] }])
  fields := #[{ name := "BUILDWRIGHT", type := (.object "com/example/buildwright/buildwright/script/ScriptElement"), accessFlags := 16409, slot := 0, constantValue := 0 }, { name := "NODE", type := (.object "com/example/buildwright/buildwright/script/ScriptElement"), accessFlags := 16409, slot := 1, constantValue := 0 }, { name := "AGGREGATE", type := (.object "com/example/buildwright/buildwright/script/ScriptElement"), accessFlags := 16409, slot := 2, constantValue := 0 }, { name := "AGENT", type := (.object "com/example/buildwright/buildwright/script/ScriptElement"), accessFlags := 16409, slot := 3, constantValue := 0 }, { name := "TRIGGER", type := (.object "com/example/buildwright/buildwright/script/ScriptElement"), accessFlags := 16409, slot := 4, constantValue := 0 }, { name := "WARNING", type := (.object "com/example/buildwright/buildwright/script/ScriptElement"), accessFlags := 16409, slot := 5, constantValue := 0 }, { name := "ERROR", type := (.object "com/example/buildwright/buildwright/script/ScriptElement"), accessFlags := 16409, slot := 6, constantValue := 0 }, { name := "SPAWN", type := (.object "com/example/buildwright/buildwright/script/ScriptElement"), accessFlags := 16409, slot := 7, constantValue := 0 }, { name := "SOURCE_INDEX", type := (.object "com/example/buildwright/buildwright/script/ScriptElement"), accessFlags := 16409, slot := 8, constantValue := 0 }, { name := "TEST", type := (.object "com/example/buildwright/buildwright/script/ScriptElement"), accessFlags := 16409, slot := 9, constantValue := 0 }, { name := "LOG", type := (.object "com/example/buildwright/buildwright/script/ScriptElement"), accessFlags := 16409, slot := 10, constantValue := 0 }, { name := "PROPERTY", type := (.object "com/example/buildwright/buildwright/script/ScriptElement"), accessFlags := 16409, slot := 11, constantValue := 0 }, { name := "OPTION", type := (.object "com/example/buildwright/buildwright/script/ScriptElement"), accessFlags := 16409, slot := 12, constantValue := 0 }, { name := "ENV_VAR", type := (.object "com/example/buildwright/buildwright/script/ScriptElement"), accessFlags := 16409, slot := 13, constantValue := 0 }, { name := "INCLUDE", type := (.object "com/example/buildwright/buildwright/script/ScriptElement"), accessFlags := 16409, slot := 14, constantValue := 0 }, { name := "DEPENDENCY", type := (.object "com/example/buildwright/buildwright/script/ScriptElement"), accessFlags := 16409, slot := 15, constantValue := 0 }, { name := "DO", type := (.object "com/example/buildwright/buildwright/script/ScriptElement"), accessFlags := 16409, slot := 16, constantValue := 0 }, { name := "SWITCH", type := (.object "com/example/buildwright/buildwright/script/ScriptElement"), accessFlags := 16409, slot := 17, constantValue := 0 }, { name := "CASE", type := (.object "com/example/buildwright/buildwright/script/ScriptElement"), accessFlags := 16409, slot := 18, constantValue := 0 }, { name := "DEFAULT", type := (.object "com/example/buildwright/buildwright/script/ScriptElement"), accessFlags := 16409, slot := 19, constantValue := 0 }, { name := "FOR_EACH", type := (.object "com/example/buildwright/buildwright/script/ScriptElement"), accessFlags := 16409, slot := 20, constantValue := 0 }, { name := "CONDITION", type := (.object "java/lang/String"), accessFlags := 24, slot := 21, constantValue := 0 }, { name := "BY_TAG", type := (.object "java/util/Map"), accessFlags := 26, slot := 22, constantValue := 0 }, { name := "tag", type := (.object "java/lang/String"), accessFlags := 18, slot := 3, constantValue := 0 }, { name := "role", type := (.object "com/example/buildwright/buildwright/script/ScriptElement$Role"), accessFlags := 18, slot := 4, constantValue := 0 }, { name := "required", type := (.object "java/util/List"), accessFlags := 18, slot := 5, constantValue := 0 }, { name := "optional", type := (.object "java/util/List"), accessFlags := 18, slot := 6, constantValue := 0 }, { name := "children", type := (.object "java/util/List"), accessFlags := 18, slot := 7, constantValue := 0 }, { name := "$VALUES", type := (.array (.object "com/example/buildwright/buildwright/script/ScriptElement")), accessFlags := 4122, slot := 23, constantValue := 0 }]
  methods := #[k6m0]
  instanceTypes := #[(.object "java/lang/String"), .int, .int, (.object "java/lang/String"), (.object "com/example/buildwright/buildwright/script/ScriptElement$Role"), (.object "java/util/List"), (.object "java/util/List"), (.object "java/util/List")]
  staticTypes := #[(.object "com/example/buildwright/buildwright/script/ScriptElement"), (.object "com/example/buildwright/buildwright/script/ScriptElement"), (.object "com/example/buildwright/buildwright/script/ScriptElement"), (.object "com/example/buildwright/buildwright/script/ScriptElement"), (.object "com/example/buildwright/buildwright/script/ScriptElement"), (.object "com/example/buildwright/buildwright/script/ScriptElement"), (.object "com/example/buildwright/buildwright/script/ScriptElement"), (.object "com/example/buildwright/buildwright/script/ScriptElement"), (.object "com/example/buildwright/buildwright/script/ScriptElement"), (.object "com/example/buildwright/buildwright/script/ScriptElement"), (.object "com/example/buildwright/buildwright/script/ScriptElement"), (.object "com/example/buildwright/buildwright/script/ScriptElement"), (.object "com/example/buildwright/buildwright/script/ScriptElement"), (.object "com/example/buildwright/buildwright/script/ScriptElement"), (.object "com/example/buildwright/buildwright/script/ScriptElement"), (.object "com/example/buildwright/buildwright/script/ScriptElement"), (.object "com/example/buildwright/buildwright/script/ScriptElement"), (.object "com/example/buildwright/buildwright/script/ScriptElement"), (.object "com/example/buildwright/buildwright/script/ScriptElement"), (.object "com/example/buildwright/buildwright/script/ScriptElement"), (.object "com/example/buildwright/buildwright/script/ScriptElement"), (.object "java/lang/String"), (.object "java/util/Map"), (.array (.object "com/example/buildwright/buildwright/script/ScriptElement"))]
  resolved := Array.replicate 324 none
  statics := some 0 }

def pool7 : Array CpInfo := pool [(1, .class_ 2), (0, u "com/example/buildwright/buildwright/script/ScriptElement$Role"), (2, u "LISTED"), (0, u "Lcom/example/buildwright/buildwright/script/ScriptElement$Role;"), (2, u "DIRECT"), (2, u "CONTROL"), (2, u "BODY"), (2, u "$VALUES"), (0, u "[Lcom/example/buildwright/buildwright/script/ScriptElement$Role;"), (6, .class_ 28), (1, u "java/lang/Enum"), (27, .class_ 57), (0, u "com/example/buildwright/buildwright/script/ScriptElement")] 2

/-- com/example/buildwright/buildwright/script/ScriptElement$Role -/
def k7 : Class := { plain "com/example/buildwright/buildwright/script/ScriptElement$Role" (some 5) with
  accessFlags := 16432
  interfaces := #[]
  cf := some (fileOf pool7 1 #[.nestHost 56] #[] 16432 26 #[] #[{ accessFlags := 16409, nameIndex := 5, descriptorIndex := 6, attributes := #[] }, { accessFlags := 16409, nameIndex := 9, descriptorIndex := 6, attributes := #[] }, { accessFlags := 16409, nameIndex := 12, descriptorIndex := 6, attributes := #[] }, { accessFlags := 16409, nameIndex := 15, descriptorIndex := 6, attributes := #[] }, { accessFlags := 4122, nameIndex := 18, descriptorIndex := 19, attributes := #[] }])
  fields := #[{ name := "LISTED", type := (.object "com/example/buildwright/buildwright/script/ScriptElement$Role"), accessFlags := 16409, slot := 0, constantValue := 0 }, { name := "DIRECT", type := (.object "com/example/buildwright/buildwright/script/ScriptElement$Role"), accessFlags := 16409, slot := 1, constantValue := 0 }, { name := "CONTROL", type := (.object "com/example/buildwright/buildwright/script/ScriptElement$Role"), accessFlags := 16409, slot := 2, constantValue := 0 }, { name := "BODY", type := (.object "com/example/buildwright/buildwright/script/ScriptElement$Role"), accessFlags := 16409, slot := 3, constantValue := 0 }, { name := "$VALUES", type := (.array (.object "com/example/buildwright/buildwright/script/ScriptElement$Role")), accessFlags := 4122, slot := 4, constantValue := 0 }]
  methods := #[]
  instanceTypes := #[(.object "java/lang/String"), .int, .int]
  staticTypes := #[(.object "com/example/buildwright/buildwright/script/ScriptElement$Role"), (.object "com/example/buildwright/buildwright/script/ScriptElement$Role"), (.object "com/example/buildwright/buildwright/script/ScriptElement$Role"), (.object "com/example/buildwright/buildwright/script/ScriptElement$Role"), (.array (.object "com/example/buildwright/buildwright/script/ScriptElement$Role"))]
  resolved := Array.replicate 60 none
  statics := some 1 }

def pool8 : Array CpInfo := pool [(1, u "java/lang/Cloneable"), (0, .class_ 1), (0, u "java/lang/Object"), (0, .class_ 3)] 3

/-- java/lang/Cloneable -/
def k8 : Class := { plain "java/lang/Cloneable" (some 0) with
  accessFlags := 1537
  interfaces := #[]
  cf := some (fileOf pool8 2 #[] #[] 1537 4 #[] #[])
  fields := #[]
  methods := #[]
  instanceTypes := #[]
  staticTypes := #[]
  resolved := Array.replicate 8 none
  statics := none }

/-- the primitive byte -/
def k9 : Class := { plain "byte" none with kind := .primitive 'B', accessFlags := 0x411 }
/-- [B -/
def k10 : Class := { plain "[B" (some 0) with kind := .array 9 .byte, interfaces := #[8, 4], accessFlags := 1041 }

/-- the primitive int -/
def k11 : Class := { plain "int" none with kind := .primitive 'I', accessFlags := 0x411 }
/-- [I -/
def k12 : Class := { plain "[I" (some 0) with kind := .array 11 .int, interfaces := #[8, 4], accessFlags := 1041 }

/-- [Lcom/example/buildwright/buildwright/script/ScriptElement; -/
def k13 : Class := { plain "[Lcom/example/buildwright/buildwright/script/ScriptElement;" (some 0) with kind := .array 6 (.object "com/example/buildwright/buildwright/script/ScriptElement"), interfaces := #[8, 4], accessFlags := 1041 }

def heap : Heap := #[{ cls := 6, slots := #[.ref 6, .ref 7, .ref 8, .ref 9, .ref 10, .ref 11, .ref 12, .ref 13, .ref 14, .ref 15, .ref 16, .ref 17, .ref 18, .ref 19, .ref 20, .ref 21, .ref 22, .ref 23, .ref 24, .ref 25, .ref 26, .null, .null, .null], vm := .statics 6 },
  { cls := 7, slots := #[.ref 2, .ref 5, .ref 3, .ref 4, .null], vm := .statics 7 },
  { cls := 7, slots := #[.null, .int 0, .int 0], vm := .none },
  { cls := 7, slots := #[.null, .int 2, .int 0], vm := .none },
  { cls := 7, slots := #[.null, .int 3, .int 0], vm := .none },
  { cls := 7, slots := #[.null, .int 1, .int 0], vm := .none },
  { cls := 6, slots := #[.null, .int 0, .int 0, .null, .ref 2, .null, .null, .null], vm := .none },
  { cls := 6, slots := #[.null, .int 0, .int 0, .null, .ref 2, .null, .null, .null], vm := .none },
  { cls := 6, slots := #[.null, .int 0, .int 0, .null, .ref 2, .null, .null, .null], vm := .none },
  { cls := 6, slots := #[.null, .int 0, .int 0, .null, .ref 2, .null, .null, .null], vm := .none },
  { cls := 6, slots := #[.null, .int 0, .int 0, .null, .ref 2, .null, .null, .null], vm := .none },
  { cls := 6, slots := #[.null, .int 0, .int 0, .null, .ref 2, .null, .null, .null], vm := .none },
  { cls := 6, slots := #[.null, .int 0, .int 0, .null, .ref 2, .null, .null, .null], vm := .none },
  { cls := 6, slots := #[.null, .int 0, .int 0, .null, .ref 2, .null, .null, .null], vm := .none },
  { cls := 6, slots := #[.null, .int 0, .int 0, .null, .ref 2, .null, .null, .null], vm := .none },
  { cls := 6, slots := #[.null, .int 0, .int 0, .null, .ref 2, .null, .null, .null], vm := .none },
  { cls := 6, slots := #[.null, .int 0, .int 0, .null, .ref 2, .null, .null, .null], vm := .none },
  { cls := 6, slots := #[.null, .int 0, .int 0, .null, .ref 2, .null, .null, .null], vm := .none },
  { cls := 6, slots := #[.null, .int 0, .int 0, .null, .ref 5, .null, .null, .null], vm := .none },
  { cls := 6, slots := #[.null, .int 0, .int 0, .null, .ref 5, .null, .null, .null], vm := .none },
  { cls := 6, slots := #[.null, .int 0, .int 0, .null, .ref 5, .null, .null, .null], vm := .none },
  { cls := 6, slots := #[.null, .int 0, .int 0, .null, .ref 5, .null, .null, .null], vm := .none },
  { cls := 6, slots := #[.null, .int 0, .int 0, .null, .ref 4, .null, .null, .null], vm := .none },
  { cls := 6, slots := #[.null, .int 0, .int 0, .null, .ref 3, .null, .null, .null], vm := .none },
  { cls := 6, slots := #[.null, .int 0, .int 0, .null, .ref 4, .null, .null, .null], vm := .none },
  { cls := 6, slots := #[.null, .int 0, .int 0, .null, .ref 4, .null, .null, .null], vm := .none },
  { cls := 6, slots := #[.null, .int 0, .int 0, .null, .ref 4, .null, .null, .null], vm := .none }]
def classes : Array Class := #[k0, k1, k2, k3, k4, k5, k6, k7, k8, k9, k10, k11, k12, k13]
def interned : List (Array UInt16 × Addr) := []
def slotsUsed : Nat := 209
def theMethod : MethodId := ⟨1, 1⟩
def args0 : Array Value := #[.int 1]
def aboutOver (below : List Frame) : State where
  vm := { classes := classes, interned := interned.toArray }
  heap := heap
  slotsUsed := slotsUsed
  threads := #[{ frames := .invoking theMethod args0 :: below }]
def below0 : List Frame := [.native { method := ⟨0, 0⟩, args := #[] }]
def about1 : State := aboutOver below0
def p0 : Program := .bare "" "" ""
def e0 : Env := launch0.env 0 0 0
theorem w_frames : about1.frames = Frame.invoking theMethod args0 :: below0 := rfl
set_option maxRecDepth 65536 in
theorem w_args : argsFit about1.vm theMethod args0 = true := by decide +kernel
set_option maxRecDepth 65536 in
theorem w_heap : heapFits about1 = true := by decide +kernel
set_option maxRecDepth 65536 in
theorem w_runnable : about1.curStatus? = some .runnable := by decide +kernel
set_option maxRecDepth 65536 in
theorem w_alone : about1.alone = true := by decide +kernel
set_option maxRecDepth 65536 in
theorem w_named : about1.methodNamed? x = some theMethod := by decide +kernel
set_option maxRecDepth 65536 in
theorem w_hears : about1.hears theMethod below0 = true := by decide +kernel
set_option maxRecDepth 65536 in
theorem w_ripe : about1.ripe theMethod args0 below0 = true := by decide +kernel
theorem w_running : about1.status = .running := rfl
set_option maxRecDepth 65536 in
theorem w_room : about1.hasRoom e0.platform room_1 = true :=
  launch0.hasRoom_least _ room_1 (by decide +kernel) (by decide +kernel) (by decide +kernel) (by decide +kernel) (by decide +kernel) (by decide +kernel)
theorem allAtoms_all (ts : List Jvm.Cond) (a : Array Jvm.Value) (st : Jvm.State) : (allAtoms ts).before a st = ts.all (fun c => c.before a st) := by
  induction ts with
  | nil => rfl
  | cons c t ih =>
    show (Jvm.Cond.and c (allAtoms t)).before a st = _
    rw [Jvm.Cond.before_and, ih, List.all_cons]
def words1 : List Jvm.Cond := Jvm.Cond.code x code maxLocals ret :: tables_1
/-- a 'code' word, met by the world's own term for the bytes: nothing is compared byte by byte -/
theorem code_word {y : MethodName} {bytes : ByteArray} {mx : Nat} {rt : Option FieldType} {a : Array Value} {s : State} {m : MethodId} {meth : Method} {c : Code} (h1 : s.methodNamed? y = some m) (h2 : s.vm.method? m = some meth) (h3 : meth.code = some c) (h4 : c.code = bytes)
    (h5 : (c.maxLocals == mx && c.exceptionTable.isEmpty && decide (c.maxStack ≤ mostOperands) && decide (meth.sig.returnType = rt) && !meth.locks && decide (parseMethodDescriptor y.desc = some meth.sig)) = true) : (Jvm.Cond.code y bytes mx rt).before a s = true := by
  simp only [Bool.and_eq_true, beq_iff_eq, Bool.not_eq_true', decide_eq_true_eq] at h5
  obtain ⟨⟨⟨⟨⟨g1, g2⟩, g3⟩, g4⟩, g5⟩, g6⟩ := h5
  simp [Cond.before, Cond.holds, Cond.value, h1, h2, h3, h4, g1, g2, g3, g4, g5, g6]
def isCode : Jvm.Cond → Bool
  | .code _ _ _ _ => true
  | _ => false
theorem all_split {L : List Jvm.Cond} {P : Jvm.Cond → Bool} (h1 : L.all (fun c => isCode c || P c) = true) (h2 : ∀ c ∈ L.filter isCode, P c = true) : L.all P = true := by
  refine List.all_eq_true.mpr fun c hc => ?_
  have h := List.all_eq_true.mp h1 c hc
  rcases Bool.eq_false_or_eq_true (isCode c) with hi | hi
  · exact h2 c (List.mem_filter.mpr ⟨hc, hi⟩)
  · simpa [hi] using h
set_option maxRecDepth 65536 in
theorem w_c0 : (Jvm.Cond.code x code maxLocals ret).before args0 about1 = true := code_word (m := ⟨1, 1⟩) (meth := k1m1) (c := k1c1) (by decide +kernel) rfl rfl rfl (by decide +kernel)
set_option maxRecDepth 65536 in
theorem w_c1 : (Jvm.Cond.code ({ cls := "com/example/buildwright/buildwright/script/ScriptElement", name := "isControl", desc := "()Z" } : Jvm.MethodName) prog_80_method_8_code (1 : Nat) (Option.some Jvm.ClassFile.FieldType.boolean)).before args0 about1 = true := code_word (m := ⟨6, 0⟩) (meth := k6m0) (c := k6c0) (by decide +kernel) rfl rfl rfl (by decide +kernel)
def codes1 : List Jvm.Cond := [Jvm.Cond.code x code maxLocals ret, Jvm.Cond.code ({ cls := "com/example/buildwright/buildwright/script/ScriptElement", name := "isControl", desc := "()Z" } : Jvm.MethodName) prog_80_method_8_code (1 : Nat) (Option.some Jvm.ClassFile.FieldType.boolean)]
set_option maxRecDepth 65536 in
theorem codes_eq : words1.filter isCode = codes1 := rfl
theorem w_codes : ∀ c ∈ words1.filter isCode, c.before args0 about1 = true := by
  rw [codes_eq]
  intro c hc
  simp only [codes1, List.mem_cons, List.not_mem_nil, or_false] at hc
  rcases hc with rfl | rfl
  · exact w_c0
  · exact w_c1
set_option maxRecDepth 65536 in
theorem w_t1 : (words1.take 24).all (fun c => isCode c || c.before args0 about1) = true := by decide +kernel
set_option maxRecDepth 65536 in
theorem w_t2 : ((words1.drop 24).take 24).all (fun c => isCode c || c.before args0 about1) = true := by decide +kernel
set_option maxRecDepth 65536 in
theorem w_t3 : ((words1.drop 24).drop 24).all (fun c => isCode c || c.before args0 about1) = true := by decide +kernel
theorem w_tables : (allAtoms (Jvm.Cond.code x code maxLocals ret :: tables_1)).before args0 about1 = true := by
  rw [allAtoms_all]
  show words1.all (fun c => c.before args0 about1) = true
  refine all_split ?_ w_codes
  rw [← List.take_append_drop 24 words1, List.all_append, w_t1, ← List.take_append_drop 24 (words1.drop 24), List.all_append, w_t2, w_t3]
  rfl
set_option maxRecDepth 65536 in
theorem w_case : (Jvm.Cond.and given_1 narrow_1).before args0 about1 = true := by decide +kernel
theorem w_applies : (headSpec (Jvm.Cond.code x code maxLocals ret :: tables_1) room_1).applies x e0.platform about1 = true :=
  (Spec.applies_iff w_frames).mpr ⟨w_running, w_runnable, w_alone, w_named, w_hears, w_ripe, w_room, w_tables⟩
theorem atStart : AtStart classFile x code maxLocals ret World_1 tables_1 room_1 Calls_1 rest_1 Pre_1 launch0 p0 e0 about1 theMethod args0 below0 :=
  ⟨lists_1, trivial, launch0.admits_env _ _ _, launch0.least_env, fairChoices_fair.cas, fairChoices_fair.clock, w_frames, w_args, w_heap, w_applies, trivial, trivial, w_case⟩
end start1
theorem witness_1 : WitnessClaimed_1 := ⟨start1.p0, start1.e0, start1.about1, start1.theMethod, start1.args0, start1.below0, start1.atStart⟩
end Jvm.Pilot.@@N@@
