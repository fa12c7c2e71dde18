import JvmDerived
import JvmDerived.Pilot.@@N@@Statement
import JvmDerived.Pilot.@@N@@Code
set_option linter.unusedVariables false
set_option linter.unusedSimpArgs false
namespace Jvm.Pilot.@@N@@
open Jvm Jvm.ClassFile Sem Op Lib Jvm.Free Jvm.Stand Jvm.LawKit Jvm.RoadKit Bundle Jvm.Pilot.@@N@@.Jvm.D
theorem own_fld_int {args : Array Value} {s : State} {tm : Term} {O f d : String} {t : Addr} {z : Int32} (ev : tm.eval args s none [] s = some (.ref t)) (h : (Jvm.Cond.eq (Term.field tm O f d) (Term.int z)).value args s none s [] = some true) : Fld s s.heap t O f d (.int z) := by
  have e2 : (Term.int z).eval args s none [] s = some (.int z) := Term.int_eval z
  refine Fld.start ?_
  cases e1 : s.fieldOf? t O f d with
  | none => simp [Jvm.Cond.value, fld_at ev, e1, e2] at h
  | some x => cases x <;> simp [Jvm.Cond.value, fld_at ev, e1, e2] at h ⊢ <;> exact h
section Layer
variable {p : Program} {l : Launch} {e : Env} {R : Room} {s : State} {m : MethodId} {args : Array Value} {below : List Frame} {meth : Method} {c : Code} {T : State} {locs : List Loc} {cells slots : Nat}
/-- the walk from σ comes to an end at which K holds -/
def Go (p : Program) (e : Env) (below : List Frame) (K : State → Outcome → Prop) (σ : State) : Prop := ∃ s₂ o, Steps p.tables e below σ s₂ ∧ K s₂ o
theorem Go.st {K : State → Outcome → Prop} {σ σ' : State} (h : ∀ t, Steps p.tables e below σ' t → Steps p.tables e below σ t) (k : Go p e below K σ') : Go p e below K σ := by
  obtain ⟨a, b, c, d⟩ := k
  exact ⟨a, b, h _ c, d⟩
theorem Go.tr {K : State → Outcome → Prop} {σ σ' : State} (h : Steps p.tables e below σ σ') (k : Go p e below K σ') : Go p e below K σ := Go.st (fun _ q => h.trans q) k
/-- what a contract asks of the end -/
def KQ (s : State) (below : List Frame) (Q : Option Value → Heap → List Loc → Prop) (C S : Nat) (s₂ : State) (o : Outcome) : Prop :=
  s₂.status = .running ∧ Ended s₂ below o ∧ ∃ v L, o = .returned v ∧ Q v s₂.heap L ∧ FrameEnd s o s₂ L C S
theorem Go.body {K : State → Outcome → Prop} {σ : State} {g g' : JFrame} (hg : g = g') (k : Go p e below K (T.setTop g')) : Go p e below K (T.setTop g) := hg ▸ k
/-- return of nothing -/
theorem Go.retV {Q : Option Value → Heap → List Loc → Prop} {C S : Nat} (X : Stand p l e R s m args below meth c T locs cells slots) (hx : p.tables.exec = Jvm.exec) (hlk : meth.locks = false) (hret : meth.sig.returnType = none) {pc : Nat} {Ls : Array Slot} (hd : decode c.code pc = .ok (.return_, 1)) (hC : cells ≤ C) (hS : slots ≤ S) (q : Q none T.heap locs) :
    Go p e below (KQ s below Q C S) (T.setTop (mkF m pc Ls [])) := by
  obtain ⟨fs, hr, hrun, hended, hW, hsame⟩ := X.leave (v := none) (fun _ => rfl)
  exact ⟨_, _, X.returnOut hx hret hd hr, hrun, hended, _, _, rfl, q, ⟨_, rfl⟩, hW, hsame.mono hC hS⟩
/-- return of an int -/
theorem Go.retI {Q : Option Value → Heap → List Loc → Prop} {C S : Nat} (X : Stand p l e R s m args below meth c T locs cells slots) (hx : p.tables.exec = Jvm.exec) (hlk : meth.locks = false) (hret : meth.sig.returnType = some .int) {pc : Nat} {Ls : Array Slot} {z : Int32} {rest : List Value} (hd : decode c.code pc = .ok (.ireturn, 1)) (hC : cells ≤ C) (hS : slots ≤ S) (q : Q (some (.int z)) T.heap locs) :
    Go p e below (KQ s below Q C S) (T.setTop (mkF m pc Ls (.int z :: rest))) := by
  obtain ⟨fs, hr, hrun, hended, hW, hsame⟩ := X.leave (v := some (.int z)) (fun h => by rw [hret] at h; cases h)
  exact ⟨_, _, retOut X hx hret rfl (Or.inl ⟨rfl, Or.inl rfl, _, rfl⟩) hd hr, hrun, hended, _, _, rfl, q, ⟨_, rfl⟩, hW, hsame.mono hC hS⟩
/-- return of a boolean, byte, char or short -/
theorem Go.retN {Q : Option Value → Heap → List Loc → Prop} {C S : Nat} (X : Stand p l e R s m args below meth c T locs cells slots) (hx : p.tables.exec = Jvm.exec) (hlk : meth.locks = false) {t : FieldType} (hret : meth.sig.returnType = some t) (ht : t = .boolean ∨ t = .byte ∨ t = .char ∨ t = .short) {pc : Nat} {Ls : Array Slot} {z : Int32} {rest : List Value} (hd : decode c.code pc = .ok (.ireturn, 1)) (hC : cells ≤ C) (hS : slots ≤ S) (q : Q (some (.int (nar t z))) T.heap locs) :
    Go p e below (KQ s below Q C S) (T.setTop (mkF m pc Ls (.int z :: rest))) := by
  obtain ⟨fs, hr, hrun, hended, hW, hsame⟩ := X.leave (v := some (.int (nar t z))) (fun h => by rw [hret] at h; cases h)
  exact ⟨_, _, RoadKit.retN X hx hret ht hd hr, hrun, hended, _, _, rfl, q, ⟨_, rfl⟩, hW, hsame.mono hC hS⟩
/-- return of a reference -/
theorem Go.retA {Q : Option Value → Heap → List Loc → Prop} {C S : Nat} (X : Stand p l e R s m args below meth c T locs cells slots) (hx : p.tables.exec = Jvm.exec) (hlk : meth.locks = false) {t : FieldType} (hret : meth.sig.returnType = some t) (ht : t.isReference = true) {pc : Nat} {Ls : Array Slot} {w : Value} (hw : w.isRef = true) {rest : List Value} (hd : decode c.code pc = .ok (.areturn, 1)) (hC : cells ≤ C) (hS : slots ≤ S) (q : Q (some w) T.heap locs) :
    Go p e below (KQ s below Q C S) (T.setTop (mkF m pc Ls (w :: rest))) := by
  obtain ⟨fs, hr, hrun, hended, hW, hsame⟩ := X.leave (v := some w) (fun h => by rw [hret] at h; cases h)
  exact ⟨_, _, retOut X hx hret (by cases t <;> cases w <;> simp_all [narrow, Value.isRef, FieldType.isReference]) (Or.inr (Or.inr (Or.inr (Or.inr ⟨rfl, ht, hw⟩)))) hd hr, hrun, hended, _, _, rfl, q, ⟨_, rfl⟩, hW, hsame.mono hC hS⟩
/-- return of a long -/
theorem Go.retJ {Q : Option Value → Heap → List Loc → Prop} {C S : Nat} (X : Stand p l e R s m args below meth c T locs cells slots) (hx : p.tables.exec = Jvm.exec) (hlk : meth.locks = false) (hret : meth.sig.returnType = some .long) {pc : Nat} {Ls : Array Slot} {z : Int64} {rest : List Value} (hd : decode c.code pc = .ok (.lreturn, 1)) (hC : cells ≤ C) (hS : slots ≤ S) (q : Q (some (.long z)) T.heap locs) :
    Go p e below (KQ s below Q C S) (T.setTop (mkF m pc Ls (.long z :: rest))) := by
  obtain ⟨fs, hr, hrun, hended, hW, hsame⟩ := X.leave (v := some (.long z)) (fun h => by rw [hret] at h; cases h)
  exact ⟨_, _, retOut X hx hret rfl (Or.inr (Or.inl ⟨rfl, rfl, _, rfl⟩)) hd hr, hrun, hended, _, _, rfl, q, ⟨_, rfl⟩, hW, hsame.mono hC hS⟩
/-- return of a double -/
theorem Go.retD {Q : Option Value → Heap → List Loc → Prop} {C S : Nat} (X : Stand p l e R s m args below meth c T locs cells slots) (hx : p.tables.exec = Jvm.exec) (hlk : meth.locks = false) (hret : meth.sig.returnType = some .double) {pc : Nat} {Ls : Array Slot} {z : UInt64} {rest : List Value} (hd : decode c.code pc = .ok (.dreturn, 1)) (hC : cells ≤ C) (hS : slots ≤ S) (q : Q (some (.double z)) T.heap locs) :
    Go p e below (KQ s below Q C S) (T.setTop (mkF m pc Ls (.double z :: rest))) := by
  obtain ⟨fs, hr, hrun, hended, hW, hsame⟩ := X.leave (v := some (.double z)) (fun h => by rw [hret] at h; cases h)
  exact ⟨_, _, retOut X hx hret rfl (Or.inr (Or.inr (Or.inl ⟨rfl, rfl, _, rfl⟩))) hd hr, hrun, hended, _, _, rfl, q, ⟨_, rfl⟩, hW, hsame.mono hC hS⟩
theorem g_iloadN {K : State → Outcome → Prop} (X : Stand p l e R s m args below meth c T locs cells slots) (hx : p.tables.exec = Jvm.exec) {pc : Nat} {L : Array Slot} {S : List Value} {k : Fin 4} {v : Int32} (hd : decode c.code pc = .ok (.iload_n k, 1)) (pc' : Nat) (hp : pc + 1 = pc') (hl : L[k.val]? = some (.val (.int v))) (r : Go p e below K (T.setTop (mkF m pc' L (.int v :: S)))) : Go p e below K (T.setTop (mkF m pc L S)) := by
  subst hp
  exact Go.st (fun _ => XS.iloadN X.here hx rfl hd hl) r
theorem g_aloadN {K : State → Outcome → Prop} (X : Stand p l e R s m args below meth c T locs cells slots) (hx : p.tables.exec = Jvm.exec) {pc : Nat} {L : Array Slot} {S : List Value} {k : Fin 4} {v : Value} (hd : decode c.code pc = .ok (.aload_n k, 1)) (pc' : Nat) (hp : pc + 1 = pc') (hl : L[k.val]? = some (.val v)) (hv : v.isRef = true) (r : Go p e below K (T.setTop (mkF m pc' L (v :: S)))) : Go p e below K (T.setTop (mkF m pc L S)) := by
  subst hp
  exact Go.st (fun _ => XS.aloadN X.here hx rfl hd hl hv) r
theorem g_aload {K : State → Outcome → Prop} (X : Stand p l e R s m args below meth c T locs cells slots) (hx : p.tables.exec = Jvm.exec) {pc : Nat} {L : Array Slot} {S : List Value} {k : Nat} {v : Value} (hd : decode c.code pc = .ok (.aload k, 2)) (pc' : Nat) (hp : pc + 2 = pc') (hl : L[k]? = some (.val v)) (hv : v.isRef = true) (r : Go p e below K (T.setTop (mkF m pc' L (v :: S)))) : Go p e below K (T.setTop (mkF m pc L S)) := by
  subst hp
  exact Go.st (fun _ => XS.aload X.here hx rfl hd hl hv) r
theorem g_istoreN {K : State → Outcome → Prop} (X : Stand p l e R s m args below meth c T locs cells slots) (hx : p.tables.exec = Jvm.exec) {pc : Nat} {L : Array Slot} {S : List Value} {k : Fin 4} {v : Int32} (hd : decode c.code pc = .ok (.istore_n k, 1)) (pc' : Nat) (hp : pc + 1 = pc') (L' : Array Slot) (hl : storeLocals L k.val (.int v) = some L') (r : Go p e below K (T.setTop (mkF m pc' L' S))) : Go p e below K (T.setTop (mkF m pc L (.int v :: S))) := by
  subst hp
  exact Go.st (fun _ => XS.istoreN X.here hx rfl hd rfl hl) r
theorem g_astore {K : State → Outcome → Prop} (X : Stand p l e R s m args below meth c T locs cells slots) (hx : p.tables.exec = Jvm.exec) {pc : Nat} {L : Array Slot} {S : List Value} {k : Nat} {v : Value} (hd : decode c.code pc = .ok (.astore k, 2)) (pc' : Nat) (hp : pc + 2 = pc') (hv : v.isRef = true) (L' : Array Slot) (hl : storeLocals L k v = some L') (r : Go p e below K (T.setTop (mkF m pc' L' S))) : Go p e below K (T.setTop (mkF m pc L (v :: S))) := by
  subst hp
  exact Go.st (fun _ => XS.astore X.here hx rfl hd rfl hv hl) r
theorem g_iconst {K : State → Outcome → Prop} (X : Stand p l e R s m args below meth c T locs cells slots) (hx : p.tables.exec = Jvm.exec) {pc : Nat} {L : Array Slot} {S : List Value} {i : Int} (hd : decode c.code pc = .ok (.iconst i, 1)) (pc' : Nat) (hp : pc + 1 = pc') (z : Int32) (hz : Int32.ofInt i = z) (r : Go p e below K (T.setTop (mkF m pc' L (.int z :: S)))) : Go p e below K (T.setTop (mkF m pc L S)) := by
  subst hp; subst hz
  exact Go.st (fun _ => XS.iconst X.here hx rfl hd) r
theorem g_bipush {K : State → Outcome → Prop} (X : Stand p l e R s m args below meth c T locs cells slots) (hx : p.tables.exec = Jvm.exec) {pc : Nat} {L : Array Slot} {S : List Value} {i : Int} (hd : decode c.code pc = .ok (.bipush i, 2)) (pc' : Nat) (hp : pc + 2 = pc') (z : Int32) (hz : (Int8.ofInt i).toInt32 = z) (r : Go p e below K (T.setTop (mkF m pc' L (.int z :: S)))) : Go p e below K (T.setTop (mkF m pc L S)) := by
  subst hp; subst hz
  exact Go.st (fun _ => XS.bipush X.here hx rfl hd) r
theorem g_iand {K : State → Outcome → Prop} (X : Stand p l e R s m args below meth c T locs cells slots) (hx : p.tables.exec = Jvm.exec) {pc : Nat} {L : Array Slot} {S : List Value} {x y : Int32} (hd : decode c.code pc = .ok (.iand, 1)) (pc' : Nat) (hp : pc + 1 = pc') (z : Int32) (hz : x &&& y = z) (r : Go p e below K (T.setTop (mkF m pc' L (.int z :: S)))) : Go p e below K (T.setTop (mkF m pc L (.int y :: .int x :: S))) := by
  subst hp; subst hz
  exact Go.st (fun _ => XS.iand X.here hx rfl hd rfl) r
theorem g_irem {K : State → Outcome → Prop} (X : Stand p l e R s m args below meth c T locs cells slots) (hx : p.tables.exec = Jvm.exec) {pc : Nat} {L : Array Slot} {S : List Value} {x y : Int32} (hd : decode c.code pc = .ok (.irem, 1)) (pc' : Nat) (hp : pc + 1 = pc') (hy : y ≠ 0) (z : Int32) (hz : x % y = z) (r : Go p e below K (T.setTop (mkF m pc' L (.int z :: S)))) : Go p e below K (T.setTop (mkF m pc L (.int y :: .int x :: S))) := by
  subst hp; subst hz
  exact Go.st (fun _ => iremM X hx rfl hd rfl hy) r
theorem g_goto {K : State → Outcome → Prop} (X : Stand p l e R s m args below meth c T locs cells slots) (hx : p.tables.exec = Jvm.exec) {pc : Nat} {L : Array Slot} {S : List Value} {o : Int} (hd : decode c.code pc = .ok (.goto o, 3)) (pc' : Nat) (h0 : 0 ≤ (pc : Int) + o) (hp : ((pc : Int) + o).toNat = pc') (r : Go p e below K (T.setTop (mkF m pc' L S))) : Go p e below K (T.setTop (mkF m pc L S)) :=
  Go.st (fun _ => XS.goto X.here hx rfl (pc0 := pc) rfl hd h0 hp) r
theorem g_icmp {K : State → Outcome → Prop} (X : Stand p l e R s m args below meth c T locs cells slots) (hx : p.tables.exec = Jvm.exec) {pc : Nat} {L : Array Slot} {S : List Value} {cd : ClassFile.Cond} {o : Int} {x y : Int32} (hd : decode c.code pc = .ok (.if_icmp cd o, 3)) (pc1 pc2 : Nat) (h0 : 0 ≤ (pc : Int) + o) (h1 : ((pc : Int) + o).toNat = pc1) (h2 : pc + 3 = pc2) (yes : if_icmp.holds cd x y = true → Go p e below K (T.setTop (mkF m pc1 L S))) (no : if_icmp.holds cd x y = false → Go p e below K (T.setTop (mkF m pc2 L S))) : Go p e below K (T.setTop (mkF m pc L (.int y :: .int x :: S))) := by
  subst h2
  cases hc : if_icmp.holds cd x y with
  | true => exact Go.st (fun _ => XS.icmpYes X.here hx rfl (pc0 := pc) rfl hd rfl hc h0 h1) (yes hc)
  | false => exact Go.st (fun _ => XS.icmpNo X.here hx rfl hd rfl hc) (no hc)
theorem g_if {K : State → Outcome → Prop} (X : Stand p l e R s m args below meth c T locs cells slots) (hx : p.tables.exec = Jvm.exec) {pc : Nat} {L : Array Slot} {S : List Value} {cd : ClassFile.Cond} {o : Int} {x : Int32} (hd : decode c.code pc = .ok (.ifCond cd o, 3)) (pc1 pc2 : Nat) (h0 : 0 ≤ (pc : Int) + o) (h1 : ((pc : Int) + o).toNat = pc1) (h2 : pc + 3 = pc2) (yes : if_icmp.holds cd x 0 = true → Go p e below K (T.setTop (mkF m pc1 L S))) (no : if_icmp.holds cd x 0 = false → Go p e below K (T.setTop (mkF m pc2 L S))) : Go p e below K (T.setTop (mkF m pc L (.int x :: S))) := by
  subst h2
  cases hc : if_icmp.holds cd x 0 with
  | true => exact Go.st (fun _ => XS.ifYes X.here hx rfl (pc0 := pc) rfl hd rfl ((if0 cd x).trans hc) h0 h1) (yes hc)
  | false => exact Go.st (fun _ => XS.ifNo X.here hx rfl hd rfl ((if0 cd x).trans hc)) (no hc)
theorem g_icmp_ne {K : State → Outcome → Prop} (X : Stand p l e R s m args below meth c T locs cells slots) (hx : p.tables.exec = Jvm.exec) {pc : Nat} {L : Array Slot} {S : List Value} {o : Int} {x y : Int32} (hd : decode c.code pc = .ok (.if_icmp .ne o, 3)) (pc1 pc2 : Nat) (h0 : 0 ≤ (pc : Int) + o) (h1 : ((pc : Int) + o).toNat = pc1) (h2 : pc + 3 = pc2) (yes : ¬ x = y → Go p e below K (T.setTop (mkF m pc1 L S))) (no : x = y → Go p e below K (T.setTop (mkF m pc2 L S))) : Go p e below K (T.setTop (mkF m pc L (.int y :: .int x :: S))) := by
  refine g_icmp X hx hd pc1 pc2 h0 h1 h2 (fun hc => ?_) (fun hc => ?_)
  · by_cases q : x = y
    · rw [(teq q).2] at hc; cases hc
    · exact yes q
  · by_cases q : x = y
    · exact no q
    · rw [(feq q).2] at hc; cases hc
theorem g_if_ne {K : State → Outcome → Prop} (X : Stand p l e R s m args below meth c T locs cells slots) (hx : p.tables.exec = Jvm.exec) {pc : Nat} {L : Array Slot} {S : List Value} {o : Int} {x : Int32} (hd : decode c.code pc = .ok (.ifCond .ne o, 3)) (pc1 pc2 : Nat) (h0 : 0 ≤ (pc : Int) + o) (h1 : ((pc : Int) + o).toNat = pc1) (h2 : pc + 3 = pc2) (yes : ¬ x = (0 : Int32) → Go p e below K (T.setTop (mkF m pc1 L S))) (no : x = (0 : Int32) → Go p e below K (T.setTop (mkF m pc2 L S))) : Go p e below K (T.setTop (mkF m pc L (.int x :: S))) := by
  refine g_if X hx hd pc1 pc2 h0 h1 h2 (fun hc => ?_) (fun hc => ?_)
  · by_cases q : x = (0 : Int32)
    · rw [(teq q).2] at hc; cases hc
    · exact yes q
  · by_cases q : x = (0 : Int32)
    · exact no q
    · rw [(feq q).2] at hc; cases hc
theorem g_icmp_lt {K : State → Outcome → Prop} (X : Stand p l e R s m args below meth c T locs cells slots) (hx : p.tables.exec = Jvm.exec) {pc : Nat} {L : Array Slot} {S : List Value} {o : Int} {x y : Int32} (hd : decode c.code pc = .ok (.if_icmp .lt o, 3)) (pc1 pc2 : Nat) (h0 : 0 ≤ (pc : Int) + o) (h1 : ((pc : Int) + o).toNat = pc1) (h2 : pc + 3 = pc2) (yes : x < y → Go p e below K (T.setTop (mkF m pc1 L S))) (no : ¬ x < y → Go p e below K (T.setTop (mkF m pc2 L S))) : Go p e below K (T.setTop (mkF m pc L (.int y :: .int x :: S))) := by
  refine g_icmp X hx hd pc1 pc2 h0 h1 h2 (fun hc => ?_) (fun hc => ?_)
  · by_cases q : x < y
    · exact yes q
    · rw [(flt q).1] at hc; cases hc
  · by_cases q : x < y
    · rw [(tlt q).1] at hc; cases hc
    · exact no q
end Layer
theorem own_idx (a : Int32) : ¬ ((a &&& (2147483647 : Int32)) % (6 : Int32)) < 0 ∧ ((a &&& (2147483647 : Int32)) % (6 : Int32)) < 6 := by
  have h1 := (c_and a (2147483647 : Int32) (by decide)).1
  have h2 := (c_irem (a &&& (2147483647 : Int32)) (6 : Int32) 6 (by decide)).1 h1
  rw [Int32.lt_iff_toInt_lt, Int32.lt_iff_toInt_lt, h2]
  have h3 : (0 : Int32).toInt = 0 := by decide
  have h4 : (6 : Int32).toInt = 6 := by decide
  omega
theorem own_five (k : Int32) (h0 : ¬ k < 0 ∧ k < 6) (n0 : ¬ k = 0) (n1 : ¬ k = 1) (n2 : ¬ k = 2) (n3 : ¬ k = 3) (n4 : ¬ k = 4) : k = 5 := by
  rw [Int32.lt_iff_toInt_lt, Int32.lt_iff_toInt_lt] at h0
  rw [← Int32.toInt_inj] at n0 n1 n2 n3 n4 ⊢
  have e0 : (0 : Int32).toInt = 0 := by decide
  have e1 : (1 : Int32).toInt = 1 := by decide
  have e2 : (2 : Int32).toInt = 2 := by decide
  have e3 : (3 : Int32).toInt = 3 := by decide
  have e4 : (4 : Int32).toInt = 4 := by decide
  have e5 : (5 : Int32).toInt = 5 := by decide
  have e6 : (6 : Int32).toInt = 6 := by decide
  omega

theorem own_pn_java_lang_Enum : plainName "java/lang/Enum" = true := by first | (simp [plainName, overriddenIn]; done) | decide +kernel
theorem ef_3 (m : MethodId) (x0 : Addr) : entryFrame m #[(.ref x0)] 1 = mkF m 0 #[.val (.ref x0)] [] := by first | (simp [entryFrame, mkF, argsToLocals, Value.category]; done) | rfl
theorem d3_0 : decode jdk_37_method_2_code 0 = .ok (.aload_n 0, 1) := by decide +kernel
theorem d3_1 : decode jdk_37_method_2_code 1 = .ok (.getfield 7, 3) := by decide +kernel
theorem d3_4 : decode jdk_37_method_2_code 4 = .ok (.ireturn, 1) := by decide +kernel
def Q3 (Z : State) (a1 : Addr) (w : Int32) (h0 : Heap) (n0 : Nat) (v : Option Value) (h : Heap) (L : List Loc) : Prop := v = some (.int w) ∧ Fr n0 L ∧ h = h0
set_option maxRecDepth 65536 in
set_option maxHeartbeats 40000000 in
theorem rm3 (l : Launch) (Z : State) (a0 : Array Value) (hw : ∀ d ∈ tables_1, d.before a0 Z = true) (ws : List Jvm.Cond) (a1 : Addr) (w : Int32) (h0 : Heap) (n0 : Nat) (Z0 : n0 ≤ h0.size) (F_ordinal_a1 : Fld Z h0 a1 "java/lang/Enum" "ordinal" "I" (.int w)) :
    MetFree l (⟨"java/lang/Enum", "ordinal", "()I"⟩ : MethodName) (head1 (Jvm.Cond.code (⟨"java/lang/Enum", "ordinal", "()I"⟩ : MethodName) jdk_37_method_2_code 1 (some .int) :: ws) ({ frames := 0, cells := 0, slots := 0, locals := 0 } : Room)) (fun a U => a = #[(.ref a1)] ∧ Z.Warmed39 U.vm ∧ U.heap = h0) (fun _ _ _ _ _ => True) (fun _ U o U' => ∃ v L, o = .returned v ∧ Q3 Z a1 w h0 n0 v U'.heap L ∧ FrameEnd U o U' L ({ frames := 0, cells := 0, slots := 0, locals := 0 } : Room).cells ({ frames := 0, cells := 0, slots := 0, locals := 0 } : Room).slots) := by
  refine MetFree.of_bodySF (plainFor_of_name own_pn_java_lang_Enum) hisR ?_
  intro p e s m args below meth c s₁ Bd hml0 hP hK
  obtain ⟨rfl, hZ, hh⟩ := hP
  have hx := Bd.exec
  have hby := Bd.bytes
  have hlk := Bd.notSynchronized
  have hml : c.maxLocals = 1 := hml0
  have hown : s.vm.findClass "java/lang/Enum" = some m.cls := findClass_of_methodNamed Bd.named
  have hnm := (name_of_methodNamed Bd.named Bd.method).1
  have X0 : Stand p l e ({ frames := 0, cells := 0, slots := 0, locals := 0 } : Room) s m #[(.ref a1)] below meth c s₁ [] 0 0 := Stand.of_body Bd
  have e0 : s₁.heap = h0 := by rw [← hh, Bd.state]; rfl
  have N0 := Fr.nil n0
  show Go p e below (KQ s below (Q3 Z a1 w h0 n0) ({ frames := 0, cells := 0, slots := 0, locals := 0 } : Room).cells ({ frames := 0, cells := 0, slots := 0, locals := 0 } : Room).slots) _
  refine Go.body (T := s₁) (σ := s₁) (g' := (mkF m 0 #[.val (.ref a1)] [])) (ef_3 m a1) ?_
  refine g_aloadN X0 hx (hb hby d3_0) 1 rfl (v := (.ref a1)) rfl rfl ?_
  obtain ⟨T1, X1, e1, st1⟩ := getF X0 hx hZ hown (host := "") (Or.inl (hw _ (List.mem_of_getElem? (i := 22) rfl))) Via.refl e0 F_ordinal_a1 (g := (mkF m 1 #[.val (.ref a1)] [(.ref a1)])) rfl rfl (hb hby d3_1)
  refine Go.st st1 ?_
  show Go p e below _ (T1.setTop (mkF m 4 #[.val (.ref a1)] [(.int w)]))
  refine Go.retI X1 hx hlk Bd.returns (hb hby d3_4) (by decide) (by decide) ?_
  show Q3 Z a1 w h0 n0 _ T1.heap _
  rw [e1]
  exact ⟨rfl, N0, rfl⟩
theorem own_pn_com_example_scrivenmoor_scrivenmoor_Level : plainName "com/example/scrivenmoor/scrivenmoor/Level" = true := by first | (simp [plainName, overriddenIn]; done) | decide +kernel
theorem ef_2 (m : MethodId) (x0 : Addr) (x1 : Addr) : entryFrame m #[(.ref x0), (.ref x1)] 2 = mkF m 0 #[.val (.ref x0), .val (.ref x1)] [] := by first | (simp [entryFrame, mkF, argsToLocals, Value.category]; done) | rfl
theorem d2_0 : decode prog_41_method_4_code 0 = .ok (.aload_n 0, 1) := by decide +kernel
theorem own_pd0 : parseMethodDescriptor "()I" = some ⟨[], some .int⟩ := by decide +kernel
theorem d2_1 : decode prog_41_method_4_code 1 = .ok (.invokevirtual 41, 3) := by decide +kernel
theorem d2_4 : decode prog_41_method_4_code 4 = .ok (.aload_n 1, 1) := by decide +kernel
theorem d2_5 : decode prog_41_method_4_code 5 = .ok (.invokevirtual 41, 3) := by decide +kernel
theorem d2_8 : decode prog_41_method_4_code 8 = .ok (.if_icmp .lt 7, 3) := by decide +kernel
theorem d2_15 : decode prog_41_method_4_code 15 = .ok (.iconst 0, 1) := by decide +kernel
theorem d2_16 : decode prog_41_method_4_code 16 = .ok (.ireturn, 1) := by decide +kernel
theorem d2_11 : decode prog_41_method_4_code 11 = .ok (.iconst 1, 1) := by decide +kernel
theorem d2_12 : decode prog_41_method_4_code 12 = .ok (.goto 4, 3) := by decide +kernel
def Q2 (Z : State) (a1 : Addr) (a2 : Addr) (x : Int32) (y : Int32) (h0 : Heap) (n0 : Nat) (v : Option Value) (h : Heap) (L : List Loc) : Prop := v = some (.int (if x < y then 0 else 1)) ∧ Fr n0 L ∧ h = h0
set_option maxRecDepth 65536 in
set_option maxHeartbeats 40000000 in
theorem rm2 (l : Launch) (Z : State) (a0 : Array Value) (hw : ∀ d ∈ tables_1, d.before a0 Z = true) (ws : List Jvm.Cond) (a1 : Addr) (a2 : Addr) (x : Int32) (y : Int32) (h0 : Heap) (n0 : Nat) (Z0 : n0 ≤ h0.size) (E_a1 : Exa Z h0 a1 "com/example/scrivenmoor/scrivenmoor/Level") (E_a2 : Exa Z h0 a2 "com/example/scrivenmoor/scrivenmoor/Level") (F_ordinal_a1 : Fld Z h0 a1 "java/lang/Enum" "ordinal" "I" (.int x)) (F_ordinal_a2 : Fld Z h0 a2 "java/lang/Enum" "ordinal" "I" (.int y)) :
    MetFree l (⟨"com/example/scrivenmoor/scrivenmoor/Level", "isAtLeast", "(Lcom/example/scrivenmoor/scrivenmoor/Level;)Z"⟩ : MethodName) (head1 (Jvm.Cond.code (⟨"com/example/scrivenmoor/scrivenmoor/Level", "isAtLeast", "(Lcom/example/scrivenmoor/scrivenmoor/Level;)Z"⟩ : MethodName) prog_41_method_4_code 2 (some .boolean) :: ws) ({ frames := 1, cells := 0, slots := 0, locals := 13 } : Room)) (fun a U => a = #[(.ref a1), (.ref a2)] ∧ Z.Warmed39 U.vm ∧ U.heap = h0) (fun _ _ _ _ _ => True) (fun _ U o U' => ∃ v L, o = .returned v ∧ Q2 Z a1 a2 x y h0 n0 v U'.heap L ∧ FrameEnd U o U' L ({ frames := 1, cells := 0, slots := 0, locals := 13 } : Room).cells ({ frames := 1, cells := 0, slots := 0, locals := 13 } : Room).slots) := by
  refine MetFree.of_bodySF (plainFor_of_name own_pn_com_example_scrivenmoor_scrivenmoor_Level) hisR ?_
  intro p e s m args below meth c s₁ Bd hml0 hP hK
  obtain ⟨rfl, hZ, hh⟩ := hP
  have hx := Bd.exec
  have hby := Bd.bytes
  have hlk := Bd.notSynchronized
  have hml : c.maxLocals = 2 := hml0
  have hown : s.vm.findClass "com/example/scrivenmoor/scrivenmoor/Level" = some m.cls := findClass_of_methodNamed Bd.named
  have hnm := (name_of_methodNamed Bd.named Bd.method).1
  have X0 : Stand p l e ({ frames := 1, cells := 0, slots := 0, locals := 13 } : Room) s m #[(.ref a1), (.ref a2)] below meth c s₁ [] 0 0 := Stand.of_body Bd
  have e0 : s₁.heap = h0 := by rw [← hh, Bd.state]; rfl
  have N0 := Fr.nil n0
  show Go p e below (KQ s below (Q2 Z a1 a2 x y h0 n0) ({ frames := 1, cells := 0, slots := 0, locals := 13 } : Room).cells ({ frames := 1, cells := 0, slots := 0, locals := 13 } : Room).slots) _
  refine Go.body (T := s₁) (σ := s₁) (g' := (mkF m 0 #[.val (.ref a1), .val (.ref a2)] [])) (ef_2 m a1 a2) ?_
  refine g_aloadN X0 hx (hb hby d2_0) 1 rfl (v := (.ref a1)) rfl rfl ?_
  obtain ⟨cq2, kq2, q2a, q2b, q2c⟩ := isOf hZ e0 E_a1
  obtain ⟨_, _, ⟨T2, L2, k2, n2⟩, -, X2, ⟨Lc2, hQ2, l2, y2, z2⟩, st2⟩ := X0.virtualBackUp hx (x := (⟨"com/example/scrivenmoor/scrivenmoor/Level", "ordinal", "()I"⟩ : MethodName)) (y := (⟨"java/lang/Enum", "ordinal", "()I"⟩ : MethodName)) (owner := "java/lang/Enum") hown (mvT hZ (hw _ (List.mem_of_getElem? (i := 15) rfl))) (mvT hZ (hw _ (List.mem_of_getElem? (i := 16) rfl))) (mvT hZ (hw _ (List.mem_of_getElem? (i := 17) rfl))) (by decide) (mvT hZ (hw _ (List.mem_of_getElem? (i := 19) rfl))) (mvT hZ (hw _ (List.mem_of_getElem? (i := 18) rfl))) (backOf (W := 0) (rm3 l Z a0 hw [] a1 x h0 n0 Z0 F_ordinal_a1) hZ (hw _ (List.mem_of_getElem? (i := 21) rfl)) (hw _ (List.mem_of_getElem? (i := 20) rfl)) (by decide) (by decide)) q2a q2c (g := (mkF m 1 #[.val (.ref a1), .val (.ref a2)] [(.ref a1)])) rfl (by rw [hml]; rfl) (Steps.refl _) (argsL := []) (rest := []) (lenOf own_pd0 rfl) rfl (by show 2 * 0 + _ ≤ _; exact Nat.le_of_eq rfl) (hb hby d2_1) (fun _ _ => ⟨rfl, e0, (by decide : 0 + 0 ≤ _), (by decide : 0 + 0 ≤ _)⟩)
  dsimp only [Pt.U, Pt.locs, Pt.cells, Pt.slots] at X2 l2 y2 z2 st2 hQ2
  subst l2 y2 z2
  obtain ⟨rfl, Nq2, e2⟩ := hQ2
  refine Go.tr st2 ?_
  have N2 := Fr.app N0 Nq2
  show Go p e below _ (T2.setTop (mkF m 4 #[.val (.ref a1), .val (.ref a2)] [(.int x)]))
  refine g_aloadN X2 hx (hb hby d2_4) 5 rfl (v := (.ref a2)) rfl rfl ?_
  obtain ⟨cq3, kq3, q3a, q3b, q3c⟩ := isOf hZ e2 E_a2
  obtain ⟨_, _, ⟨T3, L3, k3, n3⟩, -, X3, ⟨Lc3, hQ3, l3, y3, z3⟩, st3⟩ := X2.virtualBackUp hx (x := (⟨"com/example/scrivenmoor/scrivenmoor/Level", "ordinal", "()I"⟩ : MethodName)) (y := (⟨"java/lang/Enum", "ordinal", "()I"⟩ : MethodName)) (owner := "java/lang/Enum") hown (mvT hZ (hw _ (List.mem_of_getElem? (i := 15) rfl))) (mvT hZ (hw _ (List.mem_of_getElem? (i := 16) rfl))) (mvT hZ (hw _ (List.mem_of_getElem? (i := 17) rfl))) (by decide) (mvT hZ (hw _ (List.mem_of_getElem? (i := 19) rfl))) (mvT hZ (hw _ (List.mem_of_getElem? (i := 18) rfl))) (backOf (W := 1) (rm3 l Z a0 hw [] a2 y h0 n0 Z0 F_ordinal_a2) hZ (hw _ (List.mem_of_getElem? (i := 21) rfl)) (hw _ (List.mem_of_getElem? (i := 20) rfl)) (by decide) (by decide)) q3a q3c (g := (mkF m 5 #[.val (.ref a1), .val (.ref a2)] [(.ref a2), (.int x)])) rfl (by rw [hml]; rfl) (Steps.refl _) (argsL := []) (rest := [(.int x)]) (lenOf own_pd0 rfl) rfl (by show 2 * 0 + _ ≤ _; exact Nat.le_of_eq rfl) (hb hby d2_5) (fun _ _ => ⟨rfl, e2, (by decide : 0 + 0 ≤ _), (by decide : 0 + 0 ≤ _)⟩)
  dsimp only [Pt.U, Pt.locs, Pt.cells, Pt.slots] at X3 l3 y3 z3 st3 hQ3
  subst l3 y3 z3
  obtain ⟨rfl, Nq3, e3⟩ := hQ3
  refine Go.tr st3 ?_
  have N3 := Fr.app N2 Nq3
  show Go p e below _ (T3.setTop (mkF m 8 #[.val (.ref a1), .val (.ref a2)] [(.int y), (.int x)]))
  refine g_icmp_lt X3 hx (hb hby d2_8) 15 11 (by decide) (by decide) rfl (fun hc8 => ?_) (fun hc8 => ?_)
  · refine g_iconst X3 hx (hb hby d2_15) 16 rfl (0 : Int32) rfl ?_
    refine Go.retN X3 hx hlk (t := .boolean) Bd.returns (by simp) (hb hby d2_16) (by decide) (by decide) ?_
    show Q2 Z a1 a2 x y h0 n0 _ T3.heap _
    rw [e3]
    exact ⟨(by simp [hc8, nar]), N3, rfl⟩
  · refine g_iconst X3 hx (hb hby d2_11) 12 rfl (1 : Int32) rfl ?_
    refine g_goto X3 hx (hb hby d2_12) 16 (by decide) (by decide) ?_
    refine Go.retN X3 hx hlk (t := .boolean) Bd.returns (by simp) (hb hby d2_16) (by decide) (by decide) ?_
    show Q2 Z a1 a2 x y h0 n0 _ T3.heap _
    rw [e3]
    exact ⟨(by simp [hc8, nar]), N3, rfl⟩
theorem own_pn_com_example_scrivenmoor_scrivenmoor_LevelIsAtLeastPinLaw : plainName "com/example/scrivenmoor/scrivenmoor/LevelIsAtLeastPinLaw" = true := by first | (simp [plainName, overriddenIn]; done) | decide +kernel
theorem ef_1 (m : MethodId) (x0 : Int32) : entryFrame m #[(.int x0)] 1 = mkF m 0 #[.val (.int x0)] [] := by first | (simp [entryFrame, mkF, argsToLocals, Value.category]; done) | rfl
theorem d1_0 : decode method_2_code 0 = .ok (.iload_n 0, 1) := by decide +kernel
theorem d1_1 : decode method_2_code 1 = .ok (.ifCond .ne 7, 3) := by decide +kernel
theorem d1_8 : decode method_2_code 8 = .ok (.iload_n 0, 1) := by decide +kernel
theorem d1_9 : decode method_2_code 9 = .ok (.iconst 1, 1) := by decide +kernel
theorem d1_10 : decode method_2_code 10 = .ok (.if_icmp .ne 7, 3) := by decide +kernel
theorem d1_17 : decode method_2_code 17 = .ok (.iload_n 0, 1) := by decide +kernel
theorem d1_18 : decode method_2_code 18 = .ok (.iconst 2, 1) := by decide +kernel
theorem d1_19 : decode method_2_code 19 = .ok (.if_icmp .ne 7, 3) := by decide +kernel
theorem d1_26 : decode method_2_code 26 = .ok (.iload_n 0, 1) := by decide +kernel
theorem d1_27 : decode method_2_code 27 = .ok (.iconst 3, 1) := by decide +kernel
theorem d1_28 : decode method_2_code 28 = .ok (.if_icmp .ne 7, 3) := by decide +kernel
theorem d1_35 : decode method_2_code 35 = .ok (.iload_n 0, 1) := by decide +kernel
theorem d1_36 : decode method_2_code 36 = .ok (.iconst 4, 1) := by decide +kernel
theorem d1_37 : decode method_2_code 37 = .ok (.if_icmp .ne 7, 3) := by decide +kernel
theorem d1_44 : decode method_2_code 44 = .ok (.getstatic 25, 3) := by decide +kernel
theorem d1_47 : decode method_2_code 47 = .ok (.areturn, 1) := by decide +kernel
theorem d1_40 : decode method_2_code 40 = .ok (.getstatic 22, 3) := by decide +kernel
theorem d1_43 : decode method_2_code 43 = .ok (.areturn, 1) := by decide +kernel
theorem d1_31 : decode method_2_code 31 = .ok (.getstatic 19, 3) := by decide +kernel
theorem d1_34 : decode method_2_code 34 = .ok (.areturn, 1) := by decide +kernel
theorem d1_22 : decode method_2_code 22 = .ok (.getstatic 16, 3) := by decide +kernel
theorem d1_25 : decode method_2_code 25 = .ok (.areturn, 1) := by decide +kernel
theorem d1_13 : decode method_2_code 13 = .ok (.getstatic 13, 3) := by decide +kernel
theorem d1_16 : decode method_2_code 16 = .ok (.areturn, 1) := by decide +kernel
theorem d1_4 : decode method_2_code 4 = .ok (.getstatic 7, 3) := by decide +kernel
theorem d1_7 : decode method_2_code 7 = .ok (.areturn, 1) := by decide +kernel
def Q1 (Z : State) (p1 : Int32) (t_TRACE : Addr) (t_WARN : Addr) (t_INFO : Addr) (t_DEBUG : Addr) (t_OFF : Addr) (t_ERROR : Addr) (h0 : Heap) (n0 : Nat) (v : Option Value) (h : Heap) (L : List Loc) : Prop := ∃ r : Addr, v = some (.ref r) ∧ Fr n0 L ∧ h = h0 ∧ (Exa Z h0 r "com/example/scrivenmoor/scrivenmoor/Level") ∧ (Fld Z h0 r "java/lang/Enum" "ordinal" "I" (.int p1))
set_option maxRecDepth 65536 in
set_option maxHeartbeats 40000000 in
theorem rm1 (l : Launch) (Z : State) (a0 : Array Value) (hw : ∀ d ∈ tables_1, d.before a0 Z = true) (ws : List Jvm.Cond) (p1 : Int32) (t_TRACE : Addr) (t_WARN : Addr) (t_INFO : Addr) (t_DEBUG : Addr) (t_OFF : Addr) (t_ERROR : Addr) (h0 : Heap) (n0 : Nat) (Z0 : n0 ≤ h0.size) (S_TRACE : Sta Z h0 "com/example/scrivenmoor/scrivenmoor/Level" "TRACE" "Lcom/example/scrivenmoor/scrivenmoor/Level;" (.ref t_TRACE)) (E_t_TRACE : Exa Z h0 t_TRACE "com/example/scrivenmoor/scrivenmoor/Level") (S_WARN : Sta Z h0 "com/example/scrivenmoor/scrivenmoor/Level" "WARN" "Lcom/example/scrivenmoor/scrivenmoor/Level;" (.ref t_WARN)) (E_t_WARN : Exa Z h0 t_WARN "com/example/scrivenmoor/scrivenmoor/Level") (S_INFO : Sta Z h0 "com/example/scrivenmoor/scrivenmoor/Level" "INFO" "Lcom/example/scrivenmoor/scrivenmoor/Level;" (.ref t_INFO)) (E_t_INFO : Exa Z h0 t_INFO "com/example/scrivenmoor/scrivenmoor/Level") (S_DEBUG : Sta Z h0 "com/example/scrivenmoor/scrivenmoor/Level" "DEBUG" "Lcom/example/scrivenmoor/scrivenmoor/Level;" (.ref t_DEBUG)) (E_t_DEBUG : Exa Z h0 t_DEBUG "com/example/scrivenmoor/scrivenmoor/Level") (S_OFF : Sta Z h0 "com/example/scrivenmoor/scrivenmoor/Level" "OFF" "Lcom/example/scrivenmoor/scrivenmoor/Level;" (.ref t_OFF)) (E_t_OFF : Exa Z h0 t_OFF "com/example/scrivenmoor/scrivenmoor/Level") (S_ERROR : Sta Z h0 "com/example/scrivenmoor/scrivenmoor/Level" "ERROR" "Lcom/example/scrivenmoor/scrivenmoor/Level;" (.ref t_ERROR)) (E_t_ERROR : Exa Z h0 t_ERROR "com/example/scrivenmoor/scrivenmoor/Level") (F_ordinal_t_TRACE : Fld Z h0 t_TRACE "java/lang/Enum" "ordinal" "I" (.int (0 : Int32))) (F_ordinal_t_WARN : Fld Z h0 t_WARN "java/lang/Enum" "ordinal" "I" (.int (3 : Int32))) (F_ordinal_t_INFO : Fld Z h0 t_INFO "java/lang/Enum" "ordinal" "I" (.int (2 : Int32))) (F_ordinal_t_DEBUG : Fld Z h0 t_DEBUG "java/lang/Enum" "ordinal" "I" (.int (1 : Int32))) (F_ordinal_t_OFF : Fld Z h0 t_OFF "java/lang/Enum" "ordinal" "I" (.int (5 : Int32))) (F_ordinal_t_ERROR : Fld Z h0 t_ERROR "java/lang/Enum" "ordinal" "I" (.int (4 : Int32))) (hk : ¬ p1 < 0 ∧ p1 < 6) :
    MetFree l (⟨"com/example/scrivenmoor/scrivenmoor/LevelIsAtLeastPinLaw", "level", "(I)Lcom/example/scrivenmoor/scrivenmoor/Level;"⟩ : MethodName) (head1 (Jvm.Cond.code (⟨"com/example/scrivenmoor/scrivenmoor/LevelIsAtLeastPinLaw", "level", "(I)Lcom/example/scrivenmoor/scrivenmoor/Level;"⟩ : MethodName) method_2_code 1 (some (.object "com/example/scrivenmoor/scrivenmoor/Level")) :: ws) ({ frames := 0, cells := 0, slots := 0, locals := 0 } : Room)) (fun a U => a = #[(.int p1)] ∧ Z.Warmed39 U.vm ∧ U.heap = h0) (fun _ _ _ _ _ => True) (fun _ U o U' => ∃ v L, o = .returned v ∧ Q1 Z p1 t_TRACE t_WARN t_INFO t_DEBUG t_OFF t_ERROR h0 n0 v U'.heap L ∧ FrameEnd U o U' L ({ frames := 0, cells := 0, slots := 0, locals := 0 } : Room).cells ({ frames := 0, cells := 0, slots := 0, locals := 0 } : Room).slots) := by
  refine MetFree.of_bodySF (plainFor_of_name own_pn_com_example_scrivenmoor_scrivenmoor_LevelIsAtLeastPinLaw) hisR ?_
  intro p e s m args below meth c s₁ Bd hml0 hP hK
  obtain ⟨rfl, hZ, hh⟩ := hP
  have hx := Bd.exec
  have hby := Bd.bytes
  have hlk := Bd.notSynchronized
  have hml : c.maxLocals = 1 := hml0
  have hown : s.vm.findClass "com/example/scrivenmoor/scrivenmoor/LevelIsAtLeastPinLaw" = some m.cls := findClass_of_methodNamed Bd.named
  have hnm := (name_of_methodNamed Bd.named Bd.method).1
  have X0 : Stand p l e ({ frames := 0, cells := 0, slots := 0, locals := 0 } : Room) s m #[(.int p1)] below meth c s₁ [] 0 0 := Stand.of_body Bd
  have e0 : s₁.heap = h0 := by rw [← hh, Bd.state]; rfl
  have N0 := Fr.nil n0
  show Go p e below (KQ s below (Q1 Z p1 t_TRACE t_WARN t_INFO t_DEBUG t_OFF t_ERROR h0 n0) ({ frames := 0, cells := 0, slots := 0, locals := 0 } : Room).cells ({ frames := 0, cells := 0, slots := 0, locals := 0 } : Room).slots) _
  refine Go.body (T := s₁) (σ := s₁) (g' := (mkF m 0 #[.val (.int p1)] [])) (ef_1 m p1) ?_
  refine g_iloadN X0 hx (hb hby d1_0) 1 rfl (v := p1) rfl ?_
  refine g_if_ne X0 hx (hb hby d1_1) 8 4 (by decide) (by decide) rfl (fun hc1 => ?_) (fun hc1 => ?_)
  · refine g_iloadN X0 hx (hb hby d1_8) 9 rfl (v := p1) rfl ?_
    refine g_iconst X0 hx (hb hby d1_9) 10 rfl (1 : Int32) rfl ?_
    refine g_icmp_ne X0 hx (hb hby d1_10) 17 13 (by decide) (by decide) rfl (fun hc10 => ?_) (fun hc10 => ?_)
    · refine g_iloadN X0 hx (hb hby d1_17) 18 rfl (v := p1) rfl ?_
      refine g_iconst X0 hx (hb hby d1_18) 19 rfl (2 : Int32) rfl ?_
      refine g_icmp_ne X0 hx (hb hby d1_19) 26 22 (by decide) (by decide) rfl (fun hc19 => ?_) (fun hc19 => ?_)
      · refine g_iloadN X0 hx (hb hby d1_26) 27 rfl (v := p1) rfl ?_
        refine g_iconst X0 hx (hb hby d1_27) 28 rfl (3 : Int32) rfl ?_
        refine g_icmp_ne X0 hx (hb hby d1_28) 35 31 (by decide) (by decide) rfl (fun hc28 => ?_) (fun hc28 => ?_)
        · refine g_iloadN X0 hx (hb hby d1_35) 36 rfl (v := p1) rfl ?_
          refine g_iconst X0 hx (hb hby d1_36) 37 rfl (4 : Int32) rfl ?_
          refine g_icmp_ne X0 hx (hb hby d1_37) 44 40 (by decide) (by decide) rfl (fun hc37 => ?_) (fun hc37 => ?_)
          · obtain ⟨T4, X4, e4, st4⟩ := getS2 X0 hx hZ hown (host := "") (Or.inl (hw _ (List.mem_of_getElem? (i := 28) rfl))) Via.refl e0 S_OFF (g := (mkF m 44 #[.val (.int p1)] [])) rfl (hb hby d1_44)
            refine Go.st st4 ?_
            show Go p e below _ (T4.setTop (mkF m 47 #[.val (.int p1)] [(.ref t_OFF)]))
            refine Go.retA X4 hx hlk Bd.returns rfl rfl (hb hby d1_47) (by decide) (by decide) ?_
            show Q1 Z p1 t_TRACE t_WARN t_INFO t_DEBUG t_OFF t_ERROR h0 n0 _ T4.heap _
            rw [e4]
            exact ⟨t_OFF, rfl, N0, rfl, E_t_OFF, by rw [(own_five p1 hk hc1 hc10 hc19 hc28 hc37)]; exact F_ordinal_t_OFF⟩
          · obtain ⟨T5, X5, e5, st5⟩ := getS2 X0 hx hZ hown (host := "") (Or.inl (hw _ (List.mem_of_getElem? (i := 30) rfl))) Via.refl e0 S_ERROR (g := (mkF m 40 #[.val (.int p1)] [])) rfl (hb hby d1_40)
            refine Go.st st5 ?_
            show Go p e below _ (T5.setTop (mkF m 43 #[.val (.int p1)] [(.ref t_ERROR)]))
            refine Go.retA X5 hx hlk Bd.returns rfl rfl (hb hby d1_43) (by decide) (by decide) ?_
            show Q1 Z p1 t_TRACE t_WARN t_INFO t_DEBUG t_OFF t_ERROR h0 n0 _ T5.heap _
            rw [e5]
            exact ⟨t_ERROR, rfl, N0, rfl, E_t_ERROR, by rw [hc37]; exact F_ordinal_t_ERROR⟩
        · obtain ⟨T6, X6, e6, st6⟩ := getS2 X0 hx hZ hown (host := "") (Or.inl (hw _ (List.mem_of_getElem? (i := 8) rfl))) Via.refl e0 S_WARN (g := (mkF m 31 #[.val (.int p1)] [])) rfl (hb hby d1_31)
          refine Go.st st6 ?_
          show Go p e below _ (T6.setTop (mkF m 34 #[.val (.int p1)] [(.ref t_WARN)]))
          refine Go.retA X6 hx hlk Bd.returns rfl rfl (hb hby d1_34) (by decide) (by decide) ?_
          show Q1 Z p1 t_TRACE t_WARN t_INFO t_DEBUG t_OFF t_ERROR h0 n0 _ T6.heap _
          rw [e6]
          exact ⟨t_WARN, rfl, N0, rfl, E_t_WARN, by rw [hc28]; exact F_ordinal_t_WARN⟩
      · obtain ⟨T7, X7, e7, st7⟩ := getS2 X0 hx hZ hown (host := "") (Or.inl (hw _ (List.mem_of_getElem? (i := 24) rfl))) Via.refl e0 S_INFO (g := (mkF m 22 #[.val (.int p1)] [])) rfl (hb hby d1_22)
        refine Go.st st7 ?_
        show Go p e below _ (T7.setTop (mkF m 25 #[.val (.int p1)] [(.ref t_INFO)]))
        refine Go.retA X7 hx hlk Bd.returns rfl rfl (hb hby d1_25) (by decide) (by decide) ?_
        show Q1 Z p1 t_TRACE t_WARN t_INFO t_DEBUG t_OFF t_ERROR h0 n0 _ T7.heap _
        rw [e7]
        exact ⟨t_INFO, rfl, N0, rfl, E_t_INFO, by rw [hc19]; exact F_ordinal_t_INFO⟩
    · obtain ⟨T8, X8, e8, st8⟩ := getS2 X0 hx hZ hown (host := "") (Or.inl (hw _ (List.mem_of_getElem? (i := 26) rfl))) Via.refl e0 S_DEBUG (g := (mkF m 13 #[.val (.int p1)] [])) rfl (hb hby d1_13)
      refine Go.st st8 ?_
      show Go p e below _ (T8.setTop (mkF m 16 #[.val (.int p1)] [(.ref t_DEBUG)]))
      refine Go.retA X8 hx hlk Bd.returns rfl rfl (hb hby d1_16) (by decide) (by decide) ?_
      show Q1 Z p1 t_TRACE t_WARN t_INFO t_DEBUG t_OFF t_ERROR h0 n0 _ T8.heap _
      rw [e8]
      exact ⟨t_DEBUG, rfl, N0, rfl, E_t_DEBUG, by rw [hc10]; exact F_ordinal_t_DEBUG⟩
  · obtain ⟨T9, X9, e9, st9⟩ := getS2 X0 hx hZ hown (host := "") (Or.inl (hw _ (List.mem_of_getElem? (i := 5) rfl))) Via.refl e0 S_TRACE (g := (mkF m 4 #[.val (.int p1)] [])) rfl (hb hby d1_4)
    refine Go.st st9 ?_
    show Go p e below _ (T9.setTop (mkF m 7 #[.val (.int p1)] [(.ref t_TRACE)]))
    refine Go.retA X9 hx hlk Bd.returns rfl rfl (hb hby d1_7) (by decide) (by decide) ?_
    show Q1 Z p1 t_TRACE t_WARN t_INFO t_DEBUG t_OFF t_ERROR h0 n0 _ T9.heap _
    rw [e9]
    exact ⟨t_TRACE, rfl, N0, rfl, E_t_TRACE, by rw [hc1]; exact F_ordinal_t_TRACE⟩
theorem ef_0 (m : MethodId) (x0 : Int32) (x1 : Int32) : entryFrame m #[(.int x0), (.int x1)] maxLocals = mkF m 0 #[.val (.int x0), .val (.int x1), .unset, .unset, .unset, .unset] [] := by first | (simp [entryFrame, mkF, argsToLocals, Value.category, maxLocals]; done) | rfl
theorem own_pd1 : parseMethodDescriptor "(I)Lcom/example/scrivenmoor/scrivenmoor/Level;" = some ⟨[.int], some (.object "com/example/scrivenmoor/scrivenmoor/Level")⟩ := by decide +kernel
theorem own_pd2 : parseMethodDescriptor "(Lcom/example/scrivenmoor/scrivenmoor/Level;)Z" = some ⟨[(.object "com/example/scrivenmoor/scrivenmoor/Level")], some .boolean⟩ := by decide +kernel
def Q0 (Z : State) (p1 : Int32) (p2 : Int32) (t_TRACE : Addr) (t_WARN : Addr) (t_INFO : Addr) (t_DEBUG : Addr) (t_OFF : Addr) (t_ERROR : Addr) (h0 : Heap) (n0 : Nat) (v : Option Value) (h : Heap) (L : List Loc) : Prop := v = some (.int (1 : Int32)) ∧ Fr n0 L
set_option maxRecDepth 65536 in
set_option maxHeartbeats 40000000 in
theorem rm0 (l : Launch) (Z : State) (a0 : Array Value) (hw : ∀ d ∈ tables_1, d.before a0 Z = true) (ws : List Jvm.Cond) (p1 : Int32) (p2 : Int32) (t_TRACE : Addr) (t_WARN : Addr) (t_INFO : Addr) (t_DEBUG : Addr) (t_OFF : Addr) (t_ERROR : Addr) (h0 : Heap) (n0 : Nat) (Z0 : n0 ≤ h0.size) (S_TRACE : Sta Z h0 "com/example/scrivenmoor/scrivenmoor/Level" "TRACE" "Lcom/example/scrivenmoor/scrivenmoor/Level;" (.ref t_TRACE)) (E_t_TRACE : Exa Z h0 t_TRACE "com/example/scrivenmoor/scrivenmoor/Level") (S_WARN : Sta Z h0 "com/example/scrivenmoor/scrivenmoor/Level" "WARN" "Lcom/example/scrivenmoor/scrivenmoor/Level;" (.ref t_WARN)) (E_t_WARN : Exa Z h0 t_WARN "com/example/scrivenmoor/scrivenmoor/Level") (S_INFO : Sta Z h0 "com/example/scrivenmoor/scrivenmoor/Level" "INFO" "Lcom/example/scrivenmoor/scrivenmoor/Level;" (.ref t_INFO)) (E_t_INFO : Exa Z h0 t_INFO "com/example/scrivenmoor/scrivenmoor/Level") (S_DEBUG : Sta Z h0 "com/example/scrivenmoor/scrivenmoor/Level" "DEBUG" "Lcom/example/scrivenmoor/scrivenmoor/Level;" (.ref t_DEBUG)) (E_t_DEBUG : Exa Z h0 t_DEBUG "com/example/scrivenmoor/scrivenmoor/Level") (S_OFF : Sta Z h0 "com/example/scrivenmoor/scrivenmoor/Level" "OFF" "Lcom/example/scrivenmoor/scrivenmoor/Level;" (.ref t_OFF)) (E_t_OFF : Exa Z h0 t_OFF "com/example/scrivenmoor/scrivenmoor/Level") (S_ERROR : Sta Z h0 "com/example/scrivenmoor/scrivenmoor/Level" "ERROR" "Lcom/example/scrivenmoor/scrivenmoor/Level;" (.ref t_ERROR)) (E_t_ERROR : Exa Z h0 t_ERROR "com/example/scrivenmoor/scrivenmoor/Level") (F_ordinal_t_TRACE : Fld Z h0 t_TRACE "java/lang/Enum" "ordinal" "I" (.int (0 : Int32))) (F_ordinal_t_WARN : Fld Z h0 t_WARN "java/lang/Enum" "ordinal" "I" (.int (3 : Int32))) (F_ordinal_t_INFO : Fld Z h0 t_INFO "java/lang/Enum" "ordinal" "I" (.int (2 : Int32))) (F_ordinal_t_DEBUG : Fld Z h0 t_DEBUG "java/lang/Enum" "ordinal" "I" (.int (1 : Int32))) (F_ordinal_t_OFF : Fld Z h0 t_OFF "java/lang/Enum" "ordinal" "I" (.int (5 : Int32))) (F_ordinal_t_ERROR : Fld Z h0 t_ERROR "java/lang/Enum" "ordinal" "I" (.int (4 : Int32))) (hn0 : h0.size = n0) :
    MetFree l x (head1 (Jvm.Cond.code x code maxLocals ret :: ws) room_1) (fun a U => a = #[(.int p1), (.int p2)] ∧ Z.Warmed39 U.vm ∧ U.heap = h0) (fun _ _ _ _ _ => True) (fun _ U o U' => ∃ v L, o = .returned v ∧ Q0 Z p1 p2 t_TRACE t_WARN t_INFO t_DEBUG t_OFF t_ERROR h0 n0 v U'.heap L ∧ FrameEnd U o U' L 0 0) := by
  refine MetFree.of_bodySF (plainFor_of_name own_pn_com_example_scrivenmoor_scrivenmoor_LevelIsAtLeastPinLaw) hisR ?_
  intro p e s m args below meth c s₁ Bd hml0 hP hK
  obtain ⟨rfl, hZ, hh⟩ := hP
  have hx := Bd.exec
  have hby := Bd.bytes
  have hlk := Bd.notSynchronized
  have hml : c.maxLocals = 6 := hml0
  have hown : s.vm.findClass "com/example/scrivenmoor/scrivenmoor/LevelIsAtLeastPinLaw" = some m.cls := findClass_of_methodNamed Bd.named
  have hnm := (name_of_methodNamed Bd.named Bd.method).1
  have X0 : Stand p l e room_1 s m #[(.int p1), (.int p2)] below meth c s₁ [] 0 0 := Stand.of_body Bd
  have e0 : s₁.heap = h0 := by rw [← hh, Bd.state]; rfl
  have N0 := Fr.nil n0
  have K0 : Keep h0 h0 [] := Keep.refl _ _
  show Go p e below (KQ s below (Q0 Z p1 p2 t_TRACE t_WARN t_INFO t_DEBUG t_OFF t_ERROR h0 n0) 0 0) _
  refine Go.body (T := s₁) (σ := s₁) (g' := (mkF m 0 #[.val (.int p1), .val (.int p2), .unset, .unset, .unset, .unset] [])) (ef_0 m p1 p2) ?_
  refine g_iloadN X0 hx (hb hby at_0) 1 rfl (v := p1) rfl ?_
  refine Go.st (X0.ldcInt hx hown (mvT hZ (hw _ (List.mem_of_getElem? (i := 0) rfl))) (g := (mkF m 1 #[.val (.int p1), .val (.int p2), .unset, .unset, .unset, .unset] [(.int p1)])) rfl (hb hby at_1)) ?_
  show Go p e below _ (s₁.setTop (mkF m 3 #[.val (.int p1), .val (.int p2), .unset, .unset, .unset, .unset] [(.int (2147483647 : Int32)), (.int p1)]))
  refine g_iand X0 hx (hb hby at_3) 4 rfl (p1 &&& (2147483647 : Int32)) rfl ?_
  refine g_bipush X0 hx (hb hby at_4) 6 rfl (6 : Int32) rfl ?_
  obtain ⟨i, e_i⟩ : ∃ z, ((p1 &&& (2147483647 : Int32)) % (6 : Int32)) = z := ⟨_, rfl⟩
  refine g_irem X0 hx (hb hby at_6) 7 rfl (by decide) i e_i ?_
  refine g_istoreN X0 hx (hb hby at_7) 8 rfl #[.val (.int p1), .val (.int p2), .val (.int i), .unset, .unset, .unset] rfl ?_
  refine g_iloadN X0 hx (hb hby at_8) 9 rfl (v := p2) rfl ?_
  refine Go.st (X0.ldcInt hx hown (mvT hZ (hw _ (List.mem_of_getElem? (i := 0) rfl))) (g := (mkF m 9 #[.val (.int p1), .val (.int p2), .val (.int i), .unset, .unset, .unset] [(.int p2)])) rfl (hb hby at_9)) ?_
  show Go p e below _ (s₁.setTop (mkF m 11 #[.val (.int p1), .val (.int p2), .val (.int i), .unset, .unset, .unset] [(.int (2147483647 : Int32)), (.int p2)]))
  refine g_iand X0 hx (hb hby at_11) 12 rfl (p2 &&& (2147483647 : Int32)) rfl ?_
  refine g_bipush X0 hx (hb hby at_12) 14 rfl (6 : Int32) rfl ?_
  obtain ⟨j, e_j⟩ : ∃ z, ((p2 &&& (2147483647 : Int32)) % (6 : Int32)) = z := ⟨_, rfl⟩
  refine g_irem X0 hx (hb hby at_14) 15 rfl (by decide) j e_j ?_
  refine g_istoreN X0 hx (hb hby at_15) 16 rfl #[.val (.int p1), .val (.int p2), .val (.int i), .val (.int j), .unset, .unset] rfl ?_
  refine g_iloadN X0 hx (hb hby at_16) 17 rfl (v := i) rfl ?_
  obtain ⟨_, _, ⟨T10, L10, k10, n10⟩, -, X10, ⟨Lc10, hQ10, l10, y10, z10⟩, st10⟩ := Jvm.LawKit.callS X0 hx (y := (⟨"com/example/scrivenmoor/scrivenmoor/LevelIsAtLeastPinLaw", "level", "(I)Lcom/example/scrivenmoor/scrivenmoor/Level;"⟩ : MethodName)) hown (mvT hZ (hw _ (List.mem_of_getElem? (i := 1) rfl))) (mvT hZ (hw _ (List.mem_of_getElem? (i := 2) rfl))) (mvT hZ (hw _ (List.mem_of_getElem? (i := 3) rfl))) (mvT hZ (hw _ (List.mem_of_getElem? (i := 4) rfl))) (by decide) (backOf (W := 0) (rm1 l Z a0 hw [] i t_TRACE t_WARN t_INFO t_DEBUG t_OFF t_ERROR h0 n0 Z0 S_TRACE E_t_TRACE S_WARN E_t_WARN S_INFO E_t_INFO S_DEBUG E_t_DEBUG S_OFF E_t_OFF S_ERROR E_t_ERROR F_ordinal_t_TRACE F_ordinal_t_WARN F_ordinal_t_INFO F_ordinal_t_DEBUG F_ordinal_t_OFF F_ordinal_t_ERROR (e_i ▸ own_idx p1)) hZ (hw _ (List.mem_of_getElem? (i := 4) rfl)) (hw _ (List.mem_of_getElem? (i := 3) rfl)) (by decide) (by decide)) (g := (mkF m 17 #[.val (.int p1), .val (.int p2), .val (.int i), .val (.int j), .unset, .unset] [(.int i)])) rfl (by rw [hml]; rfl) (argsL := [(.int i)]) (rest := []) (lenOf own_pd1 rfl) rfl (by show 2 * 0 + _ ≤ _; exact Nat.le_of_eq rfl) (hb hby at_17) (fun _ _ => ⟨rfl, e0, (by decide : 0 + 0 ≤ _), (by decide : 0 + 0 ≤ _)⟩)
  dsimp only [Pt.U, Pt.locs, Pt.cells, Pt.slots] at X10 l10 y10 z10 st10 hQ10
  subst l10 y10 z10
  obtain ⟨r_10, rfl, Nq10, e10, f10_0, f10_1⟩ := hQ10
  refine Go.st st10 ?_
  have N10 := Fr.app N0 Nq10
  show Go p e below _ (T10.setTop (mkF m 20 #[.val (.int p1), .val (.int p2), .val (.int i), .val (.int j), .unset, .unset] [(.ref r_10)]))
  refine g_astore X10 hx (hb hby at_20) 22 rfl rfl #[.val (.int p1), .val (.int p2), .val (.int i), .val (.int j), .val (.ref r_10), .unset] rfl ?_
  refine g_iloadN X10 hx (hb hby at_22) 23 rfl (v := j) rfl ?_
  obtain ⟨_, _, ⟨T11, L11, k11, n11⟩, -, X11, ⟨Lc11, hQ11, l11, y11, z11⟩, st11⟩ := Jvm.LawKit.callS X10 hx (y := (⟨"com/example/scrivenmoor/scrivenmoor/LevelIsAtLeastPinLaw", "level", "(I)Lcom/example/scrivenmoor/scrivenmoor/Level;"⟩ : MethodName)) hown (mvT hZ (hw _ (List.mem_of_getElem? (i := 1) rfl))) (mvT hZ (hw _ (List.mem_of_getElem? (i := 2) rfl))) (mvT hZ (hw _ (List.mem_of_getElem? (i := 3) rfl))) (mvT hZ (hw _ (List.mem_of_getElem? (i := 4) rfl))) (by decide) (backOf (W := 0) (rm1 l Z a0 hw [] j t_TRACE t_WARN t_INFO t_DEBUG t_OFF t_ERROR h0 n0 Z0 S_TRACE E_t_TRACE S_WARN E_t_WARN S_INFO E_t_INFO S_DEBUG E_t_DEBUG S_OFF E_t_OFF S_ERROR E_t_ERROR F_ordinal_t_TRACE F_ordinal_t_WARN F_ordinal_t_INFO F_ordinal_t_DEBUG F_ordinal_t_OFF F_ordinal_t_ERROR (e_j ▸ own_idx p2)) hZ (hw _ (List.mem_of_getElem? (i := 4) rfl)) (hw _ (List.mem_of_getElem? (i := 3) rfl)) (by decide) (by decide)) (g := (mkF m 23 #[.val (.int p1), .val (.int p2), .val (.int i), .val (.int j), .val (.ref r_10), .unset] [(.int j)])) rfl (by rw [hml]; rfl) (argsL := [(.int j)]) (rest := []) (lenOf own_pd1 rfl) rfl (by show 2 * 0 + _ ≤ _; exact Nat.le_of_eq rfl) (hb hby at_23) (fun _ _ => ⟨rfl, e10, (by decide : 0 + 0 ≤ _), (by decide : 0 + 0 ≤ _)⟩)
  dsimp only [Pt.U, Pt.locs, Pt.cells, Pt.slots] at X11 l11 y11 z11 st11 hQ11
  subst l11 y11 z11
  obtain ⟨r_11, rfl, Nq11, e11, f11_0, f11_1⟩ := hQ11
  refine Go.st st11 ?_
  have N11 := Fr.app N10 Nq11
  show Go p e below _ (T11.setTop (mkF m 26 #[.val (.int p1), .val (.int p2), .val (.int i), .val (.int j), .val (.ref r_10), .unset] [(.ref r_11)]))
  refine g_astore X11 hx (hb hby at_26) 28 rfl rfl #[.val (.int p1), .val (.int p2), .val (.int i), .val (.int j), .val (.ref r_10), .val (.ref r_11)] rfl ?_
  refine g_aload X11 hx (hb hby at_28) 30 rfl (v := (.ref r_10)) rfl rfl ?_
  refine g_aload X11 hx (hb hby at_30) 32 rfl (v := (.ref r_11)) rfl rfl ?_
  obtain ⟨cq12, kq12, q12a, q12b, q12c⟩ := isOf hZ e11 f10_0
  obtain ⟨_, _, ⟨T12, L12, k12, n12⟩, -, X12, ⟨Lc12, hQ12, l12, y12, z12⟩, st12⟩ := X11.virtualBack hx (y := (⟨"com/example/scrivenmoor/scrivenmoor/Level", "isAtLeast", "(Lcom/example/scrivenmoor/scrivenmoor/Level;)Z"⟩ : MethodName)) (z := (⟨"com/example/scrivenmoor/scrivenmoor/Level", "isAtLeast", "(Lcom/example/scrivenmoor/scrivenmoor/Level;)Z"⟩ : MethodName)) hown (mvT hZ (hw _ (List.mem_of_getElem? (i := 10) rfl))) (mvT hZ (hw _ (List.mem_of_getElem? (i := 11) rfl))) (notFace_of_selects (args := #[]) (mvT hZ (hw _ (List.mem_of_getElem? (i := 13) rfl)))) (mvT hZ (hw _ (List.mem_of_getElem? (i := 13) rfl))) (mvT hZ (hw _ (List.mem_of_getElem? (i := 12) rfl))) (by decide) (backOf (W := 0) (rm2 l Z a0 hw [] r_10 r_11 i j h0 n0 Z0 f10_0 f11_0 f10_1 f11_1) hZ (hw _ (List.mem_of_getElem? (i := 14) rfl)) (hw _ (List.mem_of_getElem? (i := 6) rfl)) (by decide) (by decide)) q12a q12c (g := (mkF m 32 #[.val (.int p1), .val (.int p2), .val (.int i), .val (.int j), .val (.ref r_10), .val (.ref r_11)] [(.ref r_11), (.ref r_10)])) rfl (by rw [hml]; rfl) (Steps.refl _) (argsL := [(.ref r_11)]) (rest := []) (lenOf own_pd2 rfl) rfl (by show 2 * 0 + _ ≤ _; exact Nat.le_of_eq rfl) (hb hby at_32) (fun _ _ => ⟨rfl, e11, (by decide : 0 + 0 ≤ _), (by decide : 0 + 0 ≤ _)⟩)
  dsimp only [Pt.U, Pt.locs, Pt.cells, Pt.slots] at X12 l12 y12 z12 st12 hQ12
  subst l12 y12 z12
  obtain ⟨rfl, Nq12, e12⟩ := hQ12
  refine Go.tr st12 ?_
  have N12 := Fr.app N11 Nq12
  show Go p e below _ (T12.setTop (mkF m 35 #[.val (.int p1), .val (.int p2), .val (.int i), .val (.int j), .val (.ref r_10), .val (.ref r_11)] [(.int (if i < j then 0 else 1))]))
  refine g_iloadN X12 hx (hb hby at_35) 36 rfl (v := i) rfl ?_
  refine g_iloadN X12 hx (hb hby at_36) 37 rfl (v := j) rfl ?_
  refine g_icmp_lt X12 hx (hb hby at_37) 44 40 (by decide) (by decide) rfl (fun hc37 => ?_) (fun hc37 => ?_)
  · refine g_iconst X12 hx (hb hby at_44) 45 rfl (0 : Int32) rfl ?_
    refine g_icmp_ne X12 hx (hb hby at_45) 52 48 (by decide) (by decide) rfl (fun hc45 => False.elim (hc45 (if_pos hc37))) (fun hc45 => ?_)
    refine g_iconst X12 hx (hb hby at_48) 49 rfl (1 : Int32) rfl ?_
    refine g_goto X12 hx (hb hby at_49) 53 (by decide) (by decide) ?_
    refine Go.retN X12 hx hlk (t := .boolean) Bd.returns (by simp) (hb hby at_53) (by decide) (by decide) ?_
    exact ⟨rfl, N12⟩
  · refine g_iconst X12 hx (hb hby at_40) 41 rfl (1 : Int32) rfl ?_
    refine g_goto X12 hx (hb hby at_41) 45 (by decide) (by decide) ?_
    refine g_icmp_ne X12 hx (hb hby at_45) 52 48 (by decide) (by decide) rfl (fun hc45 => False.elim (hc45 (if_neg hc37))) (fun hc45 => ?_)
    refine g_iconst X12 hx (hb hby at_48) 49 rfl (1 : Int32) rfl ?_
    refine g_goto X12 hx (hb hby at_49) 53 (by decide) (by decide) ?_
    refine Go.retN X12 hx hlk (t := .boolean) Bd.returns (by simp) (hb hby at_53) (by decide) (by decide) ?_
    exact ⟨rfl, N12⟩
set_option maxRecDepth 65536 in
set_option maxHeartbeats 40000000 in
theorem comes_1 {Post : Tables → Env → Array Value → State → Outcome → State → Prop} (hpost : ∀ tb e args s v u, (limb_1_1.after args s (.returned v) u = true ∧ limb_1_2.after args s (.returned v) u = true ∧ True) → FrameEnd s (.returned v) u (Jvm.fieldLocs frame_1_writes args s ++ Jvm.arrayLocs frame_1_arrays args s ++ Jvm.staticLocs frame_1_statics s) 0 0 → Post tb e args s (.returned v) u) :
    ArmFor flags0 classFile x code maxLocals ret World_1 tables_1 room_1 Calls_1 rest_1 Pre_1 Post := by
  intro l hfl _ _ p e ha hc hk s m args below hf hA hF happ hP
  obtain ⟨hcalls, hrest, hpre⟩ := hP
  obtain ⟨-, -, -, hnamed, -, -, -, hat⟩ := (Spec.applies_iff hf).mp happ
  obtain ⟨hg, hn⟩ := and_e (Cond.before_iff.mp (show (Jvm.Cond.and given_1 narrow_1).before args s = true from hpre))
  obtain ⟨c0, r0⟩ := and_e hg
  obtain ⟨c1, r1⟩ := and_e r0
  obtain ⟨w0, w1, rfl⟩ : ∃ w0 w1 : Value, args = #[w0, w1] := by
    have hs : args.size = 2 := by simpa [Cond.value, given_1] using c0
    obtain ⟨L⟩ := args
    match L, hs with
    | [w0, w1], _ => exact ⟨w0, w1, rfl⟩
  have hw := fun d (hd : d ∈ tables_1) => atoms_spec (ws := Jvm.Cond.code x code maxLocals ret :: tables_1) hat d (List.mem_cons_of_mem _ hd)
  have hfit : Fit s := fun {y c} hc i hi => by
    obtain ⟨ha, rfl⟩ := Array.getElem?_eq_some_iff.mp hc
    have q := List.all_eq_true.mp ((Array.all_eq_true_iff_forall_mem.mp hF) _ (Array.getElem_mem ha)) i (List.mem_range.mpr hi)
    simpa [Array.getElem?_eq_getElem hi] using q
  obtain ⟨i0, ei0⟩ := is_v c1
  obtain rfl : w0 = (.int i0) := Option.some.inj ei0
  obtain ⟨i1, ei1⟩ := is_v r1
  obtain rfl : w1 = (.int i1) := Option.some.inj ei1
  obtain ⟨z0, zr0⟩ := and_e hn
  obtain ⟨z1, zr1⟩ := and_e zr0
  obtain ⟨z2, zr2⟩ := and_e zr1
  obtain ⟨z3, zr3⟩ := and_e zr2
  obtain ⟨z4, zr4⟩ := and_e zr3
  obtain ⟨z5, zr5⟩ := and_e zr4
  obtain ⟨z6, zr6⟩ := and_e zr5
  obtain ⟨z7, zr7⟩ := and_e zr6
  obtain ⟨z8, zr8⟩ := and_e zr7
  obtain ⟨z9, zr9⟩ := and_e zr8
  obtain ⟨z10, zr10⟩ := and_e zr9
  obtain ⟨t_TRACE, v_t_TRACE⟩ := exa_v z0
  have S_t_TRACE : Sta s s.heap "com/example/scrivenmoor/scrivenmoor/Level" "TRACE" "Lcom/example/scrivenmoor/scrivenmoor/Level;" (.ref t_TRACE) := Sta.start v_t_TRACE (Or.inr ⟨(hw _ (List.mem_of_getElem? (i := 6) rfl)), (hw _ (List.mem_of_getElem? (i := 7) rfl))⟩)
  have E_t_TRACE : Exa s s.heap t_TRACE "com/example/scrivenmoor/scrivenmoor/Level" := Exa.start v_t_TRACE z0
  obtain ⟨t_WARN, v_t_WARN⟩ := exa_v z1
  have S_t_WARN : Sta s s.heap "com/example/scrivenmoor/scrivenmoor/Level" "WARN" "Lcom/example/scrivenmoor/scrivenmoor/Level;" (.ref t_WARN) := Sta.start v_t_WARN (Or.inr ⟨(hw _ (List.mem_of_getElem? (i := 6) rfl)), (hw _ (List.mem_of_getElem? (i := 9) rfl))⟩)
  have E_t_WARN : Exa s s.heap t_WARN "com/example/scrivenmoor/scrivenmoor/Level" := Exa.start v_t_WARN z1
  obtain ⟨t_INFO, v_t_INFO⟩ := exa_v z4
  have S_t_INFO : Sta s s.heap "com/example/scrivenmoor/scrivenmoor/Level" "INFO" "Lcom/example/scrivenmoor/scrivenmoor/Level;" (.ref t_INFO) := Sta.start v_t_INFO (Or.inr ⟨(hw _ (List.mem_of_getElem? (i := 6) rfl)), (hw _ (List.mem_of_getElem? (i := 25) rfl))⟩)
  have E_t_INFO : Exa s s.heap t_INFO "com/example/scrivenmoor/scrivenmoor/Level" := Exa.start v_t_INFO z4
  obtain ⟨t_DEBUG, v_t_DEBUG⟩ := exa_v z5
  have S_t_DEBUG : Sta s s.heap "com/example/scrivenmoor/scrivenmoor/Level" "DEBUG" "Lcom/example/scrivenmoor/scrivenmoor/Level;" (.ref t_DEBUG) := Sta.start v_t_DEBUG (Or.inr ⟨(hw _ (List.mem_of_getElem? (i := 6) rfl)), (hw _ (List.mem_of_getElem? (i := 27) rfl))⟩)
  have E_t_DEBUG : Exa s s.heap t_DEBUG "com/example/scrivenmoor/scrivenmoor/Level" := Exa.start v_t_DEBUG z5
  obtain ⟨t_OFF, v_t_OFF⟩ := exa_v z8
  have S_t_OFF : Sta s s.heap "com/example/scrivenmoor/scrivenmoor/Level" "OFF" "Lcom/example/scrivenmoor/scrivenmoor/Level;" (.ref t_OFF) := Sta.start v_t_OFF (Or.inr ⟨(hw _ (List.mem_of_getElem? (i := 6) rfl)), (hw _ (List.mem_of_getElem? (i := 29) rfl))⟩)
  have E_t_OFF : Exa s s.heap t_OFF "com/example/scrivenmoor/scrivenmoor/Level" := Exa.start v_t_OFF z8
  obtain ⟨t_ERROR, v_t_ERROR⟩ := exa_v z10
  have S_t_ERROR : Sta s s.heap "com/example/scrivenmoor/scrivenmoor/Level" "ERROR" "Lcom/example/scrivenmoor/scrivenmoor/Level;" (.ref t_ERROR) := Sta.start v_t_ERROR (Or.inr ⟨(hw _ (List.mem_of_getElem? (i := 6) rfl)), (hw _ (List.mem_of_getElem? (i := 31) rfl))⟩)
  have E_t_ERROR : Exa s s.heap t_ERROR "com/example/scrivenmoor/scrivenmoor/Level" := Exa.start v_t_ERROR z10
  have F_ordinal_t_TRACE : Fld s s.heap t_TRACE "java/lang/Enum" "ordinal" "I" (.int (0 : Int32)) := own_fld_int v_t_TRACE z2
  have F_ordinal_t_WARN : Fld s s.heap t_WARN "java/lang/Enum" "ordinal" "I" (.int (3 : Int32)) := own_fld_int v_t_WARN z3
  have F_ordinal_t_INFO : Fld s s.heap t_INFO "java/lang/Enum" "ordinal" "I" (.int (2 : Int32)) := own_fld_int v_t_INFO z6
  have F_ordinal_t_DEBUG : Fld s s.heap t_DEBUG "java/lang/Enum" "ordinal" "I" (.int (1 : Int32)) := own_fld_int v_t_DEBUG z7
  have F_ordinal_t_OFF : Fld s s.heap t_OFF "java/lang/Enum" "ordinal" "I" (.int (5 : Int32)) := own_fld_int v_t_OFF z9
  have F_ordinal_t_ERROR : Fld s s.heap t_ERROR "java/lang/Enum" "ordinal" "I" (.int (4 : Int32)) := own_fld_int v_t_ERROR zr10
  obtain ⟨n, o, h1, h2, h3, _, L, rfl, ⟨rfl, N⟩, hq⟩ := rm0 l s _ hw tables_1 i0 i1 t_TRACE t_WARN t_INFO t_DEBUG t_OFF t_ERROR s.heap s.heap.size (Nat.le_refl _) S_t_TRACE E_t_TRACE S_t_WARN E_t_WARN S_t_INFO E_t_INFO S_t_DEBUG E_t_DEBUG S_t_OFF E_t_OFF S_t_ERROR E_t_ERROR F_ordinal_t_TRACE F_ordinal_t_WARN F_ordinal_t_INFO F_ordinal_t_DEBUG F_ordinal_t_OFF F_ordinal_t_ERROR rfl p e ha hc hk s m _ below hf ((Spec.applies_iff_loose hf).mp happ).1 ⟨rfl, State.Warmed39.refl s, rfl⟩ trivial
  refine ⟨n, _, h1, h2, h3, hpost _ _ _ _ _ _ ⟨Cond.after_iff.mpr rfl, Cond.after_iff.mpr (eq_i res_at (Term.int_eval (1)) rfl), trivial⟩ ⟨hq.1, hq.2.1, (hq.2.2.sift fun y hy => Or.inr (N y hy)).mono (by decide) (by decide)⟩⟩
theorem main_1_1 : Claimed_1_1 := comes_1 fun _ _ _ _ _ _ h hF => ⟨h.1, hF⟩
theorem main_1_2 : Claimed_1_2 := comes_1 fun _ _ _ _ _ _ h hF => ⟨h.2.1, hF⟩
end Jvm.Pilot.@@N@@
namespace Jvm.Pilot.@@N@@
open Jvm Jvm.ClassFile Sem Op Lib Jvm.Free Jvm.Stand Jvm.Pilot.@@N@@.Jvm.D
/-! MADE BY PROGRAM (witnessworld.py) out of the Statement's table words and the real class files: 12 classes; the members and pool entries that the words name. The judged class is class 1, her method 2. -/
namespace start1
open Jvm.ClassFile
def u (s : String) : CpInfo := .utf8 (stringToUtf16 s)
/-- a pool by its gaps: so many unusable entries, then the entry; so many at the end -/
def gap : Nat → List CpInfo → List CpInfo
  | 0, r => r
  | n + 1, r => .unusable :: gap n r
def poolList (es : List (Nat × CpInfo)) (last : Nat) : List CpInfo := es.foldr (fun e r => gap e.1 (e.2 :: r)) (gap last [])
def pool (es : List (Nat × CpInfo)) (last : Nat) : Array CpInfo := ⟨poolList es last⟩
def fileOf (pool : Array CpInfo) (this : Nat) (attrs : Array Attribute := #[]) (ms : Array MethodInfo := #[]) (fl : Nat := 33) (sup : Nat := 0) (ifs : Array Nat := #[]) (fds : Array FieldInfo := #[]) : ClassFile where
  minorVersion := 0
  majorVersion := 65
  constantPool := pool
  accessFlags := fl
  thisClass := this
  superClass := sup
  interfaces := ifs
  fields := fds
  methods := ms
  attributes := attrs
def plain (name : String) (sup : Option ClassId) : Class where
  name := name
  kind := .ordinary
  loader := none
  accessFlags := 33
  super := sup
  interfaces := #[]
  cf := none
  fields := #[]
  methods := #[]
  instanceTypes := #[]
  staticTypes := #[]
  resolved := #[]
  callSites := []
  init := .initialized
  statics := none
  mirror := none

def pool0 : Array CpInfo := pool [(5, u "<init>"), (0, u "()V"), (1, .class_ 10), (1, u "java/lang/Object")] 113

def k0m0 : Method := { name := "<init>", desc := "()V", sig := { parameters := [], returnType := none }, accessFlags := 1, code := none }
/-- java/lang/Object -/
def k0 : Class := { plain "java/lang/Object" none with
  accessFlags := 33
  interfaces := #[]
  cf := some (fileOf pool0 8 #[] #[{ accessFlags := 1, nameIndex := 5, descriptorIndex := 6, attributes := #[] }] 33 0 #[] #[])
  fields := #[]
  methods := #[k0m0]
  instanceTypes := #[]
  staticTypes := #[]
  resolved := Array.replicate 124 none
  statics := none }

def pool1 : Array CpInfo := pool [(2, .class_ 4), (1, u "java/lang/Object"), (0, u "<init>"), (0, u "()V"), (0, .fieldref 8 9), (0, .class_ 10), (0, .nameAndType 11 12), (0, u "com/example/scrivenmoor/scrivenmoor/Level"), (0, u "TRACE"), (0, u "Lcom/example/scrivenmoor/scrivenmoor/Level;"), (0, .fieldref 8 14), (0, .nameAndType 15 12), (0, u "DEBUG"), (0, .fieldref 8 17), (0, .nameAndType 18 12), (0, u "INFO"), (0, .fieldref 8 20), (0, .nameAndType 21 12), (0, u "WARN"), (0, .fieldref 8 23), (0, .nameAndType 24 12), (0, u "ERROR"), (0, .fieldref 8 26), (0, .nameAndType 27 12), (0, u "OFF"), (0, .integer 2147483647), (0, .methodref 30 31), (0, .class_ 32), (0, .nameAndType 33 34), (0, u "com/example/scrivenmoor/scrivenmoor/LevelIsAtLeastPinLaw"), (0, u "level"), (0, u "(I)Lcom/example/scrivenmoor/scrivenmoor/Level;"), (0, .methodref 8 36), (0, .nameAndType 37 38), (0, u "isAtLeast"), (0, u "(Lcom/example/scrivenmoor/scrivenmoor/Level;)Z"), (3, u "law"), (0, u "(II)Z")] 2

def k1m0 : Method := { name := "<init>", desc := "()V", sig := { parameters := [], returnType := none }, accessFlags := 1, code := none }
def k1c1 : Code := { maxStack := 2, maxLocals := 1, code := method_2_code, exceptionTable := #[], attributes := #[] }
def k1m1 : Method := { name := "level", desc := "(I)Lcom/example/scrivenmoor/scrivenmoor/Level;", sig := { parameters := [.int], returnType := some (.object "com/example/scrivenmoor/scrivenmoor/Level") }, accessFlags := 10, code := some k1c1 }
def k1c2 : Code := { maxStack := 3, maxLocals := 6, code := code, exceptionTable := #[], attributes := #[] }
def k1m2 : Method := { name := "law", desc := "(II)Z", sig := { parameters := [.int, .int], returnType := some .boolean }, accessFlags := 9, code := some k1c2 }
/-- com/example/scrivenmoor/scrivenmoor/LevelIsAtLeastPinLaw -/
def k1 : Class := { plain "com/example/scrivenmoor/scrivenmoor/LevelIsAtLeastPinLaw" (some 0) with
  accessFlags := 49
  interfaces := #[]
  cf := some (fileOf pool1 30 #[] #[{ accessFlags := 1, nameIndex := 5, descriptorIndex := 6, attributes := #[] }, { accessFlags := 10, nameIndex := 33, descriptorIndex := 34, attributes := #[] }, { accessFlags := 9, nameIndex := 42, descriptorIndex := 43, attributes := #[] }] 49 2 #[] #[])
  fields := #[]
  methods := #[k1m0, k1m1, k1m2]
  instanceTypes := #[]
  staticTypes := #[]
  resolved := Array.replicate 46 none
  statics := none }

def pool2 : Array CpInfo := pool [(1, .class_ 2), (0, u "java/lang/constant/Constable"), (0, .class_ 4), (0, u "java/lang/Object")] 6

/-- java/lang/constant/Constable -/
def k2 : Class := { plain "java/lang/constant/Constable" (some 0) with
  accessFlags := 1537
  interfaces := #[]
  cf := some (fileOf pool2 1 #[] #[] 1537 3 #[] #[])
  fields := #[]
  methods := #[]
  instanceTypes := #[]
  staticTypes := #[]
  resolved := Array.replicate 11 none
  statics := none }

def pool3 : Array CpInfo := pool [(1, .class_ 2), (0, u "java/lang/Comparable"), (0, .class_ 4), (0, u "java/lang/Object")] 7

/-- java/lang/Comparable -/
def k3 : Class := { plain "java/lang/Comparable" (some 0) with
  accessFlags := 1537
  interfaces := #[]
  cf := some (fileOf pool3 1 #[] #[] 1537 3 #[] #[])
  fields := #[]
  methods := #[]
  instanceTypes := #[]
  staticTypes := #[]
  resolved := Array.replicate 12 none
  statics := none }

def pool4 : Array CpInfo := pool [(1, .class_ 2), (0, u "java/io/Serializable"), (0, .class_ 4), (0, u "java/lang/Object")] 2

/-- java/io/Serializable -/
def k4 : Class := { plain "java/io/Serializable" (some 0) with
  accessFlags := 1537
  interfaces := #[]
  cf := some (fileOf pool4 1 #[] #[] 1537 3 #[] #[])
  fields := #[]
  methods := #[]
  instanceTypes := #[]
  staticTypes := #[]
  resolved := Array.replicate 7 none
  statics := none }

def pool5 : Array CpInfo := pool [(2, .class_ 4), (1, u "java/lang/Enum"), (0, u "name"), (0, u "Ljava/lang/String;"), (0, .fieldref 2 8), (0, .nameAndType 9 10), (0, u "ordinal"), (0, u "I"), (1, .class_ 14), (1, u "java/lang/Object"), (4, u "hash"), (86, .class_ 108), (1, u "java/lang/Enum$EnumDesc"), (2, .class_ 112), (0, u "java/lang/constant/Constable"), (0, .class_ 114), (0, u "java/lang/Comparable"), (0, .class_ 116), (0, u "java/io/Serializable"), (9, u "()I")] 77

def k5c0 : Code := { maxStack := 1, maxLocals := 1, code := jdk_37_method_2_code, exceptionTable := #[], attributes := #[] }
def k5m0 : Method := { name := "ordinal", desc := "()I", sig := { parameters := [], returnType := some .int }, accessFlags := 17, code := some k5c0 }
/-- java/lang/Enum -/
def k5 : Class := { plain "java/lang/Enum" (some 0) with
  accessFlags := 1057
  interfaces := #[2, 3, 4]
  cf := some (fileOf pool5 2 #[.nestMembers #[106]] #[{ accessFlags := 17, nameIndex := 9, descriptorIndex := 126, attributes := #[] }] 1057 12 #[111, 113, 115] #[{ accessFlags := 18, nameIndex := 5, descriptorIndex := 6, attributes := #[] }, { accessFlags := 18, nameIndex := 9, descriptorIndex := 10, attributes := #[] }, { accessFlags := 2, nameIndex := 19, descriptorIndex := 10, attributes := #[] }])
  fields := #[{ name := "name", type := (.object "java/lang/String"), accessFlags := 18, slot := 0, constantValue := 0 }, { name := "ordinal", type := .int, accessFlags := 18, slot := 1, constantValue := 0 }, { name := "hash", type := .int, accessFlags := 2, slot := 2, constantValue := 0 }]
  methods := #[k5m0]
  instanceTypes := #[(.object "java/lang/String"), .int, .int]
  staticTypes := #[]
  resolved := Array.replicate 204 none
  statics := none }

def pool6 : Array CpInfo := pool [(1, .class_ 2), (0, u "com/example/scrivenmoor/scrivenmoor/Level"), (2, u "TRACE"), (0, u "Lcom/example/scrivenmoor/scrivenmoor/Level;"), (2, u "DEBUG"), (2, u "INFO"), (2, u "WARN"), (2, u "ERROR"), (2, u "OFF"), (2, u "$VALUES"), (0, u "[Lcom/example/scrivenmoor/scrivenmoor/Level;"), (6, .class_ 34), (1, u "java/lang/Enum"), (6, .methodref 1 42), (0, .nameAndType 43 44), (0, u "ordinal"), (0, u "()I"), (2, u "ALL"), (0, u "Ljava/util/List;"), (8, u "OF_EVENTS"), (87, u "isAtLeast"), (0, u "(Lcom/example/scrivenmoor/scrivenmoor/Level;)Z")] 32

def k6c0 : Code := { maxStack := 2, maxLocals := 2, code := prog_41_method_4_code, exceptionTable := #[], attributes := #[] }
def k6m0 : Method := { name := "isAtLeast", desc := "(Lcom/example/scrivenmoor/scrivenmoor/Level;)Z", sig := { parameters := [(.object "com/example/scrivenmoor/scrivenmoor/Level")], returnType := some .boolean }, accessFlags := 0, code := some k6c0 }
/-- com/example/scrivenmoor/scrivenmoor/Level -/
def k6 : Class := { plain "com/example/scrivenmoor/scrivenmoor/Level" (some 5) with
  accessFlags := 16433
  interfaces := #[]
  cf := some (fileOf pool6 1 #[] #[{ accessFlags := 0, nameIndex := 145, descriptorIndex := 146, attributes := #[] }] 16433 32 #[] #[{ accessFlags := 16409, nameIndex := 5, descriptorIndex := 6, attributes := #[] }, { accessFlags := 16409, nameIndex := 9, descriptorIndex := 6, attributes := #[] }, { accessFlags := 16409, nameIndex := 12, descriptorIndex := 6, attributes := #[] }, { accessFlags := 16409, nameIndex := 15, descriptorIndex := 6, attributes := #[] }, { accessFlags := 16409, nameIndex := 18, descriptorIndex := 6, attributes := #[] }, { accessFlags := 16409, nameIndex := 21, descriptorIndex := 6, attributes := #[] }, { accessFlags := 26, nameIndex := 47, descriptorIndex := 48, attributes := #[] }, { accessFlags := 26, nameIndex := 57, descriptorIndex := 48, attributes := #[] }, { accessFlags := 4122, nameIndex := 24, descriptorIndex := 25, attributes := #[] }])
  fields := #[{ name := "TRACE", type := (.object "com/example/scrivenmoor/scrivenmoor/Level"), accessFlags := 16409, slot := 0, constantValue := 0 }, { name := "DEBUG", type := (.object "com/example/scrivenmoor/scrivenmoor/Level"), accessFlags := 16409, slot := 1, constantValue := 0 }, { name := "INFO", type := (.object "com/example/scrivenmoor/scrivenmoor/Level"), accessFlags := 16409, slot := 2, constantValue := 0 }, { name := "WARN", type := (.object "com/example/scrivenmoor/scrivenmoor/Level"), accessFlags := 16409, slot := 3, constantValue := 0 }, { name := "ERROR", type := (.object "com/example/scrivenmoor/scrivenmoor/Level"), accessFlags := 16409, slot := 4, constantValue := 0 }, { name := "OFF", type := (.object "com/example/scrivenmoor/scrivenmoor/Level"), accessFlags := 16409, slot := 5, constantValue := 0 }, { name := "ALL", type := (.object "java/util/List"), accessFlags := 26, slot := 6, constantValue := 0 }, { name := "OF_EVENTS", type := (.object "java/util/List"), accessFlags := 26, slot := 7, constantValue := 0 }, { name := "$VALUES", type := (.array (.object "com/example/scrivenmoor/scrivenmoor/Level")), accessFlags := 4122, slot := 8, constantValue := 0 }]
  methods := #[k6m0]
  instanceTypes := #[(.object "java/lang/String"), .int, .int]
  staticTypes := #[(.object "com/example/scrivenmoor/scrivenmoor/Level"), (.object "com/example/scrivenmoor/scrivenmoor/Level"), (.object "com/example/scrivenmoor/scrivenmoor/Level"), (.object "com/example/scrivenmoor/scrivenmoor/Level"), (.object "com/example/scrivenmoor/scrivenmoor/Level"), (.object "com/example/scrivenmoor/scrivenmoor/Level"), (.object "java/util/List"), (.object "java/util/List"), (.array (.object "com/example/scrivenmoor/scrivenmoor/Level"))]
  resolved := Array.replicate 179 none
  statics := some 0 }

def pool7 : Array CpInfo := pool [(1, u "java/lang/Cloneable"), (0, .class_ 1), (0, u "java/lang/Object"), (0, .class_ 3)] 3

/-- java/lang/Cloneable -/
def k7 : Class := { plain "java/lang/Cloneable" (some 0) with
  accessFlags := 1537
  interfaces := #[]
  cf := some (fileOf pool7 2 #[] #[] 1537 4 #[] #[])
  fields := #[]
  methods := #[]
  instanceTypes := #[]
  staticTypes := #[]
  resolved := Array.replicate 8 none
  statics := none }

/-- the primitive byte -/
def k8 : Class := { plain "byte" none with kind := .primitive 'B', accessFlags := 0x411 }
/-- [B -/
def k9 : Class := { plain "[B" (some 0) with kind := .array 8 .byte, interfaces := #[7, 4], accessFlags := 1041 }

/-- the primitive int -/
def k10 : Class := { plain "int" none with kind := .primitive 'I', accessFlags := 0x411 }
/-- [I -/
def k11 : Class := { plain "[I" (some 0) with kind := .array 10 .int, interfaces := #[7, 4], accessFlags := 1041 }

def heap : Heap := #[{ cls := 6, slots := #[.ref 1, .ref 4, .ref 3, .ref 2, .ref 6, .ref 5, .null, .null, .null], vm := .statics 6 },
  { cls := 6, slots := #[.null, .int 0, .int 0], vm := .none },
  { cls := 6, slots := #[.null, .int 3, .int 0], vm := .none },
  { cls := 6, slots := #[.null, .int 2, .int 0], vm := .none },
  { cls := 6, slots := #[.null, .int 1, .int 0], vm := .none },
  { cls := 6, slots := #[.null, .int 5, .int 0], vm := .none },
  { cls := 6, slots := #[.null, .int 4, .int 0], vm := .none }]
def classes : Array Class := #[k0, k1, k2, k3, k4, k5, k6, k7, k8, k9, k10, k11]
def interned : List (Array UInt16 × Addr) := []
def slotsUsed : Nat := 27
def theMethod : MethodId := ⟨1, 2⟩
def args0 : Array Value := #[.int 1, .int 2]
def aboutOver (below : List Frame) : State where
  vm := { classes := classes, interned := interned.toArray }
  heap := heap
  slotsUsed := slotsUsed
  threads := #[{ frames := .invoking theMethod args0 :: below }]
def below0 : List Frame := [.native { method := ⟨0, 0⟩, args := #[] }]
def about1 : State := aboutOver below0
def p0 : Program := .bare "" "" ""
def e0 : Env := launch0.env 0 0 0
theorem w_frames : about1.frames = Frame.invoking theMethod args0 :: below0 := rfl
set_option maxRecDepth 65536 in
theorem w_args : argsFit about1.vm theMethod args0 = true := by decide +kernel
set_option maxRecDepth 65536 in
theorem w_heap : heapFits about1 = true := by decide +kernel
set_option maxRecDepth 65536 in
theorem w_runnable : about1.curStatus? = some .runnable := by decide +kernel
set_option maxRecDepth 65536 in
theorem w_alone : about1.alone = true := by decide +kernel
set_option maxRecDepth 65536 in
theorem w_named : about1.methodNamed? x = some theMethod := by decide +kernel
set_option maxRecDepth 65536 in
theorem w_hears : about1.hears theMethod below0 = true := by decide +kernel
set_option maxRecDepth 65536 in
theorem w_ripe : about1.ripe theMethod args0 below0 = true := by decide +kernel
theorem w_running : about1.status = .running := rfl
set_option maxRecDepth 65536 in
theorem w_room : about1.hasRoom e0.platform room_1 = true :=
  launch0.hasRoom_least _ room_1 (by decide +kernel) (by decide +kernel) (by decide +kernel) (by decide +kernel) (by decide +kernel) (by decide +kernel)
theorem allAtoms_all (ts : List Jvm.Cond) (a : Array Jvm.Value) (st : Jvm.State) : (allAtoms ts).before a st = ts.all (fun c => c.before a st) := by
  induction ts with
  | nil => rfl
  | cons c t ih =>
    show (Jvm.Cond.and c (allAtoms t)).before a st = _
    rw [Jvm.Cond.before_and, ih, List.all_cons]
def words1 : List Jvm.Cond := Jvm.Cond.code x code maxLocals ret :: tables_1
/-- a 'code' word, met by the world's own term for the bytes: nothing is compared byte by byte -/
theorem code_word {y : MethodName} {bytes : ByteArray} {mx : Nat} {rt : Option FieldType} {a : Array Value} {s : State} {m : MethodId} {meth : Method} {c : Code} (h1 : s.methodNamed? y = some m) (h2 : s.vm.method? m = some meth) (h3 : meth.code = some c) (h4 : c.code = bytes)
    (h5 : (c.maxLocals == mx && c.exceptionTable.isEmpty && decide (c.maxStack ≤ mostOperands) && decide (meth.sig.returnType = rt) && !meth.locks && decide (parseMethodDescriptor y.desc = some meth.sig)) = true) : (Jvm.Cond.code y bytes mx rt).before a s = true := by
  simp only [Bool.and_eq_true, beq_iff_eq, Bool.not_eq_true', decide_eq_true_eq] at h5
  obtain ⟨⟨⟨⟨⟨g1, g2⟩, g3⟩, g4⟩, g5⟩, g6⟩ := h5
  simp [Cond.before, Cond.holds, Cond.value, h1, h2, h3, h4, g1, g2, g3, g4, g5, g6]
def isCode : Jvm.Cond → Bool
  | .code _ _ _ _ => true
  | _ => false
theorem all_split {L : List Jvm.Cond} {P : Jvm.Cond → Bool} (h1 : L.all (fun c => isCode c || P c) = true) (h2 : ∀ c ∈ L.filter isCode, P c = true) : L.all P = true := by
  refine List.all_eq_true.mpr fun c hc => ?_
  have h := List.all_eq_true.mp h1 c hc
  rcases Bool.eq_false_or_eq_true (isCode c) with hi | hi
  · exact h2 c (List.mem_filter.mpr ⟨hc, hi⟩)
  · simpa [hi] using h
set_option maxRecDepth 65536 in
theorem w_c0 : (Jvm.Cond.code x code maxLocals ret).before args0 about1 = true := code_word (m := ⟨1, 2⟩) (meth := k1m2) (c := k1c2) (by decide +kernel) rfl rfl rfl (by decide +kernel)
set_option maxRecDepth 65536 in
theorem w_c1 : (Jvm.Cond.code ({ cls := "com/example/scrivenmoor/scrivenmoor/LevelIsAtLeastPinLaw", name := "level", desc := "(I)Lcom/example/scrivenmoor/scrivenmoor/Level;" } : Jvm.MethodName) method_2_code (1 : Nat) (Option.some (Jvm.ClassFile.FieldType.object "com/example/scrivenmoor/scrivenmoor/Level"))).before args0 about1 = true := code_word (m := ⟨1, 1⟩) (meth := k1m1) (c := k1c1) (by decide +kernel) rfl rfl rfl (by decide +kernel)
set_option maxRecDepth 65536 in
theorem w_c2 : (Jvm.Cond.code ({ cls := "com/example/scrivenmoor/scrivenmoor/Level", name := "isAtLeast", desc := "(Lcom/example/scrivenmoor/scrivenmoor/Level;)Z" } : Jvm.MethodName) prog_41_method_4_code (2 : Nat) (Option.some Jvm.ClassFile.FieldType.boolean)).before args0 about1 = true := code_word (m := ⟨6, 0⟩) (meth := k6m0) (c := k6c0) (by decide +kernel) rfl rfl rfl (by decide +kernel)
set_option maxRecDepth 65536 in
theorem w_c3 : (Jvm.Cond.code ({ cls := "java/lang/Enum", name := "ordinal", desc := "()I" } : Jvm.MethodName) jdk_37_method_2_code (1 : Nat) (Option.some Jvm.ClassFile.FieldType.int)).before args0 about1 = true := code_word (m := ⟨5, 0⟩) (meth := k5m0) (c := k5c0) (by decide +kernel) rfl rfl rfl (by decide +kernel)
def codes1 : List Jvm.Cond := [Jvm.Cond.code x code maxLocals ret, Jvm.Cond.code ({ cls := "com/example/scrivenmoor/scrivenmoor/LevelIsAtLeastPinLaw", name := "level", desc := "(I)Lcom/example/scrivenmoor/scrivenmoor/Level;" } : Jvm.MethodName) method_2_code (1 : Nat) (Option.some (Jvm.ClassFile.FieldType.object "com/example/scrivenmoor/scrivenmoor/Level")), Jvm.Cond.code ({ cls := "com/example/scrivenmoor/scrivenmoor/Level", name := "isAtLeast", desc := "(Lcom/example/scrivenmoor/scrivenmoor/Level;)Z" } : Jvm.MethodName) prog_41_method_4_code (2 : Nat) (Option.some Jvm.ClassFile.FieldType.boolean), Jvm.Cond.code ({ cls := "java/lang/Enum", name := "ordinal", desc := "()I" } : Jvm.MethodName) jdk_37_method_2_code (1 : Nat) (Option.some Jvm.ClassFile.FieldType.int)]
set_option maxRecDepth 65536 in
theorem codes_eq : words1.filter isCode = codes1 := rfl
theorem w_codes : ∀ c ∈ words1.filter isCode, c.before args0 about1 = true := by
  rw [codes_eq]
  intro c hc
  simp only [codes1, List.mem_cons, List.not_mem_nil, or_false] at hc
  rcases hc with rfl | rfl | rfl | rfl
  · exact w_c0
  · exact w_c1
  · exact w_c2
  · exact w_c3
set_option maxRecDepth 65536 in
theorem w_t1 : (words1.take 24).all (fun c => isCode c || c.before args0 about1) = true := by decide +kernel
set_option maxRecDepth 65536 in
theorem w_t2 : (words1.drop 24).all (fun c => isCode c || c.before args0 about1) = true := by decide +kernel
theorem w_tables : (allAtoms (Jvm.Cond.code x code maxLocals ret :: tables_1)).before args0 about1 = true := by
  rw [allAtoms_all]
  show words1.all (fun c => c.before args0 about1) = true
  refine all_split ?_ w_codes
  rw [← List.take_append_drop 24 words1, List.all_append, w_t1, w_t2]
  rfl
set_option maxRecDepth 65536 in
theorem w_case : (Jvm.Cond.and given_1 narrow_1).before args0 about1 = true := by decide +kernel
theorem w_applies : (headSpec (Jvm.Cond.code x code maxLocals ret :: tables_1) room_1).applies x e0.platform about1 = true :=
  (Spec.applies_iff w_frames).mpr ⟨w_running, w_runnable, w_alone, w_named, w_hears, w_ripe, w_room, w_tables⟩
theorem atStart : AtStart classFile x code maxLocals ret World_1 tables_1 room_1 Calls_1 rest_1 Pre_1 launch0 p0 e0 about1 theMethod args0 below0 :=
  ⟨lists_1, trivial, launch0.admits_env _ _ _, launch0.least_env, fairChoices_fair.cas, fairChoices_fair.clock, w_frames, w_args, w_heap, w_applies, trivial, trivial, w_case⟩
end start1
theorem witness_1 : WitnessClaimed_1 := ⟨start1.p0, start1.e0, start1.about1, start1.theMethod, start1.args0, start1.below0, start1.atStart⟩
end Jvm.Pilot.@@N@@
