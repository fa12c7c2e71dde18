import JvmDerived
import JvmDerived.Pilot.@@N@@Statement
import JvmDerived.Pilot.@@N@@Code
set_option linter.unusedVariables false
set_option linter.unusedSimpArgs false
namespace Jvm.Pilot.@@N@@
open Jvm Jvm.ClassFile Sem Op Lib Jvm.Free Jvm.Stand Jvm.LawKit Jvm.RoadKit Bundle Jvm.Pilot.@@N@@.Jvm.D
theorem own_ns {Z : State} {h : Heap} {a : Addr} {C : String} (F : Exa Z h a C) : ∃ c : Cell, h[a]? = some c ∧ c.vm.isStatics = false := by
  obtain ⟨c, k, h1, -, -, h4, -⟩ := F
  exact ⟨c, h1, h4⟩
theorem own_Sta_keep {Z : State} {h h' : Heap} {C n d : String} {v : Value} {ws : List Addr} (F : Sta Z h C n d v) (K : Keep h h' ws) (q : ∀ a ∈ ws, ∃ c : Cell, h[a]? = some c ∧ c.vm.isStatics = false) : Sta Z h' C n d v := by
  obtain ⟨cf, i, k, f, st, cell, h1, h2, h3, h4, h5, h6, h7⟩ := F
  refine ⟨cf, i, k, f, st, cell, h1, h2, h3, h4, K.2.1 st cell h5 (fun z => ?_), h6, h7⟩
  obtain ⟨c, e1, e2⟩ := q st z
  cases h5.symm.trans e1
  rw [e2] at h6
  cases h6
theorem own_fld_int {args : Array Value} {s : State} {tm : Term} {O f d : String} {t : Addr} {z : Int32} (ev : tm.eval args s none [] s = some (.ref t)) (h : (Jvm.Cond.eq (Term.field tm O f d) (Term.int z)).value args s none s [] = some true) : Fld s s.heap t O f d (.int z) := by
  have e2 : (Term.int z).eval args s none [] s = some (.int z) := Term.int_eval z
  refine Fld.start ?_
  cases e1 : s.fieldOf? t O f d with
  | none => simp [Jvm.Cond.value, fld_at ev, e1, e2] at h
  | some x => cases x <;> simp [Jvm.Cond.value, fld_at ev, e1, e2] at h ⊢ <;> exact h
section Layer
variable {p : Program} {l : Launch} {e : Env} {R : Room} {s : State} {m : MethodId} {args : Array Value} {below : List Frame} {meth : Method} {c : Code} {T : State} {locs : List Loc} {cells slots : Nat}
/-- the walk from σ comes to an end at which K holds -/
def Go (p : Program) (e : Env) (below : List Frame) (K : State → Outcome → Prop) (σ : State) : Prop := ∃ s₂ o, Steps p.tables e below σ s₂ ∧ K s₂ o
theorem Go.st {K : State → Outcome → Prop} {σ σ' : State} (h : ∀ t, Steps p.tables e below σ' t → Steps p.tables e below σ t) (k : Go p e below K σ') : Go p e below K σ := by
  obtain ⟨a, b, c, d⟩ := k
  exact ⟨a, b, h _ c, d⟩
theorem Go.tr {K : State → Outcome → Prop} {σ σ' : State} (h : Steps p.tables e below σ σ') (k : Go p e below K σ') : Go p e below K σ := Go.st (fun _ q => h.trans q) k
/-- what a contract asks of the end -/
def KQ (s : State) (below : List Frame) (Q : Option Value → Heap → List Loc → Prop) (C S : Nat) (s₂ : State) (o : Outcome) : Prop :=
  s₂.status = .running ∧ Ended s₂ below o ∧ ∃ v L, o = .returned v ∧ Q v s₂.heap L ∧ FrameEnd s o s₂ L C S
theorem Go.body {K : State → Outcome → Prop} {σ : State} {g g' : JFrame} (hg : g = g') (k : Go p e below K (T.setTop g')) : Go p e below K (T.setTop g) := hg ▸ k
/-- return of nothing -/
theorem Go.retV {Q : Option Value → Heap → List Loc → Prop} {C S : Nat} (X : Stand p l e R s m args below meth c T locs cells slots) (hx : p.tables.exec = Jvm.exec) (hlk : meth.locks = false) (hret : meth.sig.returnType = none) {pc : Nat} {Ls : Array Slot} (hd : decode c.code pc = .ok (.return_, 1)) (hC : cells ≤ C) (hS : slots ≤ S) (q : Q none T.heap locs) :
    Go p e below (KQ s below Q C S) (T.setTop (mkF m pc Ls [])) := by
  obtain ⟨fs, hr, hrun, hended, hW, hsame⟩ := X.leave (v := none) (fun _ => rfl)
  exact ⟨_, _, X.returnOut hx hret hd hr, hrun, hended, _, _, rfl, q, ⟨_, rfl⟩, hW, hsame.mono hC hS⟩
/-- return of an int -/
theorem Go.retI {Q : Option Value → Heap → List Loc → Prop} {C S : Nat} (X : Stand p l e R s m args below meth c T locs cells slots) (hx : p.tables.exec = Jvm.exec) (hlk : meth.locks = false) (hret : meth.sig.returnType = some .int) {pc : Nat} {Ls : Array Slot} {z : Int32} {rest : List Value} (hd : decode c.code pc = .ok (.ireturn, 1)) (hC : cells ≤ C) (hS : slots ≤ S) (q : Q (some (.int z)) T.heap locs) :
    Go p e below (KQ s below Q C S) (T.setTop (mkF m pc Ls (.int z :: rest))) := by
  obtain ⟨fs, hr, hrun, hended, hW, hsame⟩ := X.leave (v := some (.int z)) (fun h => by rw [hret] at h; cases h)
  exact ⟨_, _, retOut X hx hret rfl (Or.inl ⟨rfl, Or.inl rfl, _, rfl⟩) hd hr, hrun, hended, _, _, rfl, q, ⟨_, rfl⟩, hW, hsame.mono hC hS⟩
/-- return of a boolean, byte, char or short -/
theorem Go.retN {Q : Option Value → Heap → List Loc → Prop} {C S : Nat} (X : Stand p l e R s m args below meth c T locs cells slots) (hx : p.tables.exec = Jvm.exec) (hlk : meth.locks = false) {t : FieldType} (hret : meth.sig.returnType = some t) (ht : t = .boolean ∨ t = .byte ∨ t = .char ∨ t = .short) {pc : Nat} {Ls : Array Slot} {z : Int32} {rest : List Value} (hd : decode c.code pc = .ok (.ireturn, 1)) (hC : cells ≤ C) (hS : slots ≤ S) (q : Q (some (.int (nar t z))) T.heap locs) :
    Go p e below (KQ s below Q C S) (T.setTop (mkF m pc Ls (.int z :: rest))) := by
  obtain ⟨fs, hr, hrun, hended, hW, hsame⟩ := X.leave (v := some (.int (nar t z))) (fun h => by rw [hret] at h; cases h)
  exact ⟨_, _, RoadKit.retN X hx hret ht hd hr, hrun, hended, _, _, rfl, q, ⟨_, rfl⟩, hW, hsame.mono hC hS⟩
/-- return of a reference -/
theorem Go.retA {Q : Option Value → Heap → List Loc → Prop} {C S : Nat} (X : Stand p l e R s m args below meth c T locs cells slots) (hx : p.tables.exec = Jvm.exec) (hlk : meth.locks = false) {t : FieldType} (hret : meth.sig.returnType = some t) (ht : t.isReference = true) {pc : Nat} {Ls : Array Slot} {w : Value} (hw : w.isRef = true) {rest : List Value} (hd : decode c.code pc = .ok (.areturn, 1)) (hC : cells ≤ C) (hS : slots ≤ S) (q : Q (some w) T.heap locs) :
    Go p e below (KQ s below Q C S) (T.setTop (mkF m pc Ls (w :: rest))) := by
  obtain ⟨fs, hr, hrun, hended, hW, hsame⟩ := X.leave (v := some w) (fun h => by rw [hret] at h; cases h)
  exact ⟨_, _, retOut X hx hret (by cases t <;> cases w <;> simp_all [narrow, Value.isRef, FieldType.isReference]) (Or.inr (Or.inr (Or.inr (Or.inr ⟨rfl, ht, hw⟩)))) hd hr, hrun, hended, _, _, rfl, q, ⟨_, rfl⟩, hW, hsame.mono hC hS⟩
/-- return of a long -/
theorem Go.retJ {Q : Option Value → Heap → List Loc → Prop} {C S : Nat} (X : Stand p l e R s m args below meth c T locs cells slots) (hx : p.tables.exec = Jvm.exec) (hlk : meth.locks = false) (hret : meth.sig.returnType = some .long) {pc : Nat} {Ls : Array Slot} {z : Int64} {rest : List Value} (hd : decode c.code pc = .ok (.lreturn, 1)) (hC : cells ≤ C) (hS : slots ≤ S) (q : Q (some (.long z)) T.heap locs) :
    Go p e below (KQ s below Q C S) (T.setTop (mkF m pc Ls (.long z :: rest))) := by
  obtain ⟨fs, hr, hrun, hended, hW, hsame⟩ := X.leave (v := some (.long z)) (fun h => by rw [hret] at h; cases h)
  exact ⟨_, _, retOut X hx hret rfl (Or.inr (Or.inl ⟨rfl, rfl, _, rfl⟩)) hd hr, hrun, hended, _, _, rfl, q, ⟨_, rfl⟩, hW, hsame.mono hC hS⟩
/-- return of a double -/
theorem Go.retD {Q : Option Value → Heap → List Loc → Prop} {C S : Nat} (X : Stand p l e R s m args below meth c T locs cells slots) (hx : p.tables.exec = Jvm.exec) (hlk : meth.locks = false) (hret : meth.sig.returnType = some .double) {pc : Nat} {Ls : Array Slot} {z : UInt64} {rest : List Value} (hd : decode c.code pc = .ok (.dreturn, 1)) (hC : cells ≤ C) (hS : slots ≤ S) (q : Q (some (.double z)) T.heap locs) :
    Go p e below (KQ s below Q C S) (T.setTop (mkF m pc Ls (.double z :: rest))) := by
  obtain ⟨fs, hr, hrun, hended, hW, hsame⟩ := X.leave (v := some (.double z)) (fun h => by rw [hret] at h; cases h)
  exact ⟨_, _, retOut X hx hret rfl (Or.inr (Or.inr (Or.inl ⟨rfl, rfl, _, rfl⟩))) hd hr, hrun, hended, _, _, rfl, q, ⟨_, rfl⟩, hW, hsame.mono hC hS⟩
theorem g_iloadN {K : State → Outcome → Prop} (X : Stand p l e R s m args below meth c T locs cells slots) (hx : p.tables.exec = Jvm.exec) {pc : Nat} {L : Array Slot} {S : List Value} {k : Fin 4} {v : Int32} (hd : decode c.code pc = .ok (.iload_n k, 1)) (pc' : Nat) (hp : pc + 1 = pc') (hl : L[k.val]? = some (.val (.int v))) (r : Go p e below K (T.setTop (mkF m pc' L (.int v :: S)))) : Go p e below K (T.setTop (mkF m pc L S)) := by
  subst hp
  exact Go.st (fun _ => XS.iloadN X.here hx rfl hd hl) r
theorem g_iload {K : State → Outcome → Prop} (X : Stand p l e R s m args below meth c T locs cells slots) (hx : p.tables.exec = Jvm.exec) {pc : Nat} {L : Array Slot} {S : List Value} {k : Nat} {v : Int32} (hd : decode c.code pc = .ok (.iload k, 2)) (pc' : Nat) (hp : pc + 2 = pc') (hl : L[k]? = some (.val (.int v))) (r : Go p e below K (T.setTop (mkF m pc' L (.int v :: S)))) : Go p e below K (T.setTop (mkF m pc L S)) := by
  subst hp
  exact Go.st (fun _ => XS.iload X.here hx rfl hd hl) r
theorem g_aloadN {K : State → Outcome → Prop} (X : Stand p l e R s m args below meth c T locs cells slots) (hx : p.tables.exec = Jvm.exec) {pc : Nat} {L : Array Slot} {S : List Value} {k : Fin 4} {v : Value} (hd : decode c.code pc = .ok (.aload_n k, 1)) (pc' : Nat) (hp : pc + 1 = pc') (hl : L[k.val]? = some (.val v)) (hv : v.isRef = true) (r : Go p e below K (T.setTop (mkF m pc' L (v :: S)))) : Go p e below K (T.setTop (mkF m pc L S)) := by
  subst hp
  exact Go.st (fun _ => XS.aloadN X.here hx rfl hd hl hv) r
theorem g_aload {K : State → Outcome → Prop} (X : Stand p l e R s m args below meth c T locs cells slots) (hx : p.tables.exec = Jvm.exec) {pc : Nat} {L : Array Slot} {S : List Value} {k : Nat} {v : Value} (hd : decode c.code pc = .ok (.aload k, 2)) (pc' : Nat) (hp : pc + 2 = pc') (hl : L[k]? = some (.val v)) (hv : v.isRef = true) (r : Go p e below K (T.setTop (mkF m pc' L (v :: S)))) : Go p e below K (T.setTop (mkF m pc L S)) := by
  subst hp
  exact Go.st (fun _ => XS.aload X.here hx rfl hd hl hv) r
theorem g_istore {K : State → Outcome → Prop} (X : Stand p l e R s m args below meth c T locs cells slots) (hx : p.tables.exec = Jvm.exec) {pc : Nat} {L : Array Slot} {S : List Value} {k : Nat} {v : Int32} (hd : decode c.code pc = .ok (.istore k, 2)) (pc' : Nat) (hp : pc + 2 = pc') (L' : Array Slot) (hl : storeLocals L k (.int v) = some L') (r : Go p e below K (T.setTop (mkF m pc' L' S))) : Go p e below K (T.setTop (mkF m pc L (.int v :: S))) := by
  subst hp
  exact Go.st (fun _ => XS.istore X.here hx rfl hd rfl hl) r
theorem g_astore {K : State → Outcome → Prop} (X : Stand p l e R s m args below meth c T locs cells slots) (hx : p.tables.exec = Jvm.exec) {pc : Nat} {L : Array Slot} {S : List Value} {k : Nat} {v : Value} (hd : decode c.code pc = .ok (.astore k, 2)) (pc' : Nat) (hp : pc + 2 = pc') (hv : v.isRef = true) (L' : Array Slot) (hl : storeLocals L k v = some L') (r : Go p e below K (T.setTop (mkF m pc' L' S))) : Go p e below K (T.setTop (mkF m pc L (v :: S))) := by
  subst hp
  exact Go.st (fun _ => XS.astore X.here hx rfl hd rfl hv hl) r
theorem g_iconst {K : State → Outcome → Prop} (X : Stand p l e R s m args below meth c T locs cells slots) (hx : p.tables.exec = Jvm.exec) {pc : Nat} {L : Array Slot} {S : List Value} {i : Int} (hd : decode c.code pc = .ok (.iconst i, 1)) (pc' : Nat) (hp : pc + 1 = pc') (z : Int32) (hz : Int32.ofInt i = z) (r : Go p e below K (T.setTop (mkF m pc' L (.int z :: S)))) : Go p e below K (T.setTop (mkF m pc L S)) := by
  subst hp; subst hz
  exact Go.st (fun _ => XS.iconst X.here hx rfl hd) r
theorem g_iadd {K : State → Outcome → Prop} (X : Stand p l e R s m args below meth c T locs cells slots) (hx : p.tables.exec = Jvm.exec) {pc : Nat} {L : Array Slot} {S : List Value} {x y : Int32} (hd : decode c.code pc = .ok (.iadd, 1)) (pc' : Nat) (hp : pc + 1 = pc') (z : Int32) (hz : x + y = z) (r : Go p e below K (T.setTop (mkF m pc' L (.int z :: S)))) : Go p e below K (T.setTop (mkF m pc L (.int y :: .int x :: S))) := by
  subst hp; subst hz
  exact Go.st (fun _ => XS.iadd X.here hx rfl hd rfl) r
theorem g_isub {K : State → Outcome → Prop} (X : Stand p l e R s m args below meth c T locs cells slots) (hx : p.tables.exec = Jvm.exec) {pc : Nat} {L : Array Slot} {S : List Value} {x y : Int32} (hd : decode c.code pc = .ok (.isub, 1)) (pc' : Nat) (hp : pc + 1 = pc') (z : Int32) (hz : x - y = z) (r : Go p e below K (T.setTop (mkF m pc' L (.int z :: S)))) : Go p e below K (T.setTop (mkF m pc L (.int y :: .int x :: S))) := by
  subst hp; subst hz
  exact Go.st (fun _ => XS.isub X.here hx rfl hd rfl) r
theorem g_ixor {K : State → Outcome → Prop} (X : Stand p l e R s m args below meth c T locs cells slots) (hx : p.tables.exec = Jvm.exec) {pc : Nat} {L : Array Slot} {S : List Value} {x y : Int32} (hd : decode c.code pc = .ok (.ixor, 1)) (pc' : Nat) (hp : pc + 1 = pc') (z : Int32) (hz : x ^^^ y = z) (r : Go p e below K (T.setTop (mkF m pc' L (.int z :: S)))) : Go p e below K (T.setTop (mkF m pc L (.int y :: .int x :: S))) := by
  subst hp; subst hz
  exact Go.st (fun _ => XT.ixor X.here hx rfl hd rfl) r
theorem g_dup {K : State → Outcome → Prop} (X : Stand p l e R s m args below meth c T locs cells slots) (hx : p.tables.exec = Jvm.exec) {pc : Nat} {L : Array Slot} {S : List Value} {x : Value} (hd : decode c.code pc = .ok (.dup, 1)) (pc' : Nat) (hp : pc + 1 = pc') (hc : x.category = 1) (r : Go p e below K (T.setTop (mkF m pc' L (x :: x :: S)))) : Go p e below K (T.setTop (mkF m pc L (x :: S))) := by
  subst hp
  exact Go.st (fun _ => XS.dup X.here hx rfl hd rfl hc) r
theorem g_goto {K : State → Outcome → Prop} (X : Stand p l e R s m args below meth c T locs cells slots) (hx : p.tables.exec = Jvm.exec) {pc : Nat} {L : Array Slot} {S : List Value} {o : Int} (hd : decode c.code pc = .ok (.goto o, 3)) (pc' : Nat) (h0 : 0 ≤ (pc : Int) + o) (hp : ((pc : Int) + o).toNat = pc') (r : Go p e below K (T.setTop (mkF m pc' L S))) : Go p e below K (T.setTop (mkF m pc L S)) :=
  Go.st (fun _ => XS.goto X.here hx rfl (pc0 := pc) rfl hd h0 hp) r
theorem g_icmp {K : State → Outcome → Prop} (X : Stand p l e R s m args below meth c T locs cells slots) (hx : p.tables.exec = Jvm.exec) {pc : Nat} {L : Array Slot} {S : List Value} {cd : ClassFile.Cond} {o : Int} {x y : Int32} (hd : decode c.code pc = .ok (.if_icmp cd o, 3)) (pc1 pc2 : Nat) (h0 : 0 ≤ (pc : Int) + o) (h1 : ((pc : Int) + o).toNat = pc1) (h2 : pc + 3 = pc2) (yes : if_icmp.holds cd x y = true → Go p e below K (T.setTop (mkF m pc1 L S))) (no : if_icmp.holds cd x y = false → Go p e below K (T.setTop (mkF m pc2 L S))) : Go p e below K (T.setTop (mkF m pc L (.int y :: .int x :: S))) := by
  subst h2
  cases hc : if_icmp.holds cd x y with
  | true => exact Go.st (fun _ => XS.icmpYes X.here hx rfl (pc0 := pc) rfl hd rfl hc h0 h1) (yes hc)
  | false => exact Go.st (fun _ => XS.icmpNo X.here hx rfl hd rfl hc) (no hc)
theorem g_icmp_ne {K : State → Outcome → Prop} (X : Stand p l e R s m args below meth c T locs cells slots) (hx : p.tables.exec = Jvm.exec) {pc : Nat} {L : Array Slot} {S : List Value} {o : Int} {x y : Int32} (hd : decode c.code pc = .ok (.if_icmp .ne o, 3)) (pc1 pc2 : Nat) (h0 : 0 ≤ (pc : Int) + o) (h1 : ((pc : Int) + o).toNat = pc1) (h2 : pc + 3 = pc2) (yes : ¬ x = y → Go p e below K (T.setTop (mkF m pc1 L S))) (no : x = y → Go p e below K (T.setTop (mkF m pc2 L S))) : Go p e below K (T.setTop (mkF m pc L (.int y :: .int x :: S))) := by
  refine g_icmp X hx hd pc1 pc2 h0 h1 h2 (fun hc => ?_) (fun hc => ?_)
  · by_cases q : x = y
    · rw [(teq q).2] at hc; cases hc
    · exact yes q
  · by_cases q : x = y
    · exact no q
    · rw [(feq q).2] at hc; cases hc
end Layer


theorem own_pn_java_lang_Record : plainName "java/lang/Record" = true := by first | (simp [plainName, overriddenIn]; done) | decide +kernel
theorem ef_3 (m : MethodId) (x0 : Addr) : entryFrame m #[(.ref x0)] 1 = mkF m 0 #[.val (.ref x0)] [] := by first | (simp [entryFrame, mkF, argsToLocals, Value.category]; done) | rfl
theorem d3_0 : decode jdk_30_method_1_code 0 = .ok (.aload_n 0, 1) := by decide +kernel
theorem d3_1 : decode jdk_30_method_1_code 1 = .ok (.invokespecial 1, 3) := by decide +kernel
theorem d3_4 : decode jdk_30_method_1_code 4 = .ok (.return_, 1) := by decide +kernel
def Q3 (Z : State) (a1 : Addr) (h0 : Heap) (n0 : Nat) (v : Option Value) (h : Heap) (L : List Loc) : Prop := v = none ∧ Fr n0 L ∧ h = h0
set_option maxRecDepth 65536 in
set_option maxHeartbeats 40000000 in
theorem rm3 (l : Launch) (Z : State) (a0 : Array Value) (hw : ∀ d ∈ tables_1, d.before a0 Z = true) (ws : List Jvm.Cond) (a1 : Addr) (h0 : Heap) (n0 : Nat) (Z0 : n0 ≤ h0.size)  :
    MetFree l (⟨"java/lang/Record", "<init>", "()V"⟩ : MethodName) (head1 (Jvm.Cond.code (⟨"java/lang/Record", "<init>", "()V"⟩ : MethodName) jdk_30_method_1_code 1 none :: ws) ({ frames := 1, cells := 0, slots := 0, locals := 12 } : Room)) (fun a U => a = #[(.ref a1)] ∧ Z.Warmed39 U.vm ∧ U.heap = h0) (fun _ _ _ _ _ => True) (fun _ U o U' => ∃ v L, o = .returned v ∧ Q3 Z a1 h0 n0 v U'.heap L ∧ FrameEnd U o U' L ({ frames := 1, cells := 0, slots := 0, locals := 12 } : Room).cells ({ frames := 1, cells := 0, slots := 0, locals := 12 } : Room).slots) := by
  refine MetFree.of_bodySF (plainFor_of_name own_pn_java_lang_Record) hisR ?_
  intro p e s m args below meth c s₁ Bd hml0 hP hK
  obtain ⟨rfl, hZ, hh⟩ := hP
  have hx := Bd.exec
  have hby := Bd.bytes
  have hlk := Bd.notSynchronized
  have hml : c.maxLocals = 1 := hml0
  have hown : s.vm.findClass "java/lang/Record" = some m.cls := findClass_of_methodNamed Bd.named
  have hnm := (name_of_methodNamed Bd.named Bd.method).1
  have X0 : Stand p l e ({ frames := 1, cells := 0, slots := 0, locals := 12 } : Room) s m #[(.ref a1)] below meth c s₁ [] 0 0 := Stand.of_body Bd
  have e0 : s₁.heap = h0 := by rw [← hh, Bd.state]; rfl
  have N0 := Fr.nil n0
  show Go p e below (KQ s below (Q3 Z a1 h0 n0) ({ frames := 1, cells := 0, slots := 0, locals := 12 } : Room).cells ({ frames := 1, cells := 0, slots := 0, locals := 12 } : Room).slots) _
  refine Go.body (T := s₁) (σ := s₁) (g' := (mkF m 0 #[.val (.ref a1)] [])) (ef_3 m a1) ?_
  refine g_aloadN X0 hx (hb hby d3_0) 1 rfl (v := (.ref a1)) rfl rfl ?_
  obtain ⟨T1, X1, e1, st1⟩ := initO X0 hx hZ hown (hw _ (List.mem_of_getElem? (i := 17) rfl)) (hw _ (List.mem_of_getElem? (i := 18) rfl)) (hw _ (List.mem_of_getElem? (i := 19) rfl)) e0 (g := (mkF m 1 #[.val (.ref a1)] [(.ref a1)])) rfl (by rw [hml]; rfl) rfl (hb hby d3_1) (by decide) (W := 0) (by show 2 * 0 + _ ≤ _; exact Nat.le_of_eq rfl) (by decide)
  refine Go.st st1 ?_
  show Go p e below _ (T1.setTop (mkF m 4 #[.val (.ref a1)] []))
  refine Go.retV X1 hx hlk Bd.returns (hb hby d3_4) (by decide) (by decide) ?_
  show Q3 Z a1 h0 n0 _ T1.heap _
  rw [e1]
  exact ⟨rfl, N0, rfl⟩
theorem own_pn_com_example_buildwright_buildwright_engine_BuildResult : plainName "com/example/buildwright/buildwright/engine/BuildResult" = true := by first | (simp [plainName, overriddenIn]; done) | decide +kernel
theorem ef_2 (m : MethodId) (x0 : Addr) (x1 : Int32) (x2 : Int32) (x3 : Int32) (x4 : Addr) : entryFrame m #[(.ref x0), (.int x1), (.int x2), (.int x3), (.ref x4)] 5 = mkF m 0 #[.val (.ref x0), .val (.int x1), .val (.int x2), .val (.int x3), .val (.ref x4)] [] := by first | (simp [entryFrame, mkF, argsToLocals, Value.category]; done) | rfl
theorem d2_0 : decode prog_4_method_2_code 0 = .ok (.aload_n 0, 1) := by decide +kernel
theorem own_pd0 : parseMethodDescriptor "()V" = some ⟨[], none⟩ := by decide +kernel
theorem d2_1 : decode prog_4_method_2_code 1 = .ok (.invokespecial 1, 3) := by decide +kernel
theorem d2_4 : decode prog_4_method_2_code 4 = .ok (.aload_n 0, 1) := by decide +kernel
theorem d2_5 : decode prog_4_method_2_code 5 = .ok (.iload_n 1, 1) := by decide +kernel
theorem d2_6 : decode prog_4_method_2_code 6 = .ok (.putfield 7, 3) := by decide +kernel
theorem d2_9 : decode prog_4_method_2_code 9 = .ok (.aload_n 0, 1) := by decide +kernel
theorem d2_10 : decode prog_4_method_2_code 10 = .ok (.iload_n 2, 1) := by decide +kernel
theorem d2_11 : decode prog_4_method_2_code 11 = .ok (.putfield 13, 3) := by decide +kernel
theorem d2_14 : decode prog_4_method_2_code 14 = .ok (.aload_n 0, 1) := by decide +kernel
theorem d2_15 : decode prog_4_method_2_code 15 = .ok (.iload_n 3, 1) := by decide +kernel
theorem d2_16 : decode prog_4_method_2_code 16 = .ok (.putfield 16, 3) := by decide +kernel
theorem d2_19 : decode prog_4_method_2_code 19 = .ok (.aload_n 0, 1) := by decide +kernel
theorem d2_20 : decode prog_4_method_2_code 20 = .ok (.aload 4, 2) := by decide +kernel
theorem d2_22 : decode prog_4_method_2_code 22 = .ok (.putfield 19, 3) := by decide +kernel
theorem d2_25 : decode prog_4_method_2_code 25 = .ok (.return_, 1) := by decide +kernel
def Q2 (Z : State) (a1 : Addr) (p1 : Int32) (p2 : Int32) (p3 : Int32) (a2 : Addr) (u0 : Value) (u1 : Value) (u2 : Value) (u3 : Value) (h0 : Heap) (n0 : Nat) (v : Option Value) (h : Heap) (L : List Loc) : Prop := v = none ∧ Fr n0 L ∧ Keep h0 h [a1] ∧ (Exa Z h a1 "com/example/buildwright/buildwright/engine/BuildResult") ∧ (Fld Z h a1 "com/example/buildwright/buildwright/engine/BuildResult" "ran" "I" (.int p1)) ∧ (Fld Z h a1 "com/example/buildwright/buildwright/engine/BuildResult" "cached" "I" (.int p2)) ∧ (Fld Z h a1 "com/example/buildwright/buildwright/engine/BuildResult" "failed" "I" (.int p3)) ∧ (Fld Z h a1 "com/example/buildwright/buildwright/engine/BuildResult" "tests" "Lcom/example/buildwright/buildwright/engine/TestResult;" (.ref a2))
set_option maxRecDepth 65536 in
set_option maxHeartbeats 40000000 in
theorem rm2 (l : Launch) (Z : State) (a0 : Array Value) (hw : ∀ d ∈ tables_1, d.before a0 Z = true) (ws : List Jvm.Cond) (a1 : Addr) (p1 : Int32) (p2 : Int32) (p3 : Int32) (a2 : Addr) (u0 : Value) (u1 : Value) (u2 : Value) (u3 : Value) (h0 : Heap) (n0 : Nat) (Z0 : n0 ≤ h0.size) (E_a1 : Exa Z h0 a1 "com/example/buildwright/buildwright/engine/BuildResult") (g_a1 : n0 ≤ a1) (F_ran_a1 : Fld Z h0 a1 "com/example/buildwright/buildwright/engine/BuildResult" "ran" "I" u0) (F_cached_a1 : Fld Z h0 a1 "com/example/buildwright/buildwright/engine/BuildResult" "cached" "I" u1) (F_failed_a1 : Fld Z h0 a1 "com/example/buildwright/buildwright/engine/BuildResult" "failed" "I" u2) (F_tests_a1 : Fld Z h0 a1 "com/example/buildwright/buildwright/engine/BuildResult" "tests" "Lcom/example/buildwright/buildwright/engine/TestResult;" u3) :
    MetFree l (⟨"com/example/buildwright/buildwright/engine/BuildResult", "<init>", "(IIILcom/example/buildwright/buildwright/engine/TestResult;)V"⟩ : MethodName) (head1 (Jvm.Cond.code (⟨"com/example/buildwright/buildwright/engine/BuildResult", "<init>", "(IIILcom/example/buildwright/buildwright/engine/TestResult;)V"⟩ : MethodName) prog_4_method_2_code 5 none :: ws) ({ frames := 2, cells := 0, slots := 0, locals := 24 } : Room)) (fun a U => a = #[(.ref a1), (.int p1), (.int p2), (.int p3), (.ref a2)] ∧ Z.Warmed39 U.vm ∧ U.heap = h0) (fun _ _ _ _ _ => True) (fun _ U o U' => ∃ v L, o = .returned v ∧ Q2 Z a1 p1 p2 p3 a2 u0 u1 u2 u3 h0 n0 v U'.heap L ∧ FrameEnd U o U' L ({ frames := 2, cells := 0, slots := 0, locals := 24 } : Room).cells ({ frames := 2, cells := 0, slots := 0, locals := 24 } : Room).slots) := by
  refine MetFree.of_bodySF (plainFor_of_name own_pn_com_example_buildwright_buildwright_engine_BuildResult) hisR ?_
  intro p e s m args below meth c s₁ Bd hml0 hP hK
  obtain ⟨rfl, hZ, hh⟩ := hP
  have hx := Bd.exec
  have hby := Bd.bytes
  have hlk := Bd.notSynchronized
  have hml : c.maxLocals = 5 := hml0
  have hown : s.vm.findClass "com/example/buildwright/buildwright/engine/BuildResult" = some m.cls := findClass_of_methodNamed Bd.named
  have hnm := (name_of_methodNamed Bd.named Bd.method).1
  have X0 : Stand p l e ({ frames := 2, cells := 0, slots := 0, locals := 24 } : Room) s m #[(.ref a1), (.int p1), (.int p2), (.int p3), (.ref a2)] below meth c s₁ [] 0 0 := Stand.of_body Bd
  have e0 : s₁.heap = h0 := by rw [← hh, Bd.state]; rfl
  have N0 := Fr.nil n0
  have K0 : Keep h0 h0 [a1] := Keep.refl _ _
  show Go p e below (KQ s below (Q2 Z a1 p1 p2 p3 a2 u0 u1 u2 u3 h0 n0) ({ frames := 2, cells := 0, slots := 0, locals := 24 } : Room).cells ({ frames := 2, cells := 0, slots := 0, locals := 24 } : Room).slots) _
  refine Go.body (T := s₁) (σ := s₁) (g' := (mkF m 0 #[.val (.ref a1), .val (.int p1), .val (.int p2), .val (.int p3), .val (.ref a2)] [])) (ef_2 m a1 p1 p2 p3 a2) ?_
  refine g_aloadN X0 hx (hb hby d2_0) 1 rfl (v := (.ref a1)) rfl rfl ?_
  obtain ⟨_, _, ⟨T2, L2, k2, n2⟩, -, X2, ⟨Lc2, hQ2, l2, y2, z2⟩, st2⟩ := X0.specialBack hx (y := (⟨"java/lang/Record", "<init>", "()V"⟩ : MethodName)) rfl hown (mvT hZ (hw _ (List.mem_of_getElem? (i := 12) rfl))) (mvT hZ (hw _ (List.mem_of_getElem? (i := 13) rfl))) (mvT hZ (hw _ (List.mem_of_getElem? (i := 16) rfl))) (by decide) (backOf (W := 0) (rm3 l Z a0 hw [] a1 h0 n0 Z0 ) hZ (hw _ (List.mem_of_getElem? (i := 16) rfl)) (hw _ (List.mem_of_getElem? (i := 15) rfl)) (by decide) (by decide)) (g := (mkF m 1 #[.val (.ref a1), .val (.int p1), .val (.int p2), .val (.int p3), .val (.ref a2)] [(.ref a1)])) rfl (by rw [hml]; rfl) (Steps.refl _) (a := a1) (argsL := []) (rest := []) (lenOf own_pd0 rfl) rfl (by show 2 * 0 + _ ≤ _; exact Nat.le_of_eq rfl) (hb hby d2_1) (fun _ _ => ⟨rfl, e0, (by decide : 0 + 0 ≤ _), (by decide : 0 + 0 ≤ _)⟩)
  dsimp only [Pt.U, Pt.locs, Pt.cells, Pt.slots] at X2 l2 y2 z2 st2 hQ2
  subst l2 y2 z2
  obtain ⟨rfl, Nq2, e2⟩ := hQ2
  refine Go.tr st2 ?_
  have N2 := Fr.app N0 Nq2
  show Go p e below _ (T2.setTop (mkF m 4 #[.val (.ref a1), .val (.int p1), .val (.int p2), .val (.int p3), .val (.ref a2)] []))
  refine g_aloadN X2 hx (hb hby d2_4) 5 rfl (v := (.ref a1)) rfl rfl ?_
  refine g_iloadN X2 hx (hb hby d2_5) 6 rfl (v := p1) rfl ?_
  obtain ⟨T3, h3, X3, e3, W3, st3⟩ := putF X2 hx hZ hown (host := "") (Or.inl (hw _ (List.mem_of_getElem? (i := 20) rfl))) Via.refl e2 F_ran_a1 E_a1 (Or.inr ⟨(hw _ (List.mem_of_getElem? (i := 21) rfl)), rfl, hnm⟩) (hw _ (List.mem_of_getElem? (i := 1) rfl)) (ty := .int) (by decide) rfl rfl (g := (mkF m 6 #[.val (.ref a1), .val (.int p1), .val (.int p2), .val (.int p3), .val (.ref a2)] [(.int p1), (.ref a1)])) rfl rfl (hb hby d2_6)
  refine Go.st st3 ?_
  have E_a1_4 : Exa Z h3 a1 "com/example/buildwright/buildwright/engine/BuildResult" := Exa.wr W3 E_a1
  have F_cached_a1_4 : Fld Z h3 a1 "com/example/buildwright/buildwright/engine/BuildResult" "cached" "I" u1 := Fld.other W3 F_cached_a1 (Or.inr (slot_ne (Or.inr (hw _ (List.mem_of_getElem? (i := 23) rfl))) (Or.inr (hw _ (List.mem_of_getElem? (i := 21) rfl))) (by decide) (t := .int) (t' := .int) (by decide) (by decide)))
  have F_failed_a1_4 : Fld Z h3 a1 "com/example/buildwright/buildwright/engine/BuildResult" "failed" "I" u2 := Fld.other W3 F_failed_a1 (Or.inr (slot_ne (Or.inr (hw _ (List.mem_of_getElem? (i := 25) rfl))) (Or.inr (hw _ (List.mem_of_getElem? (i := 21) rfl))) (by decide) (t := .int) (t' := .int) (by decide) (by decide)))
  have F_tests_a1_4 : Fld Z h3 a1 "com/example/buildwright/buildwright/engine/BuildResult" "tests" "Lcom/example/buildwright/buildwright/engine/TestResult;" u3 := Fld.other W3 F_tests_a1 (Or.inr (slot_ne (Or.inr (hw _ (List.mem_of_getElem? (i := 27) rfl))) (Or.inr (hw _ (List.mem_of_getElem? (i := 21) rfl))) (by decide) (t := (.object "com/example/buildwright/buildwright/engine/TestResult")) (t' := .int) (by decide) (by decide)))
  have F_ran_a1_3w : Fld Z h3 a1 "com/example/buildwright/buildwright/engine/BuildResult" "ran" "I" (.int p1) := Fld.same W3 F_ran_a1
  have K3 : Keep h0 h3 [a1] := Keep.wr K0 W3 (Or.inl (List.mem_of_getElem? (i := 0) rfl))
  have N3 := Fr.snoc X3 N2 g_a1
  have Zs3 : n0 ≤ h3.size := by rw [W3.size]; exact Z0
  show Go p e below _ (T3.setTop (mkF m 9 #[.val (.ref a1), .val (.int p1), .val (.int p2), .val (.int p3), .val (.ref a2)] []))
  refine g_aloadN X3 hx (hb hby d2_9) 10 rfl (v := (.ref a1)) rfl rfl ?_
  refine g_iloadN X3 hx (hb hby d2_10) 11 rfl (v := p2) rfl ?_
  obtain ⟨T5, h5, X5, e5, W5, st5⟩ := putF X3 hx hZ hown (host := "") (Or.inl (hw _ (List.mem_of_getElem? (i := 22) rfl))) Via.refl e3 F_cached_a1_4 E_a1_4 (Or.inr ⟨(hw _ (List.mem_of_getElem? (i := 23) rfl)), rfl, hnm⟩) (hw _ (List.mem_of_getElem? (i := 1) rfl)) (ty := .int) (by decide) rfl rfl (g := (mkF m 11 #[.val (.ref a1), .val (.int p1), .val (.int p2), .val (.int p3), .val (.ref a2)] [(.int p2), (.ref a1)])) rfl rfl (hb hby d2_11)
  refine Go.st st5 ?_
  have E_a1_6 : Exa Z h5 a1 "com/example/buildwright/buildwright/engine/BuildResult" := Exa.wr W5 E_a1_4
  have F_failed_a1_6 : Fld Z h5 a1 "com/example/buildwright/buildwright/engine/BuildResult" "failed" "I" u2 := Fld.other W5 F_failed_a1_4 (Or.inr (slot_ne (Or.inr (hw _ (List.mem_of_getElem? (i := 25) rfl))) (Or.inr (hw _ (List.mem_of_getElem? (i := 23) rfl))) (by decide) (t := .int) (t' := .int) (by decide) (by decide)))
  have F_tests_a1_6 : Fld Z h5 a1 "com/example/buildwright/buildwright/engine/BuildResult" "tests" "Lcom/example/buildwright/buildwright/engine/TestResult;" u3 := Fld.other W5 F_tests_a1_4 (Or.inr (slot_ne (Or.inr (hw _ (List.mem_of_getElem? (i := 27) rfl))) (Or.inr (hw _ (List.mem_of_getElem? (i := 23) rfl))) (by decide) (t := (.object "com/example/buildwright/buildwright/engine/TestResult")) (t' := .int) (by decide) (by decide)))
  have F_ran_a1_6 : Fld Z h5 a1 "com/example/buildwright/buildwright/engine/BuildResult" "ran" "I" (.int p1) := Fld.other W5 F_ran_a1_3w (Or.inr (slot_ne (Or.inr (hw _ (List.mem_of_getElem? (i := 21) rfl))) (Or.inr (hw _ (List.mem_of_getElem? (i := 23) rfl))) (by decide) (t := .int) (t' := .int) (by decide) (by decide)))
  have F_cached_a1_5w : Fld Z h5 a1 "com/example/buildwright/buildwright/engine/BuildResult" "cached" "I" (.int p2) := Fld.same W5 F_cached_a1_4
  have K5 : Keep h0 h5 [a1] := Keep.wr K3 W5 (Or.inl (List.mem_of_getElem? (i := 0) rfl))
  have N5 := Fr.snoc X5 N3 g_a1
  have Zs5 : n0 ≤ h5.size := by rw [W5.size]; exact Zs3
  show Go p e below _ (T5.setTop (mkF m 14 #[.val (.ref a1), .val (.int p1), .val (.int p2), .val (.int p3), .val (.ref a2)] []))
  refine g_aloadN X5 hx (hb hby d2_14) 15 rfl (v := (.ref a1)) rfl rfl ?_
  refine g_iloadN X5 hx (hb hby d2_15) 16 rfl (v := p3) rfl ?_
  obtain ⟨T7, h7, X7, e7, W7, st7⟩ := putF X5 hx hZ hown (host := "") (Or.inl (hw _ (List.mem_of_getElem? (i := 24) rfl))) Via.refl e5 F_failed_a1_6 E_a1_6 (Or.inr ⟨(hw _ (List.mem_of_getElem? (i := 25) rfl)), rfl, hnm⟩) (hw _ (List.mem_of_getElem? (i := 1) rfl)) (ty := .int) (by decide) rfl rfl (g := (mkF m 16 #[.val (.ref a1), .val (.int p1), .val (.int p2), .val (.int p3), .val (.ref a2)] [(.int p3), (.ref a1)])) rfl rfl (hb hby d2_16)
  refine Go.st st7 ?_
  have E_a1_8 : Exa Z h7 a1 "com/example/buildwright/buildwright/engine/BuildResult" := Exa.wr W7 E_a1_6
  have F_tests_a1_8 : Fld Z h7 a1 "com/example/buildwright/buildwright/engine/BuildResult" "tests" "Lcom/example/buildwright/buildwright/engine/TestResult;" u3 := Fld.other W7 F_tests_a1_6 (Or.inr (slot_ne (Or.inr (hw _ (List.mem_of_getElem? (i := 27) rfl))) (Or.inr (hw _ (List.mem_of_getElem? (i := 25) rfl))) (by decide) (t := (.object "com/example/buildwright/buildwright/engine/TestResult")) (t' := .int) (by decide) (by decide)))
  have F_ran_a1_8 : Fld Z h7 a1 "com/example/buildwright/buildwright/engine/BuildResult" "ran" "I" (.int p1) := Fld.other W7 F_ran_a1_6 (Or.inr (slot_ne (Or.inr (hw _ (List.mem_of_getElem? (i := 21) rfl))) (Or.inr (hw _ (List.mem_of_getElem? (i := 25) rfl))) (by decide) (t := .int) (t' := .int) (by decide) (by decide)))
  have F_cached_a1_8 : Fld Z h7 a1 "com/example/buildwright/buildwright/engine/BuildResult" "cached" "I" (.int p2) := Fld.other W7 F_cached_a1_5w (Or.inr (slot_ne (Or.inr (hw _ (List.mem_of_getElem? (i := 23) rfl))) (Or.inr (hw _ (List.mem_of_getElem? (i := 25) rfl))) (by decide) (t := .int) (t' := .int) (by decide) (by decide)))
  have F_failed_a1_7w : Fld Z h7 a1 "com/example/buildwright/buildwright/engine/BuildResult" "failed" "I" (.int p3) := Fld.same W7 F_failed_a1_6
  have K7 : Keep h0 h7 [a1] := Keep.wr K5 W7 (Or.inl (List.mem_of_getElem? (i := 0) rfl))
  have N7 := Fr.snoc X7 N5 g_a1
  have Zs7 : n0 ≤ h7.size := by rw [W7.size]; exact Zs5
  show Go p e below _ (T7.setTop (mkF m 19 #[.val (.ref a1), .val (.int p1), .val (.int p2), .val (.int p3), .val (.ref a2)] []))
  refine g_aloadN X7 hx (hb hby d2_19) 20 rfl (v := (.ref a1)) rfl rfl ?_
  refine g_aload X7 hx (hb hby d2_20) 22 rfl (v := (.ref a2)) rfl rfl ?_
  obtain ⟨T9, h9, X9, e9, W9, st9⟩ := putF X7 hx hZ hown (host := "") (Or.inl (hw _ (List.mem_of_getElem? (i := 26) rfl))) Via.refl e7 F_tests_a1_8 E_a1_8 (Or.inr ⟨(hw _ (List.mem_of_getElem? (i := 27) rfl)), rfl, hnm⟩) (hw _ (List.mem_of_getElem? (i := 1) rfl)) (ty := (.object "com/example/buildwright/buildwright/engine/TestResult")) (by decide) rfl rfl (g := (mkF m 22 #[.val (.ref a1), .val (.int p1), .val (.int p2), .val (.int p3), .val (.ref a2)] [(.ref a2), (.ref a1)])) rfl rfl (hb hby d2_22)
  refine Go.st st9 ?_
  have E_a1_10 : Exa Z h9 a1 "com/example/buildwright/buildwright/engine/BuildResult" := Exa.wr W9 E_a1_8
  have F_ran_a1_10 : Fld Z h9 a1 "com/example/buildwright/buildwright/engine/BuildResult" "ran" "I" (.int p1) := Fld.other W9 F_ran_a1_8 (Or.inr (slot_ne (Or.inr (hw _ (List.mem_of_getElem? (i := 21) rfl))) (Or.inr (hw _ (List.mem_of_getElem? (i := 27) rfl))) (by decide) (t := .int) (t' := (.object "com/example/buildwright/buildwright/engine/TestResult")) (by decide) (by decide)))
  have F_cached_a1_10 : Fld Z h9 a1 "com/example/buildwright/buildwright/engine/BuildResult" "cached" "I" (.int p2) := Fld.other W9 F_cached_a1_8 (Or.inr (slot_ne (Or.inr (hw _ (List.mem_of_getElem? (i := 23) rfl))) (Or.inr (hw _ (List.mem_of_getElem? (i := 27) rfl))) (by decide) (t := .int) (t' := (.object "com/example/buildwright/buildwright/engine/TestResult")) (by decide) (by decide)))
  have F_failed_a1_10 : Fld Z h9 a1 "com/example/buildwright/buildwright/engine/BuildResult" "failed" "I" (.int p3) := Fld.other W9 F_failed_a1_7w (Or.inr (slot_ne (Or.inr (hw _ (List.mem_of_getElem? (i := 25) rfl))) (Or.inr (hw _ (List.mem_of_getElem? (i := 27) rfl))) (by decide) (t := .int) (t' := (.object "com/example/buildwright/buildwright/engine/TestResult")) (by decide) (by decide)))
  have F_tests_a1_9w : Fld Z h9 a1 "com/example/buildwright/buildwright/engine/BuildResult" "tests" "Lcom/example/buildwright/buildwright/engine/TestResult;" (.ref a2) := Fld.same W9 F_tests_a1_8
  have K9 : Keep h0 h9 [a1] := Keep.wr K7 W9 (Or.inl (List.mem_of_getElem? (i := 0) rfl))
  have N9 := Fr.snoc X9 N7 g_a1
  have Zs9 : n0 ≤ h9.size := by rw [W9.size]; exact Zs7
  show Go p e below _ (T9.setTop (mkF m 25 #[.val (.ref a1), .val (.int p1), .val (.int p2), .val (.int p3), .val (.ref a2)] []))
  refine Go.retV X9 hx hlk Bd.returns (hb hby d2_25) (by decide) (by decide) ?_
  show Q2 Z a1 p1 p2 p3 a2 u0 u1 u2 u3 h0 n0 _ T9.heap _
  rw [e9]
  exact ⟨rfl, N9, K9, E_a1_10, F_ran_a1_10, F_cached_a1_10, F_failed_a1_10, F_tests_a1_9w⟩
theorem ef_1 (m : MethodId) (x0 : Addr) (x1 : Int32) (x2 : Int32) (x3 : Int32) : entryFrame m #[(.ref x0), (.int x1), (.int x2), (.int x3)] 4 = mkF m 0 #[.val (.ref x0), .val (.int x1), .val (.int x2), .val (.int x3)] [] := by first | (simp [entryFrame, mkF, argsToLocals, Value.category]; done) | rfl
theorem d1_0 : decode prog_4_method_1_code 0 = .ok (.aload_n 0, 1) := by decide +kernel
theorem d1_1 : decode prog_4_method_1_code 1 = .ok (.iload_n 1, 1) := by decide +kernel
theorem d1_2 : decode prog_4_method_1_code 2 = .ok (.iload_n 2, 1) := by decide +kernel
theorem d1_3 : decode prog_4_method_1_code 3 = .ok (.iload_n 3, 1) := by decide +kernel
theorem d1_4 : decode prog_4_method_1_code 4 = .ok (.getstatic 23, 3) := by decide +kernel
theorem own_pd1 : parseMethodDescriptor "(IIILcom/example/buildwright/buildwright/engine/TestResult;)V" = some ⟨[.int, .int, .int, (.object "com/example/buildwright/buildwright/engine/TestResult")], none⟩ := by decide +kernel
theorem d1_7 : decode prog_4_method_1_code 7 = .ok (.invokespecial 28, 3) := by decide +kernel
theorem d1_10 : decode prog_4_method_1_code 10 = .ok (.return_, 1) := by decide +kernel
def Q1 (Z : State) (a1 : Addr) (p1 : Int32) (p2 : Int32) (p3 : Int32) (u0 : Value) (u1 : Value) (u2 : Value) (u3 : Value) (t_NONE : Addr) (h0 : Heap) (n0 : Nat) (v : Option Value) (h : Heap) (L : List Loc) : Prop := v = none ∧ Fr n0 L ∧ Keep h0 h [a1] ∧ (Exa Z h a1 "com/example/buildwright/buildwright/engine/BuildResult") ∧ (Fld Z h a1 "com/example/buildwright/buildwright/engine/BuildResult" "ran" "I" (.int p1)) ∧ (Fld Z h a1 "com/example/buildwright/buildwright/engine/BuildResult" "cached" "I" (.int p2)) ∧ (Fld Z h a1 "com/example/buildwright/buildwright/engine/BuildResult" "failed" "I" (.int p3)) ∧ (Fld Z h a1 "com/example/buildwright/buildwright/engine/BuildResult" "tests" "Lcom/example/buildwright/buildwright/engine/TestResult;" (.ref t_NONE))
set_option maxRecDepth 65536 in
set_option maxHeartbeats 40000000 in
theorem rm1 (l : Launch) (Z : State) (a0 : Array Value) (hw : ∀ d ∈ tables_1, d.before a0 Z = true) (ws : List Jvm.Cond) (a1 : Addr) (p1 : Int32) (p2 : Int32) (p3 : Int32) (u0 : Value) (u1 : Value) (u2 : Value) (u3 : Value) (t_NONE : Addr) (h0 : Heap) (n0 : Nat) (Z0 : n0 ≤ h0.size) (E_a1 : Exa Z h0 a1 "com/example/buildwright/buildwright/engine/BuildResult") (g_a1 : n0 ≤ a1) (S_NONE : Sta Z h0 "com/example/buildwright/buildwright/engine/TestResult" "NONE" "Lcom/example/buildwright/buildwright/engine/TestResult;" (.ref t_NONE)) (F_ran_a1 : Fld Z h0 a1 "com/example/buildwright/buildwright/engine/BuildResult" "ran" "I" u0) (F_cached_a1 : Fld Z h0 a1 "com/example/buildwright/buildwright/engine/BuildResult" "cached" "I" u1) (F_failed_a1 : Fld Z h0 a1 "com/example/buildwright/buildwright/engine/BuildResult" "failed" "I" u2) (F_tests_a1 : Fld Z h0 a1 "com/example/buildwright/buildwright/engine/BuildResult" "tests" "Lcom/example/buildwright/buildwright/engine/TestResult;" u3) :
    MetFree l (⟨"com/example/buildwright/buildwright/engine/BuildResult", "<init>", "(III)V"⟩ : MethodName) (head1 (Jvm.Cond.code (⟨"com/example/buildwright/buildwright/engine/BuildResult", "<init>", "(III)V"⟩ : MethodName) prog_4_method_1_code 4 none :: ws) ({ frames := 3, cells := 0, slots := 0, locals := 40 } : Room)) (fun a U => a = #[(.ref a1), (.int p1), (.int p2), (.int p3)] ∧ Z.Warmed39 U.vm ∧ U.heap = h0) (fun _ _ _ _ _ => True) (fun _ U o U' => ∃ v L, o = .returned v ∧ Q1 Z a1 p1 p2 p3 u0 u1 u2 u3 t_NONE h0 n0 v U'.heap L ∧ FrameEnd U o U' L ({ frames := 3, cells := 0, slots := 0, locals := 40 } : Room).cells ({ frames := 3, cells := 0, slots := 0, locals := 40 } : Room).slots) := by
  refine MetFree.of_bodySF (plainFor_of_name own_pn_com_example_buildwright_buildwright_engine_BuildResult) hisR ?_
  intro p e s m args below meth c s₁ Bd hml0 hP hK
  obtain ⟨rfl, hZ, hh⟩ := hP
  have hx := Bd.exec
  have hby := Bd.bytes
  have hlk := Bd.notSynchronized
  have hml : c.maxLocals = 4 := hml0
  have hown : s.vm.findClass "com/example/buildwright/buildwright/engine/BuildResult" = some m.cls := findClass_of_methodNamed Bd.named
  have hnm := (name_of_methodNamed Bd.named Bd.method).1
  have X0 : Stand p l e ({ frames := 3, cells := 0, slots := 0, locals := 40 } : Room) s m #[(.ref a1), (.int p1), (.int p2), (.int p3)] below meth c s₁ [] 0 0 := Stand.of_body Bd
  have e0 : s₁.heap = h0 := by rw [← hh, Bd.state]; rfl
  have N0 := Fr.nil n0
  have K0 : Keep h0 h0 [a1] := Keep.refl _ _
  show Go p e below (KQ s below (Q1 Z a1 p1 p2 p3 u0 u1 u2 u3 t_NONE h0 n0) ({ frames := 3, cells := 0, slots := 0, locals := 40 } : Room).cells ({ frames := 3, cells := 0, slots := 0, locals := 40 } : Room).slots) _
  refine Go.body (T := s₁) (σ := s₁) (g' := (mkF m 0 #[.val (.ref a1), .val (.int p1), .val (.int p2), .val (.int p3)] [])) (ef_1 m a1 p1 p2 p3) ?_
  refine g_aloadN X0 hx (hb hby d1_0) 1 rfl (v := (.ref a1)) rfl rfl ?_
  refine g_iloadN X0 hx (hb hby d1_1) 2 rfl (v := p1) rfl ?_
  refine g_iloadN X0 hx (hb hby d1_2) 3 rfl (v := p2) rfl ?_
  refine g_iloadN X0 hx (hb hby d1_3) 4 rfl (v := p3) rfl ?_
  obtain ⟨T11, X11, e11, st11⟩ := getS2 X0 hx hZ hown (host := "") (Or.inl (hw _ (List.mem_of_getElem? (i := 6) rfl))) Via.refl e0 S_NONE (g := (mkF m 4 #[.val (.ref a1), .val (.int p1), .val (.int p2), .val (.int p3)] [(.int p3), (.int p2), (.int p1), (.ref a1)])) rfl (hb hby d1_4)
  refine Go.st st11 ?_
  show Go p e below _ (T11.setTop (mkF m 7 #[.val (.ref a1), .val (.int p1), .val (.int p2), .val (.int p3)] [(.ref t_NONE), (.int p3), (.int p2), (.int p1), (.ref a1)]))
  obtain ⟨_, _, ⟨T12, L12, k12, n12⟩, -, X12, ⟨Lc12, hQ12, l12, y12, z12⟩, st12⟩ := X11.specialBack hx (y := (⟨"com/example/buildwright/buildwright/engine/BuildResult", "<init>", "(IIILcom/example/buildwright/buildwright/engine/TestResult;)V"⟩ : MethodName)) rfl hown (mvT hZ (hw _ (List.mem_of_getElem? (i := 9) rfl))) (mvT hZ (hw _ (List.mem_of_getElem? (i := 10) rfl))) (mvT hZ (hw _ (List.mem_of_getElem? (i := 11) rfl))) (by decide) (backOf (W := 0) (rm2 l Z a0 hw [] a1 p1 p2 p3 t_NONE u0 u1 u2 u3 h0 n0 Z0 E_a1 g_a1 F_ran_a1 F_cached_a1 F_failed_a1 F_tests_a1) hZ (hw _ (List.mem_of_getElem? (i := 11) rfl)) (hw _ (List.mem_of_getElem? (i := 2) rfl)) (by decide) (by decide)) (g := (mkF m 7 #[.val (.ref a1), .val (.int p1), .val (.int p2), .val (.int p3)] [(.ref t_NONE), (.int p3), (.int p2), (.int p1), (.ref a1)])) rfl (by rw [hml]; rfl) (Steps.refl _) (a := a1) (argsL := [(.int p1), (.int p2), (.int p3), (.ref t_NONE)]) (rest := []) (lenOf own_pd1 rfl) rfl (by show 2 * 0 + _ ≤ _; exact Nat.le_of_eq rfl) (hb hby d1_7) (fun _ _ => ⟨rfl, e11, (by decide : 0 + 0 ≤ _), (by decide : 0 + 0 ≤ _)⟩)
  dsimp only [Pt.U, Pt.locs, Pt.cells, Pt.slots] at X12 l12 y12 z12 st12 hQ12
  subst l12 y12 z12
  obtain ⟨rfl, Nq12, Kq12, f12_0, f12_1, f12_2, f12_3, f12_4⟩ := hQ12
  refine Go.tr st12 ?_
  have N12 := Fr.app N0 Nq12
  have E_a1_13 : Exa Z T12.heap a1 "com/example/buildwright/buildwright/engine/BuildResult" := Exa.keep E_a1 Kq12
  have S_NONE_13 : Sta Z T12.heap "com/example/buildwright/buildwright/engine/TestResult" "NONE" "Lcom/example/buildwright/buildwright/engine/TestResult;" (.ref t_NONE) := own_Sta_keep S_NONE Kq12 (allS (own_ns E_a1) all0)
  have K12 : Keep h0 T12.heap [a1] := Keep.trans K0 Kq12 (allS (Or.inl (List.mem_of_getElem? (i := 0) rfl)) all0)
  have Zs12 : n0 ≤ T12.heap.size := Nat.le_trans Z0 Kq12.1
  show Go p e below _ (T12.setTop (mkF m 10 #[.val (.ref a1), .val (.int p1), .val (.int p2), .val (.int p3)] []))
  refine Go.retV X12 hx hlk Bd.returns (hb hby d1_10) (by decide) (by decide) ?_
  show Q1 Z a1 p1 p2 p3 u0 u1 u2 u3 t_NONE h0 n0 _ T12.heap _
  exact ⟨rfl, N12, K12, f12_0, f12_1, f12_2, f12_3, f12_4⟩
theorem own_pn_com_example_buildwright_buildwright_engine_TestResult : plainName "com/example/buildwright/buildwright/engine/TestResult" = true := by first | (simp [plainName, overriddenIn]; done) | decide +kernel
theorem ef_5 (m : MethodId) (x0 : Addr) (x1 : Int32) (x2 : Int32) (x3 : Int32) (x4 : Int32) : entryFrame m #[(.ref x0), (.int x1), (.int x2), (.int x3), (.int x4)] 5 = mkF m 0 #[.val (.ref x0), .val (.int x1), .val (.int x2), .val (.int x3), .val (.int x4)] [] := by first | (simp [entryFrame, mkF, argsToLocals, Value.category]; done) | rfl
theorem d5_0 : decode prog_27_method_1_code 0 = .ok (.aload_n 0, 1) := by decide +kernel
theorem d5_1 : decode prog_27_method_1_code 1 = .ok (.invokespecial 1, 3) := by decide +kernel
theorem d5_4 : decode prog_27_method_1_code 4 = .ok (.aload_n 0, 1) := by decide +kernel
theorem d5_5 : decode prog_27_method_1_code 5 = .ok (.iload_n 1, 1) := by decide +kernel
theorem d5_6 : decode prog_27_method_1_code 6 = .ok (.putfield 7, 3) := by decide +kernel
theorem d5_9 : decode prog_27_method_1_code 9 = .ok (.aload_n 0, 1) := by decide +kernel
theorem d5_10 : decode prog_27_method_1_code 10 = .ok (.iload_n 2, 1) := by decide +kernel
theorem d5_11 : decode prog_27_method_1_code 11 = .ok (.putfield 13, 3) := by decide +kernel
theorem d5_14 : decode prog_27_method_1_code 14 = .ok (.aload_n 0, 1) := by decide +kernel
theorem d5_15 : decode prog_27_method_1_code 15 = .ok (.iload_n 3, 1) := by decide +kernel
theorem d5_16 : decode prog_27_method_1_code 16 = .ok (.putfield 16, 3) := by decide +kernel
theorem d5_19 : decode prog_27_method_1_code 19 = .ok (.aload_n 0, 1) := by decide +kernel
theorem d5_20 : decode prog_27_method_1_code 20 = .ok (.iload 4, 2) := by decide +kernel
theorem d5_22 : decode prog_27_method_1_code 22 = .ok (.putfield 19, 3) := by decide +kernel
theorem d5_25 : decode prog_27_method_1_code 25 = .ok (.return_, 1) := by decide +kernel
def Q5 (Z : State) (a1 : Addr) (p1 : Int32) (p2 : Int32) (p3 : Int32) (p4 : Int32) (u0 : Value) (u1 : Value) (u2 : Value) (u3 : Value) (h0 : Heap) (n0 : Nat) (v : Option Value) (h : Heap) (L : List Loc) : Prop := v = none ∧ Fr n0 L ∧ Keep h0 h [a1] ∧ (Exa Z h a1 "com/example/buildwright/buildwright/engine/TestResult") ∧ (Fld Z h a1 "com/example/buildwright/buildwright/engine/TestResult" "passed" "I" (.int p1)) ∧ (Fld Z h a1 "com/example/buildwright/buildwright/engine/TestResult" "failed" "I" (.int p2)) ∧ (Fld Z h a1 "com/example/buildwright/buildwright/engine/TestResult" "cached" "I" (.int p3)) ∧ (Fld Z h a1 "com/example/buildwright/buildwright/engine/TestResult" "flaky" "I" (.int p4))
set_option maxRecDepth 65536 in
set_option maxHeartbeats 40000000 in
theorem rm5 (l : Launch) (Z : State) (a0 : Array Value) (hw : ∀ d ∈ tables_1, d.before a0 Z = true) (ws : List Jvm.Cond) (a1 : Addr) (p1 : Int32) (p2 : Int32) (p3 : Int32) (p4 : Int32) (u0 : Value) (u1 : Value) (u2 : Value) (u3 : Value) (h0 : Heap) (n0 : Nat) (Z0 : n0 ≤ h0.size) (E_a1 : Exa Z h0 a1 "com/example/buildwright/buildwright/engine/TestResult") (g_a1 : n0 ≤ a1) (F_passed_a1 : Fld Z h0 a1 "com/example/buildwright/buildwright/engine/TestResult" "passed" "I" u0) (F_failed_a1 : Fld Z h0 a1 "com/example/buildwright/buildwright/engine/TestResult" "failed" "I" u1) (F_cached_a1 : Fld Z h0 a1 "com/example/buildwright/buildwright/engine/TestResult" "cached" "I" u2) (F_flaky_a1 : Fld Z h0 a1 "com/example/buildwright/buildwright/engine/TestResult" "flaky" "I" u3) :
    MetFree l (⟨"com/example/buildwright/buildwright/engine/TestResult", "<init>", "(IIII)V"⟩ : MethodName) (head1 (Jvm.Cond.code (⟨"com/example/buildwright/buildwright/engine/TestResult", "<init>", "(IIII)V"⟩ : MethodName) prog_27_method_1_code 5 none :: ws) ({ frames := 2, cells := 0, slots := 0, locals := 24 } : Room)) (fun a U => a = #[(.ref a1), (.int p1), (.int p2), (.int p3), (.int p4)] ∧ Z.Warmed39 U.vm ∧ U.heap = h0) (fun _ _ _ _ _ => True) (fun _ U o U' => ∃ v L, o = .returned v ∧ Q5 Z a1 p1 p2 p3 p4 u0 u1 u2 u3 h0 n0 v U'.heap L ∧ FrameEnd U o U' L ({ frames := 2, cells := 0, slots := 0, locals := 24 } : Room).cells ({ frames := 2, cells := 0, slots := 0, locals := 24 } : Room).slots) := by
  refine MetFree.of_bodySF (plainFor_of_name own_pn_com_example_buildwright_buildwright_engine_TestResult) hisR ?_
  intro p e s m args below meth c s₁ Bd hml0 hP hK
  obtain ⟨rfl, hZ, hh⟩ := hP
  have hx := Bd.exec
  have hby := Bd.bytes
  have hlk := Bd.notSynchronized
  have hml : c.maxLocals = 5 := hml0
  have hown : s.vm.findClass "com/example/buildwright/buildwright/engine/TestResult" = some m.cls := findClass_of_methodNamed Bd.named
  have hnm := (name_of_methodNamed Bd.named Bd.method).1
  have X0 : Stand p l e ({ frames := 2, cells := 0, slots := 0, locals := 24 } : Room) s m #[(.ref a1), (.int p1), (.int p2), (.int p3), (.int p4)] below meth c s₁ [] 0 0 := Stand.of_body Bd
  have e0 : s₁.heap = h0 := by rw [← hh, Bd.state]; rfl
  have N0 := Fr.nil n0
  have K0 : Keep h0 h0 [a1] := Keep.refl _ _
  show Go p e below (KQ s below (Q5 Z a1 p1 p2 p3 p4 u0 u1 u2 u3 h0 n0) ({ frames := 2, cells := 0, slots := 0, locals := 24 } : Room).cells ({ frames := 2, cells := 0, slots := 0, locals := 24 } : Room).slots) _
  refine Go.body (T := s₁) (σ := s₁) (g' := (mkF m 0 #[.val (.ref a1), .val (.int p1), .val (.int p2), .val (.int p3), .val (.int p4)] [])) (ef_5 m a1 p1 p2 p3 p4) ?_
  refine g_aloadN X0 hx (hb hby d5_0) 1 rfl (v := (.ref a1)) rfl rfl ?_
  obtain ⟨_, _, ⟨T14, L14, k14, n14⟩, -, X14, ⟨Lc14, hQ14, l14, y14, z14⟩, st14⟩ := X0.specialBack hx (y := (⟨"java/lang/Record", "<init>", "()V"⟩ : MethodName)) rfl hown (mvT hZ (hw _ (List.mem_of_getElem? (i := 33) rfl))) (mvT hZ (hw _ (List.mem_of_getElem? (i := 13) rfl))) (mvT hZ (hw _ (List.mem_of_getElem? (i := 16) rfl))) (by decide) (backOf (W := 0) (rm3 l Z a0 hw [] a1 h0 n0 Z0 ) hZ (hw _ (List.mem_of_getElem? (i := 16) rfl)) (hw _ (List.mem_of_getElem? (i := 15) rfl)) (by decide) (by decide)) (g := (mkF m 1 #[.val (.ref a1), .val (.int p1), .val (.int p2), .val (.int p3), .val (.int p4)] [(.ref a1)])) rfl (by rw [hml]; rfl) (Steps.refl _) (a := a1) (argsL := []) (rest := []) (lenOf own_pd0 rfl) rfl (by show 2 * 0 + _ ≤ _; exact Nat.le_of_eq rfl) (hb hby d5_1) (fun _ _ => ⟨rfl, e0, (by decide : 0 + 0 ≤ _), (by decide : 0 + 0 ≤ _)⟩)
  dsimp only [Pt.U, Pt.locs, Pt.cells, Pt.slots] at X14 l14 y14 z14 st14 hQ14
  subst l14 y14 z14
  obtain ⟨rfl, Nq14, e14⟩ := hQ14
  refine Go.tr st14 ?_
  have N14 := Fr.app N0 Nq14
  show Go p e below _ (T14.setTop (mkF m 4 #[.val (.ref a1), .val (.int p1), .val (.int p2), .val (.int p3), .val (.int p4)] []))
  refine g_aloadN X14 hx (hb hby d5_4) 5 rfl (v := (.ref a1)) rfl rfl ?_
  refine g_iloadN X14 hx (hb hby d5_5) 6 rfl (v := p1) rfl ?_
  obtain ⟨T15, h15, X15, e15, W15, st15⟩ := putF X14 hx hZ hown (host := "") (Or.inl (hw _ (List.mem_of_getElem? (i := 34) rfl))) Via.refl e14 F_passed_a1 E_a1 (Or.inr ⟨(hw _ (List.mem_of_getElem? (i := 35) rfl)), rfl, hnm⟩) (hw _ (List.mem_of_getElem? (i := 29) rfl)) (ty := .int) (by decide) rfl rfl (g := (mkF m 6 #[.val (.ref a1), .val (.int p1), .val (.int p2), .val (.int p3), .val (.int p4)] [(.int p1), (.ref a1)])) rfl rfl (hb hby d5_6)
  refine Go.st st15 ?_
  have E_a1_16 : Exa Z h15 a1 "com/example/buildwright/buildwright/engine/TestResult" := Exa.wr W15 E_a1
  have F_failed_a1_16 : Fld Z h15 a1 "com/example/buildwright/buildwright/engine/TestResult" "failed" "I" u1 := Fld.other W15 F_failed_a1 (Or.inr (slot_ne (Or.inr (hw _ (List.mem_of_getElem? (i := 37) rfl))) (Or.inr (hw _ (List.mem_of_getElem? (i := 35) rfl))) (by decide) (t := .int) (t' := .int) (by decide) (by decide)))
  have F_cached_a1_16 : Fld Z h15 a1 "com/example/buildwright/buildwright/engine/TestResult" "cached" "I" u2 := Fld.other W15 F_cached_a1 (Or.inr (slot_ne (Or.inr (hw _ (List.mem_of_getElem? (i := 39) rfl))) (Or.inr (hw _ (List.mem_of_getElem? (i := 35) rfl))) (by decide) (t := .int) (t' := .int) (by decide) (by decide)))
  have F_flaky_a1_16 : Fld Z h15 a1 "com/example/buildwright/buildwright/engine/TestResult" "flaky" "I" u3 := Fld.other W15 F_flaky_a1 (Or.inr (slot_ne (Or.inr (hw _ (List.mem_of_getElem? (i := 41) rfl))) (Or.inr (hw _ (List.mem_of_getElem? (i := 35) rfl))) (by decide) (t := .int) (t' := .int) (by decide) (by decide)))
  have F_passed_a1_15w : Fld Z h15 a1 "com/example/buildwright/buildwright/engine/TestResult" "passed" "I" (.int p1) := Fld.same W15 F_passed_a1
  have K15 : Keep h0 h15 [a1] := Keep.wr K0 W15 (Or.inl (List.mem_of_getElem? (i := 0) rfl))
  have N15 := Fr.snoc X15 N14 g_a1
  have Zs15 : n0 ≤ h15.size := by rw [W15.size]; exact Z0
  show Go p e below _ (T15.setTop (mkF m 9 #[.val (.ref a1), .val (.int p1), .val (.int p2), .val (.int p3), .val (.int p4)] []))
  refine g_aloadN X15 hx (hb hby d5_9) 10 rfl (v := (.ref a1)) rfl rfl ?_
  refine g_iloadN X15 hx (hb hby d5_10) 11 rfl (v := p2) rfl ?_
  obtain ⟨T17, h17, X17, e17, W17, st17⟩ := putF X15 hx hZ hown (host := "") (Or.inl (hw _ (List.mem_of_getElem? (i := 36) rfl))) Via.refl e15 F_failed_a1_16 E_a1_16 (Or.inr ⟨(hw _ (List.mem_of_getElem? (i := 37) rfl)), rfl, hnm⟩) (hw _ (List.mem_of_getElem? (i := 29) rfl)) (ty := .int) (by decide) rfl rfl (g := (mkF m 11 #[.val (.ref a1), .val (.int p1), .val (.int p2), .val (.int p3), .val (.int p4)] [(.int p2), (.ref a1)])) rfl rfl (hb hby d5_11)
  refine Go.st st17 ?_
  have E_a1_18 : Exa Z h17 a1 "com/example/buildwright/buildwright/engine/TestResult" := Exa.wr W17 E_a1_16
  have F_cached_a1_18 : Fld Z h17 a1 "com/example/buildwright/buildwright/engine/TestResult" "cached" "I" u2 := Fld.other W17 F_cached_a1_16 (Or.inr (slot_ne (Or.inr (hw _ (List.mem_of_getElem? (i := 39) rfl))) (Or.inr (hw _ (List.mem_of_getElem? (i := 37) rfl))) (by decide) (t := .int) (t' := .int) (by decide) (by decide)))
  have F_flaky_a1_18 : Fld Z h17 a1 "com/example/buildwright/buildwright/engine/TestResult" "flaky" "I" u3 := Fld.other W17 F_flaky_a1_16 (Or.inr (slot_ne (Or.inr (hw _ (List.mem_of_getElem? (i := 41) rfl))) (Or.inr (hw _ (List.mem_of_getElem? (i := 37) rfl))) (by decide) (t := .int) (t' := .int) (by decide) (by decide)))
  have F_passed_a1_18 : Fld Z h17 a1 "com/example/buildwright/buildwright/engine/TestResult" "passed" "I" (.int p1) := Fld.other W17 F_passed_a1_15w (Or.inr (slot_ne (Or.inr (hw _ (List.mem_of_getElem? (i := 35) rfl))) (Or.inr (hw _ (List.mem_of_getElem? (i := 37) rfl))) (by decide) (t := .int) (t' := .int) (by decide) (by decide)))
  have F_failed_a1_17w : Fld Z h17 a1 "com/example/buildwright/buildwright/engine/TestResult" "failed" "I" (.int p2) := Fld.same W17 F_failed_a1_16
  have K17 : Keep h0 h17 [a1] := Keep.wr K15 W17 (Or.inl (List.mem_of_getElem? (i := 0) rfl))
  have N17 := Fr.snoc X17 N15 g_a1
  have Zs17 : n0 ≤ h17.size := by rw [W17.size]; exact Zs15
  show Go p e below _ (T17.setTop (mkF m 14 #[.val (.ref a1), .val (.int p1), .val (.int p2), .val (.int p3), .val (.int p4)] []))
  refine g_aloadN X17 hx (hb hby d5_14) 15 rfl (v := (.ref a1)) rfl rfl ?_
  refine g_iloadN X17 hx (hb hby d5_15) 16 rfl (v := p3) rfl ?_
  obtain ⟨T19, h19, X19, e19, W19, st19⟩ := putF X17 hx hZ hown (host := "") (Or.inl (hw _ (List.mem_of_getElem? (i := 38) rfl))) Via.refl e17 F_cached_a1_18 E_a1_18 (Or.inr ⟨(hw _ (List.mem_of_getElem? (i := 39) rfl)), rfl, hnm⟩) (hw _ (List.mem_of_getElem? (i := 29) rfl)) (ty := .int) (by decide) rfl rfl (g := (mkF m 16 #[.val (.ref a1), .val (.int p1), .val (.int p2), .val (.int p3), .val (.int p4)] [(.int p3), (.ref a1)])) rfl rfl (hb hby d5_16)
  refine Go.st st19 ?_
  have E_a1_20 : Exa Z h19 a1 "com/example/buildwright/buildwright/engine/TestResult" := Exa.wr W19 E_a1_18
  have F_flaky_a1_20 : Fld Z h19 a1 "com/example/buildwright/buildwright/engine/TestResult" "flaky" "I" u3 := Fld.other W19 F_flaky_a1_18 (Or.inr (slot_ne (Or.inr (hw _ (List.mem_of_getElem? (i := 41) rfl))) (Or.inr (hw _ (List.mem_of_getElem? (i := 39) rfl))) (by decide) (t := .int) (t' := .int) (by decide) (by decide)))
  have F_passed_a1_20 : Fld Z h19 a1 "com/example/buildwright/buildwright/engine/TestResult" "passed" "I" (.int p1) := Fld.other W19 F_passed_a1_18 (Or.inr (slot_ne (Or.inr (hw _ (List.mem_of_getElem? (i := 35) rfl))) (Or.inr (hw _ (List.mem_of_getElem? (i := 39) rfl))) (by decide) (t := .int) (t' := .int) (by decide) (by decide)))
  have F_failed_a1_20 : Fld Z h19 a1 "com/example/buildwright/buildwright/engine/TestResult" "failed" "I" (.int p2) := Fld.other W19 F_failed_a1_17w (Or.inr (slot_ne (Or.inr (hw _ (List.mem_of_getElem? (i := 37) rfl))) (Or.inr (hw _ (List.mem_of_getElem? (i := 39) rfl))) (by decide) (t := .int) (t' := .int) (by decide) (by decide)))
  have F_cached_a1_19w : Fld Z h19 a1 "com/example/buildwright/buildwright/engine/TestResult" "cached" "I" (.int p3) := Fld.same W19 F_cached_a1_18
  have K19 : Keep h0 h19 [a1] := Keep.wr K17 W19 (Or.inl (List.mem_of_getElem? (i := 0) rfl))
  have N19 := Fr.snoc X19 N17 g_a1
  have Zs19 : n0 ≤ h19.size := by rw [W19.size]; exact Zs17
  show Go p e below _ (T19.setTop (mkF m 19 #[.val (.ref a1), .val (.int p1), .val (.int p2), .val (.int p3), .val (.int p4)] []))
  refine g_aloadN X19 hx (hb hby d5_19) 20 rfl (v := (.ref a1)) rfl rfl ?_
  refine g_iload X19 hx (hb hby d5_20) 22 rfl (v := p4) rfl ?_
  obtain ⟨T21, h21, X21, e21, W21, st21⟩ := putF X19 hx hZ hown (host := "") (Or.inl (hw _ (List.mem_of_getElem? (i := 40) rfl))) Via.refl e19 F_flaky_a1_20 E_a1_20 (Or.inr ⟨(hw _ (List.mem_of_getElem? (i := 41) rfl)), rfl, hnm⟩) (hw _ (List.mem_of_getElem? (i := 29) rfl)) (ty := .int) (by decide) rfl rfl (g := (mkF m 22 #[.val (.ref a1), .val (.int p1), .val (.int p2), .val (.int p3), .val (.int p4)] [(.int p4), (.ref a1)])) rfl rfl (hb hby d5_22)
  refine Go.st st21 ?_
  have E_a1_22 : Exa Z h21 a1 "com/example/buildwright/buildwright/engine/TestResult" := Exa.wr W21 E_a1_20
  have F_passed_a1_22 : Fld Z h21 a1 "com/example/buildwright/buildwright/engine/TestResult" "passed" "I" (.int p1) := Fld.other W21 F_passed_a1_20 (Or.inr (slot_ne (Or.inr (hw _ (List.mem_of_getElem? (i := 35) rfl))) (Or.inr (hw _ (List.mem_of_getElem? (i := 41) rfl))) (by decide) (t := .int) (t' := .int) (by decide) (by decide)))
  have F_failed_a1_22 : Fld Z h21 a1 "com/example/buildwright/buildwright/engine/TestResult" "failed" "I" (.int p2) := Fld.other W21 F_failed_a1_20 (Or.inr (slot_ne (Or.inr (hw _ (List.mem_of_getElem? (i := 37) rfl))) (Or.inr (hw _ (List.mem_of_getElem? (i := 41) rfl))) (by decide) (t := .int) (t' := .int) (by decide) (by decide)))
  have F_cached_a1_22 : Fld Z h21 a1 "com/example/buildwright/buildwright/engine/TestResult" "cached" "I" (.int p3) := Fld.other W21 F_cached_a1_19w (Or.inr (slot_ne (Or.inr (hw _ (List.mem_of_getElem? (i := 39) rfl))) (Or.inr (hw _ (List.mem_of_getElem? (i := 41) rfl))) (by decide) (t := .int) (t' := .int) (by decide) (by decide)))
  have F_flaky_a1_21w : Fld Z h21 a1 "com/example/buildwright/buildwright/engine/TestResult" "flaky" "I" (.int p4) := Fld.same W21 F_flaky_a1_20
  have K21 : Keep h0 h21 [a1] := Keep.wr K19 W21 (Or.inl (List.mem_of_getElem? (i := 0) rfl))
  have N21 := Fr.snoc X21 N19 g_a1
  have Zs21 : n0 ≤ h21.size := by rw [W21.size]; exact Zs19
  show Go p e below _ (T21.setTop (mkF m 25 #[.val (.ref a1), .val (.int p1), .val (.int p2), .val (.int p3), .val (.int p4)] []))
  refine Go.retV X21 hx hlk Bd.returns (hb hby d5_25) (by decide) (by decide) ?_
  show Q5 Z a1 p1 p2 p3 p4 u0 u1 u2 u3 h0 n0 _ T21.heap _
  rw [e21]
  exact ⟨rfl, N21, K21, E_a1_22, F_passed_a1_22, F_failed_a1_22, F_cached_a1_22, F_flaky_a1_21w⟩
theorem ef_7 (m : MethodId) (x0 : Addr) (x1 : Addr) : entryFrame m #[(.ref x0), (.ref x1)] 2 = mkF m 0 #[.val (.ref x0), .val (.ref x1)] [] := by first | (simp [entryFrame, mkF, argsToLocals, Value.category]; done) | rfl
theorem d7_0 : decode prog_27_method_2_code 0 = .ok (.new 8, 3) := by decide +kernel
theorem d7_3 : decode prog_27_method_2_code 3 = .ok (.dup, 1) := by decide +kernel
theorem d7_4 : decode prog_27_method_2_code 4 = .ok (.aload_n 0, 1) := by decide +kernel
theorem d7_5 : decode prog_27_method_2_code 5 = .ok (.getfield 7, 3) := by decide +kernel
theorem d7_8 : decode prog_27_method_2_code 8 = .ok (.aload_n 1, 1) := by decide +kernel
theorem d7_9 : decode prog_27_method_2_code 9 = .ok (.getfield 7, 3) := by decide +kernel
theorem d7_12 : decode prog_27_method_2_code 12 = .ok (.iadd, 1) := by decide +kernel
theorem d7_13 : decode prog_27_method_2_code 13 = .ok (.aload_n 0, 1) := by decide +kernel
theorem d7_14 : decode prog_27_method_2_code 14 = .ok (.getfield 13, 3) := by decide +kernel
theorem d7_17 : decode prog_27_method_2_code 17 = .ok (.aload_n 1, 1) := by decide +kernel
theorem d7_18 : decode prog_27_method_2_code 18 = .ok (.getfield 13, 3) := by decide +kernel
theorem d7_21 : decode prog_27_method_2_code 21 = .ok (.iadd, 1) := by decide +kernel
theorem d7_22 : decode prog_27_method_2_code 22 = .ok (.aload_n 0, 1) := by decide +kernel
theorem d7_23 : decode prog_27_method_2_code 23 = .ok (.getfield 16, 3) := by decide +kernel
theorem d7_26 : decode prog_27_method_2_code 26 = .ok (.aload_n 1, 1) := by decide +kernel
theorem d7_27 : decode prog_27_method_2_code 27 = .ok (.getfield 16, 3) := by decide +kernel
theorem d7_30 : decode prog_27_method_2_code 30 = .ok (.iadd, 1) := by decide +kernel
theorem d7_31 : decode prog_27_method_2_code 31 = .ok (.aload_n 0, 1) := by decide +kernel
theorem d7_32 : decode prog_27_method_2_code 32 = .ok (.getfield 19, 3) := by decide +kernel
theorem d7_35 : decode prog_27_method_2_code 35 = .ok (.aload_n 1, 1) := by decide +kernel
theorem d7_36 : decode prog_27_method_2_code 36 = .ok (.getfield 19, 3) := by decide +kernel
theorem d7_39 : decode prog_27_method_2_code 39 = .ok (.iadd, 1) := by decide +kernel
theorem own_pd2 : parseMethodDescriptor "(IIII)V" = some ⟨[.int, .int, .int, .int], none⟩ := by decide +kernel
theorem d7_40 : decode prog_27_method_2_code 40 = .ok (.invokespecial 22, 3) := by decide +kernel
theorem d7_43 : decode prog_27_method_2_code 43 = .ok (.areturn, 1) := by decide +kernel
def Q7 (Z : State) (a1 : Addr) (a2 : Addr) (x0 : Int32) (x1 : Int32) (x2 : Int32) (x3 : Int32) (y0 : Int32) (y1 : Int32) (y2 : Int32) (y3 : Int32) (h0 : Heap) (n0 : Nat) (v : Option Value) (h : Heap) (L : List Loc) : Prop := ∃ b : Addr, v = some (.ref b) ∧ Fr n0 L ∧ Keep h0 h [] ∧ h0.size ≤ b ∧ (Exa Z h b "com/example/buildwright/buildwright/engine/TestResult") ∧ (Fld Z h b "com/example/buildwright/buildwright/engine/TestResult" "passed" "I" (.int (x0 + y0))) ∧ (Fld Z h b "com/example/buildwright/buildwright/engine/TestResult" "failed" "I" (.int (x1 + y1))) ∧ (Fld Z h b "com/example/buildwright/buildwright/engine/TestResult" "cached" "I" (.int (x2 + y2))) ∧ (Fld Z h b "com/example/buildwright/buildwright/engine/TestResult" "flaky" "I" (.int (x3 + y3)))
set_option maxRecDepth 65536 in
set_option maxHeartbeats 40000000 in
theorem rm7 (l : Launch) (Z : State) (a0 : Array Value) (hw : ∀ d ∈ tables_1, d.before a0 Z = true) (ws : List Jvm.Cond) (a1 : Addr) (a2 : Addr) (x0 : Int32) (x1 : Int32) (x2 : Int32) (x3 : Int32) (y0 : Int32) (y1 : Int32) (y2 : Int32) (y3 : Int32) (h0 : Heap) (n0 : Nat) (Z0 : n0 ≤ h0.size) (F_passed_a1 : Fld Z h0 a1 "com/example/buildwright/buildwright/engine/TestResult" "passed" "I" (.int x0)) (F_failed_a1 : Fld Z h0 a1 "com/example/buildwright/buildwright/engine/TestResult" "failed" "I" (.int x1)) (F_cached_a1 : Fld Z h0 a1 "com/example/buildwright/buildwright/engine/TestResult" "cached" "I" (.int x2)) (F_flaky_a1 : Fld Z h0 a1 "com/example/buildwright/buildwright/engine/TestResult" "flaky" "I" (.int x3)) (F_passed_a2 : Fld Z h0 a2 "com/example/buildwright/buildwright/engine/TestResult" "passed" "I" (.int y0)) (F_failed_a2 : Fld Z h0 a2 "com/example/buildwright/buildwright/engine/TestResult" "failed" "I" (.int y1)) (F_cached_a2 : Fld Z h0 a2 "com/example/buildwright/buildwright/engine/TestResult" "cached" "I" (.int y2)) (F_flaky_a2 : Fld Z h0 a2 "com/example/buildwright/buildwright/engine/TestResult" "flaky" "I" (.int y3)) :
    MetFree l (⟨"com/example/buildwright/buildwright/engine/TestResult", "plus", "(Lcom/example/buildwright/buildwright/engine/TestResult;)Lcom/example/buildwright/buildwright/engine/TestResult;"⟩ : MethodName) (head1 (Jvm.Cond.code (⟨"com/example/buildwright/buildwright/engine/TestResult", "plus", "(Lcom/example/buildwright/buildwright/engine/TestResult;)Lcom/example/buildwright/buildwright/engine/TestResult;"⟩ : MethodName) prog_27_method_2_code 2 (some (.object "com/example/buildwright/buildwright/engine/TestResult")) :: ws) ({ frames := 3, cells := 1, slots := 4, locals := 41 } : Room)) (fun a U => a = #[(.ref a1), (.ref a2)] ∧ Z.Warmed39 U.vm ∧ U.heap = h0) (fun _ _ _ _ _ => True) (fun _ U o U' => ∃ v L, o = .returned v ∧ Q7 Z a1 a2 x0 x1 x2 x3 y0 y1 y2 y3 h0 n0 v U'.heap L ∧ FrameEnd U o U' L ({ frames := 3, cells := 1, slots := 4, locals := 41 } : Room).cells ({ frames := 3, cells := 1, slots := 4, locals := 41 } : Room).slots) := by
  refine MetFree.of_bodySF (plainFor_of_name own_pn_com_example_buildwright_buildwright_engine_TestResult) hisR ?_
  intro p e s m args below meth c s₁ Bd hml0 hP hK
  obtain ⟨rfl, hZ, hh⟩ := hP
  have hx := Bd.exec
  have hby := Bd.bytes
  have hlk := Bd.notSynchronized
  have hml : c.maxLocals = 2 := hml0
  have hown : s.vm.findClass "com/example/buildwright/buildwright/engine/TestResult" = some m.cls := findClass_of_methodNamed Bd.named
  have hnm := (name_of_methodNamed Bd.named Bd.method).1
  have X0 : Stand p l e ({ frames := 3, cells := 1, slots := 4, locals := 41 } : Room) s m #[(.ref a1), (.ref a2)] below meth c s₁ [] 0 0 := Stand.of_body Bd
  have e0 : s₁.heap = h0 := by rw [← hh, Bd.state]; rfl
  have N0 := Fr.nil n0
  have K0 : Keep h0 h0 [] := Keep.refl _ _
  show Go p e below (KQ s below (Q7 Z a1 a2 x0 x1 x2 x3 y0 y1 y2 y3 h0 n0) ({ frames := 3, cells := 1, slots := 4, locals := 41 } : Room).cells ({ frames := 3, cells := 1, slots := 4, locals := 41 } : Room).slots) _
  refine Go.body (T := s₁) (σ := s₁) (g' := (mkF m 0 #[.val (.ref a1), .val (.ref a2)] [])) (ef_7 m a1 a2) ?_
  obtain ⟨T23, h23, X23, e23, E23, A23, D23, -, st23⟩ := newO X0 hx hZ hown (hw _ (List.mem_of_getElem? (i := 54) rfl)) (hw _ (List.mem_of_getElem? (i := 29) rfl)) (hw _ (List.mem_of_getElem? (i := 7) rfl)) e0 (g := (mkF m 0 #[.val (.ref a1), .val (.ref a2)] [])) rfl (hb hby d7_0) (by decide) (by decide)
  refine Go.st st23 ?_
  obtain ⟨ob, q23⟩ : ∃ z, z = h0.size := ⟨_, rfl⟩
  rw [← q23] at A23 D23 ⊢
  have g_ob : n0 ≤ ob := Nat.le_trans Z0 (Nat.le_of_eq q23.symm)
  have mh_ob : h0.size ≤ ob := Nat.le_trans K0.1 (Nat.le_of_eq q23.symm)
  have F_passed_23 : Fld Z h23 ob "com/example/buildwright/buildwright/engine/TestResult" "passed" "I" (.int (0 : Int32)) := D23 (Or.inr (hw _ (List.mem_of_getElem? (i := 35) rfl))) (ty := .int) (by decide)
  have F_failed_23 : Fld Z h23 ob "com/example/buildwright/buildwright/engine/TestResult" "failed" "I" (.int (0 : Int32)) := D23 (Or.inr (hw _ (List.mem_of_getElem? (i := 37) rfl))) (ty := .int) (by decide)
  have F_cached_23 : Fld Z h23 ob "com/example/buildwright/buildwright/engine/TestResult" "cached" "I" (.int (0 : Int32)) := D23 (Or.inr (hw _ (List.mem_of_getElem? (i := 39) rfl))) (ty := .int) (by decide)
  have F_flaky_23 : Fld Z h23 ob "com/example/buildwright/buildwright/engine/TestResult" "flaky" "I" (.int (0 : Int32)) := D23 (Or.inr (hw _ (List.mem_of_getElem? (i := 41) rfl))) (ty := .int) (by decide)
  have K23 : Keep h0 h23 [] := Keep.ext K0 E23
  have Zs23 : n0 ≤ h23.size := Nat.le_trans Z0 E23.1
  show Go p e below _ (T23.setTop (mkF m 3 #[.val (.ref a1), .val (.ref a2)] [(.ref ob)]))
  refine g_dup X23 hx (hb hby d7_3) 4 rfl rfl ?_
  refine g_aloadN X23 hx (hb hby d7_4) 5 rfl (v := (.ref a1)) rfl rfl ?_
  obtain ⟨T25, X25, e25, st25⟩ := getF X23 hx hZ hown (host := "") (Or.inl (hw _ (List.mem_of_getElem? (i := 34) rfl))) Via.refl e23 (Fld.keep F_passed_a1 K23 nin0) (g := (mkF m 5 #[.val (.ref a1), .val (.ref a2)] [(.ref a1), (.ref ob), (.ref ob)])) rfl rfl (hb hby d7_5)
  refine Go.st st25 ?_
  show Go p e below _ (T25.setTop (mkF m 8 #[.val (.ref a1), .val (.ref a2)] [(.int x0), (.ref ob), (.ref ob)]))
  refine g_aloadN X25 hx (hb hby d7_8) 9 rfl (v := (.ref a2)) rfl rfl ?_
  obtain ⟨T26, X26, e26, st26⟩ := getF X25 hx hZ hown (host := "") (Or.inl (hw _ (List.mem_of_getElem? (i := 34) rfl))) Via.refl e25 (Fld.keep F_passed_a2 K23 nin0) (g := (mkF m 9 #[.val (.ref a1), .val (.ref a2)] [(.ref a2), (.int x0), (.ref ob), (.ref ob)])) rfl rfl (hb hby d7_9)
  refine Go.st st26 ?_
  show Go p e below _ (T26.setTop (mkF m 12 #[.val (.ref a1), .val (.ref a2)] [(.int y0), (.int x0), (.ref ob), (.ref ob)]))
  refine g_iadd X26 hx (hb hby d7_12) 13 rfl (x0 + y0) rfl ?_
  refine g_aloadN X26 hx (hb hby d7_13) 14 rfl (v := (.ref a1)) rfl rfl ?_
  obtain ⟨T27, X27, e27, st27⟩ := getF X26 hx hZ hown (host := "") (Or.inl (hw _ (List.mem_of_getElem? (i := 36) rfl))) Via.refl e26 (Fld.keep F_failed_a1 K23 nin0) (g := (mkF m 14 #[.val (.ref a1), .val (.ref a2)] [(.ref a1), (.int (x0 + y0)), (.ref ob), (.ref ob)])) rfl rfl (hb hby d7_14)
  refine Go.st st27 ?_
  show Go p e below _ (T27.setTop (mkF m 17 #[.val (.ref a1), .val (.ref a2)] [(.int x1), (.int (x0 + y0)), (.ref ob), (.ref ob)]))
  refine g_aloadN X27 hx (hb hby d7_17) 18 rfl (v := (.ref a2)) rfl rfl ?_
  obtain ⟨T28, X28, e28, st28⟩ := getF X27 hx hZ hown (host := "") (Or.inl (hw _ (List.mem_of_getElem? (i := 36) rfl))) Via.refl e27 (Fld.keep F_failed_a2 K23 nin0) (g := (mkF m 18 #[.val (.ref a1), .val (.ref a2)] [(.ref a2), (.int x1), (.int (x0 + y0)), (.ref ob), (.ref ob)])) rfl rfl (hb hby d7_18)
  refine Go.st st28 ?_
  show Go p e below _ (T28.setTop (mkF m 21 #[.val (.ref a1), .val (.ref a2)] [(.int y1), (.int x1), (.int (x0 + y0)), (.ref ob), (.ref ob)]))
  refine g_iadd X28 hx (hb hby d7_21) 22 rfl (x1 + y1) rfl ?_
  refine g_aloadN X28 hx (hb hby d7_22) 23 rfl (v := (.ref a1)) rfl rfl ?_
  obtain ⟨T29, X29, e29, st29⟩ := getF X28 hx hZ hown (host := "") (Or.inl (hw _ (List.mem_of_getElem? (i := 38) rfl))) Via.refl e28 (Fld.keep F_cached_a1 K23 nin0) (g := (mkF m 23 #[.val (.ref a1), .val (.ref a2)] [(.ref a1), (.int (x1 + y1)), (.int (x0 + y0)), (.ref ob), (.ref ob)])) rfl rfl (hb hby d7_23)
  refine Go.st st29 ?_
  show Go p e below _ (T29.setTop (mkF m 26 #[.val (.ref a1), .val (.ref a2)] [(.int x2), (.int (x1 + y1)), (.int (x0 + y0)), (.ref ob), (.ref ob)]))
  refine g_aloadN X29 hx (hb hby d7_26) 27 rfl (v := (.ref a2)) rfl rfl ?_
  obtain ⟨T30, X30, e30, st30⟩ := getF X29 hx hZ hown (host := "") (Or.inl (hw _ (List.mem_of_getElem? (i := 38) rfl))) Via.refl e29 (Fld.keep F_cached_a2 K23 nin0) (g := (mkF m 27 #[.val (.ref a1), .val (.ref a2)] [(.ref a2), (.int x2), (.int (x1 + y1)), (.int (x0 + y0)), (.ref ob), (.ref ob)])) rfl rfl (hb hby d7_27)
  refine Go.st st30 ?_
  show Go p e below _ (T30.setTop (mkF m 30 #[.val (.ref a1), .val (.ref a2)] [(.int y2), (.int x2), (.int (x1 + y1)), (.int (x0 + y0)), (.ref ob), (.ref ob)]))
  refine g_iadd X30 hx (hb hby d7_30) 31 rfl (x2 + y2) rfl ?_
  refine g_aloadN X30 hx (hb hby d7_31) 32 rfl (v := (.ref a1)) rfl rfl ?_
  obtain ⟨T31, X31, e31, st31⟩ := getF X30 hx hZ hown (host := "") (Or.inl (hw _ (List.mem_of_getElem? (i := 40) rfl))) Via.refl e30 (Fld.keep F_flaky_a1 K23 nin0) (g := (mkF m 32 #[.val (.ref a1), .val (.ref a2)] [(.ref a1), (.int (x2 + y2)), (.int (x1 + y1)), (.int (x0 + y0)), (.ref ob), (.ref ob)])) rfl rfl (hb hby d7_32)
  refine Go.st st31 ?_
  show Go p e below _ (T31.setTop (mkF m 35 #[.val (.ref a1), .val (.ref a2)] [(.int x3), (.int (x2 + y2)), (.int (x1 + y1)), (.int (x0 + y0)), (.ref ob), (.ref ob)]))
  refine g_aloadN X31 hx (hb hby d7_35) 36 rfl (v := (.ref a2)) rfl rfl ?_
  obtain ⟨T32, X32, e32, st32⟩ := getF X31 hx hZ hown (host := "") (Or.inl (hw _ (List.mem_of_getElem? (i := 40) rfl))) Via.refl e31 (Fld.keep F_flaky_a2 K23 nin0) (g := (mkF m 36 #[.val (.ref a1), .val (.ref a2)] [(.ref a2), (.int x3), (.int (x2 + y2)), (.int (x1 + y1)), (.int (x0 + y0)), (.ref ob), (.ref ob)])) rfl rfl (hb hby d7_36)
  refine Go.st st32 ?_
  show Go p e below _ (T32.setTop (mkF m 39 #[.val (.ref a1), .val (.ref a2)] [(.int y3), (.int x3), (.int (x2 + y2)), (.int (x1 + y1)), (.int (x0 + y0)), (.ref ob), (.ref ob)]))
  refine g_iadd X32 hx (hb hby d7_39) 40 rfl (x3 + y3) rfl ?_
  obtain ⟨_, _, ⟨T33, L33, k33, n33⟩, -, X33, ⟨Lc33, hQ33, l33, y33, z33⟩, st33⟩ := X32.specialBack hx (y := (⟨"com/example/buildwright/buildwright/engine/TestResult", "<init>", "(IIII)V"⟩ : MethodName)) rfl hown (mvT hZ (hw _ (List.mem_of_getElem? (i := 55) rfl))) (mvT hZ (hw _ (List.mem_of_getElem? (i := 31) rfl))) (mvT hZ (hw _ (List.mem_of_getElem? (i := 32) rfl))) (by decide) (backOf (W := 1) (rm5 l Z a0 hw [] ob (x0 + y0) (x1 + y1) (x2 + y2) (x3 + y3) (.int (0 : Int32)) (.int (0 : Int32)) (.int (0 : Int32)) (.int (0 : Int32)) h23 n0 Zs23 A23 g_ob F_passed_23 F_failed_23 F_cached_23 F_flaky_23) hZ (hw _ (List.mem_of_getElem? (i := 32) rfl)) (hw _ (List.mem_of_getElem? (i := 7) rfl)) (by decide) (by decide)) (g := (mkF m 40 #[.val (.ref a1), .val (.ref a2)] [(.int (x3 + y3)), (.int (x2 + y2)), (.int (x1 + y1)), (.int (x0 + y0)), (.ref ob), (.ref ob)])) rfl (by rw [hml]; rfl) (Steps.refl _) (a := ob) (argsL := [(.int (x0 + y0)), (.int (x1 + y1)), (.int (x2 + y2)), (.int (x3 + y3))]) (rest := [(.ref ob)]) (lenOf own_pd2 rfl) rfl (by show 2 * 0 + _ ≤ _; exact Nat.le_of_eq rfl) (hb hby d7_40) (fun _ _ => ⟨rfl, e32, (by decide : 1 + 0 ≤ _), (by decide : 4 + 0 ≤ _)⟩)
  dsimp only [Pt.U, Pt.locs, Pt.cells, Pt.slots] at X33 l33 y33 z33 st33 hQ33
  subst l33 y33 z33
  obtain ⟨rfl, Nq33, Kq33, f33_0, f33_1, f33_2, f33_3, f33_4⟩ := hQ33
  refine Go.tr st33 ?_
  have N33 := Fr.app N0 Nq33
  have E_ob_34 : Exa Z T33.heap ob "com/example/buildwright/buildwright/engine/TestResult" := Exa.keep A23 Kq33
  have K33 : Keep h0 T33.heap [] := Keep.trans K23 Kq33 (allS (Or.inr mh_ob) all0)
  have Zs33 : n0 ≤ T33.heap.size := Nat.le_trans Zs23 Kq33.1
  show Go p e below _ (T33.setTop (mkF m 43 #[.val (.ref a1), .val (.ref a2)] [(.ref ob)]))
  refine Go.retA X33 hx hlk Bd.returns rfl rfl (hb hby d7_43) (by decide) (by decide) ?_
  show Q7 Z a1 a2 x0 x1 x2 x3 y0 y1 y2 y3 h0 n0 _ T33.heap _
  exact ⟨ob, rfl, N33, K33, mh_ob, f33_0, f33_1, f33_2, f33_3, f33_4⟩
theorem ef_6 (m : MethodId) (x0 : Addr) (x1 : Addr) : entryFrame m #[(.ref x0), (.ref x1)] 2 = mkF m 0 #[.val (.ref x0), .val (.ref x1)] [] := by first | (simp [entryFrame, mkF, argsToLocals, Value.category]; done) | rfl
theorem d6_0 : decode prog_4_method_3_code 0 = .ok (.new 8, 3) := by decide +kernel
theorem d6_3 : decode prog_4_method_3_code 3 = .ok (.dup, 1) := by decide +kernel
theorem d6_4 : decode prog_4_method_3_code 4 = .ok (.aload_n 0, 1) := by decide +kernel
theorem d6_5 : decode prog_4_method_3_code 5 = .ok (.getfield 7, 3) := by decide +kernel
theorem d6_8 : decode prog_4_method_3_code 8 = .ok (.aload_n 1, 1) := by decide +kernel
theorem d6_9 : decode prog_4_method_3_code 9 = .ok (.getfield 7, 3) := by decide +kernel
theorem d6_12 : decode prog_4_method_3_code 12 = .ok (.iadd, 1) := by decide +kernel
theorem d6_13 : decode prog_4_method_3_code 13 = .ok (.aload_n 0, 1) := by decide +kernel
theorem d6_14 : decode prog_4_method_3_code 14 = .ok (.getfield 13, 3) := by decide +kernel
theorem d6_17 : decode prog_4_method_3_code 17 = .ok (.aload_n 1, 1) := by decide +kernel
theorem d6_18 : decode prog_4_method_3_code 18 = .ok (.getfield 13, 3) := by decide +kernel
theorem d6_21 : decode prog_4_method_3_code 21 = .ok (.iadd, 1) := by decide +kernel
theorem d6_22 : decode prog_4_method_3_code 22 = .ok (.aload_n 0, 1) := by decide +kernel
theorem d6_23 : decode prog_4_method_3_code 23 = .ok (.getfield 16, 3) := by decide +kernel
theorem d6_26 : decode prog_4_method_3_code 26 = .ok (.aload_n 1, 1) := by decide +kernel
theorem d6_27 : decode prog_4_method_3_code 27 = .ok (.getfield 16, 3) := by decide +kernel
theorem d6_30 : decode prog_4_method_3_code 30 = .ok (.iadd, 1) := by decide +kernel
theorem d6_31 : decode prog_4_method_3_code 31 = .ok (.aload_n 0, 1) := by decide +kernel
theorem d6_32 : decode prog_4_method_3_code 32 = .ok (.getfield 19, 3) := by decide +kernel
theorem d6_35 : decode prog_4_method_3_code 35 = .ok (.aload_n 1, 1) := by decide +kernel
theorem d6_36 : decode prog_4_method_3_code 36 = .ok (.getfield 19, 3) := by decide +kernel
theorem own_pd3 : parseMethodDescriptor "(Lcom/example/buildwright/buildwright/engine/TestResult;)Lcom/example/buildwright/buildwright/engine/TestResult;" = some ⟨[(.object "com/example/buildwright/buildwright/engine/TestResult")], some (.object "com/example/buildwright/buildwright/engine/TestResult")⟩ := by decide +kernel
theorem d6_39 : decode prog_4_method_3_code 39 = .ok (.invokevirtual 31, 3) := by decide +kernel
theorem d6_42 : decode prog_4_method_3_code 42 = .ok (.invokespecial 28, 3) := by decide +kernel
theorem d6_45 : decode prog_4_method_3_code 45 = .ok (.areturn, 1) := by decide +kernel
def Q6 (Z : State) (a1 : Addr) (a2 : Addr) (t1 : Addr) (t2 : Addr) (r0 : Int32) (r1 : Int32) (r2 : Int32) (s0 : Int32) (s1 : Int32) (s2 : Int32) (x0 : Int32) (x1 : Int32) (x2 : Int32) (x3 : Int32) (y0 : Int32) (y1 : Int32) (y2 : Int32) (y3 : Int32) (h0 : Heap) (n0 : Nat) (v : Option Value) (h : Heap) (L : List Loc) : Prop := ∃ b : Addr, ∃ tb : Addr, v = some (.ref b) ∧ Fr n0 L ∧ Keep h0 h [] ∧ h0.size ≤ b ∧ h0.size ≤ tb ∧ (b ≠ tb) ∧ (Exa Z h b "com/example/buildwright/buildwright/engine/BuildResult") ∧ (Exa Z h tb "com/example/buildwright/buildwright/engine/TestResult") ∧ (Fld Z h b "com/example/buildwright/buildwright/engine/BuildResult" "ran" "I" (.int (r0 + s0))) ∧ (Fld Z h b "com/example/buildwright/buildwright/engine/BuildResult" "cached" "I" (.int (r1 + s1))) ∧ (Fld Z h b "com/example/buildwright/buildwright/engine/BuildResult" "failed" "I" (.int (r2 + s2))) ∧ (Fld Z h b "com/example/buildwright/buildwright/engine/BuildResult" "tests" "Lcom/example/buildwright/buildwright/engine/TestResult;" (.ref tb)) ∧ (Fld Z h tb "com/example/buildwright/buildwright/engine/TestResult" "passed" "I" (.int (x0 + y0))) ∧ (Fld Z h tb "com/example/buildwright/buildwright/engine/TestResult" "failed" "I" (.int (x1 + y1))) ∧ (Fld Z h tb "com/example/buildwright/buildwright/engine/TestResult" "cached" "I" (.int (x2 + y2))) ∧ (Fld Z h tb "com/example/buildwright/buildwright/engine/TestResult" "flaky" "I" (.int (x3 + y3)))
set_option maxRecDepth 65536 in
set_option maxHeartbeats 40000000 in
theorem rm6 (l : Launch) (Z : State) (a0 : Array Value) (hw : ∀ d ∈ tables_1, d.before a0 Z = true) (ws : List Jvm.Cond) (a1 : Addr) (a2 : Addr) (t1 : Addr) (t2 : Addr) (r0 : Int32) (r1 : Int32) (r2 : Int32) (s0 : Int32) (s1 : Int32) (s2 : Int32) (x0 : Int32) (x1 : Int32) (x2 : Int32) (x3 : Int32) (y0 : Int32) (y1 : Int32) (y2 : Int32) (y3 : Int32) (h0 : Heap) (n0 : Nat) (Z0 : n0 ≤ h0.size) (F_ran_a1 : Fld Z h0 a1 "com/example/buildwright/buildwright/engine/BuildResult" "ran" "I" (.int r0)) (F_cached_a1 : Fld Z h0 a1 "com/example/buildwright/buildwright/engine/BuildResult" "cached" "I" (.int r1)) (F_failed_a1 : Fld Z h0 a1 "com/example/buildwright/buildwright/engine/BuildResult" "failed" "I" (.int r2)) (F_tests_a1 : Fld Z h0 a1 "com/example/buildwright/buildwright/engine/BuildResult" "tests" "Lcom/example/buildwright/buildwright/engine/TestResult;" (.ref t1)) (F_ran_a2 : Fld Z h0 a2 "com/example/buildwright/buildwright/engine/BuildResult" "ran" "I" (.int s0)) (F_cached_a2 : Fld Z h0 a2 "com/example/buildwright/buildwright/engine/BuildResult" "cached" "I" (.int s1)) (F_failed_a2 : Fld Z h0 a2 "com/example/buildwright/buildwright/engine/BuildResult" "failed" "I" (.int s2)) (F_tests_a2 : Fld Z h0 a2 "com/example/buildwright/buildwright/engine/BuildResult" "tests" "Lcom/example/buildwright/buildwright/engine/TestResult;" (.ref t2)) (E_t1 : Exa Z h0 t1 "com/example/buildwright/buildwright/engine/TestResult") (F_passed_t1 : Fld Z h0 t1 "com/example/buildwright/buildwright/engine/TestResult" "passed" "I" (.int x0)) (F_failed_t1 : Fld Z h0 t1 "com/example/buildwright/buildwright/engine/TestResult" "failed" "I" (.int x1)) (F_cached_t1 : Fld Z h0 t1 "com/example/buildwright/buildwright/engine/TestResult" "cached" "I" (.int x2)) (F_flaky_t1 : Fld Z h0 t1 "com/example/buildwright/buildwright/engine/TestResult" "flaky" "I" (.int x3)) (F_passed_t2 : Fld Z h0 t2 "com/example/buildwright/buildwright/engine/TestResult" "passed" "I" (.int y0)) (F_failed_t2 : Fld Z h0 t2 "com/example/buildwright/buildwright/engine/TestResult" "failed" "I" (.int y1)) (F_cached_t2 : Fld Z h0 t2 "com/example/buildwright/buildwright/engine/TestResult" "cached" "I" (.int y2)) (F_flaky_t2 : Fld Z h0 t2 "com/example/buildwright/buildwright/engine/TestResult" "flaky" "I" (.int y3)) :
    MetFree l (⟨"com/example/buildwright/buildwright/engine/BuildResult", "plus", "(Lcom/example/buildwright/buildwright/engine/BuildResult;)Lcom/example/buildwright/buildwright/engine/BuildResult;"⟩ : MethodName) (head1 (Jvm.Cond.code (⟨"com/example/buildwright/buildwright/engine/BuildResult", "plus", "(Lcom/example/buildwright/buildwright/engine/BuildResult;)Lcom/example/buildwright/buildwright/engine/BuildResult;"⟩ : MethodName) prog_4_method_3_code 2 (some (.object "com/example/buildwright/buildwright/engine/BuildResult")) :: ws) ({ frames := 4, cells := 2, slots := 8, locals := 59 } : Room)) (fun a U => a = #[(.ref a1), (.ref a2)] ∧ Z.Warmed39 U.vm ∧ U.heap = h0) (fun _ _ _ _ _ => True) (fun _ U o U' => ∃ v L, o = .returned v ∧ Q6 Z a1 a2 t1 t2 r0 r1 r2 s0 s1 s2 x0 x1 x2 x3 y0 y1 y2 y3 h0 n0 v U'.heap L ∧ FrameEnd U o U' L ({ frames := 4, cells := 2, slots := 8, locals := 59 } : Room).cells ({ frames := 4, cells := 2, slots := 8, locals := 59 } : Room).slots) := by
  refine MetFree.of_bodySF (plainFor_of_name own_pn_com_example_buildwright_buildwright_engine_BuildResult) hisR ?_
  intro p e s m args below meth c s₁ Bd hml0 hP hK
  obtain ⟨rfl, hZ, hh⟩ := hP
  have hx := Bd.exec
  have hby := Bd.bytes
  have hlk := Bd.notSynchronized
  have hml : c.maxLocals = 2 := hml0
  have hown : s.vm.findClass "com/example/buildwright/buildwright/engine/BuildResult" = some m.cls := findClass_of_methodNamed Bd.named
  have hnm := (name_of_methodNamed Bd.named Bd.method).1
  have X0 : Stand p l e ({ frames := 4, cells := 2, slots := 8, locals := 59 } : Room) s m #[(.ref a1), (.ref a2)] below meth c s₁ [] 0 0 := Stand.of_body Bd
  have e0 : s₁.heap = h0 := by rw [← hh, Bd.state]; rfl
  have N0 := Fr.nil n0
  have K0 : Keep h0 h0 [] := Keep.refl _ _
  show Go p e below (KQ s below (Q6 Z a1 a2 t1 t2 r0 r1 r2 s0 s1 s2 x0 x1 x2 x3 y0 y1 y2 y3 h0 n0) ({ frames := 4, cells := 2, slots := 8, locals := 59 } : Room).cells ({ frames := 4, cells := 2, slots := 8, locals := 59 } : Room).slots) _
  refine Go.body (T := s₁) (σ := s₁) (g' := (mkF m 0 #[.val (.ref a1), .val (.ref a2)] [])) (ef_6 m a1 a2) ?_
  obtain ⟨T35, h35, X35, e35, E35, A35, D35, -, st35⟩ := newO X0 hx hZ hown (hw _ (List.mem_of_getElem? (i := 48) rfl)) (hw _ (List.mem_of_getElem? (i := 1) rfl)) (hw _ (List.mem_of_getElem? (i := 2) rfl)) e0 (g := (mkF m 0 #[.val (.ref a1), .val (.ref a2)] [])) rfl (hb hby d6_0) (by decide) (by decide)
  refine Go.st st35 ?_
  obtain ⟨ob, q35⟩ : ∃ z, z = h0.size := ⟨_, rfl⟩
  rw [← q35] at A35 D35 ⊢
  have g_ob : n0 ≤ ob := Nat.le_trans Z0 (Nat.le_of_eq q35.symm)
  have mh_ob : h0.size ≤ ob := Nat.le_trans K0.1 (Nat.le_of_eq q35.symm)
  have F_ran_35 : Fld Z h35 ob "com/example/buildwright/buildwright/engine/BuildResult" "ran" "I" (.int (0 : Int32)) := D35 (Or.inr (hw _ (List.mem_of_getElem? (i := 21) rfl))) (ty := .int) (by decide)
  have F_cached_35 : Fld Z h35 ob "com/example/buildwright/buildwright/engine/BuildResult" "cached" "I" (.int (0 : Int32)) := D35 (Or.inr (hw _ (List.mem_of_getElem? (i := 23) rfl))) (ty := .int) (by decide)
  have F_failed_35 : Fld Z h35 ob "com/example/buildwright/buildwright/engine/BuildResult" "failed" "I" (.int (0 : Int32)) := D35 (Or.inr (hw _ (List.mem_of_getElem? (i := 25) rfl))) (ty := .int) (by decide)
  have F_tests_35 : Fld Z h35 ob "com/example/buildwright/buildwright/engine/BuildResult" "tests" "Lcom/example/buildwright/buildwright/engine/TestResult;" .null := D35 (Or.inr (hw _ (List.mem_of_getElem? (i := 27) rfl))) (ty := (.object "com/example/buildwright/buildwright/engine/TestResult")) (by decide)
  have K35 : Keep h0 h35 [] := Keep.ext K0 E35
  have Zs35 : n0 ≤ h35.size := Nat.le_trans Z0 E35.1
  show Go p e below _ (T35.setTop (mkF m 3 #[.val (.ref a1), .val (.ref a2)] [(.ref ob)]))
  refine g_dup X35 hx (hb hby d6_3) 4 rfl rfl ?_
  refine g_aloadN X35 hx (hb hby d6_4) 5 rfl (v := (.ref a1)) rfl rfl ?_
  obtain ⟨T37, X37, e37, st37⟩ := getF X35 hx hZ hown (host := "") (Or.inl (hw _ (List.mem_of_getElem? (i := 20) rfl))) Via.refl e35 (Fld.keep F_ran_a1 K35 nin0) (g := (mkF m 5 #[.val (.ref a1), .val (.ref a2)] [(.ref a1), (.ref ob), (.ref ob)])) rfl rfl (hb hby d6_5)
  refine Go.st st37 ?_
  show Go p e below _ (T37.setTop (mkF m 8 #[.val (.ref a1), .val (.ref a2)] [(.int r0), (.ref ob), (.ref ob)]))
  refine g_aloadN X37 hx (hb hby d6_8) 9 rfl (v := (.ref a2)) rfl rfl ?_
  obtain ⟨T38, X38, e38, st38⟩ := getF X37 hx hZ hown (host := "") (Or.inl (hw _ (List.mem_of_getElem? (i := 20) rfl))) Via.refl e37 (Fld.keep F_ran_a2 K35 nin0) (g := (mkF m 9 #[.val (.ref a1), .val (.ref a2)] [(.ref a2), (.int r0), (.ref ob), (.ref ob)])) rfl rfl (hb hby d6_9)
  refine Go.st st38 ?_
  show Go p e below _ (T38.setTop (mkF m 12 #[.val (.ref a1), .val (.ref a2)] [(.int s0), (.int r0), (.ref ob), (.ref ob)]))
  refine g_iadd X38 hx (hb hby d6_12) 13 rfl (r0 + s0) rfl ?_
  refine g_aloadN X38 hx (hb hby d6_13) 14 rfl (v := (.ref a1)) rfl rfl ?_
  obtain ⟨T39, X39, e39, st39⟩ := getF X38 hx hZ hown (host := "") (Or.inl (hw _ (List.mem_of_getElem? (i := 22) rfl))) Via.refl e38 (Fld.keep F_cached_a1 K35 nin0) (g := (mkF m 14 #[.val (.ref a1), .val (.ref a2)] [(.ref a1), (.int (r0 + s0)), (.ref ob), (.ref ob)])) rfl rfl (hb hby d6_14)
  refine Go.st st39 ?_
  show Go p e below _ (T39.setTop (mkF m 17 #[.val (.ref a1), .val (.ref a2)] [(.int r1), (.int (r0 + s0)), (.ref ob), (.ref ob)]))
  refine g_aloadN X39 hx (hb hby d6_17) 18 rfl (v := (.ref a2)) rfl rfl ?_
  obtain ⟨T40, X40, e40, st40⟩ := getF X39 hx hZ hown (host := "") (Or.inl (hw _ (List.mem_of_getElem? (i := 22) rfl))) Via.refl e39 (Fld.keep F_cached_a2 K35 nin0) (g := (mkF m 18 #[.val (.ref a1), .val (.ref a2)] [(.ref a2), (.int r1), (.int (r0 + s0)), (.ref ob), (.ref ob)])) rfl rfl (hb hby d6_18)
  refine Go.st st40 ?_
  show Go p e below _ (T40.setTop (mkF m 21 #[.val (.ref a1), .val (.ref a2)] [(.int s1), (.int r1), (.int (r0 + s0)), (.ref ob), (.ref ob)]))
  refine g_iadd X40 hx (hb hby d6_21) 22 rfl (r1 + s1) rfl ?_
  refine g_aloadN X40 hx (hb hby d6_22) 23 rfl (v := (.ref a1)) rfl rfl ?_
  obtain ⟨T41, X41, e41, st41⟩ := getF X40 hx hZ hown (host := "") (Or.inl (hw _ (List.mem_of_getElem? (i := 24) rfl))) Via.refl e40 (Fld.keep F_failed_a1 K35 nin0) (g := (mkF m 23 #[.val (.ref a1), .val (.ref a2)] [(.ref a1), (.int (r1 + s1)), (.int (r0 + s0)), (.ref ob), (.ref ob)])) rfl rfl (hb hby d6_23)
  refine Go.st st41 ?_
  show Go p e below _ (T41.setTop (mkF m 26 #[.val (.ref a1), .val (.ref a2)] [(.int r2), (.int (r1 + s1)), (.int (r0 + s0)), (.ref ob), (.ref ob)]))
  refine g_aloadN X41 hx (hb hby d6_26) 27 rfl (v := (.ref a2)) rfl rfl ?_
  obtain ⟨T42, X42, e42, st42⟩ := getF X41 hx hZ hown (host := "") (Or.inl (hw _ (List.mem_of_getElem? (i := 24) rfl))) Via.refl e41 (Fld.keep F_failed_a2 K35 nin0) (g := (mkF m 27 #[.val (.ref a1), .val (.ref a2)] [(.ref a2), (.int r2), (.int (r1 + s1)), (.int (r0 + s0)), (.ref ob), (.ref ob)])) rfl rfl (hb hby d6_27)
  refine Go.st st42 ?_
  show Go p e below _ (T42.setTop (mkF m 30 #[.val (.ref a1), .val (.ref a2)] [(.int s2), (.int r2), (.int (r1 + s1)), (.int (r0 + s0)), (.ref ob), (.ref ob)]))
  refine g_iadd X42 hx (hb hby d6_30) 31 rfl (r2 + s2) rfl ?_
  refine g_aloadN X42 hx (hb hby d6_31) 32 rfl (v := (.ref a1)) rfl rfl ?_
  obtain ⟨T43, X43, e43, st43⟩ := getF X42 hx hZ hown (host := "") (Or.inl (hw _ (List.mem_of_getElem? (i := 26) rfl))) Via.refl e42 (Fld.keep F_tests_a1 K35 nin0) (g := (mkF m 32 #[.val (.ref a1), .val (.ref a2)] [(.ref a1), (.int (r2 + s2)), (.int (r1 + s1)), (.int (r0 + s0)), (.ref ob), (.ref ob)])) rfl rfl (hb hby d6_32)
  refine Go.st st43 ?_
  show Go p e below _ (T43.setTop (mkF m 35 #[.val (.ref a1), .val (.ref a2)] [(.ref t1), (.int (r2 + s2)), (.int (r1 + s1)), (.int (r0 + s0)), (.ref ob), (.ref ob)]))
  refine g_aloadN X43 hx (hb hby d6_35) 36 rfl (v := (.ref a2)) rfl rfl ?_
  obtain ⟨T44, X44, e44, st44⟩ := getF X43 hx hZ hown (host := "") (Or.inl (hw _ (List.mem_of_getElem? (i := 26) rfl))) Via.refl e43 (Fld.keep F_tests_a2 K35 nin0) (g := (mkF m 36 #[.val (.ref a1), .val (.ref a2)] [(.ref a2), (.ref t1), (.int (r2 + s2)), (.int (r1 + s1)), (.int (r0 + s0)), (.ref ob), (.ref ob)])) rfl rfl (hb hby d6_36)
  refine Go.st st44 ?_
  show Go p e below _ (T44.setTop (mkF m 39 #[.val (.ref a1), .val (.ref a2)] [(.ref t2), (.ref t1), (.int (r2 + s2)), (.int (r1 + s1)), (.int (r0 + s0)), (.ref ob), (.ref ob)]))
  obtain ⟨cq45, kq45, q45a, q45b, q45c⟩ := isOf hZ e44 (Exa.keep E_t1 K35)
  obtain ⟨_, _, ⟨T45, L45, k45, n45⟩, -, X45, ⟨Lc45, hQ45, l45, y45, z45⟩, st45⟩ := X44.virtualBack hx (y := (⟨"com/example/buildwright/buildwright/engine/TestResult", "plus", "(Lcom/example/buildwright/buildwright/engine/TestResult;)Lcom/example/buildwright/buildwright/engine/TestResult;"⟩ : MethodName)) (z := (⟨"com/example/buildwright/buildwright/engine/TestResult", "plus", "(Lcom/example/buildwright/buildwright/engine/TestResult;)Lcom/example/buildwright/buildwright/engine/TestResult;"⟩ : MethodName)) hown (mvT hZ (hw _ (List.mem_of_getElem? (i := 49) rfl))) (mvT hZ (hw _ (List.mem_of_getElem? (i := 50) rfl))) (notFace_of_selects (args := #[]) (mvT hZ (hw _ (List.mem_of_getElem? (i := 52) rfl)))) (mvT hZ (hw _ (List.mem_of_getElem? (i := 52) rfl))) (mvT hZ (hw _ (List.mem_of_getElem? (i := 51) rfl))) (by decide) (backOf (W := 5) (rm7 l Z a0 hw [] t1 t2 x0 x1 x2 x3 y0 y1 y2 y3 h35 n0 Zs35 (Fld.keep F_passed_t1 K35 nin0) (Fld.keep F_failed_t1 K35 nin0) (Fld.keep F_cached_t1 K35 nin0) (Fld.keep F_flaky_t1 K35 nin0) (Fld.keep F_passed_t2 K35 nin0) (Fld.keep F_failed_t2 K35 nin0) (Fld.keep F_cached_t2 K35 nin0) (Fld.keep F_flaky_t2 K35 nin0)) hZ (hw _ (List.mem_of_getElem? (i := 53) rfl)) (hw _ (List.mem_of_getElem? (i := 7) rfl)) (by decide) (by decide)) q45a q45c (g := (mkF m 39 #[.val (.ref a1), .val (.ref a2)] [(.ref t2), (.ref t1), (.int (r2 + s2)), (.int (r1 + s1)), (.int (r0 + s0)), (.ref ob), (.ref ob)])) rfl (by rw [hml]; rfl) (Steps.refl _) (argsL := [(.ref t2)]) (rest := [(.int (r2 + s2)), (.int (r1 + s1)), (.int (r0 + s0)), (.ref ob), (.ref ob)]) (lenOf own_pd3 rfl) rfl (by show 2 * 0 + _ ≤ _; exact Nat.le_of_eq rfl) (hb hby d6_39) (fun _ _ => ⟨rfl, e44, (by decide : 1 + 1 ≤ _), (by decide : 4 + 4 ≤ _)⟩)
  dsimp only [Pt.U, Pt.locs, Pt.cells, Pt.slots] at X45 l45 y45 z45 st45 hQ45
  subst l45 y45 z45
  obtain ⟨otb, rfl, Nq45, Kq45, f45_0, f45_1, f45_2, f45_3, f45_4, f45_5⟩ := hQ45
  refine Go.tr st45 ?_
  have N45 := Fr.app N0 Nq45
  have E_ob_46 : Exa Z T45.heap ob "com/example/buildwright/buildwright/engine/BuildResult" := Exa.keep A35 Kq45
  have F_ran_ob_46 : Fld Z T45.heap ob "com/example/buildwright/buildwright/engine/BuildResult" "ran" "I" (.int (0 : Int32)) := Fld.keep F_ran_35 Kq45 nin0
  have F_cached_ob_46 : Fld Z T45.heap ob "com/example/buildwright/buildwright/engine/BuildResult" "cached" "I" (.int (0 : Int32)) := Fld.keep F_cached_35 Kq45 nin0
  have F_failed_ob_46 : Fld Z T45.heap ob "com/example/buildwright/buildwright/engine/BuildResult" "failed" "I" (.int (0 : Int32)) := Fld.keep F_failed_35 Kq45 nin0
  have F_tests_ob_46 : Fld Z T45.heap ob "com/example/buildwright/buildwright/engine/BuildResult" "tests" "Lcom/example/buildwright/buildwright/engine/TestResult;" .null := Fld.keep F_tests_35 Kq45 nin0
  have ne_ob_otb : ob ≠ otb := Nat.ne_of_lt (Nat.lt_of_lt_of_le A35.lt f45_0)
  have g_otb : n0 ≤ otb := Nat.le_trans Zs35 f45_0
  have mh_otb : h0.size ≤ otb := Nat.le_trans K35.1 f45_0
  have K45 : Keep h0 T45.heap [] := Keep.trans K35 Kq45 all0
  have Zs45 : n0 ≤ T45.heap.size := Nat.le_trans Zs35 Kq45.1
  show Go p e below _ (T45.setTop (mkF m 42 #[.val (.ref a1), .val (.ref a2)] [(.ref otb), (.int (r2 + s2)), (.int (r1 + s1)), (.int (r0 + s0)), (.ref ob), (.ref ob)]))
  obtain ⟨_, _, ⟨T47, L47, k47, n47⟩, -, X47, ⟨Lc47, hQ47, l47, y47, z47⟩, st47⟩ := X45.specialBack hx (y := (⟨"com/example/buildwright/buildwright/engine/BuildResult", "<init>", "(IIILcom/example/buildwright/buildwright/engine/TestResult;)V"⟩ : MethodName)) rfl hown (mvT hZ (hw _ (List.mem_of_getElem? (i := 9) rfl))) (mvT hZ (hw _ (List.mem_of_getElem? (i := 10) rfl))) (mvT hZ (hw _ (List.mem_of_getElem? (i := 11) rfl))) (by decide) (backOf (W := 1) (rm2 l Z a0 hw [] ob (r0 + s0) (r1 + s1) (r2 + s2) otb (.int (0 : Int32)) (.int (0 : Int32)) (.int (0 : Int32)) .null T45.heap n0 Zs45 E_ob_46 g_ob F_ran_ob_46 F_cached_ob_46 F_failed_ob_46 F_tests_ob_46) hZ (hw _ (List.mem_of_getElem? (i := 11) rfl)) (hw _ (List.mem_of_getElem? (i := 2) rfl)) (by decide) (by decide)) (g := (mkF m 42 #[.val (.ref a1), .val (.ref a2)] [(.ref otb), (.int (r2 + s2)), (.int (r1 + s1)), (.int (r0 + s0)), (.ref ob), (.ref ob)])) rfl (by rw [hml]; rfl) (Steps.refl _) (a := ob) (argsL := [(.int (r0 + s0)), (.int (r1 + s1)), (.int (r2 + s2)), (.ref otb)]) (rest := [(.ref ob)]) (lenOf own_pd1 rfl) rfl (by show 2 * 0 + _ ≤ _; exact Nat.le_of_eq rfl) (hb hby d6_42) (fun _ _ => ⟨rfl, rfl, (by decide : 2 + 0 ≤ _), (by decide : 8 + 0 ≤ _)⟩)
  dsimp only [Pt.U, Pt.locs, Pt.cells, Pt.slots] at X47 l47 y47 z47 st47 hQ47
  subst l47 y47 z47
  obtain ⟨rfl, Nq47, Kq47, f47_0, f47_1, f47_2, f47_3, f47_4⟩ := hQ47
  refine Go.tr st47 ?_
  have N47 := Fr.app N45 Nq47
  have E_ob_48 : Exa Z T47.heap ob "com/example/buildwright/buildwright/engine/BuildResult" := Exa.keep E_ob_46 Kq47
  have E_otb_48 : Exa Z T47.heap otb "com/example/buildwright/buildwright/engine/TestResult" := Exa.keep f45_1 Kq47
  have F_passed_otb_48 : Fld Z T47.heap otb "com/example/buildwright/buildwright/engine/TestResult" "passed" "I" (.int (x0 + y0)) := Fld.keep f45_2 Kq47 (ninS (Ne.symm ne_ob_otb) nin0)
  have F_failed_otb_48 : Fld Z T47.heap otb "com/example/buildwright/buildwright/engine/TestResult" "failed" "I" (.int (x1 + y1)) := Fld.keep f45_3 Kq47 (ninS (Ne.symm ne_ob_otb) nin0)
  have F_cached_otb_48 : Fld Z T47.heap otb "com/example/buildwright/buildwright/engine/TestResult" "cached" "I" (.int (x2 + y2)) := Fld.keep f45_4 Kq47 (ninS (Ne.symm ne_ob_otb) nin0)
  have F_flaky_otb_48 : Fld Z T47.heap otb "com/example/buildwright/buildwright/engine/TestResult" "flaky" "I" (.int (x3 + y3)) := Fld.keep f45_5 Kq47 (ninS (Ne.symm ne_ob_otb) nin0)
  have K47 : Keep h0 T47.heap [] := Keep.trans K45 Kq47 (allS (Or.inr mh_ob) all0)
  have Zs47 : n0 ≤ T47.heap.size := Nat.le_trans Zs45 Kq47.1
  show Go p e below _ (T47.setTop (mkF m 45 #[.val (.ref a1), .val (.ref a2)] [(.ref ob)]))
  refine Go.retA X47 hx hlk Bd.returns rfl rfl (hb hby d6_45) (by decide) (by decide) ?_
  show Q6 Z a1 a2 t1 t2 r0 r1 r2 s0 s1 s2 x0 x1 x2 x3 y0 y1 y2 y3 h0 n0 _ T47.heap _
  exact ⟨ob, otb, rfl, N47, K47, mh_ob, mh_otb, ne_ob_otb, f47_0, E_otb_48, f47_1, f47_2, f47_3, f47_4, F_passed_otb_48, F_failed_otb_48, F_cached_otb_48, F_flaky_otb_48⟩
theorem ef_8 (m : MethodId) (x0 : Addr) : entryFrame m #[(.ref x0)] 1 = mkF m 0 #[.val (.ref x0)] [] := by first | (simp [entryFrame, mkF, argsToLocals, Value.category]; done) | rfl
theorem d8_0 : decode prog_4_method_11_code 0 = .ok (.aload_n 0, 1) := by decide +kernel
theorem d8_1 : decode prog_4_method_11_code 1 = .ok (.getfield 19, 3) := by decide +kernel
theorem d8_4 : decode prog_4_method_11_code 4 = .ok (.areturn, 1) := by decide +kernel
def Q8 (Z : State) (a1 : Addr) (w : Addr) (h0 : Heap) (n0 : Nat) (v : Option Value) (h : Heap) (L : List Loc) : Prop := v = some (.ref w) ∧ Fr n0 L ∧ h = h0
set_option maxRecDepth 65536 in
set_option maxHeartbeats 40000000 in
theorem rm8 (l : Launch) (Z : State) (a0 : Array Value) (hw : ∀ d ∈ tables_1, d.before a0 Z = true) (ws : List Jvm.Cond) (a1 : Addr) (w : Addr) (h0 : Heap) (n0 : Nat) (Z0 : n0 ≤ h0.size) (F_tests_a1 : Fld Z h0 a1 "com/example/buildwright/buildwright/engine/BuildResult" "tests" "Lcom/example/buildwright/buildwright/engine/TestResult;" (.ref w)) :
    MetFree l (⟨"com/example/buildwright/buildwright/engine/BuildResult", "tests", "()Lcom/example/buildwright/buildwright/engine/TestResult;"⟩ : MethodName) (head1 (Jvm.Cond.code (⟨"com/example/buildwright/buildwright/engine/BuildResult", "tests", "()Lcom/example/buildwright/buildwright/engine/TestResult;"⟩ : MethodName) prog_4_method_11_code 1 (some (.object "com/example/buildwright/buildwright/engine/TestResult")) :: ws) ({ frames := 0, cells := 0, slots := 0, locals := 0 } : Room)) (fun a U => a = #[(.ref a1)] ∧ Z.Warmed39 U.vm ∧ U.heap = h0) (fun _ _ _ _ _ => True) (fun _ U o U' => ∃ v L, o = .returned v ∧ Q8 Z a1 w h0 n0 v U'.heap L ∧ FrameEnd U o U' L ({ frames := 0, cells := 0, slots := 0, locals := 0 } : Room).cells ({ frames := 0, cells := 0, slots := 0, locals := 0 } : Room).slots) := by
  refine MetFree.of_bodySF (plainFor_of_name own_pn_com_example_buildwright_buildwright_engine_BuildResult) hisR ?_
  intro p e s m args below meth c s₁ Bd hml0 hP hK
  obtain ⟨rfl, hZ, hh⟩ := hP
  have hx := Bd.exec
  have hby := Bd.bytes
  have hlk := Bd.notSynchronized
  have hml : c.maxLocals = 1 := hml0
  have hown : s.vm.findClass "com/example/buildwright/buildwright/engine/BuildResult" = some m.cls := findClass_of_methodNamed Bd.named
  have hnm := (name_of_methodNamed Bd.named Bd.method).1
  have X0 : Stand p l e ({ frames := 0, cells := 0, slots := 0, locals := 0 } : Room) s m #[(.ref a1)] below meth c s₁ [] 0 0 := Stand.of_body Bd
  have e0 : s₁.heap = h0 := by rw [← hh, Bd.state]; rfl
  have N0 := Fr.nil n0
  show Go p e below (KQ s below (Q8 Z a1 w h0 n0) ({ frames := 0, cells := 0, slots := 0, locals := 0 } : Room).cells ({ frames := 0, cells := 0, slots := 0, locals := 0 } : Room).slots) _
  refine Go.body (T := s₁) (σ := s₁) (g' := (mkF m 0 #[.val (.ref a1)] [])) (ef_8 m a1) ?_
  refine g_aloadN X0 hx (hb hby d8_0) 1 rfl (v := (.ref a1)) rfl rfl ?_
  obtain ⟨T49, X49, e49, st49⟩ := getF X0 hx hZ hown (host := "") (Or.inl (hw _ (List.mem_of_getElem? (i := 26) rfl))) Via.refl e0 F_tests_a1 (g := (mkF m 1 #[.val (.ref a1)] [(.ref a1)])) rfl rfl (hb hby d8_1)
  refine Go.st st49 ?_
  show Go p e below _ (T49.setTop (mkF m 4 #[.val (.ref a1)] [(.ref w)]))
  refine Go.retA X49 hx hlk Bd.returns rfl rfl (hb hby d8_4) (by decide) (by decide) ?_
  show Q8 Z a1 w h0 n0 _ T49.heap _
  rw [e49]
  exact ⟨rfl, N0, rfl⟩
theorem ef_9 (m : MethodId) (x0 : Addr) : entryFrame m #[(.ref x0)] 1 = mkF m 0 #[.val (.ref x0)] [] := by first | (simp [entryFrame, mkF, argsToLocals, Value.category]; done) | rfl
theorem d9_0 : decode prog_4_method_8_code 0 = .ok (.aload_n 0, 1) := by decide +kernel
theorem d9_1 : decode prog_4_method_8_code 1 = .ok (.getfield 7, 3) := by decide +kernel
theorem d9_4 : decode prog_4_method_8_code 4 = .ok (.ireturn, 1) := by decide +kernel
def Q9 (Z : State) (a1 : Addr) (w : Int32) (h0 : Heap) (n0 : Nat) (v : Option Value) (h : Heap) (L : List Loc) : Prop := v = some (.int w) ∧ Fr n0 L ∧ h = h0
set_option maxRecDepth 65536 in
set_option maxHeartbeats 40000000 in
theorem rm9 (l : Launch) (Z : State) (a0 : Array Value) (hw : ∀ d ∈ tables_1, d.before a0 Z = true) (ws : List Jvm.Cond) (a1 : Addr) (w : Int32) (h0 : Heap) (n0 : Nat) (Z0 : n0 ≤ h0.size) (F_ran_a1 : Fld Z h0 a1 "com/example/buildwright/buildwright/engine/BuildResult" "ran" "I" (.int w)) :
    MetFree l (⟨"com/example/buildwright/buildwright/engine/BuildResult", "ran", "()I"⟩ : MethodName) (head1 (Jvm.Cond.code (⟨"com/example/buildwright/buildwright/engine/BuildResult", "ran", "()I"⟩ : MethodName) prog_4_method_8_code 1 (some .int) :: ws) ({ frames := 0, cells := 0, slots := 0, locals := 0 } : Room)) (fun a U => a = #[(.ref a1)] ∧ Z.Warmed39 U.vm ∧ U.heap = h0) (fun _ _ _ _ _ => True) (fun _ U o U' => ∃ v L, o = .returned v ∧ Q9 Z a1 w h0 n0 v U'.heap L ∧ FrameEnd U o U' L ({ frames := 0, cells := 0, slots := 0, locals := 0 } : Room).cells ({ frames := 0, cells := 0, slots := 0, locals := 0 } : Room).slots) := by
  refine MetFree.of_bodySF (plainFor_of_name own_pn_com_example_buildwright_buildwright_engine_BuildResult) hisR ?_
  intro p e s m args below meth c s₁ Bd hml0 hP hK
  obtain ⟨rfl, hZ, hh⟩ := hP
  have hx := Bd.exec
  have hby := Bd.bytes
  have hlk := Bd.notSynchronized
  have hml : c.maxLocals = 1 := hml0
  have hown : s.vm.findClass "com/example/buildwright/buildwright/engine/BuildResult" = some m.cls := findClass_of_methodNamed Bd.named
  have hnm := (name_of_methodNamed Bd.named Bd.method).1
  have X0 : Stand p l e ({ frames := 0, cells := 0, slots := 0, locals := 0 } : Room) s m #[(.ref a1)] below meth c s₁ [] 0 0 := Stand.of_body Bd
  have e0 : s₁.heap = h0 := by rw [← hh, Bd.state]; rfl
  have N0 := Fr.nil n0
  show Go p e below (KQ s below (Q9 Z a1 w h0 n0) ({ frames := 0, cells := 0, slots := 0, locals := 0 } : Room).cells ({ frames := 0, cells := 0, slots := 0, locals := 0 } : Room).slots) _
  refine Go.body (T := s₁) (σ := s₁) (g' := (mkF m 0 #[.val (.ref a1)] [])) (ef_9 m a1) ?_
  refine g_aloadN X0 hx (hb hby d9_0) 1 rfl (v := (.ref a1)) rfl rfl ?_
  obtain ⟨T50, X50, e50, st50⟩ := getF X0 hx hZ hown (host := "") (Or.inl (hw _ (List.mem_of_getElem? (i := 20) rfl))) Via.refl e0 F_ran_a1 (g := (mkF m 1 #[.val (.ref a1)] [(.ref a1)])) rfl rfl (hb hby d9_1)
  refine Go.st st50 ?_
  show Go p e below _ (T50.setTop (mkF m 4 #[.val (.ref a1)] [(.int w)]))
  refine Go.retI X50 hx hlk Bd.returns (hb hby d9_4) (by decide) (by decide) ?_
  show Q9 Z a1 w h0 n0 _ T50.heap _
  rw [e50]
  exact ⟨rfl, N0, rfl⟩
theorem ef_10 (m : MethodId) (x0 : Addr) : entryFrame m #[(.ref x0)] 1 = mkF m 0 #[.val (.ref x0)] [] := by first | (simp [entryFrame, mkF, argsToLocals, Value.category]; done) | rfl
theorem d10_0 : decode prog_4_method_9_code 0 = .ok (.aload_n 0, 1) := by decide +kernel
theorem d10_1 : decode prog_4_method_9_code 1 = .ok (.getfield 13, 3) := by decide +kernel
theorem d10_4 : decode prog_4_method_9_code 4 = .ok (.ireturn, 1) := by decide +kernel
def Q10 (Z : State) (a1 : Addr) (w : Int32) (h0 : Heap) (n0 : Nat) (v : Option Value) (h : Heap) (L : List Loc) : Prop := v = some (.int w) ∧ Fr n0 L ∧ h = h0
set_option maxRecDepth 65536 in
set_option maxHeartbeats 40000000 in
theorem rm10 (l : Launch) (Z : State) (a0 : Array Value) (hw : ∀ d ∈ tables_1, d.before a0 Z = true) (ws : List Jvm.Cond) (a1 : Addr) (w : Int32) (h0 : Heap) (n0 : Nat) (Z0 : n0 ≤ h0.size) (F_cached_a1 : Fld Z h0 a1 "com/example/buildwright/buildwright/engine/BuildResult" "cached" "I" (.int w)) :
    MetFree l (⟨"com/example/buildwright/buildwright/engine/BuildResult", "cached", "()I"⟩ : MethodName) (head1 (Jvm.Cond.code (⟨"com/example/buildwright/buildwright/engine/BuildResult", "cached", "()I"⟩ : MethodName) prog_4_method_9_code 1 (some .int) :: ws) ({ frames := 0, cells := 0, slots := 0, locals := 0 } : Room)) (fun a U => a = #[(.ref a1)] ∧ Z.Warmed39 U.vm ∧ U.heap = h0) (fun _ _ _ _ _ => True) (fun _ U o U' => ∃ v L, o = .returned v ∧ Q10 Z a1 w h0 n0 v U'.heap L ∧ FrameEnd U o U' L ({ frames := 0, cells := 0, slots := 0, locals := 0 } : Room).cells ({ frames := 0, cells := 0, slots := 0, locals := 0 } : Room).slots) := by
  refine MetFree.of_bodySF (plainFor_of_name own_pn_com_example_buildwright_buildwright_engine_BuildResult) hisR ?_
  intro p e s m args below meth c s₁ Bd hml0 hP hK
  obtain ⟨rfl, hZ, hh⟩ := hP
  have hx := Bd.exec
  have hby := Bd.bytes
  have hlk := Bd.notSynchronized
  have hml : c.maxLocals = 1 := hml0
  have hown : s.vm.findClass "com/example/buildwright/buildwright/engine/BuildResult" = some m.cls := findClass_of_methodNamed Bd.named
  have hnm := (name_of_methodNamed Bd.named Bd.method).1
  have X0 : Stand p l e ({ frames := 0, cells := 0, slots := 0, locals := 0 } : Room) s m #[(.ref a1)] below meth c s₁ [] 0 0 := Stand.of_body Bd
  have e0 : s₁.heap = h0 := by rw [← hh, Bd.state]; rfl
  have N0 := Fr.nil n0
  show Go p e below (KQ s below (Q10 Z a1 w h0 n0) ({ frames := 0, cells := 0, slots := 0, locals := 0 } : Room).cells ({ frames := 0, cells := 0, slots := 0, locals := 0 } : Room).slots) _
  refine Go.body (T := s₁) (σ := s₁) (g' := (mkF m 0 #[.val (.ref a1)] [])) (ef_10 m a1) ?_
  refine g_aloadN X0 hx (hb hby d10_0) 1 rfl (v := (.ref a1)) rfl rfl ?_
  obtain ⟨T51, X51, e51, st51⟩ := getF X0 hx hZ hown (host := "") (Or.inl (hw _ (List.mem_of_getElem? (i := 22) rfl))) Via.refl e0 F_cached_a1 (g := (mkF m 1 #[.val (.ref a1)] [(.ref a1)])) rfl rfl (hb hby d10_1)
  refine Go.st st51 ?_
  show Go p e below _ (T51.setTop (mkF m 4 #[.val (.ref a1)] [(.int w)]))
  refine Go.retI X51 hx hlk Bd.returns (hb hby d10_4) (by decide) (by decide) ?_
  show Q10 Z a1 w h0 n0 _ T51.heap _
  rw [e51]
  exact ⟨rfl, N0, rfl⟩
theorem ef_11 (m : MethodId) (x0 : Addr) : entryFrame m #[(.ref x0)] 1 = mkF m 0 #[.val (.ref x0)] [] := by first | (simp [entryFrame, mkF, argsToLocals, Value.category]; done) | rfl
theorem d11_0 : decode prog_4_method_10_code 0 = .ok (.aload_n 0, 1) := by decide +kernel
theorem d11_1 : decode prog_4_method_10_code 1 = .ok (.getfield 16, 3) := by decide +kernel
theorem d11_4 : decode prog_4_method_10_code 4 = .ok (.ireturn, 1) := by decide +kernel
def Q11 (Z : State) (a1 : Addr) (w : Int32) (h0 : Heap) (n0 : Nat) (v : Option Value) (h : Heap) (L : List Loc) : Prop := v = some (.int w) ∧ Fr n0 L ∧ h = h0
set_option maxRecDepth 65536 in
set_option maxHeartbeats 40000000 in
theorem rm11 (l : Launch) (Z : State) (a0 : Array Value) (hw : ∀ d ∈ tables_1, d.before a0 Z = true) (ws : List Jvm.Cond) (a1 : Addr) (w : Int32) (h0 : Heap) (n0 : Nat) (Z0 : n0 ≤ h0.size) (F_failed_a1 : Fld Z h0 a1 "com/example/buildwright/buildwright/engine/BuildResult" "failed" "I" (.int w)) :
    MetFree l (⟨"com/example/buildwright/buildwright/engine/BuildResult", "failed", "()I"⟩ : MethodName) (head1 (Jvm.Cond.code (⟨"com/example/buildwright/buildwright/engine/BuildResult", "failed", "()I"⟩ : MethodName) prog_4_method_10_code 1 (some .int) :: ws) ({ frames := 0, cells := 0, slots := 0, locals := 0 } : Room)) (fun a U => a = #[(.ref a1)] ∧ Z.Warmed39 U.vm ∧ U.heap = h0) (fun _ _ _ _ _ => True) (fun _ U o U' => ∃ v L, o = .returned v ∧ Q11 Z a1 w h0 n0 v U'.heap L ∧ FrameEnd U o U' L ({ frames := 0, cells := 0, slots := 0, locals := 0 } : Room).cells ({ frames := 0, cells := 0, slots := 0, locals := 0 } : Room).slots) := by
  refine MetFree.of_bodySF (plainFor_of_name own_pn_com_example_buildwright_buildwright_engine_BuildResult) hisR ?_
  intro p e s m args below meth c s₁ Bd hml0 hP hK
  obtain ⟨rfl, hZ, hh⟩ := hP
  have hx := Bd.exec
  have hby := Bd.bytes
  have hlk := Bd.notSynchronized
  have hml : c.maxLocals = 1 := hml0
  have hown : s.vm.findClass "com/example/buildwright/buildwright/engine/BuildResult" = some m.cls := findClass_of_methodNamed Bd.named
  have hnm := (name_of_methodNamed Bd.named Bd.method).1
  have X0 : Stand p l e ({ frames := 0, cells := 0, slots := 0, locals := 0 } : Room) s m #[(.ref a1)] below meth c s₁ [] 0 0 := Stand.of_body Bd
  have e0 : s₁.heap = h0 := by rw [← hh, Bd.state]; rfl
  have N0 := Fr.nil n0
  show Go p e below (KQ s below (Q11 Z a1 w h0 n0) ({ frames := 0, cells := 0, slots := 0, locals := 0 } : Room).cells ({ frames := 0, cells := 0, slots := 0, locals := 0 } : Room).slots) _
  refine Go.body (T := s₁) (σ := s₁) (g' := (mkF m 0 #[.val (.ref a1)] [])) (ef_11 m a1) ?_
  refine g_aloadN X0 hx (hb hby d11_0) 1 rfl (v := (.ref a1)) rfl rfl ?_
  obtain ⟨T52, X52, e52, st52⟩ := getF X0 hx hZ hown (host := "") (Or.inl (hw _ (List.mem_of_getElem? (i := 24) rfl))) Via.refl e0 F_failed_a1 (g := (mkF m 1 #[.val (.ref a1)] [(.ref a1)])) rfl rfl (hb hby d11_1)
  refine Go.st st52 ?_
  show Go p e below _ (T52.setTop (mkF m 4 #[.val (.ref a1)] [(.int w)]))
  refine Go.retI X52 hx hlk Bd.returns (hb hby d11_4) (by decide) (by decide) ?_
  show Q11 Z a1 w h0 n0 _ T52.heap _
  rw [e52]
  exact ⟨rfl, N0, rfl⟩
theorem ef_12 (m : MethodId) (x0 : Addr) : entryFrame m #[(.ref x0)] 1 = mkF m 0 #[.val (.ref x0)] [] := by first | (simp [entryFrame, mkF, argsToLocals, Value.category]; done) | rfl
theorem d12_0 : decode prog_27_method_7_code 0 = .ok (.aload_n 0, 1) := by decide +kernel
theorem d12_1 : decode prog_27_method_7_code 1 = .ok (.getfield 7, 3) := by decide +kernel
theorem d12_4 : decode prog_27_method_7_code 4 = .ok (.ireturn, 1) := by decide +kernel
def Q12 (Z : State) (a1 : Addr) (w : Int32) (h0 : Heap) (n0 : Nat) (v : Option Value) (h : Heap) (L : List Loc) : Prop := v = some (.int w) ∧ Fr n0 L ∧ h = h0
set_option maxRecDepth 65536 in
set_option maxHeartbeats 40000000 in
theorem rm12 (l : Launch) (Z : State) (a0 : Array Value) (hw : ∀ d ∈ tables_1, d.before a0 Z = true) (ws : List Jvm.Cond) (a1 : Addr) (w : Int32) (h0 : Heap) (n0 : Nat) (Z0 : n0 ≤ h0.size) (F_passed_a1 : Fld Z h0 a1 "com/example/buildwright/buildwright/engine/TestResult" "passed" "I" (.int w)) :
    MetFree l (⟨"com/example/buildwright/buildwright/engine/TestResult", "passed", "()I"⟩ : MethodName) (head1 (Jvm.Cond.code (⟨"com/example/buildwright/buildwright/engine/TestResult", "passed", "()I"⟩ : MethodName) prog_27_method_7_code 1 (some .int) :: ws) ({ frames := 0, cells := 0, slots := 0, locals := 0 } : Room)) (fun a U => a = #[(.ref a1)] ∧ Z.Warmed39 U.vm ∧ U.heap = h0) (fun _ _ _ _ _ => True) (fun _ U o U' => ∃ v L, o = .returned v ∧ Q12 Z a1 w h0 n0 v U'.heap L ∧ FrameEnd U o U' L ({ frames := 0, cells := 0, slots := 0, locals := 0 } : Room).cells ({ frames := 0, cells := 0, slots := 0, locals := 0 } : Room).slots) := by
  refine MetFree.of_bodySF (plainFor_of_name own_pn_com_example_buildwright_buildwright_engine_TestResult) hisR ?_
  intro p e s m args below meth c s₁ Bd hml0 hP hK
  obtain ⟨rfl, hZ, hh⟩ := hP
  have hx := Bd.exec
  have hby := Bd.bytes
  have hlk := Bd.notSynchronized
  have hml : c.maxLocals = 1 := hml0
  have hown : s.vm.findClass "com/example/buildwright/buildwright/engine/TestResult" = some m.cls := findClass_of_methodNamed Bd.named
  have hnm := (name_of_methodNamed Bd.named Bd.method).1
  have X0 : Stand p l e ({ frames := 0, cells := 0, slots := 0, locals := 0 } : Room) s m #[(.ref a1)] below meth c s₁ [] 0 0 := Stand.of_body Bd
  have e0 : s₁.heap = h0 := by rw [← hh, Bd.state]; rfl
  have N0 := Fr.nil n0
  show Go p e below (KQ s below (Q12 Z a1 w h0 n0) ({ frames := 0, cells := 0, slots := 0, locals := 0 } : Room).cells ({ frames := 0, cells := 0, slots := 0, locals := 0 } : Room).slots) _
  refine Go.body (T := s₁) (σ := s₁) (g' := (mkF m 0 #[.val (.ref a1)] [])) (ef_12 m a1) ?_
  refine g_aloadN X0 hx (hb hby d12_0) 1 rfl (v := (.ref a1)) rfl rfl ?_
  obtain ⟨T53, X53, e53, st53⟩ := getF X0 hx hZ hown (host := "") (Or.inl (hw _ (List.mem_of_getElem? (i := 34) rfl))) Via.refl e0 F_passed_a1 (g := (mkF m 1 #[.val (.ref a1)] [(.ref a1)])) rfl rfl (hb hby d12_1)
  refine Go.st st53 ?_
  show Go p e below _ (T53.setTop (mkF m 4 #[.val (.ref a1)] [(.int w)]))
  refine Go.retI X53 hx hlk Bd.returns (hb hby d12_4) (by decide) (by decide) ?_
  show Q12 Z a1 w h0 n0 _ T53.heap _
  rw [e53]
  exact ⟨rfl, N0, rfl⟩
theorem ef_13 (m : MethodId) (x0 : Addr) : entryFrame m #[(.ref x0)] 1 = mkF m 0 #[.val (.ref x0)] [] := by first | (simp [entryFrame, mkF, argsToLocals, Value.category]; done) | rfl
theorem d13_0 : decode prog_27_method_8_code 0 = .ok (.aload_n 0, 1) := by decide +kernel
theorem d13_1 : decode prog_27_method_8_code 1 = .ok (.getfield 13, 3) := by decide +kernel
theorem d13_4 : decode prog_27_method_8_code 4 = .ok (.ireturn, 1) := by decide +kernel
def Q13 (Z : State) (a1 : Addr) (w : Int32) (h0 : Heap) (n0 : Nat) (v : Option Value) (h : Heap) (L : List Loc) : Prop := v = some (.int w) ∧ Fr n0 L ∧ h = h0
set_option maxRecDepth 65536 in
set_option maxHeartbeats 40000000 in
theorem rm13 (l : Launch) (Z : State) (a0 : Array Value) (hw : ∀ d ∈ tables_1, d.before a0 Z = true) (ws : List Jvm.Cond) (a1 : Addr) (w : Int32) (h0 : Heap) (n0 : Nat) (Z0 : n0 ≤ h0.size) (F_failed_a1 : Fld Z h0 a1 "com/example/buildwright/buildwright/engine/TestResult" "failed" "I" (.int w)) :
    MetFree l (⟨"com/example/buildwright/buildwright/engine/TestResult", "failed", "()I"⟩ : MethodName) (head1 (Jvm.Cond.code (⟨"com/example/buildwright/buildwright/engine/TestResult", "failed", "()I"⟩ : MethodName) prog_27_method_8_code 1 (some .int) :: ws) ({ frames := 0, cells := 0, slots := 0, locals := 0 } : Room)) (fun a U => a = #[(.ref a1)] ∧ Z.Warmed39 U.vm ∧ U.heap = h0) (fun _ _ _ _ _ => True) (fun _ U o U' => ∃ v L, o = .returned v ∧ Q13 Z a1 w h0 n0 v U'.heap L ∧ FrameEnd U o U' L ({ frames := 0, cells := 0, slots := 0, locals := 0 } : Room).cells ({ frames := 0, cells := 0, slots := 0, locals := 0 } : Room).slots) := by
  refine MetFree.of_bodySF (plainFor_of_name own_pn_com_example_buildwright_buildwright_engine_TestResult) hisR ?_
  intro p e s m args below meth c s₁ Bd hml0 hP hK
  obtain ⟨rfl, hZ, hh⟩ := hP
  have hx := Bd.exec
  have hby := Bd.bytes
  have hlk := Bd.notSynchronized
  have hml : c.maxLocals = 1 := hml0
  have hown : s.vm.findClass "com/example/buildwright/buildwright/engine/TestResult" = some m.cls := findClass_of_methodNamed Bd.named
  have hnm := (name_of_methodNamed Bd.named Bd.method).1
  have X0 : Stand p l e ({ frames := 0, cells := 0, slots := 0, locals := 0 } : Room) s m #[(.ref a1)] below meth c s₁ [] 0 0 := Stand.of_body Bd
  have e0 : s₁.heap = h0 := by rw [← hh, Bd.state]; rfl
  have N0 := Fr.nil n0
  show Go p e below (KQ s below (Q13 Z a1 w h0 n0) ({ frames := 0, cells := 0, slots := 0, locals := 0 } : Room).cells ({ frames := 0, cells := 0, slots := 0, locals := 0 } : Room).slots) _
  refine Go.body (T := s₁) (σ := s₁) (g' := (mkF m 0 #[.val (.ref a1)] [])) (ef_13 m a1) ?_
  refine g_aloadN X0 hx (hb hby d13_0) 1 rfl (v := (.ref a1)) rfl rfl ?_
  obtain ⟨T54, X54, e54, st54⟩ := getF X0 hx hZ hown (host := "") (Or.inl (hw _ (List.mem_of_getElem? (i := 36) rfl))) Via.refl e0 F_failed_a1 (g := (mkF m 1 #[.val (.ref a1)] [(.ref a1)])) rfl rfl (hb hby d13_1)
  refine Go.st st54 ?_
  show Go p e below _ (T54.setTop (mkF m 4 #[.val (.ref a1)] [(.int w)]))
  refine Go.retI X54 hx hlk Bd.returns (hb hby d13_4) (by decide) (by decide) ?_
  show Q13 Z a1 w h0 n0 _ T54.heap _
  rw [e54]
  exact ⟨rfl, N0, rfl⟩
theorem ef_14 (m : MethodId) (x0 : Addr) : entryFrame m #[(.ref x0)] 1 = mkF m 0 #[.val (.ref x0)] [] := by first | (simp [entryFrame, mkF, argsToLocals, Value.category]; done) | rfl
theorem d14_0 : decode prog_27_method_9_code 0 = .ok (.aload_n 0, 1) := by decide +kernel
theorem d14_1 : decode prog_27_method_9_code 1 = .ok (.getfield 16, 3) := by decide +kernel
theorem d14_4 : decode prog_27_method_9_code 4 = .ok (.ireturn, 1) := by decide +kernel
def Q14 (Z : State) (a1 : Addr) (w : Int32) (h0 : Heap) (n0 : Nat) (v : Option Value) (h : Heap) (L : List Loc) : Prop := v = some (.int w) ∧ Fr n0 L ∧ h = h0
set_option maxRecDepth 65536 in
set_option maxHeartbeats 40000000 in
theorem rm14 (l : Launch) (Z : State) (a0 : Array Value) (hw : ∀ d ∈ tables_1, d.before a0 Z = true) (ws : List Jvm.Cond) (a1 : Addr) (w : Int32) (h0 : Heap) (n0 : Nat) (Z0 : n0 ≤ h0.size) (F_cached_a1 : Fld Z h0 a1 "com/example/buildwright/buildwright/engine/TestResult" "cached" "I" (.int w)) :
    MetFree l (⟨"com/example/buildwright/buildwright/engine/TestResult", "cached", "()I"⟩ : MethodName) (head1 (Jvm.Cond.code (⟨"com/example/buildwright/buildwright/engine/TestResult", "cached", "()I"⟩ : MethodName) prog_27_method_9_code 1 (some .int) :: ws) ({ frames := 0, cells := 0, slots := 0, locals := 0 } : Room)) (fun a U => a = #[(.ref a1)] ∧ Z.Warmed39 U.vm ∧ U.heap = h0) (fun _ _ _ _ _ => True) (fun _ U o U' => ∃ v L, o = .returned v ∧ Q14 Z a1 w h0 n0 v U'.heap L ∧ FrameEnd U o U' L ({ frames := 0, cells := 0, slots := 0, locals := 0 } : Room).cells ({ frames := 0, cells := 0, slots := 0, locals := 0 } : Room).slots) := by
  refine MetFree.of_bodySF (plainFor_of_name own_pn_com_example_buildwright_buildwright_engine_TestResult) hisR ?_
  intro p e s m args below meth c s₁ Bd hml0 hP hK
  obtain ⟨rfl, hZ, hh⟩ := hP
  have hx := Bd.exec
  have hby := Bd.bytes
  have hlk := Bd.notSynchronized
  have hml : c.maxLocals = 1 := hml0
  have hown : s.vm.findClass "com/example/buildwright/buildwright/engine/TestResult" = some m.cls := findClass_of_methodNamed Bd.named
  have hnm := (name_of_methodNamed Bd.named Bd.method).1
  have X0 : Stand p l e ({ frames := 0, cells := 0, slots := 0, locals := 0 } : Room) s m #[(.ref a1)] below meth c s₁ [] 0 0 := Stand.of_body Bd
  have e0 : s₁.heap = h0 := by rw [← hh, Bd.state]; rfl
  have N0 := Fr.nil n0
  show Go p e below (KQ s below (Q14 Z a1 w h0 n0) ({ frames := 0, cells := 0, slots := 0, locals := 0 } : Room).cells ({ frames := 0, cells := 0, slots := 0, locals := 0 } : Room).slots) _
  refine Go.body (T := s₁) (σ := s₁) (g' := (mkF m 0 #[.val (.ref a1)] [])) (ef_14 m a1) ?_
  refine g_aloadN X0 hx (hb hby d14_0) 1 rfl (v := (.ref a1)) rfl rfl ?_
  obtain ⟨T55, X55, e55, st55⟩ := getF X0 hx hZ hown (host := "") (Or.inl (hw _ (List.mem_of_getElem? (i := 38) rfl))) Via.refl e0 F_cached_a1 (g := (mkF m 1 #[.val (.ref a1)] [(.ref a1)])) rfl rfl (hb hby d14_1)
  refine Go.st st55 ?_
  show Go p e below _ (T55.setTop (mkF m 4 #[.val (.ref a1)] [(.int w)]))
  refine Go.retI X55 hx hlk Bd.returns (hb hby d14_4) (by decide) (by decide) ?_
  show Q14 Z a1 w h0 n0 _ T55.heap _
  rw [e55]
  exact ⟨rfl, N0, rfl⟩
theorem ef_15 (m : MethodId) (x0 : Addr) : entryFrame m #[(.ref x0)] 1 = mkF m 0 #[.val (.ref x0)] [] := by first | (simp [entryFrame, mkF, argsToLocals, Value.category]; done) | rfl
theorem d15_0 : decode prog_27_method_10_code 0 = .ok (.aload_n 0, 1) := by decide +kernel
theorem d15_1 : decode prog_27_method_10_code 1 = .ok (.getfield 19, 3) := by decide +kernel
theorem d15_4 : decode prog_27_method_10_code 4 = .ok (.ireturn, 1) := by decide +kernel
def Q15 (Z : State) (a1 : Addr) (w : Int32) (h0 : Heap) (n0 : Nat) (v : Option Value) (h : Heap) (L : List Loc) : Prop := v = some (.int w) ∧ Fr n0 L ∧ h = h0
set_option maxRecDepth 65536 in
set_option maxHeartbeats 40000000 in
theorem rm15 (l : Launch) (Z : State) (a0 : Array Value) (hw : ∀ d ∈ tables_1, d.before a0 Z = true) (ws : List Jvm.Cond) (a1 : Addr) (w : Int32) (h0 : Heap) (n0 : Nat) (Z0 : n0 ≤ h0.size) (F_flaky_a1 : Fld Z h0 a1 "com/example/buildwright/buildwright/engine/TestResult" "flaky" "I" (.int w)) :
    MetFree l (⟨"com/example/buildwright/buildwright/engine/TestResult", "flaky", "()I"⟩ : MethodName) (head1 (Jvm.Cond.code (⟨"com/example/buildwright/buildwright/engine/TestResult", "flaky", "()I"⟩ : MethodName) prog_27_method_10_code 1 (some .int) :: ws) ({ frames := 0, cells := 0, slots := 0, locals := 0 } : Room)) (fun a U => a = #[(.ref a1)] ∧ Z.Warmed39 U.vm ∧ U.heap = h0) (fun _ _ _ _ _ => True) (fun _ U o U' => ∃ v L, o = .returned v ∧ Q15 Z a1 w h0 n0 v U'.heap L ∧ FrameEnd U o U' L ({ frames := 0, cells := 0, slots := 0, locals := 0 } : Room).cells ({ frames := 0, cells := 0, slots := 0, locals := 0 } : Room).slots) := by
  refine MetFree.of_bodySF (plainFor_of_name own_pn_com_example_buildwright_buildwright_engine_TestResult) hisR ?_
  intro p e s m args below meth c s₁ Bd hml0 hP hK
  obtain ⟨rfl, hZ, hh⟩ := hP
  have hx := Bd.exec
  have hby := Bd.bytes
  have hlk := Bd.notSynchronized
  have hml : c.maxLocals = 1 := hml0
  have hown : s.vm.findClass "com/example/buildwright/buildwright/engine/TestResult" = some m.cls := findClass_of_methodNamed Bd.named
  have hnm := (name_of_methodNamed Bd.named Bd.method).1
  have X0 : Stand p l e ({ frames := 0, cells := 0, slots := 0, locals := 0 } : Room) s m #[(.ref a1)] below meth c s₁ [] 0 0 := Stand.of_body Bd
  have e0 : s₁.heap = h0 := by rw [← hh, Bd.state]; rfl
  have N0 := Fr.nil n0
  show Go p e below (KQ s below (Q15 Z a1 w h0 n0) ({ frames := 0, cells := 0, slots := 0, locals := 0 } : Room).cells ({ frames := 0, cells := 0, slots := 0, locals := 0 } : Room).slots) _
  refine Go.body (T := s₁) (σ := s₁) (g' := (mkF m 0 #[.val (.ref a1)] [])) (ef_15 m a1) ?_
  refine g_aloadN X0 hx (hb hby d15_0) 1 rfl (v := (.ref a1)) rfl rfl ?_
  obtain ⟨T56, X56, e56, st56⟩ := getF X0 hx hZ hown (host := "") (Or.inl (hw _ (List.mem_of_getElem? (i := 40) rfl))) Via.refl e0 F_flaky_a1 (g := (mkF m 1 #[.val (.ref a1)] [(.ref a1)])) rfl rfl (hb hby d15_1)
  refine Go.st st56 ?_
  show Go p e below _ (T56.setTop (mkF m 4 #[.val (.ref a1)] [(.int w)]))
  refine Go.retI X56 hx hlk Bd.returns (hb hby d15_4) (by decide) (by decide) ?_
  show Q15 Z a1 w h0 n0 _ T56.heap _
  rw [e56]
  exact ⟨rfl, N0, rfl⟩
theorem own_pn_com_example_buildwright_buildwright_engine_BuildResultPlusPinLaw : plainName "com/example/buildwright/buildwright/engine/BuildResultPlusPinLaw" = true := by first | (simp [plainName, overriddenIn]; done) | decide +kernel
theorem ef_0 (m : MethodId) (x0 : Int32) (x1 : Int32) (x2 : Int32) (x3 : Int32) (x4 : Int32) (x5 : Int32) : entryFrame m #[(.int x0), (.int x1), (.int x2), (.int x3), (.int x4), (.int x5)] maxLocals = mkF m 0 #[.val (.int x0), .val (.int x1), .val (.int x2), .val (.int x3), .val (.int x4), .val (.int x5), .unset, .unset, .unset, .unset, .unset, .unset, .unset, .unset, .unset, .unset, .unset] [] := by first | (simp [entryFrame, mkF, argsToLocals, Value.category, maxLocals]; done) | rfl
theorem own_pd4 : parseMethodDescriptor "(III)V" = some ⟨[.int, .int, .int], none⟩ := by decide +kernel
theorem own_pd5 : parseMethodDescriptor "(Lcom/example/buildwright/buildwright/engine/BuildResult;)Lcom/example/buildwright/buildwright/engine/BuildResult;" = some ⟨[(.object "com/example/buildwright/buildwright/engine/BuildResult")], some (.object "com/example/buildwright/buildwright/engine/BuildResult")⟩ := by decide +kernel
theorem own_pd6 : parseMethodDescriptor "()Lcom/example/buildwright/buildwright/engine/TestResult;" = some ⟨[], some (.object "com/example/buildwright/buildwright/engine/TestResult")⟩ := by decide +kernel
theorem own_pd7 : parseMethodDescriptor "()I" = some ⟨[], some .int⟩ := by decide +kernel
def Q0 (Z : State) (p1 : Int32) (p2 : Int32) (p3 : Int32) (p4 : Int32) (p5 : Int32) (p6 : Int32) (t_NONE : Addr) (h0 : Heap) (n0 : Nat) (v : Option Value) (h : Heap) (L : List Loc) : Prop := v = some (.int (1 : Int32)) ∧ Fr n0 L
set_option maxRecDepth 65536 in
set_option maxHeartbeats 40000000 in
theorem rm0 (l : Launch) (Z : State) (a0 : Array Value) (hw : ∀ d ∈ tables_1, d.before a0 Z = true) (ws : List Jvm.Cond) (p1 : Int32) (p2 : Int32) (p3 : Int32) (p4 : Int32) (p5 : Int32) (p6 : Int32) (t_NONE : Addr) (h0 : Heap) (n0 : Nat) (Z0 : n0 ≤ h0.size) (S_NONE : Sta Z h0 "com/example/buildwright/buildwright/engine/TestResult" "NONE" "Lcom/example/buildwright/buildwright/engine/TestResult;" (.ref t_NONE)) (E_t_NONE : Exa Z h0 t_NONE "com/example/buildwright/buildwright/engine/TestResult") (F_passed_t_NONE : Fld Z h0 t_NONE "com/example/buildwright/buildwright/engine/TestResult" "passed" "I" (.int (0 : Int32))) (F_failed_t_NONE : Fld Z h0 t_NONE "com/example/buildwright/buildwright/engine/TestResult" "failed" "I" (.int (0 : Int32))) (F_cached_t_NONE : Fld Z h0 t_NONE "com/example/buildwright/buildwright/engine/TestResult" "cached" "I" (.int (0 : Int32))) (F_flaky_t_NONE : Fld Z h0 t_NONE "com/example/buildwright/buildwright/engine/TestResult" "flaky" "I" (.int (0 : Int32))) (hn0 : h0.size = n0) :
    MetFree l x (head1 (Jvm.Cond.code x code maxLocals ret :: ws) room_1) (fun a U => a = #[(.int p1), (.int p2), (.int p3), (.int p4), (.int p5), (.int p6)] ∧ Z.Warmed39 U.vm ∧ U.heap = h0) (fun _ _ _ _ _ => True) (fun _ U o U' => ∃ v L, o = .returned v ∧ Q0 Z p1 p2 p3 p4 p5 p6 t_NONE h0 n0 v U'.heap L ∧ FrameEnd U o U' L 24 128) := by
  refine MetFree.of_bodySF (plainFor_of_name own_pn_com_example_buildwright_buildwright_engine_BuildResultPlusPinLaw) hisR ?_
  intro p e s m args below meth c s₁ Bd hml0 hP hK
  obtain ⟨rfl, hZ, hh⟩ := hP
  have hx := Bd.exec
  have hby := Bd.bytes
  have hlk := Bd.notSynchronized
  have hml : c.maxLocals = 17 := hml0
  have hown : s.vm.findClass "com/example/buildwright/buildwright/engine/BuildResultPlusPinLaw" = some m.cls := findClass_of_methodNamed Bd.named
  have hnm := (name_of_methodNamed Bd.named Bd.method).1
  have X0 : Stand p l e room_1 s m #[(.int p1), (.int p2), (.int p3), (.int p4), (.int p5), (.int p6)] below meth c s₁ [] 0 0 := Stand.of_body Bd
  have e0 : s₁.heap = h0 := by rw [← hh, Bd.state]; rfl
  have N0 := Fr.nil n0
  have K0 : Keep h0 h0 [] := Keep.refl _ _
  show Go p e below (KQ s below (Q0 Z p1 p2 p3 p4 p5 p6 t_NONE h0 n0) 24 128) _
  refine Go.body (T := s₁) (σ := s₁) (g' := (mkF m 0 #[.val (.int p1), .val (.int p2), .val (.int p3), .val (.int p4), .val (.int p5), .val (.int p6), .unset, .unset, .unset, .unset, .unset, .unset, .unset, .unset, .unset, .unset, .unset] [])) (ef_0 m p1 p2 p3 p4 p5 p6) ?_
  refine g_iloadN X0 hx (hb hby at_0) 1 rfl (v := p1) rfl ?_
  refine g_iloadN X0 hx (hb hby at_1) 2 rfl (v := p4) rfl ?_
  refine g_isub X0 hx (hb hby at_2) 3 rfl (p1 - p4) rfl ?_
  refine g_istore X0 hx (hb hby at_3) 5 rfl #[.val (.int p1), .val (.int p2), .val (.int p3), .val (.int p4), .val (.int p5), .val (.int p6), .val (.int (p1 - p4)), .unset, .unset, .unset, .unset, .unset, .unset, .unset, .unset, .unset, .unset] rfl ?_
  refine g_iloadN X0 hx (hb hby at_5) 6 rfl (v := p2) rfl ?_
  refine g_iload X0 hx (hb hby at_6) 8 rfl (v := p5) rfl ?_
  refine g_isub X0 hx (hb hby at_8) 9 rfl (p2 - p5) rfl ?_
  refine g_istore X0 hx (hb hby at_9) 11 rfl #[.val (.int p1), .val (.int p2), .val (.int p3), .val (.int p4), .val (.int p5), .val (.int p6), .val (.int (p1 - p4)), .val (.int (p2 - p5)), .unset, .unset, .unset, .unset, .unset, .unset, .unset, .unset, .unset] rfl ?_
  refine g_iloadN X0 hx (hb hby at_11) 12 rfl (v := p3) rfl ?_
  refine g_iload X0 hx (hb hby at_12) 14 rfl (v := p6) rfl ?_
  refine g_isub X0 hx (hb hby at_14) 15 rfl (p3 - p6) rfl ?_
  refine g_istore X0 hx (hb hby at_15) 17 rfl #[.val (.int p1), .val (.int p2), .val (.int p3), .val (.int p4), .val (.int p5), .val (.int p6), .val (.int (p1 - p4)), .val (.int (p2 - p5)), .val (.int (p3 - p6)), .unset, .unset, .unset, .unset, .unset, .unset, .unset, .unset] rfl ?_
  refine g_iloadN X0 hx (hb hby at_17) 18 rfl (v := p1) rfl ?_
  refine g_iload X0 hx (hb hby at_18) 20 rfl (v := p6) rfl ?_
  refine g_ixor X0 hx (hb hby at_20) 21 rfl (p1 ^^^ p6) rfl ?_
  refine g_istore X0 hx (hb hby at_21) 23 rfl #[.val (.int p1), .val (.int p2), .val (.int p3), .val (.int p4), .val (.int p5), .val (.int p6), .val (.int (p1 - p4)), .val (.int (p2 - p5)), .val (.int (p3 - p6)), .val (.int (p1 ^^^ p6)), .unset, .unset, .unset, .unset, .unset, .unset, .unset] rfl ?_
  obtain ⟨T57, h57, X57, e57, E57, A57, D57, -, st57⟩ := newO X0 hx hZ hown (hw _ (List.mem_of_getElem? (i := 0) rfl)) (hw _ (List.mem_of_getElem? (i := 1) rfl)) (hw _ (List.mem_of_getElem? (i := 2) rfl)) e0 (g := (mkF m 23 #[.val (.int p1), .val (.int p2), .val (.int p3), .val (.int p4), .val (.int p5), .val (.int p6), .val (.int (p1 - p4)), .val (.int (p2 - p5)), .val (.int (p3 - p6)), .val (.int (p1 ^^^ p6)), .unset, .unset, .unset, .unset, .unset, .unset, .unset] [])) rfl (hb hby at_23) (by decide) (by decide)
  refine Go.st st57 ?_
  obtain ⟨o57, q57⟩ : ∃ z, z = h0.size := ⟨_, rfl⟩
  rw [← q57] at A57 D57 ⊢
  have g_o57 : n0 ≤ o57 := Nat.le_trans Z0 (Nat.le_of_eq q57.symm)
  have mh_o57 : h0.size ≤ o57 := Nat.le_trans K0.1 (Nat.le_of_eq q57.symm)
  have F_ran_57 : Fld Z h57 o57 "com/example/buildwright/buildwright/engine/BuildResult" "ran" "I" (.int (0 : Int32)) := D57 (Or.inr (hw _ (List.mem_of_getElem? (i := 21) rfl))) (ty := .int) (by decide)
  have F_cached_57 : Fld Z h57 o57 "com/example/buildwright/buildwright/engine/BuildResult" "cached" "I" (.int (0 : Int32)) := D57 (Or.inr (hw _ (List.mem_of_getElem? (i := 23) rfl))) (ty := .int) (by decide)
  have F_failed_57 : Fld Z h57 o57 "com/example/buildwright/buildwright/engine/BuildResult" "failed" "I" (.int (0 : Int32)) := D57 (Or.inr (hw _ (List.mem_of_getElem? (i := 25) rfl))) (ty := .int) (by decide)
  have F_tests_57 : Fld Z h57 o57 "com/example/buildwright/buildwright/engine/BuildResult" "tests" "Lcom/example/buildwright/buildwright/engine/TestResult;" .null := D57 (Or.inr (hw _ (List.mem_of_getElem? (i := 27) rfl))) (ty := (.object "com/example/buildwright/buildwright/engine/TestResult")) (by decide)
  have K57 : Keep h0 h57 [] := Keep.ext K0 E57
  have Zs57 : n0 ≤ h57.size := Nat.le_trans Z0 E57.1
  show Go p e below _ (T57.setTop (mkF m 26 #[.val (.int p1), .val (.int p2), .val (.int p3), .val (.int p4), .val (.int p5), .val (.int p6), .val (.int (p1 - p4)), .val (.int (p2 - p5)), .val (.int (p3 - p6)), .val (.int (p1 ^^^ p6)), .unset, .unset, .unset, .unset, .unset, .unset, .unset] [(.ref o57)]))
  refine g_dup X57 hx (hb hby at_26) 27 rfl rfl ?_
  refine g_iloadN X57 hx (hb hby at_27) 28 rfl (v := p1) rfl ?_
  refine g_iloadN X57 hx (hb hby at_28) 29 rfl (v := p2) rfl ?_
  refine g_iloadN X57 hx (hb hby at_29) 30 rfl (v := p3) rfl ?_
  obtain ⟨_, _, ⟨T59, L59, k59, n59⟩, -, X59, ⟨Lc59, hQ59, l59, y59, z59⟩, st59⟩ := X57.specialBack hx (y := (⟨"com/example/buildwright/buildwright/engine/BuildResult", "<init>", "(III)V"⟩ : MethodName)) rfl hown (mvT hZ (hw _ (List.mem_of_getElem? (i := 3) rfl))) (mvT hZ (hw _ (List.mem_of_getElem? (i := 4) rfl))) (mvT hZ (hw _ (List.mem_of_getElem? (i := 5) rfl))) (by decide) (backOf (W := 1) (rm1 l Z a0 hw [] o57 p1 p2 p3 (.int (0 : Int32)) (.int (0 : Int32)) (.int (0 : Int32)) .null t_NONE h57 n0 Zs57 A57 g_o57 (own_Sta_keep S_NONE K57 all0) F_ran_57 F_cached_57 F_failed_57 F_tests_57) hZ (hw _ (List.mem_of_getElem? (i := 5) rfl)) (hw _ (List.mem_of_getElem? (i := 2) rfl)) (by decide) (by decide)) (g := (mkF m 30 #[.val (.int p1), .val (.int p2), .val (.int p3), .val (.int p4), .val (.int p5), .val (.int p6), .val (.int (p1 - p4)), .val (.int (p2 - p5)), .val (.int (p3 - p6)), .val (.int (p1 ^^^ p6)), .unset, .unset, .unset, .unset, .unset, .unset, .unset] [(.int p3), (.int p2), (.int p1), (.ref o57), (.ref o57)])) rfl (by rw [hml]; rfl) (Steps.refl _) (a := o57) (argsL := [(.int p1), (.int p2), (.int p3)]) (rest := [(.ref o57)]) (lenOf own_pd4 rfl) rfl (by show 2 * 0 + _ ≤ _; exact Nat.le_of_eq rfl) (hb hby at_30) (fun _ _ => ⟨rfl, e57, (by decide : 1 + 0 ≤ _), (by decide : 4 + 0 ≤ _)⟩)
  dsimp only [Pt.U, Pt.locs, Pt.cells, Pt.slots] at X59 l59 y59 z59 st59 hQ59
  subst l59 y59 z59
  obtain ⟨rfl, Nq59, Kq59, f59_0, f59_1, f59_2, f59_3, f59_4⟩ := hQ59
  refine Go.tr st59 ?_
  have N59 := Fr.app N0 Nq59
  have E_o57_60 : Exa Z T59.heap o57 "com/example/buildwright/buildwright/engine/BuildResult" := Exa.keep A57 Kq59
  have K59 : Keep h0 T59.heap [] := Keep.trans K57 Kq59 (allS (Or.inr mh_o57) all0)
  have Zs59 : n0 ≤ T59.heap.size := Nat.le_trans Zs57 Kq59.1
  show Go p e below _ (T59.setTop (mkF m 33 #[.val (.int p1), .val (.int p2), .val (.int p3), .val (.int p4), .val (.int p5), .val (.int p6), .val (.int (p1 - p4)), .val (.int (p2 - p5)), .val (.int (p3 - p6)), .val (.int (p1 ^^^ p6)), .unset, .unset, .unset, .unset, .unset, .unset, .unset] [(.ref o57)]))
  refine g_astore X59 hx (hb hby at_33) 35 rfl rfl #[.val (.int p1), .val (.int p2), .val (.int p3), .val (.int p4), .val (.int p5), .val (.int p6), .val (.int (p1 - p4)), .val (.int (p2 - p5)), .val (.int (p3 - p6)), .val (.int (p1 ^^^ p6)), .val (.ref o57), .unset, .unset, .unset, .unset, .unset, .unset] rfl ?_
  obtain ⟨T61, h61, X61, e61, E61, A61, D61, -, st61⟩ := newO X59 hx hZ hown (hw _ (List.mem_of_getElem? (i := 28) rfl)) (hw _ (List.mem_of_getElem? (i := 29) rfl)) (hw _ (List.mem_of_getElem? (i := 7) rfl)) rfl (g := (mkF m 35 #[.val (.int p1), .val (.int p2), .val (.int p3), .val (.int p4), .val (.int p5), .val (.int p6), .val (.int (p1 - p4)), .val (.int (p2 - p5)), .val (.int (p3 - p6)), .val (.int (p1 ^^^ p6)), .val (.ref o57), .unset, .unset, .unset, .unset, .unset, .unset] [])) rfl (hb hby at_35) (by decide) (by decide)
  refine Go.st st61 ?_
  obtain ⟨o61, q61⟩ : ∃ z, z = T59.heap.size := ⟨_, rfl⟩
  rw [← q61] at A61 D61 ⊢
  have ne_o57_o61 : o57 ≠ o61 := Nat.ne_of_lt (Nat.lt_of_lt_of_eq f59_0.lt q61.symm)
  have g_o61 : n0 ≤ o61 := Nat.le_trans Zs59 (Nat.le_of_eq q61.symm)
  have mh_o61 : h0.size ≤ o61 := Nat.le_trans K59.1 (Nat.le_of_eq q61.symm)
  have E_o57_62 : Exa Z h61 o57 "com/example/buildwright/buildwright/engine/BuildResult" := Exa.ext E61 f59_0
  have F_ran_o57_62 : Fld Z h61 o57 "com/example/buildwright/buildwright/engine/BuildResult" "ran" "I" (.int p1) := Fld.ext E61 f59_1
  have F_cached_o57_62 : Fld Z h61 o57 "com/example/buildwright/buildwright/engine/BuildResult" "cached" "I" (.int p2) := Fld.ext E61 f59_2
  have F_failed_o57_62 : Fld Z h61 o57 "com/example/buildwright/buildwright/engine/BuildResult" "failed" "I" (.int p3) := Fld.ext E61 f59_3
  have F_tests_o57_62 : Fld Z h61 o57 "com/example/buildwright/buildwright/engine/BuildResult" "tests" "Lcom/example/buildwright/buildwright/engine/TestResult;" (.ref t_NONE) := Fld.ext E61 f59_4
  have F_passed_61 : Fld Z h61 o61 "com/example/buildwright/buildwright/engine/TestResult" "passed" "I" (.int (0 : Int32)) := D61 (Or.inr (hw _ (List.mem_of_getElem? (i := 35) rfl))) (ty := .int) (by decide)
  have F_failed_61 : Fld Z h61 o61 "com/example/buildwright/buildwright/engine/TestResult" "failed" "I" (.int (0 : Int32)) := D61 (Or.inr (hw _ (List.mem_of_getElem? (i := 37) rfl))) (ty := .int) (by decide)
  have F_cached_61 : Fld Z h61 o61 "com/example/buildwright/buildwright/engine/TestResult" "cached" "I" (.int (0 : Int32)) := D61 (Or.inr (hw _ (List.mem_of_getElem? (i := 39) rfl))) (ty := .int) (by decide)
  have F_flaky_61 : Fld Z h61 o61 "com/example/buildwright/buildwright/engine/TestResult" "flaky" "I" (.int (0 : Int32)) := D61 (Or.inr (hw _ (List.mem_of_getElem? (i := 41) rfl))) (ty := .int) (by decide)
  have K61 : Keep h0 h61 [] := Keep.ext K59 E61
  have Zs61 : n0 ≤ h61.size := Nat.le_trans Zs59 E61.1
  show Go p e below _ (T61.setTop (mkF m 38 #[.val (.int p1), .val (.int p2), .val (.int p3), .val (.int p4), .val (.int p5), .val (.int p6), .val (.int (p1 - p4)), .val (.int (p2 - p5)), .val (.int (p3 - p6)), .val (.int (p1 ^^^ p6)), .val (.ref o57), .unset, .unset, .unset, .unset, .unset, .unset] [(.ref o61)]))
  refine g_dup X61 hx (hb hby at_38) 39 rfl rfl ?_
  refine g_iload X61 hx (hb hby at_39) 41 rfl (v := (p1 - p4)) rfl ?_
  refine g_iload X61 hx (hb hby at_41) 43 rfl (v := (p2 - p5)) rfl ?_
  refine g_iload X61 hx (hb hby at_43) 45 rfl (v := (p3 - p6)) rfl ?_
  refine g_iload X61 hx (hb hby at_45) 47 rfl (v := (p1 ^^^ p6)) rfl ?_
  obtain ⟨_, _, ⟨T63, L63, k63, n63⟩, -, X63, ⟨Lc63, hQ63, l63, y63, z63⟩, st63⟩ := X61.specialBack hx (y := (⟨"com/example/buildwright/buildwright/engine/TestResult", "<init>", "(IIII)V"⟩ : MethodName)) rfl hown (mvT hZ (hw _ (List.mem_of_getElem? (i := 30) rfl))) (mvT hZ (hw _ (List.mem_of_getElem? (i := 31) rfl))) (mvT hZ (hw _ (List.mem_of_getElem? (i := 32) rfl))) (by decide) (backOf (W := 1) (rm5 l Z a0 hw [] o61 (p1 - p4) (p2 - p5) (p3 - p6) (p1 ^^^ p6) (.int (0 : Int32)) (.int (0 : Int32)) (.int (0 : Int32)) (.int (0 : Int32)) h61 n0 Zs61 A61 g_o61 F_passed_61 F_failed_61 F_cached_61 F_flaky_61) hZ (hw _ (List.mem_of_getElem? (i := 32) rfl)) (hw _ (List.mem_of_getElem? (i := 7) rfl)) (by decide) (by decide)) (g := (mkF m 47 #[.val (.int p1), .val (.int p2), .val (.int p3), .val (.int p4), .val (.int p5), .val (.int p6), .val (.int (p1 - p4)), .val (.int (p2 - p5)), .val (.int (p3 - p6)), .val (.int (p1 ^^^ p6)), .val (.ref o57), .unset, .unset, .unset, .unset, .unset, .unset] [(.int (p1 ^^^ p6)), (.int (p3 - p6)), (.int (p2 - p5)), (.int (p1 - p4)), (.ref o61), (.ref o61)])) rfl (by rw [hml]; rfl) (Steps.refl _) (a := o61) (argsL := [(.int (p1 - p4)), (.int (p2 - p5)), (.int (p3 - p6)), (.int (p1 ^^^ p6))]) (rest := [(.ref o61)]) (lenOf own_pd2 rfl) rfl (by show 2 * 0 + _ ≤ _; exact Nat.le_of_eq rfl) (hb hby at_47) (fun _ _ => ⟨rfl, e61, (by decide : 2 + 0 ≤ _), (by decide : 8 + 0 ≤ _)⟩)
  dsimp only [Pt.U, Pt.locs, Pt.cells, Pt.slots] at X63 l63 y63 z63 st63 hQ63
  subst l63 y63 z63
  obtain ⟨rfl, Nq63, Kq63, f63_0, f63_1, f63_2, f63_3, f63_4⟩ := hQ63
  refine Go.tr st63 ?_
  have N63 := Fr.app N59 Nq63
  have E_o57_64 : Exa Z T63.heap o57 "com/example/buildwright/buildwright/engine/BuildResult" := Exa.keep E_o57_62 Kq63
  have F_ran_o57_64 : Fld Z T63.heap o57 "com/example/buildwright/buildwright/engine/BuildResult" "ran" "I" (.int p1) := Fld.keep F_ran_o57_62 Kq63 (ninS ne_o57_o61 nin0)
  have F_cached_o57_64 : Fld Z T63.heap o57 "com/example/buildwright/buildwright/engine/BuildResult" "cached" "I" (.int p2) := Fld.keep F_cached_o57_62 Kq63 (ninS ne_o57_o61 nin0)
  have F_failed_o57_64 : Fld Z T63.heap o57 "com/example/buildwright/buildwright/engine/BuildResult" "failed" "I" (.int p3) := Fld.keep F_failed_o57_62 Kq63 (ninS ne_o57_o61 nin0)
  have F_tests_o57_64 : Fld Z T63.heap o57 "com/example/buildwright/buildwright/engine/BuildResult" "tests" "Lcom/example/buildwright/buildwright/engine/TestResult;" (.ref t_NONE) := Fld.keep F_tests_o57_62 Kq63 (ninS ne_o57_o61 nin0)
  have E_o61_64 : Exa Z T63.heap o61 "com/example/buildwright/buildwright/engine/TestResult" := Exa.keep A61 Kq63
  have K63 : Keep h0 T63.heap [] := Keep.trans K61 Kq63 (allS (Or.inr mh_o61) all0)
  have Zs63 : n0 ≤ T63.heap.size := Nat.le_trans Zs61 Kq63.1
  show Go p e below _ (T63.setTop (mkF m 50 #[.val (.int p1), .val (.int p2), .val (.int p3), .val (.int p4), .val (.int p5), .val (.int p6), .val (.int (p1 - p4)), .val (.int (p2 - p5)), .val (.int (p3 - p6)), .val (.int (p1 ^^^ p6)), .val (.ref o57), .unset, .unset, .unset, .unset, .unset, .unset] [(.ref o61)]))
  refine g_astore X63 hx (hb hby at_50) 52 rfl rfl #[.val (.int p1), .val (.int p2), .val (.int p3), .val (.int p4), .val (.int p5), .val (.int p6), .val (.int (p1 - p4)), .val (.int (p2 - p5)), .val (.int (p3 - p6)), .val (.int (p1 ^^^ p6)), .val (.ref o57), .val (.ref o61), .unset, .unset, .unset, .unset, .unset] rfl ?_
  obtain ⟨T65, h65, X65, e65, E65, A65, D65, -, st65⟩ := newO X63 hx hZ hown (hw _ (List.mem_of_getElem? (i := 0) rfl)) (hw _ (List.mem_of_getElem? (i := 1) rfl)) (hw _ (List.mem_of_getElem? (i := 2) rfl)) rfl (g := (mkF m 52 #[.val (.int p1), .val (.int p2), .val (.int p3), .val (.int p4), .val (.int p5), .val (.int p6), .val (.int (p1 - p4)), .val (.int (p2 - p5)), .val (.int (p3 - p6)), .val (.int (p1 ^^^ p6)), .val (.ref o57), .val (.ref o61), .unset, .unset, .unset, .unset, .unset] [])) rfl (hb hby at_52) (by decide) (by decide)
  refine Go.st st65 ?_
  obtain ⟨o65, q65⟩ : ∃ z, z = T63.heap.size := ⟨_, rfl⟩
  rw [← q65] at A65 D65 ⊢
  have ne_o57_o65 : o57 ≠ o65 := Nat.ne_of_lt (Nat.lt_of_lt_of_eq E_o57_64.lt q65.symm)
  have ne_o61_o65 : o61 ≠ o65 := Nat.ne_of_lt (Nat.lt_of_lt_of_eq f63_0.lt q65.symm)
  have g_o65 : n0 ≤ o65 := Nat.le_trans Zs63 (Nat.le_of_eq q65.symm)
  have mh_o65 : h0.size ≤ o65 := Nat.le_trans K63.1 (Nat.le_of_eq q65.symm)
  have E_o57_66 : Exa Z h65 o57 "com/example/buildwright/buildwright/engine/BuildResult" := Exa.ext E65 E_o57_64
  have F_ran_o57_66 : Fld Z h65 o57 "com/example/buildwright/buildwright/engine/BuildResult" "ran" "I" (.int p1) := Fld.ext E65 F_ran_o57_64
  have F_cached_o57_66 : Fld Z h65 o57 "com/example/buildwright/buildwright/engine/BuildResult" "cached" "I" (.int p2) := Fld.ext E65 F_cached_o57_64
  have F_failed_o57_66 : Fld Z h65 o57 "com/example/buildwright/buildwright/engine/BuildResult" "failed" "I" (.int p3) := Fld.ext E65 F_failed_o57_64
  have F_tests_o57_66 : Fld Z h65 o57 "com/example/buildwright/buildwright/engine/BuildResult" "tests" "Lcom/example/buildwright/buildwright/engine/TestResult;" (.ref t_NONE) := Fld.ext E65 F_tests_o57_64
  have E_o61_66 : Exa Z h65 o61 "com/example/buildwright/buildwright/engine/TestResult" := Exa.ext E65 f63_0
  have F_passed_o61_66 : Fld Z h65 o61 "com/example/buildwright/buildwright/engine/TestResult" "passed" "I" (.int (p1 - p4)) := Fld.ext E65 f63_1
  have F_failed_o61_66 : Fld Z h65 o61 "com/example/buildwright/buildwright/engine/TestResult" "failed" "I" (.int (p2 - p5)) := Fld.ext E65 f63_2
  have F_cached_o61_66 : Fld Z h65 o61 "com/example/buildwright/buildwright/engine/TestResult" "cached" "I" (.int (p3 - p6)) := Fld.ext E65 f63_3
  have F_flaky_o61_66 : Fld Z h65 o61 "com/example/buildwright/buildwright/engine/TestResult" "flaky" "I" (.int (p1 ^^^ p6)) := Fld.ext E65 f63_4
  have F_ran_65 : Fld Z h65 o65 "com/example/buildwright/buildwright/engine/BuildResult" "ran" "I" (.int (0 : Int32)) := D65 (Or.inr (hw _ (List.mem_of_getElem? (i := 21) rfl))) (ty := .int) (by decide)
  have F_cached_65 : Fld Z h65 o65 "com/example/buildwright/buildwright/engine/BuildResult" "cached" "I" (.int (0 : Int32)) := D65 (Or.inr (hw _ (List.mem_of_getElem? (i := 23) rfl))) (ty := .int) (by decide)
  have F_failed_65 : Fld Z h65 o65 "com/example/buildwright/buildwright/engine/BuildResult" "failed" "I" (.int (0 : Int32)) := D65 (Or.inr (hw _ (List.mem_of_getElem? (i := 25) rfl))) (ty := .int) (by decide)
  have F_tests_65 : Fld Z h65 o65 "com/example/buildwright/buildwright/engine/BuildResult" "tests" "Lcom/example/buildwright/buildwright/engine/TestResult;" .null := D65 (Or.inr (hw _ (List.mem_of_getElem? (i := 27) rfl))) (ty := (.object "com/example/buildwright/buildwright/engine/TestResult")) (by decide)
  have K65 : Keep h0 h65 [] := Keep.ext K63 E65
  have Zs65 : n0 ≤ h65.size := Nat.le_trans Zs63 E65.1
  show Go p e below _ (T65.setTop (mkF m 55 #[.val (.int p1), .val (.int p2), .val (.int p3), .val (.int p4), .val (.int p5), .val (.int p6), .val (.int (p1 - p4)), .val (.int (p2 - p5)), .val (.int (p3 - p6)), .val (.int (p1 ^^^ p6)), .val (.ref o57), .val (.ref o61), .unset, .unset, .unset, .unset, .unset] [(.ref o65)]))
  refine g_dup X65 hx (hb hby at_55) 56 rfl rfl ?_
  refine g_iloadN X65 hx (hb hby at_56) 57 rfl (v := p4) rfl ?_
  refine g_iload X65 hx (hb hby at_57) 59 rfl (v := p5) rfl ?_
  refine g_iload X65 hx (hb hby at_59) 61 rfl (v := p6) rfl ?_
  refine g_aload X65 hx (hb hby at_61) 63 rfl (v := (.ref o61)) rfl rfl ?_
  obtain ⟨_, _, ⟨T67, L67, k67, n67⟩, -, X67, ⟨Lc67, hQ67, l67, y67, z67⟩, st67⟩ := X65.specialBack hx (y := (⟨"com/example/buildwright/buildwright/engine/BuildResult", "<init>", "(IIILcom/example/buildwright/buildwright/engine/TestResult;)V"⟩ : MethodName)) rfl hown (mvT hZ (hw _ (List.mem_of_getElem? (i := 42) rfl))) (mvT hZ (hw _ (List.mem_of_getElem? (i := 10) rfl))) (mvT hZ (hw _ (List.mem_of_getElem? (i := 11) rfl))) (by decide) (backOf (W := 1) (rm2 l Z a0 hw [] o65 p4 p5 p6 o61 (.int (0 : Int32)) (.int (0 : Int32)) (.int (0 : Int32)) .null h65 n0 Zs65 A65 g_o65 F_ran_65 F_cached_65 F_failed_65 F_tests_65) hZ (hw _ (List.mem_of_getElem? (i := 11) rfl)) (hw _ (List.mem_of_getElem? (i := 2) rfl)) (by decide) (by decide)) (g := (mkF m 63 #[.val (.int p1), .val (.int p2), .val (.int p3), .val (.int p4), .val (.int p5), .val (.int p6), .val (.int (p1 - p4)), .val (.int (p2 - p5)), .val (.int (p3 - p6)), .val (.int (p1 ^^^ p6)), .val (.ref o57), .val (.ref o61), .unset, .unset, .unset, .unset, .unset] [(.ref o61), (.int p6), (.int p5), (.int p4), (.ref o65), (.ref o65)])) rfl (by rw [hml]; rfl) (Steps.refl _) (a := o65) (argsL := [(.int p4), (.int p5), (.int p6), (.ref o61)]) (rest := [(.ref o65)]) (lenOf own_pd1 rfl) rfl (by show 2 * 0 + _ ≤ _; exact Nat.le_of_eq rfl) (hb hby at_63) (fun _ _ => ⟨rfl, e65, (by decide : 3 + 0 ≤ _), (by decide : 12 + 0 ≤ _)⟩)
  dsimp only [Pt.U, Pt.locs, Pt.cells, Pt.slots] at X67 l67 y67 z67 st67 hQ67
  subst l67 y67 z67
  obtain ⟨rfl, Nq67, Kq67, f67_0, f67_1, f67_2, f67_3, f67_4⟩ := hQ67
  refine Go.tr st67 ?_
  have N67 := Fr.app N63 Nq67
  have E_o57_68 : Exa Z T67.heap o57 "com/example/buildwright/buildwright/engine/BuildResult" := Exa.keep E_o57_66 Kq67
  have F_ran_o57_68 : Fld Z T67.heap o57 "com/example/buildwright/buildwright/engine/BuildResult" "ran" "I" (.int p1) := Fld.keep F_ran_o57_66 Kq67 (ninS ne_o57_o65 nin0)
  have F_cached_o57_68 : Fld Z T67.heap o57 "com/example/buildwright/buildwright/engine/BuildResult" "cached" "I" (.int p2) := Fld.keep F_cached_o57_66 Kq67 (ninS ne_o57_o65 nin0)
  have F_failed_o57_68 : Fld Z T67.heap o57 "com/example/buildwright/buildwright/engine/BuildResult" "failed" "I" (.int p3) := Fld.keep F_failed_o57_66 Kq67 (ninS ne_o57_o65 nin0)
  have F_tests_o57_68 : Fld Z T67.heap o57 "com/example/buildwright/buildwright/engine/BuildResult" "tests" "Lcom/example/buildwright/buildwright/engine/TestResult;" (.ref t_NONE) := Fld.keep F_tests_o57_66 Kq67 (ninS ne_o57_o65 nin0)
  have E_o61_68 : Exa Z T67.heap o61 "com/example/buildwright/buildwright/engine/TestResult" := Exa.keep E_o61_66 Kq67
  have F_passed_o61_68 : Fld Z T67.heap o61 "com/example/buildwright/buildwright/engine/TestResult" "passed" "I" (.int (p1 - p4)) := Fld.keep F_passed_o61_66 Kq67 (ninS ne_o61_o65 nin0)
  have F_failed_o61_68 : Fld Z T67.heap o61 "com/example/buildwright/buildwright/engine/TestResult" "failed" "I" (.int (p2 - p5)) := Fld.keep F_failed_o61_66 Kq67 (ninS ne_o61_o65 nin0)
  have F_cached_o61_68 : Fld Z T67.heap o61 "com/example/buildwright/buildwright/engine/TestResult" "cached" "I" (.int (p3 - p6)) := Fld.keep F_cached_o61_66 Kq67 (ninS ne_o61_o65 nin0)
  have F_flaky_o61_68 : Fld Z T67.heap o61 "com/example/buildwright/buildwright/engine/TestResult" "flaky" "I" (.int (p1 ^^^ p6)) := Fld.keep F_flaky_o61_66 Kq67 (ninS ne_o61_o65 nin0)
  have E_o65_68 : Exa Z T67.heap o65 "com/example/buildwright/buildwright/engine/BuildResult" := Exa.keep A65 Kq67
  have K67 : Keep h0 T67.heap [] := Keep.trans K65 Kq67 (allS (Or.inr mh_o65) all0)
  have Zs67 : n0 ≤ T67.heap.size := Nat.le_trans Zs65 Kq67.1
  show Go p e below _ (T67.setTop (mkF m 66 #[.val (.int p1), .val (.int p2), .val (.int p3), .val (.int p4), .val (.int p5), .val (.int p6), .val (.int (p1 - p4)), .val (.int (p2 - p5)), .val (.int (p3 - p6)), .val (.int (p1 ^^^ p6)), .val (.ref o57), .val (.ref o61), .unset, .unset, .unset, .unset, .unset] [(.ref o65)]))
  refine g_astore X67 hx (hb hby at_66) 68 rfl rfl #[.val (.int p1), .val (.int p2), .val (.int p3), .val (.int p4), .val (.int p5), .val (.int p6), .val (.int (p1 - p4)), .val (.int (p2 - p5)), .val (.int (p3 - p6)), .val (.int (p1 ^^^ p6)), .val (.ref o57), .val (.ref o61), .val (.ref o65), .unset, .unset, .unset, .unset] rfl ?_
  refine g_aload X67 hx (hb hby at_68) 70 rfl (v := (.ref o57)) rfl rfl ?_
  refine g_aload X67 hx (hb hby at_70) 72 rfl (v := (.ref o65)) rfl rfl ?_
  obtain ⟨cq69, kq69, q69a, q69b, q69c⟩ := isOf hZ rfl E_o57_68
  obtain ⟨_, _, ⟨T69, L69, k69, n69⟩, -, X69, ⟨Lc69, hQ69, l69, y69, z69⟩, st69⟩ := X67.virtualBack hx (y := (⟨"com/example/buildwright/buildwright/engine/BuildResult", "plus", "(Lcom/example/buildwright/buildwright/engine/BuildResult;)Lcom/example/buildwright/buildwright/engine/BuildResult;"⟩ : MethodName)) (z := (⟨"com/example/buildwright/buildwright/engine/BuildResult", "plus", "(Lcom/example/buildwright/buildwright/engine/BuildResult;)Lcom/example/buildwright/buildwright/engine/BuildResult;"⟩ : MethodName)) hown (mvT hZ (hw _ (List.mem_of_getElem? (i := 43) rfl))) (mvT hZ (hw _ (List.mem_of_getElem? (i := 44) rfl))) (notFace_of_selects (args := #[]) (mvT hZ (hw _ (List.mem_of_getElem? (i := 46) rfl)))) (mvT hZ (hw _ (List.mem_of_getElem? (i := 46) rfl))) (mvT hZ (hw _ (List.mem_of_getElem? (i := 45) rfl))) (by decide) (backOf (W := 0) (rm6 l Z a0 hw [] o57 o65 t_NONE o61 p1 p2 p3 p4 p5 p6 (0 : Int32) (0 : Int32) (0 : Int32) (0 : Int32) (p1 - p4) (p2 - p5) (p3 - p6) (p1 ^^^ p6) T67.heap n0 Zs67 F_ran_o57_68 F_cached_o57_68 F_failed_o57_68 F_tests_o57_68 f67_1 f67_2 f67_3 f67_4 (Exa.keep E_t_NONE K67) (Fld.keep F_passed_t_NONE K67 nin0) (Fld.keep F_failed_t_NONE K67 nin0) (Fld.keep F_cached_t_NONE K67 nin0) (Fld.keep F_flaky_t_NONE K67 nin0) F_passed_o61_68 F_failed_o61_68 F_cached_o61_68 F_flaky_o61_68) hZ (hw _ (List.mem_of_getElem? (i := 47) rfl)) (hw _ (List.mem_of_getElem? (i := 2) rfl)) (by decide) (by decide)) q69a q69c (g := (mkF m 72 #[.val (.int p1), .val (.int p2), .val (.int p3), .val (.int p4), .val (.int p5), .val (.int p6), .val (.int (p1 - p4)), .val (.int (p2 - p5)), .val (.int (p3 - p6)), .val (.int (p1 ^^^ p6)), .val (.ref o57), .val (.ref o61), .val (.ref o65), .unset, .unset, .unset, .unset] [(.ref o65), (.ref o57)])) rfl (by rw [hml]; rfl) (Steps.refl _) (argsL := [(.ref o65)]) (rest := []) (lenOf own_pd5 rfl) rfl (by show 2 * 0 + _ ≤ _; exact Nat.le_of_eq rfl) (hb hby at_72) (fun _ _ => ⟨rfl, rfl, (by decide : 3 + 2 ≤ _), (by decide : 12 + 8 ≤ _)⟩)
  dsimp only [Pt.U, Pt.locs, Pt.cells, Pt.slots] at X69 l69 y69 z69 st69 hQ69
  subst l69 y69 z69
  obtain ⟨b_69, tb_69, rfl, Nq69, Kq69, f69_0, f69_1, f69_2, f69_3, f69_4, f69_5, f69_6, f69_7, f69_8, f69_9, f69_10, f69_11, f69_12⟩ := hQ69
  refine Go.tr st69 ?_
  have N69 := Fr.app N67 Nq69
  have E_o57_70 : Exa Z T69.heap o57 "com/example/buildwright/buildwright/engine/BuildResult" := Exa.keep E_o57_68 Kq69
  have F_ran_o57_70 : Fld Z T69.heap o57 "com/example/buildwright/buildwright/engine/BuildResult" "ran" "I" (.int p1) := Fld.keep F_ran_o57_68 Kq69 nin0
  have F_cached_o57_70 : Fld Z T69.heap o57 "com/example/buildwright/buildwright/engine/BuildResult" "cached" "I" (.int p2) := Fld.keep F_cached_o57_68 Kq69 nin0
  have F_failed_o57_70 : Fld Z T69.heap o57 "com/example/buildwright/buildwright/engine/BuildResult" "failed" "I" (.int p3) := Fld.keep F_failed_o57_68 Kq69 nin0
  have F_tests_o57_70 : Fld Z T69.heap o57 "com/example/buildwright/buildwright/engine/BuildResult" "tests" "Lcom/example/buildwright/buildwright/engine/TestResult;" (.ref t_NONE) := Fld.keep F_tests_o57_68 Kq69 nin0
  have E_o61_70 : Exa Z T69.heap o61 "com/example/buildwright/buildwright/engine/TestResult" := Exa.keep E_o61_68 Kq69
  have F_passed_o61_70 : Fld Z T69.heap o61 "com/example/buildwright/buildwright/engine/TestResult" "passed" "I" (.int (p1 - p4)) := Fld.keep F_passed_o61_68 Kq69 nin0
  have F_failed_o61_70 : Fld Z T69.heap o61 "com/example/buildwright/buildwright/engine/TestResult" "failed" "I" (.int (p2 - p5)) := Fld.keep F_failed_o61_68 Kq69 nin0
  have F_cached_o61_70 : Fld Z T69.heap o61 "com/example/buildwright/buildwright/engine/TestResult" "cached" "I" (.int (p3 - p6)) := Fld.keep F_cached_o61_68 Kq69 nin0
  have F_flaky_o61_70 : Fld Z T69.heap o61 "com/example/buildwright/buildwright/engine/TestResult" "flaky" "I" (.int (p1 ^^^ p6)) := Fld.keep F_flaky_o61_68 Kq69 nin0
  have E_o65_70 : Exa Z T69.heap o65 "com/example/buildwright/buildwright/engine/BuildResult" := Exa.keep f67_0 Kq69
  have F_ran_o65_70 : Fld Z T69.heap o65 "com/example/buildwright/buildwright/engine/BuildResult" "ran" "I" (.int p4) := Fld.keep f67_1 Kq69 nin0
  have F_cached_o65_70 : Fld Z T69.heap o65 "com/example/buildwright/buildwright/engine/BuildResult" "cached" "I" (.int p5) := Fld.keep f67_2 Kq69 nin0
  have F_failed_o65_70 : Fld Z T69.heap o65 "com/example/buildwright/buildwright/engine/BuildResult" "failed" "I" (.int p6) := Fld.keep f67_3 Kq69 nin0
  have F_tests_o65_70 : Fld Z T69.heap o65 "com/example/buildwright/buildwright/engine/BuildResult" "tests" "Lcom/example/buildwright/buildwright/engine/TestResult;" (.ref o61) := Fld.keep f67_4 Kq69 nin0
  have ne_o57_b_69 : o57 ≠ b_69 := Nat.ne_of_lt (Nat.lt_of_lt_of_le E_o57_68.lt f69_0)
  have ne_o61_b_69 : o61 ≠ b_69 := Nat.ne_of_lt (Nat.lt_of_lt_of_le E_o61_68.lt f69_0)
  have ne_o65_b_69 : o65 ≠ b_69 := Nat.ne_of_lt (Nat.lt_of_lt_of_le f67_0.lt f69_0)
  have g_b_69 : n0 ≤ b_69 := Nat.le_trans Zs67 f69_0
  have mh_b_69 : h0.size ≤ b_69 := Nat.le_trans K67.1 f69_0
  have ne_o57_tb_69 : o57 ≠ tb_69 := Nat.ne_of_lt (Nat.lt_of_lt_of_le E_o57_68.lt f69_1)
  have ne_o61_tb_69 : o61 ≠ tb_69 := Nat.ne_of_lt (Nat.lt_of_lt_of_le E_o61_68.lt f69_1)
  have ne_o65_tb_69 : o65 ≠ tb_69 := Nat.ne_of_lt (Nat.lt_of_lt_of_le f67_0.lt f69_1)
  have g_tb_69 : n0 ≤ tb_69 := Nat.le_trans Zs67 f69_1
  have mh_tb_69 : h0.size ≤ tb_69 := Nat.le_trans K67.1 f69_1
  have K69 : Keep h0 T69.heap [] := Keep.trans K67 Kq69 all0
  have Zs69 : n0 ≤ T69.heap.size := Nat.le_trans Zs67 Kq69.1
  show Go p e below _ (T69.setTop (mkF m 75 #[.val (.int p1), .val (.int p2), .val (.int p3), .val (.int p4), .val (.int p5), .val (.int p6), .val (.int (p1 - p4)), .val (.int (p2 - p5)), .val (.int (p3 - p6)), .val (.int (p1 ^^^ p6)), .val (.ref o57), .val (.ref o61), .val (.ref o65), .unset, .unset, .unset, .unset] [(.ref b_69)]))
  refine g_astore X69 hx (hb hby at_75) 77 rfl rfl #[.val (.int p1), .val (.int p2), .val (.int p3), .val (.int p4), .val (.int p5), .val (.int p6), .val (.int (p1 - p4)), .val (.int (p2 - p5)), .val (.int (p3 - p6)), .val (.int (p1 ^^^ p6)), .val (.ref o57), .val (.ref o61), .val (.ref o65), .val (.ref b_69), .unset, .unset, .unset] rfl ?_
  refine g_aload X69 hx (hb hby at_77) 79 rfl (v := (.ref o65)) rfl rfl ?_
  refine g_aload X69 hx (hb hby at_79) 81 rfl (v := (.ref o57)) rfl rfl ?_
  obtain ⟨cq71, kq71, q71a, q71b, q71c⟩ := isOf hZ rfl E_o65_70
  obtain ⟨_, _, ⟨T71, L71, k71, n71⟩, -, X71, ⟨Lc71, hQ71, l71, y71, z71⟩, st71⟩ := X69.virtualBack hx (y := (⟨"com/example/buildwright/buildwright/engine/BuildResult", "plus", "(Lcom/example/buildwright/buildwright/engine/BuildResult;)Lcom/example/buildwright/buildwright/engine/BuildResult;"⟩ : MethodName)) (z := (⟨"com/example/buildwright/buildwright/engine/BuildResult", "plus", "(Lcom/example/buildwright/buildwright/engine/BuildResult;)Lcom/example/buildwright/buildwright/engine/BuildResult;"⟩ : MethodName)) hown (mvT hZ (hw _ (List.mem_of_getElem? (i := 43) rfl))) (mvT hZ (hw _ (List.mem_of_getElem? (i := 44) rfl))) (notFace_of_selects (args := #[]) (mvT hZ (hw _ (List.mem_of_getElem? (i := 46) rfl)))) (mvT hZ (hw _ (List.mem_of_getElem? (i := 46) rfl))) (mvT hZ (hw _ (List.mem_of_getElem? (i := 45) rfl))) (by decide) (backOf (W := 0) (rm6 l Z a0 hw [] o65 o57 o61 t_NONE p4 p5 p6 p1 p2 p3 (p1 - p4) (p2 - p5) (p3 - p6) (p1 ^^^ p6) (0 : Int32) (0 : Int32) (0 : Int32) (0 : Int32) T69.heap n0 Zs69 F_ran_o65_70 F_cached_o65_70 F_failed_o65_70 F_tests_o65_70 F_ran_o57_70 F_cached_o57_70 F_failed_o57_70 F_tests_o57_70 E_o61_70 F_passed_o61_70 F_failed_o61_70 F_cached_o61_70 F_flaky_o61_70 (Fld.keep F_passed_t_NONE K69 nin0) (Fld.keep F_failed_t_NONE K69 nin0) (Fld.keep F_cached_t_NONE K69 nin0) (Fld.keep F_flaky_t_NONE K69 nin0)) hZ (hw _ (List.mem_of_getElem? (i := 47) rfl)) (hw _ (List.mem_of_getElem? (i := 2) rfl)) (by decide) (by decide)) q71a q71c (g := (mkF m 81 #[.val (.int p1), .val (.int p2), .val (.int p3), .val (.int p4), .val (.int p5), .val (.int p6), .val (.int (p1 - p4)), .val (.int (p2 - p5)), .val (.int (p3 - p6)), .val (.int (p1 ^^^ p6)), .val (.ref o57), .val (.ref o61), .val (.ref o65), .val (.ref b_69), .unset, .unset, .unset] [(.ref o57), (.ref o65)])) rfl (by rw [hml]; rfl) (Steps.refl _) (argsL := [(.ref o57)]) (rest := []) (lenOf own_pd5 rfl) rfl (by show 2 * 0 + _ ≤ _; exact Nat.le_of_eq rfl) (hb hby at_81) (fun _ _ => ⟨rfl, rfl, (by decide : 5 + 2 ≤ _), (by decide : 20 + 8 ≤ _)⟩)
  dsimp only [Pt.U, Pt.locs, Pt.cells, Pt.slots] at X71 l71 y71 z71 st71 hQ71
  subst l71 y71 z71
  obtain ⟨b_71, tb_71, rfl, Nq71, Kq71, f71_0, f71_1, f71_2, f71_3, f71_4, f71_5, f71_6, f71_7, f71_8, f71_9, f71_10, f71_11, f71_12⟩ := hQ71
  refine Go.tr st71 ?_
  have N71 := Fr.app N69 Nq71
  have E_o57_72 : Exa Z T71.heap o57 "com/example/buildwright/buildwright/engine/BuildResult" := Exa.keep E_o57_70 Kq71
  have F_ran_o57_72 : Fld Z T71.heap o57 "com/example/buildwright/buildwright/engine/BuildResult" "ran" "I" (.int p1) := Fld.keep F_ran_o57_70 Kq71 nin0
  have F_cached_o57_72 : Fld Z T71.heap o57 "com/example/buildwright/buildwright/engine/BuildResult" "cached" "I" (.int p2) := Fld.keep F_cached_o57_70 Kq71 nin0
  have F_failed_o57_72 : Fld Z T71.heap o57 "com/example/buildwright/buildwright/engine/BuildResult" "failed" "I" (.int p3) := Fld.keep F_failed_o57_70 Kq71 nin0
  have F_tests_o57_72 : Fld Z T71.heap o57 "com/example/buildwright/buildwright/engine/BuildResult" "tests" "Lcom/example/buildwright/buildwright/engine/TestResult;" (.ref t_NONE) := Fld.keep F_tests_o57_70 Kq71 nin0
  have E_o61_72 : Exa Z T71.heap o61 "com/example/buildwright/buildwright/engine/TestResult" := Exa.keep E_o61_70 Kq71
  have F_passed_o61_72 : Fld Z T71.heap o61 "com/example/buildwright/buildwright/engine/TestResult" "passed" "I" (.int (p1 - p4)) := Fld.keep F_passed_o61_70 Kq71 nin0
  have F_failed_o61_72 : Fld Z T71.heap o61 "com/example/buildwright/buildwright/engine/TestResult" "failed" "I" (.int (p2 - p5)) := Fld.keep F_failed_o61_70 Kq71 nin0
  have F_cached_o61_72 : Fld Z T71.heap o61 "com/example/buildwright/buildwright/engine/TestResult" "cached" "I" (.int (p3 - p6)) := Fld.keep F_cached_o61_70 Kq71 nin0
  have F_flaky_o61_72 : Fld Z T71.heap o61 "com/example/buildwright/buildwright/engine/TestResult" "flaky" "I" (.int (p1 ^^^ p6)) := Fld.keep F_flaky_o61_70 Kq71 nin0
  have E_o65_72 : Exa Z T71.heap o65 "com/example/buildwright/buildwright/engine/BuildResult" := Exa.keep E_o65_70 Kq71
  have F_ran_o65_72 : Fld Z T71.heap o65 "com/example/buildwright/buildwright/engine/BuildResult" "ran" "I" (.int p4) := Fld.keep F_ran_o65_70 Kq71 nin0
  have F_cached_o65_72 : Fld Z T71.heap o65 "com/example/buildwright/buildwright/engine/BuildResult" "cached" "I" (.int p5) := Fld.keep F_cached_o65_70 Kq71 nin0
  have F_failed_o65_72 : Fld Z T71.heap o65 "com/example/buildwright/buildwright/engine/BuildResult" "failed" "I" (.int p6) := Fld.keep F_failed_o65_70 Kq71 nin0
  have F_tests_o65_72 : Fld Z T71.heap o65 "com/example/buildwright/buildwright/engine/BuildResult" "tests" "Lcom/example/buildwright/buildwright/engine/TestResult;" (.ref o61) := Fld.keep F_tests_o65_70 Kq71 nin0
  have E_b_69_72 : Exa Z T71.heap b_69 "com/example/buildwright/buildwright/engine/BuildResult" := Exa.keep f69_3 Kq71
  have E_tb_69_72 : Exa Z T71.heap tb_69 "com/example/buildwright/buildwright/engine/TestResult" := Exa.keep f69_4 Kq71
  have F_ran_b_69_72 : Fld Z T71.heap b_69 "com/example/buildwright/buildwright/engine/BuildResult" "ran" "I" (.int (p1 + p4)) := Fld.keep f69_5 Kq71 nin0
  have F_cached_b_69_72 : Fld Z T71.heap b_69 "com/example/buildwright/buildwright/engine/BuildResult" "cached" "I" (.int (p2 + p5)) := Fld.keep f69_6 Kq71 nin0
  have F_failed_b_69_72 : Fld Z T71.heap b_69 "com/example/buildwright/buildwright/engine/BuildResult" "failed" "I" (.int (p3 + p6)) := Fld.keep f69_7 Kq71 nin0
  have F_tests_b_69_72 : Fld Z T71.heap b_69 "com/example/buildwright/buildwright/engine/BuildResult" "tests" "Lcom/example/buildwright/buildwright/engine/TestResult;" (.ref tb_69) := Fld.keep f69_8 Kq71 nin0
  have F_passed_tb_69_72 : Fld Z T71.heap tb_69 "com/example/buildwright/buildwright/engine/TestResult" "passed" "I" (.int ((0 : Int32) + (p1 - p4))) := Fld.keep f69_9 Kq71 nin0
  have F_failed_tb_69_72 : Fld Z T71.heap tb_69 "com/example/buildwright/buildwright/engine/TestResult" "failed" "I" (.int ((0 : Int32) + (p2 - p5))) := Fld.keep f69_10 Kq71 nin0
  have F_cached_tb_69_72 : Fld Z T71.heap tb_69 "com/example/buildwright/buildwright/engine/TestResult" "cached" "I" (.int ((0 : Int32) + (p3 - p6))) := Fld.keep f69_11 Kq71 nin0
  have F_flaky_tb_69_72 : Fld Z T71.heap tb_69 "com/example/buildwright/buildwright/engine/TestResult" "flaky" "I" (.int ((0 : Int32) + (p1 ^^^ p6))) := Fld.keep f69_12 Kq71 nin0
  have ne_o57_b_71 : o57 ≠ b_71 := Nat.ne_of_lt (Nat.lt_of_lt_of_le E_o57_70.lt f71_0)
  have ne_o61_b_71 : o61 ≠ b_71 := Nat.ne_of_lt (Nat.lt_of_lt_of_le E_o61_70.lt f71_0)
  have ne_o65_b_71 : o65 ≠ b_71 := Nat.ne_of_lt (Nat.lt_of_lt_of_le E_o65_70.lt f71_0)
  have ne_b_69_b_71 : b_69 ≠ b_71 := Nat.ne_of_lt (Nat.lt_of_lt_of_le f69_3.lt f71_0)
  have ne_tb_69_b_71 : tb_69 ≠ b_71 := Nat.ne_of_lt (Nat.lt_of_lt_of_le f69_4.lt f71_0)
  have g_b_71 : n0 ≤ b_71 := Nat.le_trans Zs69 f71_0
  have mh_b_71 : h0.size ≤ b_71 := Nat.le_trans K69.1 f71_0
  have ne_o57_tb_71 : o57 ≠ tb_71 := Nat.ne_of_lt (Nat.lt_of_lt_of_le E_o57_70.lt f71_1)
  have ne_o61_tb_71 : o61 ≠ tb_71 := Nat.ne_of_lt (Nat.lt_of_lt_of_le E_o61_70.lt f71_1)
  have ne_o65_tb_71 : o65 ≠ tb_71 := Nat.ne_of_lt (Nat.lt_of_lt_of_le E_o65_70.lt f71_1)
  have ne_b_69_tb_71 : b_69 ≠ tb_71 := Nat.ne_of_lt (Nat.lt_of_lt_of_le f69_3.lt f71_1)
  have ne_tb_69_tb_71 : tb_69 ≠ tb_71 := Nat.ne_of_lt (Nat.lt_of_lt_of_le f69_4.lt f71_1)
  have g_tb_71 : n0 ≤ tb_71 := Nat.le_trans Zs69 f71_1
  have mh_tb_71 : h0.size ≤ tb_71 := Nat.le_trans K69.1 f71_1
  have K71 : Keep h0 T71.heap [] := Keep.trans K69 Kq71 all0
  have Zs71 : n0 ≤ T71.heap.size := Nat.le_trans Zs69 Kq71.1
  show Go p e below _ (T71.setTop (mkF m 84 #[.val (.int p1), .val (.int p2), .val (.int p3), .val (.int p4), .val (.int p5), .val (.int p6), .val (.int (p1 - p4)), .val (.int (p2 - p5)), .val (.int (p3 - p6)), .val (.int (p1 ^^^ p6)), .val (.ref o57), .val (.ref o61), .val (.ref o65), .val (.ref b_69), .unset, .unset, .unset] [(.ref b_71)]))
  refine g_astore X71 hx (hb hby at_84) 86 rfl rfl #[.val (.int p1), .val (.int p2), .val (.int p3), .val (.int p4), .val (.int p5), .val (.int p6), .val (.int (p1 - p4)), .val (.int (p2 - p5)), .val (.int (p3 - p6)), .val (.int (p1 ^^^ p6)), .val (.ref o57), .val (.ref o61), .val (.ref o65), .val (.ref b_69), .val (.ref b_71), .unset, .unset] rfl ?_
  refine g_aload X71 hx (hb hby at_86) 88 rfl (v := (.ref b_69)) rfl rfl ?_
  obtain ⟨cq73, kq73, q73a, q73b, q73c⟩ := isOf hZ rfl E_b_69_72
  obtain ⟨_, _, ⟨T73, L73, k73, n73⟩, -, X73, ⟨Lc73, hQ73, l73, y73, z73⟩, st73⟩ := X71.virtualBack hx (y := (⟨"com/example/buildwright/buildwright/engine/BuildResult", "tests", "()Lcom/example/buildwright/buildwright/engine/TestResult;"⟩ : MethodName)) (z := (⟨"com/example/buildwright/buildwright/engine/BuildResult", "tests", "()Lcom/example/buildwright/buildwright/engine/TestResult;"⟩ : MethodName)) hown (mvT hZ (hw _ (List.mem_of_getElem? (i := 56) rfl))) (mvT hZ (hw _ (List.mem_of_getElem? (i := 57) rfl))) (notFace_of_selects (args := #[]) (mvT hZ (hw _ (List.mem_of_getElem? (i := 59) rfl)))) (mvT hZ (hw _ (List.mem_of_getElem? (i := 59) rfl))) (mvT hZ (hw _ (List.mem_of_getElem? (i := 58) rfl))) (by decide) (backOf (W := 0) (rm8 l Z a0 hw [] b_69 tb_69 T71.heap n0 Zs71 F_tests_b_69_72) hZ (hw _ (List.mem_of_getElem? (i := 60) rfl)) (hw _ (List.mem_of_getElem? (i := 2) rfl)) (by decide) (by decide)) q73a q73c (g := (mkF m 88 #[.val (.int p1), .val (.int p2), .val (.int p3), .val (.int p4), .val (.int p5), .val (.int p6), .val (.int (p1 - p4)), .val (.int (p2 - p5)), .val (.int (p3 - p6)), .val (.int (p1 ^^^ p6)), .val (.ref o57), .val (.ref o61), .val (.ref o65), .val (.ref b_69), .val (.ref b_71), .unset, .unset] [(.ref b_69)])) rfl (by rw [hml]; rfl) (Steps.refl _) (argsL := []) (rest := []) (lenOf own_pd6 rfl) rfl (by show 2 * 0 + _ ≤ _; exact Nat.le_of_eq rfl) (hb hby at_88) (fun _ _ => ⟨rfl, rfl, (by decide : 7 + 0 ≤ _), (by decide : 28 + 0 ≤ _)⟩)
  dsimp only [Pt.U, Pt.locs, Pt.cells, Pt.slots] at X73 l73 y73 z73 st73 hQ73
  subst l73 y73 z73
  obtain ⟨rfl, Nq73, e73⟩ := hQ73
  refine Go.tr st73 ?_
  have N73 := Fr.app N71 Nq73
  show Go p e below _ (T73.setTop (mkF m 91 #[.val (.int p1), .val (.int p2), .val (.int p3), .val (.int p4), .val (.int p5), .val (.int p6), .val (.int (p1 - p4)), .val (.int (p2 - p5)), .val (.int (p3 - p6)), .val (.int (p1 ^^^ p6)), .val (.ref o57), .val (.ref o61), .val (.ref o65), .val (.ref b_69), .val (.ref b_71), .unset, .unset] [(.ref tb_69)]))
  refine g_astore X73 hx (hb hby at_91) 93 rfl rfl #[.val (.int p1), .val (.int p2), .val (.int p3), .val (.int p4), .val (.int p5), .val (.int p6), .val (.int (p1 - p4)), .val (.int (p2 - p5)), .val (.int (p3 - p6)), .val (.int (p1 ^^^ p6)), .val (.ref o57), .val (.ref o61), .val (.ref o65), .val (.ref b_69), .val (.ref b_71), .val (.ref tb_69), .unset] rfl ?_
  refine g_aload X73 hx (hb hby at_93) 95 rfl (v := (.ref b_71)) rfl rfl ?_
  obtain ⟨cq74, kq74, q74a, q74b, q74c⟩ := isOf hZ e73 f71_3
  obtain ⟨_, _, ⟨T74, L74, k74, n74⟩, -, X74, ⟨Lc74, hQ74, l74, y74, z74⟩, st74⟩ := X73.virtualBack hx (y := (⟨"com/example/buildwright/buildwright/engine/BuildResult", "tests", "()Lcom/example/buildwright/buildwright/engine/TestResult;"⟩ : MethodName)) (z := (⟨"com/example/buildwright/buildwright/engine/BuildResult", "tests", "()Lcom/example/buildwright/buildwright/engine/TestResult;"⟩ : MethodName)) hown (mvT hZ (hw _ (List.mem_of_getElem? (i := 56) rfl))) (mvT hZ (hw _ (List.mem_of_getElem? (i := 57) rfl))) (notFace_of_selects (args := #[]) (mvT hZ (hw _ (List.mem_of_getElem? (i := 59) rfl)))) (mvT hZ (hw _ (List.mem_of_getElem? (i := 59) rfl))) (mvT hZ (hw _ (List.mem_of_getElem? (i := 58) rfl))) (by decide) (backOf (W := 0) (rm8 l Z a0 hw [] b_71 tb_71 T71.heap n0 Zs71 f71_8) hZ (hw _ (List.mem_of_getElem? (i := 60) rfl)) (hw _ (List.mem_of_getElem? (i := 2) rfl)) (by decide) (by decide)) q74a q74c (g := (mkF m 95 #[.val (.int p1), .val (.int p2), .val (.int p3), .val (.int p4), .val (.int p5), .val (.int p6), .val (.int (p1 - p4)), .val (.int (p2 - p5)), .val (.int (p3 - p6)), .val (.int (p1 ^^^ p6)), .val (.ref o57), .val (.ref o61), .val (.ref o65), .val (.ref b_69), .val (.ref b_71), .val (.ref tb_69), .unset] [(.ref b_71)])) rfl (by rw [hml]; rfl) (Steps.refl _) (argsL := []) (rest := []) (lenOf own_pd6 rfl) rfl (by show 2 * 0 + _ ≤ _; exact Nat.le_of_eq rfl) (hb hby at_95) (fun _ _ => ⟨rfl, e73, (by decide : 7 + 0 ≤ _), (by decide : 28 + 0 ≤ _)⟩)
  dsimp only [Pt.U, Pt.locs, Pt.cells, Pt.slots] at X74 l74 y74 z74 st74 hQ74
  subst l74 y74 z74
  obtain ⟨rfl, Nq74, e74⟩ := hQ74
  refine Go.tr st74 ?_
  have N74 := Fr.app N73 Nq74
  show Go p e below _ (T74.setTop (mkF m 98 #[.val (.int p1), .val (.int p2), .val (.int p3), .val (.int p4), .val (.int p5), .val (.int p6), .val (.int (p1 - p4)), .val (.int (p2 - p5)), .val (.int (p3 - p6)), .val (.int (p1 ^^^ p6)), .val (.ref o57), .val (.ref o61), .val (.ref o65), .val (.ref b_69), .val (.ref b_71), .val (.ref tb_69), .unset] [(.ref tb_71)]))
  refine g_astore X74 hx (hb hby at_98) 100 rfl rfl #[.val (.int p1), .val (.int p2), .val (.int p3), .val (.int p4), .val (.int p5), .val (.int p6), .val (.int (p1 - p4)), .val (.int (p2 - p5)), .val (.int (p3 - p6)), .val (.int (p1 ^^^ p6)), .val (.ref o57), .val (.ref o61), .val (.ref o65), .val (.ref b_69), .val (.ref b_71), .val (.ref tb_69), .val (.ref tb_71)] rfl ?_
  refine g_aload X74 hx (hb hby at_100) 102 rfl (v := (.ref b_69)) rfl rfl ?_
  obtain ⟨cq75, kq75, q75a, q75b, q75c⟩ := isOf hZ e74 E_b_69_72
  obtain ⟨_, _, ⟨T75, L75, k75, n75⟩, -, X75, ⟨Lc75, hQ75, l75, y75, z75⟩, st75⟩ := X74.virtualBack hx (y := (⟨"com/example/buildwright/buildwright/engine/BuildResult", "ran", "()I"⟩ : MethodName)) (z := (⟨"com/example/buildwright/buildwright/engine/BuildResult", "ran", "()I"⟩ : MethodName)) hown (mvT hZ (hw _ (List.mem_of_getElem? (i := 61) rfl))) (mvT hZ (hw _ (List.mem_of_getElem? (i := 62) rfl))) (notFace_of_selects (args := #[]) (mvT hZ (hw _ (List.mem_of_getElem? (i := 64) rfl)))) (mvT hZ (hw _ (List.mem_of_getElem? (i := 64) rfl))) (mvT hZ (hw _ (List.mem_of_getElem? (i := 63) rfl))) (by decide) (backOf (W := 0) (rm9 l Z a0 hw [] b_69 (p1 + p4) T71.heap n0 Zs71 F_ran_b_69_72) hZ (hw _ (List.mem_of_getElem? (i := 65) rfl)) (hw _ (List.mem_of_getElem? (i := 2) rfl)) (by decide) (by decide)) q75a q75c (g := (mkF m 102 #[.val (.int p1), .val (.int p2), .val (.int p3), .val (.int p4), .val (.int p5), .val (.int p6), .val (.int (p1 - p4)), .val (.int (p2 - p5)), .val (.int (p3 - p6)), .val (.int (p1 ^^^ p6)), .val (.ref o57), .val (.ref o61), .val (.ref o65), .val (.ref b_69), .val (.ref b_71), .val (.ref tb_69), .val (.ref tb_71)] [(.ref b_69)])) rfl (by rw [hml]; rfl) (Steps.refl _) (argsL := []) (rest := []) (lenOf own_pd7 rfl) rfl (by show 2 * 0 + _ ≤ _; exact Nat.le_of_eq rfl) (hb hby at_102) (fun _ _ => ⟨rfl, e74, (by decide : 7 + 0 ≤ _), (by decide : 28 + 0 ≤ _)⟩)
  dsimp only [Pt.U, Pt.locs, Pt.cells, Pt.slots] at X75 l75 y75 z75 st75 hQ75
  subst l75 y75 z75
  obtain ⟨rfl, Nq75, e75⟩ := hQ75
  refine Go.tr st75 ?_
  have N75 := Fr.app N74 Nq75
  show Go p e below _ (T75.setTop (mkF m 105 #[.val (.int p1), .val (.int p2), .val (.int p3), .val (.int p4), .val (.int p5), .val (.int p6), .val (.int (p1 - p4)), .val (.int (p2 - p5)), .val (.int (p3 - p6)), .val (.int (p1 ^^^ p6)), .val (.ref o57), .val (.ref o61), .val (.ref o65), .val (.ref b_69), .val (.ref b_71), .val (.ref tb_69), .val (.ref tb_71)] [(.int (p1 + p4))]))
  refine g_iloadN X75 hx (hb hby at_105) 106 rfl (v := p1) rfl ?_
  refine g_iloadN X75 hx (hb hby at_106) 107 rfl (v := p4) rfl ?_
  refine g_iadd X75 hx (hb hby at_107) 108 rfl (p1 + p4) rfl ?_
  refine g_icmp_ne X75 hx (hb hby at_108) 219 111 (by decide) (by decide) rfl (fun hc108 => False.elim (hc108 rfl)) (fun hc108 => ?_)
  refine g_aload X75 hx (hb hby at_111) 113 rfl (v := (.ref b_69)) rfl rfl ?_
  obtain ⟨cq76, kq76, q76a, q76b, q76c⟩ := isOf hZ e75 E_b_69_72
  obtain ⟨_, _, ⟨T76, L76, k76, n76⟩, -, X76, ⟨Lc76, hQ76, l76, y76, z76⟩, st76⟩ := X75.virtualBack hx (y := (⟨"com/example/buildwright/buildwright/engine/BuildResult", "cached", "()I"⟩ : MethodName)) (z := (⟨"com/example/buildwright/buildwright/engine/BuildResult", "cached", "()I"⟩ : MethodName)) hown (mvT hZ (hw _ (List.mem_of_getElem? (i := 66) rfl))) (mvT hZ (hw _ (List.mem_of_getElem? (i := 67) rfl))) (notFace_of_selects (args := #[]) (mvT hZ (hw _ (List.mem_of_getElem? (i := 69) rfl)))) (mvT hZ (hw _ (List.mem_of_getElem? (i := 69) rfl))) (mvT hZ (hw _ (List.mem_of_getElem? (i := 68) rfl))) (by decide) (backOf (W := 0) (rm10 l Z a0 hw [] b_69 (p2 + p5) T71.heap n0 Zs71 F_cached_b_69_72) hZ (hw _ (List.mem_of_getElem? (i := 70) rfl)) (hw _ (List.mem_of_getElem? (i := 2) rfl)) (by decide) (by decide)) q76a q76c (g := (mkF m 113 #[.val (.int p1), .val (.int p2), .val (.int p3), .val (.int p4), .val (.int p5), .val (.int p6), .val (.int (p1 - p4)), .val (.int (p2 - p5)), .val (.int (p3 - p6)), .val (.int (p1 ^^^ p6)), .val (.ref o57), .val (.ref o61), .val (.ref o65), .val (.ref b_69), .val (.ref b_71), .val (.ref tb_69), .val (.ref tb_71)] [(.ref b_69)])) rfl (by rw [hml]; rfl) (Steps.refl _) (argsL := []) (rest := []) (lenOf own_pd7 rfl) rfl (by show 2 * 0 + _ ≤ _; exact Nat.le_of_eq rfl) (hb hby at_113) (fun _ _ => ⟨rfl, e75, (by decide : 7 + 0 ≤ _), (by decide : 28 + 0 ≤ _)⟩)
  dsimp only [Pt.U, Pt.locs, Pt.cells, Pt.slots] at X76 l76 y76 z76 st76 hQ76
  subst l76 y76 z76
  obtain ⟨rfl, Nq76, e76⟩ := hQ76
  refine Go.tr st76 ?_
  have N76 := Fr.app N75 Nq76
  show Go p e below _ (T76.setTop (mkF m 116 #[.val (.int p1), .val (.int p2), .val (.int p3), .val (.int p4), .val (.int p5), .val (.int p6), .val (.int (p1 - p4)), .val (.int (p2 - p5)), .val (.int (p3 - p6)), .val (.int (p1 ^^^ p6)), .val (.ref o57), .val (.ref o61), .val (.ref o65), .val (.ref b_69), .val (.ref b_71), .val (.ref tb_69), .val (.ref tb_71)] [(.int (p2 + p5))]))
  refine g_iloadN X76 hx (hb hby at_116) 117 rfl (v := p2) rfl ?_
  refine g_iload X76 hx (hb hby at_117) 119 rfl (v := p5) rfl ?_
  refine g_iadd X76 hx (hb hby at_119) 120 rfl (p2 + p5) rfl ?_
  refine g_icmp_ne X76 hx (hb hby at_120) 219 123 (by decide) (by decide) rfl (fun hc120 => False.elim (hc120 rfl)) (fun hc120 => ?_)
  refine g_aload X76 hx (hb hby at_123) 125 rfl (v := (.ref b_69)) rfl rfl ?_
  obtain ⟨cq77, kq77, q77a, q77b, q77c⟩ := isOf hZ e76 E_b_69_72
  obtain ⟨_, _, ⟨T77, L77, k77, n77⟩, -, X77, ⟨Lc77, hQ77, l77, y77, z77⟩, st77⟩ := X76.virtualBack hx (y := (⟨"com/example/buildwright/buildwright/engine/BuildResult", "failed", "()I"⟩ : MethodName)) (z := (⟨"com/example/buildwright/buildwright/engine/BuildResult", "failed", "()I"⟩ : MethodName)) hown (mvT hZ (hw _ (List.mem_of_getElem? (i := 71) rfl))) (mvT hZ (hw _ (List.mem_of_getElem? (i := 72) rfl))) (notFace_of_selects (args := #[]) (mvT hZ (hw _ (List.mem_of_getElem? (i := 74) rfl)))) (mvT hZ (hw _ (List.mem_of_getElem? (i := 74) rfl))) (mvT hZ (hw _ (List.mem_of_getElem? (i := 73) rfl))) (by decide) (backOf (W := 0) (rm11 l Z a0 hw [] b_69 (p3 + p6) T71.heap n0 Zs71 F_failed_b_69_72) hZ (hw _ (List.mem_of_getElem? (i := 75) rfl)) (hw _ (List.mem_of_getElem? (i := 2) rfl)) (by decide) (by decide)) q77a q77c (g := (mkF m 125 #[.val (.int p1), .val (.int p2), .val (.int p3), .val (.int p4), .val (.int p5), .val (.int p6), .val (.int (p1 - p4)), .val (.int (p2 - p5)), .val (.int (p3 - p6)), .val (.int (p1 ^^^ p6)), .val (.ref o57), .val (.ref o61), .val (.ref o65), .val (.ref b_69), .val (.ref b_71), .val (.ref tb_69), .val (.ref tb_71)] [(.ref b_69)])) rfl (by rw [hml]; rfl) (Steps.refl _) (argsL := []) (rest := []) (lenOf own_pd7 rfl) rfl (by show 2 * 0 + _ ≤ _; exact Nat.le_of_eq rfl) (hb hby at_125) (fun _ _ => ⟨rfl, e76, (by decide : 7 + 0 ≤ _), (by decide : 28 + 0 ≤ _)⟩)
  dsimp only [Pt.U, Pt.locs, Pt.cells, Pt.slots] at X77 l77 y77 z77 st77 hQ77
  subst l77 y77 z77
  obtain ⟨rfl, Nq77, e77⟩ := hQ77
  refine Go.tr st77 ?_
  have N77 := Fr.app N76 Nq77
  show Go p e below _ (T77.setTop (mkF m 128 #[.val (.int p1), .val (.int p2), .val (.int p3), .val (.int p4), .val (.int p5), .val (.int p6), .val (.int (p1 - p4)), .val (.int (p2 - p5)), .val (.int (p3 - p6)), .val (.int (p1 ^^^ p6)), .val (.ref o57), .val (.ref o61), .val (.ref o65), .val (.ref b_69), .val (.ref b_71), .val (.ref tb_69), .val (.ref tb_71)] [(.int (p3 + p6))]))
  refine g_iloadN X77 hx (hb hby at_128) 129 rfl (v := p3) rfl ?_
  refine g_iload X77 hx (hb hby at_129) 131 rfl (v := p6) rfl ?_
  refine g_iadd X77 hx (hb hby at_131) 132 rfl (p3 + p6) rfl ?_
  refine g_icmp_ne X77 hx (hb hby at_132) 219 135 (by decide) (by decide) rfl (fun hc132 => False.elim (hc132 rfl)) (fun hc132 => ?_)
  refine g_aload X77 hx (hb hby at_135) 137 rfl (v := (.ref tb_69)) rfl rfl ?_
  obtain ⟨cq78, kq78, q78a, q78b, q78c⟩ := isOf hZ e77 E_tb_69_72
  obtain ⟨_, _, ⟨T78, L78, k78, n78⟩, -, X78, ⟨Lc78, hQ78, l78, y78, z78⟩, st78⟩ := X77.virtualBack hx (y := (⟨"com/example/buildwright/buildwright/engine/TestResult", "passed", "()I"⟩ : MethodName)) (z := (⟨"com/example/buildwright/buildwright/engine/TestResult", "passed", "()I"⟩ : MethodName)) hown (mvT hZ (hw _ (List.mem_of_getElem? (i := 76) rfl))) (mvT hZ (hw _ (List.mem_of_getElem? (i := 77) rfl))) (notFace_of_selects (args := #[]) (mvT hZ (hw _ (List.mem_of_getElem? (i := 79) rfl)))) (mvT hZ (hw _ (List.mem_of_getElem? (i := 79) rfl))) (mvT hZ (hw _ (List.mem_of_getElem? (i := 78) rfl))) (by decide) (backOf (W := 0) (rm12 l Z a0 hw [] tb_69 ((0 : Int32) + (p1 - p4)) T71.heap n0 Zs71 F_passed_tb_69_72) hZ (hw _ (List.mem_of_getElem? (i := 80) rfl)) (hw _ (List.mem_of_getElem? (i := 7) rfl)) (by decide) (by decide)) q78a q78c (g := (mkF m 137 #[.val (.int p1), .val (.int p2), .val (.int p3), .val (.int p4), .val (.int p5), .val (.int p6), .val (.int (p1 - p4)), .val (.int (p2 - p5)), .val (.int (p3 - p6)), .val (.int (p1 ^^^ p6)), .val (.ref o57), .val (.ref o61), .val (.ref o65), .val (.ref b_69), .val (.ref b_71), .val (.ref tb_69), .val (.ref tb_71)] [(.ref tb_69)])) rfl (by rw [hml]; rfl) (Steps.refl _) (argsL := []) (rest := []) (lenOf own_pd7 rfl) rfl (by show 2 * 0 + _ ≤ _; exact Nat.le_of_eq rfl) (hb hby at_137) (fun _ _ => ⟨rfl, e77, (by decide : 7 + 0 ≤ _), (by decide : 28 + 0 ≤ _)⟩)
  dsimp only [Pt.U, Pt.locs, Pt.cells, Pt.slots] at X78 l78 y78 z78 st78 hQ78
  subst l78 y78 z78
  obtain ⟨rfl, Nq78, e78⟩ := hQ78
  refine Go.tr st78 ?_
  have N78 := Fr.app N77 Nq78
  show Go p e below _ (T78.setTop (mkF m 140 #[.val (.int p1), .val (.int p2), .val (.int p3), .val (.int p4), .val (.int p5), .val (.int p6), .val (.int (p1 - p4)), .val (.int (p2 - p5)), .val (.int (p3 - p6)), .val (.int (p1 ^^^ p6)), .val (.ref o57), .val (.ref o61), .val (.ref o65), .val (.ref b_69), .val (.ref b_71), .val (.ref tb_69), .val (.ref tb_71)] [(.int ((0 : Int32) + (p1 - p4)))]))
  refine g_iload X78 hx (hb hby at_140) 142 rfl (v := (p1 - p4)) rfl ?_
  refine g_icmp_ne X78 hx (hb hby at_142) 219 145 (by decide) (by decide) rfl (fun hc142 => False.elim (hc142 (Int32.zero_add _))) (fun hc142 => ?_)
  refine g_aload X78 hx (hb hby at_145) 147 rfl (v := (.ref tb_69)) rfl rfl ?_
  obtain ⟨cq79, kq79, q79a, q79b, q79c⟩ := isOf hZ e78 E_tb_69_72
  obtain ⟨_, _, ⟨T79, L79, k79, n79⟩, -, X79, ⟨Lc79, hQ79, l79, y79, z79⟩, st79⟩ := X78.virtualBack hx (y := (⟨"com/example/buildwright/buildwright/engine/TestResult", "failed", "()I"⟩ : MethodName)) (z := (⟨"com/example/buildwright/buildwright/engine/TestResult", "failed", "()I"⟩ : MethodName)) hown (mvT hZ (hw _ (List.mem_of_getElem? (i := 81) rfl))) (mvT hZ (hw _ (List.mem_of_getElem? (i := 82) rfl))) (notFace_of_selects (args := #[]) (mvT hZ (hw _ (List.mem_of_getElem? (i := 84) rfl)))) (mvT hZ (hw _ (List.mem_of_getElem? (i := 84) rfl))) (mvT hZ (hw _ (List.mem_of_getElem? (i := 83) rfl))) (by decide) (backOf (W := 0) (rm13 l Z a0 hw [] tb_69 ((0 : Int32) + (p2 - p5)) T71.heap n0 Zs71 F_failed_tb_69_72) hZ (hw _ (List.mem_of_getElem? (i := 85) rfl)) (hw _ (List.mem_of_getElem? (i := 7) rfl)) (by decide) (by decide)) q79a q79c (g := (mkF m 147 #[.val (.int p1), .val (.int p2), .val (.int p3), .val (.int p4), .val (.int p5), .val (.int p6), .val (.int (p1 - p4)), .val (.int (p2 - p5)), .val (.int (p3 - p6)), .val (.int (p1 ^^^ p6)), .val (.ref o57), .val (.ref o61), .val (.ref o65), .val (.ref b_69), .val (.ref b_71), .val (.ref tb_69), .val (.ref tb_71)] [(.ref tb_69)])) rfl (by rw [hml]; rfl) (Steps.refl _) (argsL := []) (rest := []) (lenOf own_pd7 rfl) rfl (by show 2 * 0 + _ ≤ _; exact Nat.le_of_eq rfl) (hb hby at_147) (fun _ _ => ⟨rfl, e78, (by decide : 7 + 0 ≤ _), (by decide : 28 + 0 ≤ _)⟩)
  dsimp only [Pt.U, Pt.locs, Pt.cells, Pt.slots] at X79 l79 y79 z79 st79 hQ79
  subst l79 y79 z79
  obtain ⟨rfl, Nq79, e79⟩ := hQ79
  refine Go.tr st79 ?_
  have N79 := Fr.app N78 Nq79
  show Go p e below _ (T79.setTop (mkF m 150 #[.val (.int p1), .val (.int p2), .val (.int p3), .val (.int p4), .val (.int p5), .val (.int p6), .val (.int (p1 - p4)), .val (.int (p2 - p5)), .val (.int (p3 - p6)), .val (.int (p1 ^^^ p6)), .val (.ref o57), .val (.ref o61), .val (.ref o65), .val (.ref b_69), .val (.ref b_71), .val (.ref tb_69), .val (.ref tb_71)] [(.int ((0 : Int32) + (p2 - p5)))]))
  refine g_iload X79 hx (hb hby at_150) 152 rfl (v := (p2 - p5)) rfl ?_
  refine g_icmp_ne X79 hx (hb hby at_152) 219 155 (by decide) (by decide) rfl (fun hc152 => False.elim (hc152 (Int32.zero_add _))) (fun hc152 => ?_)
  refine g_aload X79 hx (hb hby at_155) 157 rfl (v := (.ref tb_69)) rfl rfl ?_
  obtain ⟨cq80, kq80, q80a, q80b, q80c⟩ := isOf hZ e79 E_tb_69_72
  obtain ⟨_, _, ⟨T80, L80, k80, n80⟩, -, X80, ⟨Lc80, hQ80, l80, y80, z80⟩, st80⟩ := X79.virtualBack hx (y := (⟨"com/example/buildwright/buildwright/engine/TestResult", "cached", "()I"⟩ : MethodName)) (z := (⟨"com/example/buildwright/buildwright/engine/TestResult", "cached", "()I"⟩ : MethodName)) hown (mvT hZ (hw _ (List.mem_of_getElem? (i := 86) rfl))) (mvT hZ (hw _ (List.mem_of_getElem? (i := 87) rfl))) (notFace_of_selects (args := #[]) (mvT hZ (hw _ (List.mem_of_getElem? (i := 89) rfl)))) (mvT hZ (hw _ (List.mem_of_getElem? (i := 89) rfl))) (mvT hZ (hw _ (List.mem_of_getElem? (i := 88) rfl))) (by decide) (backOf (W := 0) (rm14 l Z a0 hw [] tb_69 ((0 : Int32) + (p3 - p6)) T71.heap n0 Zs71 F_cached_tb_69_72) hZ (hw _ (List.mem_of_getElem? (i := 90) rfl)) (hw _ (List.mem_of_getElem? (i := 7) rfl)) (by decide) (by decide)) q80a q80c (g := (mkF m 157 #[.val (.int p1), .val (.int p2), .val (.int p3), .val (.int p4), .val (.int p5), .val (.int p6), .val (.int (p1 - p4)), .val (.int (p2 - p5)), .val (.int (p3 - p6)), .val (.int (p1 ^^^ p6)), .val (.ref o57), .val (.ref o61), .val (.ref o65), .val (.ref b_69), .val (.ref b_71), .val (.ref tb_69), .val (.ref tb_71)] [(.ref tb_69)])) rfl (by rw [hml]; rfl) (Steps.refl _) (argsL := []) (rest := []) (lenOf own_pd7 rfl) rfl (by show 2 * 0 + _ ≤ _; exact Nat.le_of_eq rfl) (hb hby at_157) (fun _ _ => ⟨rfl, e79, (by decide : 7 + 0 ≤ _), (by decide : 28 + 0 ≤ _)⟩)
  dsimp only [Pt.U, Pt.locs, Pt.cells, Pt.slots] at X80 l80 y80 z80 st80 hQ80
  subst l80 y80 z80
  obtain ⟨rfl, Nq80, e80⟩ := hQ80
  refine Go.tr st80 ?_
  have N80 := Fr.app N79 Nq80
  show Go p e below _ (T80.setTop (mkF m 160 #[.val (.int p1), .val (.int p2), .val (.int p3), .val (.int p4), .val (.int p5), .val (.int p6), .val (.int (p1 - p4)), .val (.int (p2 - p5)), .val (.int (p3 - p6)), .val (.int (p1 ^^^ p6)), .val (.ref o57), .val (.ref o61), .val (.ref o65), .val (.ref b_69), .val (.ref b_71), .val (.ref tb_69), .val (.ref tb_71)] [(.int ((0 : Int32) + (p3 - p6)))]))
  refine g_iload X80 hx (hb hby at_160) 162 rfl (v := (p3 - p6)) rfl ?_
  refine g_icmp_ne X80 hx (hb hby at_162) 219 165 (by decide) (by decide) rfl (fun hc162 => False.elim (hc162 (Int32.zero_add _))) (fun hc162 => ?_)
  refine g_aload X80 hx (hb hby at_165) 167 rfl (v := (.ref tb_69)) rfl rfl ?_
  obtain ⟨cq81, kq81, q81a, q81b, q81c⟩ := isOf hZ e80 E_tb_69_72
  obtain ⟨_, _, ⟨T81, L81, k81, n81⟩, -, X81, ⟨Lc81, hQ81, l81, y81, z81⟩, st81⟩ := X80.virtualBack hx (y := (⟨"com/example/buildwright/buildwright/engine/TestResult", "flaky", "()I"⟩ : MethodName)) (z := (⟨"com/example/buildwright/buildwright/engine/TestResult", "flaky", "()I"⟩ : MethodName)) hown (mvT hZ (hw _ (List.mem_of_getElem? (i := 91) rfl))) (mvT hZ (hw _ (List.mem_of_getElem? (i := 92) rfl))) (notFace_of_selects (args := #[]) (mvT hZ (hw _ (List.mem_of_getElem? (i := 94) rfl)))) (mvT hZ (hw _ (List.mem_of_getElem? (i := 94) rfl))) (mvT hZ (hw _ (List.mem_of_getElem? (i := 93) rfl))) (by decide) (backOf (W := 0) (rm15 l Z a0 hw [] tb_69 ((0 : Int32) + (p1 ^^^ p6)) T71.heap n0 Zs71 F_flaky_tb_69_72) hZ (hw _ (List.mem_of_getElem? (i := 95) rfl)) (hw _ (List.mem_of_getElem? (i := 7) rfl)) (by decide) (by decide)) q81a q81c (g := (mkF m 167 #[.val (.int p1), .val (.int p2), .val (.int p3), .val (.int p4), .val (.int p5), .val (.int p6), .val (.int (p1 - p4)), .val (.int (p2 - p5)), .val (.int (p3 - p6)), .val (.int (p1 ^^^ p6)), .val (.ref o57), .val (.ref o61), .val (.ref o65), .val (.ref b_69), .val (.ref b_71), .val (.ref tb_69), .val (.ref tb_71)] [(.ref tb_69)])) rfl (by rw [hml]; rfl) (Steps.refl _) (argsL := []) (rest := []) (lenOf own_pd7 rfl) rfl (by show 2 * 0 + _ ≤ _; exact Nat.le_of_eq rfl) (hb hby at_167) (fun _ _ => ⟨rfl, e80, (by decide : 7 + 0 ≤ _), (by decide : 28 + 0 ≤ _)⟩)
  dsimp only [Pt.U, Pt.locs, Pt.cells, Pt.slots] at X81 l81 y81 z81 st81 hQ81
  subst l81 y81 z81
  obtain ⟨rfl, Nq81, e81⟩ := hQ81
  refine Go.tr st81 ?_
  have N81 := Fr.app N80 Nq81
  show Go p e below _ (T81.setTop (mkF m 170 #[.val (.int p1), .val (.int p2), .val (.int p3), .val (.int p4), .val (.int p5), .val (.int p6), .val (.int (p1 - p4)), .val (.int (p2 - p5)), .val (.int (p3 - p6)), .val (.int (p1 ^^^ p6)), .val (.ref o57), .val (.ref o61), .val (.ref o65), .val (.ref b_69), .val (.ref b_71), .val (.ref tb_69), .val (.ref tb_71)] [(.int ((0 : Int32) + (p1 ^^^ p6)))]))
  refine g_iload X81 hx (hb hby at_170) 172 rfl (v := (p1 ^^^ p6)) rfl ?_
  refine g_icmp_ne X81 hx (hb hby at_172) 219 175 (by decide) (by decide) rfl (fun hc172 => False.elim (hc172 (Int32.zero_add _))) (fun hc172 => ?_)
  refine g_aload X81 hx (hb hby at_175) 177 rfl (v := (.ref tb_71)) rfl rfl ?_
  obtain ⟨cq82, kq82, q82a, q82b, q82c⟩ := isOf hZ e81 f71_4
  obtain ⟨_, _, ⟨T82, L82, k82, n82⟩, -, X82, ⟨Lc82, hQ82, l82, y82, z82⟩, st82⟩ := X81.virtualBack hx (y := (⟨"com/example/buildwright/buildwright/engine/TestResult", "passed", "()I"⟩ : MethodName)) (z := (⟨"com/example/buildwright/buildwright/engine/TestResult", "passed", "()I"⟩ : MethodName)) hown (mvT hZ (hw _ (List.mem_of_getElem? (i := 76) rfl))) (mvT hZ (hw _ (List.mem_of_getElem? (i := 77) rfl))) (notFace_of_selects (args := #[]) (mvT hZ (hw _ (List.mem_of_getElem? (i := 79) rfl)))) (mvT hZ (hw _ (List.mem_of_getElem? (i := 79) rfl))) (mvT hZ (hw _ (List.mem_of_getElem? (i := 78) rfl))) (by decide) (backOf (W := 0) (rm12 l Z a0 hw [] tb_71 ((p1 - p4) + (0 : Int32)) T71.heap n0 Zs71 f71_9) hZ (hw _ (List.mem_of_getElem? (i := 80) rfl)) (hw _ (List.mem_of_getElem? (i := 7) rfl)) (by decide) (by decide)) q82a q82c (g := (mkF m 177 #[.val (.int p1), .val (.int p2), .val (.int p3), .val (.int p4), .val (.int p5), .val (.int p6), .val (.int (p1 - p4)), .val (.int (p2 - p5)), .val (.int (p3 - p6)), .val (.int (p1 ^^^ p6)), .val (.ref o57), .val (.ref o61), .val (.ref o65), .val (.ref b_69), .val (.ref b_71), .val (.ref tb_69), .val (.ref tb_71)] [(.ref tb_71)])) rfl (by rw [hml]; rfl) (Steps.refl _) (argsL := []) (rest := []) (lenOf own_pd7 rfl) rfl (by show 2 * 0 + _ ≤ _; exact Nat.le_of_eq rfl) (hb hby at_177) (fun _ _ => ⟨rfl, e81, (by decide : 7 + 0 ≤ _), (by decide : 28 + 0 ≤ _)⟩)
  dsimp only [Pt.U, Pt.locs, Pt.cells, Pt.slots] at X82 l82 y82 z82 st82 hQ82
  subst l82 y82 z82
  obtain ⟨rfl, Nq82, e82⟩ := hQ82
  refine Go.tr st82 ?_
  have N82 := Fr.app N81 Nq82
  show Go p e below _ (T82.setTop (mkF m 180 #[.val (.int p1), .val (.int p2), .val (.int p3), .val (.int p4), .val (.int p5), .val (.int p6), .val (.int (p1 - p4)), .val (.int (p2 - p5)), .val (.int (p3 - p6)), .val (.int (p1 ^^^ p6)), .val (.ref o57), .val (.ref o61), .val (.ref o65), .val (.ref b_69), .val (.ref b_71), .val (.ref tb_69), .val (.ref tb_71)] [(.int ((p1 - p4) + (0 : Int32)))]))
  refine g_iload X82 hx (hb hby at_180) 182 rfl (v := (p1 - p4)) rfl ?_
  refine g_icmp_ne X82 hx (hb hby at_182) 219 185 (by decide) (by decide) rfl (fun hc182 => False.elim (hc182 (Int32.add_zero _))) (fun hc182 => ?_)
  refine g_aload X82 hx (hb hby at_185) 187 rfl (v := (.ref tb_71)) rfl rfl ?_
  obtain ⟨cq83, kq83, q83a, q83b, q83c⟩ := isOf hZ e82 f71_4
  obtain ⟨_, _, ⟨T83, L83, k83, n83⟩, -, X83, ⟨Lc83, hQ83, l83, y83, z83⟩, st83⟩ := X82.virtualBack hx (y := (⟨"com/example/buildwright/buildwright/engine/TestResult", "failed", "()I"⟩ : MethodName)) (z := (⟨"com/example/buildwright/buildwright/engine/TestResult", "failed", "()I"⟩ : MethodName)) hown (mvT hZ (hw _ (List.mem_of_getElem? (i := 81) rfl))) (mvT hZ (hw _ (List.mem_of_getElem? (i := 82) rfl))) (notFace_of_selects (args := #[]) (mvT hZ (hw _ (List.mem_of_getElem? (i := 84) rfl)))) (mvT hZ (hw _ (List.mem_of_getElem? (i := 84) rfl))) (mvT hZ (hw _ (List.mem_of_getElem? (i := 83) rfl))) (by decide) (backOf (W := 0) (rm13 l Z a0 hw [] tb_71 ((p2 - p5) + (0 : Int32)) T71.heap n0 Zs71 f71_10) hZ (hw _ (List.mem_of_getElem? (i := 85) rfl)) (hw _ (List.mem_of_getElem? (i := 7) rfl)) (by decide) (by decide)) q83a q83c (g := (mkF m 187 #[.val (.int p1), .val (.int p2), .val (.int p3), .val (.int p4), .val (.int p5), .val (.int p6), .val (.int (p1 - p4)), .val (.int (p2 - p5)), .val (.int (p3 - p6)), .val (.int (p1 ^^^ p6)), .val (.ref o57), .val (.ref o61), .val (.ref o65), .val (.ref b_69), .val (.ref b_71), .val (.ref tb_69), .val (.ref tb_71)] [(.ref tb_71)])) rfl (by rw [hml]; rfl) (Steps.refl _) (argsL := []) (rest := []) (lenOf own_pd7 rfl) rfl (by show 2 * 0 + _ ≤ _; exact Nat.le_of_eq rfl) (hb hby at_187) (fun _ _ => ⟨rfl, e82, (by decide : 7 + 0 ≤ _), (by decide : 28 + 0 ≤ _)⟩)
  dsimp only [Pt.U, Pt.locs, Pt.cells, Pt.slots] at X83 l83 y83 z83 st83 hQ83
  subst l83 y83 z83
  obtain ⟨rfl, Nq83, e83⟩ := hQ83
  refine Go.tr st83 ?_
  have N83 := Fr.app N82 Nq83
  show Go p e below _ (T83.setTop (mkF m 190 #[.val (.int p1), .val (.int p2), .val (.int p3), .val (.int p4), .val (.int p5), .val (.int p6), .val (.int (p1 - p4)), .val (.int (p2 - p5)), .val (.int (p3 - p6)), .val (.int (p1 ^^^ p6)), .val (.ref o57), .val (.ref o61), .val (.ref o65), .val (.ref b_69), .val (.ref b_71), .val (.ref tb_69), .val (.ref tb_71)] [(.int ((p2 - p5) + (0 : Int32)))]))
  refine g_iload X83 hx (hb hby at_190) 192 rfl (v := (p2 - p5)) rfl ?_
  refine g_icmp_ne X83 hx (hb hby at_192) 219 195 (by decide) (by decide) rfl (fun hc192 => False.elim (hc192 (Int32.add_zero _))) (fun hc192 => ?_)
  refine g_aload X83 hx (hb hby at_195) 197 rfl (v := (.ref tb_71)) rfl rfl ?_
  obtain ⟨cq84, kq84, q84a, q84b, q84c⟩ := isOf hZ e83 f71_4
  obtain ⟨_, _, ⟨T84, L84, k84, n84⟩, -, X84, ⟨Lc84, hQ84, l84, y84, z84⟩, st84⟩ := X83.virtualBack hx (y := (⟨"com/example/buildwright/buildwright/engine/TestResult", "cached", "()I"⟩ : MethodName)) (z := (⟨"com/example/buildwright/buildwright/engine/TestResult", "cached", "()I"⟩ : MethodName)) hown (mvT hZ (hw _ (List.mem_of_getElem? (i := 86) rfl))) (mvT hZ (hw _ (List.mem_of_getElem? (i := 87) rfl))) (notFace_of_selects (args := #[]) (mvT hZ (hw _ (List.mem_of_getElem? (i := 89) rfl)))) (mvT hZ (hw _ (List.mem_of_getElem? (i := 89) rfl))) (mvT hZ (hw _ (List.mem_of_getElem? (i := 88) rfl))) (by decide) (backOf (W := 0) (rm14 l Z a0 hw [] tb_71 ((p3 - p6) + (0 : Int32)) T71.heap n0 Zs71 f71_11) hZ (hw _ (List.mem_of_getElem? (i := 90) rfl)) (hw _ (List.mem_of_getElem? (i := 7) rfl)) (by decide) (by decide)) q84a q84c (g := (mkF m 197 #[.val (.int p1), .val (.int p2), .val (.int p3), .val (.int p4), .val (.int p5), .val (.int p6), .val (.int (p1 - p4)), .val (.int (p2 - p5)), .val (.int (p3 - p6)), .val (.int (p1 ^^^ p6)), .val (.ref o57), .val (.ref o61), .val (.ref o65), .val (.ref b_69), .val (.ref b_71), .val (.ref tb_69), .val (.ref tb_71)] [(.ref tb_71)])) rfl (by rw [hml]; rfl) (Steps.refl _) (argsL := []) (rest := []) (lenOf own_pd7 rfl) rfl (by show 2 * 0 + _ ≤ _; exact Nat.le_of_eq rfl) (hb hby at_197) (fun _ _ => ⟨rfl, e83, (by decide : 7 + 0 ≤ _), (by decide : 28 + 0 ≤ _)⟩)
  dsimp only [Pt.U, Pt.locs, Pt.cells, Pt.slots] at X84 l84 y84 z84 st84 hQ84
  subst l84 y84 z84
  obtain ⟨rfl, Nq84, e84⟩ := hQ84
  refine Go.tr st84 ?_
  have N84 := Fr.app N83 Nq84
  show Go p e below _ (T84.setTop (mkF m 200 #[.val (.int p1), .val (.int p2), .val (.int p3), .val (.int p4), .val (.int p5), .val (.int p6), .val (.int (p1 - p4)), .val (.int (p2 - p5)), .val (.int (p3 - p6)), .val (.int (p1 ^^^ p6)), .val (.ref o57), .val (.ref o61), .val (.ref o65), .val (.ref b_69), .val (.ref b_71), .val (.ref tb_69), .val (.ref tb_71)] [(.int ((p3 - p6) + (0 : Int32)))]))
  refine g_iload X84 hx (hb hby at_200) 202 rfl (v := (p3 - p6)) rfl ?_
  refine g_icmp_ne X84 hx (hb hby at_202) 219 205 (by decide) (by decide) rfl (fun hc202 => False.elim (hc202 (Int32.add_zero _))) (fun hc202 => ?_)
  refine g_aload X84 hx (hb hby at_205) 207 rfl (v := (.ref tb_71)) rfl rfl ?_
  obtain ⟨cq85, kq85, q85a, q85b, q85c⟩ := isOf hZ e84 f71_4
  obtain ⟨_, _, ⟨T85, L85, k85, n85⟩, -, X85, ⟨Lc85, hQ85, l85, y85, z85⟩, st85⟩ := X84.virtualBack hx (y := (⟨"com/example/buildwright/buildwright/engine/TestResult", "flaky", "()I"⟩ : MethodName)) (z := (⟨"com/example/buildwright/buildwright/engine/TestResult", "flaky", "()I"⟩ : MethodName)) hown (mvT hZ (hw _ (List.mem_of_getElem? (i := 91) rfl))) (mvT hZ (hw _ (List.mem_of_getElem? (i := 92) rfl))) (notFace_of_selects (args := #[]) (mvT hZ (hw _ (List.mem_of_getElem? (i := 94) rfl)))) (mvT hZ (hw _ (List.mem_of_getElem? (i := 94) rfl))) (mvT hZ (hw _ (List.mem_of_getElem? (i := 93) rfl))) (by decide) (backOf (W := 0) (rm15 l Z a0 hw [] tb_71 ((p1 ^^^ p6) + (0 : Int32)) T71.heap n0 Zs71 f71_12) hZ (hw _ (List.mem_of_getElem? (i := 95) rfl)) (hw _ (List.mem_of_getElem? (i := 7) rfl)) (by decide) (by decide)) q85a q85c (g := (mkF m 207 #[.val (.int p1), .val (.int p2), .val (.int p3), .val (.int p4), .val (.int p5), .val (.int p6), .val (.int (p1 - p4)), .val (.int (p2 - p5)), .val (.int (p3 - p6)), .val (.int (p1 ^^^ p6)), .val (.ref o57), .val (.ref o61), .val (.ref o65), .val (.ref b_69), .val (.ref b_71), .val (.ref tb_69), .val (.ref tb_71)] [(.ref tb_71)])) rfl (by rw [hml]; rfl) (Steps.refl _) (argsL := []) (rest := []) (lenOf own_pd7 rfl) rfl (by show 2 * 0 + _ ≤ _; exact Nat.le_of_eq rfl) (hb hby at_207) (fun _ _ => ⟨rfl, e84, (by decide : 7 + 0 ≤ _), (by decide : 28 + 0 ≤ _)⟩)
  dsimp only [Pt.U, Pt.locs, Pt.cells, Pt.slots] at X85 l85 y85 z85 st85 hQ85
  subst l85 y85 z85
  obtain ⟨rfl, Nq85, e85⟩ := hQ85
  refine Go.tr st85 ?_
  have N85 := Fr.app N84 Nq85
  show Go p e below _ (T85.setTop (mkF m 210 #[.val (.int p1), .val (.int p2), .val (.int p3), .val (.int p4), .val (.int p5), .val (.int p6), .val (.int (p1 - p4)), .val (.int (p2 - p5)), .val (.int (p3 - p6)), .val (.int (p1 ^^^ p6)), .val (.ref o57), .val (.ref o61), .val (.ref o65), .val (.ref b_69), .val (.ref b_71), .val (.ref tb_69), .val (.ref tb_71)] [(.int ((p1 ^^^ p6) + (0 : Int32)))]))
  refine g_iload X85 hx (hb hby at_210) 212 rfl (v := (p1 ^^^ p6)) rfl ?_
  refine g_icmp_ne X85 hx (hb hby at_212) 219 215 (by decide) (by decide) rfl (fun hc212 => False.elim (hc212 (Int32.add_zero _))) (fun hc212 => ?_)
  refine g_iconst X85 hx (hb hby at_215) 216 rfl (1 : Int32) rfl ?_
  refine g_goto X85 hx (hb hby at_216) 220 (by decide) (by decide) ?_
  refine Go.retN X85 hx hlk (t := .boolean) Bd.returns (by simp) (hb hby at_220) (by decide) (by decide) ?_
  exact ⟨rfl, N85⟩
set_option maxRecDepth 65536 in
set_option maxHeartbeats 40000000 in
theorem comes_1 {Post : Tables → Env → Array Value → State → Outcome → State → Prop} (hpost : ∀ tb e args s v u, (limb_1_1.after args s (.returned v) u = true ∧ limb_1_2.after args s (.returned v) u = true ∧ True) → FrameEnd s (.returned v) u (Jvm.fieldLocs frame_1_writes args s ++ Jvm.arrayLocs frame_1_arrays args s ++ Jvm.staticLocs frame_1_statics s) 24 128 → Post tb e args s (.returned v) u) :
    ArmFor flags0 classFile x code maxLocals ret World_1 tables_1 room_1 Calls_1 rest_1 Pre_1 Post := by
  intro l hfl _ _ p e ha hc hk s m args below hf hA hF happ hP
  obtain ⟨hcalls, hrest, hpre⟩ := hP
  obtain ⟨-, -, -, hnamed, -, -, -, hat⟩ := (Spec.applies_iff hf).mp happ
  obtain ⟨hg, hn⟩ := and_e (Cond.before_iff.mp (show (Jvm.Cond.and given_1 narrow_1).before args s = true from hpre))
  obtain ⟨c0, r0⟩ := and_e hg
  obtain ⟨c1, r1⟩ := and_e r0
  obtain ⟨c2, r2⟩ := and_e r1
  obtain ⟨c3, r3⟩ := and_e r2
  obtain ⟨c4, r4⟩ := and_e r3
  obtain ⟨c5, r5⟩ := and_e r4
  obtain ⟨w0, w1, w2, w3, w4, w5, rfl⟩ : ∃ w0 w1 w2 w3 w4 w5 : Value, args = #[w0, w1, w2, w3, w4, w5] := by
    have hs : args.size = 6 := by simpa [Cond.value, given_1] using c0
    obtain ⟨L⟩ := args
    match L, hs with
    | [w0, w1, w2, w3, w4, w5], _ => exact ⟨w0, w1, w2, w3, w4, w5, rfl⟩
  have hw := fun d (hd : d ∈ tables_1) => atoms_spec (ws := Jvm.Cond.code x code maxLocals ret :: tables_1) hat d (List.mem_cons_of_mem _ hd)
  have hfit : Fit s := fun {y c} hc i hi => by
    obtain ⟨ha, rfl⟩ := Array.getElem?_eq_some_iff.mp hc
    have q := List.all_eq_true.mp ((Array.all_eq_true_iff_forall_mem.mp hF) _ (Array.getElem_mem ha)) i (List.mem_range.mpr hi)
    simpa [Array.getElem?_eq_getElem hi] using q
  obtain ⟨i0, ei0⟩ := is_v c1
  obtain rfl : w0 = (.int i0) := Option.some.inj ei0
  obtain ⟨i1, ei1⟩ := is_v c2
  obtain rfl : w1 = (.int i1) := Option.some.inj ei1
  obtain ⟨i2, ei2⟩ := is_v c3
  obtain rfl : w2 = (.int i2) := Option.some.inj ei2
  obtain ⟨i3, ei3⟩ := is_v c4
  obtain rfl : w3 = (.int i3) := Option.some.inj ei3
  obtain ⟨i4, ei4⟩ := is_v c5
  obtain rfl : w4 = (.int i4) := Option.some.inj ei4
  obtain ⟨i5, ei5⟩ := is_v r5
  obtain rfl : w5 = (.int i5) := Option.some.inj ei5
  obtain ⟨z0, zr0⟩ := and_e hn
  obtain ⟨z1, zr1⟩ := and_e zr0
  obtain ⟨z2, zr2⟩ := and_e zr1
  obtain ⟨z3, zr3⟩ := and_e zr2
  obtain ⟨t_NONE, v_t_NONE⟩ := exa_v z0
  have S_t_NONE : Sta s s.heap "com/example/buildwright/buildwright/engine/TestResult" "NONE" "Lcom/example/buildwright/buildwright/engine/TestResult;" (.ref t_NONE) := Sta.start v_t_NONE (Or.inr ⟨(hw _ (List.mem_of_getElem? (i := 7) rfl)), (hw _ (List.mem_of_getElem? (i := 8) rfl))⟩)
  have E_t_NONE : Exa s s.heap t_NONE "com/example/buildwright/buildwright/engine/TestResult" := Exa.start v_t_NONE z0
  have F_passed_t_NONE : Fld s s.heap t_NONE "com/example/buildwright/buildwright/engine/TestResult" "passed" "I" (.int (0 : Int32)) := own_fld_int v_t_NONE z1
  have F_failed_t_NONE : Fld s s.heap t_NONE "com/example/buildwright/buildwright/engine/TestResult" "failed" "I" (.int (0 : Int32)) := own_fld_int v_t_NONE z2
  have F_cached_t_NONE : Fld s s.heap t_NONE "com/example/buildwright/buildwright/engine/TestResult" "cached" "I" (.int (0 : Int32)) := own_fld_int v_t_NONE z3
  have F_flaky_t_NONE : Fld s s.heap t_NONE "com/example/buildwright/buildwright/engine/TestResult" "flaky" "I" (.int (0 : Int32)) := own_fld_int v_t_NONE zr3
  obtain ⟨n, o, h1, h2, h3, _, L, rfl, ⟨rfl, N⟩, hq⟩ := rm0 l s _ hw tables_1 i0 i1 i2 i3 i4 i5 t_NONE s.heap s.heap.size (Nat.le_refl _) S_t_NONE E_t_NONE F_passed_t_NONE F_failed_t_NONE F_cached_t_NONE F_flaky_t_NONE rfl p e ha hc hk s m _ below hf ((Spec.applies_iff_loose hf).mp happ).1 ⟨rfl, State.Warmed39.refl s, rfl⟩ trivial
  refine ⟨n, _, h1, h2, h3, hpost _ _ _ _ _ _ ⟨Cond.after_iff.mpr rfl, Cond.after_iff.mpr (eq_i res_at (Term.int_eval (1)) rfl), trivial⟩ ⟨hq.1, hq.2.1, (hq.2.2.sift fun y hy => Or.inr (N y hy)).mono (by decide) (by decide)⟩⟩
theorem main_1_1 : Claimed_1_1 := comes_1 fun _ _ _ _ _ _ h hF => ⟨h.1, hF⟩
theorem main_1_2 : Claimed_1_2 := comes_1 fun _ _ _ _ _ _ h hF => ⟨h.2.1, hF⟩
end Jvm.Pilot.@@N@@
namespace Jvm.Pilot.@@N@@
open Jvm Jvm.ClassFile Sem Op Lib Jvm.Free Jvm.Stand Jvm.Pilot.@@N@@.Jvm.D
/-! MADE BY PROGRAM (witnessworld.py) out of the Statement's table words and the real class files: 11 classes; the members and pool entries that the words name. The judged class is class 1, her method 1. -/
namespace start1
open Jvm.ClassFile
def u (s : String) : CpInfo := .utf8 (stringToUtf16 s)
/-- a pool by its gaps: so many unusable entries, then the entry; so many at the end -/
def gap : Nat → List CpInfo → List CpInfo
  | 0, r => r
  | n + 1, r => .unusable :: gap n r
def poolList (es : List (Nat × CpInfo)) (last : Nat) : List CpInfo := es.foldr (fun e r => gap e.1 (e.2 :: r)) (gap last [])
def pool (es : List (Nat × CpInfo)) (last : Nat) : Array CpInfo := ⟨poolList es last⟩
def fileOf (pool : Array CpInfo) (this : Nat) (attrs : Array Attribute := #[]) (ms : Array MethodInfo := #[]) (fl : Nat := 33) (sup : Nat := 0) (ifs : Array Nat := #[]) (fds : Array FieldInfo := #[]) : ClassFile where
  minorVersion := 0
  majorVersion := 65
  constantPool := pool
  accessFlags := fl
  thisClass := this
  superClass := sup
  interfaces := ifs
  fields := fds
  methods := ms
  attributes := attrs
def plain (name : String) (sup : Option ClassId) : Class where
  name := name
  kind := .ordinary
  loader := none
  accessFlags := 33
  super := sup
  interfaces := #[]
  cf := none
  fields := #[]
  methods := #[]
  instanceTypes := #[]
  staticTypes := #[]
  resolved := #[]
  callSites := []
  init := .initialized
  statics := none
  mirror := none

def pool0 : Array CpInfo := pool [(5, u "<init>"), (0, u "()V"), (1, .class_ 10), (1, u "java/lang/Object")] 113

def k0c0 : Code := { maxStack := 0, maxLocals := 1, code := object_method_1_code, exceptionTable := #[], attributes := #[] }
def k0m0 : Method := { name := "<init>", desc := "()V", sig := { parameters := [], returnType := none }, accessFlags := 1, code := some k0c0 }
/-- java/lang/Object -/
def k0 : Class := { plain "java/lang/Object" none with
  accessFlags := 33
  interfaces := #[]
  cf := some (fileOf pool0 8 #[] #[{ accessFlags := 1, nameIndex := 5, descriptorIndex := 6, attributes := #[] }] 33 0 #[] #[])
  fields := #[]
  methods := #[k0m0]
  instanceTypes := #[]
  staticTypes := #[]
  resolved := Array.replicate 124 none
  statics := none }

def pool1 : Array CpInfo := pool [(2, .class_ 4), (1, u "java/lang/Object"), (0, u "<init>"), (0, u "()V"), (0, .class_ 8), (0, u "com/example/buildwright/buildwright/engine/BuildResult"), (0, .methodref 7 10), (0, .nameAndType 5 11), (0, u "(III)V"), (0, .class_ 13), (0, u "com/example/buildwright/buildwright/engine/TestResult"), (0, .methodref 12 15), (0, .nameAndType 5 16), (0, u "(IIII)V"), (0, .methodref 7 18), (0, .nameAndType 5 19), (0, u "(IIILcom/example/buildwright/buildwright/engine/TestResult;)V"), (0, .methodref 7 21), (0, .nameAndType 22 23), (0, u "plus"), (0, u "(Lcom/example/buildwright/buildwright/engine/BuildResult;)Lcom/example/buildwright/buildwright/engine/BuildResult;"), (0, .methodref 7 25), (0, .nameAndType 26 27), (0, u "tests"), (0, u "()Lcom/example/buildwright/buildwright/engine/TestResult;"), (0, .methodref 7 29), (0, .nameAndType 30 31), (0, u "ran"), (0, u "()I"), (0, .methodref 7 33), (0, .nameAndType 34 31), (0, u "cached"), (0, .methodref 7 36), (0, .nameAndType 37 31), (0, u "failed"), (0, .methodref 12 39), (0, .nameAndType 40 31), (0, u "passed"), (0, .methodref 12 36), (0, .methodref 12 33), (0, .methodref 12 44), (0, .nameAndType 45 31), (0, u "flaky"), (0, .class_ 47), (0, u "com/example/buildwright/buildwright/engine/BuildResultPlusPinLaw"), (2, u "law"), (0, u "(IIIIII)Z")] 3

def k1m0 : Method := { name := "<init>", desc := "()V", sig := { parameters := [], returnType := none }, accessFlags := 1, code := none }
def k1c1 : Code := { maxStack := 6, maxLocals := 17, code := code, exceptionTable := #[], attributes := #[] }
def k1m1 : Method := { name := "law", desc := "(IIIIII)Z", sig := { parameters := [.int, .int, .int, .int, .int, .int], returnType := some .boolean }, accessFlags := 9, code := some k1c1 }
/-- com/example/buildwright/buildwright/engine/BuildResultPlusPinLaw -/
def k1 : Class := { plain "com/example/buildwright/buildwright/engine/BuildResultPlusPinLaw" (some 0) with
  accessFlags := 49
  interfaces := #[]
  cf := some (fileOf pool1 46 #[] #[{ accessFlags := 1, nameIndex := 5, descriptorIndex := 6, attributes := #[] }, { accessFlags := 9, nameIndex := 50, descriptorIndex := 51, attributes := #[] }] 49 2 #[] #[])
  fields := #[]
  methods := #[k1m0, k1m1]
  instanceTypes := #[]
  staticTypes := #[]
  resolved := Array.replicate 55 none
  statics := none }

def pool2 : Array CpInfo := pool [(1, .methodref 2 3), (0, .class_ 4), (0, .nameAndType 5 6), (0, u "java/lang/Object"), (0, u "<init>"), (0, u "()V"), (0, .class_ 8), (0, u "java/lang/Record")] 13

def k2c0 : Code := { maxStack := 1, maxLocals := 1, code := jdk_30_method_1_code, exceptionTable := #[], attributes := #[] }
def k2m0 : Method := { name := "<init>", desc := "()V", sig := { parameters := [], returnType := none }, accessFlags := 4, code := some k2c0 }
/-- java/lang/Record -/
def k2 : Class := { plain "java/lang/Record" (some 0) with
  accessFlags := 1057
  interfaces := #[]
  cf := some (fileOf pool2 7 #[] #[{ accessFlags := 4, nameIndex := 5, descriptorIndex := 6, attributes := #[] }] 1057 2 #[] #[])
  fields := #[]
  methods := #[k2m0]
  instanceTypes := #[]
  staticTypes := #[]
  resolved := Array.replicate 22 none
  statics := none }

def pool3 : Array CpInfo := pool [(1, .methodref 2 3), (0, .class_ 4), (0, .nameAndType 5 6), (0, u "java/lang/Record"), (0, u "<init>"), (0, u "()V"), (0, .fieldref 8 9), (0, .class_ 10), (0, .nameAndType 11 12), (0, u "com/example/buildwright/buildwright/engine/BuildResult"), (0, u "ran"), (0, u "I"), (0, .fieldref 8 14), (0, .nameAndType 15 12), (0, u "cached"), (0, .fieldref 8 17), (0, .nameAndType 18 12), (0, u "failed"), (0, .fieldref 8 20), (0, .nameAndType 21 22), (0, u "tests"), (0, u "Lcom/example/buildwright/buildwright/engine/TestResult;"), (0, .fieldref 24 25), (0, .class_ 26), (0, .nameAndType 27 22), (0, u "com/example/buildwright/buildwright/engine/TestResult"), (0, u "NONE"), (0, .methodref 8 29), (0, .nameAndType 5 30), (0, u "(IIILcom/example/buildwright/buildwright/engine/TestResult;)V"), (0, .methodref 24 32), (0, .nameAndType 33 34), (0, u "plus"), (0, u "(Lcom/example/buildwright/buildwright/engine/TestResult;)Lcom/example/buildwright/buildwright/engine/TestResult;"), (18, u "(III)V"), (2, u "Lcom/example/buildwright/buildwright/engine/BuildResult;"), (3, u "(Lcom/example/buildwright/buildwright/engine/BuildResult;)Lcom/example/buildwright/buildwright/engine/BuildResult;"), (2, u "()I"), (1, u "()Lcom/example/buildwright/buildwright/engine/TestResult;")] 32

def k3c0 : Code := { maxStack := 5, maxLocals := 4, code := prog_4_method_1_code, exceptionTable := #[], attributes := #[] }
def k3m0 : Method := { name := "<init>", desc := "(III)V", sig := { parameters := [.int, .int, .int], returnType := none }, accessFlags := 1, code := some k3c0 }
def k3c1 : Code := { maxStack := 2, maxLocals := 5, code := prog_4_method_2_code, exceptionTable := #[], attributes := #[] }
def k3m1 : Method := { name := "<init>", desc := "(IIILcom/example/buildwright/buildwright/engine/TestResult;)V", sig := { parameters := [.int, .int, .int, (.object "com/example/buildwright/buildwright/engine/TestResult")], returnType := none }, accessFlags := 1, code := some k3c1 }
def k3c2 : Code := { maxStack := 7, maxLocals := 2, code := prog_4_method_3_code, exceptionTable := #[], attributes := #[] }
def k3m2 : Method := { name := "plus", desc := "(Lcom/example/buildwright/buildwright/engine/BuildResult;)Lcom/example/buildwright/buildwright/engine/BuildResult;", sig := { parameters := [(.object "com/example/buildwright/buildwright/engine/BuildResult")], returnType := some (.object "com/example/buildwright/buildwright/engine/BuildResult") }, accessFlags := 1, code := some k3c2 }
def k3c3 : Code := { maxStack := 1, maxLocals := 1, code := prog_4_method_8_code, exceptionTable := #[], attributes := #[] }
def k3m3 : Method := { name := "ran", desc := "()I", sig := { parameters := [], returnType := some .int }, accessFlags := 1, code := some k3c3 }
def k3c4 : Code := { maxStack := 1, maxLocals := 1, code := prog_4_method_9_code, exceptionTable := #[], attributes := #[] }
def k3m4 : Method := { name := "cached", desc := "()I", sig := { parameters := [], returnType := some .int }, accessFlags := 1, code := some k3c4 }
def k3c5 : Code := { maxStack := 1, maxLocals := 1, code := prog_4_method_10_code, exceptionTable := #[], attributes := #[] }
def k3m5 : Method := { name := "failed", desc := "()I", sig := { parameters := [], returnType := some .int }, accessFlags := 1, code := some k3c5 }
def k3c6 : Code := { maxStack := 1, maxLocals := 1, code := prog_4_method_11_code, exceptionTable := #[], attributes := #[] }
def k3m6 : Method := { name := "tests", desc := "()Lcom/example/buildwright/buildwright/engine/TestResult;", sig := { parameters := [], returnType := some (.object "com/example/buildwright/buildwright/engine/TestResult") }, accessFlags := 1, code := some k3c6 }
/-- com/example/buildwright/buildwright/engine/BuildResult -/
def k3 : Class := { plain "com/example/buildwright/buildwright/engine/BuildResult" (some 2) with
  accessFlags := 49
  interfaces := #[]
  cf := some (fileOf pool3 8 #[] #[{ accessFlags := 1, nameIndex := 5, descriptorIndex := 53, attributes := #[] }, { accessFlags := 1, nameIndex := 5, descriptorIndex := 30, attributes := #[] }, { accessFlags := 1, nameIndex := 33, descriptorIndex := 60, attributes := #[] }, { accessFlags := 1, nameIndex := 11, descriptorIndex := 63, attributes := #[] }, { accessFlags := 1, nameIndex := 15, descriptorIndex := 63, attributes := #[] }, { accessFlags := 1, nameIndex := 18, descriptorIndex := 63, attributes := #[] }, { accessFlags := 1, nameIndex := 21, descriptorIndex := 65, attributes := #[] }] 49 2 #[] #[{ accessFlags := 18, nameIndex := 11, descriptorIndex := 12, attributes := #[] }, { accessFlags := 18, nameIndex := 15, descriptorIndex := 12, attributes := #[] }, { accessFlags := 18, nameIndex := 18, descriptorIndex := 12, attributes := #[] }, { accessFlags := 18, nameIndex := 21, descriptorIndex := 22, attributes := #[] }, { accessFlags := 25, nameIndex := 27, descriptorIndex := 56, attributes := #[] }])
  fields := #[{ name := "ran", type := .int, accessFlags := 18, slot := 0, constantValue := 0 }, { name := "cached", type := .int, accessFlags := 18, slot := 1, constantValue := 0 }, { name := "failed", type := .int, accessFlags := 18, slot := 2, constantValue := 0 }, { name := "tests", type := (.object "com/example/buildwright/buildwright/engine/TestResult"), accessFlags := 18, slot := 3, constantValue := 0 }, { name := "NONE", type := (.object "com/example/buildwright/buildwright/engine/BuildResult"), accessFlags := 25, slot := 0, constantValue := 0 }]
  methods := #[k3m0, k3m1, k3m2, k3m3, k3m4, k3m5, k3m6]
  instanceTypes := #[.int, .int, .int, (.object "com/example/buildwright/buildwright/engine/TestResult")]
  staticTypes := #[(.object "com/example/buildwright/buildwright/engine/BuildResult")]
  resolved := Array.replicate 98 none
  statics := none }

def pool4 : Array CpInfo := pool [(1, .methodref 2 3), (0, .class_ 4), (0, .nameAndType 5 6), (0, u "java/lang/Record"), (0, u "<init>"), (0, u "()V"), (0, .fieldref 8 9), (0, .class_ 10), (0, .nameAndType 11 12), (0, u "com/example/buildwright/buildwright/engine/TestResult"), (0, u "passed"), (0, u "I"), (0, .fieldref 8 14), (0, .nameAndType 15 12), (0, u "failed"), (0, .fieldref 8 17), (0, .nameAndType 18 12), (0, u "cached"), (0, .fieldref 8 20), (0, .nameAndType 21 12), (0, u "flaky"), (0, .methodref 8 23), (0, .nameAndType 5 24), (0, u "(IIII)V"), (18, u "NONE"), (0, u "Lcom/example/buildwright/buildwright/engine/TestResult;"), (3, u "plus"), (0, u "(Lcom/example/buildwright/buildwright/engine/TestResult;)Lcom/example/buildwright/buildwright/engine/TestResult;"), (2, u "()I")] 33

def k4c0 : Code := { maxStack := 2, maxLocals := 5, code := prog_27_method_1_code, exceptionTable := #[], attributes := #[] }
def k4m0 : Method := { name := "<init>", desc := "(IIII)V", sig := { parameters := [.int, .int, .int, .int], returnType := none }, accessFlags := 1, code := some k4c0 }
def k4c1 : Code := { maxStack := 7, maxLocals := 2, code := prog_27_method_2_code, exceptionTable := #[], attributes := #[] }
def k4m1 : Method := { name := "plus", desc := "(Lcom/example/buildwright/buildwright/engine/TestResult;)Lcom/example/buildwright/buildwright/engine/TestResult;", sig := { parameters := [(.object "com/example/buildwright/buildwright/engine/TestResult")], returnType := some (.object "com/example/buildwright/buildwright/engine/TestResult") }, accessFlags := 1, code := some k4c1 }
def k4c2 : Code := { maxStack := 1, maxLocals := 1, code := prog_27_method_7_code, exceptionTable := #[], attributes := #[] }
def k4m2 : Method := { name := "passed", desc := "()I", sig := { parameters := [], returnType := some .int }, accessFlags := 1, code := some k4c2 }
def k4c3 : Code := { maxStack := 1, maxLocals := 1, code := prog_27_method_8_code, exceptionTable := #[], attributes := #[] }
def k4m3 : Method := { name := "failed", desc := "()I", sig := { parameters := [], returnType := some .int }, accessFlags := 1, code := some k4c3 }
def k4c4 : Code := { maxStack := 1, maxLocals := 1, code := prog_27_method_9_code, exceptionTable := #[], attributes := #[] }
def k4m4 : Method := { name := "cached", desc := "()I", sig := { parameters := [], returnType := some .int }, accessFlags := 1, code := some k4c4 }
def k4c5 : Code := { maxStack := 1, maxLocals := 1, code := prog_27_method_10_code, exceptionTable := #[], attributes := #[] }
def k4m5 : Method := { name := "flaky", desc := "()I", sig := { parameters := [], returnType := some .int }, accessFlags := 1, code := some k4c5 }
/-- com/example/buildwright/buildwright/engine/TestResult -/
def k4 : Class := { plain "com/example/buildwright/buildwright/engine/TestResult" (some 2) with
  accessFlags := 49
  interfaces := #[]
  cf := some (fileOf pool4 8 #[] #[{ accessFlags := 1, nameIndex := 5, descriptorIndex := 24, attributes := #[] }, { accessFlags := 1, nameIndex := 48, descriptorIndex := 49, attributes := #[] }, { accessFlags := 1, nameIndex := 11, descriptorIndex := 52, attributes := #[] }, { accessFlags := 1, nameIndex := 15, descriptorIndex := 52, attributes := #[] }, { accessFlags := 1, nameIndex := 18, descriptorIndex := 52, attributes := #[] }, { accessFlags := 1, nameIndex := 21, descriptorIndex := 52, attributes := #[] }] 49 2 #[] #[{ accessFlags := 18, nameIndex := 11, descriptorIndex := 12, attributes := #[] }, { accessFlags := 18, nameIndex := 15, descriptorIndex := 12, attributes := #[] }, { accessFlags := 18, nameIndex := 18, descriptorIndex := 12, attributes := #[] }, { accessFlags := 18, nameIndex := 21, descriptorIndex := 12, attributes := #[] }, { accessFlags := 25, nameIndex := 43, descriptorIndex := 44, attributes := #[] }])
  fields := #[{ name := "passed", type := .int, accessFlags := 18, slot := 0, constantValue := 0 }, { name := "failed", type := .int, accessFlags := 18, slot := 1, constantValue := 0 }, { name := "cached", type := .int, accessFlags := 18, slot := 2, constantValue := 0 }, { name := "flaky", type := .int, accessFlags := 18, slot := 3, constantValue := 0 }, { name := "NONE", type := (.object "com/example/buildwright/buildwright/engine/TestResult"), accessFlags := 25, slot := 0, constantValue := 0 }]
  methods := #[k4m0, k4m1, k4m2, k4m3, k4m4, k4m5]
  instanceTypes := #[.int, .int, .int, .int]
  staticTypes := #[(.object "com/example/buildwright/buildwright/engine/TestResult")]
  resolved := Array.replicate 86 none
  statics := some 0 }

def pool5 : Array CpInfo := pool [(1, u "java/lang/Cloneable"), (0, .class_ 1), (0, u "java/lang/Object"), (0, .class_ 3)] 3

/-- java/lang/Cloneable -/
def k5 : Class := { plain "java/lang/Cloneable" (some 0) with
  accessFlags := 1537
  interfaces := #[]
  cf := some (fileOf pool5 2 #[] #[] 1537 4 #[] #[])
  fields := #[]
  methods := #[]
  instanceTypes := #[]
  staticTypes := #[]
  resolved := Array.replicate 8 none
  statics := none }

def pool6 : Array CpInfo := pool [(1, u "java/io/Serializable"), (0, .class_ 1), (0, u "java/lang/Object"), (0, .class_ 3)] 3

/-- java/io/Serializable -/
def k6 : Class := { plain "java/io/Serializable" (some 0) with
  accessFlags := 1537
  interfaces := #[]
  cf := some (fileOf pool6 2 #[] #[] 1537 4 #[] #[])
  fields := #[]
  methods := #[]
  instanceTypes := #[]
  staticTypes := #[]
  resolved := Array.replicate 8 none
  statics := none }

/-- the primitive byte -/
def k7 : Class := { plain "byte" none with kind := .primitive 'B', accessFlags := 0x411 }
/-- [B -/
def k8 : Class := { plain "[B" (some 0) with kind := .array 7 .byte, interfaces := #[5, 6], accessFlags := 1041 }

/-- the primitive int -/
def k9 : Class := { plain "int" none with kind := .primitive 'I', accessFlags := 0x411 }
/-- [I -/
def k10 : Class := { plain "[I" (some 0) with kind := .array 9 .int, interfaces := #[5, 6], accessFlags := 1041 }

def heap : Heap := #[{ cls := 4, slots := #[.ref 1], vm := .statics 4 },
  { cls := 4, slots := #[.int 0, .int 0, .int 0, .int 0], vm := .none }]
def classes : Array Class := #[k0, k1, k2, k3, k4, k5, k6, k7, k8, k9, k10]
def interned : List (Array UInt16 × Addr) := []
def slotsUsed : Nat := 5
def theMethod : MethodId := ⟨1, 1⟩
def args0 : Array Value := #[.int 1, .int 2, .int 3, .int 4, .int 5, .int 6]
def aboutOver (below : List Frame) : State where
  vm := { classes := classes, interned := interned.toArray }
  heap := heap
  slotsUsed := slotsUsed
  threads := #[{ frames := .invoking theMethod args0 :: below }]
def below0 : List Frame := [.native { method := ⟨0, 0⟩, args := #[] }]
def about1 : State := aboutOver below0
def p0 : Program := .bare "" "" ""
def e0 : Env := launch0.env 0 0 0
theorem w_frames : about1.frames = Frame.invoking theMethod args0 :: below0 := rfl
set_option maxRecDepth 65536 in
theorem w_args : argsFit about1.vm theMethod args0 = true := by decide +kernel
set_option maxRecDepth 65536 in
theorem w_heap : heapFits about1 = true := by decide +kernel
set_option maxRecDepth 65536 in
theorem w_runnable : about1.curStatus? = some .runnable := by decide +kernel
set_option maxRecDepth 65536 in
theorem w_alone : about1.alone = true := by decide +kernel
set_option maxRecDepth 65536 in
theorem w_named : about1.methodNamed? x = some theMethod := by decide +kernel
set_option maxRecDepth 65536 in
theorem w_hears : about1.hears theMethod below0 = true := by decide +kernel
set_option maxRecDepth 65536 in
theorem w_ripe : about1.ripe theMethod args0 below0 = true := by decide +kernel
theorem w_running : about1.status = .running := rfl
set_option maxRecDepth 65536 in
theorem w_room : about1.hasRoom e0.platform room_1 = true :=
  launch0.hasRoom_least _ room_1 (by decide +kernel) (by decide +kernel) (by decide +kernel) (by decide +kernel) (by decide +kernel) (by decide +kernel)
theorem allAtoms_all (ts : List Jvm.Cond) (a : Array Jvm.Value) (st : Jvm.State) : (allAtoms ts).before a st = ts.all (fun c => c.before a st) := by
  induction ts with
  | nil => rfl
  | cons c t ih =>
    show (Jvm.Cond.and c (allAtoms t)).before a st = _
    rw [Jvm.Cond.before_and, ih, List.all_cons]
def words1 : List Jvm.Cond := Jvm.Cond.code x code maxLocals ret :: tables_1
/-- a 'code' word, met by the world's own term for the bytes: nothing is compared byte by byte -/
theorem code_word {y : MethodName} {bytes : ByteArray} {mx : Nat} {rt : Option FieldType} {a : Array Value} {s : State} {m : MethodId} {meth : Method} {c : Code} (h1 : s.methodNamed? y = some m) (h2 : s.vm.method? m = some meth) (h3 : meth.code = some c) (h4 : c.code = bytes)
    (h5 : (c.maxLocals == mx && c.exceptionTable.isEmpty && decide (c.maxStack ≤ mostOperands) && decide (meth.sig.returnType = rt) && !meth.locks && decide (parseMethodDescriptor y.desc = some meth.sig)) = true) : (Jvm.Cond.code y bytes mx rt).before a s = true := by
  simp only [Bool.and_eq_true, beq_iff_eq, Bool.not_eq_true', decide_eq_true_eq] at h5
  obtain ⟨⟨⟨⟨⟨g1, g2⟩, g3⟩, g4⟩, g5⟩, g6⟩ := h5
  simp [Cond.before, Cond.holds, Cond.value, h1, h2, h3, h4, g1, g2, g3, g4, g5, g6]
def isCode : Jvm.Cond → Bool
  | .code _ _ _ _ => true
  | _ => false
theorem all_split {L : List Jvm.Cond} {P : Jvm.Cond → Bool} (h1 : L.all (fun c => isCode c || P c) = true) (h2 : ∀ c ∈ L.filter isCode, P c = true) : L.all P = true := by
  refine List.all_eq_true.mpr fun c hc => ?_
  have h := List.all_eq_true.mp h1 c hc
  rcases Bool.eq_false_or_eq_true (isCode c) with hi | hi
  · exact h2 c (List.mem_filter.mpr ⟨hc, hi⟩)
  · simpa [hi] using h
set_option maxRecDepth 65536 in
theorem w_c0 : (Jvm.Cond.code x code maxLocals ret).before args0 about1 = true := code_word (m := ⟨1, 1⟩) (meth := k1m1) (c := k1c1) (by decide +kernel) rfl rfl rfl (by decide +kernel)
set_option maxRecDepth 65536 in
theorem w_c1 : (Jvm.Cond.code ({ cls := "com/example/buildwright/buildwright/engine/BuildResult", name := "<init>", desc := "(III)V" } : Jvm.MethodName) prog_4_method_1_code (4 : Nat) (Option.none : Option Jvm.ClassFile.FieldType)).before args0 about1 = true := code_word (m := ⟨3, 0⟩) (meth := k3m0) (c := k3c0) (by decide +kernel) rfl rfl rfl (by decide +kernel)
set_option maxRecDepth 65536 in
theorem w_c2 : (Jvm.Cond.code ({ cls := "com/example/buildwright/buildwright/engine/BuildResult", name := "<init>", desc := "(IIILcom/example/buildwright/buildwright/engine/TestResult;)V" } : Jvm.MethodName) prog_4_method_2_code (5 : Nat) (Option.none : Option Jvm.ClassFile.FieldType)).before args0 about1 = true := code_word (m := ⟨3, 1⟩) (meth := k3m1) (c := k3c1) (by decide +kernel) rfl rfl rfl (by decide +kernel)
set_option maxRecDepth 65536 in
theorem w_c3 : (Jvm.Cond.code ({ cls := "java/lang/Record", name := "<init>", desc := "()V" } : Jvm.MethodName) jdk_30_method_1_code (1 : Nat) (Option.none : Option Jvm.ClassFile.FieldType)).before args0 about1 = true := code_word (m := ⟨2, 0⟩) (meth := k2m0) (c := k2c0) (by decide +kernel) rfl rfl rfl (by decide +kernel)
set_option maxRecDepth 65536 in
theorem w_c4 : (Jvm.Cond.code ({ cls := "java/lang/Object", name := "<init>", desc := "()V" } : Jvm.MethodName) object_method_1_code (1 : Nat) (Option.none : Option Jvm.ClassFile.FieldType)).before args0 about1 = true := code_word (m := ⟨0, 0⟩) (meth := k0m0) (c := k0c0) (by decide +kernel) rfl rfl rfl (by decide +kernel)
set_option maxRecDepth 65536 in
theorem w_c5 : (Jvm.Cond.code ({ cls := "com/example/buildwright/buildwright/engine/TestResult", name := "<init>", desc := "(IIII)V" } : Jvm.MethodName) prog_27_method_1_code (5 : Nat) (Option.none : Option Jvm.ClassFile.FieldType)).before args0 about1 = true := code_word (m := ⟨4, 0⟩) (meth := k4m0) (c := k4c0) (by decide +kernel) rfl rfl rfl (by decide +kernel)
set_option maxRecDepth 65536 in
theorem w_c6 : (Jvm.Cond.code ({ cls := "com/example/buildwright/buildwright/engine/BuildResult", name := "plus", desc := "(Lcom/example/buildwright/buildwright/engine/BuildResult;)Lcom/example/buildwright/buildwright/engine/BuildResult;" } : Jvm.MethodName) prog_4_method_3_code (2 : Nat) (Option.some (Jvm.ClassFile.FieldType.object "com/example/buildwright/buildwright/engine/BuildResult"))).before args0 about1 = true := code_word (m := ⟨3, 2⟩) (meth := k3m2) (c := k3c2) (by decide +kernel) rfl rfl rfl (by decide +kernel)
set_option maxRecDepth 65536 in
theorem w_c7 : (Jvm.Cond.code ({ cls := "com/example/buildwright/buildwright/engine/TestResult", name := "plus", desc := "(Lcom/example/buildwright/buildwright/engine/TestResult;)Lcom/example/buildwright/buildwright/engine/TestResult;" } : Jvm.MethodName) prog_27_method_2_code (2 : Nat) (Option.some (Jvm.ClassFile.FieldType.object "com/example/buildwright/buildwright/engine/TestResult"))).before args0 about1 = true := code_word (m := ⟨4, 1⟩) (meth := k4m1) (c := k4c1) (by decide +kernel) rfl rfl rfl (by decide +kernel)
set_option maxRecDepth 65536 in
theorem w_c8 : (Jvm.Cond.code ({ cls := "com/example/buildwright/buildwright/engine/BuildResult", name := "tests", desc := "()Lcom/example/buildwright/buildwright/engine/TestResult;" } : Jvm.MethodName) prog_4_method_11_code (1 : Nat) (Option.some (Jvm.ClassFile.FieldType.object "com/example/buildwright/buildwright/engine/TestResult"))).before args0 about1 = true := code_word (m := ⟨3, 6⟩) (meth := k3m6) (c := k3c6) (by decide +kernel) rfl rfl rfl (by decide +kernel)
set_option maxRecDepth 65536 in
theorem w_c9 : (Jvm.Cond.code ({ cls := "com/example/buildwright/buildwright/engine/BuildResult", name := "ran", desc := "()I" } : Jvm.MethodName) prog_4_method_8_code (1 : Nat) (Option.some Jvm.ClassFile.FieldType.int)).before args0 about1 = true := code_word (m := ⟨3, 3⟩) (meth := k3m3) (c := k3c3) (by decide +kernel) rfl rfl rfl (by decide +kernel)
set_option maxRecDepth 65536 in
theorem w_c10 : (Jvm.Cond.code ({ cls := "com/example/buildwright/buildwright/engine/BuildResult", name := "cached", desc := "()I" } : Jvm.MethodName) prog_4_method_9_code (1 : Nat) (Option.some Jvm.ClassFile.FieldType.int)).before args0 about1 = true := code_word (m := ⟨3, 4⟩) (meth := k3m4) (c := k3c4) (by decide +kernel) rfl rfl rfl (by decide +kernel)
set_option maxRecDepth 65536 in
theorem w_c11 : (Jvm.Cond.code ({ cls := "com/example/buildwright/buildwright/engine/BuildResult", name := "failed", desc := "()I" } : Jvm.MethodName) prog_4_method_10_code (1 : Nat) (Option.some Jvm.ClassFile.FieldType.int)).before args0 about1 = true := code_word (m := ⟨3, 5⟩) (meth := k3m5) (c := k3c5) (by decide +kernel) rfl rfl rfl (by decide +kernel)
set_option maxRecDepth 65536 in
theorem w_c12 : (Jvm.Cond.code ({ cls := "com/example/buildwright/buildwright/engine/TestResult", name := "passed", desc := "()I" } : Jvm.MethodName) prog_27_method_7_code (1 : Nat) (Option.some Jvm.ClassFile.FieldType.int)).before args0 about1 = true := code_word (m := ⟨4, 2⟩) (meth := k4m2) (c := k4c2) (by decide +kernel) rfl rfl rfl (by decide +kernel)
set_option maxRecDepth 65536 in
theorem w_c13 : (Jvm.Cond.code ({ cls := "com/example/buildwright/buildwright/engine/TestResult", name := "failed", desc := "()I" } : Jvm.MethodName) prog_27_method_8_code (1 : Nat) (Option.some Jvm.ClassFile.FieldType.int)).before args0 about1 = true := code_word (m := ⟨4, 3⟩) (meth := k4m3) (c := k4c3) (by decide +kernel) rfl rfl rfl (by decide +kernel)
set_option maxRecDepth 65536 in
theorem w_c14 : (Jvm.Cond.code ({ cls := "com/example/buildwright/buildwright/engine/TestResult", name := "cached", desc := "()I" } : Jvm.MethodName) prog_27_method_9_code (1 : Nat) (Option.some Jvm.ClassFile.FieldType.int)).before args0 about1 = true := code_word (m := ⟨4, 4⟩) (meth := k4m4) (c := k4c4) (by decide +kernel) rfl rfl rfl (by decide +kernel)
set_option maxRecDepth 65536 in
theorem w_c15 : (Jvm.Cond.code ({ cls := "com/example/buildwright/buildwright/engine/TestResult", name := "flaky", desc := "()I" } : Jvm.MethodName) prog_27_method_10_code (1 : Nat) (Option.some Jvm.ClassFile.FieldType.int)).before args0 about1 = true := code_word (m := ⟨4, 5⟩) (meth := k4m5) (c := k4c5) (by decide +kernel) rfl rfl rfl (by decide +kernel)
def codes1 : List Jvm.Cond := [Jvm.Cond.code x code maxLocals ret, Jvm.Cond.code ({ cls := "com/example/buildwright/buildwright/engine/BuildResult", name := "<init>", desc := "(III)V" } : Jvm.MethodName) prog_4_method_1_code (4 : Nat) (Option.none : Option Jvm.ClassFile.FieldType), Jvm.Cond.code ({ cls := "com/example/buildwright/buildwright/engine/BuildResult", name := "<init>", desc := "(IIILcom/example/buildwright/buildwright/engine/TestResult;)V" } : Jvm.MethodName) prog_4_method_2_code (5 : Nat) (Option.none : Option Jvm.ClassFile.FieldType), Jvm.Cond.code ({ cls := "java/lang/Record", name := "<init>", desc := "()V" } : Jvm.MethodName) jdk_30_method_1_code (1 : Nat) (Option.none : Option Jvm.ClassFile.FieldType), Jvm.Cond.code ({ cls := "java/lang/Object", name := "<init>", desc := "()V" } : Jvm.MethodName) object_method_1_code (1 : Nat) (Option.none : Option Jvm.ClassFile.FieldType), Jvm.Cond.code ({ cls := "com/example/buildwright/buildwright/engine/TestResult", name := "<init>", desc := "(IIII)V" } : Jvm.MethodName) prog_27_method_1_code (5 : Nat) (Option.none : Option Jvm.ClassFile.FieldType), Jvm.Cond.code ({ cls := "com/example/buildwright/buildwright/engine/BuildResult", name := "plus", desc := "(Lcom/example/buildwright/buildwright/engine/BuildResult;)Lcom/example/buildwright/buildwright/engine/BuildResult;" } : Jvm.MethodName) prog_4_method_3_code (2 : Nat) (Option.some (Jvm.ClassFile.FieldType.object "com/example/buildwright/buildwright/engine/BuildResult")), Jvm.Cond.code ({ cls := "com/example/buildwright/buildwright/engine/TestResult", name := "plus", desc := "(Lcom/example/buildwright/buildwright/engine/TestResult;)Lcom/example/buildwright/buildwright/engine/TestResult;" } : Jvm.MethodName) prog_27_method_2_code (2 : Nat) (Option.some (Jvm.ClassFile.FieldType.object "com/example/buildwright/buildwright/engine/TestResult")), Jvm.Cond.code ({ cls := "com/example/buildwright/buildwright/engine/BuildResult", name := "tests", desc := "()Lcom/example/buildwright/buildwright/engine/TestResult;" } : Jvm.MethodName) prog_4_method_11_code (1 : Nat) (Option.some (Jvm.ClassFile.FieldType.object "com/example/buildwright/buildwright/engine/TestResult")), Jvm.Cond.code ({ cls := "com/example/buildwright/buildwright/engine/BuildResult", name := "ran", desc := "()I" } : Jvm.MethodName) prog_4_method_8_code (1 : Nat) (Option.some Jvm.ClassFile.FieldType.int), Jvm.Cond.code ({ cls := "com/example/buildwright/buildwright/engine/BuildResult", name := "cached", desc := "()I" } : Jvm.MethodName) prog_4_method_9_code (1 : Nat) (Option.some Jvm.ClassFile.FieldType.int), Jvm.Cond.code ({ cls := "com/example/buildwright/buildwright/engine/BuildResult", name := "failed", desc := "()I" } : Jvm.MethodName) prog_4_method_10_code (1 : Nat) (Option.some Jvm.ClassFile.FieldType.int), Jvm.Cond.code ({ cls := "com/example/buildwright/buildwright/engine/TestResult", name := "passed", desc := "()I" } : Jvm.MethodName) prog_27_method_7_code (1 : Nat) (Option.some Jvm.ClassFile.FieldType.int), Jvm.Cond.code ({ cls := "com/example/buildwright/buildwright/engine/TestResult", name := "failed", desc := "()I" } : Jvm.MethodName) prog_27_method_8_code (1 : Nat) (Option.some Jvm.ClassFile.FieldType.int), Jvm.Cond.code ({ cls := "com/example/buildwright/buildwright/engine/TestResult", name := "cached", desc := "()I" } : Jvm.MethodName) prog_27_method_9_code (1 : Nat) (Option.some Jvm.ClassFile.FieldType.int), Jvm.Cond.code ({ cls := "com/example/buildwright/buildwright/engine/TestResult", name := "flaky", desc := "()I" } : Jvm.MethodName) prog_27_method_10_code (1 : Nat) (Option.some Jvm.ClassFile.FieldType.int)]
set_option maxRecDepth 65536 in
theorem codes_eq : words1.filter isCode = codes1 := rfl
theorem w_codes : ∀ c ∈ words1.filter isCode, c.before args0 about1 = true := by
  rw [codes_eq]
  intro c hc
  simp only [codes1, List.mem_cons, List.not_mem_nil, or_false] at hc
  rcases hc with rfl | rfl | rfl | rfl | rfl | rfl | rfl | rfl | rfl | rfl | rfl | rfl | rfl | rfl | rfl | rfl
  · exact w_c0
  · exact w_c1
  · exact w_c2
  · exact w_c3
  · exact w_c4
  · exact w_c5
  · exact w_c6
  · exact w_c7
  · exact w_c8
  · exact w_c9
  · exact w_c10
  · exact w_c11
  · exact w_c12
  · exact w_c13
  · exact w_c14
  · exact w_c15
set_option maxRecDepth 65536 in
theorem w_t1 : (words1.take 24).all (fun c => isCode c || c.before args0 about1) = true := by decide +kernel
set_option maxRecDepth 65536 in
theorem w_t2 : ((words1.drop 24).take 24).all (fun c => isCode c || c.before args0 about1) = true := by decide +kernel
set_option maxRecDepth 65536 in
theorem w_t3 : (((words1.drop 24).drop 24).take 24).all (fun c => isCode c || c.before args0 about1) = true := by decide +kernel
set_option maxRecDepth 65536 in
theorem w_t4 : ((((words1.drop 24).drop 24).drop 24).take 24).all (fun c => isCode c || c.before args0 about1) = true := by decide +kernel
set_option maxRecDepth 65536 in
theorem w_t5 : ((((words1.drop 24).drop 24).drop 24).drop 24).all (fun c => isCode c || c.before args0 about1) = true := by decide +kernel
theorem w_tables : (allAtoms (Jvm.Cond.code x code maxLocals ret :: tables_1)).before args0 about1 = true := by
  rw [allAtoms_all]
  show words1.all (fun c => c.before args0 about1) = true
  refine all_split ?_ w_codes
  rw [← List.take_append_drop 24 words1, List.all_append, w_t1, ← List.take_append_drop 24 (words1.drop 24), List.all_append, w_t2, ← List.take_append_drop 24 ((words1.drop 24).drop 24), List.all_append, w_t3, ← List.take_append_drop 24 (((words1.drop 24).drop 24).drop 24), List.all_append, w_t4, w_t5]
  rfl
set_option maxRecDepth 65536 in
theorem w_case : (Jvm.Cond.and given_1 narrow_1).before args0 about1 = true := by decide +kernel
theorem w_applies : (headSpec (Jvm.Cond.code x code maxLocals ret :: tables_1) room_1).applies x e0.platform about1 = true :=
  (Spec.applies_iff w_frames).mpr ⟨w_running, w_runnable, w_alone, w_named, w_hears, w_ripe, w_room, w_tables⟩
theorem atStart : AtStart classFile x code maxLocals ret World_1 tables_1 room_1 Calls_1 rest_1 Pre_1 launch0 p0 e0 about1 theMethod args0 below0 :=
  ⟨lists_1, trivial, launch0.admits_env _ _ _, launch0.least_env, fairChoices_fair.cas, fairChoices_fair.clock, w_frames, w_args, w_heap, w_applies, trivial, trivial, w_case⟩
end start1
theorem witness_1 : WitnessClaimed_1 := ⟨start1.p0, start1.e0, start1.about1, start1.theMethod, start1.args0, start1.below0, start1.atStart⟩
end Jvm.Pilot.@@N@@
