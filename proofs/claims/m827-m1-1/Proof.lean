import JvmDerived
import JvmDerived.Pilot.@@N@@Statement
import JvmDerived.Pilot.@@N@@Code
set_option linter.unusedVariables false
set_option linter.unusedSimpArgs false
namespace Jvm.Pilot.@@N@@
open Jvm Jvm.ClassFile Sem Op Lib Jvm.Free Jvm.Stand Jvm.LawKit Jvm.RoadKit Bundle Jvm.Pilot.@@N@@.Jvm.D

section Layer
variable {p : Program} {l : Launch} {e : Env} {R : Room} {s : State} {m : MethodId} {args : Array Value} {below : List Frame} {meth : Method} {c : Code} {T : State} {locs : List Loc} {cells slots : Nat}
/-- the walk from σ comes to an end at which K holds -/
def Go (p : Program) (e : Env) (below : List Frame) (K : State → Outcome → Prop) (σ : State) : Prop := ∃ s₂ o, Steps p.tables e below σ s₂ ∧ K s₂ o
theorem Go.st {K : State → Outcome → Prop} {σ σ' : State} (h : ∀ t, Steps p.tables e below σ' t → Steps p.tables e below σ t) (k : Go p e below K σ') : Go p e below K σ := by
  obtain ⟨a, b, c, d⟩ := k
  exact ⟨a, b, h _ c, d⟩
theorem Go.tr {K : State → Outcome → Prop} {σ σ' : State} (h : Steps p.tables e below σ σ') (k : Go p e below K σ') : Go p e below K σ := Go.st (fun _ q => h.trans q) k
/-- what a contract asks of the end -/
def KQ (s : State) (below : List Frame) (Q : Option Value → Heap → List Loc → Prop) (C S : Nat) (s₂ : State) (o : Outcome) : Prop :=
  s₂.status = .running ∧ Ended s₂ below o ∧ ∃ v L, o = .returned v ∧ Q v s₂.heap L ∧ FrameEnd s o s₂ L C S
theorem Go.body {K : State → Outcome → Prop} {σ : State} {g g' : JFrame} (hg : g = g') (k : Go p e below K (T.setTop g')) : Go p e below K (T.setTop g) := hg ▸ k
/-- return of nothing -/
theorem Go.retV {Q : Option Value → Heap → List Loc → Prop} {C S : Nat} (X : Stand p l e R s m args below meth c T locs cells slots) (hx : p.tables.exec = Jvm.exec) (hlk : meth.locks = false) (hret : meth.sig.returnType = none) {pc : Nat} {Ls : Array Slot} (hd : decode c.code pc = .ok (.return_, 1)) (hC : cells ≤ C) (hS : slots ≤ S) (q : Q none T.heap locs) :
    Go p e below (KQ s below Q C S) (T.setTop (mkF m pc Ls [])) := by
  obtain ⟨fs, hr, hrun, hended, hW, hsame⟩ := X.leave (v := none) (fun _ => rfl)
  exact ⟨_, _, X.returnOut hx hret hd hr, hrun, hended, _, _, rfl, q, ⟨_, rfl⟩, hW, hsame.mono hC hS⟩
/-- return of an int -/
theorem Go.retI {Q : Option Value → Heap → List Loc → Prop} {C S : Nat} (X : Stand p l e R s m args below meth c T locs cells slots) (hx : p.tables.exec = Jvm.exec) (hlk : meth.locks = false) (hret : meth.sig.returnType = some .int) {pc : Nat} {Ls : Array Slot} {z : Int32} {rest : List Value} (hd : decode c.code pc = .ok (.ireturn, 1)) (hC : cells ≤ C) (hS : slots ≤ S) (q : Q (some (.int z)) T.heap locs) :
    Go p e below (KQ s below Q C S) (T.setTop (mkF m pc Ls (.int z :: rest))) := by
  obtain ⟨fs, hr, hrun, hended, hW, hsame⟩ := X.leave (v := some (.int z)) (fun h => by rw [hret] at h; cases h)
  exact ⟨_, _, retOut X hx hret rfl (Or.inl ⟨rfl, Or.inl rfl, _, rfl⟩) hd hr, hrun, hended, _, _, rfl, q, ⟨_, rfl⟩, hW, hsame.mono hC hS⟩
/-- return of a boolean, byte, char or short -/
theorem Go.retN {Q : Option Value → Heap → List Loc → Prop} {C S : Nat} (X : Stand p l e R s m args below meth c T locs cells slots) (hx : p.tables.exec = Jvm.exec) (hlk : meth.locks = false) {t : FieldType} (hret : meth.sig.returnType = some t) (ht : t = .boolean ∨ t = .byte ∨ t = .char ∨ t = .short) {pc : Nat} {Ls : Array Slot} {z : Int32} {rest : List Value} (hd : decode c.code pc = .ok (.ireturn, 1)) (hC : cells ≤ C) (hS : slots ≤ S) (q : Q (some (.int (nar t z))) T.heap locs) :
    Go p e below (KQ s below Q C S) (T.setTop (mkF m pc Ls (.int z :: rest))) := by
  obtain ⟨fs, hr, hrun, hended, hW, hsame⟩ := X.leave (v := some (.int (nar t z))) (fun h => by rw [hret] at h; cases h)
  exact ⟨_, _, RoadKit.retN X hx hret ht hd hr, hrun, hended, _, _, rfl, q, ⟨_, rfl⟩, hW, hsame.mono hC hS⟩
/-- return of a reference -/
theorem Go.retA {Q : Option Value → Heap → List Loc → Prop} {C S : Nat} (X : Stand p l e R s m args below meth c T locs cells slots) (hx : p.tables.exec = Jvm.exec) (hlk : meth.locks = false) {t : FieldType} (hret : meth.sig.returnType = some t) (ht : t.isReference = true) {pc : Nat} {Ls : Array Slot} {w : Value} (hw : w.isRef = true) {rest : List Value} (hd : decode c.code pc = .ok (.areturn, 1)) (hC : cells ≤ C) (hS : slots ≤ S) (q : Q (some w) T.heap locs) :
    Go p e below (KQ s below Q C S) (T.setTop (mkF m pc Ls (w :: rest))) := by
  obtain ⟨fs, hr, hrun, hended, hW, hsame⟩ := X.leave (v := some w) (fun h => by rw [hret] at h; cases h)
  exact ⟨_, _, retOut X hx hret (by cases t <;> cases w <;> simp_all [narrow, Value.isRef, FieldType.isReference]) (Or.inr (Or.inr (Or.inr (Or.inr ⟨rfl, ht, hw⟩)))) hd hr, hrun, hended, _, _, rfl, q, ⟨_, rfl⟩, hW, hsame.mono hC hS⟩
/-- return of a long -/
theorem Go.retJ {Q : Option Value → Heap → List Loc → Prop} {C S : Nat} (X : Stand p l e R s m args below meth c T locs cells slots) (hx : p.tables.exec = Jvm.exec) (hlk : meth.locks = false) (hret : meth.sig.returnType = some .long) {pc : Nat} {Ls : Array Slot} {z : Int64} {rest : List Value} (hd : decode c.code pc = .ok (.lreturn, 1)) (hC : cells ≤ C) (hS : slots ≤ S) (q : Q (some (.long z)) T.heap locs) :
    Go p e below (KQ s below Q C S) (T.setTop (mkF m pc Ls (.long z :: rest))) := by
  obtain ⟨fs, hr, hrun, hended, hW, hsame⟩ := X.leave (v := some (.long z)) (fun h => by rw [hret] at h; cases h)
  exact ⟨_, _, retOut X hx hret rfl (Or.inr (Or.inl ⟨rfl, rfl, _, rfl⟩)) hd hr, hrun, hended, _, _, rfl, q, ⟨_, rfl⟩, hW, hsame.mono hC hS⟩
/-- return of a double -/
theorem Go.retD {Q : Option Value → Heap → List Loc → Prop} {C S : Nat} (X : Stand p l e R s m args below meth c T locs cells slots) (hx : p.tables.exec = Jvm.exec) (hlk : meth.locks = false) (hret : meth.sig.returnType = some .double) {pc : Nat} {Ls : Array Slot} {z : UInt64} {rest : List Value} (hd : decode c.code pc = .ok (.dreturn, 1)) (hC : cells ≤ C) (hS : slots ≤ S) (q : Q (some (.double z)) T.heap locs) :
    Go p e below (KQ s below Q C S) (T.setTop (mkF m pc Ls (.double z :: rest))) := by
  obtain ⟨fs, hr, hrun, hended, hW, hsame⟩ := X.leave (v := some (.double z)) (fun h => by rw [hret] at h; cases h)
  exact ⟨_, _, retOut X hx hret rfl (Or.inr (Or.inr (Or.inl ⟨rfl, rfl, _, rfl⟩))) hd hr, hrun, hended, _, _, rfl, q, ⟨_, rfl⟩, hW, hsame.mono hC hS⟩
theorem g_iloadN {K : State → Outcome → Prop} (X : Stand p l e R s m args below meth c T locs cells slots) (hx : p.tables.exec = Jvm.exec) {pc : Nat} {L : Array Slot} {S : List Value} {k : Fin 4} {v : Int32} (hd : decode c.code pc = .ok (.iload_n k, 1)) (pc' : Nat) (hp : pc + 1 = pc') (hl : L[k.val]? = some (.val (.int v))) (r : Go p e below K (T.setTop (mkF m pc' L (.int v :: S)))) : Go p e below K (T.setTop (mkF m pc L S)) := by
  subst hp
  exact Go.st (fun _ => XS.iloadN X.here hx rfl hd hl) r
theorem g_iload {K : State → Outcome → Prop} (X : Stand p l e R s m args below meth c T locs cells slots) (hx : p.tables.exec = Jvm.exec) {pc : Nat} {L : Array Slot} {S : List Value} {k : Nat} {v : Int32} (hd : decode c.code pc = .ok (.iload k, 2)) (pc' : Nat) (hp : pc + 2 = pc') (hl : L[k]? = some (.val (.int v))) (r : Go p e below K (T.setTop (mkF m pc' L (.int v :: S)))) : Go p e below K (T.setTop (mkF m pc L S)) := by
  subst hp
  exact Go.st (fun _ => XS.iload X.here hx rfl hd hl) r
theorem g_lloadN {K : State → Outcome → Prop} (X : Stand p l e R s m args below meth c T locs cells slots) (hx : p.tables.exec = Jvm.exec) {pc : Nat} {L : Array Slot} {S : List Value} {k : Fin 4} {v : Int64} (hd : decode c.code pc = .ok (.lload_n k, 1)) (pc' : Nat) (hp : pc + 1 = pc') (hl : L[k.val]? = some (.val (.long v))) (r : Go p e below K (T.setTop (mkF m pc' L (.long v :: S)))) : Go p e below K (T.setTop (mkF m pc L S)) := by
  subst hp
  exact Go.st (fun _ => XT.lloadN X.here hx rfl hd hl) r
theorem g_lload {K : State → Outcome → Prop} (X : Stand p l e R s m args below meth c T locs cells slots) (hx : p.tables.exec = Jvm.exec) {pc : Nat} {L : Array Slot} {S : List Value} {k : Nat} {v : Int64} (hd : decode c.code pc = .ok (.lload k, 2)) (pc' : Nat) (hp : pc + 2 = pc') (hl : L[k]? = some (.val (.long v))) (r : Go p e below K (T.setTop (mkF m pc' L (.long v :: S)))) : Go p e below K (T.setTop (mkF m pc L S)) := by
  subst hp
  exact Go.st (fun _ => XT.lload X.here hx rfl hd hl) r
theorem g_aloadN {K : State → Outcome → Prop} (X : Stand p l e R s m args below meth c T locs cells slots) (hx : p.tables.exec = Jvm.exec) {pc : Nat} {L : Array Slot} {S : List Value} {k : Fin 4} {v : Value} (hd : decode c.code pc = .ok (.aload_n k, 1)) (pc' : Nat) (hp : pc + 1 = pc') (hl : L[k.val]? = some (.val v)) (hv : v.isRef = true) (r : Go p e below K (T.setTop (mkF m pc' L (v :: S)))) : Go p e below K (T.setTop (mkF m pc L S)) := by
  subst hp
  exact Go.st (fun _ => XS.aloadN X.here hx rfl hd hl hv) r
theorem g_aload {K : State → Outcome → Prop} (X : Stand p l e R s m args below meth c T locs cells slots) (hx : p.tables.exec = Jvm.exec) {pc : Nat} {L : Array Slot} {S : List Value} {k : Nat} {v : Value} (hd : decode c.code pc = .ok (.aload k, 2)) (pc' : Nat) (hp : pc + 2 = pc') (hl : L[k]? = some (.val v)) (hv : v.isRef = true) (r : Go p e below K (T.setTop (mkF m pc' L (v :: S)))) : Go p e below K (T.setTop (mkF m pc L S)) := by
  subst hp
  exact Go.st (fun _ => XS.aload X.here hx rfl hd hl hv) r
theorem g_istore {K : State → Outcome → Prop} (X : Stand p l e R s m args below meth c T locs cells slots) (hx : p.tables.exec = Jvm.exec) {pc : Nat} {L : Array Slot} {S : List Value} {k : Nat} {v : Int32} (hd : decode c.code pc = .ok (.istore k, 2)) (pc' : Nat) (hp : pc + 2 = pc') (L' : Array Slot) (hl : storeLocals L k (.int v) = some L') (r : Go p e below K (T.setTop (mkF m pc' L' S))) : Go p e below K (T.setTop (mkF m pc L (.int v :: S))) := by
  subst hp
  exact Go.st (fun _ => XS.istore X.here hx rfl hd rfl hl) r
theorem g_astore {K : State → Outcome → Prop} (X : Stand p l e R s m args below meth c T locs cells slots) (hx : p.tables.exec = Jvm.exec) {pc : Nat} {L : Array Slot} {S : List Value} {k : Nat} {v : Value} (hd : decode c.code pc = .ok (.astore k, 2)) (pc' : Nat) (hp : pc + 2 = pc') (hv : v.isRef = true) (L' : Array Slot) (hl : storeLocals L k v = some L') (r : Go p e below K (T.setTop (mkF m pc' L' S))) : Go p e below K (T.setTop (mkF m pc L (v :: S))) := by
  subst hp
  exact Go.st (fun _ => XS.astore X.here hx rfl hd rfl hv hl) r
theorem g_iconst {K : State → Outcome → Prop} (X : Stand p l e R s m args below meth c T locs cells slots) (hx : p.tables.exec = Jvm.exec) {pc : Nat} {L : Array Slot} {S : List Value} {i : Int} (hd : decode c.code pc = .ok (.iconst i, 1)) (pc' : Nat) (hp : pc + 1 = pc') (z : Int32) (hz : Int32.ofInt i = z) (r : Go p e below K (T.setTop (mkF m pc' L (.int z :: S)))) : Go p e below K (T.setTop (mkF m pc L S)) := by
  subst hp; subst hz
  exact Go.st (fun _ => XS.iconst X.here hx rfl hd) r
theorem g_bipush {K : State → Outcome → Prop} (X : Stand p l e R s m args below meth c T locs cells slots) (hx : p.tables.exec = Jvm.exec) {pc : Nat} {L : Array Slot} {S : List Value} {i : Int} (hd : decode c.code pc = .ok (.bipush i, 2)) (pc' : Nat) (hp : pc + 2 = pc') (z : Int32) (hz : (Int8.ofInt i).toInt32 = z) (r : Go p e below K (T.setTop (mkF m pc' L (.int z :: S)))) : Go p e below K (T.setTop (mkF m pc L S)) := by
  subst hp; subst hz
  exact Go.st (fun _ => XS.bipush X.here hx rfl hd) r
theorem g_iadd {K : State → Outcome → Prop} (X : Stand p l e R s m args below meth c T locs cells slots) (hx : p.tables.exec = Jvm.exec) {pc : Nat} {L : Array Slot} {S : List Value} {x y : Int32} (hd : decode c.code pc = .ok (.iadd, 1)) (pc' : Nat) (hp : pc + 1 = pc') (z : Int32) (hz : x + y = z) (r : Go p e below K (T.setTop (mkF m pc' L (.int z :: S)))) : Go p e below K (T.setTop (mkF m pc L (.int y :: .int x :: S))) := by
  subst hp; subst hz
  exact Go.st (fun _ => XS.iadd X.here hx rfl hd rfl) r
theorem g_lushr {K : State → Outcome → Prop} (X : Stand p l e R s m args below meth c T locs cells slots) (hx : p.tables.exec = Jvm.exec) {pc : Nat} {L : Array Slot} {S : List Value} {x : Int64} {y : Int32} (hd : decode c.code pc = .ok (.lushr, 1)) (pc' : Nat) (hp : pc + 1 = pc') (z : Int64) (hz : XT.ushrL x y = z) (r : Go p e below K (T.setTop (mkF m pc' L (.long z :: S)))) : Go p e below K (T.setTop (mkF m pc L (.int y :: .long x :: S))) := by
  subst hp; subst hz
  exact Go.st (fun _ => XT.lushr X.here hx rfl hd rfl) r
theorem g_l2i {K : State → Outcome → Prop} (X : Stand p l e R s m args below meth c T locs cells slots) (hx : p.tables.exec = Jvm.exec) {pc : Nat} {L : Array Slot} {S : List Value} {x : Int64} (hd : decode c.code pc = .ok (.l2i, 1)) (pc' : Nat) (hp : pc + 1 = pc') (z : Int32) (hz : x.toInt32 = z) (r : Go p e below K (T.setTop (mkF m pc' L (.int z :: S)))) : Go p e below K (T.setTop (mkF m pc L (.long x :: S))) := by
  subst hp; subst hz
  exact Go.st (fun _ => XT.l2i X.here hx rfl hd rfl) r
theorem g_dup {K : State → Outcome → Prop} (X : Stand p l e R s m args below meth c T locs cells slots) (hx : p.tables.exec = Jvm.exec) {pc : Nat} {L : Array Slot} {S : List Value} {x : Value} (hd : decode c.code pc = .ok (.dup, 1)) (pc' : Nat) (hp : pc + 1 = pc') (hc : x.category = 1) (r : Go p e below K (T.setTop (mkF m pc' L (x :: x :: S)))) : Go p e below K (T.setTop (mkF m pc L (x :: S))) := by
  subst hp
  exact Go.st (fun _ => XS.dup X.here hx rfl hd rfl hc) r
theorem g_goto {K : State → Outcome → Prop} (X : Stand p l e R s m args below meth c T locs cells slots) (hx : p.tables.exec = Jvm.exec) {pc : Nat} {L : Array Slot} {S : List Value} {o : Int} (hd : decode c.code pc = .ok (.goto o, 3)) (pc' : Nat) (h0 : 0 ≤ (pc : Int) + o) (hp : ((pc : Int) + o).toNat = pc') (r : Go p e below K (T.setTop (mkF m pc' L S))) : Go p e below K (T.setTop (mkF m pc L S)) :=
  Go.st (fun _ => XS.goto X.here hx rfl (pc0 := pc) rfl hd h0 hp) r
theorem g_icmp {K : State → Outcome → Prop} (X : Stand p l e R s m args below meth c T locs cells slots) (hx : p.tables.exec = Jvm.exec) {pc : Nat} {L : Array Slot} {S : List Value} {cd : ClassFile.Cond} {o : Int} {x y : Int32} (hd : decode c.code pc = .ok (.if_icmp cd o, 3)) (pc1 pc2 : Nat) (h0 : 0 ≤ (pc : Int) + o) (h1 : ((pc : Int) + o).toNat = pc1) (h2 : pc + 3 = pc2) (yes : if_icmp.holds cd x y = true → Go p e below K (T.setTop (mkF m pc1 L S))) (no : if_icmp.holds cd x y = false → Go p e below K (T.setTop (mkF m pc2 L S))) : Go p e below K (T.setTop (mkF m pc L (.int y :: .int x :: S))) := by
  subst h2
  cases hc : if_icmp.holds cd x y with
  | true => exact Go.st (fun _ => XS.icmpYes X.here hx rfl (pc0 := pc) rfl hd rfl hc h0 h1) (yes hc)
  | false => exact Go.st (fun _ => XS.icmpNo X.here hx rfl hd rfl hc) (no hc)
theorem g_icmp_ne {K : State → Outcome → Prop} (X : Stand p l e R s m args below meth c T locs cells slots) (hx : p.tables.exec = Jvm.exec) {pc : Nat} {L : Array Slot} {S : List Value} {o : Int} {x y : Int32} (hd : decode c.code pc = .ok (.if_icmp .ne o, 3)) (pc1 pc2 : Nat) (h0 : 0 ≤ (pc : Int) + o) (h1 : ((pc : Int) + o).toNat = pc1) (h2 : pc + 3 = pc2) (yes : ¬ x = y → Go p e below K (T.setTop (mkF m pc1 L S))) (no : x = y → Go p e below K (T.setTop (mkF m pc2 L S))) : Go p e below K (T.setTop (mkF m pc L (.int y :: .int x :: S))) := by
  refine g_icmp X hx hd pc1 pc2 h0 h1 h2 (fun hc => ?_) (fun hc => ?_)
  · by_cases q : x = y
    · rw [(teq q).2] at hc; cases hc
    · exact yes q
  · by_cases q : x = y
    · exact no q
    · rw [(feq q).2] at hc; cases hc
end Layer


theorem own_pn_java_lang_Record : plainName "java/lang/Record" = true := by first | (simp [plainName, overriddenIn]; done) | decide +kernel
theorem ef_2 (m : MethodId) (x0 : Addr) : entryFrame m #[(.ref x0)] 1 = mkF m 0 #[.val (.ref x0)] [] := by first | (simp [entryFrame, mkF, argsToLocals, Value.category]; done) | rfl
theorem d2_0 : decode jdk_30_method_1_code 0 = .ok (.aload_n 0, 1) := by decide +kernel
theorem d2_1 : decode jdk_30_method_1_code 1 = .ok (.invokespecial 1, 3) := by decide +kernel
theorem d2_4 : decode jdk_30_method_1_code 4 = .ok (.return_, 1) := by decide +kernel
def Q2 (Z : State) (a1 : Addr) (h0 : Heap) (n0 : Nat) (v : Option Value) (h : Heap) (L : List Loc) : Prop := v = none ∧ Fr n0 L ∧ h = h0
set_option maxRecDepth 65536 in
set_option maxHeartbeats 40000000 in
theorem rm2 (l : Launch) (Z : State) (a0 : Array Value) (hw : ∀ d ∈ tables_1, d.before a0 Z = true) (ws : List Jvm.Cond) (a1 : Addr) (h0 : Heap) (n0 : Nat) (Z0 : n0 ≤ h0.size)  :
    MetFree l (⟨"java/lang/Record", "<init>", "()V"⟩ : MethodName) (head1 (Jvm.Cond.code (⟨"java/lang/Record", "<init>", "()V"⟩ : MethodName) jdk_30_method_1_code 1 none :: ws) ({ frames := 1, cells := 0, slots := 0, locals := 12 } : Room)) (fun a U => a = #[(.ref a1)] ∧ Z.Warmed39 U.vm ∧ U.heap = h0) (fun _ _ _ _ _ => True) (fun _ U o U' => ∃ v L, o = .returned v ∧ Q2 Z a1 h0 n0 v U'.heap L ∧ FrameEnd U o U' L ({ frames := 1, cells := 0, slots := 0, locals := 12 } : Room).cells ({ frames := 1, cells := 0, slots := 0, locals := 12 } : Room).slots) := by
  refine MetFree.of_bodySF (plainFor_of_name own_pn_java_lang_Record) hisR ?_
  intro p e s m args below meth c s₁ Bd hml0 hP hK
  obtain ⟨rfl, hZ, hh⟩ := hP
  have hx := Bd.exec
  have hby := Bd.bytes
  have hlk := Bd.notSynchronized
  have hml : c.maxLocals = 1 := hml0
  have hown : s.vm.findClass "java/lang/Record" = some m.cls := findClass_of_methodNamed Bd.named
  have hnm := (name_of_methodNamed Bd.named Bd.method).1
  have X0 : Stand p l e ({ frames := 1, cells := 0, slots := 0, locals := 12 } : Room) s m #[(.ref a1)] below meth c s₁ [] 0 0 := Stand.of_body Bd
  have e0 : s₁.heap = h0 := by rw [← hh, Bd.state]; rfl
  have N0 := Fr.nil n0
  show Go p e below (KQ s below (Q2 Z a1 h0 n0) ({ frames := 1, cells := 0, slots := 0, locals := 12 } : Room).cells ({ frames := 1, cells := 0, slots := 0, locals := 12 } : Room).slots) _
  refine Go.body (T := s₁) (σ := s₁) (g' := (mkF m 0 #[.val (.ref a1)] [])) (ef_2 m a1) ?_
  refine g_aloadN X0 hx (hb hby d2_0) 1 rfl (v := (.ref a1)) rfl rfl ?_
  obtain ⟨T1, X1, e1, st1⟩ := initO X0 hx hZ hown (hw _ (List.mem_of_getElem? (i := 11) rfl)) (hw _ (List.mem_of_getElem? (i := 12) rfl)) (hw _ (List.mem_of_getElem? (i := 13) rfl)) e0 (g := (mkF m 1 #[.val (.ref a1)] [(.ref a1)])) rfl (by rw [hml]; rfl) rfl (hb hby d2_1) (by decide) (W := 0) (by show 2 * 0 + _ ≤ _; exact Nat.le_of_eq rfl) (by decide)
  refine Go.st st1 ?_
  show Go p e below _ (T1.setTop (mkF m 4 #[.val (.ref a1)] []))
  refine Go.retV X1 hx hlk Bd.returns (hb hby d2_4) (by decide) (by decide) ?_
  show Q2 Z a1 h0 n0 _ T1.heap _
  rw [e1]
  exact ⟨rfl, N0, rfl⟩
theorem own_pn_com_example_buildwright_buildwright_engine_TestResult : plainName "com/example/buildwright/buildwright/engine/TestResult" = true := by first | (simp [plainName, overriddenIn]; done) | decide +kernel
theorem ef_1 (m : MethodId) (x0 : Addr) (x1 : Int32) (x2 : Int32) (x3 : Int32) (x4 : Int32) : entryFrame m #[(.ref x0), (.int x1), (.int x2), (.int x3), (.int x4)] 5 = mkF m 0 #[.val (.ref x0), .val (.int x1), .val (.int x2), .val (.int x3), .val (.int x4)] [] := by first | (simp [entryFrame, mkF, argsToLocals, Value.category]; done) | rfl
theorem d1_0 : decode prog_26_method_1_code 0 = .ok (.aload_n 0, 1) := by decide +kernel
theorem own_pd0 : parseMethodDescriptor "()V" = some ⟨[], none⟩ := by decide +kernel
theorem d1_1 : decode prog_26_method_1_code 1 = .ok (.invokespecial 1, 3) := by decide +kernel
theorem d1_4 : decode prog_26_method_1_code 4 = .ok (.aload_n 0, 1) := by decide +kernel
theorem d1_5 : decode prog_26_method_1_code 5 = .ok (.iload_n 1, 1) := by decide +kernel
theorem d1_6 : decode prog_26_method_1_code 6 = .ok (.putfield 7, 3) := by decide +kernel
theorem d1_9 : decode prog_26_method_1_code 9 = .ok (.aload_n 0, 1) := by decide +kernel
theorem d1_10 : decode prog_26_method_1_code 10 = .ok (.iload_n 2, 1) := by decide +kernel
theorem d1_11 : decode prog_26_method_1_code 11 = .ok (.putfield 13, 3) := by decide +kernel
theorem d1_14 : decode prog_26_method_1_code 14 = .ok (.aload_n 0, 1) := by decide +kernel
theorem d1_15 : decode prog_26_method_1_code 15 = .ok (.iload_n 3, 1) := by decide +kernel
theorem d1_16 : decode prog_26_method_1_code 16 = .ok (.putfield 16, 3) := by decide +kernel
theorem d1_19 : decode prog_26_method_1_code 19 = .ok (.aload_n 0, 1) := by decide +kernel
theorem d1_20 : decode prog_26_method_1_code 20 = .ok (.iload 4, 2) := by decide +kernel
theorem d1_22 : decode prog_26_method_1_code 22 = .ok (.putfield 19, 3) := by decide +kernel
theorem d1_25 : decode prog_26_method_1_code 25 = .ok (.return_, 1) := by decide +kernel
def Q1 (Z : State) (a1 : Addr) (p1 : Int32) (p2 : Int32) (p3 : Int32) (p4 : Int32) (u0 : Value) (u1 : Value) (u2 : Value) (u3 : Value) (h0 : Heap) (n0 : Nat) (v : Option Value) (h : Heap) (L : List Loc) : Prop := v = none ∧ Fr n0 L ∧ Keep h0 h [a1] ∧ (Exa Z h a1 "com/example/buildwright/buildwright/engine/TestResult") ∧ (Fld Z h a1 "com/example/buildwright/buildwright/engine/TestResult" "passed" "I" (.int p1)) ∧ (Fld Z h a1 "com/example/buildwright/buildwright/engine/TestResult" "failed" "I" (.int p2)) ∧ (Fld Z h a1 "com/example/buildwright/buildwright/engine/TestResult" "cached" "I" (.int p3)) ∧ (Fld Z h a1 "com/example/buildwright/buildwright/engine/TestResult" "flaky" "I" (.int p4))
set_option maxRecDepth 65536 in
set_option maxHeartbeats 40000000 in
theorem rm1 (l : Launch) (Z : State) (a0 : Array Value) (hw : ∀ d ∈ tables_1, d.before a0 Z = true) (ws : List Jvm.Cond) (a1 : Addr) (p1 : Int32) (p2 : Int32) (p3 : Int32) (p4 : Int32) (u0 : Value) (u1 : Value) (u2 : Value) (u3 : Value) (h0 : Heap) (n0 : Nat) (Z0 : n0 ≤ h0.size) (E_a1 : Exa Z h0 a1 "com/example/buildwright/buildwright/engine/TestResult") (g_a1 : n0 ≤ a1) (F_passed_a1 : Fld Z h0 a1 "com/example/buildwright/buildwright/engine/TestResult" "passed" "I" u0) (F_failed_a1 : Fld Z h0 a1 "com/example/buildwright/buildwright/engine/TestResult" "failed" "I" u1) (F_cached_a1 : Fld Z h0 a1 "com/example/buildwright/buildwright/engine/TestResult" "cached" "I" u2) (F_flaky_a1 : Fld Z h0 a1 "com/example/buildwright/buildwright/engine/TestResult" "flaky" "I" u3) :
    MetFree l (⟨"com/example/buildwright/buildwright/engine/TestResult", "<init>", "(IIII)V"⟩ : MethodName) (head1 (Jvm.Cond.code (⟨"com/example/buildwright/buildwright/engine/TestResult", "<init>", "(IIII)V"⟩ : MethodName) prog_26_method_1_code 5 none :: ws) ({ frames := 2, cells := 0, slots := 0, locals := 24 } : Room)) (fun a U => a = #[(.ref a1), (.int p1), (.int p2), (.int p3), (.int p4)] ∧ Z.Warmed39 U.vm ∧ U.heap = h0) (fun _ _ _ _ _ => True) (fun _ U o U' => ∃ v L, o = .returned v ∧ Q1 Z a1 p1 p2 p3 p4 u0 u1 u2 u3 h0 n0 v U'.heap L ∧ FrameEnd U o U' L ({ frames := 2, cells := 0, slots := 0, locals := 24 } : Room).cells ({ frames := 2, cells := 0, slots := 0, locals := 24 } : Room).slots) := by
  refine MetFree.of_bodySF (plainFor_of_name own_pn_com_example_buildwright_buildwright_engine_TestResult) hisR ?_
  intro p e s m args below meth c s₁ Bd hml0 hP hK
  obtain ⟨rfl, hZ, hh⟩ := hP
  have hx := Bd.exec
  have hby := Bd.bytes
  have hlk := Bd.notSynchronized
  have hml : c.maxLocals = 5 := hml0
  have hown : s.vm.findClass "com/example/buildwright/buildwright/engine/TestResult" = some m.cls := findClass_of_methodNamed Bd.named
  have hnm := (name_of_methodNamed Bd.named Bd.method).1
  have X0 : Stand p l e ({ frames := 2, cells := 0, slots := 0, locals := 24 } : Room) s m #[(.ref a1), (.int p1), (.int p2), (.int p3), (.int p4)] below meth c s₁ [] 0 0 := Stand.of_body Bd
  have e0 : s₁.heap = h0 := by rw [← hh, Bd.state]; rfl
  have N0 := Fr.nil n0
  have K0 : Keep h0 h0 [a1] := Keep.refl _ _
  show Go p e below (KQ s below (Q1 Z a1 p1 p2 p3 p4 u0 u1 u2 u3 h0 n0) ({ frames := 2, cells := 0, slots := 0, locals := 24 } : Room).cells ({ frames := 2, cells := 0, slots := 0, locals := 24 } : Room).slots) _
  refine Go.body (T := s₁) (σ := s₁) (g' := (mkF m 0 #[.val (.ref a1), .val (.int p1), .val (.int p2), .val (.int p3), .val (.int p4)] [])) (ef_1 m a1 p1 p2 p3 p4) ?_
  refine g_aloadN X0 hx (hb hby d1_0) 1 rfl (v := (.ref a1)) rfl rfl ?_
  obtain ⟨_, _, ⟨T2, L2, k2, n2⟩, -, X2, ⟨Lc2, hQ2, l2, y2, z2⟩, st2⟩ := X0.specialBack hx (y := (⟨"java/lang/Record", "<init>", "()V"⟩ : MethodName)) rfl hown (mvT hZ (hw _ (List.mem_of_getElem? (i := 6) rfl))) (mvT hZ (hw _ (List.mem_of_getElem? (i := 7) rfl))) (mvT hZ (hw _ (List.mem_of_getElem? (i := 10) rfl))) (by decide) (backOf (W := 0) (rm2 l Z a0 hw [] a1 h0 n0 Z0 ) hZ (hw _ (List.mem_of_getElem? (i := 10) rfl)) (hw _ (List.mem_of_getElem? (i := 9) rfl)) (by decide) (by decide)) (g := (mkF m 1 #[.val (.ref a1), .val (.int p1), .val (.int p2), .val (.int p3), .val (.int p4)] [(.ref a1)])) rfl (by rw [hml]; rfl) (Steps.refl _) (a := a1) (argsL := []) (rest := []) (lenOf own_pd0 rfl) rfl (by show 2 * 0 + _ ≤ _; exact Nat.le_of_eq rfl) (hb hby d1_1) (fun _ _ => ⟨rfl, e0, (by decide : 0 + 0 ≤ _), (by decide : 0 + 0 ≤ _)⟩)
  dsimp only [Pt.U, Pt.locs, Pt.cells, Pt.slots] at X2 l2 y2 z2 st2 hQ2
  subst l2 y2 z2
  obtain ⟨rfl, Nq2, e2⟩ := hQ2
  refine Go.tr st2 ?_
  have N2 := Fr.app N0 Nq2
  show Go p e below _ (T2.setTop (mkF m 4 #[.val (.ref a1), .val (.int p1), .val (.int p2), .val (.int p3), .val (.int p4)] []))
  refine g_aloadN X2 hx (hb hby d1_4) 5 rfl (v := (.ref a1)) rfl rfl ?_
  refine g_iloadN X2 hx (hb hby d1_5) 6 rfl (v := p1) rfl ?_
  obtain ⟨T3, h3, X3, e3, W3, st3⟩ := putF X2 hx hZ hown (host := "") (Or.inl (hw _ (List.mem_of_getElem? (i := 14) rfl))) Via.refl e2 F_passed_a1 E_a1 (Or.inr ⟨(hw _ (List.mem_of_getElem? (i := 15) rfl)), rfl, hnm⟩) (hw _ (List.mem_of_getElem? (i := 1) rfl)) (ty := .int) (by decide) rfl rfl (g := (mkF m 6 #[.val (.ref a1), .val (.int p1), .val (.int p2), .val (.int p3), .val (.int p4)] [(.int p1), (.ref a1)])) rfl rfl (hb hby d1_6)
  refine Go.st st3 ?_
  have E_a1_4 : Exa Z h3 a1 "com/example/buildwright/buildwright/engine/TestResult" := Exa.wr W3 E_a1
  have F_failed_a1_4 : Fld Z h3 a1 "com/example/buildwright/buildwright/engine/TestResult" "failed" "I" u1 := Fld.other W3 F_failed_a1 (Or.inr (slot_ne (Or.inr (hw _ (List.mem_of_getElem? (i := 17) rfl))) (Or.inr (hw _ (List.mem_of_getElem? (i := 15) rfl))) (by decide) (t := .int) (t' := .int) (by decide) (by decide)))
  have F_cached_a1_4 : Fld Z h3 a1 "com/example/buildwright/buildwright/engine/TestResult" "cached" "I" u2 := Fld.other W3 F_cached_a1 (Or.inr (slot_ne (Or.inr (hw _ (List.mem_of_getElem? (i := 19) rfl))) (Or.inr (hw _ (List.mem_of_getElem? (i := 15) rfl))) (by decide) (t := .int) (t' := .int) (by decide) (by decide)))
  have F_flaky_a1_4 : Fld Z h3 a1 "com/example/buildwright/buildwright/engine/TestResult" "flaky" "I" u3 := Fld.other W3 F_flaky_a1 (Or.inr (slot_ne (Or.inr (hw _ (List.mem_of_getElem? (i := 21) rfl))) (Or.inr (hw _ (List.mem_of_getElem? (i := 15) rfl))) (by decide) (t := .int) (t' := .int) (by decide) (by decide)))
  have F_passed_a1_3w : Fld Z h3 a1 "com/example/buildwright/buildwright/engine/TestResult" "passed" "I" (.int p1) := Fld.same W3 F_passed_a1
  have K3 : Keep h0 h3 [a1] := Keep.wr K0 W3 (Or.inl (List.mem_of_getElem? (i := 0) rfl))
  have N3 := Fr.snoc X3 N2 g_a1
  have Zs3 : n0 ≤ h3.size := by rw [W3.size]; exact Z0
  show Go p e below _ (T3.setTop (mkF m 9 #[.val (.ref a1), .val (.int p1), .val (.int p2), .val (.int p3), .val (.int p4)] []))
  refine g_aloadN X3 hx (hb hby d1_9) 10 rfl (v := (.ref a1)) rfl rfl ?_
  refine g_iloadN X3 hx (hb hby d1_10) 11 rfl (v := p2) rfl ?_
  obtain ⟨T5, h5, X5, e5, W5, st5⟩ := putF X3 hx hZ hown (host := "") (Or.inl (hw _ (List.mem_of_getElem? (i := 16) rfl))) Via.refl e3 F_failed_a1_4 E_a1_4 (Or.inr ⟨(hw _ (List.mem_of_getElem? (i := 17) rfl)), rfl, hnm⟩) (hw _ (List.mem_of_getElem? (i := 1) rfl)) (ty := .int) (by decide) rfl rfl (g := (mkF m 11 #[.val (.ref a1), .val (.int p1), .val (.int p2), .val (.int p3), .val (.int p4)] [(.int p2), (.ref a1)])) rfl rfl (hb hby d1_11)
  refine Go.st st5 ?_
  have E_a1_6 : Exa Z h5 a1 "com/example/buildwright/buildwright/engine/TestResult" := Exa.wr W5 E_a1_4
  have F_cached_a1_6 : Fld Z h5 a1 "com/example/buildwright/buildwright/engine/TestResult" "cached" "I" u2 := Fld.other W5 F_cached_a1_4 (Or.inr (slot_ne (Or.inr (hw _ (List.mem_of_getElem? (i := 19) rfl))) (Or.inr (hw _ (List.mem_of_getElem? (i := 17) rfl))) (by decide) (t := .int) (t' := .int) (by decide) (by decide)))
  have F_flaky_a1_6 : Fld Z h5 a1 "com/example/buildwright/buildwright/engine/TestResult" "flaky" "I" u3 := Fld.other W5 F_flaky_a1_4 (Or.inr (slot_ne (Or.inr (hw _ (List.mem_of_getElem? (i := 21) rfl))) (Or.inr (hw _ (List.mem_of_getElem? (i := 17) rfl))) (by decide) (t := .int) (t' := .int) (by decide) (by decide)))
  have F_passed_a1_6 : Fld Z h5 a1 "com/example/buildwright/buildwright/engine/TestResult" "passed" "I" (.int p1) := Fld.other W5 F_passed_a1_3w (Or.inr (slot_ne (Or.inr (hw _ (List.mem_of_getElem? (i := 15) rfl))) (Or.inr (hw _ (List.mem_of_getElem? (i := 17) rfl))) (by decide) (t := .int) (t' := .int) (by decide) (by decide)))
  have F_failed_a1_5w : Fld Z h5 a1 "com/example/buildwright/buildwright/engine/TestResult" "failed" "I" (.int p2) := Fld.same W5 F_failed_a1_4
  have K5 : Keep h0 h5 [a1] := Keep.wr K3 W5 (Or.inl (List.mem_of_getElem? (i := 0) rfl))
  have N5 := Fr.snoc X5 N3 g_a1
  have Zs5 : n0 ≤ h5.size := by rw [W5.size]; exact Zs3
  show Go p e below _ (T5.setTop (mkF m 14 #[.val (.ref a1), .val (.int p1), .val (.int p2), .val (.int p3), .val (.int p4)] []))
  refine g_aloadN X5 hx (hb hby d1_14) 15 rfl (v := (.ref a1)) rfl rfl ?_
  refine g_iloadN X5 hx (hb hby d1_15) 16 rfl (v := p3) rfl ?_
  obtain ⟨T7, h7, X7, e7, W7, st7⟩ := putF X5 hx hZ hown (host := "") (Or.inl (hw _ (List.mem_of_getElem? (i := 18) rfl))) Via.refl e5 F_cached_a1_6 E_a1_6 (Or.inr ⟨(hw _ (List.mem_of_getElem? (i := 19) rfl)), rfl, hnm⟩) (hw _ (List.mem_of_getElem? (i := 1) rfl)) (ty := .int) (by decide) rfl rfl (g := (mkF m 16 #[.val (.ref a1), .val (.int p1), .val (.int p2), .val (.int p3), .val (.int p4)] [(.int p3), (.ref a1)])) rfl rfl (hb hby d1_16)
  refine Go.st st7 ?_
  have E_a1_8 : Exa Z h7 a1 "com/example/buildwright/buildwright/engine/TestResult" := Exa.wr W7 E_a1_6
  have F_flaky_a1_8 : Fld Z h7 a1 "com/example/buildwright/buildwright/engine/TestResult" "flaky" "I" u3 := Fld.other W7 F_flaky_a1_6 (Or.inr (slot_ne (Or.inr (hw _ (List.mem_of_getElem? (i := 21) rfl))) (Or.inr (hw _ (List.mem_of_getElem? (i := 19) rfl))) (by decide) (t := .int) (t' := .int) (by decide) (by decide)))
  have F_passed_a1_8 : Fld Z h7 a1 "com/example/buildwright/buildwright/engine/TestResult" "passed" "I" (.int p1) := Fld.other W7 F_passed_a1_6 (Or.inr (slot_ne (Or.inr (hw _ (List.mem_of_getElem? (i := 15) rfl))) (Or.inr (hw _ (List.mem_of_getElem? (i := 19) rfl))) (by decide) (t := .int) (t' := .int) (by decide) (by decide)))
  have F_failed_a1_8 : Fld Z h7 a1 "com/example/buildwright/buildwright/engine/TestResult" "failed" "I" (.int p2) := Fld.other W7 F_failed_a1_5w (Or.inr (slot_ne (Or.inr (hw _ (List.mem_of_getElem? (i := 17) rfl))) (Or.inr (hw _ (List.mem_of_getElem? (i := 19) rfl))) (by decide) (t := .int) (t' := .int) (by decide) (by decide)))
  have F_cached_a1_7w : Fld Z h7 a1 "com/example/buildwright/buildwright/engine/TestResult" "cached" "I" (.int p3) := Fld.same W7 F_cached_a1_6
  have K7 : Keep h0 h7 [a1] := Keep.wr K5 W7 (Or.inl (List.mem_of_getElem? (i := 0) rfl))
  have N7 := Fr.snoc X7 N5 g_a1
  have Zs7 : n0 ≤ h7.size := by rw [W7.size]; exact Zs5
  show Go p e below _ (T7.setTop (mkF m 19 #[.val (.ref a1), .val (.int p1), .val (.int p2), .val (.int p3), .val (.int p4)] []))
  refine g_aloadN X7 hx (hb hby d1_19) 20 rfl (v := (.ref a1)) rfl rfl ?_
  refine g_iload X7 hx (hb hby d1_20) 22 rfl (v := p4) rfl ?_
  obtain ⟨T9, h9, X9, e9, W9, st9⟩ := putF X7 hx hZ hown (host := "") (Or.inl (hw _ (List.mem_of_getElem? (i := 20) rfl))) Via.refl e7 F_flaky_a1_8 E_a1_8 (Or.inr ⟨(hw _ (List.mem_of_getElem? (i := 21) rfl)), rfl, hnm⟩) (hw _ (List.mem_of_getElem? (i := 1) rfl)) (ty := .int) (by decide) rfl rfl (g := (mkF m 22 #[.val (.ref a1), .val (.int p1), .val (.int p2), .val (.int p3), .val (.int p4)] [(.int p4), (.ref a1)])) rfl rfl (hb hby d1_22)
  refine Go.st st9 ?_
  have E_a1_10 : Exa Z h9 a1 "com/example/buildwright/buildwright/engine/TestResult" := Exa.wr W9 E_a1_8
  have F_passed_a1_10 : Fld Z h9 a1 "com/example/buildwright/buildwright/engine/TestResult" "passed" "I" (.int p1) := Fld.other W9 F_passed_a1_8 (Or.inr (slot_ne (Or.inr (hw _ (List.mem_of_getElem? (i := 15) rfl))) (Or.inr (hw _ (List.mem_of_getElem? (i := 21) rfl))) (by decide) (t := .int) (t' := .int) (by decide) (by decide)))
  have F_failed_a1_10 : Fld Z h9 a1 "com/example/buildwright/buildwright/engine/TestResult" "failed" "I" (.int p2) := Fld.other W9 F_failed_a1_8 (Or.inr (slot_ne (Or.inr (hw _ (List.mem_of_getElem? (i := 17) rfl))) (Or.inr (hw _ (List.mem_of_getElem? (i := 21) rfl))) (by decide) (t := .int) (t' := .int) (by decide) (by decide)))
  have F_cached_a1_10 : Fld Z h9 a1 "com/example/buildwright/buildwright/engine/TestResult" "cached" "I" (.int p3) := Fld.other W9 F_cached_a1_7w (Or.inr (slot_ne (Or.inr (hw _ (List.mem_of_getElem? (i := 19) rfl))) (Or.inr (hw _ (List.mem_of_getElem? (i := 21) rfl))) (by decide) (t := .int) (t' := .int) (by decide) (by decide)))
  have F_flaky_a1_9w : Fld Z h9 a1 "com/example/buildwright/buildwright/engine/TestResult" "flaky" "I" (.int p4) := Fld.same W9 F_flaky_a1_8
  have K9 : Keep h0 h9 [a1] := Keep.wr K7 W9 (Or.inl (List.mem_of_getElem? (i := 0) rfl))
  have N9 := Fr.snoc X9 N7 g_a1
  have Zs9 : n0 ≤ h9.size := by rw [W9.size]; exact Zs7
  show Go p e below _ (T9.setTop (mkF m 25 #[.val (.ref a1), .val (.int p1), .val (.int p2), .val (.int p3), .val (.int p4)] []))
  refine Go.retV X9 hx hlk Bd.returns (hb hby d1_25) (by decide) (by decide) ?_
  show Q1 Z a1 p1 p2 p3 p4 u0 u1 u2 u3 h0 n0 _ T9.heap _
  rw [e9]
  exact ⟨rfl, N9, K9, E_a1_10, F_passed_a1_10, F_failed_a1_10, F_cached_a1_10, F_flaky_a1_9w⟩
theorem ef_4 (m : MethodId) (x0 : Addr) (x1 : Addr) : entryFrame m #[(.ref x0), (.ref x1)] 2 = mkF m 0 #[.val (.ref x0), .val (.ref x1)] [] := by first | (simp [entryFrame, mkF, argsToLocals, Value.category]; done) | rfl
theorem d4_0 : decode prog_26_method_2_code 0 = .ok (.new 8, 3) := by decide +kernel
theorem d4_3 : decode prog_26_method_2_code 3 = .ok (.dup, 1) := by decide +kernel
theorem d4_4 : decode prog_26_method_2_code 4 = .ok (.aload_n 0, 1) := by decide +kernel
theorem d4_5 : decode prog_26_method_2_code 5 = .ok (.getfield 7, 3) := by decide +kernel
theorem d4_8 : decode prog_26_method_2_code 8 = .ok (.aload_n 1, 1) := by decide +kernel
theorem d4_9 : decode prog_26_method_2_code 9 = .ok (.getfield 7, 3) := by decide +kernel
theorem d4_12 : decode prog_26_method_2_code 12 = .ok (.iadd, 1) := by decide +kernel
theorem d4_13 : decode prog_26_method_2_code 13 = .ok (.aload_n 0, 1) := by decide +kernel
theorem d4_14 : decode prog_26_method_2_code 14 = .ok (.getfield 13, 3) := by decide +kernel
theorem d4_17 : decode prog_26_method_2_code 17 = .ok (.aload_n 1, 1) := by decide +kernel
theorem d4_18 : decode prog_26_method_2_code 18 = .ok (.getfield 13, 3) := by decide +kernel
theorem d4_21 : decode prog_26_method_2_code 21 = .ok (.iadd, 1) := by decide +kernel
theorem d4_22 : decode prog_26_method_2_code 22 = .ok (.aload_n 0, 1) := by decide +kernel
theorem d4_23 : decode prog_26_method_2_code 23 = .ok (.getfield 16, 3) := by decide +kernel
theorem d4_26 : decode prog_26_method_2_code 26 = .ok (.aload_n 1, 1) := by decide +kernel
theorem d4_27 : decode prog_26_method_2_code 27 = .ok (.getfield 16, 3) := by decide +kernel
theorem d4_30 : decode prog_26_method_2_code 30 = .ok (.iadd, 1) := by decide +kernel
theorem d4_31 : decode prog_26_method_2_code 31 = .ok (.aload_n 0, 1) := by decide +kernel
theorem d4_32 : decode prog_26_method_2_code 32 = .ok (.getfield 19, 3) := by decide +kernel
theorem d4_35 : decode prog_26_method_2_code 35 = .ok (.aload_n 1, 1) := by decide +kernel
theorem d4_36 : decode prog_26_method_2_code 36 = .ok (.getfield 19, 3) := by decide +kernel
theorem d4_39 : decode prog_26_method_2_code 39 = .ok (.iadd, 1) := by decide +kernel
theorem own_pd1 : parseMethodDescriptor "(IIII)V" = some ⟨[.int, .int, .int, .int], none⟩ := by decide +kernel
theorem d4_40 : decode prog_26_method_2_code 40 = .ok (.invokespecial 22, 3) := by decide +kernel
theorem d4_43 : decode prog_26_method_2_code 43 = .ok (.areturn, 1) := by decide +kernel
def Q4 (Z : State) (a1 : Addr) (a2 : Addr) (x0 : Int32) (x1 : Int32) (x2 : Int32) (x3 : Int32) (y0 : Int32) (y1 : Int32) (y2 : Int32) (y3 : Int32) (h0 : Heap) (n0 : Nat) (v : Option Value) (h : Heap) (L : List Loc) : Prop := ∃ b : Addr, v = some (.ref b) ∧ Fr n0 L ∧ Keep h0 h [] ∧ h0.size ≤ b ∧ (Exa Z h b "com/example/buildwright/buildwright/engine/TestResult") ∧ (Fld Z h b "com/example/buildwright/buildwright/engine/TestResult" "passed" "I" (.int (x0 + y0))) ∧ (Fld Z h b "com/example/buildwright/buildwright/engine/TestResult" "failed" "I" (.int (x1 + y1))) ∧ (Fld Z h b "com/example/buildwright/buildwright/engine/TestResult" "cached" "I" (.int (x2 + y2))) ∧ (Fld Z h b "com/example/buildwright/buildwright/engine/TestResult" "flaky" "I" (.int (x3 + y3)))
set_option maxRecDepth 65536 in
set_option maxHeartbeats 40000000 in
theorem rm4 (l : Launch) (Z : State) (a0 : Array Value) (hw : ∀ d ∈ tables_1, d.before a0 Z = true) (ws : List Jvm.Cond) (a1 : Addr) (a2 : Addr) (x0 : Int32) (x1 : Int32) (x2 : Int32) (x3 : Int32) (y0 : Int32) (y1 : Int32) (y2 : Int32) (y3 : Int32) (h0 : Heap) (n0 : Nat) (Z0 : n0 ≤ h0.size) (F_passed_a1 : Fld Z h0 a1 "com/example/buildwright/buildwright/engine/TestResult" "passed" "I" (.int x0)) (F_failed_a1 : Fld Z h0 a1 "com/example/buildwright/buildwright/engine/TestResult" "failed" "I" (.int x1)) (F_cached_a1 : Fld Z h0 a1 "com/example/buildwright/buildwright/engine/TestResult" "cached" "I" (.int x2)) (F_flaky_a1 : Fld Z h0 a1 "com/example/buildwright/buildwright/engine/TestResult" "flaky" "I" (.int x3)) (F_passed_a2 : Fld Z h0 a2 "com/example/buildwright/buildwright/engine/TestResult" "passed" "I" (.int y0)) (F_failed_a2 : Fld Z h0 a2 "com/example/buildwright/buildwright/engine/TestResult" "failed" "I" (.int y1)) (F_cached_a2 : Fld Z h0 a2 "com/example/buildwright/buildwright/engine/TestResult" "cached" "I" (.int y2)) (F_flaky_a2 : Fld Z h0 a2 "com/example/buildwright/buildwright/engine/TestResult" "flaky" "I" (.int y3)) :
    MetFree l (⟨"com/example/buildwright/buildwright/engine/TestResult", "plus", "(Lcom/example/buildwright/buildwright/engine/TestResult;)Lcom/example/buildwright/buildwright/engine/TestResult;"⟩ : MethodName) (head1 (Jvm.Cond.code (⟨"com/example/buildwright/buildwright/engine/TestResult", "plus", "(Lcom/example/buildwright/buildwright/engine/TestResult;)Lcom/example/buildwright/buildwright/engine/TestResult;"⟩ : MethodName) prog_26_method_2_code 2 (some (.object "com/example/buildwright/buildwright/engine/TestResult")) :: ws) ({ frames := 3, cells := 1, slots := 4, locals := 41 } : Room)) (fun a U => a = #[(.ref a1), (.ref a2)] ∧ Z.Warmed39 U.vm ∧ U.heap = h0) (fun _ _ _ _ _ => True) (fun _ U o U' => ∃ v L, o = .returned v ∧ Q4 Z a1 a2 x0 x1 x2 x3 y0 y1 y2 y3 h0 n0 v U'.heap L ∧ FrameEnd U o U' L ({ frames := 3, cells := 1, slots := 4, locals := 41 } : Room).cells ({ frames := 3, cells := 1, slots := 4, locals := 41 } : Room).slots) := by
  refine MetFree.of_bodySF (plainFor_of_name own_pn_com_example_buildwright_buildwright_engine_TestResult) hisR ?_
  intro p e s m args below meth c s₁ Bd hml0 hP hK
  obtain ⟨rfl, hZ, hh⟩ := hP
  have hx := Bd.exec
  have hby := Bd.bytes
  have hlk := Bd.notSynchronized
  have hml : c.maxLocals = 2 := hml0
  have hown : s.vm.findClass "com/example/buildwright/buildwright/engine/TestResult" = some m.cls := findClass_of_methodNamed Bd.named
  have hnm := (name_of_methodNamed Bd.named Bd.method).1
  have X0 : Stand p l e ({ frames := 3, cells := 1, slots := 4, locals := 41 } : Room) s m #[(.ref a1), (.ref a2)] below meth c s₁ [] 0 0 := Stand.of_body Bd
  have e0 : s₁.heap = h0 := by rw [← hh, Bd.state]; rfl
  have N0 := Fr.nil n0
  have K0 : Keep h0 h0 [] := Keep.refl _ _
  show Go p e below (KQ s below (Q4 Z a1 a2 x0 x1 x2 x3 y0 y1 y2 y3 h0 n0) ({ frames := 3, cells := 1, slots := 4, locals := 41 } : Room).cells ({ frames := 3, cells := 1, slots := 4, locals := 41 } : Room).slots) _
  refine Go.body (T := s₁) (σ := s₁) (g' := (mkF m 0 #[.val (.ref a1), .val (.ref a2)] [])) (ef_4 m a1 a2) ?_
  obtain ⟨T11, h11, X11, e11, E11, A11, D11, -, st11⟩ := newO X0 hx hZ hown (hw _ (List.mem_of_getElem? (i := 27) rfl)) (hw _ (List.mem_of_getElem? (i := 1) rfl)) (hw _ (List.mem_of_getElem? (i := 2) rfl)) e0 (g := (mkF m 0 #[.val (.ref a1), .val (.ref a2)] [])) rfl (hb hby d4_0) (by decide) (by decide)
  refine Go.st st11 ?_
  obtain ⟨ob, q11⟩ : ∃ z, z = h0.size := ⟨_, rfl⟩
  rw [← q11] at A11 D11 ⊢
  have g_ob : n0 ≤ ob := Nat.le_trans Z0 (Nat.le_of_eq q11.symm)
  have mh_ob : h0.size ≤ ob := Nat.le_trans K0.1 (Nat.le_of_eq q11.symm)
  have F_passed_11 : Fld Z h11 ob "com/example/buildwright/buildwright/engine/TestResult" "passed" "I" (.int (0 : Int32)) := D11 (Or.inr (hw _ (List.mem_of_getElem? (i := 15) rfl))) (ty := .int) (by decide)
  have F_failed_11 : Fld Z h11 ob "com/example/buildwright/buildwright/engine/TestResult" "failed" "I" (.int (0 : Int32)) := D11 (Or.inr (hw _ (List.mem_of_getElem? (i := 17) rfl))) (ty := .int) (by decide)
  have F_cached_11 : Fld Z h11 ob "com/example/buildwright/buildwright/engine/TestResult" "cached" "I" (.int (0 : Int32)) := D11 (Or.inr (hw _ (List.mem_of_getElem? (i := 19) rfl))) (ty := .int) (by decide)
  have F_flaky_11 : Fld Z h11 ob "com/example/buildwright/buildwright/engine/TestResult" "flaky" "I" (.int (0 : Int32)) := D11 (Or.inr (hw _ (List.mem_of_getElem? (i := 21) rfl))) (ty := .int) (by decide)
  have K11 : Keep h0 h11 [] := Keep.ext K0 E11
  have Zs11 : n0 ≤ h11.size := Nat.le_trans Z0 E11.1
  show Go p e below _ (T11.setTop (mkF m 3 #[.val (.ref a1), .val (.ref a2)] [(.ref ob)]))
  refine g_dup X11 hx (hb hby d4_3) 4 rfl rfl ?_
  refine g_aloadN X11 hx (hb hby d4_4) 5 rfl (v := (.ref a1)) rfl rfl ?_
  obtain ⟨T13, X13, e13, st13⟩ := getF X11 hx hZ hown (host := "") (Or.inl (hw _ (List.mem_of_getElem? (i := 14) rfl))) Via.refl e11 (Fld.keep F_passed_a1 K11 nin0) (g := (mkF m 5 #[.val (.ref a1), .val (.ref a2)] [(.ref a1), (.ref ob), (.ref ob)])) rfl rfl (hb hby d4_5)
  refine Go.st st13 ?_
  show Go p e below _ (T13.setTop (mkF m 8 #[.val (.ref a1), .val (.ref a2)] [(.int x0), (.ref ob), (.ref ob)]))
  refine g_aloadN X13 hx (hb hby d4_8) 9 rfl (v := (.ref a2)) rfl rfl ?_
  obtain ⟨T14, X14, e14, st14⟩ := getF X13 hx hZ hown (host := "") (Or.inl (hw _ (List.mem_of_getElem? (i := 14) rfl))) Via.refl e13 (Fld.keep F_passed_a2 K11 nin0) (g := (mkF m 9 #[.val (.ref a1), .val (.ref a2)] [(.ref a2), (.int x0), (.ref ob), (.ref ob)])) rfl rfl (hb hby d4_9)
  refine Go.st st14 ?_
  show Go p e below _ (T14.setTop (mkF m 12 #[.val (.ref a1), .val (.ref a2)] [(.int y0), (.int x0), (.ref ob), (.ref ob)]))
  refine g_iadd X14 hx (hb hby d4_12) 13 rfl (x0 + y0) rfl ?_
  refine g_aloadN X14 hx (hb hby d4_13) 14 rfl (v := (.ref a1)) rfl rfl ?_
  obtain ⟨T15, X15, e15, st15⟩ := getF X14 hx hZ hown (host := "") (Or.inl (hw _ (List.mem_of_getElem? (i := 16) rfl))) Via.refl e14 (Fld.keep F_failed_a1 K11 nin0) (g := (mkF m 14 #[.val (.ref a1), .val (.ref a2)] [(.ref a1), (.int (x0 + y0)), (.ref ob), (.ref ob)])) rfl rfl (hb hby d4_14)
  refine Go.st st15 ?_
  show Go p e below _ (T15.setTop (mkF m 17 #[.val (.ref a1), .val (.ref a2)] [(.int x1), (.int (x0 + y0)), (.ref ob), (.ref ob)]))
  refine g_aloadN X15 hx (hb hby d4_17) 18 rfl (v := (.ref a2)) rfl rfl ?_
  obtain ⟨T16, X16, e16, st16⟩ := getF X15 hx hZ hown (host := "") (Or.inl (hw _ (List.mem_of_getElem? (i := 16) rfl))) Via.refl e15 (Fld.keep F_failed_a2 K11 nin0) (g := (mkF m 18 #[.val (.ref a1), .val (.ref a2)] [(.ref a2), (.int x1), (.int (x0 + y0)), (.ref ob), (.ref ob)])) rfl rfl (hb hby d4_18)
  refine Go.st st16 ?_
  show Go p e below _ (T16.setTop (mkF m 21 #[.val (.ref a1), .val (.ref a2)] [(.int y1), (.int x1), (.int (x0 + y0)), (.ref ob), (.ref ob)]))
  refine g_iadd X16 hx (hb hby d4_21) 22 rfl (x1 + y1) rfl ?_
  refine g_aloadN X16 hx (hb hby d4_22) 23 rfl (v := (.ref a1)) rfl rfl ?_
  obtain ⟨T17, X17, e17, st17⟩ := getF X16 hx hZ hown (host := "") (Or.inl (hw _ (List.mem_of_getElem? (i := 18) rfl))) Via.refl e16 (Fld.keep F_cached_a1 K11 nin0) (g := (mkF m 23 #[.val (.ref a1), .val (.ref a2)] [(.ref a1), (.int (x1 + y1)), (.int (x0 + y0)), (.ref ob), (.ref ob)])) rfl rfl (hb hby d4_23)
  refine Go.st st17 ?_
  show Go p e below _ (T17.setTop (mkF m 26 #[.val (.ref a1), .val (.ref a2)] [(.int x2), (.int (x1 + y1)), (.int (x0 + y0)), (.ref ob), (.ref ob)]))
  refine g_aloadN X17 hx (hb hby d4_26) 27 rfl (v := (.ref a2)) rfl rfl ?_
  obtain ⟨T18, X18, e18, st18⟩ := getF X17 hx hZ hown (host := "") (Or.inl (hw _ (List.mem_of_getElem? (i := 18) rfl))) Via.refl e17 (Fld.keep F_cached_a2 K11 nin0) (g := (mkF m 27 #[.val (.ref a1), .val (.ref a2)] [(.ref a2), (.int x2), (.int (x1 + y1)), (.int (x0 + y0)), (.ref ob), (.ref ob)])) rfl rfl (hb hby d4_27)
  refine Go.st st18 ?_
  show Go p e below _ (T18.setTop (mkF m 30 #[.val (.ref a1), .val (.ref a2)] [(.int y2), (.int x2), (.int (x1 + y1)), (.int (x0 + y0)), (.ref ob), (.ref ob)]))
  refine g_iadd X18 hx (hb hby d4_30) 31 rfl (x2 + y2) rfl ?_
  refine g_aloadN X18 hx (hb hby d4_31) 32 rfl (v := (.ref a1)) rfl rfl ?_
  obtain ⟨T19, X19, e19, st19⟩ := getF X18 hx hZ hown (host := "") (Or.inl (hw _ (List.mem_of_getElem? (i := 20) rfl))) Via.refl e18 (Fld.keep F_flaky_a1 K11 nin0) (g := (mkF m 32 #[.val (.ref a1), .val (.ref a2)] [(.ref a1), (.int (x2 + y2)), (.int (x1 + y1)), (.int (x0 + y0)), (.ref ob), (.ref ob)])) rfl rfl (hb hby d4_32)
  refine Go.st st19 ?_
  show Go p e below _ (T19.setTop (mkF m 35 #[.val (.ref a1), .val (.ref a2)] [(.int x3), (.int (x2 + y2)), (.int (x1 + y1)), (.int (x0 + y0)), (.ref ob), (.ref ob)]))
  refine g_aloadN X19 hx (hb hby d4_35) 36 rfl (v := (.ref a2)) rfl rfl ?_
  obtain ⟨T20, X20, e20, st20⟩ := getF X19 hx hZ hown (host := "") (Or.inl (hw _ (List.mem_of_getElem? (i := 20) rfl))) Via.refl e19 (Fld.keep F_flaky_a2 K11 nin0) (g := (mkF m 36 #[.val (.ref a1), .val (.ref a2)] [(.ref a2), (.int x3), (.int (x2 + y2)), (.int (x1 + y1)), (.int (x0 + y0)), (.ref ob), (.ref ob)])) rfl rfl (hb hby d4_36)
  refine Go.st st20 ?_
  show Go p e below _ (T20.setTop (mkF m 39 #[.val (.ref a1), .val (.ref a2)] [(.int y3), (.int x3), (.int (x2 + y2)), (.int (x1 + y1)), (.int (x0 + y0)), (.ref ob), (.ref ob)]))
  refine g_iadd X20 hx (hb hby d4_39) 40 rfl (x3 + y3) rfl ?_
  obtain ⟨_, _, ⟨T21, L21, k21, n21⟩, -, X21, ⟨Lc21, hQ21, l21, y21, z21⟩, st21⟩ := X20.specialBack hx (y := (⟨"com/example/buildwright/buildwright/engine/TestResult", "<init>", "(IIII)V"⟩ : MethodName)) rfl hown (mvT hZ (hw _ (List.mem_of_getElem? (i := 28) rfl))) (mvT hZ (hw _ (List.mem_of_getElem? (i := 4) rfl))) (mvT hZ (hw _ (List.mem_of_getElem? (i := 5) rfl))) (by decide) (backOf (W := 1) (rm1 l Z a0 hw [] ob (x0 + y0) (x1 + y1) (x2 + y2) (x3 + y3) (.int (0 : Int32)) (.int (0 : Int32)) (.int (0 : Int32)) (.int (0 : Int32)) h11 n0 Zs11 A11 g_ob F_passed_11 F_failed_11 F_cached_11 F_flaky_11) hZ (hw _ (List.mem_of_getElem? (i := 5) rfl)) (hw _ (List.mem_of_getElem? (i := 2) rfl)) (by decide) (by decide)) (g := (mkF m 40 #[.val (.ref a1), .val (.ref a2)] [(.int (x3 + y3)), (.int (x2 + y2)), (.int (x1 + y1)), (.int (x0 + y0)), (.ref ob), (.ref ob)])) rfl (by rw [hml]; rfl) (Steps.refl _) (a := ob) (argsL := [(.int (x0 + y0)), (.int (x1 + y1)), (.int (x2 + y2)), (.int (x3 + y3))]) (rest := [(.ref ob)]) (lenOf own_pd1 rfl) rfl (by show 2 * 0 + _ ≤ _; exact Nat.le_of_eq rfl) (hb hby d4_40) (fun _ _ => ⟨rfl, e20, (by decide : 1 + 0 ≤ _), (by decide : 4 + 0 ≤ _)⟩)
  dsimp only [Pt.U, Pt.locs, Pt.cells, Pt.slots] at X21 l21 y21 z21 st21 hQ21
  subst l21 y21 z21
  obtain ⟨rfl, Nq21, Kq21, f21_0, f21_1, f21_2, f21_3, f21_4⟩ := hQ21
  refine Go.tr st21 ?_
  have N21 := Fr.app N0 Nq21
  have E_ob_22 : Exa Z T21.heap ob "com/example/buildwright/buildwright/engine/TestResult" := Exa.keep A11 Kq21
  have K21 : Keep h0 T21.heap [] := Keep.trans K11 Kq21 (allS (Or.inr mh_ob) all0)
  have Zs21 : n0 ≤ T21.heap.size := Nat.le_trans Zs11 Kq21.1
  show Go p e below _ (T21.setTop (mkF m 43 #[.val (.ref a1), .val (.ref a2)] [(.ref ob)]))
  refine Go.retA X21 hx hlk Bd.returns rfl rfl (hb hby d4_43) (by decide) (by decide) ?_
  show Q4 Z a1 a2 x0 x1 x2 x3 y0 y1 y2 y3 h0 n0 _ T21.heap _
  exact ⟨ob, rfl, N21, K21, mh_ob, f21_0, f21_1, f21_2, f21_3, f21_4⟩
theorem ef_5 (m : MethodId) (x0 : Addr) : entryFrame m #[(.ref x0)] 1 = mkF m 0 #[.val (.ref x0)] [] := by first | (simp [entryFrame, mkF, argsToLocals, Value.category]; done) | rfl
theorem d5_0 : decode prog_26_method_7_code 0 = .ok (.aload_n 0, 1) := by decide +kernel
theorem d5_1 : decode prog_26_method_7_code 1 = .ok (.getfield 7, 3) := by decide +kernel
theorem d5_4 : decode prog_26_method_7_code 4 = .ok (.ireturn, 1) := by decide +kernel
def Q5 (Z : State) (a1 : Addr) (w : Int32) (h0 : Heap) (n0 : Nat) (v : Option Value) (h : Heap) (L : List Loc) : Prop := v = some (.int w) ∧ Fr n0 L ∧ h = h0
set_option maxRecDepth 65536 in
set_option maxHeartbeats 40000000 in
theorem rm5 (l : Launch) (Z : State) (a0 : Array Value) (hw : ∀ d ∈ tables_1, d.before a0 Z = true) (ws : List Jvm.Cond) (a1 : Addr) (w : Int32) (h0 : Heap) (n0 : Nat) (Z0 : n0 ≤ h0.size) (F_passed_a1 : Fld Z h0 a1 "com/example/buildwright/buildwright/engine/TestResult" "passed" "I" (.int w)) :
    MetFree l (⟨"com/example/buildwright/buildwright/engine/TestResult", "passed", "()I"⟩ : MethodName) (head1 (Jvm.Cond.code (⟨"com/example/buildwright/buildwright/engine/TestResult", "passed", "()I"⟩ : MethodName) prog_26_method_7_code 1 (some .int) :: ws) ({ frames := 0, cells := 0, slots := 0, locals := 0 } : Room)) (fun a U => a = #[(.ref a1)] ∧ Z.Warmed39 U.vm ∧ U.heap = h0) (fun _ _ _ _ _ => True) (fun _ U o U' => ∃ v L, o = .returned v ∧ Q5 Z a1 w h0 n0 v U'.heap L ∧ FrameEnd U o U' L ({ frames := 0, cells := 0, slots := 0, locals := 0 } : Room).cells ({ frames := 0, cells := 0, slots := 0, locals := 0 } : Room).slots) := by
  refine MetFree.of_bodySF (plainFor_of_name own_pn_com_example_buildwright_buildwright_engine_TestResult) hisR ?_
  intro p e s m args below meth c s₁ Bd hml0 hP hK
  obtain ⟨rfl, hZ, hh⟩ := hP
  have hx := Bd.exec
  have hby := Bd.bytes
  have hlk := Bd.notSynchronized
  have hml : c.maxLocals = 1 := hml0
  have hown : s.vm.findClass "com/example/buildwright/buildwright/engine/TestResult" = some m.cls := findClass_of_methodNamed Bd.named
  have hnm := (name_of_methodNamed Bd.named Bd.method).1
  have X0 : Stand p l e ({ frames := 0, cells := 0, slots := 0, locals := 0 } : Room) s m #[(.ref a1)] below meth c s₁ [] 0 0 := Stand.of_body Bd
  have e0 : s₁.heap = h0 := by rw [← hh, Bd.state]; rfl
  have N0 := Fr.nil n0
  show Go p e below (KQ s below (Q5 Z a1 w h0 n0) ({ frames := 0, cells := 0, slots := 0, locals := 0 } : Room).cells ({ frames := 0, cells := 0, slots := 0, locals := 0 } : Room).slots) _
  refine Go.body (T := s₁) (σ := s₁) (g' := (mkF m 0 #[.val (.ref a1)] [])) (ef_5 m a1) ?_
  refine g_aloadN X0 hx (hb hby d5_0) 1 rfl (v := (.ref a1)) rfl rfl ?_
  obtain ⟨T23, X23, e23, st23⟩ := getF X0 hx hZ hown (host := "") (Or.inl (hw _ (List.mem_of_getElem? (i := 14) rfl))) Via.refl e0 F_passed_a1 (g := (mkF m 1 #[.val (.ref a1)] [(.ref a1)])) rfl rfl (hb hby d5_1)
  refine Go.st st23 ?_
  show Go p e below _ (T23.setTop (mkF m 4 #[.val (.ref a1)] [(.int w)]))
  refine Go.retI X23 hx hlk Bd.returns (hb hby d5_4) (by decide) (by decide) ?_
  show Q5 Z a1 w h0 n0 _ T23.heap _
  rw [e23]
  exact ⟨rfl, N0, rfl⟩
theorem ef_6 (m : MethodId) (x0 : Addr) : entryFrame m #[(.ref x0)] 1 = mkF m 0 #[.val (.ref x0)] [] := by first | (simp [entryFrame, mkF, argsToLocals, Value.category]; done) | rfl
theorem d6_0 : decode prog_26_method_8_code 0 = .ok (.aload_n 0, 1) := by decide +kernel
theorem d6_1 : decode prog_26_method_8_code 1 = .ok (.getfield 13, 3) := by decide +kernel
theorem d6_4 : decode prog_26_method_8_code 4 = .ok (.ireturn, 1) := by decide +kernel
def Q6 (Z : State) (a1 : Addr) (w : Int32) (h0 : Heap) (n0 : Nat) (v : Option Value) (h : Heap) (L : List Loc) : Prop := v = some (.int w) ∧ Fr n0 L ∧ h = h0
set_option maxRecDepth 65536 in
set_option maxHeartbeats 40000000 in
theorem rm6 (l : Launch) (Z : State) (a0 : Array Value) (hw : ∀ d ∈ tables_1, d.before a0 Z = true) (ws : List Jvm.Cond) (a1 : Addr) (w : Int32) (h0 : Heap) (n0 : Nat) (Z0 : n0 ≤ h0.size) (F_failed_a1 : Fld Z h0 a1 "com/example/buildwright/buildwright/engine/TestResult" "failed" "I" (.int w)) :
    MetFree l (⟨"com/example/buildwright/buildwright/engine/TestResult", "failed", "()I"⟩ : MethodName) (head1 (Jvm.Cond.code (⟨"com/example/buildwright/buildwright/engine/TestResult", "failed", "()I"⟩ : MethodName) prog_26_method_8_code 1 (some .int) :: ws) ({ frames := 0, cells := 0, slots := 0, locals := 0 } : Room)) (fun a U => a = #[(.ref a1)] ∧ Z.Warmed39 U.vm ∧ U.heap = h0) (fun _ _ _ _ _ => True) (fun _ U o U' => ∃ v L, o = .returned v ∧ Q6 Z a1 w h0 n0 v U'.heap L ∧ FrameEnd U o U' L ({ frames := 0, cells := 0, slots := 0, locals := 0 } : Room).cells ({ frames := 0, cells := 0, slots := 0, locals := 0 } : Room).slots) := by
  refine MetFree.of_bodySF (plainFor_of_name own_pn_com_example_buildwright_buildwright_engine_TestResult) hisR ?_
  intro p e s m args below meth c s₁ Bd hml0 hP hK
  obtain ⟨rfl, hZ, hh⟩ := hP
  have hx := Bd.exec
  have hby := Bd.bytes
  have hlk := Bd.notSynchronized
  have hml : c.maxLocals = 1 := hml0
  have hown : s.vm.findClass "com/example/buildwright/buildwright/engine/TestResult" = some m.cls := findClass_of_methodNamed Bd.named
  have hnm := (name_of_methodNamed Bd.named Bd.method).1
  have X0 : Stand p l e ({ frames := 0, cells := 0, slots := 0, locals := 0 } : Room) s m #[(.ref a1)] below meth c s₁ [] 0 0 := Stand.of_body Bd
  have e0 : s₁.heap = h0 := by rw [← hh, Bd.state]; rfl
  have N0 := Fr.nil n0
  show Go p e below (KQ s below (Q6 Z a1 w h0 n0) ({ frames := 0, cells := 0, slots := 0, locals := 0 } : Room).cells ({ frames := 0, cells := 0, slots := 0, locals := 0 } : Room).slots) _
  refine Go.body (T := s₁) (σ := s₁) (g' := (mkF m 0 #[.val (.ref a1)] [])) (ef_6 m a1) ?_
  refine g_aloadN X0 hx (hb hby d6_0) 1 rfl (v := (.ref a1)) rfl rfl ?_
  obtain ⟨T24, X24, e24, st24⟩ := getF X0 hx hZ hown (host := "") (Or.inl (hw _ (List.mem_of_getElem? (i := 16) rfl))) Via.refl e0 F_failed_a1 (g := (mkF m 1 #[.val (.ref a1)] [(.ref a1)])) rfl rfl (hb hby d6_1)
  refine Go.st st24 ?_
  show Go p e below _ (T24.setTop (mkF m 4 #[.val (.ref a1)] [(.int w)]))
  refine Go.retI X24 hx hlk Bd.returns (hb hby d6_4) (by decide) (by decide) ?_
  show Q6 Z a1 w h0 n0 _ T24.heap _
  rw [e24]
  exact ⟨rfl, N0, rfl⟩
theorem ef_7 (m : MethodId) (x0 : Addr) : entryFrame m #[(.ref x0)] 1 = mkF m 0 #[.val (.ref x0)] [] := by first | (simp [entryFrame, mkF, argsToLocals, Value.category]; done) | rfl
theorem d7_0 : decode prog_26_method_9_code 0 = .ok (.aload_n 0, 1) := by decide +kernel
theorem d7_1 : decode prog_26_method_9_code 1 = .ok (.getfield 16, 3) := by decide +kernel
theorem d7_4 : decode prog_26_method_9_code 4 = .ok (.ireturn, 1) := by decide +kernel
def Q7 (Z : State) (a1 : Addr) (w : Int32) (h0 : Heap) (n0 : Nat) (v : Option Value) (h : Heap) (L : List Loc) : Prop := v = some (.int w) ∧ Fr n0 L ∧ h = h0
set_option maxRecDepth 65536 in
set_option maxHeartbeats 40000000 in
theorem rm7 (l : Launch) (Z : State) (a0 : Array Value) (hw : ∀ d ∈ tables_1, d.before a0 Z = true) (ws : List Jvm.Cond) (a1 : Addr) (w : Int32) (h0 : Heap) (n0 : Nat) (Z0 : n0 ≤ h0.size) (F_cached_a1 : Fld Z h0 a1 "com/example/buildwright/buildwright/engine/TestResult" "cached" "I" (.int w)) :
    MetFree l (⟨"com/example/buildwright/buildwright/engine/TestResult", "cached", "()I"⟩ : MethodName) (head1 (Jvm.Cond.code (⟨"com/example/buildwright/buildwright/engine/TestResult", "cached", "()I"⟩ : MethodName) prog_26_method_9_code 1 (some .int) :: ws) ({ frames := 0, cells := 0, slots := 0, locals := 0 } : Room)) (fun a U => a = #[(.ref a1)] ∧ Z.Warmed39 U.vm ∧ U.heap = h0) (fun _ _ _ _ _ => True) (fun _ U o U' => ∃ v L, o = .returned v ∧ Q7 Z a1 w h0 n0 v U'.heap L ∧ FrameEnd U o U' L ({ frames := 0, cells := 0, slots := 0, locals := 0 } : Room).cells ({ frames := 0, cells := 0, slots := 0, locals := 0 } : Room).slots) := by
  refine MetFree.of_bodySF (plainFor_of_name own_pn_com_example_buildwright_buildwright_engine_TestResult) hisR ?_
  intro p e s m args below meth c s₁ Bd hml0 hP hK
  obtain ⟨rfl, hZ, hh⟩ := hP
  have hx := Bd.exec
  have hby := Bd.bytes
  have hlk := Bd.notSynchronized
  have hml : c.maxLocals = 1 := hml0
  have hown : s.vm.findClass "com/example/buildwright/buildwright/engine/TestResult" = some m.cls := findClass_of_methodNamed Bd.named
  have hnm := (name_of_methodNamed Bd.named Bd.method).1
  have X0 : Stand p l e ({ frames := 0, cells := 0, slots := 0, locals := 0 } : Room) s m #[(.ref a1)] below meth c s₁ [] 0 0 := Stand.of_body Bd
  have e0 : s₁.heap = h0 := by rw [← hh, Bd.state]; rfl
  have N0 := Fr.nil n0
  show Go p e below (KQ s below (Q7 Z a1 w h0 n0) ({ frames := 0, cells := 0, slots := 0, locals := 0 } : Room).cells ({ frames := 0, cells := 0, slots := 0, locals := 0 } : Room).slots) _
  refine Go.body (T := s₁) (σ := s₁) (g' := (mkF m 0 #[.val (.ref a1)] [])) (ef_7 m a1) ?_
  refine g_aloadN X0 hx (hb hby d7_0) 1 rfl (v := (.ref a1)) rfl rfl ?_
  obtain ⟨T25, X25, e25, st25⟩ := getF X0 hx hZ hown (host := "") (Or.inl (hw _ (List.mem_of_getElem? (i := 18) rfl))) Via.refl e0 F_cached_a1 (g := (mkF m 1 #[.val (.ref a1)] [(.ref a1)])) rfl rfl (hb hby d7_1)
  refine Go.st st25 ?_
  show Go p e below _ (T25.setTop (mkF m 4 #[.val (.ref a1)] [(.int w)]))
  refine Go.retI X25 hx hlk Bd.returns (hb hby d7_4) (by decide) (by decide) ?_
  show Q7 Z a1 w h0 n0 _ T25.heap _
  rw [e25]
  exact ⟨rfl, N0, rfl⟩
theorem ef_8 (m : MethodId) (x0 : Addr) : entryFrame m #[(.ref x0)] 1 = mkF m 0 #[.val (.ref x0)] [] := by first | (simp [entryFrame, mkF, argsToLocals, Value.category]; done) | rfl
theorem d8_0 : decode prog_26_method_10_code 0 = .ok (.aload_n 0, 1) := by decide +kernel
theorem d8_1 : decode prog_26_method_10_code 1 = .ok (.getfield 19, 3) := by decide +kernel
theorem d8_4 : decode prog_26_method_10_code 4 = .ok (.ireturn, 1) := by decide +kernel
def Q8 (Z : State) (a1 : Addr) (w : Int32) (h0 : Heap) (n0 : Nat) (v : Option Value) (h : Heap) (L : List Loc) : Prop := v = some (.int w) ∧ Fr n0 L ∧ h = h0
set_option maxRecDepth 65536 in
set_option maxHeartbeats 40000000 in
theorem rm8 (l : Launch) (Z : State) (a0 : Array Value) (hw : ∀ d ∈ tables_1, d.before a0 Z = true) (ws : List Jvm.Cond) (a1 : Addr) (w : Int32) (h0 : Heap) (n0 : Nat) (Z0 : n0 ≤ h0.size) (F_flaky_a1 : Fld Z h0 a1 "com/example/buildwright/buildwright/engine/TestResult" "flaky" "I" (.int w)) :
    MetFree l (⟨"com/example/buildwright/buildwright/engine/TestResult", "flaky", "()I"⟩ : MethodName) (head1 (Jvm.Cond.code (⟨"com/example/buildwright/buildwright/engine/TestResult", "flaky", "()I"⟩ : MethodName) prog_26_method_10_code 1 (some .int) :: ws) ({ frames := 0, cells := 0, slots := 0, locals := 0 } : Room)) (fun a U => a = #[(.ref a1)] ∧ Z.Warmed39 U.vm ∧ U.heap = h0) (fun _ _ _ _ _ => True) (fun _ U o U' => ∃ v L, o = .returned v ∧ Q8 Z a1 w h0 n0 v U'.heap L ∧ FrameEnd U o U' L ({ frames := 0, cells := 0, slots := 0, locals := 0 } : Room).cells ({ frames := 0, cells := 0, slots := 0, locals := 0 } : Room).slots) := by
  refine MetFree.of_bodySF (plainFor_of_name own_pn_com_example_buildwright_buildwright_engine_TestResult) hisR ?_
  intro p e s m args below meth c s₁ Bd hml0 hP hK
  obtain ⟨rfl, hZ, hh⟩ := hP
  have hx := Bd.exec
  have hby := Bd.bytes
  have hlk := Bd.notSynchronized
  have hml : c.maxLocals = 1 := hml0
  have hown : s.vm.findClass "com/example/buildwright/buildwright/engine/TestResult" = some m.cls := findClass_of_methodNamed Bd.named
  have hnm := (name_of_methodNamed Bd.named Bd.method).1
  have X0 : Stand p l e ({ frames := 0, cells := 0, slots := 0, locals := 0 } : Room) s m #[(.ref a1)] below meth c s₁ [] 0 0 := Stand.of_body Bd
  have e0 : s₁.heap = h0 := by rw [← hh, Bd.state]; rfl
  have N0 := Fr.nil n0
  show Go p e below (KQ s below (Q8 Z a1 w h0 n0) ({ frames := 0, cells := 0, slots := 0, locals := 0 } : Room).cells ({ frames := 0, cells := 0, slots := 0, locals := 0 } : Room).slots) _
  refine Go.body (T := s₁) (σ := s₁) (g' := (mkF m 0 #[.val (.ref a1)] [])) (ef_8 m a1) ?_
  refine g_aloadN X0 hx (hb hby d8_0) 1 rfl (v := (.ref a1)) rfl rfl ?_
  obtain ⟨T26, X26, e26, st26⟩ := getF X0 hx hZ hown (host := "") (Or.inl (hw _ (List.mem_of_getElem? (i := 20) rfl))) Via.refl e0 F_flaky_a1 (g := (mkF m 1 #[.val (.ref a1)] [(.ref a1)])) rfl rfl (hb hby d8_1)
  refine Go.st st26 ?_
  show Go p e below _ (T26.setTop (mkF m 4 #[.val (.ref a1)] [(.int w)]))
  refine Go.retI X26 hx hlk Bd.returns (hb hby d8_4) (by decide) (by decide) ?_
  show Q8 Z a1 w h0 n0 _ T26.heap _
  rw [e26]
  exact ⟨rfl, N0, rfl⟩
theorem own_pn_com_example_buildwright_buildwright_engine_TestResultPlusPinLaw : plainName "com/example/buildwright/buildwright/engine/TestResultPlusPinLaw" = true := by first | (simp [plainName, overriddenIn]; done) | decide +kernel
theorem ef_0 (m : MethodId) (x0 : Int64) (x1 : Int64) (x2 : Int64) (x3 : Int64) : entryFrame m #[(.long x0), (.long x1), (.long x2), (.long x3)] maxLocals = mkF m 0 #[.val (.long x0), .second, .val (.long x1), .second, .val (.long x2), .second, .val (.long x3), .second, .unset, .unset, .unset, .unset, .unset, .unset, .unset, .unset, .unset, .unset, .unset] [] := by first | (simp [entryFrame, mkF, argsToLocals, Value.category, maxLocals]; done) | rfl
theorem own_pd2 : parseMethodDescriptor "(Lcom/example/buildwright/buildwright/engine/TestResult;)Lcom/example/buildwright/buildwright/engine/TestResult;" = some ⟨[(.object "com/example/buildwright/buildwright/engine/TestResult")], some (.object "com/example/buildwright/buildwright/engine/TestResult")⟩ := by decide +kernel
theorem own_pd3 : parseMethodDescriptor "()I" = some ⟨[], some .int⟩ := by decide +kernel
def Q0 (Z : State) (q1 : Int64) (q2 : Int64) (q3 : Int64) (q4 : Int64) (h0 : Heap) (n0 : Nat) (v : Option Value) (h : Heap) (L : List Loc) : Prop := v = some (.int (1 : Int32)) ∧ Fr n0 L
set_option maxRecDepth 65536 in
set_option maxHeartbeats 40000000 in
theorem rm0 (l : Launch) (Z : State) (a0 : Array Value) (hw : ∀ d ∈ tables_1, d.before a0 Z = true) (ws : List Jvm.Cond) (q1 : Int64) (q2 : Int64) (q3 : Int64) (q4 : Int64) (h0 : Heap) (n0 : Nat) (Z0 : n0 ≤ h0.size) (hn0 : h0.size = n0) :
    MetFree l x (head1 (Jvm.Cond.code x code maxLocals ret :: ws) room_1) (fun a U => a = #[(.long q1), (.long q2), (.long q3), (.long q4)] ∧ Z.Warmed39 U.vm ∧ U.heap = h0) (fun _ _ _ _ _ => True) (fun _ U o U' => ∃ v L, o = .returned v ∧ Q0 Z q1 q2 q3 q4 h0 n0 v U'.heap L ∧ FrameEnd U o U' L 16 128) := by
  refine MetFree.of_bodySF (plainFor_of_name own_pn_com_example_buildwright_buildwright_engine_TestResultPlusPinLaw) hisR ?_
  intro p e s m args below meth c s₁ Bd hml0 hP hK
  obtain ⟨rfl, hZ, hh⟩ := hP
  have hx := Bd.exec
  have hby := Bd.bytes
  have hlk := Bd.notSynchronized
  have hml : c.maxLocals = 19 := hml0
  have hown : s.vm.findClass "com/example/buildwright/buildwright/engine/TestResultPlusPinLaw" = some m.cls := findClass_of_methodNamed Bd.named
  have hnm := (name_of_methodNamed Bd.named Bd.method).1
  have X0 : Stand p l e room_1 s m #[(.long q1), (.long q2), (.long q3), (.long q4)] below meth c s₁ [] 0 0 := Stand.of_body Bd
  have e0 : s₁.heap = h0 := by rw [← hh, Bd.state]; rfl
  have N0 := Fr.nil n0
  have K0 : Keep h0 h0 [] := Keep.refl _ _
  show Go p e below (KQ s below (Q0 Z q1 q2 q3 q4 h0 n0) 16 128) _
  refine Go.body (T := s₁) (σ := s₁) (g' := (mkF m 0 #[.val (.long q1), .second, .val (.long q2), .second, .val (.long q3), .second, .val (.long q4), .second, .unset, .unset, .unset, .unset, .unset, .unset, .unset, .unset, .unset, .unset, .unset] [])) (ef_0 m q1 q2 q3 q4) ?_
  refine g_lloadN X0 hx (hb hby at_0) 1 rfl (v := q1) rfl ?_
  obtain ⟨a1, e_a1⟩ : ∃ z, q1.toInt32 = z := ⟨_, rfl⟩
  refine g_l2i X0 hx (hb hby at_1) 2 rfl a1 e_a1 ?_
  refine g_istore X0 hx (hb hby at_2) 4 rfl #[.val (.long q1), .second, .val (.long q2), .second, .val (.long q3), .second, .val (.long q4), .second, .val (.int a1), .unset, .unset, .unset, .unset, .unset, .unset, .unset, .unset, .unset, .unset] rfl ?_
  refine g_lloadN X0 hx (hb hby at_4) 5 rfl (v := q1) rfl ?_
  refine g_bipush X0 hx (hb hby at_5) 7 rfl (32 : Int32) rfl ?_
  refine g_lushr X0 hx (hb hby at_7) 8 rfl (XT.ushrL q1 (32 : Int32)) rfl ?_
  obtain ⟨a2, e_a2⟩ : ∃ z, (XT.ushrL q1 (32 : Int32)).toInt32 = z := ⟨_, rfl⟩
  refine g_l2i X0 hx (hb hby at_8) 9 rfl a2 e_a2 ?_
  refine g_istore X0 hx (hb hby at_9) 11 rfl #[.val (.long q1), .second, .val (.long q2), .second, .val (.long q3), .second, .val (.long q4), .second, .val (.int a1), .val (.int a2), .unset, .unset, .unset, .unset, .unset, .unset, .unset, .unset, .unset] rfl ?_
  refine g_lloadN X0 hx (hb hby at_11) 12 rfl (v := q2) rfl ?_
  obtain ⟨a3, e_a3⟩ : ∃ z, q2.toInt32 = z := ⟨_, rfl⟩
  refine g_l2i X0 hx (hb hby at_12) 13 rfl a3 e_a3 ?_
  refine g_istore X0 hx (hb hby at_13) 15 rfl #[.val (.long q1), .second, .val (.long q2), .second, .val (.long q3), .second, .val (.long q4), .second, .val (.int a1), .val (.int a2), .val (.int a3), .unset, .unset, .unset, .unset, .unset, .unset, .unset, .unset] rfl ?_
  refine g_lloadN X0 hx (hb hby at_15) 16 rfl (v := q2) rfl ?_
  refine g_bipush X0 hx (hb hby at_16) 18 rfl (32 : Int32) rfl ?_
  refine g_lushr X0 hx (hb hby at_18) 19 rfl (XT.ushrL q2 (32 : Int32)) rfl ?_
  obtain ⟨a4, e_a4⟩ : ∃ z, (XT.ushrL q2 (32 : Int32)).toInt32 = z := ⟨_, rfl⟩
  refine g_l2i X0 hx (hb hby at_19) 20 rfl a4 e_a4 ?_
  refine g_istore X0 hx (hb hby at_20) 22 rfl #[.val (.long q1), .second, .val (.long q2), .second, .val (.long q3), .second, .val (.long q4), .second, .val (.int a1), .val (.int a2), .val (.int a3), .val (.int a4), .unset, .unset, .unset, .unset, .unset, .unset, .unset] rfl ?_
  refine g_lload X0 hx (hb hby at_22) 24 rfl (v := q3) rfl ?_
  obtain ⟨b1, e_b1⟩ : ∃ z, q3.toInt32 = z := ⟨_, rfl⟩
  refine g_l2i X0 hx (hb hby at_24) 25 rfl b1 e_b1 ?_
  refine g_istore X0 hx (hb hby at_25) 27 rfl #[.val (.long q1), .second, .val (.long q2), .second, .val (.long q3), .second, .val (.long q4), .second, .val (.int a1), .val (.int a2), .val (.int a3), .val (.int a4), .val (.int b1), .unset, .unset, .unset, .unset, .unset, .unset] rfl ?_
  refine g_lload X0 hx (hb hby at_27) 29 rfl (v := q3) rfl ?_
  refine g_bipush X0 hx (hb hby at_29) 31 rfl (32 : Int32) rfl ?_
  refine g_lushr X0 hx (hb hby at_31) 32 rfl (XT.ushrL q3 (32 : Int32)) rfl ?_
  obtain ⟨b2, e_b2⟩ : ∃ z, (XT.ushrL q3 (32 : Int32)).toInt32 = z := ⟨_, rfl⟩
  refine g_l2i X0 hx (hb hby at_32) 33 rfl b2 e_b2 ?_
  refine g_istore X0 hx (hb hby at_33) 35 rfl #[.val (.long q1), .second, .val (.long q2), .second, .val (.long q3), .second, .val (.long q4), .second, .val (.int a1), .val (.int a2), .val (.int a3), .val (.int a4), .val (.int b1), .val (.int b2), .unset, .unset, .unset, .unset, .unset] rfl ?_
  refine g_lload X0 hx (hb hby at_35) 37 rfl (v := q4) rfl ?_
  obtain ⟨b3, e_b3⟩ : ∃ z, q4.toInt32 = z := ⟨_, rfl⟩
  refine g_l2i X0 hx (hb hby at_37) 38 rfl b3 e_b3 ?_
  refine g_istore X0 hx (hb hby at_38) 40 rfl #[.val (.long q1), .second, .val (.long q2), .second, .val (.long q3), .second, .val (.long q4), .second, .val (.int a1), .val (.int a2), .val (.int a3), .val (.int a4), .val (.int b1), .val (.int b2), .val (.int b3), .unset, .unset, .unset, .unset] rfl ?_
  refine g_lload X0 hx (hb hby at_40) 42 rfl (v := q4) rfl ?_
  refine g_bipush X0 hx (hb hby at_42) 44 rfl (32 : Int32) rfl ?_
  refine g_lushr X0 hx (hb hby at_44) 45 rfl (XT.ushrL q4 (32 : Int32)) rfl ?_
  obtain ⟨b4, e_b4⟩ : ∃ z, (XT.ushrL q4 (32 : Int32)).toInt32 = z := ⟨_, rfl⟩
  refine g_l2i X0 hx (hb hby at_45) 46 rfl b4 e_b4 ?_
  refine g_istore X0 hx (hb hby at_46) 48 rfl #[.val (.long q1), .second, .val (.long q2), .second, .val (.long q3), .second, .val (.long q4), .second, .val (.int a1), .val (.int a2), .val (.int a3), .val (.int a4), .val (.int b1), .val (.int b2), .val (.int b3), .val (.int b4), .unset, .unset, .unset] rfl ?_
  obtain ⟨T27, h27, X27, e27, E27, A27, D27, -, st27⟩ := newO X0 hx hZ hown (hw _ (List.mem_of_getElem? (i := 0) rfl)) (hw _ (List.mem_of_getElem? (i := 1) rfl)) (hw _ (List.mem_of_getElem? (i := 2) rfl)) e0 (g := (mkF m 48 #[.val (.long q1), .second, .val (.long q2), .second, .val (.long q3), .second, .val (.long q4), .second, .val (.int a1), .val (.int a2), .val (.int a3), .val (.int a4), .val (.int b1), .val (.int b2), .val (.int b3), .val (.int b4), .unset, .unset, .unset] [])) rfl (hb hby at_48) (by decide) (by decide)
  refine Go.st st27 ?_
  obtain ⟨o27, q27⟩ : ∃ z, z = h0.size := ⟨_, rfl⟩
  rw [← q27] at A27 D27 ⊢
  have g_o27 : n0 ≤ o27 := Nat.le_trans Z0 (Nat.le_of_eq q27.symm)
  have mh_o27 : h0.size ≤ o27 := Nat.le_trans K0.1 (Nat.le_of_eq q27.symm)
  have F_passed_27 : Fld Z h27 o27 "com/example/buildwright/buildwright/engine/TestResult" "passed" "I" (.int (0 : Int32)) := D27 (Or.inr (hw _ (List.mem_of_getElem? (i := 15) rfl))) (ty := .int) (by decide)
  have F_failed_27 : Fld Z h27 o27 "com/example/buildwright/buildwright/engine/TestResult" "failed" "I" (.int (0 : Int32)) := D27 (Or.inr (hw _ (List.mem_of_getElem? (i := 17) rfl))) (ty := .int) (by decide)
  have F_cached_27 : Fld Z h27 o27 "com/example/buildwright/buildwright/engine/TestResult" "cached" "I" (.int (0 : Int32)) := D27 (Or.inr (hw _ (List.mem_of_getElem? (i := 19) rfl))) (ty := .int) (by decide)
  have F_flaky_27 : Fld Z h27 o27 "com/example/buildwright/buildwright/engine/TestResult" "flaky" "I" (.int (0 : Int32)) := D27 (Or.inr (hw _ (List.mem_of_getElem? (i := 21) rfl))) (ty := .int) (by decide)
  have K27 : Keep h0 h27 [] := Keep.ext K0 E27
  have Zs27 : n0 ≤ h27.size := Nat.le_trans Z0 E27.1
  show Go p e below _ (T27.setTop (mkF m 51 #[.val (.long q1), .second, .val (.long q2), .second, .val (.long q3), .second, .val (.long q4), .second, .val (.int a1), .val (.int a2), .val (.int a3), .val (.int a4), .val (.int b1), .val (.int b2), .val (.int b3), .val (.int b4), .unset, .unset, .unset] [(.ref o27)]))
  refine g_dup X27 hx (hb hby at_51) 52 rfl rfl ?_
  refine g_iload X27 hx (hb hby at_52) 54 rfl (v := a1) rfl ?_
  refine g_iload X27 hx (hb hby at_54) 56 rfl (v := a2) rfl ?_
  refine g_iload X27 hx (hb hby at_56) 58 rfl (v := a3) rfl ?_
  refine g_iload X27 hx (hb hby at_58) 60 rfl (v := a4) rfl ?_
  obtain ⟨_, _, ⟨T29, L29, k29, n29⟩, -, X29, ⟨Lc29, hQ29, l29, y29, z29⟩, st29⟩ := X27.specialBack hx (y := (⟨"com/example/buildwright/buildwright/engine/TestResult", "<init>", "(IIII)V"⟩ : MethodName)) rfl hown (mvT hZ (hw _ (List.mem_of_getElem? (i := 3) rfl))) (mvT hZ (hw _ (List.mem_of_getElem? (i := 4) rfl))) (mvT hZ (hw _ (List.mem_of_getElem? (i := 5) rfl))) (by decide) (backOf (W := 1) (rm1 l Z a0 hw [] o27 a1 a2 a3 a4 (.int (0 : Int32)) (.int (0 : Int32)) (.int (0 : Int32)) (.int (0 : Int32)) h27 n0 Zs27 A27 g_o27 F_passed_27 F_failed_27 F_cached_27 F_flaky_27) hZ (hw _ (List.mem_of_getElem? (i := 5) rfl)) (hw _ (List.mem_of_getElem? (i := 2) rfl)) (by decide) (by decide)) (g := (mkF m 60 #[.val (.long q1), .second, .val (.long q2), .second, .val (.long q3), .second, .val (.long q4), .second, .val (.int a1), .val (.int a2), .val (.int a3), .val (.int a4), .val (.int b1), .val (.int b2), .val (.int b3), .val (.int b4), .unset, .unset, .unset] [(.int a4), (.int a3), (.int a2), (.int a1), (.ref o27), (.ref o27)])) rfl (by rw [hml]; rfl) (Steps.refl _) (a := o27) (argsL := [(.int a1), (.int a2), (.int a3), (.int a4)]) (rest := [(.ref o27)]) (lenOf own_pd1 rfl) rfl (by show 2 * 0 + _ ≤ _; exact Nat.le_of_eq rfl) (hb hby at_60) (fun _ _ => ⟨rfl, e27, (by decide : 1 + 0 ≤ _), (by decide : 4 + 0 ≤ _)⟩)
  dsimp only [Pt.U, Pt.locs, Pt.cells, Pt.slots] at X29 l29 y29 z29 st29 hQ29
  subst l29 y29 z29
  obtain ⟨rfl, Nq29, Kq29, f29_0, f29_1, f29_2, f29_3, f29_4⟩ := hQ29
  refine Go.tr st29 ?_
  have N29 := Fr.app N0 Nq29
  have E_o27_30 : Exa Z T29.heap o27 "com/example/buildwright/buildwright/engine/TestResult" := Exa.keep A27 Kq29
  have K29 : Keep h0 T29.heap [] := Keep.trans K27 Kq29 (allS (Or.inr mh_o27) all0)
  have Zs29 : n0 ≤ T29.heap.size := Nat.le_trans Zs27 Kq29.1
  show Go p e below _ (T29.setTop (mkF m 63 #[.val (.long q1), .second, .val (.long q2), .second, .val (.long q3), .second, .val (.long q4), .second, .val (.int a1), .val (.int a2), .val (.int a3), .val (.int a4), .val (.int b1), .val (.int b2), .val (.int b3), .val (.int b4), .unset, .unset, .unset] [(.ref o27)]))
  refine g_astore X29 hx (hb hby at_63) 65 rfl rfl #[.val (.long q1), .second, .val (.long q2), .second, .val (.long q3), .second, .val (.long q4), .second, .val (.int a1), .val (.int a2), .val (.int a3), .val (.int a4), .val (.int b1), .val (.int b2), .val (.int b3), .val (.int b4), .val (.ref o27), .unset, .unset] rfl ?_
  obtain ⟨T31, h31, X31, e31, E31, A31, D31, -, st31⟩ := newO X29 hx hZ hown (hw _ (List.mem_of_getElem? (i := 0) rfl)) (hw _ (List.mem_of_getElem? (i := 1) rfl)) (hw _ (List.mem_of_getElem? (i := 2) rfl)) rfl (g := (mkF m 65 #[.val (.long q1), .second, .val (.long q2), .second, .val (.long q3), .second, .val (.long q4), .second, .val (.int a1), .val (.int a2), .val (.int a3), .val (.int a4), .val (.int b1), .val (.int b2), .val (.int b3), .val (.int b4), .val (.ref o27), .unset, .unset] [])) rfl (hb hby at_65) (by decide) (by decide)
  refine Go.st st31 ?_
  obtain ⟨o31, q31⟩ : ∃ z, z = T29.heap.size := ⟨_, rfl⟩
  rw [← q31] at A31 D31 ⊢
  have ne_o27_o31 : o27 ≠ o31 := Nat.ne_of_lt (Nat.lt_of_lt_of_eq f29_0.lt q31.symm)
  have g_o31 : n0 ≤ o31 := Nat.le_trans Zs29 (Nat.le_of_eq q31.symm)
  have mh_o31 : h0.size ≤ o31 := Nat.le_trans K29.1 (Nat.le_of_eq q31.symm)
  have E_o27_32 : Exa Z h31 o27 "com/example/buildwright/buildwright/engine/TestResult" := Exa.ext E31 f29_0
  have F_passed_o27_32 : Fld Z h31 o27 "com/example/buildwright/buildwright/engine/TestResult" "passed" "I" (.int a1) := Fld.ext E31 f29_1
  have F_failed_o27_32 : Fld Z h31 o27 "com/example/buildwright/buildwright/engine/TestResult" "failed" "I" (.int a2) := Fld.ext E31 f29_2
  have F_cached_o27_32 : Fld Z h31 o27 "com/example/buildwright/buildwright/engine/TestResult" "cached" "I" (.int a3) := Fld.ext E31 f29_3
  have F_flaky_o27_32 : Fld Z h31 o27 "com/example/buildwright/buildwright/engine/TestResult" "flaky" "I" (.int a4) := Fld.ext E31 f29_4
  have F_passed_31 : Fld Z h31 o31 "com/example/buildwright/buildwright/engine/TestResult" "passed" "I" (.int (0 : Int32)) := D31 (Or.inr (hw _ (List.mem_of_getElem? (i := 15) rfl))) (ty := .int) (by decide)
  have F_failed_31 : Fld Z h31 o31 "com/example/buildwright/buildwright/engine/TestResult" "failed" "I" (.int (0 : Int32)) := D31 (Or.inr (hw _ (List.mem_of_getElem? (i := 17) rfl))) (ty := .int) (by decide)
  have F_cached_31 : Fld Z h31 o31 "com/example/buildwright/buildwright/engine/TestResult" "cached" "I" (.int (0 : Int32)) := D31 (Or.inr (hw _ (List.mem_of_getElem? (i := 19) rfl))) (ty := .int) (by decide)
  have F_flaky_31 : Fld Z h31 o31 "com/example/buildwright/buildwright/engine/TestResult" "flaky" "I" (.int (0 : Int32)) := D31 (Or.inr (hw _ (List.mem_of_getElem? (i := 21) rfl))) (ty := .int) (by decide)
  have K31 : Keep h0 h31 [] := Keep.ext K29 E31
  have Zs31 : n0 ≤ h31.size := Nat.le_trans Zs29 E31.1
  show Go p e below _ (T31.setTop (mkF m 68 #[.val (.long q1), .second, .val (.long q2), .second, .val (.long q3), .second, .val (.long q4), .second, .val (.int a1), .val (.int a2), .val (.int a3), .val (.int a4), .val (.int b1), .val (.int b2), .val (.int b3), .val (.int b4), .val (.ref o27), .unset, .unset] [(.ref o31)]))
  refine g_dup X31 hx (hb hby at_68) 69 rfl rfl ?_
  refine g_iload X31 hx (hb hby at_69) 71 rfl (v := b1) rfl ?_
  refine g_iload X31 hx (hb hby at_71) 73 rfl (v := b2) rfl ?_
  refine g_iload X31 hx (hb hby at_73) 75 rfl (v := b3) rfl ?_
  refine g_iload X31 hx (hb hby at_75) 77 rfl (v := b4) rfl ?_
  obtain ⟨_, _, ⟨T33, L33, k33, n33⟩, -, X33, ⟨Lc33, hQ33, l33, y33, z33⟩, st33⟩ := X31.specialBack hx (y := (⟨"com/example/buildwright/buildwright/engine/TestResult", "<init>", "(IIII)V"⟩ : MethodName)) rfl hown (mvT hZ (hw _ (List.mem_of_getElem? (i := 3) rfl))) (mvT hZ (hw _ (List.mem_of_getElem? (i := 4) rfl))) (mvT hZ (hw _ (List.mem_of_getElem? (i := 5) rfl))) (by decide) (backOf (W := 1) (rm1 l Z a0 hw [] o31 b1 b2 b3 b4 (.int (0 : Int32)) (.int (0 : Int32)) (.int (0 : Int32)) (.int (0 : Int32)) h31 n0 Zs31 A31 g_o31 F_passed_31 F_failed_31 F_cached_31 F_flaky_31) hZ (hw _ (List.mem_of_getElem? (i := 5) rfl)) (hw _ (List.mem_of_getElem? (i := 2) rfl)) (by decide) (by decide)) (g := (mkF m 77 #[.val (.long q1), .second, .val (.long q2), .second, .val (.long q3), .second, .val (.long q4), .second, .val (.int a1), .val (.int a2), .val (.int a3), .val (.int a4), .val (.int b1), .val (.int b2), .val (.int b3), .val (.int b4), .val (.ref o27), .unset, .unset] [(.int b4), (.int b3), (.int b2), (.int b1), (.ref o31), (.ref o31)])) rfl (by rw [hml]; rfl) (Steps.refl _) (a := o31) (argsL := [(.int b1), (.int b2), (.int b3), (.int b4)]) (rest := [(.ref o31)]) (lenOf own_pd1 rfl) rfl (by show 2 * 0 + _ ≤ _; exact Nat.le_of_eq rfl) (hb hby at_77) (fun _ _ => ⟨rfl, e31, (by decide : 2 + 0 ≤ _), (by decide : 8 + 0 ≤ _)⟩)
  dsimp only [Pt.U, Pt.locs, Pt.cells, Pt.slots] at X33 l33 y33 z33 st33 hQ33
  subst l33 y33 z33
  obtain ⟨rfl, Nq33, Kq33, f33_0, f33_1, f33_2, f33_3, f33_4⟩ := hQ33
  refine Go.tr st33 ?_
  have N33 := Fr.app N29 Nq33
  have E_o27_34 : Exa Z T33.heap o27 "com/example/buildwright/buildwright/engine/TestResult" := Exa.keep E_o27_32 Kq33
  have F_passed_o27_34 : Fld Z T33.heap o27 "com/example/buildwright/buildwright/engine/TestResult" "passed" "I" (.int a1) := Fld.keep F_passed_o27_32 Kq33 (ninS ne_o27_o31 nin0)
  have F_failed_o27_34 : Fld Z T33.heap o27 "com/example/buildwright/buildwright/engine/TestResult" "failed" "I" (.int a2) := Fld.keep F_failed_o27_32 Kq33 (ninS ne_o27_o31 nin0)
  have F_cached_o27_34 : Fld Z T33.heap o27 "com/example/buildwright/buildwright/engine/TestResult" "cached" "I" (.int a3) := Fld.keep F_cached_o27_32 Kq33 (ninS ne_o27_o31 nin0)
  have F_flaky_o27_34 : Fld Z T33.heap o27 "com/example/buildwright/buildwright/engine/TestResult" "flaky" "I" (.int a4) := Fld.keep F_flaky_o27_32 Kq33 (ninS ne_o27_o31 nin0)
  have E_o31_34 : Exa Z T33.heap o31 "com/example/buildwright/buildwright/engine/TestResult" := Exa.keep A31 Kq33
  have K33 : Keep h0 T33.heap [] := Keep.trans K31 Kq33 (allS (Or.inr mh_o31) all0)
  have Zs33 : n0 ≤ T33.heap.size := Nat.le_trans Zs31 Kq33.1
  show Go p e below _ (T33.setTop (mkF m 80 #[.val (.long q1), .second, .val (.long q2), .second, .val (.long q3), .second, .val (.long q4), .second, .val (.int a1), .val (.int a2), .val (.int a3), .val (.int a4), .val (.int b1), .val (.int b2), .val (.int b3), .val (.int b4), .val (.ref o27), .unset, .unset] [(.ref o31)]))
  refine g_astore X33 hx (hb hby at_80) 82 rfl rfl #[.val (.long q1), .second, .val (.long q2), .second, .val (.long q3), .second, .val (.long q4), .second, .val (.int a1), .val (.int a2), .val (.int a3), .val (.int a4), .val (.int b1), .val (.int b2), .val (.int b3), .val (.int b4), .val (.ref o27), .val (.ref o31), .unset] rfl ?_
  refine g_aload X33 hx (hb hby at_82) 84 rfl (v := (.ref o27)) rfl rfl ?_
  refine g_aload X33 hx (hb hby at_84) 86 rfl (v := (.ref o31)) rfl rfl ?_
  obtain ⟨cq35, kq35, q35a, q35b, q35c⟩ := isOf hZ rfl E_o27_34
  obtain ⟨_, _, ⟨T35, L35, k35, n35⟩, -, X35, ⟨Lc35, hQ35, l35, y35, z35⟩, st35⟩ := X33.virtualBack hx (y := (⟨"com/example/buildwright/buildwright/engine/TestResult", "plus", "(Lcom/example/buildwright/buildwright/engine/TestResult;)Lcom/example/buildwright/buildwright/engine/TestResult;"⟩ : MethodName)) (z := (⟨"com/example/buildwright/buildwright/engine/TestResult", "plus", "(Lcom/example/buildwright/buildwright/engine/TestResult;)Lcom/example/buildwright/buildwright/engine/TestResult;"⟩ : MethodName)) hown (mvT hZ (hw _ (List.mem_of_getElem? (i := 22) rfl))) (mvT hZ (hw _ (List.mem_of_getElem? (i := 23) rfl))) (notFace_of_selects (args := #[]) (mvT hZ (hw _ (List.mem_of_getElem? (i := 25) rfl)))) (mvT hZ (hw _ (List.mem_of_getElem? (i := 25) rfl))) (mvT hZ (hw _ (List.mem_of_getElem? (i := 24) rfl))) (by decide) (backOf (W := 0) (rm4 l Z a0 hw [] o27 o31 a1 a2 a3 a4 b1 b2 b3 b4 T33.heap n0 Zs33 F_passed_o27_34 F_failed_o27_34 F_cached_o27_34 F_flaky_o27_34 f33_1 f33_2 f33_3 f33_4) hZ (hw _ (List.mem_of_getElem? (i := 26) rfl)) (hw _ (List.mem_of_getElem? (i := 2) rfl)) (by decide) (by decide)) q35a q35c (g := (mkF m 86 #[.val (.long q1), .second, .val (.long q2), .second, .val (.long q3), .second, .val (.long q4), .second, .val (.int a1), .val (.int a2), .val (.int a3), .val (.int a4), .val (.int b1), .val (.int b2), .val (.int b3), .val (.int b4), .val (.ref o27), .val (.ref o31), .unset] [(.ref o31), (.ref o27)])) rfl (by rw [hml]; rfl) (Steps.refl _) (argsL := [(.ref o31)]) (rest := []) (lenOf own_pd2 rfl) rfl (by show 2 * 0 + _ ≤ _; exact Nat.le_of_eq rfl) (hb hby at_86) (fun _ _ => ⟨rfl, rfl, (by decide : 2 + 1 ≤ _), (by decide : 8 + 4 ≤ _)⟩)
  dsimp only [Pt.U, Pt.locs, Pt.cells, Pt.slots] at X35 l35 y35 z35 st35 hQ35
  subst l35 y35 z35
  obtain ⟨b_35, rfl, Nq35, Kq35, f35_0, f35_1, f35_2, f35_3, f35_4, f35_5⟩ := hQ35
  refine Go.tr st35 ?_
  have N35 := Fr.app N33 Nq35
  have E_o27_36 : Exa Z T35.heap o27 "com/example/buildwright/buildwright/engine/TestResult" := Exa.keep E_o27_34 Kq35
  have F_passed_o27_36 : Fld Z T35.heap o27 "com/example/buildwright/buildwright/engine/TestResult" "passed" "I" (.int a1) := Fld.keep F_passed_o27_34 Kq35 nin0
  have F_failed_o27_36 : Fld Z T35.heap o27 "com/example/buildwright/buildwright/engine/TestResult" "failed" "I" (.int a2) := Fld.keep F_failed_o27_34 Kq35 nin0
  have F_cached_o27_36 : Fld Z T35.heap o27 "com/example/buildwright/buildwright/engine/TestResult" "cached" "I" (.int a3) := Fld.keep F_cached_o27_34 Kq35 nin0
  have F_flaky_o27_36 : Fld Z T35.heap o27 "com/example/buildwright/buildwright/engine/TestResult" "flaky" "I" (.int a4) := Fld.keep F_flaky_o27_34 Kq35 nin0
  have E_o31_36 : Exa Z T35.heap o31 "com/example/buildwright/buildwright/engine/TestResult" := Exa.keep f33_0 Kq35
  have F_passed_o31_36 : Fld Z T35.heap o31 "com/example/buildwright/buildwright/engine/TestResult" "passed" "I" (.int b1) := Fld.keep f33_1 Kq35 nin0
  have F_failed_o31_36 : Fld Z T35.heap o31 "com/example/buildwright/buildwright/engine/TestResult" "failed" "I" (.int b2) := Fld.keep f33_2 Kq35 nin0
  have F_cached_o31_36 : Fld Z T35.heap o31 "com/example/buildwright/buildwright/engine/TestResult" "cached" "I" (.int b3) := Fld.keep f33_3 Kq35 nin0
  have F_flaky_o31_36 : Fld Z T35.heap o31 "com/example/buildwright/buildwright/engine/TestResult" "flaky" "I" (.int b4) := Fld.keep f33_4 Kq35 nin0
  have ne_o27_b_35 : o27 ≠ b_35 := Nat.ne_of_lt (Nat.lt_of_lt_of_le E_o27_34.lt f35_0)
  have ne_o31_b_35 : o31 ≠ b_35 := Nat.ne_of_lt (Nat.lt_of_lt_of_le f33_0.lt f35_0)
  have g_b_35 : n0 ≤ b_35 := Nat.le_trans Zs33 f35_0
  have mh_b_35 : h0.size ≤ b_35 := Nat.le_trans K33.1 f35_0
  have K35 : Keep h0 T35.heap [] := Keep.trans K33 Kq35 all0
  have Zs35 : n0 ≤ T35.heap.size := Nat.le_trans Zs33 Kq35.1
  show Go p e below _ (T35.setTop (mkF m 89 #[.val (.long q1), .second, .val (.long q2), .second, .val (.long q3), .second, .val (.long q4), .second, .val (.int a1), .val (.int a2), .val (.int a3), .val (.int a4), .val (.int b1), .val (.int b2), .val (.int b3), .val (.int b4), .val (.ref o27), .val (.ref o31), .unset] [(.ref b_35)]))
  refine g_astore X35 hx (hb hby at_89) 91 rfl rfl #[.val (.long q1), .second, .val (.long q2), .second, .val (.long q3), .second, .val (.long q4), .second, .val (.int a1), .val (.int a2), .val (.int a3), .val (.int a4), .val (.int b1), .val (.int b2), .val (.int b3), .val (.int b4), .val (.ref o27), .val (.ref o31), .val (.ref b_35)] rfl ?_
  refine g_aload X35 hx (hb hby at_91) 93 rfl (v := (.ref b_35)) rfl rfl ?_
  obtain ⟨cq37, kq37, q37a, q37b, q37c⟩ := isOf hZ rfl f35_1
  obtain ⟨_, _, ⟨T37, L37, k37, n37⟩, -, X37, ⟨Lc37, hQ37, l37, y37, z37⟩, st37⟩ := X35.virtualBack hx (y := (⟨"com/example/buildwright/buildwright/engine/TestResult", "passed", "()I"⟩ : MethodName)) (z := (⟨"com/example/buildwright/buildwright/engine/TestResult", "passed", "()I"⟩ : MethodName)) hown (mvT hZ (hw _ (List.mem_of_getElem? (i := 29) rfl))) (mvT hZ (hw _ (List.mem_of_getElem? (i := 30) rfl))) (notFace_of_selects (args := #[]) (mvT hZ (hw _ (List.mem_of_getElem? (i := 32) rfl)))) (mvT hZ (hw _ (List.mem_of_getElem? (i := 32) rfl))) (mvT hZ (hw _ (List.mem_of_getElem? (i := 31) rfl))) (by decide) (backOf (W := 0) (rm5 l Z a0 hw [] b_35 (a1 + b1) T35.heap n0 Zs35 f35_2) hZ (hw _ (List.mem_of_getElem? (i := 33) rfl)) (hw _ (List.mem_of_getElem? (i := 2) rfl)) (by decide) (by decide)) q37a q37c (g := (mkF m 93 #[.val (.long q1), .second, .val (.long q2), .second, .val (.long q3), .second, .val (.long q4), .second, .val (.int a1), .val (.int a2), .val (.int a3), .val (.int a4), .val (.int b1), .val (.int b2), .val (.int b3), .val (.int b4), .val (.ref o27), .val (.ref o31), .val (.ref b_35)] [(.ref b_35)])) rfl (by rw [hml]; rfl) (Steps.refl _) (argsL := []) (rest := []) (lenOf own_pd3 rfl) rfl (by show 2 * 0 + _ ≤ _; exact Nat.le_of_eq rfl) (hb hby at_93) (fun _ _ => ⟨rfl, rfl, (by decide : 3 + 0 ≤ _), (by decide : 12 + 0 ≤ _)⟩)
  dsimp only [Pt.U, Pt.locs, Pt.cells, Pt.slots] at X37 l37 y37 z37 st37 hQ37
  subst l37 y37 z37
  obtain ⟨rfl, Nq37, e37⟩ := hQ37
  refine Go.tr st37 ?_
  have N37 := Fr.app N35 Nq37
  show Go p e below _ (T37.setTop (mkF m 96 #[.val (.long q1), .second, .val (.long q2), .second, .val (.long q3), .second, .val (.long q4), .second, .val (.int a1), .val (.int a2), .val (.int a3), .val (.int a4), .val (.int b1), .val (.int b2), .val (.int b3), .val (.int b4), .val (.ref o27), .val (.ref o31), .val (.ref b_35)] [(.int (a1 + b1))]))
  refine g_iload X37 hx (hb hby at_96) 98 rfl (v := a1) rfl ?_
  refine g_iload X37 hx (hb hby at_98) 100 rfl (v := b1) rfl ?_
  refine g_iadd X37 hx (hb hby at_100) 101 rfl (a1 + b1) rfl ?_
  refine g_icmp_ne X37 hx (hb hby at_101) 147 104 (by decide) (by decide) rfl (fun hc101 => False.elim (hc101 rfl)) (fun hc101 => ?_)
  refine g_aload X37 hx (hb hby at_104) 106 rfl (v := (.ref b_35)) rfl rfl ?_
  obtain ⟨cq38, kq38, q38a, q38b, q38c⟩ := isOf hZ e37 f35_1
  obtain ⟨_, _, ⟨T38, L38, k38, n38⟩, -, X38, ⟨Lc38, hQ38, l38, y38, z38⟩, st38⟩ := X37.virtualBack hx (y := (⟨"com/example/buildwright/buildwright/engine/TestResult", "failed", "()I"⟩ : MethodName)) (z := (⟨"com/example/buildwright/buildwright/engine/TestResult", "failed", "()I"⟩ : MethodName)) hown (mvT hZ (hw _ (List.mem_of_getElem? (i := 34) rfl))) (mvT hZ (hw _ (List.mem_of_getElem? (i := 35) rfl))) (notFace_of_selects (args := #[]) (mvT hZ (hw _ (List.mem_of_getElem? (i := 37) rfl)))) (mvT hZ (hw _ (List.mem_of_getElem? (i := 37) rfl))) (mvT hZ (hw _ (List.mem_of_getElem? (i := 36) rfl))) (by decide) (backOf (W := 0) (rm6 l Z a0 hw [] b_35 (a2 + b2) T35.heap n0 Zs35 f35_3) hZ (hw _ (List.mem_of_getElem? (i := 38) rfl)) (hw _ (List.mem_of_getElem? (i := 2) rfl)) (by decide) (by decide)) q38a q38c (g := (mkF m 106 #[.val (.long q1), .second, .val (.long q2), .second, .val (.long q3), .second, .val (.long q4), .second, .val (.int a1), .val (.int a2), .val (.int a3), .val (.int a4), .val (.int b1), .val (.int b2), .val (.int b3), .val (.int b4), .val (.ref o27), .val (.ref o31), .val (.ref b_35)] [(.ref b_35)])) rfl (by rw [hml]; rfl) (Steps.refl _) (argsL := []) (rest := []) (lenOf own_pd3 rfl) rfl (by show 2 * 0 + _ ≤ _; exact Nat.le_of_eq rfl) (hb hby at_106) (fun _ _ => ⟨rfl, e37, (by decide : 3 + 0 ≤ _), (by decide : 12 + 0 ≤ _)⟩)
  dsimp only [Pt.U, Pt.locs, Pt.cells, Pt.slots] at X38 l38 y38 z38 st38 hQ38
  subst l38 y38 z38
  obtain ⟨rfl, Nq38, e38⟩ := hQ38
  refine Go.tr st38 ?_
  have N38 := Fr.app N37 Nq38
  show Go p e below _ (T38.setTop (mkF m 109 #[.val (.long q1), .second, .val (.long q2), .second, .val (.long q3), .second, .val (.long q4), .second, .val (.int a1), .val (.int a2), .val (.int a3), .val (.int a4), .val (.int b1), .val (.int b2), .val (.int b3), .val (.int b4), .val (.ref o27), .val (.ref o31), .val (.ref b_35)] [(.int (a2 + b2))]))
  refine g_iload X38 hx (hb hby at_109) 111 rfl (v := a2) rfl ?_
  refine g_iload X38 hx (hb hby at_111) 113 rfl (v := b2) rfl ?_
  refine g_iadd X38 hx (hb hby at_113) 114 rfl (a2 + b2) rfl ?_
  refine g_icmp_ne X38 hx (hb hby at_114) 147 117 (by decide) (by decide) rfl (fun hc114 => False.elim (hc114 rfl)) (fun hc114 => ?_)
  refine g_aload X38 hx (hb hby at_117) 119 rfl (v := (.ref b_35)) rfl rfl ?_
  obtain ⟨cq39, kq39, q39a, q39b, q39c⟩ := isOf hZ e38 f35_1
  obtain ⟨_, _, ⟨T39, L39, k39, n39⟩, -, X39, ⟨Lc39, hQ39, l39, y39, z39⟩, st39⟩ := X38.virtualBack hx (y := (⟨"com/example/buildwright/buildwright/engine/TestResult", "cached", "()I"⟩ : MethodName)) (z := (⟨"com/example/buildwright/buildwright/engine/TestResult", "cached", "()I"⟩ : MethodName)) hown (mvT hZ (hw _ (List.mem_of_getElem? (i := 39) rfl))) (mvT hZ (hw _ (List.mem_of_getElem? (i := 40) rfl))) (notFace_of_selects (args := #[]) (mvT hZ (hw _ (List.mem_of_getElem? (i := 42) rfl)))) (mvT hZ (hw _ (List.mem_of_getElem? (i := 42) rfl))) (mvT hZ (hw _ (List.mem_of_getElem? (i := 41) rfl))) (by decide) (backOf (W := 0) (rm7 l Z a0 hw [] b_35 (a3 + b3) T35.heap n0 Zs35 f35_4) hZ (hw _ (List.mem_of_getElem? (i := 43) rfl)) (hw _ (List.mem_of_getElem? (i := 2) rfl)) (by decide) (by decide)) q39a q39c (g := (mkF m 119 #[.val (.long q1), .second, .val (.long q2), .second, .val (.long q3), .second, .val (.long q4), .second, .val (.int a1), .val (.int a2), .val (.int a3), .val (.int a4), .val (.int b1), .val (.int b2), .val (.int b3), .val (.int b4), .val (.ref o27), .val (.ref o31), .val (.ref b_35)] [(.ref b_35)])) rfl (by rw [hml]; rfl) (Steps.refl _) (argsL := []) (rest := []) (lenOf own_pd3 rfl) rfl (by show 2 * 0 + _ ≤ _; exact Nat.le_of_eq rfl) (hb hby at_119) (fun _ _ => ⟨rfl, e38, (by decide : 3 + 0 ≤ _), (by decide : 12 + 0 ≤ _)⟩)
  dsimp only [Pt.U, Pt.locs, Pt.cells, Pt.slots] at X39 l39 y39 z39 st39 hQ39
  subst l39 y39 z39
  obtain ⟨rfl, Nq39, e39⟩ := hQ39
  refine Go.tr st39 ?_
  have N39 := Fr.app N38 Nq39
  show Go p e below _ (T39.setTop (mkF m 122 #[.val (.long q1), .second, .val (.long q2), .second, .val (.long q3), .second, .val (.long q4), .second, .val (.int a1), .val (.int a2), .val (.int a3), .val (.int a4), .val (.int b1), .val (.int b2), .val (.int b3), .val (.int b4), .val (.ref o27), .val (.ref o31), .val (.ref b_35)] [(.int (a3 + b3))]))
  refine g_iload X39 hx (hb hby at_122) 124 rfl (v := a3) rfl ?_
  refine g_iload X39 hx (hb hby at_124) 126 rfl (v := b3) rfl ?_
  refine g_iadd X39 hx (hb hby at_126) 127 rfl (a3 + b3) rfl ?_
  refine g_icmp_ne X39 hx (hb hby at_127) 147 130 (by decide) (by decide) rfl (fun hc127 => False.elim (hc127 rfl)) (fun hc127 => ?_)
  refine g_aload X39 hx (hb hby at_130) 132 rfl (v := (.ref b_35)) rfl rfl ?_
  obtain ⟨cq40, kq40, q40a, q40b, q40c⟩ := isOf hZ e39 f35_1
  obtain ⟨_, _, ⟨T40, L40, k40, n40⟩, -, X40, ⟨Lc40, hQ40, l40, y40, z40⟩, st40⟩ := X39.virtualBack hx (y := (⟨"com/example/buildwright/buildwright/engine/TestResult", "flaky", "()I"⟩ : MethodName)) (z := (⟨"com/example/buildwright/buildwright/engine/TestResult", "flaky", "()I"⟩ : MethodName)) hown (mvT hZ (hw _ (List.mem_of_getElem? (i := 44) rfl))) (mvT hZ (hw _ (List.mem_of_getElem? (i := 45) rfl))) (notFace_of_selects (args := #[]) (mvT hZ (hw _ (List.mem_of_getElem? (i := 47) rfl)))) (mvT hZ (hw _ (List.mem_of_getElem? (i := 47) rfl))) (mvT hZ (hw _ (List.mem_of_getElem? (i := 46) rfl))) (by decide) (backOf (W := 0) (rm8 l Z a0 hw [] b_35 (a4 + b4) T35.heap n0 Zs35 f35_5) hZ (hw _ (List.mem_of_getElem? (i := 48) rfl)) (hw _ (List.mem_of_getElem? (i := 2) rfl)) (by decide) (by decide)) q40a q40c (g := (mkF m 132 #[.val (.long q1), .second, .val (.long q2), .second, .val (.long q3), .second, .val (.long q4), .second, .val (.int a1), .val (.int a2), .val (.int a3), .val (.int a4), .val (.int b1), .val (.int b2), .val (.int b3), .val (.int b4), .val (.ref o27), .val (.ref o31), .val (.ref b_35)] [(.ref b_35)])) rfl (by rw [hml]; rfl) (Steps.refl _) (argsL := []) (rest := []) (lenOf own_pd3 rfl) rfl (by show 2 * 0 + _ ≤ _; exact Nat.le_of_eq rfl) (hb hby at_132) (fun _ _ => ⟨rfl, e39, (by decide : 3 + 0 ≤ _), (by decide : 12 + 0 ≤ _)⟩)
  dsimp only [Pt.U, Pt.locs, Pt.cells, Pt.slots] at X40 l40 y40 z40 st40 hQ40
  subst l40 y40 z40
  obtain ⟨rfl, Nq40, e40⟩ := hQ40
  refine Go.tr st40 ?_
  have N40 := Fr.app N39 Nq40
  show Go p e below _ (T40.setTop (mkF m 135 #[.val (.long q1), .second, .val (.long q2), .second, .val (.long q3), .second, .val (.long q4), .second, .val (.int a1), .val (.int a2), .val (.int a3), .val (.int a4), .val (.int b1), .val (.int b2), .val (.int b3), .val (.int b4), .val (.ref o27), .val (.ref o31), .val (.ref b_35)] [(.int (a4 + b4))]))
  refine g_iload X40 hx (hb hby at_135) 137 rfl (v := a4) rfl ?_
  refine g_iload X40 hx (hb hby at_137) 139 rfl (v := b4) rfl ?_
  refine g_iadd X40 hx (hb hby at_139) 140 rfl (a4 + b4) rfl ?_
  refine g_icmp_ne X40 hx (hb hby at_140) 147 143 (by decide) (by decide) rfl (fun hc140 => False.elim (hc140 rfl)) (fun hc140 => ?_)
  refine g_iconst X40 hx (hb hby at_143) 144 rfl (1 : Int32) rfl ?_
  refine g_goto X40 hx (hb hby at_144) 148 (by decide) (by decide) ?_
  refine Go.retN X40 hx hlk (t := .boolean) Bd.returns (by simp) (hb hby at_148) (by decide) (by decide) ?_
  exact ⟨rfl, N40⟩
set_option maxRecDepth 65536 in
set_option maxHeartbeats 40000000 in
theorem comes_1 {Post : Tables → Env → Array Value → State → Outcome → State → Prop} (hpost : ∀ tb e args s v u, (limb_1_1.after args s (.returned v) u = true ∧ limb_1_2.after args s (.returned v) u = true ∧ True) → FrameEnd s (.returned v) u (Jvm.fieldLocs frame_1_writes args s ++ Jvm.arrayLocs frame_1_arrays args s ++ Jvm.staticLocs frame_1_statics s) 16 128 → Post tb e args s (.returned v) u) :
    ArmFor flags0 classFile x code maxLocals ret World_1 tables_1 room_1 Calls_1 rest_1 Pre_1 Post := by
  intro l hfl _ _ p e ha hc hk s m args below hf hA hF happ hP
  obtain ⟨hcalls, hrest, hpre⟩ := hP
  obtain ⟨-, -, -, hnamed, -, -, -, hat⟩ := (Spec.applies_iff hf).mp happ
  obtain ⟨hg, hn⟩ := and_e (Cond.before_iff.mp (show (Jvm.Cond.and given_1 narrow_1).before args s = true from hpre))
  obtain ⟨c0, r0⟩ := and_e hg
  obtain ⟨c1, r1⟩ := and_e r0
  obtain ⟨c2, r2⟩ := and_e r1
  obtain ⟨c3, r3⟩ := and_e r2
  obtain ⟨w0, w1, w2, w3, rfl⟩ : ∃ w0 w1 w2 w3 : Value, args = #[w0, w1, w2, w3] := by
    have hs : args.size = 4 := by simpa [Cond.value, given_1] using c0
    obtain ⟨L⟩ := args
    match L, hs with
    | [w0, w1, w2, w3], _ => exact ⟨w0, w1, w2, w3, rfl⟩
  have hw := fun d (hd : d ∈ tables_1) => atoms_spec (ws := Jvm.Cond.code x code maxLocals ret :: tables_1) hat d (List.mem_cons_of_mem _ hd)
  have hfit : Fit s := fun {y c} hc i hi => by
    obtain ⟨ha, rfl⟩ := Array.getElem?_eq_some_iff.mp hc
    have q := List.all_eq_true.mp ((Array.all_eq_true_iff_forall_mem.mp hF) _ (Array.getElem_mem ha)) i (List.mem_range.mpr hi)
    simpa [Array.getElem?_eq_getElem hi] using q
  obtain ⟨i0, ei0⟩ := isL_v c1
  obtain rfl : w0 = (.long i0) := Option.some.inj ei0
  obtain ⟨i1, ei1⟩ := isL_v c2
  obtain rfl : w1 = (.long i1) := Option.some.inj ei1
  obtain ⟨i2, ei2⟩ := isL_v c3
  obtain rfl : w2 = (.long i2) := Option.some.inj ei2
  obtain ⟨i3, ei3⟩ := isL_v r3
  obtain rfl : w3 = (.long i3) := Option.some.inj ei3
  obtain ⟨n, o, h1, h2, h3, _, L, rfl, ⟨rfl, N⟩, hq⟩ := rm0 l s _ hw tables_1 i0 i1 i2 i3 s.heap s.heap.size (Nat.le_refl _)  rfl p e ha hc hk s m _ below hf ((Spec.applies_iff_loose hf).mp happ).1 ⟨rfl, State.Warmed39.refl s, rfl⟩ trivial
  refine ⟨n, _, h1, h2, h3, hpost _ _ _ _ _ _ ⟨Cond.after_iff.mpr rfl, Cond.after_iff.mpr (eq_i res_at (Term.int_eval (1)) rfl), trivial⟩ ⟨hq.1, hq.2.1, (hq.2.2.sift fun y hy => Or.inr (N y hy)).mono (by decide) (by decide)⟩⟩
theorem main_1_1 : Claimed_1_1 := comes_1 fun _ _ _ _ _ _ h hF => ⟨h.1, hF⟩
theorem main_1_2 : Claimed_1_2 := comes_1 fun _ _ _ _ _ _ h hF => ⟨h.2.1, hF⟩
end Jvm.Pilot.@@N@@
namespace Jvm.Pilot.@@N@@
open Jvm Jvm.ClassFile Sem Op Lib Jvm.Free Jvm.Stand Jvm.Pilot.@@N@@.Jvm.D
/-! MADE BY PROGRAM (witnessworld.py) out of the Statement's table words and the real class files: 10 classes; the members and pool entries that the words name. The judged class is class 1, her method 1. -/
namespace start1
open Jvm.ClassFile
def u (s : String) : CpInfo := .utf8 (stringToUtf16 s)
/-- a pool by its gaps: so many unusable entries, then the entry; so many at the end -/
def gap : Nat → List CpInfo → List CpInfo
  | 0, r => r
  | n + 1, r => .unusable :: gap n r
def poolList (es : List (Nat × CpInfo)) (last : Nat) : List CpInfo := es.foldr (fun e r => gap e.1 (e.2 :: r)) (gap last [])
def pool (es : List (Nat × CpInfo)) (last : Nat) : Array CpInfo := ⟨poolList es last⟩
def fileOf (pool : Array CpInfo) (this : Nat) (attrs : Array Attribute := #[]) (ms : Array MethodInfo := #[]) (fl : Nat := 33) (sup : Nat := 0) (ifs : Array Nat := #[]) (fds : Array FieldInfo := #[]) : ClassFile where
  minorVersion := 0
  majorVersion := 65
  constantPool := pool
  accessFlags := fl
  thisClass := this
  superClass := sup
  interfaces := ifs
  fields := fds
  methods := ms
  attributes := attrs
def plain (name : String) (sup : Option ClassId) : Class where
  name := name
  kind := .ordinary
  loader := none
  accessFlags := 33
  super := sup
  interfaces := #[]
  cf := none
  fields := #[]
  methods := #[]
  instanceTypes := #[]
  staticTypes := #[]
  resolved := #[]
  callSites := []
  init := .initialized
  statics := none
  mirror := none

def pool0 : Array CpInfo := pool [(5, u "<init>"), (0, u "()V"), (1, .class_ 10), (1, u "java/lang/Object")] 113

def k0c0 : Code := { maxStack := 0, maxLocals := 1, code := object_method_1_code, exceptionTable := #[], attributes := #[] }
def k0m0 : Method := { name := "<init>", desc := "()V", sig := { parameters := [], returnType := none }, accessFlags := 1, code := some k0c0 }
/-- java/lang/Object -/
def k0 : Class := { plain "java/lang/Object" none with
  accessFlags := 33
  interfaces := #[]
  cf := some (fileOf pool0 8 #[] #[{ accessFlags := 1, nameIndex := 5, descriptorIndex := 6, attributes := #[] }] 33 0 #[] #[])
  fields := #[]
  methods := #[k0m0]
  instanceTypes := #[]
  staticTypes := #[]
  resolved := Array.replicate 124 none
  statics := none }

def pool1 : Array CpInfo := pool [(2, .class_ 4), (1, u "java/lang/Object"), (0, u "<init>"), (0, u "()V"), (0, .class_ 8), (0, u "com/example/buildwright/buildwright/engine/TestResult"), (0, .methodref 7 10), (0, .nameAndType 5 11), (0, u "(IIII)V"), (0, .methodref 7 13), (0, .nameAndType 14 15), (0, u "plus"), (0, u "(Lcom/example/buildwright/buildwright/engine/TestResult;)Lcom/example/buildwright/buildwright/engine/TestResult;"), (0, .methodref 7 17), (0, .nameAndType 18 19), (0, u "passed"), (0, u "()I"), (0, .methodref 7 21), (0, .nameAndType 22 19), (0, u "failed"), (0, .methodref 7 24), (0, .nameAndType 25 19), (0, u "cached"), (0, .methodref 7 27), (0, .nameAndType 28 19), (0, u "flaky"), (0, .class_ 30), (0, u "com/example/buildwright/buildwright/engine/TestResultPlusPinLaw"), (2, u "law"), (0, u "(JJJJ)Z")] 3

def k1m0 : Method := { name := "<init>", desc := "()V", sig := { parameters := [], returnType := none }, accessFlags := 1, code := none }
def k1c1 : Code := { maxStack := 6, maxLocals := 19, code := code, exceptionTable := #[], attributes := #[] }
def k1m1 : Method := { name := "law", desc := "(JJJJ)Z", sig := { parameters := [.long, .long, .long, .long], returnType := some .boolean }, accessFlags := 9, code := some k1c1 }
/-- com/example/buildwright/buildwright/engine/TestResultPlusPinLaw -/
def k1 : Class := { plain "com/example/buildwright/buildwright/engine/TestResultPlusPinLaw" (some 0) with
  accessFlags := 49
  interfaces := #[]
  cf := some (fileOf pool1 29 #[] #[{ accessFlags := 1, nameIndex := 5, descriptorIndex := 6, attributes := #[] }, { accessFlags := 9, nameIndex := 33, descriptorIndex := 34, attributes := #[] }] 49 2 #[] #[])
  fields := #[]
  methods := #[k1m0, k1m1]
  instanceTypes := #[]
  staticTypes := #[]
  resolved := Array.replicate 38 none
  statics := none }

def pool2 : Array CpInfo := pool [(1, .methodref 2 3), (0, .class_ 4), (0, .nameAndType 5 6), (0, u "java/lang/Object"), (0, u "<init>"), (0, u "()V"), (0, .class_ 8), (0, u "java/lang/Record")] 13

def k2c0 : Code := { maxStack := 1, maxLocals := 1, code := jdk_30_method_1_code, exceptionTable := #[], attributes := #[] }
def k2m0 : Method := { name := "<init>", desc := "()V", sig := { parameters := [], returnType := none }, accessFlags := 4, code := some k2c0 }
/-- java/lang/Record -/
def k2 : Class := { plain "java/lang/Record" (some 0) with
  accessFlags := 1057
  interfaces := #[]
  cf := some (fileOf pool2 7 #[] #[{ accessFlags := 4, nameIndex := 5, descriptorIndex := 6, attributes := #[] }] 1057 2 #[] #[])
  fields := #[]
  methods := #[k2m0]
  instanceTypes := #[]
  staticTypes := #[]
  resolved := Array.replicate 22 none
  statics := none }

def pool3 : Array CpInfo := pool [(1, .methodref 2 3), (0, .class_ 4), (0, .nameAndType 5 6), (0, u "java/lang/Record"), (0, u "<init>"), (0, u "()V"), (0, .fieldref 8 9), (0, .class_ 10), (0, .nameAndType 11 12), (0, u "com/example/buildwright/buildwright/engine/TestResult"), (0, u "passed"), (0, u "I"), (0, .fieldref 8 14), (0, .nameAndType 15 12), (0, u "failed"), (0, .fieldref 8 17), (0, .nameAndType 18 12), (0, u "cached"), (0, .fieldref 8 20), (0, .nameAndType 21 12), (0, u "flaky"), (0, .methodref 8 23), (0, .nameAndType 5 24), (0, u "(IIII)V"), (18, u "NONE"), (0, u "Lcom/example/buildwright/buildwright/engine/TestResult;"), (3, u "plus"), (0, u "(Lcom/example/buildwright/buildwright/engine/TestResult;)Lcom/example/buildwright/buildwright/engine/TestResult;"), (2, u "()I")] 33

def k3c0 : Code := { maxStack := 2, maxLocals := 5, code := prog_26_method_1_code, exceptionTable := #[], attributes := #[] }
def k3m0 : Method := { name := "<init>", desc := "(IIII)V", sig := { parameters := [.int, .int, .int, .int], returnType := none }, accessFlags := 1, code := some k3c0 }
def k3c1 : Code := { maxStack := 7, maxLocals := 2, code := prog_26_method_2_code, exceptionTable := #[], attributes := #[] }
def k3m1 : Method := { name := "plus", desc := "(Lcom/example/buildwright/buildwright/engine/TestResult;)Lcom/example/buildwright/buildwright/engine/TestResult;", sig := { parameters := [(.object "com/example/buildwright/buildwright/engine/TestResult")], returnType := some (.object "com/example/buildwright/buildwright/engine/TestResult") }, accessFlags := 1, code := some k3c1 }
def k3c2 : Code := { maxStack := 1, maxLocals := 1, code := prog_26_method_7_code, exceptionTable := #[], attributes := #[] }
def k3m2 : Method := { name := "passed", desc := "()I", sig := { parameters := [], returnType := some .int }, accessFlags := 1, code := some k3c2 }
def k3c3 : Code := { maxStack := 1, maxLocals := 1, code := prog_26_method_8_code, exceptionTable := #[], attributes := #[] }
def k3m3 : Method := { name := "failed", desc := "()I", sig := { parameters := [], returnType := some .int }, accessFlags := 1, code := some k3c3 }
def k3c4 : Code := { maxStack := 1, maxLocals := 1, code := prog_26_method_9_code, exceptionTable := #[], attributes := #[] }
def k3m4 : Method := { name := "cached", desc := "()I", sig := { parameters := [], returnType := some .int }, accessFlags := 1, code := some k3c4 }
def k3c5 : Code := { maxStack := 1, maxLocals := 1, code := prog_26_method_10_code, exceptionTable := #[], attributes := #[] }
def k3m5 : Method := { name := "flaky", desc := "()I", sig := { parameters := [], returnType := some .int }, accessFlags := 1, code := some k3c5 }
/-- com/example/buildwright/buildwright/engine/TestResult -/
def k3 : Class := { plain "com/example/buildwright/buildwright/engine/TestResult" (some 2) with
  accessFlags := 49
  interfaces := #[]
  cf := some (fileOf pool3 8 #[] #[{ accessFlags := 1, nameIndex := 5, descriptorIndex := 24, attributes := #[] }, { accessFlags := 1, nameIndex := 48, descriptorIndex := 49, attributes := #[] }, { accessFlags := 1, nameIndex := 11, descriptorIndex := 52, attributes := #[] }, { accessFlags := 1, nameIndex := 15, descriptorIndex := 52, attributes := #[] }, { accessFlags := 1, nameIndex := 18, descriptorIndex := 52, attributes := #[] }, { accessFlags := 1, nameIndex := 21, descriptorIndex := 52, attributes := #[] }] 49 2 #[] #[{ accessFlags := 18, nameIndex := 11, descriptorIndex := 12, attributes := #[] }, { accessFlags := 18, nameIndex := 15, descriptorIndex := 12, attributes := #[] }, { accessFlags := 18, nameIndex := 18, descriptorIndex := 12, attributes := #[] }, { accessFlags := 18, nameIndex := 21, descriptorIndex := 12, attributes := #[] }, { accessFlags := 25, nameIndex := 43, descriptorIndex := 44, attributes := #[] }])
  fields := #[{ name := "passed", type := .int, accessFlags := 18, slot := 0, constantValue := 0 }, { name := "failed", type := .int, accessFlags := 18, slot := 1, constantValue := 0 }, { name := "cached", type := .int, accessFlags := 18, slot := 2, constantValue := 0 }, { name := "flaky", type := .int, accessFlags := 18, slot := 3, constantValue := 0 }, { name := "NONE", type := (.object "com/example/buildwright/buildwright/engine/TestResult"), accessFlags := 25, slot := 0, constantValue := 0 }]
  methods := #[k3m0, k3m1, k3m2, k3m3, k3m4, k3m5]
  instanceTypes := #[.int, .int, .int, .int]
  staticTypes := #[(.object "com/example/buildwright/buildwright/engine/TestResult")]
  resolved := Array.replicate 86 none
  statics := none }

def pool4 : Array CpInfo := pool [(1, u "java/lang/Cloneable"), (0, .class_ 1), (0, u "java/lang/Object"), (0, .class_ 3)] 3

/-- java/lang/Cloneable -/
def k4 : Class := { plain "java/lang/Cloneable" (some 0) with
  accessFlags := 1537
  interfaces := #[]
  cf := some (fileOf pool4 2 #[] #[] 1537 4 #[] #[])
  fields := #[]
  methods := #[]
  instanceTypes := #[]
  staticTypes := #[]
  resolved := Array.replicate 8 none
  statics := none }

def pool5 : Array CpInfo := pool [(1, u "java/io/Serializable"), (0, .class_ 1), (0, u "java/lang/Object"), (0, .class_ 3)] 3

/-- java/io/Serializable -/
def k5 : Class := { plain "java/io/Serializable" (some 0) with
  accessFlags := 1537
  interfaces := #[]
  cf := some (fileOf pool5 2 #[] #[] 1537 4 #[] #[])
  fields := #[]
  methods := #[]
  instanceTypes := #[]
  staticTypes := #[]
  resolved := Array.replicate 8 none
  statics := none }

/-- the primitive byte -/
def k6 : Class := { plain "byte" none with kind := .primitive 'B', accessFlags := 0x411 }
/-- [B -/
def k7 : Class := { plain "[B" (some 0) with kind := .array 6 .byte, interfaces := #[4, 5], accessFlags := 1041 }

/-- the primitive int -/
def k8 : Class := { plain "int" none with kind := .primitive 'I', accessFlags := 0x411 }
/-- [I -/
def k9 : Class := { plain "[I" (some 0) with kind := .array 8 .int, interfaces := #[4, 5], accessFlags := 1041 }

def heap : Heap := #[]
def classes : Array Class := #[k0, k1, k2, k3, k4, k5, k6, k7, k8, k9]
def interned : List (Array UInt16 × Addr) := []
def slotsUsed : Nat := 0
def theMethod : MethodId := ⟨1, 1⟩
def args0 : Array Value := #[.long 1, .long 2, .long 3, .long 4]
def aboutOver (below : List Frame) : State where
  vm := { classes := classes, interned := interned.toArray }
  heap := heap
  slotsUsed := slotsUsed
  threads := #[{ frames := .invoking theMethod args0 :: below }]
def below0 : List Frame := [.native { method := ⟨0, 0⟩, args := #[] }]
def about1 : State := aboutOver below0
def p0 : Program := .bare "" "" ""
def e0 : Env := launch0.env 0 0 0
theorem w_frames : about1.frames = Frame.invoking theMethod args0 :: below0 := rfl
set_option maxRecDepth 65536 in
theorem w_args : argsFit about1.vm theMethod args0 = true := by decide +kernel
set_option maxRecDepth 65536 in
theorem w_heap : heapFits about1 = true := by decide +kernel
set_option maxRecDepth 65536 in
theorem w_runnable : about1.curStatus? = some .runnable := by decide +kernel
set_option maxRecDepth 65536 in
theorem w_alone : about1.alone = true := by decide +kernel
set_option maxRecDepth 65536 in
theorem w_named : about1.methodNamed? x = some theMethod := by decide +kernel
set_option maxRecDepth 65536 in
theorem w_hears : about1.hears theMethod below0 = true := by decide +kernel
set_option maxRecDepth 65536 in
theorem w_ripe : about1.ripe theMethod args0 below0 = true := by decide +kernel
theorem w_running : about1.status = .running := rfl
set_option maxRecDepth 65536 in
theorem w_room : about1.hasRoom e0.platform room_1 = true :=
  launch0.hasRoom_least _ room_1 (by decide +kernel) (by decide +kernel) (by decide +kernel) (by decide +kernel) (by decide +kernel) (by decide +kernel)
theorem allAtoms_all (ts : List Jvm.Cond) (a : Array Jvm.Value) (st : Jvm.State) : (allAtoms ts).before a st = ts.all (fun c => c.before a st) := by
  induction ts with
  | nil => rfl
  | cons c t ih =>
    show (Jvm.Cond.and c (allAtoms t)).before a st = _
    rw [Jvm.Cond.before_and, ih, List.all_cons]
def words1 : List Jvm.Cond := Jvm.Cond.code x code maxLocals ret :: tables_1
/-- a 'code' word, met by the world's own term for the bytes: nothing is compared byte by byte -/
theorem code_word {y : MethodName} {bytes : ByteArray} {mx : Nat} {rt : Option FieldType} {a : Array Value} {s : State} {m : MethodId} {meth : Method} {c : Code} (h1 : s.methodNamed? y = some m) (h2 : s.vm.method? m = some meth) (h3 : meth.code = some c) (h4 : c.code = bytes)
    (h5 : (c.maxLocals == mx && c.exceptionTable.isEmpty && decide (c.maxStack ≤ mostOperands) && decide (meth.sig.returnType = rt) && !meth.locks && decide (parseMethodDescriptor y.desc = some meth.sig)) = true) : (Jvm.Cond.code y bytes mx rt).before a s = true := by
  simp only [Bool.and_eq_true, beq_iff_eq, Bool.not_eq_true', decide_eq_true_eq] at h5
  obtain ⟨⟨⟨⟨⟨g1, g2⟩, g3⟩, g4⟩, g5⟩, g6⟩ := h5
  simp [Cond.before, Cond.holds, Cond.value, h1, h2, h3, h4, g1, g2, g3, g4, g5, g6]
def isCode : Jvm.Cond → Bool
  | .code _ _ _ _ => true
  | _ => false
theorem all_split {L : List Jvm.Cond} {P : Jvm.Cond → Bool} (h1 : L.all (fun c => isCode c || P c) = true) (h2 : ∀ c ∈ L.filter isCode, P c = true) : L.all P = true := by
  refine List.all_eq_true.mpr fun c hc => ?_
  have h := List.all_eq_true.mp h1 c hc
  rcases Bool.eq_false_or_eq_true (isCode c) with hi | hi
  · exact h2 c (List.mem_filter.mpr ⟨hc, hi⟩)
  · simpa [hi] using h
set_option maxRecDepth 65536 in
theorem w_c0 : (Jvm.Cond.code x code maxLocals ret).before args0 about1 = true := code_word (m := ⟨1, 1⟩) (meth := k1m1) (c := k1c1) (by decide +kernel) rfl rfl rfl (by decide +kernel)
set_option maxRecDepth 65536 in
theorem w_c1 : (Jvm.Cond.code ({ cls := "com/example/buildwright/buildwright/engine/TestResult", name := "<init>", desc := "(IIII)V" } : Jvm.MethodName) prog_26_method_1_code (5 : Nat) (Option.none : Option Jvm.ClassFile.FieldType)).before args0 about1 = true := code_word (m := ⟨3, 0⟩) (meth := k3m0) (c := k3c0) (by decide +kernel) rfl rfl rfl (by decide +kernel)
set_option maxRecDepth 65536 in
theorem w_c2 : (Jvm.Cond.code ({ cls := "java/lang/Record", name := "<init>", desc := "()V" } : Jvm.MethodName) jdk_30_method_1_code (1 : Nat) (Option.none : Option Jvm.ClassFile.FieldType)).before args0 about1 = true := code_word (m := ⟨2, 0⟩) (meth := k2m0) (c := k2c0) (by decide +kernel) rfl rfl rfl (by decide +kernel)
set_option maxRecDepth 65536 in
theorem w_c3 : (Jvm.Cond.code ({ cls := "java/lang/Object", name := "<init>", desc := "()V" } : Jvm.MethodName) object_method_1_code (1 : Nat) (Option.none : Option Jvm.ClassFile.FieldType)).before args0 about1 = true := code_word (m := ⟨0, 0⟩) (meth := k0m0) (c := k0c0) (by decide +kernel) rfl rfl rfl (by decide +kernel)
set_option maxRecDepth 65536 in
theorem w_c4 : (Jvm.Cond.code ({ cls := "com/example/buildwright/buildwright/engine/TestResult", name := "plus", desc := "(Lcom/example/buildwright/buildwright/engine/TestResult;)Lcom/example/buildwright/buildwright/engine/TestResult;" } : Jvm.MethodName) prog_26_method_2_code (2 : Nat) (Option.some (Jvm.ClassFile.FieldType.object "com/example/buildwright/buildwright/engine/TestResult"))).before args0 about1 = true := code_word (m := ⟨3, 1⟩) (meth := k3m1) (c := k3c1) (by decide +kernel) rfl rfl rfl (by decide +kernel)
set_option maxRecDepth 65536 in
theorem w_c5 : (Jvm.Cond.code ({ cls := "com/example/buildwright/buildwright/engine/TestResult", name := "passed", desc := "()I" } : Jvm.MethodName) prog_26_method_7_code (1 : Nat) (Option.some Jvm.ClassFile.FieldType.int)).before args0 about1 = true := code_word (m := ⟨3, 2⟩) (meth := k3m2) (c := k3c2) (by decide +kernel) rfl rfl rfl (by decide +kernel)
set_option maxRecDepth 65536 in
theorem w_c6 : (Jvm.Cond.code ({ cls := "com/example/buildwright/buildwright/engine/TestResult", name := "failed", desc := "()I" } : Jvm.MethodName) prog_26_method_8_code (1 : Nat) (Option.some Jvm.ClassFile.FieldType.int)).before args0 about1 = true := code_word (m := ⟨3, 3⟩) (meth := k3m3) (c := k3c3) (by decide +kernel) rfl rfl rfl (by decide +kernel)
set_option maxRecDepth 65536 in
theorem w_c7 : (Jvm.Cond.code ({ cls := "com/example/buildwright/buildwright/engine/TestResult", name := "cached", desc := "()I" } : Jvm.MethodName) prog_26_method_9_code (1 : Nat) (Option.some Jvm.ClassFile.FieldType.int)).before args0 about1 = true := code_word (m := ⟨3, 4⟩) (meth := k3m4) (c := k3c4) (by decide +kernel) rfl rfl rfl (by decide +kernel)
set_option maxRecDepth 65536 in
theorem w_c8 : (Jvm.Cond.code ({ cls := "com/example/buildwright/buildwright/engine/TestResult", name := "flaky", desc := "()I" } : Jvm.MethodName) prog_26_method_10_code (1 : Nat) (Option.some Jvm.ClassFile.FieldType.int)).before args0 about1 = true := code_word (m := ⟨3, 5⟩) (meth := k3m5) (c := k3c5) (by decide +kernel) rfl rfl rfl (by decide +kernel)
def codes1 : List Jvm.Cond := [Jvm.Cond.code x code maxLocals ret, Jvm.Cond.code ({ cls := "com/example/buildwright/buildwright/engine/TestResult", name := "<init>", desc := "(IIII)V" } : Jvm.MethodName) prog_26_method_1_code (5 : Nat) (Option.none : Option Jvm.ClassFile.FieldType), Jvm.Cond.code ({ cls := "java/lang/Record", name := "<init>", desc := "()V" } : Jvm.MethodName) jdk_30_method_1_code (1 : Nat) (Option.none : Option Jvm.ClassFile.FieldType), Jvm.Cond.code ({ cls := "java/lang/Object", name := "<init>", desc := "()V" } : Jvm.MethodName) object_method_1_code (1 : Nat) (Option.none : Option Jvm.ClassFile.FieldType), Jvm.Cond.code ({ cls := "com/example/buildwright/buildwright/engine/TestResult", name := "plus", desc := "(Lcom/example/buildwright/buildwright/engine/TestResult;)Lcom/example/buildwright/buildwright/engine/TestResult;" } : Jvm.MethodName) prog_26_method_2_code (2 : Nat) (Option.some (Jvm.ClassFile.FieldType.object "com/example/buildwright/buildwright/engine/TestResult")), Jvm.Cond.code ({ cls := "com/example/buildwright/buildwright/engine/TestResult", name := "passed", desc := "()I" } : Jvm.MethodName) prog_26_method_7_code (1 : Nat) (Option.some Jvm.ClassFile.FieldType.int), Jvm.Cond.code ({ cls := "com/example/buildwright/buildwright/engine/TestResult", name := "failed", desc := "()I" } : Jvm.MethodName) prog_26_method_8_code (1 : Nat) (Option.some Jvm.ClassFile.FieldType.int), Jvm.Cond.code ({ cls := "com/example/buildwright/buildwright/engine/TestResult", name := "cached", desc := "()I" } : Jvm.MethodName) prog_26_method_9_code (1 : Nat) (Option.some Jvm.ClassFile.FieldType.int), Jvm.Cond.code ({ cls := "com/example/buildwright/buildwright/engine/TestResult", name := "flaky", desc := "()I" } : Jvm.MethodName) prog_26_method_10_code (1 : Nat) (Option.some Jvm.ClassFile.FieldType.int)]
set_option maxRecDepth 65536 in
theorem codes_eq : words1.filter isCode = codes1 := rfl
theorem w_codes : ∀ c ∈ words1.filter isCode, c.before args0 about1 = true := by
  rw [codes_eq]
  intro c hc
  simp only [codes1, List.mem_cons, List.not_mem_nil, or_false] at hc
  rcases hc with rfl | rfl | rfl | rfl | rfl | rfl | rfl | rfl | rfl
  · exact w_c0
  · exact w_c1
  · exact w_c2
  · exact w_c3
  · exact w_c4
  · exact w_c5
  · exact w_c6
  · exact w_c7
  · exact w_c8
set_option maxRecDepth 65536 in
theorem w_t1 : (words1.take 24).all (fun c => isCode c || c.before args0 about1) = true := by decide +kernel
set_option maxRecDepth 65536 in
theorem w_t2 : ((words1.drop 24).take 24).all (fun c => isCode c || c.before args0 about1) = true := by decide +kernel
set_option maxRecDepth 65536 in
theorem w_t3 : ((words1.drop 24).drop 24).all (fun c => isCode c || c.before args0 about1) = true := by decide +kernel
theorem w_tables : (allAtoms (Jvm.Cond.code x code maxLocals ret :: tables_1)).before args0 about1 = true := by
  rw [allAtoms_all]
  show words1.all (fun c => c.before args0 about1) = true
  refine all_split ?_ w_codes
  rw [← List.take_append_drop 24 words1, List.all_append, w_t1, ← List.take_append_drop 24 (words1.drop 24), List.all_append, w_t2, w_t3]
  rfl
set_option maxRecDepth 65536 in
theorem w_case : (Jvm.Cond.and given_1 narrow_1).before args0 about1 = true := by decide +kernel
theorem w_applies : (headSpec (Jvm.Cond.code x code maxLocals ret :: tables_1) room_1).applies x e0.platform about1 = true :=
  (Spec.applies_iff w_frames).mpr ⟨w_running, w_runnable, w_alone, w_named, w_hears, w_ripe, w_room, w_tables⟩
theorem atStart : AtStart classFile x code maxLocals ret World_1 tables_1 room_1 Calls_1 rest_1 Pre_1 launch0 p0 e0 about1 theMethod args0 below0 :=
  ⟨lists_1, trivial, launch0.admits_env _ _ _, launch0.least_env, fairChoices_fair.cas, fairChoices_fair.clock, w_frames, w_args, w_heap, w_applies, trivial, trivial, w_case⟩
end start1
theorem witness_1 : WitnessClaimed_1 := ⟨start1.p0, start1.e0, start1.about1, start1.theMethod, start1.args0, start1.below0, start1.atStart⟩
end Jvm.Pilot.@@N@@
