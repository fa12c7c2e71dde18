import JvmDerived
import JvmDerived.Pilot.@@N@@Statement
import JvmDerived.Pilot.@@N@@Code
set_option linter.unusedVariables false
set_option linter.unusedSimpArgs false
namespace Jvm.Pilot.@@N@@
open Jvm Jvm.ClassFile Sem Op Lib Jvm.Free Jvm.Stand Jvm.LawKit Jvm.RoadKit Bundle Jvm.Pilot.@@N@@.Jvm.D

section Layer
variable {p : Program} {l : Launch} {e : Env} {R : Room} {s : State} {m : MethodId} {args : Array Value} {below : List Frame} {meth : Method} {c : Code} {T : State} {locs : List Loc} {cells slots : Nat}
/-- the walk from σ comes to an end at which K holds -/
def Go (p : Program) (e : Env) (below : List Frame) (K : State → Outcome → Prop) (σ : State) : Prop := ∃ s₂ o, Steps p.tables e below σ s₂ ∧ K s₂ o
theorem Go.st {K : State → Outcome → Prop} {σ σ' : State} (h : ∀ t, Steps p.tables e below σ' t → Steps p.tables e below σ t) (k : Go p e below K σ') : Go p e below K σ := by
  obtain ⟨a, b, c, d⟩ := k
  exact ⟨a, b, h _ c, d⟩
theorem Go.tr {K : State → Outcome → Prop} {σ σ' : State} (h : Steps p.tables e below σ σ') (k : Go p e below K σ') : Go p e below K σ := Go.st (fun _ q => h.trans q) k
/-- what a contract asks of the end -/
def KQ (s : State) (below : List Frame) (Q : Option Value → Heap → List Loc → Prop) (C S : Nat) (s₂ : State) (o : Outcome) : Prop :=
  s₂.status = .running ∧ Ended s₂ below o ∧ ∃ v L, o = .returned v ∧ Q v s₂.heap L ∧ FrameEnd s o s₂ L C S
theorem Go.body {K : State → Outcome → Prop} {σ : State} {g g' : JFrame} (hg : g = g') (k : Go p e below K (T.setTop g')) : Go p e below K (T.setTop g) := hg ▸ k
/-- return of nothing -/
theorem Go.retV {Q : Option Value → Heap → List Loc → Prop} {C S : Nat} (X : Stand p l e R s m args below meth c T locs cells slots) (hx : p.tables.exec = Jvm.exec) (hlk : meth.locks = false) (hret : meth.sig.returnType = none) {pc : Nat} {Ls : Array Slot} (hd : decode c.code pc = .ok (.return_, 1)) (hC : cells ≤ C) (hS : slots ≤ S) (q : Q none T.heap locs) :
    Go p e below (KQ s below Q C S) (T.setTop (mkF m pc Ls [])) := by
  obtain ⟨fs, hr, hrun, hended, hW, hsame⟩ := X.leave (v := none) (fun _ => rfl)
  exact ⟨_, _, X.returnOut hx hret hd hr, hrun, hended, _, _, rfl, q, ⟨_, rfl⟩, hW, hsame.mono hC hS⟩
/-- return of an int -/
theorem Go.retI {Q : Option Value → Heap → List Loc → Prop} {C S : Nat} (X : Stand p l e R s m args below meth c T locs cells slots) (hx : p.tables.exec = Jvm.exec) (hlk : meth.locks = false) (hret : meth.sig.returnType = some .int) {pc : Nat} {Ls : Array Slot} {z : Int32} {rest : List Value} (hd : decode c.code pc = .ok (.ireturn, 1)) (hC : cells ≤ C) (hS : slots ≤ S) (q : Q (some (.int z)) T.heap locs) :
    Go p e below (KQ s below Q C S) (T.setTop (mkF m pc Ls (.int z :: rest))) := by
  obtain ⟨fs, hr, hrun, hended, hW, hsame⟩ := X.leave (v := some (.int z)) (fun h => by rw [hret] at h; cases h)
  exact ⟨_, _, retOut X hx hret rfl (Or.inl ⟨rfl, Or.inl rfl, _, rfl⟩) hd hr, hrun, hended, _, _, rfl, q, ⟨_, rfl⟩, hW, hsame.mono hC hS⟩
/-- return of a boolean, byte, char or short -/
theorem Go.retN {Q : Option Value → Heap → List Loc → Prop} {C S : Nat} (X : Stand p l e R s m args below meth c T locs cells slots) (hx : p.tables.exec = Jvm.exec) (hlk : meth.locks = false) {t : FieldType} (hret : meth.sig.returnType = some t) (ht : t = .boolean ∨ t = .byte ∨ t = .char ∨ t = .short) {pc : Nat} {Ls : Array Slot} {z : Int32} {rest : List Value} (hd : decode c.code pc = .ok (.ireturn, 1)) (hC : cells ≤ C) (hS : slots ≤ S) (q : Q (some (.int (nar t z))) T.heap locs) :
    Go p e below (KQ s below Q C S) (T.setTop (mkF m pc Ls (.int z :: rest))) := by
  obtain ⟨fs, hr, hrun, hended, hW, hsame⟩ := X.leave (v := some (.int (nar t z))) (fun h => by rw [hret] at h; cases h)
  exact ⟨_, _, RoadKit.retN X hx hret ht hd hr, hrun, hended, _, _, rfl, q, ⟨_, rfl⟩, hW, hsame.mono hC hS⟩
/-- return of a reference -/
theorem Go.retA {Q : Option Value → Heap → List Loc → Prop} {C S : Nat} (X : Stand p l e R s m args below meth c T locs cells slots) (hx : p.tables.exec = Jvm.exec) (hlk : meth.locks = false) {t : FieldType} (hret : meth.sig.returnType = some t) (ht : t.isReference = true) {pc : Nat} {Ls : Array Slot} {w : Value} (hw : w.isRef = true) {rest : List Value} (hd : decode c.code pc = .ok (.areturn, 1)) (hC : cells ≤ C) (hS : slots ≤ S) (q : Q (some w) T.heap locs) :
    Go p e below (KQ s below Q C S) (T.setTop (mkF m pc Ls (w :: rest))) := by
  obtain ⟨fs, hr, hrun, hended, hW, hsame⟩ := X.leave (v := some w) (fun h => by rw [hret] at h; cases h)
  exact ⟨_, _, retOut X hx hret (by cases t <;> cases w <;> simp_all [narrow, Value.isRef, FieldType.isReference]) (Or.inr (Or.inr (Or.inr (Or.inr ⟨rfl, ht, hw⟩)))) hd hr, hrun, hended, _, _, rfl, q, ⟨_, rfl⟩, hW, hsame.mono hC hS⟩
/-- return of a long -/
theorem Go.retJ {Q : Option Value → Heap → List Loc → Prop} {C S : Nat} (X : Stand p l e R s m args below meth c T locs cells slots) (hx : p.tables.exec = Jvm.exec) (hlk : meth.locks = false) (hret : meth.sig.returnType = some .long) {pc : Nat} {Ls : Array Slot} {z : Int64} {rest : List Value} (hd : decode c.code pc = .ok (.lreturn, 1)) (hC : cells ≤ C) (hS : slots ≤ S) (q : Q (some (.long z)) T.heap locs) :
    Go p e below (KQ s below Q C S) (T.setTop (mkF m pc Ls (.long z :: rest))) := by
  obtain ⟨fs, hr, hrun, hended, hW, hsame⟩ := X.leave (v := some (.long z)) (fun h => by rw [hret] at h; cases h)
  exact ⟨_, _, retOut X hx hret rfl (Or.inr (Or.inl ⟨rfl, rfl, _, rfl⟩)) hd hr, hrun, hended, _, _, rfl, q, ⟨_, rfl⟩, hW, hsame.mono hC hS⟩
/-- return of a double -/
theorem Go.retD {Q : Option Value → Heap → List Loc → Prop} {C S : Nat} (X : Stand p l e R s m args below meth c T locs cells slots) (hx : p.tables.exec = Jvm.exec) (hlk : meth.locks = false) (hret : meth.sig.returnType = some .double) {pc : Nat} {Ls : Array Slot} {z : UInt64} {rest : List Value} (hd : decode c.code pc = .ok (.dreturn, 1)) (hC : cells ≤ C) (hS : slots ≤ S) (q : Q (some (.double z)) T.heap locs) :
    Go p e below (KQ s below Q C S) (T.setTop (mkF m pc Ls (.double z :: rest))) := by
  obtain ⟨fs, hr, hrun, hended, hW, hsame⟩ := X.leave (v := some (.double z)) (fun h => by rw [hret] at h; cases h)
  exact ⟨_, _, retOut X hx hret rfl (Or.inr (Or.inr (Or.inl ⟨rfl, rfl, _, rfl⟩))) hd hr, hrun, hended, _, _, rfl, q, ⟨_, rfl⟩, hW, hsame.mono hC hS⟩
theorem g_iloadN {K : State → Outcome → Prop} (X : Stand p l e R s m args below meth c T locs cells slots) (hx : p.tables.exec = Jvm.exec) {pc : Nat} {L : Array Slot} {S : List Value} {k : Fin 4} {v : Int32} (hd : decode c.code pc = .ok (.iload_n k, 1)) (pc' : Nat) (hp : pc + 1 = pc') (hl : L[k.val]? = some (.val (.int v))) (r : Go p e below K (T.setTop (mkF m pc' L (.int v :: S)))) : Go p e below K (T.setTop (mkF m pc L S)) := by
  subst hp
  exact Go.st (fun _ => XS.iloadN X.here hx rfl hd hl) r
theorem g_iload {K : State → Outcome → Prop} (X : Stand p l e R s m args below meth c T locs cells slots) (hx : p.tables.exec = Jvm.exec) {pc : Nat} {L : Array Slot} {S : List Value} {k : Nat} {v : Int32} (hd : decode c.code pc = .ok (.iload k, 2)) (pc' : Nat) (hp : pc + 2 = pc') (hl : L[k]? = some (.val (.int v))) (r : Go p e below K (T.setTop (mkF m pc' L (.int v :: S)))) : Go p e below K (T.setTop (mkF m pc L S)) := by
  subst hp
  exact Go.st (fun _ => XS.iload X.here hx rfl hd hl) r
theorem g_aloadN {K : State → Outcome → Prop} (X : Stand p l e R s m args below meth c T locs cells slots) (hx : p.tables.exec = Jvm.exec) {pc : Nat} {L : Array Slot} {S : List Value} {k : Fin 4} {v : Value} (hd : decode c.code pc = .ok (.aload_n k, 1)) (pc' : Nat) (hp : pc + 1 = pc') (hl : L[k.val]? = some (.val v)) (hv : v.isRef = true) (r : Go p e below K (T.setTop (mkF m pc' L (v :: S)))) : Go p e below K (T.setTop (mkF m pc L S)) := by
  subst hp
  exact Go.st (fun _ => XS.aloadN X.here hx rfl hd hl hv) r
theorem g_aload {K : State → Outcome → Prop} (X : Stand p l e R s m args below meth c T locs cells slots) (hx : p.tables.exec = Jvm.exec) {pc : Nat} {L : Array Slot} {S : List Value} {k : Nat} {v : Value} (hd : decode c.code pc = .ok (.aload k, 2)) (pc' : Nat) (hp : pc + 2 = pc') (hl : L[k]? = some (.val v)) (hv : v.isRef = true) (r : Go p e below K (T.setTop (mkF m pc' L (v :: S)))) : Go p e below K (T.setTop (mkF m pc L S)) := by
  subst hp
  exact Go.st (fun _ => XS.aload X.here hx rfl hd hl hv) r
theorem g_istore {K : State → Outcome → Prop} (X : Stand p l e R s m args below meth c T locs cells slots) (hx : p.tables.exec = Jvm.exec) {pc : Nat} {L : Array Slot} {S : List Value} {k : Nat} {v : Int32} (hd : decode c.code pc = .ok (.istore k, 2)) (pc' : Nat) (hp : pc + 2 = pc') (L' : Array Slot) (hl : storeLocals L k (.int v) = some L') (r : Go p e below K (T.setTop (mkF m pc' L' S))) : Go p e below K (T.setTop (mkF m pc L (.int v :: S))) := by
  subst hp
  exact Go.st (fun _ => XS.istore X.here hx rfl hd rfl hl) r
theorem g_astore {K : State → Outcome → Prop} (X : Stand p l e R s m args below meth c T locs cells slots) (hx : p.tables.exec = Jvm.exec) {pc : Nat} {L : Array Slot} {S : List Value} {k : Nat} {v : Value} (hd : decode c.code pc = .ok (.astore k, 2)) (pc' : Nat) (hp : pc + 2 = pc') (hv : v.isRef = true) (L' : Array Slot) (hl : storeLocals L k v = some L') (r : Go p e below K (T.setTop (mkF m pc' L' S))) : Go p e below K (T.setTop (mkF m pc L (v :: S))) := by
  subst hp
  exact Go.st (fun _ => XS.astore X.here hx rfl hd rfl hv hl) r
theorem g_iconst {K : State → Outcome → Prop} (X : Stand p l e R s m args below meth c T locs cells slots) (hx : p.tables.exec = Jvm.exec) {pc : Nat} {L : Array Slot} {S : List Value} {i : Int} (hd : decode c.code pc = .ok (.iconst i, 1)) (pc' : Nat) (hp : pc + 1 = pc') (z : Int32) (hz : Int32.ofInt i = z) (r : Go p e below K (T.setTop (mkF m pc' L (.int z :: S)))) : Go p e below K (T.setTop (mkF m pc L S)) := by
  subst hp; subst hz
  exact Go.st (fun _ => XS.iconst X.here hx rfl hd) r
theorem g_dup {K : State → Outcome → Prop} (X : Stand p l e R s m args below meth c T locs cells slots) (hx : p.tables.exec = Jvm.exec) {pc : Nat} {L : Array Slot} {S : List Value} {x : Value} (hd : decode c.code pc = .ok (.dup, 1)) (pc' : Nat) (hp : pc + 1 = pc') (hc : x.category = 1) (r : Go p e below K (T.setTop (mkF m pc' L (x :: x :: S)))) : Go p e below K (T.setTop (mkF m pc L (x :: S))) := by
  subst hp
  exact Go.st (fun _ => XS.dup X.here hx rfl hd rfl hc) r
theorem g_dloadN {K : State → Outcome → Prop} (X : Stand p l e R s m args below meth c T locs cells slots) (hx : p.tables.exec = Jvm.exec) {pc : Nat} {L : Array Slot} {S : List Value} {k : Fin 4} {v : UInt64} (hd : decode c.code pc = .ok (.dload_n k, 1)) (pc' : Nat) (hp : pc + 1 = pc') (hl : L[k.val]? = some (.val (.double v))) (r : Go p e below K (T.setTop (mkF m pc' L (.double v :: S)))) : Go p e below K (T.setTop (mkF m pc L S)) := by
  subst hp
  exact Go.st (fun _ => XS.dloadN X.here hx rfl hd hl) r
theorem g_dload {K : State → Outcome → Prop} (X : Stand p l e R s m args below meth c T locs cells slots) (hx : p.tables.exec = Jvm.exec) {pc : Nat} {L : Array Slot} {S : List Value} {k : Nat} {v : UInt64} (hd : decode c.code pc = .ok (.dload k, 2)) (pc' : Nat) (hp : pc + 2 = pc') (hl : L[k]? = some (.val (.double v))) (r : Go p e below K (T.setTop (mkF m pc' L (.double v :: S)))) : Go p e below K (T.setTop (mkF m pc L S)) := by
  subst hp
  exact Go.st (fun _ => XS.dload X.here hx rfl hd hl) r
theorem g_dstore {K : State → Outcome → Prop} (X : Stand p l e R s m args below meth c T locs cells slots) (hx : p.tables.exec = Jvm.exec) {pc : Nat} {L : Array Slot} {S : List Value} {k : Nat} {v : UInt64} (hd : decode c.code pc = .ok (.dstore k, 2)) (pc' : Nat) (hp : pc + 2 = pc') (L' : Array Slot) (hl : storeLocals L k (.double v) = some L') (r : Go p e below K (T.setTop (mkF m pc' L' S))) : Go p e below K (T.setTop (mkF m pc L (.double v :: S))) := by
  subst hp
  exact Go.st (fun _ => XS.dstore X.here hx rfl hd rfl hl) r
theorem g_i2d {K : State → Outcome → Prop} (X : Stand p l e R s m args below meth c T locs cells slots) (hx : p.tables.exec = Jvm.exec) {pc : Nat} {L : Array Slot} {S : List Value} {x : Int32} (hd : decode c.code pc = .ok (.i2d, 1)) (pc' : Nat) (hp : pc + 1 = pc') (z : UInt64) (hz : FP.i2d x = z) (r : Go p e below K (T.setTop (mkF m pc' L (.double z :: S)))) : Go p e below K (T.setTop (mkF m pc L (.int x :: S))) := by
  subst hp
  exact Go.st (fun _ => XS.i2dS X.here hx rfl hd rfl hz) r
theorem g_dcmp {K : State → Outcome → Prop} (X : Stand p l e R s m args below meth c T locs cells slots) (hx : p.tables.exec = Jvm.exec) {pc : Nat} {L : Array Slot} {S : List Value} {o : CmpOp} {x y : UInt64} (hd : decode c.code pc = .ok (.dcmp o, 1)) (pc' : Nat) (hp : pc + 1 = pc') (z : Int32) (hz : cmpValue (FP.dcmp x y) o = z) (r : Go p e below K (T.setTop (mkF m pc' L (.int z :: S)))) : Go p e below K (T.setTop (mkF m pc L (.double y :: .double x :: S))) := by
  subst hp
  exact Go.st (fun _ => XS.dcmpS X.here hx rfl hd rfl hz) r
theorem g_goto {K : State → Outcome → Prop} (X : Stand p l e R s m args below meth c T locs cells slots) (hx : p.tables.exec = Jvm.exec) {pc : Nat} {L : Array Slot} {S : List Value} {o : Int} (hd : decode c.code pc = .ok (.goto o, 3)) (pc' : Nat) (h0 : 0 ≤ (pc : Int) + o) (hp : ((pc : Int) + o).toNat = pc') (r : Go p e below K (T.setTop (mkF m pc' L S))) : Go p e below K (T.setTop (mkF m pc L S)) :=
  Go.st (fun _ => XS.goto X.here hx rfl (pc0 := pc) rfl hd h0 hp) r
theorem g_icmp {K : State → Outcome → Prop} (X : Stand p l e R s m args below meth c T locs cells slots) (hx : p.tables.exec = Jvm.exec) {pc : Nat} {L : Array Slot} {S : List Value} {cd : ClassFile.Cond} {o : Int} {x y : Int32} (hd : decode c.code pc = .ok (.if_icmp cd o, 3)) (pc1 pc2 : Nat) (h0 : 0 ≤ (pc : Int) + o) (h1 : ((pc : Int) + o).toNat = pc1) (h2 : pc + 3 = pc2) (yes : if_icmp.holds cd x y = true → Go p e below K (T.setTop (mkF m pc1 L S))) (no : if_icmp.holds cd x y = false → Go p e below K (T.setTop (mkF m pc2 L S))) : Go p e below K (T.setTop (mkF m pc L (.int y :: .int x :: S))) := by
  subst h2
  cases hc : if_icmp.holds cd x y with
  | true => exact Go.st (fun _ => XS.icmpYes X.here hx rfl (pc0 := pc) rfl hd rfl hc h0 h1) (yes hc)
  | false => exact Go.st (fun _ => XS.icmpNo X.here hx rfl hd rfl hc) (no hc)
theorem g_if {K : State → Outcome → Prop} (X : Stand p l e R s m args below meth c T locs cells slots) (hx : p.tables.exec = Jvm.exec) {pc : Nat} {L : Array Slot} {S : List Value} {cd : ClassFile.Cond} {o : Int} {x : Int32} (hd : decode c.code pc = .ok (.ifCond cd o, 3)) (pc1 pc2 : Nat) (h0 : 0 ≤ (pc : Int) + o) (h1 : ((pc : Int) + o).toNat = pc1) (h2 : pc + 3 = pc2) (yes : if_icmp.holds cd x 0 = true → Go p e below K (T.setTop (mkF m pc1 L S))) (no : if_icmp.holds cd x 0 = false → Go p e below K (T.setTop (mkF m pc2 L S))) : Go p e below K (T.setTop (mkF m pc L (.int x :: S))) := by
  subst h2
  cases hc : if_icmp.holds cd x 0 with
  | true => exact Go.st (fun _ => XS.ifYes X.here hx rfl (pc0 := pc) rfl hd rfl ((if0 cd x).trans hc) h0 h1) (yes hc)
  | false => exact Go.st (fun _ => XS.ifNo X.here hx rfl hd rfl ((if0 cd x).trans hc)) (no hc)
theorem g_icmp_ne {K : State → Outcome → Prop} (X : Stand p l e R s m args below meth c T locs cells slots) (hx : p.tables.exec = Jvm.exec) {pc : Nat} {L : Array Slot} {S : List Value} {o : Int} {x y : Int32} (hd : decode c.code pc = .ok (.if_icmp .ne o, 3)) (pc1 pc2 : Nat) (h0 : 0 ≤ (pc : Int) + o) (h1 : ((pc : Int) + o).toNat = pc1) (h2 : pc + 3 = pc2) (yes : ¬ x = y → Go p e below K (T.setTop (mkF m pc1 L S))) (no : x = y → Go p e below K (T.setTop (mkF m pc2 L S))) : Go p e below K (T.setTop (mkF m pc L (.int y :: .int x :: S))) := by
  refine g_icmp X hx hd pc1 pc2 h0 h1 h2 (fun hc => ?_) (fun hc => ?_)
  · by_cases q : x = y
    · rw [(teq q).2] at hc; cases hc
    · exact yes q
  · by_cases q : x = y
    · exact no q
    · rw [(feq q).2] at hc; cases hc
theorem g_if_ne {K : State → Outcome → Prop} (X : Stand p l e R s m args below meth c T locs cells slots) (hx : p.tables.exec = Jvm.exec) {pc : Nat} {L : Array Slot} {S : List Value} {o : Int} {x : Int32} (hd : decode c.code pc = .ok (.ifCond .ne o, 3)) (pc1 pc2 : Nat) (h0 : 0 ≤ (pc : Int) + o) (h1 : ((pc : Int) + o).toNat = pc1) (h2 : pc + 3 = pc2) (yes : ¬ x = (0 : Int32) → Go p e below K (T.setTop (mkF m pc1 L S))) (no : x = (0 : Int32) → Go p e below K (T.setTop (mkF m pc2 L S))) : Go p e below K (T.setTop (mkF m pc L (.int x :: S))) := by
  refine g_if X hx hd pc1 pc2 h0 h1 h2 (fun hc => ?_) (fun hc => ?_)
  · by_cases q : x = (0 : Int32)
    · rw [(teq q).2] at hc; cases hc
    · exact yes q
  · by_cases q : x = (0 : Int32)
    · exact no q
    · rw [(feq q).2] at hc; cases hc
theorem g_if_lt {K : State → Outcome → Prop} (X : Stand p l e R s m args below meth c T locs cells slots) (hx : p.tables.exec = Jvm.exec) {pc : Nat} {L : Array Slot} {S : List Value} {o : Int} {x : Int32} (hd : decode c.code pc = .ok (.ifCond .lt o, 3)) (pc1 pc2 : Nat) (h0 : 0 ≤ (pc : Int) + o) (h1 : ((pc : Int) + o).toNat = pc1) (h2 : pc + 3 = pc2) (yes : x < (0 : Int32) → Go p e below K (T.setTop (mkF m pc1 L S))) (no : ¬ x < (0 : Int32) → Go p e below K (T.setTop (mkF m pc2 L S))) : Go p e below K (T.setTop (mkF m pc L (.int x :: S))) := by
  refine g_if X hx hd pc1 pc2 h0 h1 h2 (fun hc => ?_) (fun hc => ?_)
  · by_cases q : x < (0 : Int32)
    · exact yes q
    · rw [(flt q).1] at hc; cases hc
  · by_cases q : x < (0 : Int32)
    · rw [(tlt q).1] at hc; cases hc
    · exact no q
theorem g_icmp_gt {K : State → Outcome → Prop} (X : Stand p l e R s m args below meth c T locs cells slots) (hx : p.tables.exec = Jvm.exec) {pc : Nat} {L : Array Slot} {S : List Value} {o : Int} {x y : Int32} (hd : decode c.code pc = .ok (.if_icmp .gt o, 3)) (pc1 pc2 : Nat) (h0 : 0 ≤ (pc : Int) + o) (h1 : ((pc : Int) + o).toNat = pc1) (h2 : pc + 3 = pc2) (yes : y < x → Go p e below K (T.setTop (mkF m pc1 L S))) (no : ¬ y < x → Go p e below K (T.setTop (mkF m pc2 L S))) : Go p e below K (T.setTop (mkF m pc L (.int y :: .int x :: S))) := by
  refine g_icmp X hx hd pc1 pc2 h0 h1 h2 (fun hc => ?_) (fun hc => ?_)
  · by_cases q : y < x
    · exact yes q
    · rw [(flt q).2.2.1] at hc; cases hc
  · by_cases q : y < x
    · rw [(tlt q).2.2.1] at hc; cases hc
    · exact no q
theorem g_if_gt {K : State → Outcome → Prop} (X : Stand p l e R s m args below meth c T locs cells slots) (hx : p.tables.exec = Jvm.exec) {pc : Nat} {L : Array Slot} {S : List Value} {o : Int} {x : Int32} (hd : decode c.code pc = .ok (.ifCond .gt o, 3)) (pc1 pc2 : Nat) (h0 : 0 ≤ (pc : Int) + o) (h1 : ((pc : Int) + o).toNat = pc1) (h2 : pc + 3 = pc2) (yes : (0 : Int32) < x → Go p e below K (T.setTop (mkF m pc1 L S))) (no : ¬ (0 : Int32) < x → Go p e below K (T.setTop (mkF m pc2 L S))) : Go p e below K (T.setTop (mkF m pc L (.int x :: S))) := by
  refine g_if X hx hd pc1 pc2 h0 h1 h2 (fun hc => ?_) (fun hc => ?_)
  · by_cases q : (0 : Int32) < x
    · exact yes q
    · rw [(flt q).2.2.1] at hc; cases hc
  · by_cases q : (0 : Int32) < x
    · rw [(tlt q).2.2.1] at hc; cases hc
    · exact no q
end Layer
def own_min (a b : Int64) : Int64 := if a < b then a else b
def own_max (a b : Int64) : Int64 := if a < b then b else a
theorem own_min_w {a b : Int64} (ha : B53 a) (hb : B53 b) : Native.java_lang_Math.nans.pick64 false (FP.l2d a) (FP.l2d b) = FP.l2d (own_min a b) := by
  unfold own_min
  split
  · next h => exact min_l ha hb h
  · next h => exact min_g ha hb h
theorem own_max_w {a b : Int64} (ha : B53 a) (hb : B53 b) : Native.java_lang_Math.nans.pick64 true (FP.l2d a) (FP.l2d b) = FP.l2d (own_max a b) := by
  unfold own_max
  split
  · next h => exact max_l ha hb h
  · next h => exact max_g ha hb h
theorem own_nn (a : Int64) : Jvm.Free.Fl.NoNaN64 (FP.l2d a) := nn_w rfl
theorem own_b (x : Int32) : B53 x.toInt64 := by
  have h := rng32 x
  unfold B53
  rw [c_i2l]
  omega
theorem own_bmin {a b : Int64} (ha : B53 a) (hb : B53 b) : B53 (own_min a b) := by unfold own_min; split <;> assumption
theorem own_bmax {a b : Int64} (ha : B53 a) (hb : B53 b) : B53 (own_max a b) := by unfold own_max; split <;> assumption
theorem own_mn1 {a p : Int64} (h : ¬ lcmpW (own_min a p) a = 0) : p < a := by
  rw [lw_eq] at h
  unfold own_min at h
  split at h
  · exact absurd rfl h
  · next q =>
    rw [Int64.lt_iff_toInt_lt] at q ⊢
    rw [← Int64.toInt_inj] at h
    omega
theorem own_mn0 {a p : Int64} (h : lcmpW (own_min a p) a = 0) : ¬ p < a := by
  rw [lw_eq] at h
  unfold own_min at h
  split at h
  · next q =>
    rw [Int64.lt_iff_toInt_lt] at q ⊢
    omega
  · rw [h]; exact Int64.lt_irrefl
theorem own_mx1 {a p : Int64} (h : ¬ lcmpW (own_max a p) a = 0) : a < p := by
  rw [lw_eq] at h
  unfold own_max at h
  split at h
  · assumption
  · exact absurd rfl h
theorem own_mx0 {a p : Int64} (h : lcmpW (own_max a p) a = 0) : ¬ a < p := by
  rw [lw_eq] at h
  unfold own_max at h
  split at h
  · next q => rw [h]; exact Int64.lt_irrefl
  · assumption
theorem own_dn {x y : Int32} (h : x.toInt64 < y.toInt64) : x < y := by
  rw [Int64.lt_iff_toInt_lt, c_i2l, c_i2l] at h
  rw [Int32.lt_iff_toInt_lt]
  exact h
theorem own_up {x y : Int32} (h : x < y) : x.toInt64 < y.toInt64 := by
  rw [Int64.lt_iff_toInt_lt, c_i2l, c_i2l]
  rw [Int32.lt_iff_toInt_lt] at h
  exact h

theorem own_pn_java_lang_Record : plainName "java/lang/Record" = true := by first | (simp [plainName, overriddenIn]; done) | decide +kernel
theorem ef_2 (m : MethodId) (x0 : Addr) : entryFrame m #[(.ref x0)] 1 = mkF m 0 #[.val (.ref x0)] [] := by first | (simp [entryFrame, mkF, argsToLocals, Value.category]; done) | rfl
theorem d2_0 : decode jdk_30_method_1_code 0 = .ok (.aload_n 0, 1) := by decide +kernel
theorem d2_1 : decode jdk_30_method_1_code 1 = .ok (.invokespecial 1, 3) := by decide +kernel
theorem d2_4 : decode jdk_30_method_1_code 4 = .ok (.return_, 1) := by decide +kernel
def Q2 (Z : State) (a1 : Addr) (h0 : Heap) (n0 : Nat) (v : Option Value) (h : Heap) (L : List Loc) : Prop := v = none ∧ Fr n0 L ∧ h = h0
set_option maxRecDepth 65536 in
set_option maxHeartbeats 40000000 in
theorem rm2 (l : Launch) (Z : State) (a0 : Array Value) (hw : ∀ d ∈ tables_1, d.before a0 Z = true) (ws : List Jvm.Cond) (a1 : Addr) (h0 : Heap) (n0 : Nat) (Z0 : n0 ≤ h0.size)  :
    MetFree l (⟨"java/lang/Record", "<init>", "()V"⟩ : MethodName) (head1 (Jvm.Cond.code (⟨"java/lang/Record", "<init>", "()V"⟩ : MethodName) jdk_30_method_1_code 1 none :: ws) ({ frames := 1, cells := 0, slots := 0, locals := 12 } : Room)) (fun a U => a = #[(.ref a1)] ∧ Z.Warmed39 U.vm ∧ U.heap = h0) (fun _ _ _ _ _ => True) (fun _ U o U' => ∃ v L, o = .returned v ∧ Q2 Z a1 h0 n0 v U'.heap L ∧ FrameEnd U o U' L ({ frames := 1, cells := 0, slots := 0, locals := 12 } : Room).cells ({ frames := 1, cells := 0, slots := 0, locals := 12 } : Room).slots) := by
  refine MetFree.of_bodySF (plainFor_of_name own_pn_java_lang_Record) hisR ?_
  intro p e s m args below meth c s₁ Bd hml0 hP hK
  obtain ⟨rfl, hZ, hh⟩ := hP
  have hx := Bd.exec
  have hby := Bd.bytes
  have hlk := Bd.notSynchronized
  have hml : c.maxLocals = 1 := hml0
  have hown : s.vm.findClass "java/lang/Record" = some m.cls := findClass_of_methodNamed Bd.named
  have hnm := (name_of_methodNamed Bd.named Bd.method).1
  have X0 : Stand p l e ({ frames := 1, cells := 0, slots := 0, locals := 12 } : Room) s m #[(.ref a1)] below meth c s₁ [] 0 0 := Stand.of_body Bd
  have e0 : s₁.heap = h0 := by rw [← hh, Bd.state]; rfl
  have N0 := Fr.nil n0
  show Go p e below (KQ s below (Q2 Z a1 h0 n0) ({ frames := 1, cells := 0, slots := 0, locals := 12 } : Room).cells ({ frames := 1, cells := 0, slots := 0, locals := 12 } : Room).slots) _
  refine Go.body (T := s₁) (σ := s₁) (g' := (mkF m 0 #[.val (.ref a1)] [])) (ef_2 m a1) ?_
  refine g_aloadN X0 hx (hb hby d2_0) 1 rfl (v := (.ref a1)) rfl rfl ?_
  obtain ⟨T1, X1, e1, st1⟩ := initO X0 hx hZ hown (hw _ (List.mem_of_getElem? (i := 11) rfl)) (hw _ (List.mem_of_getElem? (i := 12) rfl)) (hw _ (List.mem_of_getElem? (i := 13) rfl)) e0 (g := (mkF m 1 #[.val (.ref a1)] [(.ref a1)])) rfl (by rw [hml]; rfl) rfl (hb hby d2_1) (by decide) (W := 0) (by show 2 * 0 + _ ≤ _; exact Nat.le_of_eq rfl) (by decide)
  refine Go.st st1 ?_
  show Go p e below _ (T1.setTop (mkF m 4 #[.val (.ref a1)] []))
  refine Go.retV X1 hx hlk Bd.returns (hb hby d2_4) (by decide) (by decide) ?_
  show Q2 Z a1 h0 n0 _ T1.heap _
  rw [e1]
  exact ⟨rfl, N0, rfl⟩
theorem own_pn_com_example_peerpool_peerpool_core_Box : plainName "com/example/peerpool/peerpool/core/Box" = true := by first | (simp [plainName, overriddenIn]; done) | decide +kernel
theorem ef_1 (m : MethodId) (x0 : Addr) (x1 : UInt64) (x2 : UInt64) (x3 : UInt64) (x4 : UInt64) : entryFrame m #[(.ref x0), (.double x1), (.double x2), (.double x3), (.double x4)] 9 = mkF m 0 #[.val (.ref x0), .val (.double x1), .second, .val (.double x2), .second, .val (.double x3), .second, .val (.double x4), .second] [] := by first | (simp [entryFrame, mkF, argsToLocals, Value.category]; done) | rfl
theorem d1_0 : decode prog_1_method_1_code 0 = .ok (.aload_n 0, 1) := by decide +kernel
theorem own_pd0 : parseMethodDescriptor "()V" = some ⟨[], none⟩ := by decide +kernel
theorem d1_1 : decode prog_1_method_1_code 1 = .ok (.invokespecial 1, 3) := by decide +kernel
theorem d1_4 : decode prog_1_method_1_code 4 = .ok (.aload_n 0, 1) := by decide +kernel
theorem d1_5 : decode prog_1_method_1_code 5 = .ok (.dload_n 1, 1) := by decide +kernel
theorem d1_6 : decode prog_1_method_1_code 6 = .ok (.putfield 7, 3) := by decide +kernel
theorem d1_9 : decode prog_1_method_1_code 9 = .ok (.aload_n 0, 1) := by decide +kernel
theorem d1_10 : decode prog_1_method_1_code 10 = .ok (.dload_n 3, 1) := by decide +kernel
theorem d1_11 : decode prog_1_method_1_code 11 = .ok (.putfield 13, 3) := by decide +kernel
theorem d1_14 : decode prog_1_method_1_code 14 = .ok (.aload_n 0, 1) := by decide +kernel
theorem d1_15 : decode prog_1_method_1_code 15 = .ok (.dload 5, 2) := by decide +kernel
theorem d1_17 : decode prog_1_method_1_code 17 = .ok (.putfield 16, 3) := by decide +kernel
theorem d1_20 : decode prog_1_method_1_code 20 = .ok (.aload_n 0, 1) := by decide +kernel
theorem d1_21 : decode prog_1_method_1_code 21 = .ok (.dload 7, 2) := by decide +kernel
theorem d1_23 : decode prog_1_method_1_code 23 = .ok (.putfield 19, 3) := by decide +kernel
theorem d1_26 : decode prog_1_method_1_code 26 = .ok (.return_, 1) := by decide +kernel
def Q1 (Z : State) (a1 : Addr) (d1 : UInt64) (d2 : UInt64) (d3 : UInt64) (d4 : UInt64) (u0 : Value) (u1 : Value) (u2 : Value) (u3 : Value) (h0 : Heap) (n0 : Nat) (v : Option Value) (h : Heap) (L : List Loc) : Prop := v = none ∧ Fr n0 L ∧ Keep h0 h [a1] ∧ (Exa Z h a1 "com/example/peerpool/peerpool/core/Box") ∧ (Fld Z h a1 "com/example/peerpool/peerpool/core/Box" "minLat" "D" (.double d1)) ∧ (Fld Z h a1 "com/example/peerpool/peerpool/core/Box" "maxLat" "D" (.double d2)) ∧ (Fld Z h a1 "com/example/peerpool/peerpool/core/Box" "minLon" "D" (.double d3)) ∧ (Fld Z h a1 "com/example/peerpool/peerpool/core/Box" "maxLon" "D" (.double d4))
set_option maxRecDepth 65536 in
set_option maxHeartbeats 40000000 in
theorem rm1 (l : Launch) (Z : State) (a0 : Array Value) (hw : ∀ d ∈ tables_1, d.before a0 Z = true) (ws : List Jvm.Cond) (a1 : Addr) (d1 : UInt64) (d2 : UInt64) (d3 : UInt64) (d4 : UInt64) (u0 : Value) (u1 : Value) (u2 : Value) (u3 : Value) (h0 : Heap) (n0 : Nat) (Z0 : n0 ≤ h0.size) (E_a1 : Exa Z h0 a1 "com/example/peerpool/peerpool/core/Box") (g_a1 : n0 ≤ a1) (F_minLat_a1 : Fld Z h0 a1 "com/example/peerpool/peerpool/core/Box" "minLat" "D" u0) (F_maxLat_a1 : Fld Z h0 a1 "com/example/peerpool/peerpool/core/Box" "maxLat" "D" u1) (F_minLon_a1 : Fld Z h0 a1 "com/example/peerpool/peerpool/core/Box" "minLon" "D" u2) (F_maxLon_a1 : Fld Z h0 a1 "com/example/peerpool/peerpool/core/Box" "maxLon" "D" u3) :
    MetFree l (⟨"com/example/peerpool/peerpool/core/Box", "<init>", "(DDDD)V"⟩ : MethodName) (head1 (Jvm.Cond.code (⟨"com/example/peerpool/peerpool/core/Box", "<init>", "(DDDD)V"⟩ : MethodName) prog_1_method_1_code 9 none :: ws) ({ frames := 2, cells := 0, slots := 0, locals := 24 } : Room)) (fun a U => a = #[(.ref a1), (.double d1), (.double d2), (.double d3), (.double d4)] ∧ Z.Warmed39 U.vm ∧ U.heap = h0) (fun _ _ _ _ _ => True) (fun _ U o U' => ∃ v L, o = .returned v ∧ Q1 Z a1 d1 d2 d3 d4 u0 u1 u2 u3 h0 n0 v U'.heap L ∧ FrameEnd U o U' L ({ frames := 2, cells := 0, slots := 0, locals := 24 } : Room).cells ({ frames := 2, cells := 0, slots := 0, locals := 24 } : Room).slots) := by
  refine MetFree.of_bodySF (plainFor_of_name own_pn_com_example_peerpool_peerpool_core_Box) hisR ?_
  intro p e s m args below meth c s₁ Bd hml0 hP hK
  obtain ⟨rfl, hZ, hh⟩ := hP
  have hx := Bd.exec
  have hby := Bd.bytes
  have hlk := Bd.notSynchronized
  have hml : c.maxLocals = 9 := hml0
  have hown : s.vm.findClass "com/example/peerpool/peerpool/core/Box" = some m.cls := findClass_of_methodNamed Bd.named
  have hnm := (name_of_methodNamed Bd.named Bd.method).1
  have X0 : Stand p l e ({ frames := 2, cells := 0, slots := 0, locals := 24 } : Room) s m #[(.ref a1), (.double d1), (.double d2), (.double d3), (.double d4)] below meth c s₁ [] 0 0 := Stand.of_body Bd
  have e0 : s₁.heap = h0 := by rw [← hh, Bd.state]; rfl
  have N0 := Fr.nil n0
  have K0 : Keep h0 h0 [a1] := Keep.refl _ _
  show Go p e below (KQ s below (Q1 Z a1 d1 d2 d3 d4 u0 u1 u2 u3 h0 n0) ({ frames := 2, cells := 0, slots := 0, locals := 24 } : Room).cells ({ frames := 2, cells := 0, slots := 0, locals := 24 } : Room).slots) _
  refine Go.body (T := s₁) (σ := s₁) (g' := (mkF m 0 #[.val (.ref a1), .val (.double d1), .second, .val (.double d2), .second, .val (.double d3), .second, .val (.double d4), .second] [])) (ef_1 m a1 d1 d2 d3 d4) ?_
  refine g_aloadN X0 hx (hb hby d1_0) 1 rfl (v := (.ref a1)) rfl rfl ?_
  obtain ⟨_, _, ⟨T2, L2, k2, n2⟩, -, X2, ⟨Lc2, hQ2, l2, y2, z2⟩, st2⟩ := X0.specialBack hx (y := (⟨"java/lang/Record", "<init>", "()V"⟩ : MethodName)) rfl hown (mvT hZ (hw _ (List.mem_of_getElem? (i := 6) rfl))) (mvT hZ (hw _ (List.mem_of_getElem? (i := 7) rfl))) (mvT hZ (hw _ (List.mem_of_getElem? (i := 10) rfl))) (by decide) (backOf (W := 0) (rm2 l Z a0 hw [] a1 h0 n0 Z0 ) hZ (hw _ (List.mem_of_getElem? (i := 10) rfl)) (hw _ (List.mem_of_getElem? (i := 9) rfl)) (by decide) (by decide)) (g := (mkF m 1 #[.val (.ref a1), .val (.double d1), .second, .val (.double d2), .second, .val (.double d3), .second, .val (.double d4), .second] [(.ref a1)])) rfl (by rw [hml]; rfl) (Steps.refl _) (a := a1) (argsL := []) (rest := []) (lenOf own_pd0 rfl) rfl (by show 2 * 0 + _ ≤ _; exact Nat.le_of_eq rfl) (hb hby d1_1) (fun _ _ => ⟨rfl, e0, (by decide : 0 + 0 ≤ _), (by decide : 0 + 0 ≤ _)⟩)
  dsimp only [Pt.U, Pt.locs, Pt.cells, Pt.slots] at X2 l2 y2 z2 st2 hQ2
  subst l2 y2 z2
  obtain ⟨rfl, Nq2, e2⟩ := hQ2
  refine Go.tr st2 ?_
  have N2 := Fr.app N0 Nq2
  show Go p e below _ (T2.setTop (mkF m 4 #[.val (.ref a1), .val (.double d1), .second, .val (.double d2), .second, .val (.double d3), .second, .val (.double d4), .second] []))
  refine g_aloadN X2 hx (hb hby d1_4) 5 rfl (v := (.ref a1)) rfl rfl ?_
  refine g_dloadN X2 hx (hb hby d1_5) 6 rfl (v := d1) rfl ?_
  obtain ⟨T3, h3, X3, e3, W3, st3⟩ := putF X2 hx hZ hown (host := "") (Or.inl (hw _ (List.mem_of_getElem? (i := 14) rfl))) Via.refl e2 F_minLat_a1 E_a1 (Or.inr ⟨(hw _ (List.mem_of_getElem? (i := 15) rfl)), rfl, hnm⟩) (hw _ (List.mem_of_getElem? (i := 1) rfl)) (ty := .double) (by decide) rfl rfl (g := (mkF m 6 #[.val (.ref a1), .val (.double d1), .second, .val (.double d2), .second, .val (.double d3), .second, .val (.double d4), .second] [(.double d1), (.ref a1)])) rfl rfl (hb hby d1_6)
  refine Go.st st3 ?_
  have E_a1_4 : Exa Z h3 a1 "com/example/peerpool/peerpool/core/Box" := Exa.wr W3 E_a1
  have F_maxLat_a1_4 : Fld Z h3 a1 "com/example/peerpool/peerpool/core/Box" "maxLat" "D" u1 := Fld.other W3 F_maxLat_a1 (Or.inr (slot_ne (Or.inr (hw _ (List.mem_of_getElem? (i := 17) rfl))) (Or.inr (hw _ (List.mem_of_getElem? (i := 15) rfl))) (by decide) (t := .double) (t' := .double) (by decide) (by decide)))
  have F_minLon_a1_4 : Fld Z h3 a1 "com/example/peerpool/peerpool/core/Box" "minLon" "D" u2 := Fld.other W3 F_minLon_a1 (Or.inr (slot_ne (Or.inr (hw _ (List.mem_of_getElem? (i := 19) rfl))) (Or.inr (hw _ (List.mem_of_getElem? (i := 15) rfl))) (by decide) (t := .double) (t' := .double) (by decide) (by decide)))
  have F_maxLon_a1_4 : Fld Z h3 a1 "com/example/peerpool/peerpool/core/Box" "maxLon" "D" u3 := Fld.other W3 F_maxLon_a1 (Or.inr (slot_ne (Or.inr (hw _ (List.mem_of_getElem? (i := 21) rfl))) (Or.inr (hw _ (List.mem_of_getElem? (i := 15) rfl))) (by decide) (t := .double) (t' := .double) (by decide) (by decide)))
  have F_minLat_a1_3w : Fld Z h3 a1 "com/example/peerpool/peerpool/core/Box" "minLat" "D" (.double d1) := Fld.same W3 F_minLat_a1
  have K3 : Keep h0 h3 [a1] := Keep.wr K0 W3 (Or.inl (List.mem_of_getElem? (i := 0) rfl))
  have N3 := Fr.snoc X3 N2 g_a1
  have Zs3 : n0 ≤ h3.size := by rw [W3.size]; exact Z0
  show Go p e below _ (T3.setTop (mkF m 9 #[.val (.ref a1), .val (.double d1), .second, .val (.double d2), .second, .val (.double d3), .second, .val (.double d4), .second] []))
  refine g_aloadN X3 hx (hb hby d1_9) 10 rfl (v := (.ref a1)) rfl rfl ?_
  refine g_dloadN X3 hx (hb hby d1_10) 11 rfl (v := d2) rfl ?_
  obtain ⟨T5, h5, X5, e5, W5, st5⟩ := putF X3 hx hZ hown (host := "") (Or.inl (hw _ (List.mem_of_getElem? (i := 16) rfl))) Via.refl e3 F_maxLat_a1_4 E_a1_4 (Or.inr ⟨(hw _ (List.mem_of_getElem? (i := 17) rfl)), rfl, hnm⟩) (hw _ (List.mem_of_getElem? (i := 1) rfl)) (ty := .double) (by decide) rfl rfl (g := (mkF m 11 #[.val (.ref a1), .val (.double d1), .second, .val (.double d2), .second, .val (.double d3), .second, .val (.double d4), .second] [(.double d2), (.ref a1)])) rfl rfl (hb hby d1_11)
  refine Go.st st5 ?_
  have E_a1_6 : Exa Z h5 a1 "com/example/peerpool/peerpool/core/Box" := Exa.wr W5 E_a1_4
  have F_minLon_a1_6 : Fld Z h5 a1 "com/example/peerpool/peerpool/core/Box" "minLon" "D" u2 := Fld.other W5 F_minLon_a1_4 (Or.inr (slot_ne (Or.inr (hw _ (List.mem_of_getElem? (i := 19) rfl))) (Or.inr (hw _ (List.mem_of_getElem? (i := 17) rfl))) (by decide) (t := .double) (t' := .double) (by decide) (by decide)))
  have F_maxLon_a1_6 : Fld Z h5 a1 "com/example/peerpool/peerpool/core/Box" "maxLon" "D" u3 := Fld.other W5 F_maxLon_a1_4 (Or.inr (slot_ne (Or.inr (hw _ (List.mem_of_getElem? (i := 21) rfl))) (Or.inr (hw _ (List.mem_of_getElem? (i := 17) rfl))) (by decide) (t := .double) (t' := .double) (by decide) (by decide)))
  have F_minLat_a1_6 : Fld Z h5 a1 "com/example/peerpool/peerpool/core/Box" "minLat" "D" (.double d1) := Fld.other W5 F_minLat_a1_3w (Or.inr (slot_ne (Or.inr (hw _ (List.mem_of_getElem? (i := 15) rfl))) (Or.inr (hw _ (List.mem_of_getElem? (i := 17) rfl))) (by decide) (t := .double) (t' := .double) (by decide) (by decide)))
  have F_maxLat_a1_5w : Fld Z h5 a1 "com/example/peerpool/peerpool/core/Box" "maxLat" "D" (.double d2) := Fld.same W5 F_maxLat_a1_4
  have K5 : Keep h0 h5 [a1] := Keep.wr K3 W5 (Or.inl (List.mem_of_getElem? (i := 0) rfl))
  have N5 := Fr.snoc X5 N3 g_a1
  have Zs5 : n0 ≤ h5.size := by rw [W5.size]; exact Zs3
  show Go p e below _ (T5.setTop (mkF m 14 #[.val (.ref a1), .val (.double d1), .second, .val (.double d2), .second, .val (.double d3), .second, .val (.double d4), .second] []))
  refine g_aloadN X5 hx (hb hby d1_14) 15 rfl (v := (.ref a1)) rfl rfl ?_
  refine g_dload X5 hx (hb hby d1_15) 17 rfl (v := d3) rfl ?_
  obtain ⟨T7, h7, X7, e7, W7, st7⟩ := putF X5 hx hZ hown (host := "") (Or.inl (hw _ (List.mem_of_getElem? (i := 18) rfl))) Via.refl e5 F_minLon_a1_6 E_a1_6 (Or.inr ⟨(hw _ (List.mem_of_getElem? (i := 19) rfl)), rfl, hnm⟩) (hw _ (List.mem_of_getElem? (i := 1) rfl)) (ty := .double) (by decide) rfl rfl (g := (mkF m 17 #[.val (.ref a1), .val (.double d1), .second, .val (.double d2), .second, .val (.double d3), .second, .val (.double d4), .second] [(.double d3), (.ref a1)])) rfl rfl (hb hby d1_17)
  refine Go.st st7 ?_
  have E_a1_8 : Exa Z h7 a1 "com/example/peerpool/peerpool/core/Box" := Exa.wr W7 E_a1_6
  have F_maxLon_a1_8 : Fld Z h7 a1 "com/example/peerpool/peerpool/core/Box" "maxLon" "D" u3 := Fld.other W7 F_maxLon_a1_6 (Or.inr (slot_ne (Or.inr (hw _ (List.mem_of_getElem? (i := 21) rfl))) (Or.inr (hw _ (List.mem_of_getElem? (i := 19) rfl))) (by decide) (t := .double) (t' := .double) (by decide) (by decide)))
  have F_minLat_a1_8 : Fld Z h7 a1 "com/example/peerpool/peerpool/core/Box" "minLat" "D" (.double d1) := Fld.other W7 F_minLat_a1_6 (Or.inr (slot_ne (Or.inr (hw _ (List.mem_of_getElem? (i := 15) rfl))) (Or.inr (hw _ (List.mem_of_getElem? (i := 19) rfl))) (by decide) (t := .double) (t' := .double) (by decide) (by decide)))
  have F_maxLat_a1_8 : Fld Z h7 a1 "com/example/peerpool/peerpool/core/Box" "maxLat" "D" (.double d2) := Fld.other W7 F_maxLat_a1_5w (Or.inr (slot_ne (Or.inr (hw _ (List.mem_of_getElem? (i := 17) rfl))) (Or.inr (hw _ (List.mem_of_getElem? (i := 19) rfl))) (by decide) (t := .double) (t' := .double) (by decide) (by decide)))
  have F_minLon_a1_7w : Fld Z h7 a1 "com/example/peerpool/peerpool/core/Box" "minLon" "D" (.double d3) := Fld.same W7 F_minLon_a1_6
  have K7 : Keep h0 h7 [a1] := Keep.wr K5 W7 (Or.inl (List.mem_of_getElem? (i := 0) rfl))
  have N7 := Fr.snoc X7 N5 g_a1
  have Zs7 : n0 ≤ h7.size := by rw [W7.size]; exact Zs5
  show Go p e below _ (T7.setTop (mkF m 20 #[.val (.ref a1), .val (.double d1), .second, .val (.double d2), .second, .val (.double d3), .second, .val (.double d4), .second] []))
  refine g_aloadN X7 hx (hb hby d1_20) 21 rfl (v := (.ref a1)) rfl rfl ?_
  refine g_dload X7 hx (hb hby d1_21) 23 rfl (v := d4) rfl ?_
  obtain ⟨T9, h9, X9, e9, W9, st9⟩ := putF X7 hx hZ hown (host := "") (Or.inl (hw _ (List.mem_of_getElem? (i := 20) rfl))) Via.refl e7 F_maxLon_a1_8 E_a1_8 (Or.inr ⟨(hw _ (List.mem_of_getElem? (i := 21) rfl)), rfl, hnm⟩) (hw _ (List.mem_of_getElem? (i := 1) rfl)) (ty := .double) (by decide) rfl rfl (g := (mkF m 23 #[.val (.ref a1), .val (.double d1), .second, .val (.double d2), .second, .val (.double d3), .second, .val (.double d4), .second] [(.double d4), (.ref a1)])) rfl rfl (hb hby d1_23)
  refine Go.st st9 ?_
  have E_a1_10 : Exa Z h9 a1 "com/example/peerpool/peerpool/core/Box" := Exa.wr W9 E_a1_8
  have F_minLat_a1_10 : Fld Z h9 a1 "com/example/peerpool/peerpool/core/Box" "minLat" "D" (.double d1) := Fld.other W9 F_minLat_a1_8 (Or.inr (slot_ne (Or.inr (hw _ (List.mem_of_getElem? (i := 15) rfl))) (Or.inr (hw _ (List.mem_of_getElem? (i := 21) rfl))) (by decide) (t := .double) (t' := .double) (by decide) (by decide)))
  have F_maxLat_a1_10 : Fld Z h9 a1 "com/example/peerpool/peerpool/core/Box" "maxLat" "D" (.double d2) := Fld.other W9 F_maxLat_a1_8 (Or.inr (slot_ne (Or.inr (hw _ (List.mem_of_getElem? (i := 17) rfl))) (Or.inr (hw _ (List.mem_of_getElem? (i := 21) rfl))) (by decide) (t := .double) (t' := .double) (by decide) (by decide)))
  have F_minLon_a1_10 : Fld Z h9 a1 "com/example/peerpool/peerpool/core/Box" "minLon" "D" (.double d3) := Fld.other W9 F_minLon_a1_7w (Or.inr (slot_ne (Or.inr (hw _ (List.mem_of_getElem? (i := 19) rfl))) (Or.inr (hw _ (List.mem_of_getElem? (i := 21) rfl))) (by decide) (t := .double) (t' := .double) (by decide) (by decide)))
  have F_maxLon_a1_9w : Fld Z h9 a1 "com/example/peerpool/peerpool/core/Box" "maxLon" "D" (.double d4) := Fld.same W9 F_maxLon_a1_8
  have K9 : Keep h0 h9 [a1] := Keep.wr K7 W9 (Or.inl (List.mem_of_getElem? (i := 0) rfl))
  have N9 := Fr.snoc X9 N7 g_a1
  have Zs9 : n0 ≤ h9.size := by rw [W9.size]; exact Zs7
  show Go p e below _ (T9.setTop (mkF m 26 #[.val (.ref a1), .val (.double d1), .second, .val (.double d2), .second, .val (.double d3), .second, .val (.double d4), .second] []))
  refine Go.retV X9 hx hlk Bd.returns (hb hby d1_26) (by decide) (by decide) ?_
  show Q1 Z a1 d1 d2 d3 d4 u0 u1 u2 u3 h0 n0 _ T9.heap _
  rw [e9]
  exact ⟨rfl, N9, K9, E_a1_10, F_minLat_a1_10, F_maxLat_a1_10, F_minLon_a1_10, F_maxLon_a1_9w⟩
theorem ef_4 (m : MethodId) (x0 : Addr) (x1 : UInt64) (x2 : UInt64) : entryFrame m #[(.ref x0), (.double x1), (.double x2)] 5 = mkF m 0 #[.val (.ref x0), .val (.double x1), .second, .val (.double x2), .second] [] := by first | (simp [entryFrame, mkF, argsToLocals, Value.category]; done) | rfl
theorem d4_0 : decode prog_1_method_4_code 0 = .ok (.dload_n 1, 1) := by decide +kernel
theorem d4_1 : decode prog_1_method_4_code 1 = .ok (.aload_n 0, 1) := by decide +kernel
theorem d4_2 : decode prog_1_method_4_code 2 = .ok (.getfield 7, 3) := by decide +kernel
theorem d4_5 : decode prog_1_method_4_code 5 = .ok (.dcmp .l, 1) := by decide +kernel
theorem d4_6 : decode prog_1_method_4_code 6 = .ok (.ifCond .lt 34, 3) := by decide +kernel
theorem d4_40 : decode prog_1_method_4_code 40 = .ok (.iconst 0, 1) := by decide +kernel
theorem d4_41 : decode prog_1_method_4_code 41 = .ok (.ireturn, 1) := by decide +kernel
theorem d4_9 : decode prog_1_method_4_code 9 = .ok (.dload_n 1, 1) := by decide +kernel
theorem d4_10 : decode prog_1_method_4_code 10 = .ok (.aload_n 0, 1) := by decide +kernel
theorem d4_11 : decode prog_1_method_4_code 11 = .ok (.getfield 13, 3) := by decide +kernel
theorem d4_14 : decode prog_1_method_4_code 14 = .ok (.dcmp .g, 1) := by decide +kernel
theorem d4_15 : decode prog_1_method_4_code 15 = .ok (.ifCond .gt 25, 3) := by decide +kernel
theorem d4_18 : decode prog_1_method_4_code 18 = .ok (.dload_n 3, 1) := by decide +kernel
theorem d4_19 : decode prog_1_method_4_code 19 = .ok (.aload_n 0, 1) := by decide +kernel
theorem d4_20 : decode prog_1_method_4_code 20 = .ok (.getfield 16, 3) := by decide +kernel
theorem d4_23 : decode prog_1_method_4_code 23 = .ok (.dcmp .l, 1) := by decide +kernel
theorem d4_24 : decode prog_1_method_4_code 24 = .ok (.ifCond .lt 16, 3) := by decide +kernel
theorem d4_27 : decode prog_1_method_4_code 27 = .ok (.dload_n 3, 1) := by decide +kernel
theorem d4_28 : decode prog_1_method_4_code 28 = .ok (.aload_n 0, 1) := by decide +kernel
theorem d4_29 : decode prog_1_method_4_code 29 = .ok (.getfield 19, 3) := by decide +kernel
theorem d4_32 : decode prog_1_method_4_code 32 = .ok (.dcmp .g, 1) := by decide +kernel
theorem d4_33 : decode prog_1_method_4_code 33 = .ok (.ifCond .gt 7, 3) := by decide +kernel
theorem d4_36 : decode prog_1_method_4_code 36 = .ok (.iconst 1, 1) := by decide +kernel
theorem d4_37 : decode prog_1_method_4_code 37 = .ok (.goto 4, 3) := by decide +kernel
def Q4 (Z : State) (a1 : Addr) (xa : Int64) (xb : Int64) (xc : Int64) (xd : Int64) (yp : Int64) (yq : Int64) (h0 : Heap) (n0 : Nat) (v : Option Value) (h : Heap) (L : List Loc) : Prop := ∃ r : Int32, v = some (.int r) ∧ Fr n0 L ∧ h = h0 ∧ (r = if (yp < xa ∨ xb < yp ∨ yq < xc ∨ xd < yq) then 0 else 1)
set_option maxRecDepth 65536 in
set_option maxHeartbeats 40000000 in
theorem rm4 (l : Launch) (Z : State) (a0 : Array Value) (hw : ∀ d ∈ tables_1, d.before a0 Z = true) (ws : List Jvm.Cond) (a1 : Addr) (xa : Int64) (xb : Int64) (xc : Int64) (xd : Int64) (yp : Int64) (yq : Int64) (h0 : Heap) (n0 : Nat) (Z0 : n0 ≤ h0.size) (F_minLat_a1 : Fld Z h0 a1 "com/example/peerpool/peerpool/core/Box" "minLat" "D" (.double (FP.l2d xa))) (F_maxLat_a1 : Fld Z h0 a1 "com/example/peerpool/peerpool/core/Box" "maxLat" "D" (.double (FP.l2d xb))) (F_minLon_a1 : Fld Z h0 a1 "com/example/peerpool/peerpool/core/Box" "minLon" "D" (.double (FP.l2d xc))) (F_maxLon_a1 : Fld Z h0 a1 "com/example/peerpool/peerpool/core/Box" "maxLon" "D" (.double (FP.l2d xd))) (h_xa : B53 xa) (h_xb : B53 xb) (h_xc : B53 xc) (h_xd : B53 xd) (h_yp : B53 yp) (h_yq : B53 yq) :
    MetFree l (⟨"com/example/peerpool/peerpool/core/Box", "contains", "(DD)Z"⟩ : MethodName) (head1 (Jvm.Cond.code (⟨"com/example/peerpool/peerpool/core/Box", "contains", "(DD)Z"⟩ : MethodName) prog_1_method_4_code 5 (some .boolean) :: ws) ({ frames := 0, cells := 0, slots := 0, locals := 0 } : Room)) (fun a U => a = #[(.ref a1), (.double (FP.l2d yp)), (.double (FP.l2d yq))] ∧ Z.Warmed39 U.vm ∧ U.heap = h0) (fun _ _ _ _ _ => True) (fun _ U o U' => ∃ v L, o = .returned v ∧ Q4 Z a1 xa xb xc xd yp yq h0 n0 v U'.heap L ∧ FrameEnd U o U' L ({ frames := 0, cells := 0, slots := 0, locals := 0 } : Room).cells ({ frames := 0, cells := 0, slots := 0, locals := 0 } : Room).slots) := by
  refine MetFree.of_bodySF (plainFor_of_name own_pn_com_example_peerpool_peerpool_core_Box) hisR ?_
  intro p e s m args below meth c s₁ Bd hml0 hP hK
  obtain ⟨rfl, hZ, hh⟩ := hP
  have hx := Bd.exec
  have hby := Bd.bytes
  have hlk := Bd.notSynchronized
  have hml : c.maxLocals = 5 := hml0
  have hown : s.vm.findClass "com/example/peerpool/peerpool/core/Box" = some m.cls := findClass_of_methodNamed Bd.named
  have hnm := (name_of_methodNamed Bd.named Bd.method).1
  have X0 : Stand p l e ({ frames := 0, cells := 0, slots := 0, locals := 0 } : Room) s m #[(.ref a1), (.double (FP.l2d yp)), (.double (FP.l2d yq))] below meth c s₁ [] 0 0 := Stand.of_body Bd
  have e0 : s₁.heap = h0 := by rw [← hh, Bd.state]; rfl
  have N0 := Fr.nil n0
  show Go p e below (KQ s below (Q4 Z a1 xa xb xc xd yp yq h0 n0) ({ frames := 0, cells := 0, slots := 0, locals := 0 } : Room).cells ({ frames := 0, cells := 0, slots := 0, locals := 0 } : Room).slots) _
  refine Go.body (T := s₁) (σ := s₁) (g' := (mkF m 0 #[.val (.ref a1), .val (.double (FP.l2d yp)), .second, .val (.double (FP.l2d yq)), .second] [])) (ef_4 m a1 (FP.l2d yp) (FP.l2d yq)) ?_
  refine g_dloadN X0 hx (hb hby d4_0) 1 rfl (v := (FP.l2d yp)) rfl ?_
  refine g_aloadN X0 hx (hb hby d4_1) 2 rfl (v := (.ref a1)) rfl rfl ?_
  obtain ⟨T11, X11, e11, st11⟩ := getF X0 hx hZ hown (host := "") (Or.inl (hw _ (List.mem_of_getElem? (i := 14) rfl))) Via.refl e0 F_minLat_a1 (g := (mkF m 2 #[.val (.ref a1), .val (.double (FP.l2d yp)), .second, .val (.double (FP.l2d yq)), .second] [(.ref a1), (.double (FP.l2d yp))])) rfl rfl (hb hby d4_2)
  refine Go.st st11 ?_
  show Go p e below _ (T11.setTop (mkF m 5 #[.val (.ref a1), .val (.double (FP.l2d yp)), .second, .val (.double (FP.l2d yq)), .second] [(.double (FP.l2d xa)), (.double (FP.l2d yp))]))
  refine g_dcmp X11 hx (hb hby d4_5) 6 rfl (lcmpW yp xa) (dcmpV_w h_yp h_xa _) ?_
  refine g_if_lt X11 hx (hb hby d4_6) 40 9 (by decide) (by decide) rfl (fun hc6 => ?_) (fun hc6 => ?_)
  · refine g_iconst X11 hx (hb hby d4_40) 41 rfl (0 : Int32) rfl ?_
    refine Go.retN X11 hx hlk (t := .boolean) Bd.returns (by simp) (hb hby d4_41) (by decide) (by decide) ?_
    show Q4 Z a1 xa xb xc xd yp yq h0 n0 _ T11.heap _
    rw [e11]
    exact ⟨(0 : Int32), rfl, N0, rfl, (if_pos (Or.inl ((lw_lt _ _).mp hc6))).symm⟩
  · refine g_dloadN X11 hx (hb hby d4_9) 10 rfl (v := (FP.l2d yp)) rfl ?_
    refine g_aloadN X11 hx (hb hby d4_10) 11 rfl (v := (.ref a1)) rfl rfl ?_
    obtain ⟨T12, X12, e12, st12⟩ := getF X11 hx hZ hown (host := "") (Or.inl (hw _ (List.mem_of_getElem? (i := 16) rfl))) Via.refl e11 F_maxLat_a1 (g := (mkF m 11 #[.val (.ref a1), .val (.double (FP.l2d yp)), .second, .val (.double (FP.l2d yq)), .second] [(.ref a1), (.double (FP.l2d yp))])) rfl rfl (hb hby d4_11)
    refine Go.st st12 ?_
    show Go p e below _ (T12.setTop (mkF m 14 #[.val (.ref a1), .val (.double (FP.l2d yp)), .second, .val (.double (FP.l2d yq)), .second] [(.double (FP.l2d xb)), (.double (FP.l2d yp))]))
    refine g_dcmp X12 hx (hb hby d4_14) 15 rfl (lcmpW yp xb) (dcmpV_w h_yp h_xb _) ?_
    refine g_if_gt X12 hx (hb hby d4_15) 40 18 (by decide) (by decide) rfl (fun hc15 => ?_) (fun hc15 => ?_)
    · refine g_iconst X12 hx (hb hby d4_40) 41 rfl (0 : Int32) rfl ?_
      refine Go.retN X12 hx hlk (t := .boolean) Bd.returns (by simp) (hb hby d4_41) (by decide) (by decide) ?_
      show Q4 Z a1 xa xb xc xd yp yq h0 n0 _ T12.heap _
      rw [e12]
      exact ⟨(0 : Int32), rfl, N0, rfl, (if_pos (Or.inr (Or.inl ((lw_gt _ _).mp hc15)))).symm⟩
    · refine g_dloadN X12 hx (hb hby d4_18) 19 rfl (v := (FP.l2d yq)) rfl ?_
      refine g_aloadN X12 hx (hb hby d4_19) 20 rfl (v := (.ref a1)) rfl rfl ?_
      obtain ⟨T13, X13, e13, st13⟩ := getF X12 hx hZ hown (host := "") (Or.inl (hw _ (List.mem_of_getElem? (i := 18) rfl))) Via.refl e12 F_minLon_a1 (g := (mkF m 20 #[.val (.ref a1), .val (.double (FP.l2d yp)), .second, .val (.double (FP.l2d yq)), .second] [(.ref a1), (.double (FP.l2d yq))])) rfl rfl (hb hby d4_20)
      refine Go.st st13 ?_
      show Go p e below _ (T13.setTop (mkF m 23 #[.val (.ref a1), .val (.double (FP.l2d yp)), .second, .val (.double (FP.l2d yq)), .second] [(.double (FP.l2d xc)), (.double (FP.l2d yq))]))
      refine g_dcmp X13 hx (hb hby d4_23) 24 rfl (lcmpW yq xc) (dcmpV_w h_yq h_xc _) ?_
      refine g_if_lt X13 hx (hb hby d4_24) 40 27 (by decide) (by decide) rfl (fun hc24 => ?_) (fun hc24 => ?_)
      · refine g_iconst X13 hx (hb hby d4_40) 41 rfl (0 : Int32) rfl ?_
        refine Go.retN X13 hx hlk (t := .boolean) Bd.returns (by simp) (hb hby d4_41) (by decide) (by decide) ?_
        show Q4 Z a1 xa xb xc xd yp yq h0 n0 _ T13.heap _
        rw [e13]
        exact ⟨(0 : Int32), rfl, N0, rfl, (if_pos (Or.inr (Or.inr (Or.inl ((lw_lt _ _).mp hc24))))).symm⟩
      · refine g_dloadN X13 hx (hb hby d4_27) 28 rfl (v := (FP.l2d yq)) rfl ?_
        refine g_aloadN X13 hx (hb hby d4_28) 29 rfl (v := (.ref a1)) rfl rfl ?_
        obtain ⟨T14, X14, e14, st14⟩ := getF X13 hx hZ hown (host := "") (Or.inl (hw _ (List.mem_of_getElem? (i := 20) rfl))) Via.refl e13 F_maxLon_a1 (g := (mkF m 29 #[.val (.ref a1), .val (.double (FP.l2d yp)), .second, .val (.double (FP.l2d yq)), .second] [(.ref a1), (.double (FP.l2d yq))])) rfl rfl (hb hby d4_29)
        refine Go.st st14 ?_
        show Go p e below _ (T14.setTop (mkF m 32 #[.val (.ref a1), .val (.double (FP.l2d yp)), .second, .val (.double (FP.l2d yq)), .second] [(.double (FP.l2d xd)), (.double (FP.l2d yq))]))
        refine g_dcmp X14 hx (hb hby d4_32) 33 rfl (lcmpW yq xd) (dcmpV_w h_yq h_xd _) ?_
        refine g_if_gt X14 hx (hb hby d4_33) 40 36 (by decide) (by decide) rfl (fun hc33 => ?_) (fun hc33 => ?_)
        · refine g_iconst X14 hx (hb hby d4_40) 41 rfl (0 : Int32) rfl ?_
          refine Go.retN X14 hx hlk (t := .boolean) Bd.returns (by simp) (hb hby d4_41) (by decide) (by decide) ?_
          show Q4 Z a1 xa xb xc xd yp yq h0 n0 _ T14.heap _
          rw [e14]
          exact ⟨(0 : Int32), rfl, N0, rfl, (if_pos (Or.inr (Or.inr (Or.inr ((lw_gt _ _).mp hc33))))).symm⟩
        · refine g_iconst X14 hx (hb hby d4_36) 37 rfl (1 : Int32) rfl ?_
          refine g_goto X14 hx (hb hby d4_37) 41 (by decide) (by decide) ?_
          refine Go.retN X14 hx hlk (t := .boolean) Bd.returns (by simp) (hb hby d4_41) (by decide) (by decide) ?_
          show Q4 Z a1 xa xb xc xd yp yq h0 n0 _ T14.heap _
          rw [e14]
          exact ⟨(1 : Int32), rfl, N0, rfl, (if_neg (fun z => z.elim (fun z => hc6 ((lw_lt _ _).mpr z)) (fun z => z.elim (fun z => hc15 ((lw_gt _ _).mpr z)) (fun z => z.elim (fun z => hc24 ((lw_lt _ _).mpr z)) (fun z => hc33 ((lw_gt _ _).mpr z)))))).symm⟩
theorem ef_5 (m : MethodId) (x0 : Addr) (x1 : Addr) : entryFrame m #[(.ref x0), (.ref x1)] 2 = mkF m 0 #[.val (.ref x0), .val (.ref x1)] [] := by first | (simp [entryFrame, mkF, argsToLocals, Value.category]; done) | rfl
theorem d5_0 : decode prog_1_method_3_code 0 = .ok (.new 8, 3) := by decide +kernel
theorem d5_3 : decode prog_1_method_3_code 3 = .ok (.dup, 1) := by decide +kernel
theorem d5_4 : decode prog_1_method_3_code 4 = .ok (.aload_n 0, 1) := by decide +kernel
theorem d5_5 : decode prog_1_method_3_code 5 = .ok (.getfield 7, 3) := by decide +kernel
theorem d5_8 : decode prog_1_method_3_code 8 = .ok (.aload_n 1, 1) := by decide +kernel
theorem d5_9 : decode prog_1_method_3_code 9 = .ok (.getfield 7, 3) := by decide +kernel
theorem own_pd1 : parseMethodDescriptor "(DD)D" = some ⟨[.double, .double], some .double⟩ := by decide +kernel
theorem d5_12 : decode prog_1_method_3_code 12 = .ok (.invokestatic 22, 3) := by decide +kernel
theorem d5_15 : decode prog_1_method_3_code 15 = .ok (.aload_n 0, 1) := by decide +kernel
theorem d5_16 : decode prog_1_method_3_code 16 = .ok (.getfield 13, 3) := by decide +kernel
theorem d5_19 : decode prog_1_method_3_code 19 = .ok (.aload_n 1, 1) := by decide +kernel
theorem d5_20 : decode prog_1_method_3_code 20 = .ok (.getfield 13, 3) := by decide +kernel
theorem d5_23 : decode prog_1_method_3_code 23 = .ok (.invokestatic 28, 3) := by decide +kernel
theorem d5_26 : decode prog_1_method_3_code 26 = .ok (.aload_n 0, 1) := by decide +kernel
theorem d5_27 : decode prog_1_method_3_code 27 = .ok (.getfield 16, 3) := by decide +kernel
theorem d5_30 : decode prog_1_method_3_code 30 = .ok (.aload_n 1, 1) := by decide +kernel
theorem d5_31 : decode prog_1_method_3_code 31 = .ok (.getfield 16, 3) := by decide +kernel
theorem d5_34 : decode prog_1_method_3_code 34 = .ok (.invokestatic 22, 3) := by decide +kernel
theorem d5_37 : decode prog_1_method_3_code 37 = .ok (.aload_n 0, 1) := by decide +kernel
theorem d5_38 : decode prog_1_method_3_code 38 = .ok (.getfield 19, 3) := by decide +kernel
theorem d5_41 : decode prog_1_method_3_code 41 = .ok (.aload_n 1, 1) := by decide +kernel
theorem d5_42 : decode prog_1_method_3_code 42 = .ok (.getfield 19, 3) := by decide +kernel
theorem d5_45 : decode prog_1_method_3_code 45 = .ok (.invokestatic 28, 3) := by decide +kernel
theorem own_pd2 : parseMethodDescriptor "(DDDD)V" = some ⟨[.double, .double, .double, .double], none⟩ := by decide +kernel
theorem d5_48 : decode prog_1_method_3_code 48 = .ok (.invokespecial 31, 3) := by decide +kernel
theorem d5_51 : decode prog_1_method_3_code 51 = .ok (.areturn, 1) := by decide +kernel
def Q5 (Z : State) (a1 : Addr) (a2 : Addr) (xa : Int64) (xb : Int64) (xc : Int64) (xd : Int64) (yp : Int64) (yq : Int64) (h0 : Heap) (n0 : Nat) (v : Option Value) (h : Heap) (L : List Loc) : Prop := ∃ o : Addr, v = some (.ref o) ∧ Fr n0 L ∧ Keep h0 h [] ∧ h0.size ≤ o ∧ (Exa Z h o "com/example/peerpool/peerpool/core/Box") ∧ (Fld Z h o "com/example/peerpool/peerpool/core/Box" "minLat" "D" (.double (FP.l2d (own_min xa yp)))) ∧ (Fld Z h o "com/example/peerpool/peerpool/core/Box" "maxLat" "D" (.double (FP.l2d (own_max xb yp)))) ∧ (Fld Z h o "com/example/peerpool/peerpool/core/Box" "minLon" "D" (.double (FP.l2d (own_min xc yq)))) ∧ (Fld Z h o "com/example/peerpool/peerpool/core/Box" "maxLon" "D" (.double (FP.l2d (own_max xd yq))))
set_option maxRecDepth 65536 in
set_option maxHeartbeats 40000000 in
theorem rm5 (l : Launch) (Z : State) (a0 : Array Value) (hw : ∀ d ∈ tables_1, d.before a0 Z = true) (ws : List Jvm.Cond) (a1 : Addr) (a2 : Addr) (xa : Int64) (xb : Int64) (xc : Int64) (xd : Int64) (yp : Int64) (yq : Int64) (h0 : Heap) (n0 : Nat) (Z0 : n0 ≤ h0.size) (F_minLat_a1 : Fld Z h0 a1 "com/example/peerpool/peerpool/core/Box" "minLat" "D" (.double (FP.l2d xa))) (F_maxLat_a1 : Fld Z h0 a1 "com/example/peerpool/peerpool/core/Box" "maxLat" "D" (.double (FP.l2d xb))) (F_minLon_a1 : Fld Z h0 a1 "com/example/peerpool/peerpool/core/Box" "minLon" "D" (.double (FP.l2d xc))) (F_maxLon_a1 : Fld Z h0 a1 "com/example/peerpool/peerpool/core/Box" "maxLon" "D" (.double (FP.l2d xd))) (F_minLat_a2 : Fld Z h0 a2 "com/example/peerpool/peerpool/core/Box" "minLat" "D" (.double (FP.l2d yp))) (F_maxLat_a2 : Fld Z h0 a2 "com/example/peerpool/peerpool/core/Box" "maxLat" "D" (.double (FP.l2d yp))) (F_minLon_a2 : Fld Z h0 a2 "com/example/peerpool/peerpool/core/Box" "minLon" "D" (.double (FP.l2d yq))) (F_maxLon_a2 : Fld Z h0 a2 "com/example/peerpool/peerpool/core/Box" "maxLon" "D" (.double (FP.l2d yq))) (h_xa : B53 xa) (h_xb : B53 xb) (h_xc : B53 xc) (h_xd : B53 xd) (h_yp : B53 yp) (h_yq : B53 yq) :
    MetFree l (⟨"com/example/peerpool/peerpool/core/Box", "union", "(Lcom/example/peerpool/peerpool/core/Box;)Lcom/example/peerpool/peerpool/core/Box;"⟩ : MethodName) (head1 (Jvm.Cond.code (⟨"com/example/peerpool/peerpool/core/Box", "union", "(Lcom/example/peerpool/peerpool/core/Box;)Lcom/example/peerpool/peerpool/core/Box;"⟩ : MethodName) prog_1_method_3_code 2 (some (.object "com/example/peerpool/peerpool/core/Box")) :: ws) ({ frames := 3, cells := 1, slots := 4, locals := 45 } : Room)) (fun a U => a = #[(.ref a1), (.ref a2)] ∧ Z.Warmed39 U.vm ∧ U.heap = h0) (fun _ _ _ _ _ => True) (fun _ U o U' => ∃ v L, o = .returned v ∧ Q5 Z a1 a2 xa xb xc xd yp yq h0 n0 v U'.heap L ∧ FrameEnd U o U' L ({ frames := 3, cells := 1, slots := 4, locals := 45 } : Room).cells ({ frames := 3, cells := 1, slots := 4, locals := 45 } : Room).slots) := by
  refine MetFree.of_bodySF (plainFor_of_name own_pn_com_example_peerpool_peerpool_core_Box) hisR ?_
  intro p e s m args below meth c s₁ Bd hml0 hP hK
  obtain ⟨rfl, hZ, hh⟩ := hP
  have hx := Bd.exec
  have hby := Bd.bytes
  have hlk := Bd.notSynchronized
  have hml : c.maxLocals = 2 := hml0
  have hown : s.vm.findClass "com/example/peerpool/peerpool/core/Box" = some m.cls := findClass_of_methodNamed Bd.named
  have hnm := (name_of_methodNamed Bd.named Bd.method).1
  have X0 : Stand p l e ({ frames := 3, cells := 1, slots := 4, locals := 45 } : Room) s m #[(.ref a1), (.ref a2)] below meth c s₁ [] 0 0 := Stand.of_body Bd
  have e0 : s₁.heap = h0 := by rw [← hh, Bd.state]; rfl
  have N0 := Fr.nil n0
  have K0 : Keep h0 h0 [] := Keep.refl _ _
  show Go p e below (KQ s below (Q5 Z a1 a2 xa xb xc xd yp yq h0 n0) ({ frames := 3, cells := 1, slots := 4, locals := 45 } : Room).cells ({ frames := 3, cells := 1, slots := 4, locals := 45 } : Room).slots) _
  refine Go.body (T := s₁) (σ := s₁) (g' := (mkF m 0 #[.val (.ref a1), .val (.ref a2)] [])) (ef_5 m a1 a2) ?_
  obtain ⟨T15, h15, X15, e15, E15, A15, D15, -, st15⟩ := newO X0 hx hZ hown (hw _ (List.mem_of_getElem? (i := 32) rfl)) (hw _ (List.mem_of_getElem? (i := 1) rfl)) (hw _ (List.mem_of_getElem? (i := 2) rfl)) e0 (g := (mkF m 0 #[.val (.ref a1), .val (.ref a2)] [])) rfl (hb hby d5_0) (by decide) (by decide)
  refine Go.st st15 ?_
  obtain ⟨ob, q15⟩ : ∃ z, z = h0.size := ⟨_, rfl⟩
  rw [← q15] at A15 D15 ⊢
  have g_ob : n0 ≤ ob := Nat.le_trans Z0 (Nat.le_of_eq q15.symm)
  have mh_ob : h0.size ≤ ob := Nat.le_trans K0.1 (Nat.le_of_eq q15.symm)
  have F_minLat_15 : Fld Z h15 ob "com/example/peerpool/peerpool/core/Box" "minLat" "D" (.double 0) := D15 (Or.inr (hw _ (List.mem_of_getElem? (i := 15) rfl))) (ty := .double) (by decide)
  have F_maxLat_15 : Fld Z h15 ob "com/example/peerpool/peerpool/core/Box" "maxLat" "D" (.double 0) := D15 (Or.inr (hw _ (List.mem_of_getElem? (i := 17) rfl))) (ty := .double) (by decide)
  have F_minLon_15 : Fld Z h15 ob "com/example/peerpool/peerpool/core/Box" "minLon" "D" (.double 0) := D15 (Or.inr (hw _ (List.mem_of_getElem? (i := 19) rfl))) (ty := .double) (by decide)
  have F_maxLon_15 : Fld Z h15 ob "com/example/peerpool/peerpool/core/Box" "maxLon" "D" (.double 0) := D15 (Or.inr (hw _ (List.mem_of_getElem? (i := 21) rfl))) (ty := .double) (by decide)
  have K15 : Keep h0 h15 [] := Keep.ext K0 E15
  have Zs15 : n0 ≤ h15.size := Nat.le_trans Z0 E15.1
  show Go p e below _ (T15.setTop (mkF m 3 #[.val (.ref a1), .val (.ref a2)] [(.ref ob)]))
  refine g_dup X15 hx (hb hby d5_3) 4 rfl rfl ?_
  refine g_aloadN X15 hx (hb hby d5_4) 5 rfl (v := (.ref a1)) rfl rfl ?_
  obtain ⟨T17, X17, e17, st17⟩ := getF X15 hx hZ hown (host := "") (Or.inl (hw _ (List.mem_of_getElem? (i := 14) rfl))) Via.refl e15 (Fld.keep F_minLat_a1 K15 nin0) (g := (mkF m 5 #[.val (.ref a1), .val (.ref a2)] [(.ref a1), (.ref ob), (.ref ob)])) rfl rfl (hb hby d5_5)
  refine Go.st st17 ?_
  show Go p e below _ (T17.setTop (mkF m 8 #[.val (.ref a1), .val (.ref a2)] [(.double (FP.l2d xa)), (.ref ob), (.ref ob)]))
  refine g_aloadN X17 hx (hb hby d5_8) 9 rfl (v := (.ref a2)) rfl rfl ?_
  obtain ⟨T18, X18, e18, st18⟩ := getF X17 hx hZ hown (host := "") (Or.inl (hw _ (List.mem_of_getElem? (i := 14) rfl))) Via.refl e17 (Fld.keep F_minLat_a2 K15 nin0) (g := (mkF m 9 #[.val (.ref a1), .val (.ref a2)] [(.ref a2), (.double (FP.l2d xa)), (.ref ob), (.ref ob)])) rfl rfl (hb hby d5_9)
  refine Go.st st18 ?_
  show Go p e below _ (T18.setTop (mkF m 12 #[.val (.ref a1), .val (.ref a2)] [(.double (FP.l2d yp)), (.double (FP.l2d xa)), (.ref ob), (.ref ob)]))
  obtain ⟨T19, X19, e19, st19⟩ := natS X18 hx hZ (y := (⟨"java/lang/Math", "min", "(DD)D"⟩ : MethodName)) hown (hw _ (List.mem_of_getElem? (i := 33) rfl)) (hw _ (List.mem_of_getElem? (i := 34) rfl)) (hw _ (List.mem_of_getElem? (i := 35) rfl)) (hw _ (List.mem_of_getElem? (i := 36) rfl)) (by decide) e18 (W := 2) (fun c4 => Jvm.Free.Fl.Abs.minD_pays (FP.l2d xa) (FP.l2d yp) c4 (by decide) (by decide)) (g := (mkF m 12 #[.val (.ref a1), .val (.ref a2)] [(.double (FP.l2d yp)), (.double (FP.l2d xa)), (.ref ob), (.ref ob)])) rfl (by rw [hml]; rfl) (argsL := [(.double (FP.l2d xa)), (.double (FP.l2d yp))]) (rest := [(.ref ob), (.ref ob)]) (lenOf own_pd1 rfl) rfl (by show 2 * 0 + _ ≤ _; exact Nat.le_of_eq rfl) (hb hby d5_12) (by decide) (by decide) ⟨rfl, (own_nn _), (own_nn _)⟩ (val' := (.double (FP.l2d (own_min xa yp)))) (congrArg Value.double (own_min_w h_xa h_yp))
  refine Go.st st19 ?_
  show Go p e below _ (T19.setTop (mkF m 15 #[.val (.ref a1), .val (.ref a2)] [(.double (FP.l2d (own_min xa yp))), (.ref ob), (.ref ob)]))
  refine g_aloadN X19 hx (hb hby d5_15) 16 rfl (v := (.ref a1)) rfl rfl ?_
  obtain ⟨T20, X20, e20, st20⟩ := getF X19 hx hZ hown (host := "") (Or.inl (hw _ (List.mem_of_getElem? (i := 16) rfl))) Via.refl e19 (Fld.keep F_maxLat_a1 K15 nin0) (g := (mkF m 16 #[.val (.ref a1), .val (.ref a2)] [(.ref a1), (.double (FP.l2d (own_min xa yp))), (.ref ob), (.ref ob)])) rfl rfl (hb hby d5_16)
  refine Go.st st20 ?_
  show Go p e below _ (T20.setTop (mkF m 19 #[.val (.ref a1), .val (.ref a2)] [(.double (FP.l2d xb)), (.double (FP.l2d (own_min xa yp))), (.ref ob), (.ref ob)]))
  refine g_aloadN X20 hx (hb hby d5_19) 20 rfl (v := (.ref a2)) rfl rfl ?_
  obtain ⟨T21, X21, e21, st21⟩ := getF X20 hx hZ hown (host := "") (Or.inl (hw _ (List.mem_of_getElem? (i := 16) rfl))) Via.refl e20 (Fld.keep F_maxLat_a2 K15 nin0) (g := (mkF m 20 #[.val (.ref a1), .val (.ref a2)] [(.ref a2), (.double (FP.l2d xb)), (.double (FP.l2d (own_min xa yp))), (.ref ob), (.ref ob)])) rfl rfl (hb hby d5_20)
  refine Go.st st21 ?_
  show Go p e below _ (T21.setTop (mkF m 23 #[.val (.ref a1), .val (.ref a2)] [(.double (FP.l2d yp)), (.double (FP.l2d xb)), (.double (FP.l2d (own_min xa yp))), (.ref ob), (.ref ob)]))
  obtain ⟨T22, X22, e22, st22⟩ := natS X21 hx hZ (y := (⟨"java/lang/Math", "max", "(DD)D"⟩ : MethodName)) hown (hw _ (List.mem_of_getElem? (i := 37) rfl)) (hw _ (List.mem_of_getElem? (i := 38) rfl)) (hw _ (List.mem_of_getElem? (i := 35) rfl)) (hw _ (List.mem_of_getElem? (i := 39) rfl)) (by decide) e21 (W := 4) (fun c4 => Jvm.Free.Fl.Abs.maxD_pays (FP.l2d xb) (FP.l2d yp) c4 (by decide) (by decide)) (g := (mkF m 23 #[.val (.ref a1), .val (.ref a2)] [(.double (FP.l2d yp)), (.double (FP.l2d xb)), (.double (FP.l2d (own_min xa yp))), (.ref ob), (.ref ob)])) rfl (by rw [hml]; rfl) (argsL := [(.double (FP.l2d xb)), (.double (FP.l2d yp))]) (rest := [(.double (FP.l2d (own_min xa yp))), (.ref ob), (.ref ob)]) (lenOf own_pd1 rfl) rfl (by show 2 * 0 + _ ≤ _; exact Nat.le_of_eq rfl) (hb hby d5_23) (by decide) (by decide) ⟨rfl, (own_nn _), (own_nn _)⟩ (val' := (.double (FP.l2d (own_max xb yp)))) (congrArg Value.double (own_max_w h_xb h_yp))
  refine Go.st st22 ?_
  show Go p e below _ (T22.setTop (mkF m 26 #[.val (.ref a1), .val (.ref a2)] [(.double (FP.l2d (own_max xb yp))), (.double (FP.l2d (own_min xa yp))), (.ref ob), (.ref ob)]))
  refine g_aloadN X22 hx (hb hby d5_26) 27 rfl (v := (.ref a1)) rfl rfl ?_
  obtain ⟨T23, X23, e23, st23⟩ := getF X22 hx hZ hown (host := "") (Or.inl (hw _ (List.mem_of_getElem? (i := 18) rfl))) Via.refl e22 (Fld.keep F_minLon_a1 K15 nin0) (g := (mkF m 27 #[.val (.ref a1), .val (.ref a2)] [(.ref a1), (.double (FP.l2d (own_max xb yp))), (.double (FP.l2d (own_min xa yp))), (.ref ob), (.ref ob)])) rfl rfl (hb hby d5_27)
  refine Go.st st23 ?_
  show Go p e below _ (T23.setTop (mkF m 30 #[.val (.ref a1), .val (.ref a2)] [(.double (FP.l2d xc)), (.double (FP.l2d (own_max xb yp))), (.double (FP.l2d (own_min xa yp))), (.ref ob), (.ref ob)]))
  refine g_aloadN X23 hx (hb hby d5_30) 31 rfl (v := (.ref a2)) rfl rfl ?_
  obtain ⟨T24, X24, e24, st24⟩ := getF X23 hx hZ hown (host := "") (Or.inl (hw _ (List.mem_of_getElem? (i := 18) rfl))) Via.refl e23 (Fld.keep F_minLon_a2 K15 nin0) (g := (mkF m 31 #[.val (.ref a1), .val (.ref a2)] [(.ref a2), (.double (FP.l2d xc)), (.double (FP.l2d (own_max xb yp))), (.double (FP.l2d (own_min xa yp))), (.ref ob), (.ref ob)])) rfl rfl (hb hby d5_31)
  refine Go.st st24 ?_
  show Go p e below _ (T24.setTop (mkF m 34 #[.val (.ref a1), .val (.ref a2)] [(.double (FP.l2d yq)), (.double (FP.l2d xc)), (.double (FP.l2d (own_max xb yp))), (.double (FP.l2d (own_min xa yp))), (.ref ob), (.ref ob)]))
  obtain ⟨T25, X25, e25, st25⟩ := natS X24 hx hZ (y := (⟨"java/lang/Math", "min", "(DD)D"⟩ : MethodName)) hown (hw _ (List.mem_of_getElem? (i := 33) rfl)) (hw _ (List.mem_of_getElem? (i := 34) rfl)) (hw _ (List.mem_of_getElem? (i := 35) rfl)) (hw _ (List.mem_of_getElem? (i := 36) rfl)) (by decide) e24 (W := 6) (fun c4 => Jvm.Free.Fl.Abs.minD_pays (FP.l2d xc) (FP.l2d yq) c4 (by decide) (by decide)) (g := (mkF m 34 #[.val (.ref a1), .val (.ref a2)] [(.double (FP.l2d yq)), (.double (FP.l2d xc)), (.double (FP.l2d (own_max xb yp))), (.double (FP.l2d (own_min xa yp))), (.ref ob), (.ref ob)])) rfl (by rw [hml]; rfl) (argsL := [(.double (FP.l2d xc)), (.double (FP.l2d yq))]) (rest := [(.double (FP.l2d (own_max xb yp))), (.double (FP.l2d (own_min xa yp))), (.ref ob), (.ref ob)]) (lenOf own_pd1 rfl) rfl (by show 2 * 0 + _ ≤ _; exact Nat.le_of_eq rfl) (hb hby d5_34) (by decide) (by decide) ⟨rfl, (own_nn _), (own_nn _)⟩ (val' := (.double (FP.l2d (own_min xc yq)))) (congrArg Value.double (own_min_w h_xc h_yq))
  refine Go.st st25 ?_
  show Go p e below _ (T25.setTop (mkF m 37 #[.val (.ref a1), .val (.ref a2)] [(.double (FP.l2d (own_min xc yq))), (.double (FP.l2d (own_max xb yp))), (.double (FP.l2d (own_min xa yp))), (.ref ob), (.ref ob)]))
  refine g_aloadN X25 hx (hb hby d5_37) 38 rfl (v := (.ref a1)) rfl rfl ?_
  obtain ⟨T26, X26, e26, st26⟩ := getF X25 hx hZ hown (host := "") (Or.inl (hw _ (List.mem_of_getElem? (i := 20) rfl))) Via.refl e25 (Fld.keep F_maxLon_a1 K15 nin0) (g := (mkF m 38 #[.val (.ref a1), .val (.ref a2)] [(.ref a1), (.double (FP.l2d (own_min xc yq))), (.double (FP.l2d (own_max xb yp))), (.double (FP.l2d (own_min xa yp))), (.ref ob), (.ref ob)])) rfl rfl (hb hby d5_38)
  refine Go.st st26 ?_
  show Go p e below _ (T26.setTop (mkF m 41 #[.val (.ref a1), .val (.ref a2)] [(.double (FP.l2d xd)), (.double (FP.l2d (own_min xc yq))), (.double (FP.l2d (own_max xb yp))), (.double (FP.l2d (own_min xa yp))), (.ref ob), (.ref ob)]))
  refine g_aloadN X26 hx (hb hby d5_41) 42 rfl (v := (.ref a2)) rfl rfl ?_
  obtain ⟨T27, X27, e27, st27⟩ := getF X26 hx hZ hown (host := "") (Or.inl (hw _ (List.mem_of_getElem? (i := 20) rfl))) Via.refl e26 (Fld.keep F_maxLon_a2 K15 nin0) (g := (mkF m 42 #[.val (.ref a1), .val (.ref a2)] [(.ref a2), (.double (FP.l2d xd)), (.double (FP.l2d (own_min xc yq))), (.double (FP.l2d (own_max xb yp))), (.double (FP.l2d (own_min xa yp))), (.ref ob), (.ref ob)])) rfl rfl (hb hby d5_42)
  refine Go.st st27 ?_
  show Go p e below _ (T27.setTop (mkF m 45 #[.val (.ref a1), .val (.ref a2)] [(.double (FP.l2d yq)), (.double (FP.l2d xd)), (.double (FP.l2d (own_min xc yq))), (.double (FP.l2d (own_max xb yp))), (.double (FP.l2d (own_min xa yp))), (.ref ob), (.ref ob)]))
  obtain ⟨T28, X28, e28, st28⟩ := natS X27 hx hZ (y := (⟨"java/lang/Math", "max", "(DD)D"⟩ : MethodName)) hown (hw _ (List.mem_of_getElem? (i := 37) rfl)) (hw _ (List.mem_of_getElem? (i := 38) rfl)) (hw _ (List.mem_of_getElem? (i := 35) rfl)) (hw _ (List.mem_of_getElem? (i := 39) rfl)) (by decide) e27 (W := 8) (fun c4 => Jvm.Free.Fl.Abs.maxD_pays (FP.l2d xd) (FP.l2d yq) c4 (by decide) (by decide)) (g := (mkF m 45 #[.val (.ref a1), .val (.ref a2)] [(.double (FP.l2d yq)), (.double (FP.l2d xd)), (.double (FP.l2d (own_min xc yq))), (.double (FP.l2d (own_max xb yp))), (.double (FP.l2d (own_min xa yp))), (.ref ob), (.ref ob)])) rfl (by rw [hml]; rfl) (argsL := [(.double (FP.l2d xd)), (.double (FP.l2d yq))]) (rest := [(.double (FP.l2d (own_min xc yq))), (.double (FP.l2d (own_max xb yp))), (.double (FP.l2d (own_min xa yp))), (.ref ob), (.ref ob)]) (lenOf own_pd1 rfl) rfl (by show 2 * 0 + _ ≤ _; exact Nat.le_of_eq rfl) (hb hby d5_45) (by decide) (by decide) ⟨rfl, (own_nn _), (own_nn _)⟩ (val' := (.double (FP.l2d (own_max xd yq)))) (congrArg Value.double (own_max_w h_xd h_yq))
  refine Go.st st28 ?_
  show Go p e below _ (T28.setTop (mkF m 48 #[.val (.ref a1), .val (.ref a2)] [(.double (FP.l2d (own_max xd yq))), (.double (FP.l2d (own_min xc yq))), (.double (FP.l2d (own_max xb yp))), (.double (FP.l2d (own_min xa yp))), (.ref ob), (.ref ob)]))
  obtain ⟨_, _, ⟨T29, L29, k29, n29⟩, -, X29, ⟨Lc29, hQ29, l29, y29, z29⟩, st29⟩ := X28.specialBack hx (y := (⟨"com/example/peerpool/peerpool/core/Box", "<init>", "(DDDD)V"⟩ : MethodName)) rfl hown (mvT hZ (hw _ (List.mem_of_getElem? (i := 40) rfl))) (mvT hZ (hw _ (List.mem_of_getElem? (i := 4) rfl))) (mvT hZ (hw _ (List.mem_of_getElem? (i := 5) rfl))) (by decide) (backOf (W := 1) (rm1 l Z a0 hw [] ob (FP.l2d (own_min xa yp)) (FP.l2d (own_max xb yp)) (FP.l2d (own_min xc yq)) (FP.l2d (own_max xd yq)) (.double 0) (.double 0) (.double 0) (.double 0) h15 n0 Zs15 A15 g_ob F_minLat_15 F_maxLat_15 F_minLon_15 F_maxLon_15) hZ (hw _ (List.mem_of_getElem? (i := 5) rfl)) (hw _ (List.mem_of_getElem? (i := 2) rfl)) (by decide) (by decide)) (g := (mkF m 48 #[.val (.ref a1), .val (.ref a2)] [(.double (FP.l2d (own_max xd yq))), (.double (FP.l2d (own_min xc yq))), (.double (FP.l2d (own_max xb yp))), (.double (FP.l2d (own_min xa yp))), (.ref ob), (.ref ob)])) rfl (by rw [hml]; rfl) (Steps.refl _) (a := ob) (argsL := [(.double (FP.l2d (own_min xa yp))), (.double (FP.l2d (own_max xb yp))), (.double (FP.l2d (own_min xc yq))), (.double (FP.l2d (own_max xd yq)))]) (rest := [(.ref ob)]) (lenOf own_pd2 rfl) rfl (by show 2 * 0 + _ ≤ _; exact Nat.le_of_eq rfl) (hb hby d5_48) (fun _ _ => ⟨rfl, e28, (by decide : 1 + 0 ≤ _), (by decide : 4 + 0 ≤ _)⟩)
  dsimp only [Pt.U, Pt.locs, Pt.cells, Pt.slots] at X29 l29 y29 z29 st29 hQ29
  subst l29 y29 z29
  obtain ⟨rfl, Nq29, Kq29, f29_0, f29_1, f29_2, f29_3, f29_4⟩ := hQ29
  refine Go.tr st29 ?_
  have N29 := Fr.app N0 Nq29
  have E_ob_30 : Exa Z T29.heap ob "com/example/peerpool/peerpool/core/Box" := Exa.keep A15 Kq29
  have K29 : Keep h0 T29.heap [] := Keep.trans K15 Kq29 (allS (Or.inr mh_ob) all0)
  have Zs29 : n0 ≤ T29.heap.size := Nat.le_trans Zs15 Kq29.1
  show Go p e below _ (T29.setTop (mkF m 51 #[.val (.ref a1), .val (.ref a2)] [(.ref ob)]))
  refine Go.retA X29 hx hlk Bd.returns rfl rfl (hb hby d5_51) (by decide) (by decide) ?_
  show Q5 Z a1 a2 xa xb xc xd yp yq h0 n0 _ T29.heap _
  exact ⟨ob, rfl, N29, K29, mh_ob, f29_0, f29_1, f29_2, f29_3, f29_4⟩
theorem ef_8 (m : MethodId) (x0 : Addr) : entryFrame m #[(.ref x0)] 1 = mkF m 0 #[.val (.ref x0)] [] := by first | (simp [entryFrame, mkF, argsToLocals, Value.category]; done) | rfl
theorem d8_0 : decode prog_1_method_11_code 0 = .ok (.aload_n 0, 1) := by decide +kernel
theorem d8_1 : decode prog_1_method_11_code 1 = .ok (.getfield 7, 3) := by decide +kernel
theorem d8_4 : decode prog_1_method_11_code 4 = .ok (.dreturn, 1) := by decide +kernel
def Q8 (Z : State) (a1 : Addr) (w : UInt64) (h0 : Heap) (n0 : Nat) (v : Option Value) (h : Heap) (L : List Loc) : Prop := v = some (.double w) ∧ Fr n0 L ∧ h = h0
set_option maxRecDepth 65536 in
set_option maxHeartbeats 40000000 in
theorem rm8 (l : Launch) (Z : State) (a0 : Array Value) (hw : ∀ d ∈ tables_1, d.before a0 Z = true) (ws : List Jvm.Cond) (a1 : Addr) (w : UInt64) (h0 : Heap) (n0 : Nat) (Z0 : n0 ≤ h0.size) (F_minLat_a1 : Fld Z h0 a1 "com/example/peerpool/peerpool/core/Box" "minLat" "D" (.double w)) :
    MetFree l (⟨"com/example/peerpool/peerpool/core/Box", "minLat", "()D"⟩ : MethodName) (head1 (Jvm.Cond.code (⟨"com/example/peerpool/peerpool/core/Box", "minLat", "()D"⟩ : MethodName) prog_1_method_11_code 1 (some .double) :: ws) ({ frames := 0, cells := 0, slots := 0, locals := 0 } : Room)) (fun a U => a = #[(.ref a1)] ∧ Z.Warmed39 U.vm ∧ U.heap = h0) (fun _ _ _ _ _ => True) (fun _ U o U' => ∃ v L, o = .returned v ∧ Q8 Z a1 w h0 n0 v U'.heap L ∧ FrameEnd U o U' L ({ frames := 0, cells := 0, slots := 0, locals := 0 } : Room).cells ({ frames := 0, cells := 0, slots := 0, locals := 0 } : Room).slots) := by
  refine MetFree.of_bodySF (plainFor_of_name own_pn_com_example_peerpool_peerpool_core_Box) hisR ?_
  intro p e s m args below meth c s₁ Bd hml0 hP hK
  obtain ⟨rfl, hZ, hh⟩ := hP
  have hx := Bd.exec
  have hby := Bd.bytes
  have hlk := Bd.notSynchronized
  have hml : c.maxLocals = 1 := hml0
  have hown : s.vm.findClass "com/example/peerpool/peerpool/core/Box" = some m.cls := findClass_of_methodNamed Bd.named
  have hnm := (name_of_methodNamed Bd.named Bd.method).1
  have X0 : Stand p l e ({ frames := 0, cells := 0, slots := 0, locals := 0 } : Room) s m #[(.ref a1)] below meth c s₁ [] 0 0 := Stand.of_body Bd
  have e0 : s₁.heap = h0 := by rw [← hh, Bd.state]; rfl
  have N0 := Fr.nil n0
  show Go p e below (KQ s below (Q8 Z a1 w h0 n0) ({ frames := 0, cells := 0, slots := 0, locals := 0 } : Room).cells ({ frames := 0, cells := 0, slots := 0, locals := 0 } : Room).slots) _
  refine Go.body (T := s₁) (σ := s₁) (g' := (mkF m 0 #[.val (.ref a1)] [])) (ef_8 m a1) ?_
  refine g_aloadN X0 hx (hb hby d8_0) 1 rfl (v := (.ref a1)) rfl rfl ?_
  obtain ⟨T31, X31, e31, st31⟩ := getF X0 hx hZ hown (host := "") (Or.inl (hw _ (List.mem_of_getElem? (i := 14) rfl))) Via.refl e0 F_minLat_a1 (g := (mkF m 1 #[.val (.ref a1)] [(.ref a1)])) rfl rfl (hb hby d8_1)
  refine Go.st st31 ?_
  show Go p e below _ (T31.setTop (mkF m 4 #[.val (.ref a1)] [(.double w)]))
  refine Go.retD X31 hx hlk Bd.returns (hb hby d8_4) (by decide) (by decide) ?_
  show Q8 Z a1 w h0 n0 _ T31.heap _
  rw [e31]
  exact ⟨rfl, N0, rfl⟩
theorem ef_9 (m : MethodId) (x0 : Addr) : entryFrame m #[(.ref x0)] 1 = mkF m 0 #[.val (.ref x0)] [] := by first | (simp [entryFrame, mkF, argsToLocals, Value.category]; done) | rfl
theorem d9_0 : decode prog_1_method_12_code 0 = .ok (.aload_n 0, 1) := by decide +kernel
theorem d9_1 : decode prog_1_method_12_code 1 = .ok (.getfield 13, 3) := by decide +kernel
theorem d9_4 : decode prog_1_method_12_code 4 = .ok (.dreturn, 1) := by decide +kernel
def Q9 (Z : State) (a1 : Addr) (w : UInt64) (h0 : Heap) (n0 : Nat) (v : Option Value) (h : Heap) (L : List Loc) : Prop := v = some (.double w) ∧ Fr n0 L ∧ h = h0
set_option maxRecDepth 65536 in
set_option maxHeartbeats 40000000 in
theorem rm9 (l : Launch) (Z : State) (a0 : Array Value) (hw : ∀ d ∈ tables_1, d.before a0 Z = true) (ws : List Jvm.Cond) (a1 : Addr) (w : UInt64) (h0 : Heap) (n0 : Nat) (Z0 : n0 ≤ h0.size) (F_maxLat_a1 : Fld Z h0 a1 "com/example/peerpool/peerpool/core/Box" "maxLat" "D" (.double w)) :
    MetFree l (⟨"com/example/peerpool/peerpool/core/Box", "maxLat", "()D"⟩ : MethodName) (head1 (Jvm.Cond.code (⟨"com/example/peerpool/peerpool/core/Box", "maxLat", "()D"⟩ : MethodName) prog_1_method_12_code 1 (some .double) :: ws) ({ frames := 0, cells := 0, slots := 0, locals := 0 } : Room)) (fun a U => a = #[(.ref a1)] ∧ Z.Warmed39 U.vm ∧ U.heap = h0) (fun _ _ _ _ _ => True) (fun _ U o U' => ∃ v L, o = .returned v ∧ Q9 Z a1 w h0 n0 v U'.heap L ∧ FrameEnd U o U' L ({ frames := 0, cells := 0, slots := 0, locals := 0 } : Room).cells ({ frames := 0, cells := 0, slots := 0, locals := 0 } : Room).slots) := by
  refine MetFree.of_bodySF (plainFor_of_name own_pn_com_example_peerpool_peerpool_core_Box) hisR ?_
  intro p e s m args below meth c s₁ Bd hml0 hP hK
  obtain ⟨rfl, hZ, hh⟩ := hP
  have hx := Bd.exec
  have hby := Bd.bytes
  have hlk := Bd.notSynchronized
  have hml : c.maxLocals = 1 := hml0
  have hown : s.vm.findClass "com/example/peerpool/peerpool/core/Box" = some m.cls := findClass_of_methodNamed Bd.named
  have hnm := (name_of_methodNamed Bd.named Bd.method).1
  have X0 : Stand p l e ({ frames := 0, cells := 0, slots := 0, locals := 0 } : Room) s m #[(.ref a1)] below meth c s₁ [] 0 0 := Stand.of_body Bd
  have e0 : s₁.heap = h0 := by rw [← hh, Bd.state]; rfl
  have N0 := Fr.nil n0
  show Go p e below (KQ s below (Q9 Z a1 w h0 n0) ({ frames := 0, cells := 0, slots := 0, locals := 0 } : Room).cells ({ frames := 0, cells := 0, slots := 0, locals := 0 } : Room).slots) _
  refine Go.body (T := s₁) (σ := s₁) (g' := (mkF m 0 #[.val (.ref a1)] [])) (ef_9 m a1) ?_
  refine g_aloadN X0 hx (hb hby d9_0) 1 rfl (v := (.ref a1)) rfl rfl ?_
  obtain ⟨T32, X32, e32, st32⟩ := getF X0 hx hZ hown (host := "") (Or.inl (hw _ (List.mem_of_getElem? (i := 16) rfl))) Via.refl e0 F_maxLat_a1 (g := (mkF m 1 #[.val (.ref a1)] [(.ref a1)])) rfl rfl (hb hby d9_1)
  refine Go.st st32 ?_
  show Go p e below _ (T32.setTop (mkF m 4 #[.val (.ref a1)] [(.double w)]))
  refine Go.retD X32 hx hlk Bd.returns (hb hby d9_4) (by decide) (by decide) ?_
  show Q9 Z a1 w h0 n0 _ T32.heap _
  rw [e32]
  exact ⟨rfl, N0, rfl⟩
theorem ef_10 (m : MethodId) (x0 : Addr) : entryFrame m #[(.ref x0)] 1 = mkF m 0 #[.val (.ref x0)] [] := by first | (simp [entryFrame, mkF, argsToLocals, Value.category]; done) | rfl
theorem d10_0 : decode prog_1_method_13_code 0 = .ok (.aload_n 0, 1) := by decide +kernel
theorem d10_1 : decode prog_1_method_13_code 1 = .ok (.getfield 16, 3) := by decide +kernel
theorem d10_4 : decode prog_1_method_13_code 4 = .ok (.dreturn, 1) := by decide +kernel
def Q10 (Z : State) (a1 : Addr) (w : UInt64) (h0 : Heap) (n0 : Nat) (v : Option Value) (h : Heap) (L : List Loc) : Prop := v = some (.double w) ∧ Fr n0 L ∧ h = h0
set_option maxRecDepth 65536 in
set_option maxHeartbeats 40000000 in
theorem rm10 (l : Launch) (Z : State) (a0 : Array Value) (hw : ∀ d ∈ tables_1, d.before a0 Z = true) (ws : List Jvm.Cond) (a1 : Addr) (w : UInt64) (h0 : Heap) (n0 : Nat) (Z0 : n0 ≤ h0.size) (F_minLon_a1 : Fld Z h0 a1 "com/example/peerpool/peerpool/core/Box" "minLon" "D" (.double w)) :
    MetFree l (⟨"com/example/peerpool/peerpool/core/Box", "minLon", "()D"⟩ : MethodName) (head1 (Jvm.Cond.code (⟨"com/example/peerpool/peerpool/core/Box", "minLon", "()D"⟩ : MethodName) prog_1_method_13_code 1 (some .double) :: ws) ({ frames := 0, cells := 0, slots := 0, locals := 0 } : Room)) (fun a U => a = #[(.ref a1)] ∧ Z.Warmed39 U.vm ∧ U.heap = h0) (fun _ _ _ _ _ => True) (fun _ U o U' => ∃ v L, o = .returned v ∧ Q10 Z a1 w h0 n0 v U'.heap L ∧ FrameEnd U o U' L ({ frames := 0, cells := 0, slots := 0, locals := 0 } : Room).cells ({ frames := 0, cells := 0, slots := 0, locals := 0 } : Room).slots) := by
  refine MetFree.of_bodySF (plainFor_of_name own_pn_com_example_peerpool_peerpool_core_Box) hisR ?_
  intro p e s m args below meth c s₁ Bd hml0 hP hK
  obtain ⟨rfl, hZ, hh⟩ := hP
  have hx := Bd.exec
  have hby := Bd.bytes
  have hlk := Bd.notSynchronized
  have hml : c.maxLocals = 1 := hml0
  have hown : s.vm.findClass "com/example/peerpool/peerpool/core/Box" = some m.cls := findClass_of_methodNamed Bd.named
  have hnm := (name_of_methodNamed Bd.named Bd.method).1
  have X0 : Stand p l e ({ frames := 0, cells := 0, slots := 0, locals := 0 } : Room) s m #[(.ref a1)] below meth c s₁ [] 0 0 := Stand.of_body Bd
  have e0 : s₁.heap = h0 := by rw [← hh, Bd.state]; rfl
  have N0 := Fr.nil n0
  show Go p e below (KQ s below (Q10 Z a1 w h0 n0) ({ frames := 0, cells := 0, slots := 0, locals := 0 } : Room).cells ({ frames := 0, cells := 0, slots := 0, locals := 0 } : Room).slots) _
  refine Go.body (T := s₁) (σ := s₁) (g' := (mkF m 0 #[.val (.ref a1)] [])) (ef_10 m a1) ?_
  refine g_aloadN X0 hx (hb hby d10_0) 1 rfl (v := (.ref a1)) rfl rfl ?_
  obtain ⟨T33, X33, e33, st33⟩ := getF X0 hx hZ hown (host := "") (Or.inl (hw _ (List.mem_of_getElem? (i := 18) rfl))) Via.refl e0 F_minLon_a1 (g := (mkF m 1 #[.val (.ref a1)] [(.ref a1)])) rfl rfl (hb hby d10_1)
  refine Go.st st33 ?_
  show Go p e below _ (T33.setTop (mkF m 4 #[.val (.ref a1)] [(.double w)]))
  refine Go.retD X33 hx hlk Bd.returns (hb hby d10_4) (by decide) (by decide) ?_
  show Q10 Z a1 w h0 n0 _ T33.heap _
  rw [e33]
  exact ⟨rfl, N0, rfl⟩
theorem ef_11 (m : MethodId) (x0 : Addr) : entryFrame m #[(.ref x0)] 1 = mkF m 0 #[.val (.ref x0)] [] := by first | (simp [entryFrame, mkF, argsToLocals, Value.category]; done) | rfl
theorem d11_0 : decode prog_1_method_14_code 0 = .ok (.aload_n 0, 1) := by decide +kernel
theorem d11_1 : decode prog_1_method_14_code 1 = .ok (.getfield 19, 3) := by decide +kernel
theorem d11_4 : decode prog_1_method_14_code 4 = .ok (.dreturn, 1) := by decide +kernel
def Q11 (Z : State) (a1 : Addr) (w : UInt64) (h0 : Heap) (n0 : Nat) (v : Option Value) (h : Heap) (L : List Loc) : Prop := v = some (.double w) ∧ Fr n0 L ∧ h = h0
set_option maxRecDepth 65536 in
set_option maxHeartbeats 40000000 in
theorem rm11 (l : Launch) (Z : State) (a0 : Array Value) (hw : ∀ d ∈ tables_1, d.before a0 Z = true) (ws : List Jvm.Cond) (a1 : Addr) (w : UInt64) (h0 : Heap) (n0 : Nat) (Z0 : n0 ≤ h0.size) (F_maxLon_a1 : Fld Z h0 a1 "com/example/peerpool/peerpool/core/Box" "maxLon" "D" (.double w)) :
    MetFree l (⟨"com/example/peerpool/peerpool/core/Box", "maxLon", "()D"⟩ : MethodName) (head1 (Jvm.Cond.code (⟨"com/example/peerpool/peerpool/core/Box", "maxLon", "()D"⟩ : MethodName) prog_1_method_14_code 1 (some .double) :: ws) ({ frames := 0, cells := 0, slots := 0, locals := 0 } : Room)) (fun a U => a = #[(.ref a1)] ∧ Z.Warmed39 U.vm ∧ U.heap = h0) (fun _ _ _ _ _ => True) (fun _ U o U' => ∃ v L, o = .returned v ∧ Q11 Z a1 w h0 n0 v U'.heap L ∧ FrameEnd U o U' L ({ frames := 0, cells := 0, slots := 0, locals := 0 } : Room).cells ({ frames := 0, cells := 0, slots := 0, locals := 0 } : Room).slots) := by
  refine MetFree.of_bodySF (plainFor_of_name own_pn_com_example_peerpool_peerpool_core_Box) hisR ?_
  intro p e s m args below meth c s₁ Bd hml0 hP hK
  obtain ⟨rfl, hZ, hh⟩ := hP
  have hx := Bd.exec
  have hby := Bd.bytes
  have hlk := Bd.notSynchronized
  have hml : c.maxLocals = 1 := hml0
  have hown : s.vm.findClass "com/example/peerpool/peerpool/core/Box" = some m.cls := findClass_of_methodNamed Bd.named
  have hnm := (name_of_methodNamed Bd.named Bd.method).1
  have X0 : Stand p l e ({ frames := 0, cells := 0, slots := 0, locals := 0 } : Room) s m #[(.ref a1)] below meth c s₁ [] 0 0 := Stand.of_body Bd
  have e0 : s₁.heap = h0 := by rw [← hh, Bd.state]; rfl
  have N0 := Fr.nil n0
  show Go p e below (KQ s below (Q11 Z a1 w h0 n0) ({ frames := 0, cells := 0, slots := 0, locals := 0 } : Room).cells ({ frames := 0, cells := 0, slots := 0, locals := 0 } : Room).slots) _
  refine Go.body (T := s₁) (σ := s₁) (g' := (mkF m 0 #[.val (.ref a1)] [])) (ef_11 m a1) ?_
  refine g_aloadN X0 hx (hb hby d11_0) 1 rfl (v := (.ref a1)) rfl rfl ?_
  obtain ⟨T34, X34, e34, st34⟩ := getF X0 hx hZ hown (host := "") (Or.inl (hw _ (List.mem_of_getElem? (i := 20) rfl))) Via.refl e0 F_maxLon_a1 (g := (mkF m 1 #[.val (.ref a1)] [(.ref a1)])) rfl rfl (hb hby d11_1)
  refine Go.st st34 ?_
  show Go p e below _ (T34.setTop (mkF m 4 #[.val (.ref a1)] [(.double w)]))
  refine Go.retD X34 hx hlk Bd.returns (hb hby d11_4) (by decide) (by decide) ?_
  show Q11 Z a1 w h0 n0 _ T34.heap _
  rw [e34]
  exact ⟨rfl, N0, rfl⟩
theorem own_pn_com_example_peerpool_peerpool_core_BoxContainsPinLaw : plainName "com/example/peerpool/peerpool/core/BoxContainsPinLaw" = true := by first | (simp [plainName, overriddenIn]; done) | decide +kernel
theorem ef_0 (m : MethodId) (x0 : Int32) (x1 : Int32) (x2 : Int32) (x3 : Int32) (x4 : Int32) (x5 : Int32) : entryFrame m #[(.int x0), (.int x1), (.int x2), (.int x3), (.int x4), (.int x5)] maxLocals = mkF m 0 #[.val (.int x0), .val (.int x1), .val (.int x2), .val (.int x3), .val (.int x4), .val (.int x5), .unset, .unset, .unset, .unset, .unset, .unset, .unset, .unset, .unset, .unset, .unset, .unset, .unset, .unset, .unset, .unset, .unset, .unset] [] := by first | (simp [entryFrame, mkF, argsToLocals, Value.category, maxLocals]; done) | rfl
theorem own_pd3 : parseMethodDescriptor "(DD)Z" = some ⟨[.double, .double], some .boolean⟩ := by decide +kernel
theorem own_pd4 : parseMethodDescriptor "(Lcom/example/peerpool/peerpool/core/Box;)Lcom/example/peerpool/peerpool/core/Box;" = some ⟨[(.object "com/example/peerpool/peerpool/core/Box")], some (.object "com/example/peerpool/peerpool/core/Box")⟩ := by decide +kernel
theorem own_pd5 : parseMethodDescriptor "()D" = some ⟨[], some .double⟩ := by decide +kernel
def Q0 (Z : State) (p1 : Int32) (p2 : Int32) (p3 : Int32) (p4 : Int32) (p5 : Int32) (p6 : Int32) (h0 : Heap) (n0 : Nat) (v : Option Value) (h : Heap) (L : List Loc) : Prop := v = some (.int (1 : Int32)) ∧ Fr n0 L
set_option maxRecDepth 65536 in
set_option maxHeartbeats 40000000 in
theorem rm0 (l : Launch) (Z : State) (a0 : Array Value) (hw : ∀ d ∈ tables_1, d.before a0 Z = true) (ws : List Jvm.Cond) (p1 : Int32) (p2 : Int32) (p3 : Int32) (p4 : Int32) (p5 : Int32) (p6 : Int32) (h0 : Heap) (n0 : Nat) (Z0 : n0 ≤ h0.size) (hn0 : h0.size = n0) :
    MetFree l x (head1 (Jvm.Cond.code x code maxLocals ret :: ws) room_1) (fun a U => a = #[(.int p1), (.int p2), (.int p3), (.int p4), (.int p5), (.int p6)] ∧ Z.Warmed39 U.vm ∧ U.heap = h0) (fun _ _ _ _ _ => True) (fun _ U o U' => ∃ v L, o = .returned v ∧ Q0 Z p1 p2 p3 p4 p5 p6 h0 n0 v U'.heap L ∧ FrameEnd U o U' L 16 128) := by
  refine MetFree.of_bodySF (plainFor_of_name own_pn_com_example_peerpool_peerpool_core_BoxContainsPinLaw) hisR ?_
  intro p e s m args below meth c s₁ Bd hml0 hP hK
  obtain ⟨rfl, hZ, hh⟩ := hP
  have hx := Bd.exec
  have hby := Bd.bytes
  have hlk := Bd.notSynchronized
  have hml : c.maxLocals = 24 := hml0
  have hown : s.vm.findClass "com/example/peerpool/peerpool/core/BoxContainsPinLaw" = some m.cls := findClass_of_methodNamed Bd.named
  have hnm := (name_of_methodNamed Bd.named Bd.method).1
  have X0 : Stand p l e room_1 s m #[(.int p1), (.int p2), (.int p3), (.int p4), (.int p5), (.int p6)] below meth c s₁ [] 0 0 := Stand.of_body Bd
  have e0 : s₁.heap = h0 := by rw [← hh, Bd.state]; rfl
  have N0 := Fr.nil n0
  have K0 : Keep h0 h0 [] := Keep.refl _ _
  show Go p e below (KQ s below (Q0 Z p1 p2 p3 p4 p5 p6 h0 n0) 16 128) _
  refine Go.body (T := s₁) (σ := s₁) (g' := (mkF m 0 #[.val (.int p1), .val (.int p2), .val (.int p3), .val (.int p4), .val (.int p5), .val (.int p6), .unset, .unset, .unset, .unset, .unset, .unset, .unset, .unset, .unset, .unset, .unset, .unset, .unset, .unset, .unset, .unset, .unset, .unset] [])) (ef_0 m p1 p2 p3 p4 p5 p6) ?_
  refine g_iloadN X0 hx (hb hby at_0) 1 rfl (v := p1) rfl ?_
  refine g_i2d X0 hx (hb hby at_1) 2 rfl (FP.l2d p1.toInt64) (i2d_w _) ?_
  refine g_dstore X0 hx (hb hby at_2) 4 rfl #[.val (.int p1), .val (.int p2), .val (.int p3), .val (.int p4), .val (.int p5), .val (.int p6), .val (.double (FP.l2d p1.toInt64)), .second, .unset, .unset, .unset, .unset, .unset, .unset, .unset, .unset, .unset, .unset, .unset, .unset, .unset, .unset, .unset, .unset] rfl ?_
  refine g_iloadN X0 hx (hb hby at_4) 5 rfl (v := p2) rfl ?_
  refine g_i2d X0 hx (hb hby at_5) 6 rfl (FP.l2d p2.toInt64) (i2d_w _) ?_
  refine g_dstore X0 hx (hb hby at_6) 8 rfl #[.val (.int p1), .val (.int p2), .val (.int p3), .val (.int p4), .val (.int p5), .val (.int p6), .val (.double (FP.l2d p1.toInt64)), .second, .val (.double (FP.l2d p2.toInt64)), .second, .unset, .unset, .unset, .unset, .unset, .unset, .unset, .unset, .unset, .unset, .unset, .unset, .unset, .unset] rfl ?_
  refine g_iloadN X0 hx (hb hby at_8) 9 rfl (v := p3) rfl ?_
  refine g_i2d X0 hx (hb hby at_9) 10 rfl (FP.l2d p3.toInt64) (i2d_w _) ?_
  refine g_dstore X0 hx (hb hby at_10) 12 rfl #[.val (.int p1), .val (.int p2), .val (.int p3), .val (.int p4), .val (.int p5), .val (.int p6), .val (.double (FP.l2d p1.toInt64)), .second, .val (.double (FP.l2d p2.toInt64)), .second, .val (.double (FP.l2d p3.toInt64)), .second, .unset, .unset, .unset, .unset, .unset, .unset, .unset, .unset, .unset, .unset, .unset, .unset] rfl ?_
  refine g_iloadN X0 hx (hb hby at_12) 13 rfl (v := p4) rfl ?_
  refine g_i2d X0 hx (hb hby at_13) 14 rfl (FP.l2d p4.toInt64) (i2d_w _) ?_
  refine g_dstore X0 hx (hb hby at_14) 16 rfl #[.val (.int p1), .val (.int p2), .val (.int p3), .val (.int p4), .val (.int p5), .val (.int p6), .val (.double (FP.l2d p1.toInt64)), .second, .val (.double (FP.l2d p2.toInt64)), .second, .val (.double (FP.l2d p3.toInt64)), .second, .val (.double (FP.l2d p4.toInt64)), .second, .unset, .unset, .unset, .unset, .unset, .unset, .unset, .unset, .unset, .unset] rfl ?_
  refine g_iload X0 hx (hb hby at_16) 18 rfl (v := p5) rfl ?_
  refine g_i2d X0 hx (hb hby at_18) 19 rfl (FP.l2d p5.toInt64) (i2d_w _) ?_
  refine g_dstore X0 hx (hb hby at_19) 21 rfl #[.val (.int p1), .val (.int p2), .val (.int p3), .val (.int p4), .val (.int p5), .val (.int p6), .val (.double (FP.l2d p1.toInt64)), .second, .val (.double (FP.l2d p2.toInt64)), .second, .val (.double (FP.l2d p3.toInt64)), .second, .val (.double (FP.l2d p4.toInt64)), .second, .val (.double (FP.l2d p5.toInt64)), .second, .unset, .unset, .unset, .unset, .unset, .unset, .unset, .unset] rfl ?_
  refine g_iload X0 hx (hb hby at_21) 23 rfl (v := p6) rfl ?_
  refine g_i2d X0 hx (hb hby at_23) 24 rfl (FP.l2d p6.toInt64) (i2d_w _) ?_
  refine g_dstore X0 hx (hb hby at_24) 26 rfl #[.val (.int p1), .val (.int p2), .val (.int p3), .val (.int p4), .val (.int p5), .val (.int p6), .val (.double (FP.l2d p1.toInt64)), .second, .val (.double (FP.l2d p2.toInt64)), .second, .val (.double (FP.l2d p3.toInt64)), .second, .val (.double (FP.l2d p4.toInt64)), .second, .val (.double (FP.l2d p5.toInt64)), .second, .val (.double (FP.l2d p6.toInt64)), .second, .unset, .unset, .unset, .unset, .unset, .unset] rfl ?_
  obtain ⟨T35, h35, X35, e35, E35, A35, D35, -, st35⟩ := newO X0 hx hZ hown (hw _ (List.mem_of_getElem? (i := 0) rfl)) (hw _ (List.mem_of_getElem? (i := 1) rfl)) (hw _ (List.mem_of_getElem? (i := 2) rfl)) e0 (g := (mkF m 26 #[.val (.int p1), .val (.int p2), .val (.int p3), .val (.int p4), .val (.int p5), .val (.int p6), .val (.double (FP.l2d p1.toInt64)), .second, .val (.double (FP.l2d p2.toInt64)), .second, .val (.double (FP.l2d p3.toInt64)), .second, .val (.double (FP.l2d p4.toInt64)), .second, .val (.double (FP.l2d p5.toInt64)), .second, .val (.double (FP.l2d p6.toInt64)), .second, .unset, .unset, .unset, .unset, .unset, .unset] [])) rfl (hb hby at_26) (by decide) (by decide)
  refine Go.st st35 ?_
  obtain ⟨o35, q35⟩ : ∃ z, z = h0.size := ⟨_, rfl⟩
  rw [← q35] at A35 D35 ⊢
  have g_o35 : n0 ≤ o35 := Nat.le_trans Z0 (Nat.le_of_eq q35.symm)
  have mh_o35 : h0.size ≤ o35 := Nat.le_trans K0.1 (Nat.le_of_eq q35.symm)
  have F_minLat_35 : Fld Z h35 o35 "com/example/peerpool/peerpool/core/Box" "minLat" "D" (.double 0) := D35 (Or.inr (hw _ (List.mem_of_getElem? (i := 15) rfl))) (ty := .double) (by decide)
  have F_maxLat_35 : Fld Z h35 o35 "com/example/peerpool/peerpool/core/Box" "maxLat" "D" (.double 0) := D35 (Or.inr (hw _ (List.mem_of_getElem? (i := 17) rfl))) (ty := .double) (by decide)
  have F_minLon_35 : Fld Z h35 o35 "com/example/peerpool/peerpool/core/Box" "minLon" "D" (.double 0) := D35 (Or.inr (hw _ (List.mem_of_getElem? (i := 19) rfl))) (ty := .double) (by decide)
  have F_maxLon_35 : Fld Z h35 o35 "com/example/peerpool/peerpool/core/Box" "maxLon" "D" (.double 0) := D35 (Or.inr (hw _ (List.mem_of_getElem? (i := 21) rfl))) (ty := .double) (by decide)
  have K35 : Keep h0 h35 [] := Keep.ext K0 E35
  have Zs35 : n0 ≤ h35.size := Nat.le_trans Z0 E35.1
  show Go p e below _ (T35.setTop (mkF m 29 #[.val (.int p1), .val (.int p2), .val (.int p3), .val (.int p4), .val (.int p5), .val (.int p6), .val (.double (FP.l2d p1.toInt64)), .second, .val (.double (FP.l2d p2.toInt64)), .second, .val (.double (FP.l2d p3.toInt64)), .second, .val (.double (FP.l2d p4.toInt64)), .second, .val (.double (FP.l2d p5.toInt64)), .second, .val (.double (FP.l2d p6.toInt64)), .second, .unset, .unset, .unset, .unset, .unset, .unset] [(.ref o35)]))
  refine g_dup X35 hx (hb hby at_29) 30 rfl rfl ?_
  refine g_dload X35 hx (hb hby at_30) 32 rfl (v := (FP.l2d p1.toInt64)) rfl ?_
  refine g_dload X35 hx (hb hby at_32) 34 rfl (v := (FP.l2d p2.toInt64)) rfl ?_
  refine g_dload X35 hx (hb hby at_34) 36 rfl (v := (FP.l2d p3.toInt64)) rfl ?_
  refine g_dload X35 hx (hb hby at_36) 38 rfl (v := (FP.l2d p4.toInt64)) rfl ?_
  obtain ⟨_, _, ⟨T37, L37, k37, n37⟩, -, X37, ⟨Lc37, hQ37, l37, y37, z37⟩, st37⟩ := X35.specialBack hx (y := (⟨"com/example/peerpool/peerpool/core/Box", "<init>", "(DDDD)V"⟩ : MethodName)) rfl hown (mvT hZ (hw _ (List.mem_of_getElem? (i := 3) rfl))) (mvT hZ (hw _ (List.mem_of_getElem? (i := 4) rfl))) (mvT hZ (hw _ (List.mem_of_getElem? (i := 5) rfl))) (by decide) (backOf (W := 1) (rm1 l Z a0 hw [] o35 (FP.l2d p1.toInt64) (FP.l2d p2.toInt64) (FP.l2d p3.toInt64) (FP.l2d p4.toInt64) (.double 0) (.double 0) (.double 0) (.double 0) h35 n0 Zs35 A35 g_o35 F_minLat_35 F_maxLat_35 F_minLon_35 F_maxLon_35) hZ (hw _ (List.mem_of_getElem? (i := 5) rfl)) (hw _ (List.mem_of_getElem? (i := 2) rfl)) (by decide) (by decide)) (g := (mkF m 38 #[.val (.int p1), .val (.int p2), .val (.int p3), .val (.int p4), .val (.int p5), .val (.int p6), .val (.double (FP.l2d p1.toInt64)), .second, .val (.double (FP.l2d p2.toInt64)), .second, .val (.double (FP.l2d p3.toInt64)), .second, .val (.double (FP.l2d p4.toInt64)), .second, .val (.double (FP.l2d p5.toInt64)), .second, .val (.double (FP.l2d p6.toInt64)), .second, .unset, .unset, .unset, .unset, .unset, .unset] [(.double (FP.l2d p4.toInt64)), (.double (FP.l2d p3.toInt64)), (.double (FP.l2d p2.toInt64)), (.double (FP.l2d p1.toInt64)), (.ref o35), (.ref o35)])) rfl (by rw [hml]; rfl) (Steps.refl _) (a := o35) (argsL := [(.double (FP.l2d p1.toInt64)), (.double (FP.l2d p2.toInt64)), (.double (FP.l2d p3.toInt64)), (.double (FP.l2d p4.toInt64))]) (rest := [(.ref o35)]) (lenOf own_pd2 rfl) rfl (by show 2 * 0 + _ ≤ _; exact Nat.le_of_eq rfl) (hb hby at_38) (fun _ _ => ⟨rfl, e35, (by decide : 1 + 0 ≤ _), (by decide : 4 + 0 ≤ _)⟩)
  dsimp only [Pt.U, Pt.locs, Pt.cells, Pt.slots] at X37 l37 y37 z37 st37 hQ37
  subst l37 y37 z37
  obtain ⟨rfl, Nq37, Kq37, f37_0, f37_1, f37_2, f37_3, f37_4⟩ := hQ37
  refine Go.tr st37 ?_
  have N37 := Fr.app N0 Nq37
  have E_o35_38 : Exa Z T37.heap o35 "com/example/peerpool/peerpool/core/Box" := Exa.keep A35 Kq37
  have K37 : Keep h0 T37.heap [] := Keep.trans K35 Kq37 (allS (Or.inr mh_o35) all0)
  have Zs37 : n0 ≤ T37.heap.size := Nat.le_trans Zs35 Kq37.1
  show Go p e below _ (T37.setTop (mkF m 41 #[.val (.int p1), .val (.int p2), .val (.int p3), .val (.int p4), .val (.int p5), .val (.int p6), .val (.double (FP.l2d p1.toInt64)), .second, .val (.double (FP.l2d p2.toInt64)), .second, .val (.double (FP.l2d p3.toInt64)), .second, .val (.double (FP.l2d p4.toInt64)), .second, .val (.double (FP.l2d p5.toInt64)), .second, .val (.double (FP.l2d p6.toInt64)), .second, .unset, .unset, .unset, .unset, .unset, .unset] [(.ref o35)]))
  refine g_astore X37 hx (hb hby at_41) 43 rfl rfl #[.val (.int p1), .val (.int p2), .val (.int p3), .val (.int p4), .val (.int p5), .val (.int p6), .val (.double (FP.l2d p1.toInt64)), .second, .val (.double (FP.l2d p2.toInt64)), .second, .val (.double (FP.l2d p3.toInt64)), .second, .val (.double (FP.l2d p4.toInt64)), .second, .val (.double (FP.l2d p5.toInt64)), .second, .val (.double (FP.l2d p6.toInt64)), .second, .val (.ref o35), .unset, .unset, .unset, .unset, .unset] rfl ?_
  obtain ⟨T39, h39, X39, e39, E39, A39, D39, -, st39⟩ := newO X37 hx hZ hown (hw _ (List.mem_of_getElem? (i := 0) rfl)) (hw _ (List.mem_of_getElem? (i := 1) rfl)) (hw _ (List.mem_of_getElem? (i := 2) rfl)) rfl (g := (mkF m 43 #[.val (.int p1), .val (.int p2), .val (.int p3), .val (.int p4), .val (.int p5), .val (.int p6), .val (.double (FP.l2d p1.toInt64)), .second, .val (.double (FP.l2d p2.toInt64)), .second, .val (.double (FP.l2d p3.toInt64)), .second, .val (.double (FP.l2d p4.toInt64)), .second, .val (.double (FP.l2d p5.toInt64)), .second, .val (.double (FP.l2d p6.toInt64)), .second, .val (.ref o35), .unset, .unset, .unset, .unset, .unset] [])) rfl (hb hby at_43) (by decide) (by decide)
  refine Go.st st39 ?_
  obtain ⟨o39, q39⟩ : ∃ z, z = T37.heap.size := ⟨_, rfl⟩
  rw [← q39] at A39 D39 ⊢
  have ne_o35_o39 : o35 ≠ o39 := Nat.ne_of_lt (Nat.lt_of_lt_of_eq f37_0.lt q39.symm)
  have g_o39 : n0 ≤ o39 := Nat.le_trans Zs37 (Nat.le_of_eq q39.symm)
  have mh_o39 : h0.size ≤ o39 := Nat.le_trans K37.1 (Nat.le_of_eq q39.symm)
  have E_o35_40 : Exa Z h39 o35 "com/example/peerpool/peerpool/core/Box" := Exa.ext E39 f37_0
  have F_minLat_o35_40 : Fld Z h39 o35 "com/example/peerpool/peerpool/core/Box" "minLat" "D" (.double (FP.l2d p1.toInt64)) := Fld.ext E39 f37_1
  have F_maxLat_o35_40 : Fld Z h39 o35 "com/example/peerpool/peerpool/core/Box" "maxLat" "D" (.double (FP.l2d p2.toInt64)) := Fld.ext E39 f37_2
  have F_minLon_o35_40 : Fld Z h39 o35 "com/example/peerpool/peerpool/core/Box" "minLon" "D" (.double (FP.l2d p3.toInt64)) := Fld.ext E39 f37_3
  have F_maxLon_o35_40 : Fld Z h39 o35 "com/example/peerpool/peerpool/core/Box" "maxLon" "D" (.double (FP.l2d p4.toInt64)) := Fld.ext E39 f37_4
  have F_minLat_39 : Fld Z h39 o39 "com/example/peerpool/peerpool/core/Box" "minLat" "D" (.double 0) := D39 (Or.inr (hw _ (List.mem_of_getElem? (i := 15) rfl))) (ty := .double) (by decide)
  have F_maxLat_39 : Fld Z h39 o39 "com/example/peerpool/peerpool/core/Box" "maxLat" "D" (.double 0) := D39 (Or.inr (hw _ (List.mem_of_getElem? (i := 17) rfl))) (ty := .double) (by decide)
  have F_minLon_39 : Fld Z h39 o39 "com/example/peerpool/peerpool/core/Box" "minLon" "D" (.double 0) := D39 (Or.inr (hw _ (List.mem_of_getElem? (i := 19) rfl))) (ty := .double) (by decide)
  have F_maxLon_39 : Fld Z h39 o39 "com/example/peerpool/peerpool/core/Box" "maxLon" "D" (.double 0) := D39 (Or.inr (hw _ (List.mem_of_getElem? (i := 21) rfl))) (ty := .double) (by decide)
  have K39 : Keep h0 h39 [] := Keep.ext K37 E39
  have Zs39 : n0 ≤ h39.size := Nat.le_trans Zs37 E39.1
  show Go p e below _ (T39.setTop (mkF m 46 #[.val (.int p1), .val (.int p2), .val (.int p3), .val (.int p4), .val (.int p5), .val (.int p6), .val (.double (FP.l2d p1.toInt64)), .second, .val (.double (FP.l2d p2.toInt64)), .second, .val (.double (FP.l2d p3.toInt64)), .second, .val (.double (FP.l2d p4.toInt64)), .second, .val (.double (FP.l2d p5.toInt64)), .second, .val (.double (FP.l2d p6.toInt64)), .second, .val (.ref o35), .unset, .unset, .unset, .unset, .unset] [(.ref o39)]))
  refine g_dup X39 hx (hb hby at_46) 47 rfl rfl ?_
  refine g_dload X39 hx (hb hby at_47) 49 rfl (v := (FP.l2d p5.toInt64)) rfl ?_
  refine g_dload X39 hx (hb hby at_49) 51 rfl (v := (FP.l2d p5.toInt64)) rfl ?_
  refine g_dload X39 hx (hb hby at_51) 53 rfl (v := (FP.l2d p6.toInt64)) rfl ?_
  refine g_dload X39 hx (hb hby at_53) 55 rfl (v := (FP.l2d p6.toInt64)) rfl ?_
  obtain ⟨_, _, ⟨T41, L41, k41, n41⟩, -, X41, ⟨Lc41, hQ41, l41, y41, z41⟩, st41⟩ := X39.specialBack hx (y := (⟨"com/example/peerpool/peerpool/core/Box", "<init>", "(DDDD)V"⟩ : MethodName)) rfl hown (mvT hZ (hw _ (List.mem_of_getElem? (i := 3) rfl))) (mvT hZ (hw _ (List.mem_of_getElem? (i := 4) rfl))) (mvT hZ (hw _ (List.mem_of_getElem? (i := 5) rfl))) (by decide) (backOf (W := 1) (rm1 l Z a0 hw [] o39 (FP.l2d p5.toInt64) (FP.l2d p5.toInt64) (FP.l2d p6.toInt64) (FP.l2d p6.toInt64) (.double 0) (.double 0) (.double 0) (.double 0) h39 n0 Zs39 A39 g_o39 F_minLat_39 F_maxLat_39 F_minLon_39 F_maxLon_39) hZ (hw _ (List.mem_of_getElem? (i := 5) rfl)) (hw _ (List.mem_of_getElem? (i := 2) rfl)) (by decide) (by decide)) (g := (mkF m 55 #[.val (.int p1), .val (.int p2), .val (.int p3), .val (.int p4), .val (.int p5), .val (.int p6), .val (.double (FP.l2d p1.toInt64)), .second, .val (.double (FP.l2d p2.toInt64)), .second, .val (.double (FP.l2d p3.toInt64)), .second, .val (.double (FP.l2d p4.toInt64)), .second, .val (.double (FP.l2d p5.toInt64)), .second, .val (.double (FP.l2d p6.toInt64)), .second, .val (.ref o35), .unset, .unset, .unset, .unset, .unset] [(.double (FP.l2d p6.toInt64)), (.double (FP.l2d p6.toInt64)), (.double (FP.l2d p5.toInt64)), (.double (FP.l2d p5.toInt64)), (.ref o39), (.ref o39)])) rfl (by rw [hml]; rfl) (Steps.refl _) (a := o39) (argsL := [(.double (FP.l2d p5.toInt64)), (.double (FP.l2d p5.toInt64)), (.double (FP.l2d p6.toInt64)), (.double (FP.l2d p6.toInt64))]) (rest := [(.ref o39)]) (lenOf own_pd2 rfl) rfl (by show 2 * 0 + _ ≤ _; exact Nat.le_of_eq rfl) (hb hby at_55) (fun _ _ => ⟨rfl, e39, (by decide : 2 + 0 ≤ _), (by decide : 8 + 0 ≤ _)⟩)
  dsimp only [Pt.U, Pt.locs, Pt.cells, Pt.slots] at X41 l41 y41 z41 st41 hQ41
  subst l41 y41 z41
  obtain ⟨rfl, Nq41, Kq41, f41_0, f41_1, f41_2, f41_3, f41_4⟩ := hQ41
  refine Go.tr st41 ?_
  have N41 := Fr.app N37 Nq41
  have E_o35_42 : Exa Z T41.heap o35 "com/example/peerpool/peerpool/core/Box" := Exa.keep E_o35_40 Kq41
  have F_minLat_o35_42 : Fld Z T41.heap o35 "com/example/peerpool/peerpool/core/Box" "minLat" "D" (.double (FP.l2d p1.toInt64)) := Fld.keep F_minLat_o35_40 Kq41 (ninS ne_o35_o39 nin0)
  have F_maxLat_o35_42 : Fld Z T41.heap o35 "com/example/peerpool/peerpool/core/Box" "maxLat" "D" (.double (FP.l2d p2.toInt64)) := Fld.keep F_maxLat_o35_40 Kq41 (ninS ne_o35_o39 nin0)
  have F_minLon_o35_42 : Fld Z T41.heap o35 "com/example/peerpool/peerpool/core/Box" "minLon" "D" (.double (FP.l2d p3.toInt64)) := Fld.keep F_minLon_o35_40 Kq41 (ninS ne_o35_o39 nin0)
  have F_maxLon_o35_42 : Fld Z T41.heap o35 "com/example/peerpool/peerpool/core/Box" "maxLon" "D" (.double (FP.l2d p4.toInt64)) := Fld.keep F_maxLon_o35_40 Kq41 (ninS ne_o35_o39 nin0)
  have E_o39_42 : Exa Z T41.heap o39 "com/example/peerpool/peerpool/core/Box" := Exa.keep A39 Kq41
  have K41 : Keep h0 T41.heap [] := Keep.trans K39 Kq41 (allS (Or.inr mh_o39) all0)
  have Zs41 : n0 ≤ T41.heap.size := Nat.le_trans Zs39 Kq41.1
  show Go p e below _ (T41.setTop (mkF m 58 #[.val (.int p1), .val (.int p2), .val (.int p3), .val (.int p4), .val (.int p5), .val (.int p6), .val (.double (FP.l2d p1.toInt64)), .second, .val (.double (FP.l2d p2.toInt64)), .second, .val (.double (FP.l2d p3.toInt64)), .second, .val (.double (FP.l2d p4.toInt64)), .second, .val (.double (FP.l2d p5.toInt64)), .second, .val (.double (FP.l2d p6.toInt64)), .second, .val (.ref o35), .unset, .unset, .unset, .unset, .unset] [(.ref o39)]))
  refine g_astore X41 hx (hb hby at_58) 60 rfl rfl #[.val (.int p1), .val (.int p2), .val (.int p3), .val (.int p4), .val (.int p5), .val (.int p6), .val (.double (FP.l2d p1.toInt64)), .second, .val (.double (FP.l2d p2.toInt64)), .second, .val (.double (FP.l2d p3.toInt64)), .second, .val (.double (FP.l2d p4.toInt64)), .second, .val (.double (FP.l2d p5.toInt64)), .second, .val (.double (FP.l2d p6.toInt64)), .second, .val (.ref o35), .val (.ref o39), .unset, .unset, .unset, .unset] rfl ?_
  refine g_aload X41 hx (hb hby at_60) 62 rfl (v := (.ref o35)) rfl rfl ?_
  refine g_dload X41 hx (hb hby at_62) 64 rfl (v := (FP.l2d p5.toInt64)) rfl ?_
  refine g_dload X41 hx (hb hby at_64) 66 rfl (v := (FP.l2d p6.toInt64)) rfl ?_
  obtain ⟨cq43, kq43, q43a, q43b, q43c⟩ := isOf hZ rfl E_o35_42
  obtain ⟨_, _, ⟨T43, L43, k43, n43⟩, -, X43, ⟨Lc43, hQ43, l43, y43, z43⟩, st43⟩ := X41.virtualBack hx (y := (⟨"com/example/peerpool/peerpool/core/Box", "contains", "(DD)Z"⟩ : MethodName)) (z := (⟨"com/example/peerpool/peerpool/core/Box", "contains", "(DD)Z"⟩ : MethodName)) hown (mvT hZ (hw _ (List.mem_of_getElem? (i := 22) rfl))) (mvT hZ (hw _ (List.mem_of_getElem? (i := 23) rfl))) (notFace_of_selects (args := #[]) (mvT hZ (hw _ (List.mem_of_getElem? (i := 25) rfl)))) (mvT hZ (hw _ (List.mem_of_getElem? (i := 25) rfl))) (mvT hZ (hw _ (List.mem_of_getElem? (i := 24) rfl))) (by decide) (backOf (W := 0) (rm4 l Z a0 hw [] o35 p1.toInt64 p2.toInt64 p3.toInt64 p4.toInt64 p5.toInt64 p6.toInt64 T41.heap n0 Zs41 F_minLat_o35_42 F_maxLat_o35_42 F_minLon_o35_42 F_maxLon_o35_42 (own_b p1) (own_b p2) (own_b p3) (own_b p4) (own_b p5) (own_b p6)) hZ (hw _ (List.mem_of_getElem? (i := 26) rfl)) (hw _ (List.mem_of_getElem? (i := 2) rfl)) (by decide) (by decide)) q43a q43c (g := (mkF m 66 #[.val (.int p1), .val (.int p2), .val (.int p3), .val (.int p4), .val (.int p5), .val (.int p6), .val (.double (FP.l2d p1.toInt64)), .second, .val (.double (FP.l2d p2.toInt64)), .second, .val (.double (FP.l2d p3.toInt64)), .second, .val (.double (FP.l2d p4.toInt64)), .second, .val (.double (FP.l2d p5.toInt64)), .second, .val (.double (FP.l2d p6.toInt64)), .second, .val (.ref o35), .val (.ref o39), .unset, .unset, .unset, .unset] [(.double (FP.l2d p6.toInt64)), (.double (FP.l2d p5.toInt64)), (.ref o35)])) rfl (by rw [hml]; rfl) (Steps.refl _) (argsL := [(.double (FP.l2d p5.toInt64)), (.double (FP.l2d p6.toInt64))]) (rest := []) (lenOf own_pd3 rfl) rfl (by show 2 * 0 + _ ≤ _; exact Nat.le_of_eq rfl) (hb hby at_66) (fun _ _ => ⟨rfl, rfl, (by decide : 2 + 0 ≤ _), (by decide : 8 + 0 ≤ _)⟩)
  dsimp only [Pt.U, Pt.locs, Pt.cells, Pt.slots] at X43 l43 y43 z43 st43 hQ43
  subst l43 y43 z43
  obtain ⟨r_43, rfl, Nq43, e43, p43_0⟩ := hQ43
  refine Go.tr st43 ?_
  have N43 := Fr.app N41 Nq43
  show Go p e below _ (T43.setTop (mkF m 69 #[.val (.int p1), .val (.int p2), .val (.int p3), .val (.int p4), .val (.int p5), .val (.int p6), .val (.double (FP.l2d p1.toInt64)), .second, .val (.double (FP.l2d p2.toInt64)), .second, .val (.double (FP.l2d p3.toInt64)), .second, .val (.double (FP.l2d p4.toInt64)), .second, .val (.double (FP.l2d p5.toInt64)), .second, .val (.double (FP.l2d p6.toInt64)), .second, .val (.ref o35), .val (.ref o39), .unset, .unset, .unset, .unset] [(.int r_43)]))
  refine g_istore X43 hx (hb hby at_69) 71 rfl #[.val (.int p1), .val (.int p2), .val (.int p3), .val (.int p4), .val (.int p5), .val (.int p6), .val (.double (FP.l2d p1.toInt64)), .second, .val (.double (FP.l2d p2.toInt64)), .second, .val (.double (FP.l2d p3.toInt64)), .second, .val (.double (FP.l2d p4.toInt64)), .second, .val (.double (FP.l2d p5.toInt64)), .second, .val (.double (FP.l2d p6.toInt64)), .second, .val (.ref o35), .val (.ref o39), .val (.int r_43), .unset, .unset, .unset] rfl ?_
  refine g_aload X43 hx (hb hby at_71) 73 rfl (v := (.ref o35)) rfl rfl ?_
  refine g_aload X43 hx (hb hby at_73) 75 rfl (v := (.ref o39)) rfl rfl ?_
  obtain ⟨cq44, kq44, q44a, q44b, q44c⟩ := isOf hZ e43 E_o35_42
  obtain ⟨_, _, ⟨T44, L44, k44, n44⟩, -, X44, ⟨Lc44, hQ44, l44, y44, z44⟩, st44⟩ := X43.virtualBack hx (y := (⟨"com/example/peerpool/peerpool/core/Box", "union", "(Lcom/example/peerpool/peerpool/core/Box;)Lcom/example/peerpool/peerpool/core/Box;"⟩ : MethodName)) (z := (⟨"com/example/peerpool/peerpool/core/Box", "union", "(Lcom/example/peerpool/peerpool/core/Box;)Lcom/example/peerpool/peerpool/core/Box;"⟩ : MethodName)) hown (mvT hZ (hw _ (List.mem_of_getElem? (i := 27) rfl))) (mvT hZ (hw _ (List.mem_of_getElem? (i := 28) rfl))) (notFace_of_selects (args := #[]) (mvT hZ (hw _ (List.mem_of_getElem? (i := 30) rfl)))) (mvT hZ (hw _ (List.mem_of_getElem? (i := 30) rfl))) (mvT hZ (hw _ (List.mem_of_getElem? (i := 29) rfl))) (by decide) (backOf (W := 0) (rm5 l Z a0 hw [] o35 o39 p1.toInt64 p2.toInt64 p3.toInt64 p4.toInt64 p5.toInt64 p6.toInt64 T41.heap n0 Zs41 F_minLat_o35_42 F_maxLat_o35_42 F_minLon_o35_42 F_maxLon_o35_42 f41_1 f41_2 f41_3 f41_4 (own_b p1) (own_b p2) (own_b p3) (own_b p4) (own_b p5) (own_b p6)) hZ (hw _ (List.mem_of_getElem? (i := 31) rfl)) (hw _ (List.mem_of_getElem? (i := 2) rfl)) (by decide) (by decide)) q44a q44c (g := (mkF m 75 #[.val (.int p1), .val (.int p2), .val (.int p3), .val (.int p4), .val (.int p5), .val (.int p6), .val (.double (FP.l2d p1.toInt64)), .second, .val (.double (FP.l2d p2.toInt64)), .second, .val (.double (FP.l2d p3.toInt64)), .second, .val (.double (FP.l2d p4.toInt64)), .second, .val (.double (FP.l2d p5.toInt64)), .second, .val (.double (FP.l2d p6.toInt64)), .second, .val (.ref o35), .val (.ref o39), .val (.int r_43), .unset, .unset, .unset] [(.ref o39), (.ref o35)])) rfl (by rw [hml]; rfl) (Steps.refl _) (argsL := [(.ref o39)]) (rest := []) (lenOf own_pd4 rfl) rfl (by show 2 * 0 + _ ≤ _; exact Nat.le_of_eq rfl) (hb hby at_75) (fun _ _ => ⟨rfl, e43, (by decide : 2 + 1 ≤ _), (by decide : 8 + 4 ≤ _)⟩)
  dsimp only [Pt.U, Pt.locs, Pt.cells, Pt.slots] at X44 l44 y44 z44 st44 hQ44
  subst l44 y44 z44
  obtain ⟨o_44, rfl, Nq44, Kq44, f44_0, f44_1, f44_2, f44_3, f44_4, f44_5⟩ := hQ44
  refine Go.tr st44 ?_
  have N44 := Fr.app N43 Nq44
  have E_o35_45 : Exa Z T44.heap o35 "com/example/peerpool/peerpool/core/Box" := Exa.keep E_o35_42 Kq44
  have F_minLat_o35_45 : Fld Z T44.heap o35 "com/example/peerpool/peerpool/core/Box" "minLat" "D" (.double (FP.l2d p1.toInt64)) := Fld.keep F_minLat_o35_42 Kq44 nin0
  have F_maxLat_o35_45 : Fld Z T44.heap o35 "com/example/peerpool/peerpool/core/Box" "maxLat" "D" (.double (FP.l2d p2.toInt64)) := Fld.keep F_maxLat_o35_42 Kq44 nin0
  have F_minLon_o35_45 : Fld Z T44.heap o35 "com/example/peerpool/peerpool/core/Box" "minLon" "D" (.double (FP.l2d p3.toInt64)) := Fld.keep F_minLon_o35_42 Kq44 nin0
  have F_maxLon_o35_45 : Fld Z T44.heap o35 "com/example/peerpool/peerpool/core/Box" "maxLon" "D" (.double (FP.l2d p4.toInt64)) := Fld.keep F_maxLon_o35_42 Kq44 nin0
  have E_o39_45 : Exa Z T44.heap o39 "com/example/peerpool/peerpool/core/Box" := Exa.keep f41_0 Kq44
  have F_minLat_o39_45 : Fld Z T44.heap o39 "com/example/peerpool/peerpool/core/Box" "minLat" "D" (.double (FP.l2d p5.toInt64)) := Fld.keep f41_1 Kq44 nin0
  have F_maxLat_o39_45 : Fld Z T44.heap o39 "com/example/peerpool/peerpool/core/Box" "maxLat" "D" (.double (FP.l2d p5.toInt64)) := Fld.keep f41_2 Kq44 nin0
  have F_minLon_o39_45 : Fld Z T44.heap o39 "com/example/peerpool/peerpool/core/Box" "minLon" "D" (.double (FP.l2d p6.toInt64)) := Fld.keep f41_3 Kq44 nin0
  have F_maxLon_o39_45 : Fld Z T44.heap o39 "com/example/peerpool/peerpool/core/Box" "maxLon" "D" (.double (FP.l2d p6.toInt64)) := Fld.keep f41_4 Kq44 nin0
  have ne_o35_o_44 : o35 ≠ o_44 := Nat.ne_of_lt (Nat.lt_of_lt_of_le E_o35_42.lt f44_0)
  have ne_o39_o_44 : o39 ≠ o_44 := Nat.ne_of_lt (Nat.lt_of_lt_of_le f41_0.lt f44_0)
  have g_o_44 : n0 ≤ o_44 := Nat.le_trans Zs41 f44_0
  have mh_o_44 : h0.size ≤ o_44 := Nat.le_trans K41.1 f44_0
  have K44 : Keep h0 T44.heap [] := Keep.trans K41 Kq44 all0
  have Zs44 : n0 ≤ T44.heap.size := Nat.le_trans Zs41 Kq44.1
  show Go p e below _ (T44.setTop (mkF m 78 #[.val (.int p1), .val (.int p2), .val (.int p3), .val (.int p4), .val (.int p5), .val (.int p6), .val (.double (FP.l2d p1.toInt64)), .second, .val (.double (FP.l2d p2.toInt64)), .second, .val (.double (FP.l2d p3.toInt64)), .second, .val (.double (FP.l2d p4.toInt64)), .second, .val (.double (FP.l2d p5.toInt64)), .second, .val (.double (FP.l2d p6.toInt64)), .second, .val (.ref o35), .val (.ref o39), .val (.int r_43), .unset, .unset, .unset] [(.ref o_44)]))
  refine g_astore X44 hx (hb hby at_78) 80 rfl rfl #[.val (.int p1), .val (.int p2), .val (.int p3), .val (.int p4), .val (.int p5), .val (.int p6), .val (.double (FP.l2d p1.toInt64)), .second, .val (.double (FP.l2d p2.toInt64)), .second, .val (.double (FP.l2d p3.toInt64)), .second, .val (.double (FP.l2d p4.toInt64)), .second, .val (.double (FP.l2d p5.toInt64)), .second, .val (.double (FP.l2d p6.toInt64)), .second, .val (.ref o35), .val (.ref o39), .val (.int r_43), .val (.ref o_44), .unset, .unset] rfl ?_
  refine g_aload X44 hx (hb hby at_80) 82 rfl (v := (.ref o_44)) rfl rfl ?_
  obtain ⟨cq46, kq46, q46a, q46b, q46c⟩ := isOf hZ rfl f44_1
  obtain ⟨_, _, ⟨T46, L46, k46, n46⟩, -, X46, ⟨Lc46, hQ46, l46, y46, z46⟩, st46⟩ := X44.virtualBack hx (y := (⟨"com/example/peerpool/peerpool/core/Box", "minLat", "()D"⟩ : MethodName)) (z := (⟨"com/example/peerpool/peerpool/core/Box", "minLat", "()D"⟩ : MethodName)) hown (mvT hZ (hw _ (List.mem_of_getElem? (i := 41) rfl))) (mvT hZ (hw _ (List.mem_of_getElem? (i := 42) rfl))) (notFace_of_selects (args := #[]) (mvT hZ (hw _ (List.mem_of_getElem? (i := 44) rfl)))) (mvT hZ (hw _ (List.mem_of_getElem? (i := 44) rfl))) (mvT hZ (hw _ (List.mem_of_getElem? (i := 43) rfl))) (by decide) (backOf (W := 0) (rm8 l Z a0 hw [] o_44 (FP.l2d (own_min p1.toInt64 p5.toInt64)) T44.heap n0 Zs44 f44_2) hZ (hw _ (List.mem_of_getElem? (i := 45) rfl)) (hw _ (List.mem_of_getElem? (i := 2) rfl)) (by decide) (by decide)) q46a q46c (g := (mkF m 82 #[.val (.int p1), .val (.int p2), .val (.int p3), .val (.int p4), .val (.int p5), .val (.int p6), .val (.double (FP.l2d p1.toInt64)), .second, .val (.double (FP.l2d p2.toInt64)), .second, .val (.double (FP.l2d p3.toInt64)), .second, .val (.double (FP.l2d p4.toInt64)), .second, .val (.double (FP.l2d p5.toInt64)), .second, .val (.double (FP.l2d p6.toInt64)), .second, .val (.ref o35), .val (.ref o39), .val (.int r_43), .val (.ref o_44), .unset, .unset] [(.ref o_44)])) rfl (by rw [hml]; rfl) (Steps.refl _) (argsL := []) (rest := []) (lenOf own_pd5 rfl) rfl (by show 2 * 0 + _ ≤ _; exact Nat.le_of_eq rfl) (hb hby at_82) (fun _ _ => ⟨rfl, rfl, (by decide : 3 + 0 ≤ _), (by decide : 12 + 0 ≤ _)⟩)
  dsimp only [Pt.U, Pt.locs, Pt.cells, Pt.slots] at X46 l46 y46 z46 st46 hQ46
  subst l46 y46 z46
  obtain ⟨rfl, Nq46, e46⟩ := hQ46
  refine Go.tr st46 ?_
  have N46 := Fr.app N44 Nq46
  show Go p e below _ (T46.setTop (mkF m 85 #[.val (.int p1), .val (.int p2), .val (.int p3), .val (.int p4), .val (.int p5), .val (.int p6), .val (.double (FP.l2d p1.toInt64)), .second, .val (.double (FP.l2d p2.toInt64)), .second, .val (.double (FP.l2d p3.toInt64)), .second, .val (.double (FP.l2d p4.toInt64)), .second, .val (.double (FP.l2d p5.toInt64)), .second, .val (.double (FP.l2d p6.toInt64)), .second, .val (.ref o35), .val (.ref o39), .val (.int r_43), .val (.ref o_44), .unset, .unset] [(.double (FP.l2d (own_min p1.toInt64 p5.toInt64)))]))
  refine g_dload X46 hx (hb hby at_85) 87 rfl (v := (FP.l2d p1.toInt64)) rfl ?_
  refine g_dcmp X46 hx (hb hby at_87) 88 rfl (lcmpW (own_min p1.toInt64 p5.toInt64) p1.toInt64) (dcmpV_w (own_bmin (own_b p1) (own_b p5)) (own_b p1) _) ?_
  refine g_if_ne X46 hx (hb hby at_88) 128 91 (by decide) (by decide) rfl (fun hc88 => ?_) (fun hc88 => ?_)
  · refine g_iconst X46 hx (hb hby at_128) 129 rfl (0 : Int32) rfl ?_
    refine g_istore X46 hx (hb hby at_129) 131 rfl #[.val (.int p1), .val (.int p2), .val (.int p3), .val (.int p4), .val (.int p5), .val (.int p6), .val (.double (FP.l2d p1.toInt64)), .second, .val (.double (FP.l2d p2.toInt64)), .second, .val (.double (FP.l2d p3.toInt64)), .second, .val (.double (FP.l2d p4.toInt64)), .second, .val (.double (FP.l2d p5.toInt64)), .second, .val (.double (FP.l2d p6.toInt64)), .second, .val (.ref o35), .val (.ref o39), .val (.int r_43), .val (.ref o_44), .val (.int (0 : Int32)), .unset] rfl ?_
    refine g_iloadN X46 hx (hb hby at_131) 132 rfl (v := p1) rfl ?_
    refine g_iload X46 hx (hb hby at_132) 134 rfl (v := p5) rfl ?_
    refine g_icmp_gt X46 hx (hb hby at_134) 159 137 (by decide) (by decide) rfl (fun hc134 => ?_) (fun hc134 => False.elim (hc134 (own_dn (own_mn1 hc88))))
    refine g_iconst X46 hx (hb hby at_159) 160 rfl (0 : Int32) rfl ?_
    refine g_istore X46 hx (hb hby at_160) 162 rfl #[.val (.int p1), .val (.int p2), .val (.int p3), .val (.int p4), .val (.int p5), .val (.int p6), .val (.double (FP.l2d p1.toInt64)), .second, .val (.double (FP.l2d p2.toInt64)), .second, .val (.double (FP.l2d p3.toInt64)), .second, .val (.double (FP.l2d p4.toInt64)), .second, .val (.double (FP.l2d p5.toInt64)), .second, .val (.double (FP.l2d p6.toInt64)), .second, .val (.ref o35), .val (.ref o39), .val (.int r_43), .val (.ref o_44), .val (.int (0 : Int32)), .val (.int (0 : Int32))] rfl ?_
    refine g_iload X46 hx (hb hby at_162) 164 rfl (v := r_43) rfl ?_
    refine g_iload X46 hx (hb hby at_164) 166 rfl (v := (0 : Int32)) rfl ?_
    refine g_icmp_ne X46 hx (hb hby at_166) 180 169 (by decide) (by decide) rfl (fun hc166 => False.elim (hc166 (p43_0.trans (if_pos (Or.inl (own_mn1 hc88)))))) (fun hc166 => ?_)
    refine g_iload X46 hx (hb hby at_169) 171 rfl (v := r_43) rfl ?_
    refine g_iload X46 hx (hb hby at_171) 173 rfl (v := (0 : Int32)) rfl ?_
    refine g_icmp_ne X46 hx (hb hby at_173) 180 176 (by decide) (by decide) rfl (fun hc173 => False.elim (hc173 (p43_0.trans (if_pos (Or.inl (own_mn1 hc88)))))) (fun hc173 => ?_)
    refine g_iconst X46 hx (hb hby at_176) 177 rfl (1 : Int32) rfl ?_
    refine g_goto X46 hx (hb hby at_177) 181 (by decide) (by decide) ?_
    refine Go.retN X46 hx hlk (t := .boolean) Bd.returns (by simp) (hb hby at_181) (by decide) (by decide) ?_
    exact ⟨rfl, N46⟩
  · refine g_aload X46 hx (hb hby at_91) 93 rfl (v := (.ref o_44)) rfl rfl ?_
    obtain ⟨cq47, kq47, q47a, q47b, q47c⟩ := isOf hZ e46 f44_1
    obtain ⟨_, _, ⟨T47, L47, k47, n47⟩, -, X47, ⟨Lc47, hQ47, l47, y47, z47⟩, st47⟩ := X46.virtualBack hx (y := (⟨"com/example/peerpool/peerpool/core/Box", "maxLat", "()D"⟩ : MethodName)) (z := (⟨"com/example/peerpool/peerpool/core/Box", "maxLat", "()D"⟩ : MethodName)) hown (mvT hZ (hw _ (List.mem_of_getElem? (i := 46) rfl))) (mvT hZ (hw _ (List.mem_of_getElem? (i := 47) rfl))) (notFace_of_selects (args := #[]) (mvT hZ (hw _ (List.mem_of_getElem? (i := 49) rfl)))) (mvT hZ (hw _ (List.mem_of_getElem? (i := 49) rfl))) (mvT hZ (hw _ (List.mem_of_getElem? (i := 48) rfl))) (by decide) (backOf (W := 0) (rm9 l Z a0 hw [] o_44 (FP.l2d (own_max p2.toInt64 p5.toInt64)) T44.heap n0 Zs44 f44_3) hZ (hw _ (List.mem_of_getElem? (i := 50) rfl)) (hw _ (List.mem_of_getElem? (i := 2) rfl)) (by decide) (by decide)) q47a q47c (g := (mkF m 93 #[.val (.int p1), .val (.int p2), .val (.int p3), .val (.int p4), .val (.int p5), .val (.int p6), .val (.double (FP.l2d p1.toInt64)), .second, .val (.double (FP.l2d p2.toInt64)), .second, .val (.double (FP.l2d p3.toInt64)), .second, .val (.double (FP.l2d p4.toInt64)), .second, .val (.double (FP.l2d p5.toInt64)), .second, .val (.double (FP.l2d p6.toInt64)), .second, .val (.ref o35), .val (.ref o39), .val (.int r_43), .val (.ref o_44), .unset, .unset] [(.ref o_44)])) rfl (by rw [hml]; rfl) (Steps.refl _) (argsL := []) (rest := []) (lenOf own_pd5 rfl) rfl (by show 2 * 0 + _ ≤ _; exact Nat.le_of_eq rfl) (hb hby at_93) (fun _ _ => ⟨rfl, e46, (by decide : 3 + 0 ≤ _), (by decide : 12 + 0 ≤ _)⟩)
    dsimp only [Pt.U, Pt.locs, Pt.cells, Pt.slots] at X47 l47 y47 z47 st47 hQ47
    subst l47 y47 z47
    obtain ⟨rfl, Nq47, e47⟩ := hQ47
    refine Go.tr st47 ?_
    have N47 := Fr.app N46 Nq47
    show Go p e below _ (T47.setTop (mkF m 96 #[.val (.int p1), .val (.int p2), .val (.int p3), .val (.int p4), .val (.int p5), .val (.int p6), .val (.double (FP.l2d p1.toInt64)), .second, .val (.double (FP.l2d p2.toInt64)), .second, .val (.double (FP.l2d p3.toInt64)), .second, .val (.double (FP.l2d p4.toInt64)), .second, .val (.double (FP.l2d p5.toInt64)), .second, .val (.double (FP.l2d p6.toInt64)), .second, .val (.ref o35), .val (.ref o39), .val (.int r_43), .val (.ref o_44), .unset, .unset] [(.double (FP.l2d (own_max p2.toInt64 p5.toInt64)))]))
    refine g_dload X47 hx (hb hby at_96) 98 rfl (v := (FP.l2d p2.toInt64)) rfl ?_
    refine g_dcmp X47 hx (hb hby at_98) 99 rfl (lcmpW (own_max p2.toInt64 p5.toInt64) p2.toInt64) (dcmpV_w (own_bmax (own_b p2) (own_b p5)) (own_b p2) _) ?_
    refine g_if_ne X47 hx (hb hby at_99) 128 102 (by decide) (by decide) rfl (fun hc99 => ?_) (fun hc99 => ?_)
    · refine g_iconst X47 hx (hb hby at_128) 129 rfl (0 : Int32) rfl ?_
      refine g_istore X47 hx (hb hby at_129) 131 rfl #[.val (.int p1), .val (.int p2), .val (.int p3), .val (.int p4), .val (.int p5), .val (.int p6), .val (.double (FP.l2d p1.toInt64)), .second, .val (.double (FP.l2d p2.toInt64)), .second, .val (.double (FP.l2d p3.toInt64)), .second, .val (.double (FP.l2d p4.toInt64)), .second, .val (.double (FP.l2d p5.toInt64)), .second, .val (.double (FP.l2d p6.toInt64)), .second, .val (.ref o35), .val (.ref o39), .val (.int r_43), .val (.ref o_44), .val (.int (0 : Int32)), .unset] rfl ?_
      refine g_iloadN X47 hx (hb hby at_131) 132 rfl (v := p1) rfl ?_
      refine g_iload X47 hx (hb hby at_132) 134 rfl (v := p5) rfl ?_
      refine g_icmp_gt X47 hx (hb hby at_134) 159 137 (by decide) (by decide) rfl (fun hc134 => False.elim (own_mn0 hc88 (own_up hc134))) (fun hc134 => ?_)
      refine g_iload X47 hx (hb hby at_137) 139 rfl (v := p5) rfl ?_
      refine g_iloadN X47 hx (hb hby at_139) 140 rfl (v := p2) rfl ?_
      refine g_icmp_gt X47 hx (hb hby at_140) 159 143 (by decide) (by decide) rfl (fun hc140 => ?_) (fun hc140 => False.elim (hc140 (own_dn (own_mx1 hc99))))
      refine g_iconst X47 hx (hb hby at_159) 160 rfl (0 : Int32) rfl ?_
      refine g_istore X47 hx (hb hby at_160) 162 rfl #[.val (.int p1), .val (.int p2), .val (.int p3), .val (.int p4), .val (.int p5), .val (.int p6), .val (.double (FP.l2d p1.toInt64)), .second, .val (.double (FP.l2d p2.toInt64)), .second, .val (.double (FP.l2d p3.toInt64)), .second, .val (.double (FP.l2d p4.toInt64)), .second, .val (.double (FP.l2d p5.toInt64)), .second, .val (.double (FP.l2d p6.toInt64)), .second, .val (.ref o35), .val (.ref o39), .val (.int r_43), .val (.ref o_44), .val (.int (0 : Int32)), .val (.int (0 : Int32))] rfl ?_
      refine g_iload X47 hx (hb hby at_162) 164 rfl (v := r_43) rfl ?_
      refine g_iload X47 hx (hb hby at_164) 166 rfl (v := (0 : Int32)) rfl ?_
      refine g_icmp_ne X47 hx (hb hby at_166) 180 169 (by decide) (by decide) rfl (fun hc166 => False.elim (hc166 (p43_0.trans (if_pos (Or.inr (Or.inl (own_mx1 hc99))))))) (fun hc166 => ?_)
      refine g_iload X47 hx (hb hby at_169) 171 rfl (v := r_43) rfl ?_
      refine g_iload X47 hx (hb hby at_171) 173 rfl (v := (0 : Int32)) rfl ?_
      refine g_icmp_ne X47 hx (hb hby at_173) 180 176 (by decide) (by decide) rfl (fun hc173 => False.elim (hc173 (p43_0.trans (if_pos (Or.inr (Or.inl (own_mx1 hc99))))))) (fun hc173 => ?_)
      refine g_iconst X47 hx (hb hby at_176) 177 rfl (1 : Int32) rfl ?_
      refine g_goto X47 hx (hb hby at_177) 181 (by decide) (by decide) ?_
      refine Go.retN X47 hx hlk (t := .boolean) Bd.returns (by simp) (hb hby at_181) (by decide) (by decide) ?_
      exact ⟨rfl, N47⟩
    · refine g_aload X47 hx (hb hby at_102) 104 rfl (v := (.ref o_44)) rfl rfl ?_
      obtain ⟨cq48, kq48, q48a, q48b, q48c⟩ := isOf hZ e47 f44_1
      obtain ⟨_, _, ⟨T48, L48, k48, n48⟩, -, X48, ⟨Lc48, hQ48, l48, y48, z48⟩, st48⟩ := X47.virtualBack hx (y := (⟨"com/example/peerpool/peerpool/core/Box", "minLon", "()D"⟩ : MethodName)) (z := (⟨"com/example/peerpool/peerpool/core/Box", "minLon", "()D"⟩ : MethodName)) hown (mvT hZ (hw _ (List.mem_of_getElem? (i := 51) rfl))) (mvT hZ (hw _ (List.mem_of_getElem? (i := 52) rfl))) (notFace_of_selects (args := #[]) (mvT hZ (hw _ (List.mem_of_getElem? (i := 54) rfl)))) (mvT hZ (hw _ (List.mem_of_getElem? (i := 54) rfl))) (mvT hZ (hw _ (List.mem_of_getElem? (i := 53) rfl))) (by decide) (backOf (W := 0) (rm10 l Z a0 hw [] o_44 (FP.l2d (own_min p3.toInt64 p6.toInt64)) T44.heap n0 Zs44 f44_4) hZ (hw _ (List.mem_of_getElem? (i := 55) rfl)) (hw _ (List.mem_of_getElem? (i := 2) rfl)) (by decide) (by decide)) q48a q48c (g := (mkF m 104 #[.val (.int p1), .val (.int p2), .val (.int p3), .val (.int p4), .val (.int p5), .val (.int p6), .val (.double (FP.l2d p1.toInt64)), .second, .val (.double (FP.l2d p2.toInt64)), .second, .val (.double (FP.l2d p3.toInt64)), .second, .val (.double (FP.l2d p4.toInt64)), .second, .val (.double (FP.l2d p5.toInt64)), .second, .val (.double (FP.l2d p6.toInt64)), .second, .val (.ref o35), .val (.ref o39), .val (.int r_43), .val (.ref o_44), .unset, .unset] [(.ref o_44)])) rfl (by rw [hml]; rfl) (Steps.refl _) (argsL := []) (rest := []) (lenOf own_pd5 rfl) rfl (by show 2 * 0 + _ ≤ _; exact Nat.le_of_eq rfl) (hb hby at_104) (fun _ _ => ⟨rfl, e47, (by decide : 3 + 0 ≤ _), (by decide : 12 + 0 ≤ _)⟩)
      dsimp only [Pt.U, Pt.locs, Pt.cells, Pt.slots] at X48 l48 y48 z48 st48 hQ48
      subst l48 y48 z48
      obtain ⟨rfl, Nq48, e48⟩ := hQ48
      refine Go.tr st48 ?_
      have N48 := Fr.app N47 Nq48
      show Go p e below _ (T48.setTop (mkF m 107 #[.val (.int p1), .val (.int p2), .val (.int p3), .val (.int p4), .val (.int p5), .val (.int p6), .val (.double (FP.l2d p1.toInt64)), .second, .val (.double (FP.l2d p2.toInt64)), .second, .val (.double (FP.l2d p3.toInt64)), .second, .val (.double (FP.l2d p4.toInt64)), .second, .val (.double (FP.l2d p5.toInt64)), .second, .val (.double (FP.l2d p6.toInt64)), .second, .val (.ref o35), .val (.ref o39), .val (.int r_43), .val (.ref o_44), .unset, .unset] [(.double (FP.l2d (own_min p3.toInt64 p6.toInt64)))]))
      refine g_dload X48 hx (hb hby at_107) 109 rfl (v := (FP.l2d p3.toInt64)) rfl ?_
      refine g_dcmp X48 hx (hb hby at_109) 110 rfl (lcmpW (own_min p3.toInt64 p6.toInt64) p3.toInt64) (dcmpV_w (own_bmin (own_b p3) (own_b p6)) (own_b p3) _) ?_
      refine g_if_ne X48 hx (hb hby at_110) 128 113 (by decide) (by decide) rfl (fun hc110 => ?_) (fun hc110 => ?_)
      · refine g_iconst X48 hx (hb hby at_128) 129 rfl (0 : Int32) rfl ?_
        refine g_istore X48 hx (hb hby at_129) 131 rfl #[.val (.int p1), .val (.int p2), .val (.int p3), .val (.int p4), .val (.int p5), .val (.int p6), .val (.double (FP.l2d p1.toInt64)), .second, .val (.double (FP.l2d p2.toInt64)), .second, .val (.double (FP.l2d p3.toInt64)), .second, .val (.double (FP.l2d p4.toInt64)), .second, .val (.double (FP.l2d p5.toInt64)), .second, .val (.double (FP.l2d p6.toInt64)), .second, .val (.ref o35), .val (.ref o39), .val (.int r_43), .val (.ref o_44), .val (.int (0 : Int32)), .unset] rfl ?_
        refine g_iloadN X48 hx (hb hby at_131) 132 rfl (v := p1) rfl ?_
        refine g_iload X48 hx (hb hby at_132) 134 rfl (v := p5) rfl ?_
        refine g_icmp_gt X48 hx (hb hby at_134) 159 137 (by decide) (by decide) rfl (fun hc134 => False.elim (own_mn0 hc88 (own_up hc134))) (fun hc134 => ?_)
        refine g_iload X48 hx (hb hby at_137) 139 rfl (v := p5) rfl ?_
        refine g_iloadN X48 hx (hb hby at_139) 140 rfl (v := p2) rfl ?_
        refine g_icmp_gt X48 hx (hb hby at_140) 159 143 (by decide) (by decide) rfl (fun hc140 => False.elim (own_mx0 hc99 (own_up hc140))) (fun hc140 => ?_)
        refine g_iloadN X48 hx (hb hby at_143) 144 rfl (v := p3) rfl ?_
        refine g_iload X48 hx (hb hby at_144) 146 rfl (v := p6) rfl ?_
        refine g_icmp_gt X48 hx (hb hby at_146) 159 149 (by decide) (by decide) rfl (fun hc146 => ?_) (fun hc146 => False.elim (hc146 (own_dn (own_mn1 hc110))))
        refine g_iconst X48 hx (hb hby at_159) 160 rfl (0 : Int32) rfl ?_
        refine g_istore X48 hx (hb hby at_160) 162 rfl #[.val (.int p1), .val (.int p2), .val (.int p3), .val (.int p4), .val (.int p5), .val (.int p6), .val (.double (FP.l2d p1.toInt64)), .second, .val (.double (FP.l2d p2.toInt64)), .second, .val (.double (FP.l2d p3.toInt64)), .second, .val (.double (FP.l2d p4.toInt64)), .second, .val (.double (FP.l2d p5.toInt64)), .second, .val (.double (FP.l2d p6.toInt64)), .second, .val (.ref o35), .val (.ref o39), .val (.int r_43), .val (.ref o_44), .val (.int (0 : Int32)), .val (.int (0 : Int32))] rfl ?_
        refine g_iload X48 hx (hb hby at_162) 164 rfl (v := r_43) rfl ?_
        refine g_iload X48 hx (hb hby at_164) 166 rfl (v := (0 : Int32)) rfl ?_
        refine g_icmp_ne X48 hx (hb hby at_166) 180 169 (by decide) (by decide) rfl (fun hc166 => False.elim (hc166 (p43_0.trans (if_pos (Or.inr (Or.inr (Or.inl (own_mn1 hc110)))))))) (fun hc166 => ?_)
        refine g_iload X48 hx (hb hby at_169) 171 rfl (v := r_43) rfl ?_
        refine g_iload X48 hx (hb hby at_171) 173 rfl (v := (0 : Int32)) rfl ?_
        refine g_icmp_ne X48 hx (hb hby at_173) 180 176 (by decide) (by decide) rfl (fun hc173 => False.elim (hc173 (p43_0.trans (if_pos (Or.inr (Or.inr (Or.inl (own_mn1 hc110)))))))) (fun hc173 => ?_)
        refine g_iconst X48 hx (hb hby at_176) 177 rfl (1 : Int32) rfl ?_
        refine g_goto X48 hx (hb hby at_177) 181 (by decide) (by decide) ?_
        refine Go.retN X48 hx hlk (t := .boolean) Bd.returns (by simp) (hb hby at_181) (by decide) (by decide) ?_
        exact ⟨rfl, N48⟩
      · refine g_aload X48 hx (hb hby at_113) 115 rfl (v := (.ref o_44)) rfl rfl ?_
        obtain ⟨cq49, kq49, q49a, q49b, q49c⟩ := isOf hZ e48 f44_1
        obtain ⟨_, _, ⟨T49, L49, k49, n49⟩, -, X49, ⟨Lc49, hQ49, l49, y49, z49⟩, st49⟩ := X48.virtualBack hx (y := (⟨"com/example/peerpool/peerpool/core/Box", "maxLon", "()D"⟩ : MethodName)) (z := (⟨"com/example/peerpool/peerpool/core/Box", "maxLon", "()D"⟩ : MethodName)) hown (mvT hZ (hw _ (List.mem_of_getElem? (i := 56) rfl))) (mvT hZ (hw _ (List.mem_of_getElem? (i := 57) rfl))) (notFace_of_selects (args := #[]) (mvT hZ (hw _ (List.mem_of_getElem? (i := 59) rfl)))) (mvT hZ (hw _ (List.mem_of_getElem? (i := 59) rfl))) (mvT hZ (hw _ (List.mem_of_getElem? (i := 58) rfl))) (by decide) (backOf (W := 0) (rm11 l Z a0 hw [] o_44 (FP.l2d (own_max p4.toInt64 p6.toInt64)) T44.heap n0 Zs44 f44_5) hZ (hw _ (List.mem_of_getElem? (i := 60) rfl)) (hw _ (List.mem_of_getElem? (i := 2) rfl)) (by decide) (by decide)) q49a q49c (g := (mkF m 115 #[.val (.int p1), .val (.int p2), .val (.int p3), .val (.int p4), .val (.int p5), .val (.int p6), .val (.double (FP.l2d p1.toInt64)), .second, .val (.double (FP.l2d p2.toInt64)), .second, .val (.double (FP.l2d p3.toInt64)), .second, .val (.double (FP.l2d p4.toInt64)), .second, .val (.double (FP.l2d p5.toInt64)), .second, .val (.double (FP.l2d p6.toInt64)), .second, .val (.ref o35), .val (.ref o39), .val (.int r_43), .val (.ref o_44), .unset, .unset] [(.ref o_44)])) rfl (by rw [hml]; rfl) (Steps.refl _) (argsL := []) (rest := []) (lenOf own_pd5 rfl) rfl (by show 2 * 0 + _ ≤ _; exact Nat.le_of_eq rfl) (hb hby at_115) (fun _ _ => ⟨rfl, e48, (by decide : 3 + 0 ≤ _), (by decide : 12 + 0 ≤ _)⟩)
        dsimp only [Pt.U, Pt.locs, Pt.cells, Pt.slots] at X49 l49 y49 z49 st49 hQ49
        subst l49 y49 z49
        obtain ⟨rfl, Nq49, e49⟩ := hQ49
        refine Go.tr st49 ?_
        have N49 := Fr.app N48 Nq49
        show Go p e below _ (T49.setTop (mkF m 118 #[.val (.int p1), .val (.int p2), .val (.int p3), .val (.int p4), .val (.int p5), .val (.int p6), .val (.double (FP.l2d p1.toInt64)), .second, .val (.double (FP.l2d p2.toInt64)), .second, .val (.double (FP.l2d p3.toInt64)), .second, .val (.double (FP.l2d p4.toInt64)), .second, .val (.double (FP.l2d p5.toInt64)), .second, .val (.double (FP.l2d p6.toInt64)), .second, .val (.ref o35), .val (.ref o39), .val (.int r_43), .val (.ref o_44), .unset, .unset] [(.double (FP.l2d (own_max p4.toInt64 p6.toInt64)))]))
        refine g_dload X49 hx (hb hby at_118) 120 rfl (v := (FP.l2d p4.toInt64)) rfl ?_
        refine g_dcmp X49 hx (hb hby at_120) 121 rfl (lcmpW (own_max p4.toInt64 p6.toInt64) p4.toInt64) (dcmpV_w (own_bmax (own_b p4) (own_b p6)) (own_b p4) _) ?_
        refine g_if_ne X49 hx (hb hby at_121) 128 124 (by decide) (by decide) rfl (fun hc121 => ?_) (fun hc121 => ?_)
        · refine g_iconst X49 hx (hb hby at_128) 129 rfl (0 : Int32) rfl ?_
          refine g_istore X49 hx (hb hby at_129) 131 rfl #[.val (.int p1), .val (.int p2), .val (.int p3), .val (.int p4), .val (.int p5), .val (.int p6), .val (.double (FP.l2d p1.toInt64)), .second, .val (.double (FP.l2d p2.toInt64)), .second, .val (.double (FP.l2d p3.toInt64)), .second, .val (.double (FP.l2d p4.toInt64)), .second, .val (.double (FP.l2d p5.toInt64)), .second, .val (.double (FP.l2d p6.toInt64)), .second, .val (.ref o35), .val (.ref o39), .val (.int r_43), .val (.ref o_44), .val (.int (0 : Int32)), .unset] rfl ?_
          refine g_iloadN X49 hx (hb hby at_131) 132 rfl (v := p1) rfl ?_
          refine g_iload X49 hx (hb hby at_132) 134 rfl (v := p5) rfl ?_
          refine g_icmp_gt X49 hx (hb hby at_134) 159 137 (by decide) (by decide) rfl (fun hc134 => False.elim (own_mn0 hc88 (own_up hc134))) (fun hc134 => ?_)
          refine g_iload X49 hx (hb hby at_137) 139 rfl (v := p5) rfl ?_
          refine g_iloadN X49 hx (hb hby at_139) 140 rfl (v := p2) rfl ?_
          refine g_icmp_gt X49 hx (hb hby at_140) 159 143 (by decide) (by decide) rfl (fun hc140 => False.elim (own_mx0 hc99 (own_up hc140))) (fun hc140 => ?_)
          refine g_iloadN X49 hx (hb hby at_143) 144 rfl (v := p3) rfl ?_
          refine g_iload X49 hx (hb hby at_144) 146 rfl (v := p6) rfl ?_
          refine g_icmp_gt X49 hx (hb hby at_146) 159 149 (by decide) (by decide) rfl (fun hc146 => False.elim (own_mn0 hc110 (own_up hc146))) (fun hc146 => ?_)
          refine g_iload X49 hx (hb hby at_149) 151 rfl (v := p6) rfl ?_
          refine g_iloadN X49 hx (hb hby at_151) 152 rfl (v := p4) rfl ?_
          refine g_icmp_gt X49 hx (hb hby at_152) 159 155 (by decide) (by decide) rfl (fun hc152 => ?_) (fun hc152 => False.elim (hc152 (own_dn (own_mx1 hc121))))
          refine g_iconst X49 hx (hb hby at_159) 160 rfl (0 : Int32) rfl ?_
          refine g_istore X49 hx (hb hby at_160) 162 rfl #[.val (.int p1), .val (.int p2), .val (.int p3), .val (.int p4), .val (.int p5), .val (.int p6), .val (.double (FP.l2d p1.toInt64)), .second, .val (.double (FP.l2d p2.toInt64)), .second, .val (.double (FP.l2d p3.toInt64)), .second, .val (.double (FP.l2d p4.toInt64)), .second, .val (.double (FP.l2d p5.toInt64)), .second, .val (.double (FP.l2d p6.toInt64)), .second, .val (.ref o35), .val (.ref o39), .val (.int r_43), .val (.ref o_44), .val (.int (0 : Int32)), .val (.int (0 : Int32))] rfl ?_
          refine g_iload X49 hx (hb hby at_162) 164 rfl (v := r_43) rfl ?_
          refine g_iload X49 hx (hb hby at_164) 166 rfl (v := (0 : Int32)) rfl ?_
          refine g_icmp_ne X49 hx (hb hby at_166) 180 169 (by decide) (by decide) rfl (fun hc166 => False.elim (hc166 (p43_0.trans (if_pos (Or.inr (Or.inr (Or.inr (own_mx1 hc121)))))))) (fun hc166 => ?_)
          refine g_iload X49 hx (hb hby at_169) 171 rfl (v := r_43) rfl ?_
          refine g_iload X49 hx (hb hby at_171) 173 rfl (v := (0 : Int32)) rfl ?_
          refine g_icmp_ne X49 hx (hb hby at_173) 180 176 (by decide) (by decide) rfl (fun hc173 => False.elim (hc173 (p43_0.trans (if_pos (Or.inr (Or.inr (Or.inr (own_mx1 hc121)))))))) (fun hc173 => ?_)
          refine g_iconst X49 hx (hb hby at_176) 177 rfl (1 : Int32) rfl ?_
          refine g_goto X49 hx (hb hby at_177) 181 (by decide) (by decide) ?_
          refine Go.retN X49 hx hlk (t := .boolean) Bd.returns (by simp) (hb hby at_181) (by decide) (by decide) ?_
          exact ⟨rfl, N49⟩
        · refine g_iconst X49 hx (hb hby at_124) 125 rfl (1 : Int32) rfl ?_
          refine g_goto X49 hx (hb hby at_125) 129 (by decide) (by decide) ?_
          refine g_istore X49 hx (hb hby at_129) 131 rfl #[.val (.int p1), .val (.int p2), .val (.int p3), .val (.int p4), .val (.int p5), .val (.int p6), .val (.double (FP.l2d p1.toInt64)), .second, .val (.double (FP.l2d p2.toInt64)), .second, .val (.double (FP.l2d p3.toInt64)), .second, .val (.double (FP.l2d p4.toInt64)), .second, .val (.double (FP.l2d p5.toInt64)), .second, .val (.double (FP.l2d p6.toInt64)), .second, .val (.ref o35), .val (.ref o39), .val (.int r_43), .val (.ref o_44), .val (.int (1 : Int32)), .unset] rfl ?_
          refine g_iloadN X49 hx (hb hby at_131) 132 rfl (v := p1) rfl ?_
          refine g_iload X49 hx (hb hby at_132) 134 rfl (v := p5) rfl ?_
          refine g_icmp_gt X49 hx (hb hby at_134) 159 137 (by decide) (by decide) rfl (fun hc134 => False.elim (own_mn0 hc88 (own_up hc134))) (fun hc134 => ?_)
          refine g_iload X49 hx (hb hby at_137) 139 rfl (v := p5) rfl ?_
          refine g_iloadN X49 hx (hb hby at_139) 140 rfl (v := p2) rfl ?_
          refine g_icmp_gt X49 hx (hb hby at_140) 159 143 (by decide) (by decide) rfl (fun hc140 => False.elim (own_mx0 hc99 (own_up hc140))) (fun hc140 => ?_)
          refine g_iloadN X49 hx (hb hby at_143) 144 rfl (v := p3) rfl ?_
          refine g_iload X49 hx (hb hby at_144) 146 rfl (v := p6) rfl ?_
          refine g_icmp_gt X49 hx (hb hby at_146) 159 149 (by decide) (by decide) rfl (fun hc146 => False.elim (own_mn0 hc110 (own_up hc146))) (fun hc146 => ?_)
          refine g_iload X49 hx (hb hby at_149) 151 rfl (v := p6) rfl ?_
          refine g_iloadN X49 hx (hb hby at_151) 152 rfl (v := p4) rfl ?_
          refine g_icmp_gt X49 hx (hb hby at_152) 159 155 (by decide) (by decide) rfl (fun hc152 => False.elim (own_mx0 hc121 (own_up hc152))) (fun hc152 => ?_)
          refine g_iconst X49 hx (hb hby at_155) 156 rfl (1 : Int32) rfl ?_
          refine g_goto X49 hx (hb hby at_156) 160 (by decide) (by decide) ?_
          refine g_istore X49 hx (hb hby at_160) 162 rfl #[.val (.int p1), .val (.int p2), .val (.int p3), .val (.int p4), .val (.int p5), .val (.int p6), .val (.double (FP.l2d p1.toInt64)), .second, .val (.double (FP.l2d p2.toInt64)), .second, .val (.double (FP.l2d p3.toInt64)), .second, .val (.double (FP.l2d p4.toInt64)), .second, .val (.double (FP.l2d p5.toInt64)), .second, .val (.double (FP.l2d p6.toInt64)), .second, .val (.ref o35), .val (.ref o39), .val (.int r_43), .val (.ref o_44), .val (.int (1 : Int32)), .val (.int (1 : Int32))] rfl ?_
          refine g_iload X49 hx (hb hby at_162) 164 rfl (v := r_43) rfl ?_
          refine g_iload X49 hx (hb hby at_164) 166 rfl (v := (1 : Int32)) rfl ?_
          refine g_icmp_ne X49 hx (hb hby at_166) 180 169 (by decide) (by decide) rfl (fun hc166 => False.elim (hc166 (p43_0.trans (if_neg (fun z => z.elim (own_mn0 hc88) (fun z => z.elim (own_mx0 hc99) (fun z => z.elim (own_mn0 hc110) (own_mx0 hc121)))))))) (fun hc166 => ?_)
          refine g_iload X49 hx (hb hby at_169) 171 rfl (v := r_43) rfl ?_
          refine g_iload X49 hx (hb hby at_171) 173 rfl (v := (1 : Int32)) rfl ?_
          refine g_icmp_ne X49 hx (hb hby at_173) 180 176 (by decide) (by decide) rfl (fun hc173 => False.elim (hc173 (p43_0.trans (if_neg (fun z => z.elim (own_mn0 hc88) (fun z => z.elim (own_mx0 hc99) (fun z => z.elim (own_mn0 hc110) (own_mx0 hc121)))))))) (fun hc173 => ?_)
          refine g_iconst X49 hx (hb hby at_176) 177 rfl (1 : Int32) rfl ?_
          refine g_goto X49 hx (hb hby at_177) 181 (by decide) (by decide) ?_
          refine Go.retN X49 hx hlk (t := .boolean) Bd.returns (by simp) (hb hby at_181) (by decide) (by decide) ?_
          exact ⟨rfl, N49⟩
set_option maxRecDepth 65536 in
set_option maxHeartbeats 40000000 in
theorem comes_1 {Post : Tables → Env → Array Value → State → Outcome → State → Prop} (hpost : ∀ tb e args s v u, (limb_1_1.after args s (.returned v) u = true ∧ limb_1_2.after args s (.returned v) u = true ∧ True) → FrameEnd s (.returned v) u (Jvm.fieldLocs frame_1_writes args s ++ Jvm.arrayLocs frame_1_arrays args s ++ Jvm.staticLocs frame_1_statics s) 16 128 → Post tb e args s (.returned v) u) :
    ArmFor flags0 classFile x code maxLocals ret World_1 tables_1 room_1 Calls_1 rest_1 Pre_1 Post := by
  intro l hfl _ _ p e ha hc hk s m args below hf hA hF happ hP
  obtain ⟨hcalls, hrest, hpre⟩ := hP
  obtain ⟨-, -, -, hnamed, -, -, -, hat⟩ := (Spec.applies_iff hf).mp happ
  obtain ⟨hg, hn⟩ := and_e (Cond.before_iff.mp (show (Jvm.Cond.and given_1 narrow_1).before args s = true from hpre))
  obtain ⟨c0, r0⟩ := and_e hg
  obtain ⟨c1, r1⟩ := and_e r0
  obtain ⟨c2, r2⟩ := and_e r1
  obtain ⟨c3, r3⟩ := and_e r2
  obtain ⟨c4, r4⟩ := and_e r3
  obtain ⟨c5, r5⟩ := and_e r4
  obtain ⟨w0, w1, w2, w3, w4, w5, rfl⟩ : ∃ w0 w1 w2 w3 w4 w5 : Value, args = #[w0, w1, w2, w3, w4, w5] := by
    have hs : args.size = 6 := by simpa [Cond.value, given_1] using c0
    obtain ⟨L⟩ := args
    match L, hs with
    | [w0, w1, w2, w3, w4, w5], _ => exact ⟨w0, w1, w2, w3, w4, w5, rfl⟩
  have hw := fun d (hd : d ∈ tables_1) => atoms_spec (ws := Jvm.Cond.code x code maxLocals ret :: tables_1) hat d (List.mem_cons_of_mem _ hd)
  have hfit : Fit s := fun {y c} hc i hi => by
    obtain ⟨ha, rfl⟩ := Array.getElem?_eq_some_iff.mp hc
    have q := List.all_eq_true.mp ((Array.all_eq_true_iff_forall_mem.mp hF) _ (Array.getElem_mem ha)) i (List.mem_range.mpr hi)
    simpa [Array.getElem?_eq_getElem hi] using q
  obtain ⟨i0, ei0⟩ := is_v c1
  obtain rfl : w0 = (.int i0) := Option.some.inj ei0
  obtain ⟨i1, ei1⟩ := is_v c2
  obtain rfl : w1 = (.int i1) := Option.some.inj ei1
  obtain ⟨i2, ei2⟩ := is_v c3
  obtain rfl : w2 = (.int i2) := Option.some.inj ei2
  obtain ⟨i3, ei3⟩ := is_v c4
  obtain rfl : w3 = (.int i3) := Option.some.inj ei3
  obtain ⟨i4, ei4⟩ := is_v c5
  obtain rfl : w4 = (.int i4) := Option.some.inj ei4
  obtain ⟨i5, ei5⟩ := is_v r5
  obtain rfl : w5 = (.int i5) := Option.some.inj ei5
  obtain ⟨n, o, h1, h2, h3, _, L, rfl, ⟨rfl, N⟩, hq⟩ := rm0 l s _ hw tables_1 i0 i1 i2 i3 i4 i5 s.heap s.heap.size (Nat.le_refl _)  rfl p e ha hc hk s m _ below hf ((Spec.applies_iff_loose hf).mp happ).1 ⟨rfl, State.Warmed39.refl s, rfl⟩ trivial
  refine ⟨n, _, h1, h2, h3, hpost _ _ _ _ _ _ ⟨Cond.after_iff.mpr rfl, Cond.after_iff.mpr (eq_i res_at (Term.int_eval (1)) rfl), trivial⟩ ⟨hq.1, hq.2.1, (hq.2.2.sift fun y hy => Or.inr (N y hy)).mono (by decide) (by decide)⟩⟩
theorem main_1_1 : Claimed_1_1 := comes_1 fun _ _ _ _ _ _ h hF => ⟨h.1, hF⟩
theorem main_1_2 : Claimed_1_2 := comes_1 fun _ _ _ _ _ _ h hF => ⟨h.2.1, hF⟩
end Jvm.Pilot.@@N@@
namespace Jvm.Pilot.@@N@@
open Jvm Jvm.ClassFile Sem Op Lib Jvm.Free Jvm.Stand Jvm.Pilot.@@N@@.Jvm.D
/-! MADE BY PROGRAM (witnessworld.py) out of the Statement's table words and the real class files: 11 classes; the members and pool entries that the words name. The judged class is class 1, her method 1. -/
namespace start1
open Jvm.ClassFile
def u (s : String) : CpInfo := .utf8 (stringToUtf16 s)
/-- a pool by its gaps: so many unusable entries, then the entry; so many at the end -/
def gap : Nat → List CpInfo → List CpInfo
  | 0, r => r
  | n + 1, r => .unusable :: gap n r
def poolList (es : List (Nat × CpInfo)) (last : Nat) : List CpInfo := es.foldr (fun e r => gap e.1 (e.2 :: r)) (gap last [])
def pool (es : List (Nat × CpInfo)) (last : Nat) : Array CpInfo := ⟨poolList es last⟩
def fileOf (pool : Array CpInfo) (this : Nat) (attrs : Array Attribute := #[]) (ms : Array MethodInfo := #[]) (fl : Nat := 33) (sup : Nat := 0) (ifs : Array Nat := #[]) (fds : Array FieldInfo := #[]) : ClassFile where
  minorVersion := 0
  majorVersion := 65
  constantPool := pool
  accessFlags := fl
  thisClass := this
  superClass := sup
  interfaces := ifs
  fields := fds
  methods := ms
  attributes := attrs
def plain (name : String) (sup : Option ClassId) : Class where
  name := name
  kind := .ordinary
  loader := none
  accessFlags := 33
  super := sup
  interfaces := #[]
  cf := none
  fields := #[]
  methods := #[]
  instanceTypes := #[]
  staticTypes := #[]
  resolved := #[]
  callSites := []
  init := .initialized
  statics := none
  mirror := none

def pool0 : Array CpInfo := pool [(5, u "<init>"), (0, u "()V"), (1, .class_ 10), (1, u "java/lang/Object")] 113

def k0c0 : Code := { maxStack := 0, maxLocals := 1, code := object_method_1_code, exceptionTable := #[], attributes := #[] }
def k0m0 : Method := { name := "<init>", desc := "()V", sig := { parameters := [], returnType := none }, accessFlags := 1, code := some k0c0 }
/-- java/lang/Object -/
def k0 : Class := { plain "java/lang/Object" none with
  accessFlags := 33
  interfaces := #[]
  cf := some (fileOf pool0 8 #[] #[{ accessFlags := 1, nameIndex := 5, descriptorIndex := 6, attributes := #[] }] 33 0 #[] #[])
  fields := #[]
  methods := #[k0m0]
  instanceTypes := #[]
  staticTypes := #[]
  resolved := Array.replicate 124 none
  statics := none }

def pool1 : Array CpInfo := pool [(2, .class_ 4), (1, u "java/lang/Object"), (0, u "<init>"), (0, u "()V"), (0, .class_ 8), (0, u "com/example/peerpool/peerpool/core/Box"), (0, .methodref 7 10), (0, .nameAndType 5 11), (0, u "(DDDD)V"), (0, .methodref 7 13), (0, .nameAndType 14 15), (0, u "contains"), (0, u "(DD)Z"), (0, .methodref 7 17), (0, .nameAndType 18 19), (0, u "union"), (0, u "(Lcom/example/peerpool/peerpool/core/Box;)Lcom/example/peerpool/peerpool/core/Box;"), (0, .methodref 7 21), (0, .nameAndType 22 23), (0, u "minLat"), (0, u "()D"), (0, .methodref 7 25), (0, .nameAndType 26 23), (0, u "maxLat"), (0, .methodref 7 28), (0, .nameAndType 29 23), (0, u "minLon"), (0, .methodref 7 31), (0, .nameAndType 32 23), (0, u "maxLon"), (0, .class_ 34), (0, u "com/example/peerpool/peerpool/core/BoxContainsPinLaw"), (2, u "law"), (0, u "(IIIIII)Z")] 3

def k1m0 : Method := { name := "<init>", desc := "()V", sig := { parameters := [], returnType := none }, accessFlags := 1, code := none }
def k1c1 : Code := { maxStack := 10, maxLocals := 24, code := code, exceptionTable := #[], attributes := #[] }
def k1m1 : Method := { name := "law", desc := "(IIIIII)Z", sig := { parameters := [.int, .int, .int, .int, .int, .int], returnType := some .boolean }, accessFlags := 9, code := some k1c1 }
/-- com/example/peerpool/peerpool/core/BoxContainsPinLaw -/
def k1 : Class := { plain "com/example/peerpool/peerpool/core/BoxContainsPinLaw" (some 0) with
  accessFlags := 49
  interfaces := #[]
  cf := some (fileOf pool1 33 #[] #[{ accessFlags := 1, nameIndex := 5, descriptorIndex := 6, attributes := #[] }, { accessFlags := 9, nameIndex := 37, descriptorIndex := 38, attributes := #[] }] 49 2 #[] #[])
  fields := #[]
  methods := #[k1m0, k1m1]
  instanceTypes := #[]
  staticTypes := #[]
  resolved := Array.replicate 42 none
  statics := none }

def pool2 : Array CpInfo := pool [(1, .methodref 2 3), (0, .class_ 4), (0, .nameAndType 5 6), (0, u "java/lang/Object"), (0, u "<init>"), (0, u "()V"), (0, .class_ 8), (0, u "java/lang/Record")] 13

def k2c0 : Code := { maxStack := 1, maxLocals := 1, code := jdk_30_method_1_code, exceptionTable := #[], attributes := #[] }
def k2m0 : Method := { name := "<init>", desc := "()V", sig := { parameters := [], returnType := none }, accessFlags := 4, code := some k2c0 }
/-- java/lang/Record -/
def k2 : Class := { plain "java/lang/Record" (some 0) with
  accessFlags := 1057
  interfaces := #[]
  cf := some (fileOf pool2 7 #[] #[{ accessFlags := 4, nameIndex := 5, descriptorIndex := 6, attributes := #[] }] 1057 2 #[] #[])
  fields := #[]
  methods := #[k2m0]
  instanceTypes := #[]
  staticTypes := #[]
  resolved := Array.replicate 22 none
  statics := none }

def pool3 : Array CpInfo := pool [(1, .methodref 2 3), (0, .class_ 4), (0, .nameAndType 5 6), (0, u "java/lang/Record"), (0, u "<init>"), (0, u "()V"), (0, .fieldref 8 9), (0, .class_ 10), (0, .nameAndType 11 12), (0, u "com/example/peerpool/peerpool/core/Box"), (0, u "minLat"), (0, u "D"), (0, .fieldref 8 14), (0, .nameAndType 15 12), (0, u "maxLat"), (0, .fieldref 8 17), (0, .nameAndType 18 12), (0, u "minLon"), (0, .fieldref 8 20), (0, .nameAndType 21 12), (0, u "maxLon"), (0, .methodref 23 24), (0, .class_ 25), (0, .nameAndType 26 27), (0, u "java/lang/Math"), (0, u "min"), (0, u "(DD)D"), (0, .methodref 23 29), (0, .nameAndType 30 27), (0, u "max"), (0, .methodref 8 32), (0, .nameAndType 5 33), (0, u "(DDDD)V"), (49, u "union"), (0, u "(Lcom/example/peerpool/peerpool/core/Box;)Lcom/example/peerpool/peerpool/core/Box;"), (0, u "contains"), (0, u "(DD)Z"), (3, u "()D")] 23

def k3c0 : Code := { maxStack := 3, maxLocals := 9, code := prog_1_method_1_code, exceptionTable := #[], attributes := #[] }
def k3m0 : Method := { name := "<init>", desc := "(DDDD)V", sig := { parameters := [.double, .double, .double, .double], returnType := none }, accessFlags := 0, code := some k3c0 }
def k3c1 : Code := { maxStack := 12, maxLocals := 2, code := prog_1_method_3_code, exceptionTable := #[], attributes := #[] }
def k3m1 : Method := { name := "union", desc := "(Lcom/example/peerpool/peerpool/core/Box;)Lcom/example/peerpool/peerpool/core/Box;", sig := { parameters := [(.object "com/example/peerpool/peerpool/core/Box")], returnType := some (.object "com/example/peerpool/peerpool/core/Box") }, accessFlags := 0, code := some k3c1 }
def k3c2 : Code := { maxStack := 4, maxLocals := 5, code := prog_1_method_4_code, exceptionTable := #[], attributes := #[] }
def k3m2 : Method := { name := "contains", desc := "(DD)Z", sig := { parameters := [.double, .double], returnType := some .boolean }, accessFlags := 0, code := some k3c2 }
def k3c3 : Code := { maxStack := 2, maxLocals := 1, code := prog_1_method_11_code, exceptionTable := #[], attributes := #[] }
def k3m3 : Method := { name := "minLat", desc := "()D", sig := { parameters := [], returnType := some .double }, accessFlags := 1, code := some k3c3 }
def k3c4 : Code := { maxStack := 2, maxLocals := 1, code := prog_1_method_12_code, exceptionTable := #[], attributes := #[] }
def k3m4 : Method := { name := "maxLat", desc := "()D", sig := { parameters := [], returnType := some .double }, accessFlags := 1, code := some k3c4 }
def k3c5 : Code := { maxStack := 2, maxLocals := 1, code := prog_1_method_13_code, exceptionTable := #[], attributes := #[] }
def k3m5 : Method := { name := "minLon", desc := "()D", sig := { parameters := [], returnType := some .double }, accessFlags := 1, code := some k3c5 }
def k3c6 : Code := { maxStack := 2, maxLocals := 1, code := prog_1_method_14_code, exceptionTable := #[], attributes := #[] }
def k3m6 : Method := { name := "maxLon", desc := "()D", sig := { parameters := [], returnType := some .double }, accessFlags := 1, code := some k3c6 }
/-- com/example/peerpool/peerpool/core/Box -/
def k3 : Class := { plain "com/example/peerpool/peerpool/core/Box" (some 2) with
  accessFlags := 48
  interfaces := #[]
  cf := some (fileOf pool3 8 #[] #[{ accessFlags := 0, nameIndex := 5, descriptorIndex := 33, attributes := #[] }, { accessFlags := 0, nameIndex := 83, descriptorIndex := 84, attributes := #[] }, { accessFlags := 0, nameIndex := 85, descriptorIndex := 86, attributes := #[] }, { accessFlags := 1, nameIndex := 11, descriptorIndex := 90, attributes := #[] }, { accessFlags := 1, nameIndex := 15, descriptorIndex := 90, attributes := #[] }, { accessFlags := 1, nameIndex := 18, descriptorIndex := 90, attributes := #[] }, { accessFlags := 1, nameIndex := 21, descriptorIndex := 90, attributes := #[] }] 48 2 #[] #[{ accessFlags := 18, nameIndex := 11, descriptorIndex := 12, attributes := #[] }, { accessFlags := 18, nameIndex := 15, descriptorIndex := 12, attributes := #[] }, { accessFlags := 18, nameIndex := 18, descriptorIndex := 12, attributes := #[] }, { accessFlags := 18, nameIndex := 21, descriptorIndex := 12, attributes := #[] }])
  fields := #[{ name := "minLat", type := .double, accessFlags := 18, slot := 0, constantValue := 0 }, { name := "maxLat", type := .double, accessFlags := 18, slot := 1, constantValue := 0 }, { name := "minLon", type := .double, accessFlags := 18, slot := 2, constantValue := 0 }, { name := "maxLon", type := .double, accessFlags := 18, slot := 3, constantValue := 0 }]
  methods := #[k3m0, k3m1, k3m2, k3m3, k3m4, k3m5, k3m6]
  instanceTypes := #[.double, .double, .double, .double]
  staticTypes := #[]
  resolved := Array.replicate 114 none
  statics := none }

def pool4 : Array CpInfo := pool [(1, .class_ 2), (0, u "java/lang/Math"), (1, .class_ 6), (1, u "java/lang/Object"), (0, u "<init>"), (0, u "()V"), (43, u "(DD)D"), (45, .class_ 100), (1, u "java/lang/Math$RandomNumberGeneratorHolder"), (71, u "negativeZeroFloatBits"), (0, u "J"), (2, u "negativeZeroDoubleBits"), (21, u "max"), (2, u "min"), (43, u "$assertionsDisabled"), (0, u "Z"), (91, u "twoToTheDoubleScaleDown"), (0, u "D"), (4, u "twoToTheDoubleScaleUp"), (9, u "E"), (3, u "PI"), (2, u "TAU"), (2, u "DEGREES_TO_RADIANS"), (0, u "RADIANS_TO_DEGREES")] 94

def k4m0 : Method := { name := "<init>", desc := "()V", sig := { parameters := [], returnType := none }, accessFlags := 2, code := none }
def k4c1 : Code := { maxStack := 4, maxLocals := 4, code := jdk_29_method_68_code, exceptionTable := #[], attributes := #[] }
def k4m1 : Method := { name := "max", desc := "(DD)D", sig := { parameters := [.double, .double], returnType := some .double }, accessFlags := 9, code := some k4c1 }
def k4c2 : Code := { maxStack := 4, maxLocals := 4, code := jdk_29_method_72_code, exceptionTable := #[], attributes := #[] }
def k4m2 : Method := { name := "min", desc := "(DD)D", sig := { parameters := [.double, .double], returnType := some .double }, accessFlags := 9, code := some k4c2 }
/-- java/lang/Math -/
def k4 : Class := { plain "java/lang/Math" (some 0) with
  accessFlags := 49
  interfaces := #[]
  cf := some (fileOf pool4 1 #[.nestMembers #[98]] #[{ accessFlags := 2, nameIndex := 7, descriptorIndex := 8, attributes := #[] }, { accessFlags := 9, nameIndex := 198, descriptorIndex := 52, attributes := #[] }, { accessFlags := 9, nameIndex := 201, descriptorIndex := 52, attributes := #[] }] 49 4 #[] #[{ accessFlags := 25, nameIndex := 354, descriptorIndex := 339, attributes := #[] }, { accessFlags := 25, nameIndex := 358, descriptorIndex := 339, attributes := #[] }, { accessFlags := 25, nameIndex := 361, descriptorIndex := 339, attributes := #[] }, { accessFlags := 26, nameIndex := 364, descriptorIndex := 339, attributes := #[] }, { accessFlags := 26, nameIndex := 365, descriptorIndex := 339, attributes := #[] }, { accessFlags := 26, nameIndex := 172, descriptorIndex := 173, attributes := #[] }, { accessFlags := 26, nameIndex := 176, descriptorIndex := 173, attributes := #[] }, { accessFlags := 8, nameIndex := 344, descriptorIndex := 339, attributes := #[] }, { accessFlags := 8, nameIndex := 338, descriptorIndex := 339, attributes := #[] }, { accessFlags := 4120, nameIndex := 245, descriptorIndex := 246, attributes := #[] }])
  fields := #[{ name := "E", type := .double, accessFlags := 25, slot := 0, constantValue := 0 }, { name := "PI", type := .double, accessFlags := 25, slot := 1, constantValue := 0 }, { name := "TAU", type := .double, accessFlags := 25, slot := 2, constantValue := 0 }, { name := "DEGREES_TO_RADIANS", type := .double, accessFlags := 26, slot := 3, constantValue := 0 }, { name := "RADIANS_TO_DEGREES", type := .double, accessFlags := 26, slot := 4, constantValue := 0 }, { name := "negativeZeroFloatBits", type := .long, accessFlags := 26, slot := 5, constantValue := 0 }, { name := "negativeZeroDoubleBits", type := .long, accessFlags := 26, slot := 6, constantValue := 0 }, { name := "twoToTheDoubleScaleUp", type := .double, accessFlags := 8, slot := 7, constantValue := 0 }, { name := "twoToTheDoubleScaleDown", type := .double, accessFlags := 8, slot := 8, constantValue := 0 }, { name := "$assertionsDisabled", type := .boolean, accessFlags := 4120, slot := 9, constantValue := 0 }]
  methods := #[k4m0, k4m1, k4m2]
  instanceTypes := #[]
  staticTypes := #[.double, .double, .double, .double, .double, .long, .long, .double, .double, .boolean]
  resolved := Array.replicate 460 none
  statics := none }

def pool5 : Array CpInfo := pool [(1, u "java/lang/Cloneable"), (0, .class_ 1), (0, u "java/lang/Object"), (0, .class_ 3)] 3

/-- java/lang/Cloneable -/
def k5 : Class := { plain "java/lang/Cloneable" (some 0) with
  accessFlags := 1537
  interfaces := #[]
  cf := some (fileOf pool5 2 #[] #[] 1537 4 #[] #[])
  fields := #[]
  methods := #[]
  instanceTypes := #[]
  staticTypes := #[]
  resolved := Array.replicate 8 none
  statics := none }

def pool6 : Array CpInfo := pool [(1, u "java/io/Serializable"), (0, .class_ 1), (0, u "java/lang/Object"), (0, .class_ 3)] 3

/-- java/io/Serializable -/
def k6 : Class := { plain "java/io/Serializable" (some 0) with
  accessFlags := 1537
  interfaces := #[]
  cf := some (fileOf pool6 2 #[] #[] 1537 4 #[] #[])
  fields := #[]
  methods := #[]
  instanceTypes := #[]
  staticTypes := #[]
  resolved := Array.replicate 8 none
  statics := none }

/-- the primitive byte -/
def k7 : Class := { plain "byte" none with kind := .primitive 'B', accessFlags := 0x411 }
/-- [B -/
def k8 : Class := { plain "[B" (some 0) with kind := .array 7 .byte, interfaces := #[5, 6], accessFlags := 1041 }

/-- the primitive int -/
def k9 : Class := { plain "int" none with kind := .primitive 'I', accessFlags := 0x411 }
/-- [I -/
def k10 : Class := { plain "[I" (some 0) with kind := .array 9 .int, interfaces := #[5, 6], accessFlags := 1041 }

def heap : Heap := #[]
def classes : Array Class := #[k0, k1, k2, k3, k4, k5, k6, k7, k8, k9, k10]
def interned : List (Array UInt16 × Addr) := []
def slotsUsed : Nat := 0
def theMethod : MethodId := ⟨1, 1⟩
def args0 : Array Value := #[.int 1, .int 2, .int 3, .int 4, .int 5, .int 6]
def aboutOver (below : List Frame) : State where
  vm := { classes := classes, interned := interned.toArray }
  heap := heap
  slotsUsed := slotsUsed
  threads := #[{ frames := .invoking theMethod args0 :: below }]
def below0 : List Frame := [.native { method := ⟨0, 0⟩, args := #[] }]
def about1 : State := aboutOver below0
def p0 : Program := .bare "" "" ""
def e0 : Env := launch0.env 0 0 0
theorem w_frames : about1.frames = Frame.invoking theMethod args0 :: below0 := rfl
set_option maxRecDepth 65536 in
theorem w_args : argsFit about1.vm theMethod args0 = true := by decide +kernel
set_option maxRecDepth 65536 in
theorem w_heap : heapFits about1 = true := by decide +kernel
set_option maxRecDepth 65536 in
theorem w_runnable : about1.curStatus? = some .runnable := by decide +kernel
set_option maxRecDepth 65536 in
theorem w_alone : about1.alone = true := by decide +kernel
set_option maxRecDepth 65536 in
theorem w_named : about1.methodNamed? x = some theMethod := by decide +kernel
set_option maxRecDepth 65536 in
theorem w_hears : about1.hears theMethod below0 = true := by decide +kernel
set_option maxRecDepth 65536 in
theorem w_ripe : about1.ripe theMethod args0 below0 = true := by decide +kernel
theorem w_running : about1.status = .running := rfl
set_option maxRecDepth 65536 in
theorem w_room : about1.hasRoom e0.platform room_1 = true :=
  launch0.hasRoom_least _ room_1 (by decide +kernel) (by decide +kernel) (by decide +kernel) (by decide +kernel) (by decide +kernel) (by decide +kernel)
theorem allAtoms_all (ts : List Jvm.Cond) (a : Array Jvm.Value) (st : Jvm.State) : (allAtoms ts).before a st = ts.all (fun c => c.before a st) := by
  induction ts with
  | nil => rfl
  | cons c t ih =>
    show (Jvm.Cond.and c (allAtoms t)).before a st = _
    rw [Jvm.Cond.before_and, ih, List.all_cons]
def words1 : List Jvm.Cond := Jvm.Cond.code x code maxLocals ret :: tables_1
/-- a 'code' word, met by the world's own term for the bytes: nothing is compared byte by byte -/
theorem code_word {y : MethodName} {bytes : ByteArray} {mx : Nat} {rt : Option FieldType} {a : Array Value} {s : State} {m : MethodId} {meth : Method} {c : Code} (h1 : s.methodNamed? y = some m) (h2 : s.vm.method? m = some meth) (h3 : meth.code = some c) (h4 : c.code = bytes)
    (h5 : (c.maxLocals == mx && c.exceptionTable.isEmpty && decide (c.maxStack ≤ mostOperands) && decide (meth.sig.returnType = rt) && !meth.locks && decide (parseMethodDescriptor y.desc = some meth.sig)) = true) : (Jvm.Cond.code y bytes mx rt).before a s = true := by
  simp only [Bool.and_eq_true, beq_iff_eq, Bool.not_eq_true', decide_eq_true_eq] at h5
  obtain ⟨⟨⟨⟨⟨g1, g2⟩, g3⟩, g4⟩, g5⟩, g6⟩ := h5
  simp [Cond.before, Cond.holds, Cond.value, h1, h2, h3, h4, g1, g2, g3, g4, g5, g6]
def isCode : Jvm.Cond → Bool
  | .code _ _ _ _ => true
  | _ => false
theorem all_split {L : List Jvm.Cond} {P : Jvm.Cond → Bool} (h1 : L.all (fun c => isCode c || P c) = true) (h2 : ∀ c ∈ L.filter isCode, P c = true) : L.all P = true := by
  refine List.all_eq_true.mpr fun c hc => ?_
  have h := List.all_eq_true.mp h1 c hc
  rcases Bool.eq_false_or_eq_true (isCode c) with hi | hi
  · exact h2 c (List.mem_filter.mpr ⟨hc, hi⟩)
  · simpa [hi] using h
set_option maxRecDepth 65536 in
theorem w_c0 : (Jvm.Cond.code x code maxLocals ret).before args0 about1 = true := code_word (m := ⟨1, 1⟩) (meth := k1m1) (c := k1c1) (by decide +kernel) rfl rfl rfl (by decide +kernel)
set_option maxRecDepth 65536 in
theorem w_c1 : (Jvm.Cond.code ({ cls := "com/example/peerpool/peerpool/core/Box", name := "<init>", desc := "(DDDD)V" } : Jvm.MethodName) prog_1_method_1_code (9 : Nat) (Option.none : Option Jvm.ClassFile.FieldType)).before args0 about1 = true := code_word (m := ⟨3, 0⟩) (meth := k3m0) (c := k3c0) (by decide +kernel) rfl rfl rfl (by decide +kernel)
set_option maxRecDepth 65536 in
theorem w_c2 : (Jvm.Cond.code ({ cls := "java/lang/Record", name := "<init>", desc := "()V" } : Jvm.MethodName) jdk_30_method_1_code (1 : Nat) (Option.none : Option Jvm.ClassFile.FieldType)).before args0 about1 = true := code_word (m := ⟨2, 0⟩) (meth := k2m0) (c := k2c0) (by decide +kernel) rfl rfl rfl (by decide +kernel)
set_option maxRecDepth 65536 in
theorem w_c3 : (Jvm.Cond.code ({ cls := "java/lang/Object", name := "<init>", desc := "()V" } : Jvm.MethodName) object_method_1_code (1 : Nat) (Option.none : Option Jvm.ClassFile.FieldType)).before args0 about1 = true := code_word (m := ⟨0, 0⟩) (meth := k0m0) (c := k0c0) (by decide +kernel) rfl rfl rfl (by decide +kernel)
set_option maxRecDepth 65536 in
theorem w_c4 : (Jvm.Cond.code ({ cls := "com/example/peerpool/peerpool/core/Box", name := "contains", desc := "(DD)Z" } : Jvm.MethodName) prog_1_method_4_code (5 : Nat) (Option.some Jvm.ClassFile.FieldType.boolean)).before args0 about1 = true := code_word (m := ⟨3, 2⟩) (meth := k3m2) (c := k3c2) (by decide +kernel) rfl rfl rfl (by decide +kernel)
set_option maxRecDepth 65536 in
theorem w_c5 : (Jvm.Cond.code ({ cls := "com/example/peerpool/peerpool/core/Box", name := "union", desc := "(Lcom/example/peerpool/peerpool/core/Box;)Lcom/example/peerpool/peerpool/core/Box;" } : Jvm.MethodName) prog_1_method_3_code (2 : Nat) (Option.some (Jvm.ClassFile.FieldType.object "com/example/peerpool/peerpool/core/Box"))).before args0 about1 = true := code_word (m := ⟨3, 1⟩) (meth := k3m1) (c := k3c1) (by decide +kernel) rfl rfl rfl (by decide +kernel)
set_option maxRecDepth 65536 in
theorem w_c6 : (Jvm.Cond.code ({ cls := "java/lang/Math", name := "min", desc := "(DD)D" } : Jvm.MethodName) jdk_29_method_72_code (4 : Nat) (Option.some Jvm.ClassFile.FieldType.double)).before args0 about1 = true := code_word (m := ⟨4, 2⟩) (meth := k4m2) (c := k4c2) (by decide +kernel) rfl rfl rfl (by decide +kernel)
set_option maxRecDepth 65536 in
theorem w_c7 : (Jvm.Cond.code ({ cls := "java/lang/Math", name := "max", desc := "(DD)D" } : Jvm.MethodName) jdk_29_method_68_code (4 : Nat) (Option.some Jvm.ClassFile.FieldType.double)).before args0 about1 = true := code_word (m := ⟨4, 1⟩) (meth := k4m1) (c := k4c1) (by decide +kernel) rfl rfl rfl (by decide +kernel)
set_option maxRecDepth 65536 in
theorem w_c8 : (Jvm.Cond.code ({ cls := "com/example/peerpool/peerpool/core/Box", name := "minLat", desc := "()D" } : Jvm.MethodName) prog_1_method_11_code (1 : Nat) (Option.some Jvm.ClassFile.FieldType.double)).before args0 about1 = true := code_word (m := ⟨3, 3⟩) (meth := k3m3) (c := k3c3) (by decide +kernel) rfl rfl rfl (by decide +kernel)
set_option maxRecDepth 65536 in
theorem w_c9 : (Jvm.Cond.code ({ cls := "com/example/peerpool/peerpool/core/Box", name := "maxLat", desc := "()D" } : Jvm.MethodName) prog_1_method_12_code (1 : Nat) (Option.some Jvm.ClassFile.FieldType.double)).before args0 about1 = true := code_word (m := ⟨3, 4⟩) (meth := k3m4) (c := k3c4) (by decide +kernel) rfl rfl rfl (by decide +kernel)
set_option maxRecDepth 65536 in
theorem w_c10 : (Jvm.Cond.code ({ cls := "com/example/peerpool/peerpool/core/Box", name := "minLon", desc := "()D" } : Jvm.MethodName) prog_1_method_13_code (1 : Nat) (Option.some Jvm.ClassFile.FieldType.double)).before args0 about1 = true := code_word (m := ⟨3, 5⟩) (meth := k3m5) (c := k3c5) (by decide +kernel) rfl rfl rfl (by decide +kernel)
set_option maxRecDepth 65536 in
theorem w_c11 : (Jvm.Cond.code ({ cls := "com/example/peerpool/peerpool/core/Box", name := "maxLon", desc := "()D" } : Jvm.MethodName) prog_1_method_14_code (1 : Nat) (Option.some Jvm.ClassFile.FieldType.double)).before args0 about1 = true := code_word (m := ⟨3, 6⟩) (meth := k3m6) (c := k3c6) (by decide +kernel) rfl rfl rfl (by decide +kernel)
def codes1 : List Jvm.Cond := [Jvm.Cond.code x code maxLocals ret, Jvm.Cond.code ({ cls := "com/example/peerpool/peerpool/core/Box", name := "<init>", desc := "(DDDD)V" } : Jvm.MethodName) prog_1_method_1_code (9 : Nat) (Option.none : Option Jvm.ClassFile.FieldType), Jvm.Cond.code ({ cls := "java/lang/Record", name := "<init>", desc := "()V" } : Jvm.MethodName) jdk_30_method_1_code (1 : Nat) (Option.none : Option Jvm.ClassFile.FieldType), Jvm.Cond.code ({ cls := "java/lang/Object", name := "<init>", desc := "()V" } : Jvm.MethodName) object_method_1_code (1 : Nat) (Option.none : Option Jvm.ClassFile.FieldType), Jvm.Cond.code ({ cls := "com/example/peerpool/peerpool/core/Box", name := "contains", desc := "(DD)Z" } : Jvm.MethodName) prog_1_method_4_code (5 : Nat) (Option.some Jvm.ClassFile.FieldType.boolean), Jvm.Cond.code ({ cls := "com/example/peerpool/peerpool/core/Box", name := "union", desc := "(Lcom/example/peerpool/peerpool/core/Box;)Lcom/example/peerpool/peerpool/core/Box;" } : Jvm.MethodName) prog_1_method_3_code (2 : Nat) (Option.some (Jvm.ClassFile.FieldType.object "com/example/peerpool/peerpool/core/Box")), Jvm.Cond.code ({ cls := "java/lang/Math", name := "min", desc := "(DD)D" } : Jvm.MethodName) jdk_29_method_72_code (4 : Nat) (Option.some Jvm.ClassFile.FieldType.double), Jvm.Cond.code ({ cls := "java/lang/Math", name := "max", desc := "(DD)D" } : Jvm.MethodName) jdk_29_method_68_code (4 : Nat) (Option.some Jvm.ClassFile.FieldType.double), Jvm.Cond.code ({ cls := "com/example/peerpool/peerpool/core/Box", name := "minLat", desc := "()D" } : Jvm.MethodName) prog_1_method_11_code (1 : Nat) (Option.some Jvm.ClassFile.FieldType.double), Jvm.Cond.code ({ cls := "com/example/peerpool/peerpool/core/Box", name := "maxLat", desc := "()D" } : Jvm.MethodName) prog_1_method_12_code (1 : Nat) (Option.some Jvm.ClassFile.FieldType.double), Jvm.Cond.code ({ cls := "com/example/peerpool/peerpool/core/Box", name := "minLon", desc := "()D" } : Jvm.MethodName) prog_1_method_13_code (1 : Nat) (Option.some Jvm.ClassFile.FieldType.double), Jvm.Cond.code ({ cls := "com/example/peerpool/peerpool/core/Box", name := "maxLon", desc := "()D" } : Jvm.MethodName) prog_1_method_14_code (1 : Nat) (Option.some Jvm.ClassFile.FieldType.double)]
set_option maxRecDepth 65536 in
theorem codes_eq : words1.filter isCode = codes1 := rfl
theorem w_codes : ∀ c ∈ words1.filter isCode, c.before args0 about1 = true := by
  rw [codes_eq]
  intro c hc
  simp only [codes1, List.mem_cons, List.not_mem_nil, or_false] at hc
  rcases hc with rfl | rfl | rfl | rfl | rfl | rfl | rfl | rfl | rfl | rfl | rfl | rfl
  · exact w_c0
  · exact w_c1
  · exact w_c2
  · exact w_c3
  · exact w_c4
  · exact w_c5
  · exact w_c6
  · exact w_c7
  · exact w_c8
  · exact w_c9
  · exact w_c10
  · exact w_c11
set_option maxRecDepth 65536 in
theorem w_t1 : (words1.take 24).all (fun c => isCode c || c.before args0 about1) = true := by decide +kernel
set_option maxRecDepth 65536 in
theorem w_t2 : ((words1.drop 24).take 24).all (fun c => isCode c || c.before args0 about1) = true := by decide +kernel
set_option maxRecDepth 65536 in
theorem w_t3 : ((words1.drop 24).drop 24).all (fun c => isCode c || c.before args0 about1) = true := by decide +kernel
theorem w_tables : (allAtoms (Jvm.Cond.code x code maxLocals ret :: tables_1)).before args0 about1 = true := by
  rw [allAtoms_all]
  show words1.all (fun c => c.before args0 about1) = true
  refine all_split ?_ w_codes
  rw [← List.take_append_drop 24 words1, List.all_append, w_t1, ← List.take_append_drop 24 (words1.drop 24), List.all_append, w_t2, w_t3]
  rfl
set_option maxRecDepth 65536 in
theorem w_case : (Jvm.Cond.and given_1 narrow_1).before args0 about1 = true := by decide +kernel
theorem w_applies : (headSpec (Jvm.Cond.code x code maxLocals ret :: tables_1) room_1).applies x e0.platform about1 = true :=
  (Spec.applies_iff w_frames).mpr ⟨w_running, w_runnable, w_alone, w_named, w_hears, w_ripe, w_room, w_tables⟩
theorem atStart : AtStart classFile x code maxLocals ret World_1 tables_1 room_1 Calls_1 rest_1 Pre_1 launch0 p0 e0 about1 theMethod args0 below0 :=
  ⟨lists_1, trivial, launch0.admits_env _ _ _, launch0.least_env, fairChoices_fair.cas, fairChoices_fair.clock, w_frames, w_args, w_heap, w_applies, trivial, trivial, w_case⟩
end start1
theorem witness_1 : WitnessClaimed_1 := ⟨start1.p0, start1.e0, start1.about1, start1.theMethod, start1.args0, start1.below0, start1.atStart⟩
end Jvm.Pilot.@@N@@
